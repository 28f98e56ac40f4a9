import JvmDerived
import JvmDerived.Pilot.@@N@@Statement
import JvmDerived.Pilot.@@N@@Code
set_option linter.unusedVariables false
set_option linter.unusedSimpArgs false
set_option maxRecDepth 65536
set_option maxHeartbeats 40000000
namespace Jvm.Pilot.@@N@@
open Jvm Jvm.ClassFile Sem Op Lib Jvm.Free Jvm.Stand Jvm.LawKit Jvm.RoadKit Bundle Jvm.Pilot.@@N@@.Jvm.D
section OwnKit
variable {p : Program} {l : Launch} {e : Env} {R : Room} {s : State} {m : MethodId} {args : Array Value} {below : List Frame} {meth : Method} {c : Code} {T : State} {locs : List Loc} {cells slots : Nat}
abbrev vI (x : Int32) : Slot := .val (.int x)
abbrev vR (x : Addr) : Slot := .val (.ref x)
abbrev vN : Slot := .val .null
abbrev uS : Slot := .unset
def own_Goes (p : Program) (e : Env) (below : List Frame) (U : State) (Q : Outcome → State → Prop) : Prop := ∃ (t : State) (o : Outcome), Steps p.tables e below U t ∧ t.status = .running ∧ Ended t below o ∧ Q o t
theorem gg {U U' : State} {Q : Outcome → State → Prop} (k : ∀ t, Steps p.tables e below U' t → Steps p.tables e below U t) (h : own_Goes p e below U' Q) : own_Goes p e below U Q := by
  obtain ⟨t, o, h1, h2⟩ := h
  exact ⟨t, o, k t h1, h2⟩
theorem own_goS {U U' : State} {Q : Outcome → State → Prop} (k : Steps p.tables e below U U') (h : own_Goes p e below U' Q) : own_Goes p e below U Q := gg (fun t h => k.trans h) h
theorem own_cast {g g' : JFrame} {Q : Outcome → State → Prop} (q : g = g') (h : own_Goes p e below (T.setTop g') Q) : own_Goes p e below (T.setTop g) Q := q ▸ h
def own_PostN (s : State) (Qc : Option Value → Heap → List Loc → Prop) (k n : Nat) : Outcome → State → Prop := fun o t => ∃ v L, o = .returned v ∧ Qc v t.heap L ∧ FrameEnd s o t L k n
def own_PostW (s : State) (Qc : Option Value → Heap → List Loc → Prop) (k n : Nat) : Outcome → State → Prop := fun o t => ∃ v L, o = .returned v ∧ Qc v t.heap L ∧ ReturnedEndW s o t L k n
theorem own_endN (X : Stand p l e R s m args below meth c T locs cells slots) {v : Option Value} (hv : meth.sig.returnType = none → v = none) (hlocks : meth.locks = false) {Qc : Option Value → Heap → List Loc → Prop} {k n : Nat} (hk : cells ≤ k) (hn : slots ≤ n) (hQ : Qc v T.heap locs) {U : State}
    (st : ∀ fs, (∀ (f : JFrame) (acts : List Action), f.method = m → f.locked = none → f.entered = [] → (doReturn e (T.setTop f) acts v).1 = T.setFrames fs) → Steps p.tables e below U (T.setFrames fs)) : own_Goes p e below U (own_PostN s Qc k n) := by
  obtain ⟨fs, hr, hrun, hended, hW, hsame⟩ := X.leave hv hlocks
  exact ⟨_, _, st fs hr, hrun, hended, _, _, rfl, hQ, ⟨_, rfl⟩, hW, hsame.mono hk hn⟩
theorem own_endW {vm0 : Vm} (X : Stand p l e R (s.setVm vm0) m args below meth c T locs cells slots) {q : Nat} (hS : s.Since vm0 q) (hq : q ≤ T.heap.size) {v : Option Value} (hv : meth.sig.returnType = none → v = none) (hlocks : meth.locks = false) {Qc : Option Value → Heap → List Loc → Prop} {k n : Nat} (hk : cells ≤ k) (hn : slots ≤ n) (hQ : Qc v T.heap locs) {U : State}
    (st : ∀ fs, (∀ (f : JFrame) (acts : List Action), f.method = m → f.locked = none → f.entered = [] → (doReturn e (T.setTop f) acts v).1 = T.setFrames fs) → Steps p.tables e below U (T.setFrames fs)) : own_Goes p e below U (own_PostW s Qc k n) := by
  obtain ⟨fs, hr, hrun, hended, h1, h2, h3, h4⟩ := X.leaveW hS hq hv hlocks
  exact ⟨_, _, st fs hr, hrun, hended, _, _, rfl, hQ, h1, h2, h3, h4.mono hk hn⟩
def own_PostH (Z : State) (EL : List (String × Nat)) (s : State) (Qc : Option Value → Heap → List Loc → Prop) (k n : Nat) : Outcome → State → Prop := fun o t => ∃ v L, o = .returned v ∧ Qc v t.heap L ∧ CHr Z EL s.vm s.heap t.vm t.heap ∧ ReturnedEndW s o t L k n
theorem own_endH {Z : State} {a0 : Array Value} {EL : List (String × Nat)} {h0 h : Heap} {vm0 : Vm} (X : Stand p l e R (s.setVm vm0) m args below meth c T locs cells slots) {q : Nat} (hS : s.Since vm0 q) (hq : q ≤ T.heap.size) (eT : T.heap = h) (hh : s.heap = h0) (CR : CHr Z EL s.vm h0 vm0 h) (hZ : Z.Warmed39 vm0) (w : EW Z a0 EL) {v : Option Value} (hv : meth.sig.returnType = none → v = none) (hlocks : meth.locks = false) {Qc : Option Value → Heap → List Loc → Prop} {k n : Nat} (hk : cells ≤ k) (hn : slots ≤ n) (hQ : Qc v T.heap locs) {U : State}
    (st : ∀ fs, (∀ (f : JFrame) (acts : List Action), f.method = m → f.locked = none → f.entered = [] → (doReturn e (T.setTop f) acts v).1 = T.setFrames fs) → Steps p.tables e below U (T.setFrames fs)) : own_Goes p e below U (own_PostH Z EL s Qc k n) := by
  obtain ⟨fs, hr, hrun, hended, h1, h2, h3, h4⟩ := X.leaveW hS hq hv hlocks
  subst eT hh
  exact ⟨_, _, st fs hr, hrun, hended, _, _, rfl, hQ, (CHr.trans CR (CHv.at X hZ w CR.1) : CHr Z EL s.vm s.heap T.vm T.heap), h1, h2, h3, h4.mono hk hn⟩
theorem own_neor {x a b : Nat} (h : x ≠ a ∧ x ≠ b) : (x < a ∨ a < x) ∧ (x < b ∨ b < x) := ⟨Nat.lt_or_gt_of_ne h.1, Nat.lt_or_gt_of_ne h.2⟩
theorem own_safeNull {Z : State} {EL : List (String × Nat)} {vm : Vm} {h : Heap} {x : Addr} (hal : Z.vm.Alike vm) (E : Exa Z h x "java/lang/String") (F : Fld Z h x "java/lang/String" "value" "[B" .null) : Safe Z EL vm h x := fun B => by
  obtain ⟨pp, -, u, a, -, q, -, FF, rfl | rfl⟩ := B
  · have ha := FF.ha
    obtain ⟨cS, ⟨⟨-, -, -, ⟨c1, k1, i1, f1, -⟩, -, -, -, v1, -⟩, -⟩, -⟩ := FF
    obtain ⟨cell, cf, k, i, f, h1, h2, -, -, -, -, h7⟩ := F
    cases (show h[q.sa]? = some q.sC from ha).symm.trans h1
    obtain ⟨k3, e3, -⟩ := State.fieldFound?_setVm (s := Z) hal h2
    have e4 := (show (Wst Z vm h).fieldFound? "java/lang/String" "value" "[B" = _ from e3).symm.trans f1
    simp only [Option.some.injEq, Prod.mk.injEq] at e4
    rw [← e4.2.2.2, h7] at v1
    cases v1
  · have hd := FF.hd
    obtain ⟨cS, ⟨⟨-, -, -, -, -, -, -, -, -, -, ⟨-, kB, hkB, compB, hkindB⟩, -⟩, -, -⟩, ⟨kS, g1, g2, -⟩, hB, -⟩ := FF
    obtain ⟨cell, k, e1, e2, e3, -, -⟩ := E
    cases (show h[q.sd]? = some q.SA from hd).symm.trans e1
    have e2' : vm.findClass "java/lang/String" = some q.SA.cls := by rw [hal.findClass]; exact e2
    obtain ⟨ka, qa, na⟩ := Vm.findClass_spec e2'
    obtain ⟨kb, qb, nb⟩ := Vm.findClass_spec (show vm.findClass "[B" = some q.SA.cls from hB)
    cases qa.symm.trans qb
    exact absurd (na.symm.trans nb) (by decide)
theorem own_mvM {Z s : State} {a0 args : Array Value} {own host : String} {y : MethodName} {index : Nat} (hZ : Z.Warmed39 s.vm) (w : (Cond.methodLinkNest own index y host).before a0 Z = true) : (Cond.methodLinkNest own index y host).before args s = true := (Cond.methodLinkNest_wide hZ w :)
theorem own_nf {args : Array Value} {s : State} {C : String} {w z y : MethodName} (hsel : (Cond.selects C w z).before args s = true) (hc : z.cls = y.cls) : NotFace s y := fun r0 h0 => by
  obtain ⟨c2, r2, m2, q1, q2, q3, q4, kP, hkP, hkPi⟩ := Cond.selects_spec hsel
  have e1 := findClass_of_methodNamed h0
  have e2 := findClass_of_methodNamed q3
  rw [hc, e1] at e2
  have e3 := Option.some.inj e2
  exact ⟨kP, by rw [e3]; exact hkP, hkPi⟩
theorem own_ne {a b : Nat} (h : a < b ∨ b < a) : a ≠ b := by omega
theorem own_NSroot {Z : State} {a0 : Array Value} {O K : String} {n : Nat} (w : (Cond.noSuperclass O).before a0 Z = true) (wk : (Cond.instantiable K n).before a0 Z = true) (hn : O ≠ K) : NS Z O K := by
  obtain ⟨c, k, h1, h2, h3, -, -⟩ := Cond.noSuperclass_spec w
  obtain ⟨t, kt, g1, -⟩ := Cond.instantiable_spec wk
  have ne := ids_ne h1 g1 hn
  refine ⟨c, t, h1, g1, fun fuel => ?_⟩
  cases fuel with
  | zero => rfl
  | succ f => simp [Vm.isSubclassAux, ne, h2, h3]
theorem own_NSno {Z : State} {a0 : Array Value} {C S K : String} {m : Nat} (w : (Cond.superclass C S).before a0 Z = true) (wk : (Cond.instantiable K m).before a0 Z = true) (n : NS Z C K) (hn : C ≠ K) : ∃ c t, Z.vm.findClass C = some c ∧ Z.vm.findClass K = some t ∧ Z.vm.assignable c t = false := by
  obtain ⟨c, t, h0, g0, n3⟩ := n
  obtain ⟨p, k, kp, h1, h2, h3, h4, h5, -, h7⟩ := Cond.superclass_spec h0 w
  obtain ⟨t', k', g1, g2, g5, g7, -⟩ := Cond.instantiable_spec wk
  cases g0.symm.trans g1
  have g8 : k'.isInterface = false := (Bool.or_eq_false_iff.mp g7).1
  have ne := ids_ne h0 g0 hn
  refine ⟨c, t, h0, g0, ?_⟩
  show Z.vm.assignableAux (255 + 1) c t = false
  simp [Vm.assignableAux, ne, h2, g2, h5, g5, g8, Vm.isSubclass, n3]
theorem own_fitsR {v : Value} {t : FieldType} (h : v.isRef = true) (ht : t.isReference = true) : fits t v = true := by
  cases v <;> cases t <;> simp_all [Value.isRef, fits, FieldType.isReference]
theorem own_narR {v : Value} {t : FieldType} (h : v.isRef = true) (ht : t.isReference = true) : narrow t v = v := by
  cases v <;> cases t <;> simp_all [Value.isRef, narrow, FieldType.isReference]
end OwnKit
theorem nE (a b : Nat) (h : a < b ∨ b < a) : a ≠ b := own_ne h
abbrev B3 : ByteArray := jdk_22_method_1_code
abbrev B6 : ByteArray := jdk_71_method_1_code
abbrev B2 : ByteArray := jdk_39_method_1_code
abbrev B1 : ByteArray := jdk_38_method_2_code
abbrev B8 : ByteArray := jdk_38_method_8_code
abbrev B5 : ByteArray := jdk_69_method_7_code
abbrev B21 : ByteArray := jdk_29_method_65_code
abbrev B22 : ByteArray := jdk_29_method_69_code
abbrev B25 : ByteArray := jdk_43_method_3_code
abbrev B27 : ByteArray := jdk_42_method_151_code
abbrev B32 : ByteArray := jdk_42_method_154_code
abbrev B26 : ByteArray := jdk_43_method_46_code
abbrev B24 : ByteArray := jdk_42_method_139_code
abbrev B33 : ByteArray := jdk_43_method_21_code
abbrev B31 : ByteArray := jdk_42_method_78_code
abbrev B30 : ByteArray := jdk_69_method_1_code
abbrev B37 : ByteArray := jdk_70_method_1_code
abbrev B36 : ByteArray := jdk_69_method_46_code
abbrev B38 : ByteArray := jdk_69_method_52_code
abbrev B35 : ByteArray := jdk_69_method_17_code
abbrev B34 : ByteArray := jdk_69_method_16_code
abbrev B29 : ByteArray := jdk_69_method_15_code
abbrev B9 : ByteArray := jdk_69_method_10_code
abbrev B11 : ByteArray := jdk_2571_method_1_code
abbrev B10 : ByteArray := jdk_69_method_28_code
abbrev B14 : ByteArray := jdk_99_method_1_code
abbrev B13 : ByteArray := jdk_2569_method_1_code
abbrev B12 : ByteArray := jdk_2571_method_4_code
abbrev B15 : ByteArray := jdk_99_method_2_code
abbrev B40 : ByteArray := jdk_99_method_3_code
abbrev B39 : ByteArray := jdk_2569_method_2_code
abbrev B16 : ByteArray := jdk_65_method_123_code
abbrev B20 : ByteArray := jdk_2529_method_6_code
abbrev B19 : ByteArray := jdk_2529_method_4_code
abbrev B18 : ByteArray := jdk_2529_method_3_code
abbrev B17 : ByteArray := jdk_65_method_2_code
abbrev B43 : ByteArray := jdk_18_method_1_code
abbrev B42 : ByteArray := jdk_33_method_23_code
abbrev B28 : ByteArray := jdk_33_method_22_code
abbrev B41 : ByteArray := jdk_33_method_27_code
abbrev B7 : ByteArray := prog_9_method_1_code
abbrev B23 : ByteArray := prog_9_method_5_code
theorem own_sta {s : State} {args : Array Value} {C n d K : String} (h : (Cond.exactly (Term.static C n d) K).value args s none s [] = some true) (w1 : (Cond.initialized C).before args s = true) (w2 : (Cond.laysStatic C n d).before args s = true) : ∃ w, Sta s s.heap C n d (.ref w) ∧ Exa s s.heap w K := by
  obtain ⟨w, ev⟩ := exa_v h
  exact ⟨w, Sta.start ev (Or.inr ⟨w1, w2⟩), Exa.start ev h⟩
theorem wh {Z : State} {a0 : Array Value} (hw : ∀ d ∈ tables_1, d.before a0 Z = true) (i : Nat) {d : Jvm.Cond} (q : tables_1[i]? = some d) : d.before a0 Z = true := hw _ (List.mem_of_getElem? q)
abbrev own_Met (l : Launch) (Z : State) (y : MethodName) (bts : ByteArray) (ml : Nat) (RT : Option FieldType) (ws : List Jvm.Cond) (ROOM : Room) (A : Array Value) (h0 : Heap) (Q : Option Value → Heap → List Loc → Prop) : Prop := MetFree l y (head1 (Jvm.Cond.code y bts ml RT :: ws) ROOM) (fun as_ U_ => as_ = A ∧ Z.Warmed39 U_.vm ∧ U_.heap = h0) (fun _ _ _ _ _ => True) (fun _ U_ o_ U2_ => ∃ v_ L_, o_ = .returned v_ ∧ Q v_ U2_.heap L_ ∧ FrameEnd U_ o_ U2_ L_ ROOM.cells ROOM.slots)
theorem own_mk {l : Launch} {Z : State} {y : MethodName} {bts : ByteArray} {ml : Nat} {RT : Option FieldType} {ws : List Jvm.Cond} {ROOM : Room} {A : Array Value} {h0 : Heap} {n0 : Nat} {Q : Option Value → Heap → List Loc → Prop} (pl : plainFor y = true) (O0 : Old Z n0 h0)
    (H : ∀ (p : Program) (e : Env) (s : State) (m : MethodId) (below : List Frame) (meth : Method) (c : Code) (s₁ : State), p.tables.exec = Jvm.exec → c.code = bts → c.maxLocals = ml → Z.Warmed39 s.vm → s.vm.findClass y.cls = some m.cls → meth.name = y.name → meth.locks = false → meth.sig.returnType = RT → Stand p l e ROOM s m A below meth c s₁ [] 0 0 → s₁.heap = h0 → Fr n0 [] → Z.heap.size = n0 → n0 ≤ h0.size → own_Goes p e below (s₁.setTop (entryFrame m A ml)) (own_PostN s Q ROOM.cells ROOM.slots)) : own_Met l Z y bts ml RT ws ROOM A h0 Q := by
  refine MetFree.of_bodySF pl hisR ?_
  intro p e s m args below meth c s₁ Bd hml0 hP hK
  obtain ⟨rfl, hZ, hh⟩ := hP
  exact H p e s m below meth c s₁ Bd.exec Bd.bytes hml0 hZ (findClass_of_methodNamed Bd.named) (name_of_methodNamed Bd.named Bd.method).1 Bd.notSynchronized Bd.returns (Stand.of_body Bd) (by rw [← hh, Bd.state]; rfl) (Fr.nil n0) O0.1 (O0.1 ▸ O0.2.1)
section OwnKit2
variable {p : Program} {l : Launch} {e : Env} {R : Room} {s : State} {m : MethodId} {args : Array Value} {below : List Frame} {meth : Method} {c : Code} {T : State} {locs : List Loc} {cells slots : Nat}
theorem own_cI {Z : State} {a0 : Array Value} {h : Heap} {own : String} {index : Nat} {count : Nat} {C : String} {xi y : MethodName} (X : Stand p l e R s m args below meth c T locs cells slots) (hx : p.tables.exec = Jvm.exec) (hZ : Z.Warmed39 s.vm) (hown : s.vm.findClass own = some m.cls)
    (w1 : (Cond.methodLink own index xi).before a0 Z = true) (w2 : (Cond.declares xi).before a0 Z = true) (w3 : (Cond.interfaceMethod xi.cls xi.cls xi.name xi.desc).before a0 Z = true) (w4 : (Cond.selects C xi y).before a0 Z = true) (w5 : (Cond.instanceMethod y).before a0 Z = true) (w6 : (Cond.publicMethod y).before a0 Z = true) (w7 : (Cond.unhidden C xi.name xi.desc).before a0 Z = true) (w8 : (Cond.castable C xi.cls).before a0 Z = true) (hxi : xi.cls ≠ "java/lang/invoke/MethodHandle" ∧ xi.cls ≠ "java/lang/invoke/VarHandle") {bts : ByteArray} {maxL W ml : Nat} {ret : Option FieldType} {rm : Room} {as' : Array Value} {Q : Option Value → Heap → List Loc → Prop} (M : own_Met l Z y bts maxL ret [] rm as' h Q) (wc : (Cond.code y bts maxL ret).before a0 Z = true) (wz : (Cond.initialized (MethodName.cls y)).before a0 Z = true) (hf : rm.frames + 1 ≤ R.frames) (hl : W + (maxL + 11) + rm.locals ≤ R.locals) (eT : T.heap = h) {b : Addr} (E : Exa Z h b C) {g : JFrame} (hg : g.method = m) (hml : c.maxLocals = ml) (hsz : g.locals.size = ml) {argsL rest : List Value} {ps : List FieldType} {r : Option FieldType} (hd : parseMethodDescriptor (MethodName.desc xi) = some ⟨ps, r⟩) (hl2 : argsL.length = ps.length) (hstack : g.stack = argsL.reverse ++ .ref b :: rest) (hmr : g.monitorRoom = 0) (hW : (rest.map fun v => v.category).sum = W) (hdg : decode c.code g.pc = .ok (.invokeinterface index count, 5)) (ha : (.ref b :: argsL).toArray = as') (hc : cells + rm.cells ≤ R.cells) (hs : slots + rm.slots ≤ R.slots) :
    ∃ v T' L', Stand p l e R s m args below meth c T' (locs ++ L') (cells + rm.cells) (slots + rm.slots) ∧ Q v T'.heap L' ∧ ∀ P, own_Goes p e below (T'.setTop { g with pc := g.pc + 5, stack := v.toList ++ rest }) P → own_Goes p e below (T.setTop g) P := by
  obtain ⟨cB, kB, qa, qb, qc⟩ := isOf hZ eT E
  obtain ⟨v, _, ⟨T', L', k', n'⟩, -, X', ⟨Lc, hQ, l', y', z'⟩, st⟩ := X.interfaceBack hx hown (mvT hZ w1) (mvT hZ w2) (mvT hZ w3 (by simp [Cond.onTables, Cond.keepsFace, Cond.keeps, Cond.steady, Cond.faceAtom, hxi.1, hxi.2])) (mvT hZ w4) (mvT hZ w5) (mvT hZ w6) (mvT hZ w7) (mvT hZ w8) hxi (backOf (W := W) M hZ wc wz hf hl) qa qb qc hg (by rw [hml]; exact hsz) (Steps.refl _) (argsL := argsL) (rest := rest) (lenOf hd hl2) hstack (by rw [hmr, hW]; omega) hdg (fun _ _ => ⟨ha, eT, hc, hs⟩)
  dsimp only [Pt.U, Pt.locs, Pt.cells, Pt.slots] at X' l' y' z' st hQ
  subst l' y' z'
  exact ⟨v, T', Lc, X', hQ, fun _ h => own_goS st h⟩
theorem own_cV {Z : State} {a0 : Array Value} {h : Heap} {own : String} {index : Nat} {C : String} {y : MethodName} (X : Stand p l e R s m args below meth c T locs cells slots) (hx : p.tables.exec = Jvm.exec) (hZ : Z.Warmed39 s.vm) (hown : s.vm.findClass own = some m.cls)
    (w1 : (Cond.methodLink own index y).before a0 Z = true) (w2 : (Cond.declares y).before a0 Z = true) (w4 : (Cond.selects C y y).before a0 Z = true) (w5 : (Cond.instanceMethod y).before a0 Z = true) (hxi : y.cls ≠ "java/lang/invoke/MethodHandle" ∧ y.cls ≠ "java/lang/invoke/VarHandle") {bts : ByteArray} {maxL W ml : Nat} {ret : Option FieldType} {rm : Room} {as' : Array Value} {Q : Option Value → Heap → List Loc → Prop} (M : own_Met l Z y bts maxL ret [] rm as' h Q) (wc : (Cond.code y bts maxL ret).before a0 Z = true) (wz : (Cond.initialized (MethodName.cls y)).before a0 Z = true) (hf : rm.frames + 1 ≤ R.frames) (hl : W + (maxL + 11) + rm.locals ≤ R.locals) (eT : T.heap = h) {b : Addr} (E : Exa Z h b C) {g : JFrame} (hg : g.method = m) (hml : c.maxLocals = ml) (hsz : g.locals.size = ml) {argsL rest : List Value} {ps : List FieldType} {r : Option FieldType} (hd : parseMethodDescriptor (MethodName.desc y) = some ⟨ps, r⟩) (hl2 : argsL.length = ps.length) (hstack : g.stack = argsL.reverse ++ .ref b :: rest) (hmr : g.monitorRoom = 0) (hW : (rest.map fun v => v.category).sum = W) (hdg : decode c.code g.pc = .ok (.invokevirtual index, 3)) (ha : (.ref b :: argsL).toArray = as') (hc : cells + rm.cells ≤ R.cells) (hs : slots + rm.slots ≤ R.slots) :
    ∃ v T' L', Stand p l e R s m args below meth c T' (locs ++ L') (cells + rm.cells) (slots + rm.slots) ∧ Q v T'.heap L' ∧ ∀ P, own_Goes p e below (T'.setTop { g with pc := g.pc + 3, stack := v.toList ++ rest }) P → own_Goes p e below (T.setTop g) P := by
  obtain ⟨cB, kB, qa, qb, qc⟩ := isOf hZ eT E
  obtain ⟨v, _, ⟨T', L', k', n'⟩, -, X', ⟨Lc, hQ, l', y', z'⟩, st⟩ := X.virtualBack hx hown (mvT hZ w1) (mvT hZ w2) (notFace_of_selects (args := #[]) (mvT hZ w4)) (mvT hZ w4) (mvT hZ w5) hxi (backOf (W := W) M hZ wc wz hf hl) qa qc hg (by rw [hml]; exact hsz) (Steps.refl _) (argsL := argsL) (rest := rest) (lenOf hd hl2) hstack (by rw [hmr, hW]; omega) hdg (fun _ _ => ⟨ha, eT, hc, hs⟩)
  dsimp only [Pt.U, Pt.locs, Pt.cells, Pt.slots] at X' l' y' z' st hQ
  subst l' y' z'
  exact ⟨v, T', Lc, X', hQ, fun _ h => own_goS st h⟩
theorem own_cVn {Z : State} {a0 : Array Value} {h : Heap} {own : String} {index : Nat} {C C2 : String} {y z w2_ z2 : MethodName} (X : Stand p l e R s m args below meth c T locs cells slots) (hx : p.tables.exec = Jvm.exec) (hZ : Z.Warmed39 s.vm) (hown : s.vm.findClass own = some m.cls)
    (w1 : (Cond.methodLink own index y).before a0 Z = true) (w2 : (Cond.declares y).before a0 Z = true) (w3 : (Cond.selects C2 w2_ z2).before a0 Z = true) (w3c : z2.cls = y.cls) (w4 : (Cond.selects C y z).before a0 Z = true) (w5 : (Cond.instanceMethod z).before a0 Z = true) (hxi : y.cls ≠ "java/lang/invoke/MethodHandle" ∧ y.cls ≠ "java/lang/invoke/VarHandle") {bts : ByteArray} {maxL W ml : Nat} {ret : Option FieldType} {rm : Room} {as' : Array Value} {Q : Option Value → Heap → List Loc → Prop} (M : own_Met l Z z bts maxL ret [] rm as' h Q) (wc : (Cond.code z bts maxL ret).before a0 Z = true) (wz : (Cond.initialized (MethodName.cls z)).before a0 Z = true) (hf : rm.frames + 1 ≤ R.frames) (hl : W + (maxL + 11) + rm.locals ≤ R.locals) (eT : T.heap = h) {b : Addr} (E : Exa Z h b C) {g : JFrame} (hg : g.method = m) (hml : c.maxLocals = ml) (hsz : g.locals.size = ml) {argsL rest : List Value} {ps : List FieldType} {r : Option FieldType} (hd : parseMethodDescriptor (MethodName.desc y) = some ⟨ps, r⟩) (hl2 : argsL.length = ps.length) (hstack : g.stack = argsL.reverse ++ .ref b :: rest) (hmr : g.monitorRoom = 0) (hW : (rest.map fun v => v.category).sum = W) (hdg : decode c.code g.pc = .ok (.invokevirtual index, 3)) (ha : (.ref b :: argsL).toArray = as') (hc : cells + rm.cells ≤ R.cells) (hs : slots + rm.slots ≤ R.slots) :
    ∃ v T' L', Stand p l e R s m args below meth c T' (locs ++ L') (cells + rm.cells) (slots + rm.slots) ∧ Q v T'.heap L' ∧ ∀ P, own_Goes p e below (T'.setTop { g with pc := g.pc + 3, stack := v.toList ++ rest }) P → own_Goes p e below (T.setTop g) P := by
  obtain ⟨cB, kB, qa, qb, qc⟩ := isOf hZ eT E
  obtain ⟨v, _, ⟨T', L', k', n'⟩, -, X', ⟨Lc, hQ, l', y', z'⟩, st⟩ := X.virtualBack hx hown (mvT hZ w1) (mvT hZ w2) (own_nf (args := #[]) (mvT hZ w3) w3c) (mvT hZ w4) (mvT hZ w5) hxi (backOf (W := W) M hZ wc wz hf hl) qa qc hg (by rw [hml]; exact hsz) (Steps.refl _) (argsL := argsL) (rest := rest) (lenOf hd hl2) hstack (by rw [hmr, hW]; omega) hdg (fun _ _ => ⟨ha, eT, hc, hs⟩)
  dsimp only [Pt.U, Pt.locs, Pt.cells, Pt.slots] at X' l' y' z' st hQ
  subst l' y' z'
  exact ⟨v, T', Lc, X', hQ, fun _ h => own_goS st h⟩
theorem own_cVU {Z : State} {a0 : Array Value} {h : Heap} {own : String} {index : Nat} {C owner : String} {y z : MethodName} (X : Stand p l e R s m args below meth c T locs cells slots) (hx : p.tables.exec = Jvm.exec) (hZ : Z.Warmed39 s.vm) (hown : s.vm.findClass own = some m.cls)
    (w1 : (Cond.methodLink own index y).before a0 Z = true) (w2 : (Cond.sameMethod y.cls owner y.name y.desc).before a0 Z = true) (w3 : (Cond.declares ⟨owner, y.name, y.desc⟩).before a0 Z = true) (w4 : (Cond.selects C y z).before a0 Z = true) (w5 : (Cond.instanceMethod z).before a0 Z = true) (hxi : owner ≠ "java/lang/invoke/MethodHandle" ∧ owner ≠ "java/lang/invoke/VarHandle") {bts : ByteArray} {maxL W ml : Nat} {ret : Option FieldType} {rm : Room} {as' : Array Value} {Q : Option Value → Heap → List Loc → Prop} (M : own_Met l Z z bts maxL ret [] rm as' h Q) (wc : (Cond.code z bts maxL ret).before a0 Z = true) (wz : (Cond.initialized (MethodName.cls z)).before a0 Z = true) (hf : rm.frames + 1 ≤ R.frames) (hl : W + (maxL + 11) + rm.locals ≤ R.locals) (eT : T.heap = h) {b : Addr} (E : Exa Z h b C) {g : JFrame} (hg : g.method = m) (hml : c.maxLocals = ml) (hsz : g.locals.size = ml) {argsL rest : List Value} {ps : List FieldType} {r : Option FieldType} (hd : parseMethodDescriptor (MethodName.desc y) = some ⟨ps, r⟩) (hl2 : argsL.length = ps.length) (hstack : g.stack = argsL.reverse ++ .ref b :: rest) (hmr : g.monitorRoom = 0) (hW : (rest.map fun v => v.category).sum = W) (hdg : decode c.code g.pc = .ok (.invokevirtual index, 3)) (ha : (.ref b :: argsL).toArray = as') (hc : cells + rm.cells ≤ R.cells) (hs : slots + rm.slots ≤ R.slots) :
    ∃ v T' L', Stand p l e R s m args below meth c T' (locs ++ L') (cells + rm.cells) (slots + rm.slots) ∧ Q v T'.heap L' ∧ ∀ P, own_Goes p e below (T'.setTop { g with pc := g.pc + 3, stack := v.toList ++ rest }) P → own_Goes p e below (T.setTop g) P := by
  obtain ⟨cB, kB, qa, qb, qc⟩ := isOf hZ eT E
  obtain ⟨v, _, ⟨T', L', k', n'⟩, -, X', ⟨Lc, hQ, l', y', z'⟩, st⟩ := X.virtualBackUp hx hown (mvT hZ w1) (mvT hZ w2) (mvT hZ w3) hxi (mvT hZ w4) (mvT hZ w5) (backOf (W := W) M hZ wc wz hf hl) qa qc hg (by rw [hml]; exact hsz) (Steps.refl _) (argsL := argsL) (rest := rest) (lenOf hd hl2) hstack (by rw [hmr, hW]; omega) hdg (fun _ _ => ⟨ha, eT, hc, hs⟩)
  dsimp only [Pt.U, Pt.locs, Pt.cells, Pt.slots] at X' l' y' z' st hQ
  subst l' y' z'
  exact ⟨v, T', Lc, X', hQ, fun _ h => own_goS st h⟩
theorem own_cN {Z : State} {a0 : Array Value} {h : Heap} {own : String} {index : Nat} {y : MethodName} (X : Stand p l e R s m args below meth c T locs cells slots) (hx : p.tables.exec = Jvm.exec) (hZ : Z.Warmed39 s.vm) (hown : s.vm.findClass own = some m.cls)
    (w1 : (Cond.methodLink own index y).before a0 Z = true) (w5 : (Cond.instanceMethod y).before a0 Z = true) (hy1 : y.name = "<init>") (hxi : y.cls ≠ "java/lang/invoke/MethodHandle" ∧ y.cls ≠ "java/lang/invoke/VarHandle") {bts : ByteArray} {maxL W ml : Nat} {rm : Room} {as' : Array Value} {Q : Option Value → Heap → List Loc → Prop} (M : own_Met l Z y bts maxL none [] rm as' h Q) (wc : (Cond.code y bts maxL none).before a0 Z = true) (wz : (Cond.initialized (MethodName.cls y)).before a0 Z = true) (hf : rm.frames + 1 ≤ R.frames) (hl : W + (maxL + 11) + rm.locals ≤ R.locals) (eT : T.heap = h) {b : Addr} {g : JFrame} (hg : g.method = m) (hml : c.maxLocals = ml) (hsz : g.locals.size = ml) {argsL rest : List Value} {ps : List FieldType} {r : Option FieldType} (hd : parseMethodDescriptor (MethodName.desc y) = some ⟨ps, r⟩) (hl2 : argsL.length = ps.length) (hstack : g.stack = argsL.reverse ++ .ref b :: rest) (hmr : g.monitorRoom = 0) (hW : (rest.map fun v => v.category).sum = W) (hdg : decode c.code g.pc = .ok (.invokespecial index, 3)) (ha : (.ref b :: argsL).toArray = as') (hc : cells + rm.cells ≤ R.cells) (hs : slots + rm.slots ≤ R.slots) :
    ∃ v T' L', Stand p l e R s m args below meth c T' (locs ++ L') (cells + rm.cells) (slots + rm.slots) ∧ Q v T'.heap L' ∧ ∀ P, own_Goes p e below (T'.setTop { g with pc := g.pc + 3, stack := v.toList ++ rest }) P → own_Goes p e below (T.setTop g) P := by
  obtain ⟨v, _, ⟨T', L', k', n'⟩, -, X', ⟨Lc, hQ, l', y', z'⟩, st⟩ := X.specialBack hx hy1 hown (mvT hZ w1) (mvT hZ w5) (mvT hZ wc) hxi (backOf (W := W) M hZ wc wz hf hl) hg (by rw [hml]; exact hsz) (Steps.refl _) (a := b) (argsL := argsL) (rest := rest) (lenOf hd hl2) hstack (by rw [hmr, hW]; omega) hdg (fun _ _ => ⟨ha, eT, hc, hs⟩)
  dsimp only [Pt.U, Pt.locs, Pt.cells, Pt.slots] at X' l' y' z' st hQ
  subst l' y' z'
  exact ⟨v, T', Lc, X', hQ, fun _ h => own_goS st h⟩
theorem own_cS {Z : State} {a0 : Array Value} {h : Heap} {own : String} {index : Nat} {y : MethodName} (X : Stand p l e R s m args below meth c T locs cells slots) (hx : p.tables.exec = Jvm.exec) (hZ : Z.Warmed39 s.vm) (hown : s.vm.findClass own = some m.cls)
    (w1 : (Cond.methodLink own index y).before a0 Z = true) (w5 : (Cond.static y).before a0 Z = true) (hxi : y.cls ≠ "java/lang/invoke/MethodHandle" ∧ y.cls ≠ "java/lang/invoke/VarHandle") {bts : ByteArray} {maxL W ml : Nat} {ret : Option FieldType} {rm : Room} {as' : Array Value} {Q : Option Value → Heap → List Loc → Prop} (M : own_Met l Z y bts maxL ret [] rm as' h Q) (wc : (Cond.code y bts maxL ret).before a0 Z = true) (wz : (Cond.initialized (MethodName.cls y)).before a0 Z = true) (hf : rm.frames + 1 ≤ R.frames) (hl : W + (maxL + 11) + rm.locals ≤ R.locals) (eT : T.heap = h) {g : JFrame} (hg : g.method = m) (hml : c.maxLocals = ml) (hsz : g.locals.size = ml) {argsL rest : List Value} {ps : List FieldType} {r : Option FieldType} (hd : parseMethodDescriptor (MethodName.desc y) = some ⟨ps, r⟩) (hl2 : argsL.length = ps.length) (hstack : g.stack = argsL.reverse ++ rest) (hmr : g.monitorRoom = 0) (hW : (rest.map fun v => v.category).sum = W) (hdg : decode c.code g.pc = .ok (.invokestatic index, 3)) (ha : argsL.toArray = as') (hc : cells + rm.cells ≤ R.cells) (hs : slots + rm.slots ≤ R.slots) :
    ∃ v T' L', Stand p l e R s m args below meth c T' (locs ++ L') (cells + rm.cells) (slots + rm.slots) ∧ Q v T'.heap L' ∧ ∀ P, own_Goes p e below (T'.setTop { g with pc := g.pc + 3, stack := v.toList ++ rest }) P → own_Goes p e below (T.setTop g) P := by
  obtain ⟨v, _, ⟨T', L', k', n'⟩, -, X', ⟨Lc, hQ, l', y', z'⟩, st⟩ := Jvm.LawKit.callS X hx hown (mvT hZ w1) (mvT hZ w5) (mvT hZ wz) (mvT hZ wc) hxi (backOf (W := W) M hZ wc wz hf hl) hg (by rw [hml]; exact hsz) (argsL := argsL) (rest := rest) (lenOf hd hl2) hstack (by rw [hmr, hW]; omega) hdg (fun _ _ => ⟨ha, eT, hc, hs⟩)
  dsimp only [Pt.U, Pt.locs, Pt.cells, Pt.slots] at X' l' y' z' st hQ
  subst l' y' z'
  exact ⟨v, T', Lc, X', hQ, fun _ h => gg st h⟩
theorem q_aloadN {bts : ByteArray} {pc : Nat} {Ls : Array Slot} {P : Outcome → State → Prop} {S : List Value} {k : Fin 4} {v : Value} (X : Stand p l e R s m args below meth c T locs cells slots) (hx : p.tables.exec = Jvm.exec) (hby : c.code = bts) (d : decode bts pc = .ok (.aload_n k, 1)) (h1 : Ls[k.val]? = some (.val v)) (h2 : v.isRef = true) (K : own_Goes p e below (T.setTop (mkF m (pc + 1) Ls (v :: S))) P) : own_Goes p e below (T.setTop (mkF m pc Ls S)) P := gg (fun t k => XS.aloadN X.here hx rfl (hb hby d) h1 h2 k) K
theorem q_aload {bts : ByteArray} {pc : Nat} {Ls : Array Slot} {P : Outcome → State → Prop} {S : List Value} {k : Nat} {v : Value} (X : Stand p l e R s m args below meth c T locs cells slots) (hx : p.tables.exec = Jvm.exec) (hby : c.code = bts) (d : decode bts pc = .ok (.aload k, 2)) (h1 : Ls[k]? = some (.val v)) (h2 : v.isRef = true) (K : own_Goes p e below (T.setTop (mkF m (pc + 2) Ls (v :: S))) P) : own_Goes p e below (T.setTop (mkF m pc Ls S)) P := gg (fun t k => XS.aload X.here hx rfl (hb hby d) h1 h2 k) K
theorem q_iloadN {bts : ByteArray} {pc : Nat} {Ls : Array Slot} {P : Outcome → State → Prop} {S : List Value} {k : Fin 4} {v : Int32} (X : Stand p l e R s m args below meth c T locs cells slots) (hx : p.tables.exec = Jvm.exec) (hby : c.code = bts) (d : decode bts pc = .ok (.iload_n k, 1)) (h1 : Ls[k.val]? = some (vI v)) (K : own_Goes p e below (T.setTop (mkF m (pc + 1) Ls (.int v :: S))) P) : own_Goes p e below (T.setTop (mkF m pc Ls S)) P := gg (fun t k => XS.iloadN X.here hx rfl (hb hby d) h1 k) K
theorem q_iload {bts : ByteArray} {pc : Nat} {Ls : Array Slot} {P : Outcome → State → Prop} {S : List Value} {k : Nat} {v : Int32} (X : Stand p l e R s m args below meth c T locs cells slots) (hx : p.tables.exec = Jvm.exec) (hby : c.code = bts) (d : decode bts pc = .ok (.iload k, 2)) (h1 : Ls[k]? = some (vI v)) (K : own_Goes p e below (T.setTop (mkF m (pc + 2) Ls (.int v :: S))) P) : own_Goes p e below (T.setTop (mkF m pc Ls S)) P := gg (fun t k => XS.iload X.here hx rfl (hb hby d) h1 k) K
theorem q_iconst {bts : ByteArray} {pc : Nat} {Ls : Array Slot} {P : Outcome → State → Prop} {S : List Value} {i : Int} (X : Stand p l e R s m args below meth c T locs cells slots) (hx : p.tables.exec = Jvm.exec) (hby : c.code = bts) (d : decode bts pc = .ok (.iconst i, 1)) (K : own_Goes p e below (T.setTop (mkF m (pc + 1) Ls (.int (Int32.ofInt i) :: S))) P) : own_Goes p e below (T.setTop (mkF m pc Ls S)) P := gg (fun t k => XS.iconst X.here hx rfl (hb hby d) k) K
theorem q_bipush {bts : ByteArray} {pc : Nat} {Ls : Array Slot} {P : Outcome → State → Prop} {S : List Value} {i : Int} (X : Stand p l e R s m args below meth c T locs cells slots) (hx : p.tables.exec = Jvm.exec) (hby : c.code = bts) (d : decode bts pc = .ok (.bipush i, 2)) (K : own_Goes p e below (T.setTop (mkF m (pc + 2) Ls (.int (Int8.ofInt i).toInt32 :: S))) P) : own_Goes p e below (T.setTop (mkF m pc Ls S)) P := gg (fun t k => XS.bipush X.here hx rfl (hb hby d) k) K
theorem q_sipush {bts : ByteArray} {pc : Nat} {Ls : Array Slot} {P : Outcome → State → Prop} {S : List Value} {i : Int} (X : Stand p l e R s m args below meth c T locs cells slots) (hx : p.tables.exec = Jvm.exec) (hby : c.code = bts) (d : decode bts pc = .ok (.sipush i, 3)) (K : own_Goes p e below (T.setTop (mkF m (pc + 3) Ls (.int (Int16.ofInt i).toInt32 :: S))) P) : own_Goes p e below (T.setTop (mkF m pc Ls S)) P := gg (fun t k => XS.sipush X.here hx rfl (hb hby d) k) K
theorem q_aconstNull {bts : ByteArray} {pc : Nat} {Ls : Array Slot} {P : Outcome → State → Prop} {S : List Value}  (X : Stand p l e R s m args below meth c T locs cells slots) (hx : p.tables.exec = Jvm.exec) (hby : c.code = bts) (d : decode bts pc = .ok (.aconst_null, 1)) (K : own_Goes p e below (T.setTop (mkF m (pc + 1) Ls (.null :: S))) P) : own_Goes p e below (T.setTop (mkF m pc Ls S)) P := gg (fun t k => XS.aconstNull X.here hx rfl (hb hby d) k) K
theorem q_iadd {bts : ByteArray} {pc : Nat} {Ls : Array Slot} {P : Outcome → State → Prop} {S : List Value} {x y : Int32} (X : Stand p l e R s m args below meth c T locs cells slots) (hx : p.tables.exec = Jvm.exec) (hby : c.code = bts) (d : decode bts pc = .ok (.iadd, 1)) (K : own_Goes p e below (T.setTop (mkF m (pc + 1) Ls (.int (x + y) :: S))) P) : own_Goes p e below (T.setTop (mkF m pc Ls (.int y :: .int x :: S))) P := gg (fun t k => XS.iadd X.here hx rfl (hb hby d) rfl k) K
theorem q_isub {bts : ByteArray} {pc : Nat} {Ls : Array Slot} {P : Outcome → State → Prop} {S : List Value} {x y : Int32} (X : Stand p l e R s m args below meth c T locs cells slots) (hx : p.tables.exec = Jvm.exec) (hby : c.code = bts) (d : decode bts pc = .ok (.isub, 1)) (K : own_Goes p e below (T.setTop (mkF m (pc + 1) Ls (.int (x - y) :: S))) P) : own_Goes p e below (T.setTop (mkF m pc Ls (.int y :: .int x :: S))) P := gg (fun t k => XS.isub X.here hx rfl (hb hby d) rfl k) K
theorem q_iand {bts : ByteArray} {pc : Nat} {Ls : Array Slot} {P : Outcome → State → Prop} {S : List Value} {x y : Int32} (X : Stand p l e R s m args below meth c T locs cells slots) (hx : p.tables.exec = Jvm.exec) (hby : c.code = bts) (d : decode bts pc = .ok (.iand, 1)) (K : own_Goes p e below (T.setTop (mkF m (pc + 1) Ls (.int (x &&& y) :: S))) P) : own_Goes p e below (T.setTop (mkF m pc Ls (.int y :: .int x :: S))) P := gg (fun t k => XS.iand X.here hx rfl (hb hby d) rfl k) K
theorem q_imul {bts : ByteArray} {pc : Nat} {Ls : Array Slot} {P : Outcome → State → Prop} {S : List Value} {x y : Int32} (X : Stand p l e R s m args below meth c T locs cells slots) (hx : p.tables.exec = Jvm.exec) (hby : c.code = bts) (d : decode bts pc = .ok (.imul, 1)) (K : own_Goes p e below (T.setTop (mkF m (pc + 1) Ls (.int (x * y) :: S))) P) : own_Goes p e below (T.setTop (mkF m pc Ls (.int y :: .int x :: S))) P := gg (fun t k => XS.imul X.here hx rfl (hb hby d) rfl k) K
theorem q_dup {bts : ByteArray} {pc : Nat} {Ls : Array Slot} {P : Outcome → State → Prop} {S : List Value} {x : Value} (X : Stand p l e R s m args below meth c T locs cells slots) (hx : p.tables.exec = Jvm.exec) (hby : c.code = bts) (d : decode bts pc = .ok (.dup, 1)) (h1 : x.category = 1) (K : own_Goes p e below (T.setTop (mkF m (pc + 1) Ls (x :: x :: S))) P) : own_Goes p e below (T.setTop (mkF m pc Ls (x :: S))) P := gg (fun t k => XS.dup X.here hx rfl (hb hby d) rfl h1 k) K
theorem q_istoreN {bts : ByteArray} {pc : Nat} {Ls : Array Slot} {P : Outcome → State → Prop} {S : List Value} {k : Fin 4} {x : Int32} {l' : Array Slot} (X : Stand p l e R s m args below meth c T locs cells slots) (hx : p.tables.exec = Jvm.exec) (hby : c.code = bts) (d : decode bts pc = .ok (.istore_n k, 1)) (h1 : storeLocals Ls k.val (.int x) = some l') (K : own_Goes p e below (T.setTop (mkF m (pc + 1) l' S)) P) : own_Goes p e below (T.setTop (mkF m pc Ls (.int x :: S))) P := gg (fun t k => XS.istoreN X.here hx rfl (hb hby d) rfl h1 k) K
theorem q_istore {bts : ByteArray} {pc : Nat} {Ls : Array Slot} {P : Outcome → State → Prop} {S : List Value} {k : Nat} {x : Int32} {l' : Array Slot} (X : Stand p l e R s m args below meth c T locs cells slots) (hx : p.tables.exec = Jvm.exec) (hby : c.code = bts) (d : decode bts pc = .ok (.istore k, 2)) (h1 : storeLocals Ls k (.int x) = some l') (K : own_Goes p e below (T.setTop (mkF m (pc + 2) l' S)) P) : own_Goes p e below (T.setTop (mkF m pc Ls (.int x :: S))) P := gg (fun t k => XS.istore X.here hx rfl (hb hby d) rfl h1 k) K
theorem q_astoreN {bts : ByteArray} {pc : Nat} {Ls : Array Slot} {P : Outcome → State → Prop} {S : List Value} {k : Fin 4} {x : Value} {l' : Array Slot} (X : Stand p l e R s m args below meth c T locs cells slots) (hx : p.tables.exec = Jvm.exec) (hby : c.code = bts) (d : decode bts pc = .ok (.astore_n k, 1)) (h2 : x.isRef = true) (h1 : storeLocals Ls k.val x = some l') (K : own_Goes p e below (T.setTop (mkF m (pc + 1) l' S)) P) : own_Goes p e below (T.setTop (mkF m pc Ls (x :: S))) P := gg (fun t k => XS.astoreN X.here hx rfl (hb hby d) rfl h2 h1 k) K
theorem q_astore {bts : ByteArray} {pc : Nat} {Ls : Array Slot} {P : Outcome → State → Prop} {S : List Value} {k : Nat} {x : Value} {l' : Array Slot} (X : Stand p l e R s m args below meth c T locs cells slots) (hx : p.tables.exec = Jvm.exec) (hby : c.code = bts) (d : decode bts pc = .ok (.astore k, 2)) (h2 : x.isRef = true) (h1 : storeLocals Ls k x = some l') (K : own_Goes p e below (T.setTop (mkF m (pc + 2) l' S)) P) : own_Goes p e below (T.setTop (mkF m pc Ls (x :: S))) P := gg (fun t k => XS.astore X.here hx rfl (hb hby d) rfl h2 h1 k) K
theorem q_goto {bts : ByteArray} {pc : Nat} {Ls : Array Slot} {P : Outcome → State → Prop} {S : List Value} {o : Int} {pc' : Nat} (X : Stand p l e R s m args below meth c T locs cells slots) (hx : p.tables.exec = Jvm.exec) (hby : c.code = bts) (d : decode bts pc = .ok (.goto o, 3)) (ho : 0 ≤ (pc : Int) + o) (hp : ((pc : Int) + o).toNat = pc') (K : own_Goes p e below (T.setTop (mkF m pc' Ls S)) P) : own_Goes p e below (T.setTop (mkF m pc Ls S)) P := gg (fun t k => XS.goto X.here hx rfl rfl (hb hby d) ho hp k) K
theorem q_ifYes {bts : ByteArray} {pc : Nat} {Ls : Array Slot} {P : Outcome → State → Prop} {S : List Value} {cd : ClassFile.Cond} {x : Int32} {o : Int} {pc' : Nat} (X : Stand p l e R s m args below meth c T locs cells slots) (hx : p.tables.exec = Jvm.exec) (hby : c.code = bts) (d : decode bts pc = .ok (.ifCond cd o, 3)) (h1 : ifCond.holds cd x = true) (ho : 0 ≤ (pc : Int) + o) (hp : ((pc : Int) + o).toNat = pc') (K : own_Goes p e below (T.setTop (mkF m pc' Ls S)) P) : own_Goes p e below (T.setTop (mkF m pc Ls (.int x :: S))) P := gg (fun t k => XS.ifYes X.here hx rfl rfl (hb hby d) rfl h1 ho hp k) K
theorem q_ifNo {bts : ByteArray} {pc : Nat} {Ls : Array Slot} {P : Outcome → State → Prop} {S : List Value} {cd : ClassFile.Cond} {x : Int32} {o : Int} (X : Stand p l e R s m args below meth c T locs cells slots) (hx : p.tables.exec = Jvm.exec) (hby : c.code = bts) (d : decode bts pc = .ok (.ifCond cd o, 3)) (h1 : ifCond.holds cd x = false) (K : own_Goes p e below (T.setTop (mkF m (pc + 3) Ls S)) P) : own_Goes p e below (T.setTop (mkF m pc Ls (.int x :: S))) P := gg (fun t k => XS.ifNo X.here hx rfl (hb hby d) rfl h1 k) K
theorem q_icmpYes {bts : ByteArray} {pc : Nat} {Ls : Array Slot} {P : Outcome → State → Prop} {S : List Value} {cd : ClassFile.Cond} {x y : Int32} {o : Int} {pc' : Nat} (X : Stand p l e R s m args below meth c T locs cells slots) (hx : p.tables.exec = Jvm.exec) (hby : c.code = bts) (d : decode bts pc = .ok (.if_icmp cd o, 3)) (h1 : if_icmp.holds cd x y = true) (ho : 0 ≤ (pc : Int) + o) (hp : ((pc : Int) + o).toNat = pc') (K : own_Goes p e below (T.setTop (mkF m pc' Ls S)) P) : own_Goes p e below (T.setTop (mkF m pc Ls (.int y :: .int x :: S))) P := gg (fun t k => XS.icmpYes X.here hx rfl rfl (hb hby d) rfl h1 ho hp k) K
theorem q_icmpNo {bts : ByteArray} {pc : Nat} {Ls : Array Slot} {P : Outcome → State → Prop} {S : List Value} {cd : ClassFile.Cond} {x y : Int32} {o : Int} (X : Stand p l e R s m args below meth c T locs cells slots) (hx : p.tables.exec = Jvm.exec) (hby : c.code = bts) (d : decode bts pc = .ok (.if_icmp cd o, 3)) (h1 : if_icmp.holds cd x y = false) (K : own_Goes p e below (T.setTop (mkF m (pc + 3) Ls S)) P) : own_Goes p e below (T.setTop (mkF m pc Ls (.int y :: .int x :: S))) P := gg (fun t k => XS.icmpNo X.here hx rfl (hb hby d) rfl h1 k) K
theorem q_ifnullYes {bts : ByteArray} {pc : Nat} {Ls : Array Slot} {P : Outcome → State → Prop} {S : List Value} {o : Int} {pc' : Nat} (X : Stand p l e R s m args below meth c T locs cells slots) (hx : p.tables.exec = Jvm.exec) (hby : c.code = bts) (d : decode bts pc = .ok (.ifnull o, 3)) (ho : 0 ≤ (pc : Int) + o) (hp : ((pc : Int) + o).toNat = pc') (K : own_Goes p e below (T.setTop (mkF m pc' Ls S)) P) : own_Goes p e below (T.setTop (mkF m pc Ls (.null :: S))) P := gg (fun t k => XS.ifnullYes X.here hx rfl rfl (hb hby d) rfl ho hp k) K
theorem q_ifnullNo {bts : ByteArray} {pc : Nat} {Ls : Array Slot} {P : Outcome → State → Prop} {S : List Value} {o : Int} {b : Addr} (X : Stand p l e R s m args below meth c T locs cells slots) (hx : p.tables.exec = Jvm.exec) (hby : c.code = bts) (d : decode bts pc = .ok (.ifnull o, 3)) (K : own_Goes p e below (T.setTop (mkF m (pc + 3) Ls S)) P) : own_Goes p e below (T.setTop (mkF m pc Ls (.ref b :: S))) P := gg (fun t k => XS.ifnullNo X.here hx rfl (hb hby d) rfl k) K
theorem k_I {bt0 : ByteArray} {pc : Nat} {Ls : Array Slot} {S : List Value} {P : Outcome → State → Prop} {Z : State} {a0 : Array Value} {h : Heap} {own : String} {index : Nat} {count : Nat} {C : String} {xi y : MethodName} (X : Stand p l e R s m args below meth c T locs cells slots) (hx : p.tables.exec = Jvm.exec) (hby : c.code = bt0) (hZ : Z.Warmed39 s.vm) (hown : s.vm.findClass own = some m.cls) (w1 : (Cond.methodLink own index xi).before a0 Z = true) (w2 : (Cond.declares xi).before a0 Z = true) (w3 : (Cond.interfaceMethod xi.cls xi.cls xi.name xi.desc).before a0 Z = true) (w4 : (Cond.selects C xi y).before a0 Z = true) (w5 : (Cond.instanceMethod y).before a0 Z = true) (w6 : (Cond.publicMethod y).before a0 Z = true) (w7 : (Cond.unhidden C xi.name xi.desc).before a0 Z = true) (w8 : (Cond.castable C xi.cls).before a0 Z = true) {bts : ByteArray} {maxL W ml : Nat} {ret : Option FieldType} {rm : Room} {as' : Array Value} {Q : Option Value → Heap → List Loc → Prop} (M : own_Met l Z y bts maxL ret [] rm as' h Q) (wc : (Cond.code y bts maxL ret).before a0 Z = true) (wz : (Cond.initialized (MethodName.cls y)).before a0 Z = true) (eT : T.heap = h) {b : Addr} (E : Exa Z h b C) (hml : c.maxLocals = ml) {argsL rest : List Value} {ps : List FieldType} {r : Option FieldType} (hd : parseMethodDescriptor (MethodName.desc xi) = some ⟨ps, r⟩) (d : decode bt0 pc = .ok (.invokeinterface index count, 5)) (K : ∀ (v : Option Value) (T' : State) (L' : List Loc), Stand p l e R s m args below meth c T' (locs ++ L') (cells + rm.cells) (slots + rm.slots) → Q v T'.heap L' → own_Goes p e below (T'.setTop (mkF m (pc + 5) Ls (v.toList ++ rest))) P) (hxi : xi.cls ≠ "java/lang/invoke/MethodHandle" ∧ xi.cls ≠ "java/lang/invoke/VarHandle" := by decide) (hf : rm.frames + 1 ≤ R.frames := by decide) (hl : W + (maxL + 11) + rm.locals ≤ R.locals := by decide) (hg : (mkF m pc Ls S).method = m := by rfl) (hsz : (mkF m pc Ls S).locals.size = ml := by rfl) (hl2 : argsL.length = ps.length := by rfl) (hstack : (mkF m pc Ls S).stack = argsL.reverse ++ .ref b :: rest := by rfl) (hmr : (mkF m pc Ls S).monitorRoom = 0 := by rfl) (hW : (rest.map fun v => v.category).sum = W := by rfl) (ha : (.ref b :: argsL).toArray = as' := by rfl) (hc : cells + rm.cells ≤ R.cells := by decide) (hs : slots + rm.slots ≤ R.slots := by decide) : own_Goes p e below (T.setTop (mkF m pc Ls S)) P := by
  obtain ⟨v, T', L', X', hQ, st⟩ := own_cI X hx hZ hown w1 w2 w3 w4 w5 w6 w7 w8 hxi M wc wz hf hl eT E (g := (mkF m pc Ls S)) hg hml hsz hd hl2 hstack hmr hW (hb hby d) ha hc hs
  exact st _ (K v T' L' X' hQ)
theorem k_V {bt0 : ByteArray} {pc : Nat} {Ls : Array Slot} {S : List Value} {P : Outcome → State → Prop} {Z : State} {a0 : Array Value} {h : Heap} {own : String} {index : Nat} {C : String} {y : MethodName} (X : Stand p l e R s m args below meth c T locs cells slots) (hx : p.tables.exec = Jvm.exec) (hby : c.code = bt0) (hZ : Z.Warmed39 s.vm) (hown : s.vm.findClass own = some m.cls) (w1 : (Cond.methodLink own index y).before a0 Z = true) (w2 : (Cond.declares y).before a0 Z = true) (w4 : (Cond.selects C y y).before a0 Z = true) (w5 : (Cond.instanceMethod y).before a0 Z = true) {bts : ByteArray} {maxL W ml : Nat} {ret : Option FieldType} {rm : Room} {as' : Array Value} {Q : Option Value → Heap → List Loc → Prop} (M : own_Met l Z y bts maxL ret [] rm as' h Q) (wc : (Cond.code y bts maxL ret).before a0 Z = true) (wz : (Cond.initialized (MethodName.cls y)).before a0 Z = true) (eT : T.heap = h) {b : Addr} (E : Exa Z h b C) (hml : c.maxLocals = ml) {argsL rest : List Value} {ps : List FieldType} {r : Option FieldType} (hd : parseMethodDescriptor (MethodName.desc y) = some ⟨ps, r⟩) (d : decode bt0 pc = .ok (.invokevirtual index, 3)) (K : ∀ (v : Option Value) (T' : State) (L' : List Loc), Stand p l e R s m args below meth c T' (locs ++ L') (cells + rm.cells) (slots + rm.slots) → Q v T'.heap L' → own_Goes p e below (T'.setTop (mkF m (pc + 3) Ls (v.toList ++ rest))) P) (hxi : y.cls ≠ "java/lang/invoke/MethodHandle" ∧ y.cls ≠ "java/lang/invoke/VarHandle" := by decide) (hf : rm.frames + 1 ≤ R.frames := by decide) (hl : W + (maxL + 11) + rm.locals ≤ R.locals := by decide) (hg : (mkF m pc Ls S).method = m := by rfl) (hsz : (mkF m pc Ls S).locals.size = ml := by rfl) (hl2 : argsL.length = ps.length := by rfl) (hstack : (mkF m pc Ls S).stack = argsL.reverse ++ .ref b :: rest := by rfl) (hmr : (mkF m pc Ls S).monitorRoom = 0 := by rfl) (hW : (rest.map fun v => v.category).sum = W := by rfl) (ha : (.ref b :: argsL).toArray = as' := by rfl) (hc : cells + rm.cells ≤ R.cells := by decide) (hs : slots + rm.slots ≤ R.slots := by decide) : own_Goes p e below (T.setTop (mkF m pc Ls S)) P := by
  obtain ⟨v, T', L', X', hQ, st⟩ := own_cV X hx hZ hown w1 w2 w4 w5 hxi M wc wz hf hl eT E (g := (mkF m pc Ls S)) hg hml hsz hd hl2 hstack hmr hW (hb hby d) ha hc hs
  exact st _ (K v T' L' X' hQ)
theorem k_Vn {bt0 : ByteArray} {pc : Nat} {Ls : Array Slot} {S : List Value} {P : Outcome → State → Prop} {Z : State} {a0 : Array Value} {h : Heap} {own : String} {index : Nat} {C C2 : String} {y z w2_ z2 : MethodName} (X : Stand p l e R s m args below meth c T locs cells slots) (hx : p.tables.exec = Jvm.exec) (hby : c.code = bt0) (hZ : Z.Warmed39 s.vm) (hown : s.vm.findClass own = some m.cls) (w1 : (Cond.methodLink own index y).before a0 Z = true) (w2 : (Cond.declares y).before a0 Z = true) (w3 : (Cond.selects C2 w2_ z2).before a0 Z = true) (w4 : (Cond.selects C y z).before a0 Z = true) (w5 : (Cond.instanceMethod z).before a0 Z = true) {bts : ByteArray} {maxL W ml : Nat} {ret : Option FieldType} {rm : Room} {as' : Array Value} {Q : Option Value → Heap → List Loc → Prop} (M : own_Met l Z z bts maxL ret [] rm as' h Q) (wc : (Cond.code z bts maxL ret).before a0 Z = true) (wz : (Cond.initialized (MethodName.cls z)).before a0 Z = true) (eT : T.heap = h) {b : Addr} (E : Exa Z h b C) (hml : c.maxLocals = ml) {argsL rest : List Value} {ps : List FieldType} {r : Option FieldType} (hd : parseMethodDescriptor (MethodName.desc y) = some ⟨ps, r⟩) (d : decode bt0 pc = .ok (.invokevirtual index, 3)) (K : ∀ (v : Option Value) (T' : State) (L' : List Loc), Stand p l e R s m args below meth c T' (locs ++ L') (cells + rm.cells) (slots + rm.slots) → Q v T'.heap L' → own_Goes p e below (T'.setTop (mkF m (pc + 3) Ls (v.toList ++ rest))) P) (w3c : z2.cls = y.cls := by rfl) (hxi : y.cls ≠ "java/lang/invoke/MethodHandle" ∧ y.cls ≠ "java/lang/invoke/VarHandle" := by decide) (hf : rm.frames + 1 ≤ R.frames := by decide) (hl : W + (maxL + 11) + rm.locals ≤ R.locals := by decide) (hg : (mkF m pc Ls S).method = m := by rfl) (hsz : (mkF m pc Ls S).locals.size = ml := by rfl) (hl2 : argsL.length = ps.length := by rfl) (hstack : (mkF m pc Ls S).stack = argsL.reverse ++ .ref b :: rest := by rfl) (hmr : (mkF m pc Ls S).monitorRoom = 0 := by rfl) (hW : (rest.map fun v => v.category).sum = W := by rfl) (ha : (.ref b :: argsL).toArray = as' := by rfl) (hc : cells + rm.cells ≤ R.cells := by decide) (hs : slots + rm.slots ≤ R.slots := by decide) : own_Goes p e below (T.setTop (mkF m pc Ls S)) P := by
  obtain ⟨v, T', L', X', hQ, st⟩ := own_cVn X hx hZ hown w1 w2 w3 w3c w4 w5 hxi M wc wz hf hl eT E (g := (mkF m pc Ls S)) hg hml hsz hd hl2 hstack hmr hW (hb hby d) ha hc hs
  exact st _ (K v T' L' X' hQ)
theorem k_VU {bt0 : ByteArray} {pc : Nat} {Ls : Array Slot} {S : List Value} {P : Outcome → State → Prop} {Z : State} {a0 : Array Value} {h : Heap} {own : String} {index : Nat} {C owner : String} {y z : MethodName} (X : Stand p l e R s m args below meth c T locs cells slots) (hx : p.tables.exec = Jvm.exec) (hby : c.code = bt0) (hZ : Z.Warmed39 s.vm) (hown : s.vm.findClass own = some m.cls) (w1 : (Cond.methodLink own index y).before a0 Z = true) (w2 : (Cond.sameMethod y.cls owner y.name y.desc).before a0 Z = true) (w3 : (Cond.declares ⟨owner, y.name, y.desc⟩).before a0 Z = true) (w4 : (Cond.selects C y z).before a0 Z = true) (w5 : (Cond.instanceMethod z).before a0 Z = true) {bts : ByteArray} {maxL W ml : Nat} {ret : Option FieldType} {rm : Room} {as' : Array Value} {Q : Option Value → Heap → List Loc → Prop} (M : own_Met l Z z bts maxL ret [] rm as' h Q) (wc : (Cond.code z bts maxL ret).before a0 Z = true) (wz : (Cond.initialized (MethodName.cls z)).before a0 Z = true) (eT : T.heap = h) {b : Addr} (E : Exa Z h b C) (hml : c.maxLocals = ml) {argsL rest : List Value} {ps : List FieldType} {r : Option FieldType} (hd : parseMethodDescriptor (MethodName.desc y) = some ⟨ps, r⟩) (d : decode bt0 pc = .ok (.invokevirtual index, 3)) (K : ∀ (v : Option Value) (T' : State) (L' : List Loc), Stand p l e R s m args below meth c T' (locs ++ L') (cells + rm.cells) (slots + rm.slots) → Q v T'.heap L' → own_Goes p e below (T'.setTop (mkF m (pc + 3) Ls (v.toList ++ rest))) P) (hxi : owner ≠ "java/lang/invoke/MethodHandle" ∧ owner ≠ "java/lang/invoke/VarHandle" := by decide) (hf : rm.frames + 1 ≤ R.frames := by decide) (hl : W + (maxL + 11) + rm.locals ≤ R.locals := by decide) (hg : (mkF m pc Ls S).method = m := by rfl) (hsz : (mkF m pc Ls S).locals.size = ml := by rfl) (hl2 : argsL.length = ps.length := by rfl) (hstack : (mkF m pc Ls S).stack = argsL.reverse ++ .ref b :: rest := by rfl) (hmr : (mkF m pc Ls S).monitorRoom = 0 := by rfl) (hW : (rest.map fun v => v.category).sum = W := by rfl) (ha : (.ref b :: argsL).toArray = as' := by rfl) (hc : cells + rm.cells ≤ R.cells := by decide) (hs : slots + rm.slots ≤ R.slots := by decide) : own_Goes p e below (T.setTop (mkF m pc Ls S)) P := by
  obtain ⟨v, T', L', X', hQ, st⟩ := own_cVU X hx hZ hown w1 w2 w3 w4 w5 hxi M wc wz hf hl eT E (g := (mkF m pc Ls S)) hg hml hsz hd hl2 hstack hmr hW (hb hby d) ha hc hs
  exact st _ (K v T' L' X' hQ)
theorem k_N {bt0 : ByteArray} {pc : Nat} {Ls : Array Slot} {S : List Value} {P : Outcome → State → Prop} {Z : State} {a0 : Array Value} {h : Heap} {own : String} {index : Nat} {y : MethodName} (X : Stand p l e R s m args below meth c T locs cells slots) (hx : p.tables.exec = Jvm.exec) (hby : c.code = bt0) (hZ : Z.Warmed39 s.vm) (hown : s.vm.findClass own = some m.cls) (w1 : (Cond.methodLink own index y).before a0 Z = true) (w5 : (Cond.instanceMethod y).before a0 Z = true) {bts : ByteArray} {maxL W ml : Nat} {rm : Room} {as' : Array Value} {Q : Option Value → Heap → List Loc → Prop} (M : own_Met l Z y bts maxL none [] rm as' h Q) (wc : (Cond.code y bts maxL none).before a0 Z = true) (wz : (Cond.initialized (MethodName.cls y)).before a0 Z = true) (eT : T.heap = h) {b : Addr} (hml : c.maxLocals = ml) {argsL rest : List Value} {ps : List FieldType} {r : Option FieldType} (hd : parseMethodDescriptor (MethodName.desc y) = some ⟨ps, r⟩) (d : decode bt0 pc = .ok (.invokespecial index, 3)) (K : ∀ (v : Option Value) (T' : State) (L' : List Loc), Stand p l e R s m args below meth c T' (locs ++ L') (cells + rm.cells) (slots + rm.slots) → Q v T'.heap L' → own_Goes p e below (T'.setTop (mkF m (pc + 3) Ls (v.toList ++ rest))) P) (hy1 : y.name = "<init>" := by rfl) (hxi : y.cls ≠ "java/lang/invoke/MethodHandle" ∧ y.cls ≠ "java/lang/invoke/VarHandle" := by decide) (hf : rm.frames + 1 ≤ R.frames := by decide) (hl : W + (maxL + 11) + rm.locals ≤ R.locals := by decide) (hg : (mkF m pc Ls S).method = m := by rfl) (hsz : (mkF m pc Ls S).locals.size = ml := by rfl) (hl2 : argsL.length = ps.length := by rfl) (hstack : (mkF m pc Ls S).stack = argsL.reverse ++ .ref b :: rest := by rfl) (hmr : (mkF m pc Ls S).monitorRoom = 0 := by rfl) (hW : (rest.map fun v => v.category).sum = W := by rfl) (ha : (.ref b :: argsL).toArray = as' := by rfl) (hc : cells + rm.cells ≤ R.cells := by decide) (hs : slots + rm.slots ≤ R.slots := by decide) : own_Goes p e below (T.setTop (mkF m pc Ls S)) P := by
  obtain ⟨v, T', L', X', hQ, st⟩ := own_cN X hx hZ hown w1 w5 hy1 hxi M wc wz hf hl eT (g := (mkF m pc Ls S)) hg hml hsz hd hl2 hstack hmr hW (hb hby d) ha hc hs
  exact st _ (K v T' L' X' hQ)
theorem k_S {bt0 : ByteArray} {pc : Nat} {Ls : Array Slot} {S : List Value} {P : Outcome → State → Prop} {Z : State} {a0 : Array Value} {h : Heap} {own : String} {index : Nat} {y : MethodName} (X : Stand p l e R s m args below meth c T locs cells slots) (hx : p.tables.exec = Jvm.exec) (hby : c.code = bt0) (hZ : Z.Warmed39 s.vm) (hown : s.vm.findClass own = some m.cls) (w1 : (Cond.methodLink own index y).before a0 Z = true) (w5 : (Cond.static y).before a0 Z = true) {bts : ByteArray} {maxL W ml : Nat} {ret : Option FieldType} {rm : Room} {as' : Array Value} {Q : Option Value → Heap → List Loc → Prop} (M : own_Met l Z y bts maxL ret [] rm as' h Q) (wc : (Cond.code y bts maxL ret).before a0 Z = true) (wz : (Cond.initialized (MethodName.cls y)).before a0 Z = true) (eT : T.heap = h) (hml : c.maxLocals = ml) {argsL rest : List Value} {ps : List FieldType} {r : Option FieldType} (hd : parseMethodDescriptor (MethodName.desc y) = some ⟨ps, r⟩) (d : decode bt0 pc = .ok (.invokestatic index, 3)) (K : ∀ (v : Option Value) (T' : State) (L' : List Loc), Stand p l e R s m args below meth c T' (locs ++ L') (cells + rm.cells) (slots + rm.slots) → Q v T'.heap L' → own_Goes p e below (T'.setTop (mkF m (pc + 3) Ls (v.toList ++ rest))) P) (hxi : y.cls ≠ "java/lang/invoke/MethodHandle" ∧ y.cls ≠ "java/lang/invoke/VarHandle" := by decide) (hf : rm.frames + 1 ≤ R.frames := by decide) (hl : W + (maxL + 11) + rm.locals ≤ R.locals := by decide) (hg : (mkF m pc Ls S).method = m := by rfl) (hsz : (mkF m pc Ls S).locals.size = ml := by rfl) (hl2 : argsL.length = ps.length := by rfl) (hstack : (mkF m pc Ls S).stack = argsL.reverse ++ rest := by rfl) (hmr : (mkF m pc Ls S).monitorRoom = 0 := by rfl) (hW : (rest.map fun v => v.category).sum = W := by rfl) (ha : argsL.toArray = as' := by rfl) (hc : cells + rm.cells ≤ R.cells := by decide) (hs : slots + rm.slots ≤ R.slots := by decide) : own_Goes p e below (T.setTop (mkF m pc Ls S)) P := by
  obtain ⟨v, T', L', X', hQ, st⟩ := own_cS X hx hZ hown w1 w5 hxi M wc wz hf hl eT (g := (mkF m pc Ls S)) hg hml hsz hd hl2 hstack hmr hW (hb hby d) ha hc hs
  exact st _ (K v T' L' X' hQ)
theorem qF {bts : ByteArray} {pc : Nat} {Ls : Array Slot} {S : List Value} {P : Outcome → State → Prop} {Z : State} {h : Heap} {a0 : Array Value} {own R0 O n d_ host : String} {index : Nat} {a : Addr} {v : Value} (X : Stand p l e R s m args below meth c T locs cells slots) (hx : p.tables.exec = Jvm.exec) (hby : c.code = bts) (hZ : Z.Warmed39 s.vm) (hown : s.vm.findClass own = some m.cls) (w : (Cond.fieldLink own index R0 n d_).before a0 Z = true ∨ (Cond.fieldLinkNest own index R0 n d_ host).before a0 Z = true) (via : Via Z R0 O n d_) (eT : T.heap = h) (F : Fld Z h a O n d_ v) (d : decode bts pc = .ok (.getfield index, 3)) (K : ∀ T', Stand p l e R s m args below meth c T' locs cells slots → T'.heap = h → own_Goes p e below (T'.setTop (mkF m (pc + 3) Ls (v :: S))) P) : own_Goes p e below (T.setTop (mkF m pc Ls (.ref a :: S))) P := by
  obtain ⟨T', X', e', st⟩ := getF X hx hZ hown w via eT F (g := mkF m pc Ls (.ref a :: S)) rfl rfl (hb hby d)
  exact gg st (K T' X' e')
theorem qG {bts : ByteArray} {pc : Nat} {Ls : Array Slot} {S : List Value} {P : Outcome → State → Prop} {Z : State} {h : Heap} {a0 : Array Value} {own R0 n d_ : String} {index : Nat} {a : Addr} {v : Value} (X : Stand p l e R s m args below meth c T locs cells slots) (hx : p.tables.exec = Jvm.exec) (hby : c.code = bts) (hZ : Z.Warmed39 s.vm) (hown : s.vm.findClass own = some m.cls) (w : (Cond.fieldLink own index R0 n d_).before a0 Z = true) (eT : T.heap = h) (F : Fld Z h a R0 n d_ v) (d : decode bts pc = .ok (.getfield index, 3)) (K : ∀ T', Stand p l e R s m args below meth c T' locs cells slots → T'.heap = h → own_Goes p e below (T'.setTop (mkF m (pc + 3) Ls (v :: S))) P) : own_Goes p e below (T.setTop (mkF m pc Ls (.ref a :: S))) P := qF (host := "") X hx hby hZ hown (Or.inl w) Via.refl eT F d K
theorem qS {bts : ByteArray} {pc : Nat} {Ls : Array Slot} {S : List Value} {P : Outcome → State → Prop} {Z : State} {h : Heap} {a0 : Array Value} {own R0 O n d_ host : String} {index : Nat} {v : Value} (X : Stand p l e R s m args below meth c T locs cells slots) (hx : p.tables.exec = Jvm.exec) (hby : c.code = bts) (hZ : Z.Warmed39 s.vm) (hown : s.vm.findClass own = some m.cls) (w : (Cond.fieldLink own index R0 n d_).before a0 Z = true ∨ (Cond.fieldLinkNest own index R0 n d_ host).before a0 Z = true) (via : Via Z R0 O n d_) (eT : T.heap = h) (F : Sta Z h O n d_ v) (d : decode bts pc = .ok (.getstatic index, 3)) (K : ∀ T', Stand p l e R s m args below meth c T' locs cells slots → T'.heap = h → own_Goes p e below (T'.setTop (mkF m (pc + 3) Ls (v :: S))) P) : own_Goes p e below (T.setTop (mkF m pc Ls S)) P := by
  obtain ⟨T', X', e', st⟩ := getS2 X hx hZ hown w via eT F (g := mkF m pc Ls S) rfl (hb hby d)
  exact gg st (K T' X' e')
theorem qP {bts : ByteArray} {pc : Nat} {Ls : Array Slot} {S : List Value} {P : Outcome → State → Prop} {Z : State} {h : Heap} {a0 : Array Value} {own R0 O n d_ host : String} {index : Nat} {C : String} {kk : Nat} {ty : FieldType} {a : Addr} {v old : Value} (X : Stand p l e R s m args below meth c T locs cells slots) (hx : p.tables.exec = Jvm.exec) (hby : c.code = bts) (hZ : Z.Warmed39 s.vm) (hown : s.vm.findClass own = some m.cls) (w : (Cond.fieldLink own index R0 n d_).before a0 Z = true ∨ (Cond.fieldLinkNest own index R0 n d_ host).before a0 Z = true) (via : Via Z R0 O n d_) (eT : T.heap = h) (F : Fld Z h a O n d_ old) (E : Exa Z h a C) (LW : (Cond.lays C O n d_).before a0 Z = true ∨ ((Cond.laysFinal C O n d_).before a0 Z = true ∧ own = O ∧ meth.name = "<init>")) (wi : (Cond.instantiable C kk).before a0 Z = true) (d : decode bts pc = .ok (.putfield index, 3)) (K : ∀ T' h', Stand p l e R s m args below meth c T' (locs ++ [⟨a, Jvm.RoadKit.slotOf Z O n d_⟩]) cells slots → T'.heap = h' → Wr h h' a (Jvm.RoadKit.slotOf Z O n d_) v → own_Goes p e below (T'.setTop (mkF m (pc + 3) Ls S)) P) (hty : parseFieldDescriptor d_ = some ty := by decide) (hn : narrow ty v = v := by rfl) (hf : fits ty v = true := by rfl) : own_Goes p e below (T.setTop (mkF m pc Ls (v :: .ref a :: S))) P := by
  obtain ⟨T', h', X', e', W', st⟩ := putF X hx hZ hown w via eT F E LW wi hty hn hf (g := mkF m pc Ls (v :: .ref a :: S)) rfl rfl (hb hby d)
  exact gg st (K T' h' X' e' W')
theorem q_caload {bts : ByteArray} {pc : Nat} {Ls : Array Slot} {S : List Value} {P : Outcome → State → Prop} {Z : State} {h : Heap} {a : Addr} {k : ClassId} {n j : Int32} {vs : List Value} {dv : Value} (X : Stand p l e R s m args below meth c T locs cells slots) (hx : p.tables.exec = Jvm.exec) (hby : c.code = bts) (hZ : Z.Warmed39 s.vm) (eT : T.heap = h) (V : Arv Z h a k .char n vs dv) (d : decode bts pc = .ok (.caload, 1)) (v : Value) (K : own_Goes p e below (T.setTop (mkF m (pc + 1) Ls (v :: S))) P) (hj : ¬ j < 0 := by decide) (hn : j < n := by decide) (hv : vs.getD j.toNatClampNeg dv = v := by rfl) : own_Goes p e below (T.setTop (mkF m pc Ls (.int j :: .ref a :: S))) P := by
  obtain ⟨cl, Ar, q, Sz, Ng, Hs, Gs⟩ := V
  have inb : ¬ (j < 0 ∨ cl.slots.size ≤ j.toNatClampNeg) := inb_of Sz ⟨hj, hn⟩
  have at_ : cl.slots[j.toNatClampNeg]? = some v := Hs.at inb hv
  exact gg (fun t k => X.caload hx (j := j) (v := v) (by rw [eT]; exact Ar.1) (State.isArrayOf_alike hZ.alike Ar.2.1) Ar.2.2 inb at_ (g := mkF m pc Ls (.int j :: .ref a :: S)) rfl rfl (hb hby d) _ k) K
theorem q_iaload {bts : ByteArray} {pc : Nat} {Ls : Array Slot} {S : List Value} {P : Outcome → State → Prop} {Z : State} {h : Heap} {a : Addr} {k : ClassId} {n j : Int32} {vs : List Value} {dv : Value} (X : Stand p l e R s m args below meth c T locs cells slots) (hx : p.tables.exec = Jvm.exec) (hby : c.code = bts) (hZ : Z.Warmed39 s.vm) (eT : T.heap = h) (V : Arv Z h a k .int n vs dv) (d : decode bts pc = .ok (.iaload, 1)) (v : Value) (K : own_Goes p e below (T.setTop (mkF m (pc + 1) Ls (v :: S))) P) (hj : ¬ j < 0 := by decide) (hn : j < n := by decide) (hv : vs.getD j.toNatClampNeg dv = v := by rfl) : own_Goes p e below (T.setTop (mkF m pc Ls (.int j :: .ref a :: S))) P := by
  obtain ⟨cl, Ar, q, Sz, Ng, Hs, Gs⟩ := V
  have inb : ¬ (j < 0 ∨ cl.slots.size ≤ j.toNatClampNeg) := inb_of Sz ⟨hj, hn⟩
  have at_ : cl.slots[j.toNatClampNeg]? = some v := Hs.at inb hv
  exact gg (fun t k => X.iaload hx (j := j) (v := v) (by rw [eT]; exact Ar.1) (State.isArrayOf_alike hZ.alike Ar.2.1) Ar.2.2 inb at_ (g := mkF m pc Ls (.int j :: .ref a :: S)) rfl rfl (hb hby d) _ k) K
theorem q_saload {bts : ByteArray} {pc : Nat} {Ls : Array Slot} {S : List Value} {P : Outcome → State → Prop} {Z : State} {h : Heap} {a : Addr} {k : ClassId} {n j : Int32} {vs : List Value} {dv : Value} (X : Stand p l e R s m args below meth c T locs cells slots) (hx : p.tables.exec = Jvm.exec) (hby : c.code = bts) (hZ : Z.Warmed39 s.vm) (eT : T.heap = h) (V : Arv Z h a k .short n vs dv) (d : decode bts pc = .ok (.saload, 1)) (v : Value) (K : own_Goes p e below (T.setTop (mkF m (pc + 1) Ls (v :: S))) P) (hj : ¬ j < 0 := by decide) (hn : j < n := by decide) (hv : vs.getD j.toNatClampNeg dv = v := by rfl) : own_Goes p e below (T.setTop (mkF m pc Ls (.int j :: .ref a :: S))) P := by
  obtain ⟨cl, Ar, q, Sz, Ng, Hs, Gs⟩ := V
  have inb : ¬ (j < 0 ∨ cl.slots.size ≤ j.toNatClampNeg) := inb_of Sz ⟨hj, hn⟩
  have at_ : cl.slots[j.toNatClampNeg]? = some v := Hs.at inb hv
  exact gg (fun t k => X.saload hx (j := j) (v := v) (by rw [eT]; exact Ar.1) (State.isArrayOf_alike hZ.alike Ar.2.1) Ar.2.2 inb at_ (g := mkF m pc Ls (.int j :: .ref a :: S)) rfl rfl (hb hby d) _ k) K
theorem q_laload {bts : ByteArray} {pc : Nat} {Ls : Array Slot} {S : List Value} {P : Outcome → State → Prop} {Z : State} {h : Heap} {a : Addr} {k : ClassId} {n j : Int32} {vs : List Value} {dv : Value} (X : Stand p l e R s m args below meth c T locs cells slots) (hx : p.tables.exec = Jvm.exec) (hby : c.code = bts) (hZ : Z.Warmed39 s.vm) (eT : T.heap = h) (V : Arv Z h a k .long n vs dv) (d : decode bts pc = .ok (.laload, 1)) (v : Value) (K : own_Goes p e below (T.setTop (mkF m (pc + 1) Ls (v :: S))) P) (hj : ¬ j < 0 := by decide) (hn : j < n := by decide) (hv : vs.getD j.toNatClampNeg dv = v := by rfl) : own_Goes p e below (T.setTop (mkF m pc Ls (.int j :: .ref a :: S))) P := by
  obtain ⟨cl, Ar, q, Sz, Ng, Hs, Gs⟩ := V
  have inb : ¬ (j < 0 ∨ cl.slots.size ≤ j.toNatClampNeg) := inb_of Sz ⟨hj, hn⟩
  have at_ : cl.slots[j.toNatClampNeg]? = some v := Hs.at inb hv
  exact gg (fun t k => X.laload hx (j := j) (v := v) (by rw [eT]; exact Ar.1) (State.isArrayOf_alike hZ.alike Ar.2.1) Ar.2.2 inb at_ (g := mkF m pc Ls (.int j :: .ref a :: S)) rfl rfl (hb hby d) _ k) K
theorem q_baloadBytes {bts : ByteArray} {pc : Nat} {Ls : Array Slot} {S : List Value} {P : Outcome → State → Prop} {Z : State} {h : Heap} {a : Addr} {k : ClassId} {n j : Int32} {vs : List Value} {dv : Value} (X : Stand p l e R s m args below meth c T locs cells slots) (hx : p.tables.exec = Jvm.exec) (hby : c.code = bts) (hZ : Z.Warmed39 s.vm) (eT : T.heap = h) (V : Arv Z h a k .byte n vs dv) (d : decode bts pc = .ok (.baload, 1)) (v : Value) (K : own_Goes p e below (T.setTop (mkF m (pc + 1) Ls (v :: S))) P) (hj : ¬ j < 0 := by decide) (hn : j < n := by decide) (hv : vs.getD j.toNatClampNeg dv = v := by rfl) : own_Goes p e below (T.setTop (mkF m pc Ls (.int j :: .ref a :: S))) P := by
  obtain ⟨cl, Ar, q, Sz, Ng, Hs, Gs⟩ := V
  have inb : ¬ (j < 0 ∨ cl.slots.size ≤ j.toNatClampNeg) := inb_of Sz ⟨hj, hn⟩
  have at_ : cl.slots[j.toNatClampNeg]? = some v := Hs.at inb hv
  exact gg (fun t k => X.baloadBytes hx (j := j) (v := v) (by rw [eT]; exact Ar.1) (State.isArrayOf_alike hZ.alike Ar.2.1) Ar.2.2 inb at_ (g := mkF m pc Ls (.int j :: .ref a :: S)) rfl rfl (hb hby d) _ k) K
theorem q_aaload {bts : ByteArray} {pc : Nat} {Ls : Array Slot} {S : List Value} {P : Outcome → State → Prop} {Z : State} {h : Heap} {a : Addr} {k : ClassId} {n j : Int32} {vs : List Value} {dv : Value} {ty : FieldType} (X : Stand p l e R s m args below meth c T locs cells slots) (hx : p.tables.exec = Jvm.exec) (hby : c.code = bts) (hZ : Z.Warmed39 s.vm) (eT : T.heap = h) (V : Arv Z h a k ty n vs dv) (d : decode bts pc = .ok (.aaload, 1)) (v : Value) (K : own_Goes p e below (T.setTop (mkF m (pc + 1) Ls (v :: S))) P) (hty : ty.isReference = true := by rfl) (hj : ¬ j < 0 := by decide) (hn : j < n := by decide) (hv : vs.getD j.toNatClampNeg dv = v := by rfl) : own_Goes p e below (T.setTop (mkF m pc Ls (.int j :: .ref a :: S))) P := by
  obtain ⟨cl, Ar, q, Sz, Ng, Hs, Gs⟩ := V
  have inb : ¬ (j < 0 ∨ cl.slots.size ≤ j.toNatClampNeg) := inb_of Sz ⟨hj, hn⟩
  have at_ : cl.slots[j.toNatClampNeg]? = some v := Hs.at inb hv
  exact gg (fun t k => X.aaload hx (j := j) (v := v) (by rw [eT]; exact Ar.1) (State.isArrayOf_alike hZ.alike Ar.2.1) hty Ar.2.2 inb at_ (g := mkF m pc Ls (.int j :: .ref a :: S)) rfl rfl (hb hby d) _ k) K
theorem q_len {bts : ByteArray} {pc : Nat} {Ls : Array Slot} {S : List Value} {P : Outcome → State → Prop} {Z : State} {h : Heap} {a : Addr} {k : ClassId} {n : Int32} {vs : List Value} {dv : Value} {ty : FieldType} (X : Stand p l e R s m args below meth c T locs cells slots) (hx : p.tables.exec = Jvm.exec) (hby : c.code = bts) (hZ : Z.Warmed39 s.vm) (eT : T.heap = h) (V : Arv Z h a k ty n vs dv) (d : decode bts pc = .ok (.arraylength, 1)) (K : own_Goes p e below (T.setTop (mkF m (pc + 1) Ls (.int n :: S))) P) : own_Goes p e below (T.setTop (mkF m pc Ls (.ref a :: S))) P := by
  obtain ⟨cl, Ar, q, Sz, Ng, Hs, Gs⟩ := V
  refine gg (fun t k => X.arraylength hx (by rw [eT]; exact Ar.1) (State.isArrayOf_alike hZ.alike Ar.2.1) (g := mkF m pc Ls (.ref a :: S)) rfl rfl (hb hby d) _ k) ?_
  rw [len_of Sz Ng]
  exact K
theorem q_stB {bts : ByteArray} {pc : Nat} {Ls : Array Slot} {S : List Value} {P : Outcome → State → Prop} {Z : State} {h : Heap} {a : Addr} {k : ClassId} {n j x : Int32} {vs : List Value} {dv : Value} (X : Stand p l e R s m args below meth c T locs cells slots) (hx : p.tables.exec = Jvm.exec) (hby : c.code = bts) (hZ : Z.Warmed39 s.vm) (eT : T.heap = h) (V : Arv Z h a k .byte n vs dv) (i : Nat) (d : decode bts pc = .ok (.bastore, 1)) (K : ∀ T' h', Stand p l e R s m args below meth c T' (locs ++ [⟨a, j.toNatClampNeg⟩]) cells slots → T'.heap = h' → Wr h h' a j.toNatClampNeg (.int (nar .byte x)) → Arv Z h' a k .byte n (vs.set i (.int (nar .byte x))) dv → own_Goes p e below (T'.setTop (mkF m (pc + 1) Ls S)) P) (hj : ¬ j < 0 := by decide) (hn : j < n := by decide) (hi : j.toNatClampNeg = i := by rfl) (hl : i < vs.length := by exact Nat.le_of_ble_eq_true rfl) : own_Goes p e below (T.setTop (mkF m pc Ls (.int x :: .int j :: .ref a :: S))) P := by
  obtain ⟨cl, Ar, q, Sz, Ng, Hs, Gs⟩ := V
  have inb : ¬ (j < 0 ∨ cl.slots.size ≤ j.toNatClampNeg) := inb_of Sz ⟨hj, hn⟩
  obtain ⟨T', h', X', e', W', st⟩ := stB X hx hZ eT Ar (j := j) inb (g := mkF m pc Ls (.int x :: .int j :: .ref a :: S)) rfl rfl (hb hby d)
  exact gg st (K T' h' X' e' W' (Arv.set Ar q Sz Ng Hs Gs (fits_nar_byte _) W' i hi hl))
theorem q_stC {bts : ByteArray} {pc : Nat} {Ls : Array Slot} {S : List Value} {P : Outcome → State → Prop} {Z : State} {h : Heap} {a : Addr} {k : ClassId} {n j x : Int32} {vs : List Value} {dv : Value} (X : Stand p l e R s m args below meth c T locs cells slots) (hx : p.tables.exec = Jvm.exec) (hby : c.code = bts) (hZ : Z.Warmed39 s.vm) (eT : T.heap = h) (V : Arv Z h a k .char n vs dv) (i : Nat) (d : decode bts pc = .ok (.castore, 1)) (K : ∀ T' h', Stand p l e R s m args below meth c T' (locs ++ [⟨a, j.toNatClampNeg⟩]) cells slots → T'.heap = h' → Wr h h' a j.toNatClampNeg (.int (nar .char x)) → Arv Z h' a k .char n (vs.set i (.int (nar .char x))) dv → own_Goes p e below (T'.setTop (mkF m (pc + 1) Ls S)) P) (hj : ¬ j < 0 := by decide) (hn : j < n := by decide) (hi : j.toNatClampNeg = i := by rfl) (hl : i < vs.length := by exact Nat.le_of_ble_eq_true rfl) : own_Goes p e below (T.setTop (mkF m pc Ls (.int x :: .int j :: .ref a :: S))) P := by
  obtain ⟨cl, Ar, q, Sz, Ng, Hs, Gs⟩ := V
  have inb : ¬ (j < 0 ∨ cl.slots.size ≤ j.toNatClampNeg) := inb_of Sz ⟨hj, hn⟩
  obtain ⟨T', h', X', e', W', st⟩ := stC X hx hZ eT Ar (j := j) inb (g := mkF m pc Ls (.int x :: .int j :: .ref a :: S)) rfl rfl (hb hby d)
  exact gg st (K T' h' X' e' W' (Arv.set Ar q Sz Ng Hs Gs (fits_nar_char _) W' i hi hl))
theorem q_stI {bts : ByteArray} {pc : Nat} {Ls : Array Slot} {S : List Value} {P : Outcome → State → Prop} {Z : State} {h : Heap} {a : Addr} {k : ClassId} {n j x : Int32} {vs : List Value} {dv : Value} (X : Stand p l e R s m args below meth c T locs cells slots) (hx : p.tables.exec = Jvm.exec) (hby : c.code = bts) (hZ : Z.Warmed39 s.vm) (eT : T.heap = h) (V : Arv Z h a k .int n vs dv) (i : Nat) (d : decode bts pc = .ok (.iastore, 1)) (K : ∀ T' h', Stand p l e R s m args below meth c T' (locs ++ [⟨a, j.toNatClampNeg⟩]) cells slots → T'.heap = h' → Wr h h' a j.toNatClampNeg (.int (x)) → Arv Z h' a k .int n (vs.set i (.int (x))) dv → own_Goes p e below (T'.setTop (mkF m (pc + 1) Ls S)) P) (hj : ¬ j < 0 := by decide) (hn : j < n := by decide) (hi : j.toNatClampNeg = i := by rfl) (hl : i < vs.length := by exact Nat.le_of_ble_eq_true rfl) : own_Goes p e below (T.setTop (mkF m pc Ls (.int x :: .int j :: .ref a :: S))) P := by
  obtain ⟨cl, Ar, q, Sz, Ng, Hs, Gs⟩ := V
  have inb : ¬ (j < 0 ∨ cl.slots.size ≤ j.toNatClampNeg) := inb_of Sz ⟨hj, hn⟩
  obtain ⟨T', h', X', e', W', st⟩ := stI X hx hZ eT Ar (j := j) inb (g := mkF m pc Ls (.int x :: .int j :: .ref a :: S)) rfl rfl (hb hby d)
  exact gg st (K T' h' X' e' W' (Arv.set Ar q Sz Ng Hs Gs rfl W' i hi hl))
theorem r_I {bts : ByteArray} {pc : Nat} {Ls : Array Slot} {S : List Value} {h : Heap} {Qc : Option Value → Heap → List Loc → Prop} {k n : Nat} {z : Int32} (X : Stand p l e R s m args below meth c T locs cells slots) (hx : p.tables.exec = Jvm.exec) (hby : c.code = bts) (hret : meth.sig.returnType = some .int) (hlk : meth.locks = false) (d : decode bts pc = .ok (.ireturn, 1)) (eT : T.heap = h) (hQ : Qc (some (.int z)) h locs) (hn : narrow .int (.int z) = .int z := by rfl) (hk : cells ≤ k := by decide) (hs : slots ≤ n := by decide) : own_Goes p e below (T.setTop (mkF m pc Ls (.int z :: S))) (own_PostN s Qc k n) := by
  subst eT
  exact own_endN X (v := some (.int z)) (fun h => by rw [hret] at h; cases h) hlk hk hs hQ (fun fs hr => retOut X hx hret hn (Or.inl ⟨rfl, Or.inl rfl, _, rfl⟩) (hb hby d) hr)
theorem r_Z {bts : ByteArray} {pc : Nat} {Ls : Array Slot} {S : List Value} {h : Heap} {Qc : Option Value → Heap → List Loc → Prop} {k n : Nat} {z : Int32} (X : Stand p l e R s m args below meth c T locs cells slots) (hx : p.tables.exec = Jvm.exec) (hby : c.code = bts) (hret : meth.sig.returnType = some .boolean) (hlk : meth.locks = false) (d : decode bts pc = .ok (.ireturn, 1)) (eT : T.heap = h) (hQ : Qc (some (.int z)) h locs) (hn : narrow .boolean (.int z) = .int z := by rfl) (hk : cells ≤ k := by decide) (hs : slots ≤ n := by decide) : own_Goes p e below (T.setTop (mkF m pc Ls (.int z :: S))) (own_PostN s Qc k n) := by
  subst eT
  exact own_endN X (v := some (.int z)) (fun h => by rw [hret] at h; cases h) hlk hk hs hQ (fun fs hr => retOut X hx hret hn (Or.inl ⟨rfl, Or.inr (Or.inl rfl), _, rfl⟩) (hb hby d) hr)
theorem r_B {bts : ByteArray} {pc : Nat} {Ls : Array Slot} {S : List Value} {h : Heap} {Qc : Option Value → Heap → List Loc → Prop} {k n : Nat} {z : Int32} (X : Stand p l e R s m args below meth c T locs cells slots) (hx : p.tables.exec = Jvm.exec) (hby : c.code = bts) (hret : meth.sig.returnType = some .byte) (hlk : meth.locks = false) (d : decode bts pc = .ok (.ireturn, 1)) (eT : T.heap = h) (hQ : Qc (some (.int z)) h locs) (hn : narrow .byte (.int z) = .int z := by rfl) (hk : cells ≤ k := by decide) (hs : slots ≤ n := by decide) : own_Goes p e below (T.setTop (mkF m pc Ls (.int z :: S))) (own_PostN s Qc k n) := by
  subst eT
  exact own_endN X (v := some (.int z)) (fun h => by rw [hret] at h; cases h) hlk hk hs hQ (fun fs hr => retOut X hx hret hn (Or.inl ⟨rfl, Or.inr (Or.inr (Or.inl rfl)), _, rfl⟩) (hb hby d) hr)
theorem r_C {bts : ByteArray} {pc : Nat} {Ls : Array Slot} {S : List Value} {h : Heap} {Qc : Option Value → Heap → List Loc → Prop} {k n : Nat} {z : Int32} (X : Stand p l e R s m args below meth c T locs cells slots) (hx : p.tables.exec = Jvm.exec) (hby : c.code = bts) (hret : meth.sig.returnType = some .char) (hlk : meth.locks = false) (d : decode bts pc = .ok (.ireturn, 1)) (eT : T.heap = h) (hQ : Qc (some (.int z)) h locs) (hn : narrow .char (.int z) = .int z := by rfl) (hk : cells ≤ k := by decide) (hs : slots ≤ n := by decide) : own_Goes p e below (T.setTop (mkF m pc Ls (.int z :: S))) (own_PostN s Qc k n) := by
  subst eT
  exact own_endN X (v := some (.int z)) (fun h => by rw [hret] at h; cases h) hlk hk hs hQ (fun fs hr => retOut X hx hret hn (Or.inl ⟨rfl, Or.inr (Or.inr (Or.inr (Or.inl rfl))), _, rfl⟩) (hb hby d) hr)
theorem r_S {bts : ByteArray} {pc : Nat} {Ls : Array Slot} {S : List Value} {h : Heap} {Qc : Option Value → Heap → List Loc → Prop} {k n : Nat} {z : Int32} (X : Stand p l e R s m args below meth c T locs cells slots) (hx : p.tables.exec = Jvm.exec) (hby : c.code = bts) (hret : meth.sig.returnType = some .short) (hlk : meth.locks = false) (d : decode bts pc = .ok (.ireturn, 1)) (eT : T.heap = h) (hQ : Qc (some (.int z)) h locs) (hn : narrow .short (.int z) = .int z := by rfl) (hk : cells ≤ k := by decide) (hs : slots ≤ n := by decide) : own_Goes p e below (T.setTop (mkF m pc Ls (.int z :: S))) (own_PostN s Qc k n) := by
  subst eT
  exact own_endN X (v := some (.int z)) (fun h => by rw [hret] at h; cases h) hlk hk hs hQ (fun fs hr => retOut X hx hret hn (Or.inl ⟨rfl, Or.inr (Or.inr (Or.inr (Or.inr (rfl)))), _, rfl⟩) (hb hby d) hr)
theorem r_R {bts : ByteArray} {pc : Nat} {Ls : Array Slot} {S : List Value} {h : Heap} {Qc : Option Value → Heap → List Loc → Prop} {k n : Nat} {w : Value} {t : FieldType} (X : Stand p l e R s m args below meth c T locs cells slots) (hx : p.tables.exec = Jvm.exec) (hby : c.code = bts) (hret : meth.sig.returnType = some t) (hlk : meth.locks = false) (d : decode bts pc = .ok (.areturn, 1)) (eT : T.heap = h) (hQ : Qc (some w) h locs) (hn : narrow t w = w := by rfl) (ht : t.isReference = true := by rfl) (hw : w.isRef = true := by rfl) (hk : cells ≤ k := by decide) (hs : slots ≤ n := by decide) : own_Goes p e below (T.setTop (mkF m pc Ls (w :: S))) (own_PostN s Qc k n) := by
  subst eT
  exact own_endN X (v := some w) (fun h => by rw [hret] at h; cases h) hlk hk hs hQ (fun fs hr => retOut X hx hret hn (Or.inr (Or.inr (Or.inr (Or.inr ⟨rfl, ht, hw⟩)))) (hb hby d) hr)
theorem r_V {bts : ByteArray} {pc : Nat} {Ls : Array Slot} {h : Heap} {Qc : Option Value → Heap → List Loc → Prop} {k n : Nat} (X : Stand p l e R s m args below meth c T locs cells slots) (hx : p.tables.exec = Jvm.exec) (hby : c.code = bts) (hret : meth.sig.returnType = none) (hlk : meth.locks = false) (d : decode bts pc = .ok (.return_, 1)) (eT : T.heap = h) (hQ : Qc none h locs) (hk : cells ≤ k := by decide) (hs : slots ≤ n := by decide) : own_Goes p e below (T.setTop (mkF m pc Ls [])) (own_PostN s Qc k n) := by
  subst eT
  exact own_endN X (v := none) (fun _ => rfl) hlk hk hs hQ (fun fs hr => X.returnOut hx hret (hb hby d) hr)
end OwnKit2
def GG (Z : State) (gwD : Addr) (gz : Int32) (gwc : Addr) (gcl : Cell) : Prop := Sta Z Z.heap "java/util/ArrayList" "DEFAULTCAPACITY_EMPTY_ELEMENTDATA" "[Ljava/lang/Object;" (.ref gwD) ∧ Exa Z Z.heap gwD "[Ljava/lang/Object;" ∧ Sta Z Z.heap "java/lang/String" "COMPACT_STRINGS" "Z" (.int gz) ∧ ¬ gz = (0 : Int32) ∧ Sta Z Z.heap "java/lang/Integer$IntegerCache" "high" "I" (.int 127) ∧ Sta Z Z.heap "java/lang/Integer$IntegerCache" "cache" "[Ljava/lang/Integer;" (.ref gwc) ∧ Bxs Z gwc gcl "java/lang/Integer" "I" (256 : Int32) (fun j => .int (j - 128))
theorem own_len {s : State} {args : Array Value} {t : Term} {w : Addr} {cl : Cell} {ty : FieldType} {n : Int32} (ev : t.eval args s none [] s = some (.ref w)) (A : Arr s s.heap w cl ty) (l : (Term.length t).eval args s none [] s = some (.int n)) : cl.slots.size.toInt32 = n ∧ cl.slots.size < 2 ^ 31 := by
  have ha : s.arrayAt? w = some cl := A.fin (Vm.Alike.refl _)
  by_cases hl : cl.slots.size < 2 ^ 31
  · exact ⟨Value.int.inj (Option.some.inj ((len_f ev ha hl).symm.trans l)), hl⟩
  · simp [Term.eval, ev, ha, hl] at l
theorem own_sub {s : State} {args : Array Value} {t : Term} {idx : List Nat} {j n : Int32} (e : t.eval args s none idx s = some (.int j)) : (Term.sub t (.int n)).eval args s none idx s = some (.int (j - n)) := by
  simp [Term.eval, e]
theorem own_fldNull {s : State} {args : Array Value} {t : Term} {C n d : String} {w : Addr} (ev : t.eval args s none [] s = some (.ref w)) (h : (Cond.eq (Term.field t C n d) .null).value args s none s [] = some true) : Fld s s.heap w C n d .null := Fld.start ((fld_at ev).symm.trans (null_v h))

theorem own_bxs {s : State} {args : Array Value} {gwc : Addr} {gcl : Cell} (eCa : (Term.static "java/lang/Integer$IntegerCache" "cache" "[Ljava/lang/Integer;").eval args s none [] s = some (.ref gwc)) (aCa : Arr s s.heap gwc gcl (.object "java/lang/Integer")) (lCa : (Term.length (Term.static "java/lang/Integer$IntegerCache" "cache" "[Ljava/lang/Integer;")).eval args s none [] s = some (.int 256))
    (h : (Jvm.Cond.all (Term.static "java/lang/Integer$IntegerCache" "cache" "[Ljava/lang/Integer;") (.and (.exactly (.elem (Term.static "java/lang/Integer$IntegerCache" "cache" "[Ljava/lang/Integer;") (.index 0)) "java/lang/Integer") (.eq (.field (.elem (Term.static "java/lang/Integer$IntegerCache" "cache" "[Ljava/lang/Integer;") (.index 0)) "java/lang/Integer" "value" "I") (.sub (.index 0) (.int 128))))).value args s none s [] = some true) :
    Bxs s gwc gcl "java/lang/Integer" "I" (256 : Int32) (fun j => .int (j - 128)) := by
  have hl : gcl.slots.size.toInt32 = (256 : Int32) ∧ gcl.slots.size < 2 ^ 31 := own_len eCa aCa lCa
  refine Bxs.start (F := .sub (.index 0) (.int 128)) (fun idx => eCa) aCa hl.2 hl.1 (by decide) h (fun X j nn q => ?_)
  exact eqv_i (own_sub (idx_at nn)) q

def own_max (a b : Int32) : Int32 := if a < b then b else a
def own_min (a b : Int32) : Int32 := if b < a then b else a
theorem own_maxT {a b : Int32} (h : a < b) : own_max a b = b := if_pos h
theorem own_maxF {a b : Int32} (h : ¬ a < b) : own_max a b = a := if_neg h
theorem own_minT {a b : Int32} (h : b < a) : own_min a b = b := if_pos h
theorem own_minF {a b : Int32} (h : ¬ b < a) : own_min a b = a := if_neg h
theorem own_maxI (a b : Int32) : (own_max a b).toInt = max a.toInt b.toInt := by
  by_cases h : a < b
  · rw [own_maxT h]; rw [Int32.lt_iff_toInt_lt] at h; omega
  · rw [own_maxF h]; rw [Int32.lt_iff_toInt_lt] at h; omega
theorem own_minI (a b : Int32) : (own_min a b).toInt = min a.toInt b.toInt := by
  by_cases h : b < a
  · rw [own_minT h]; rw [Int32.lt_iff_toInt_lt] at h; omega
  · rw [own_minF h]; rw [Int32.lt_iff_toInt_lt] at h; omega
theorem own_ltI {a b : Int32} (h : a < b) : a.toInt < b.toInt := Int32.lt_iff_toInt_lt.mp h
theorem own_nltI {a b : Int32} (h : ¬ a < b) : b.toInt ≤ a.toInt := by rw [Int32.lt_iff_toInt_lt] at h; omega
theorem own_eqI {a b : Int32} (h : a.toInt = b.toInt) : a = b := Int32.toInt_inj.mp h
theorem own_i0 : (0 : Int32).toInt = 0 := by decide
theorem own_i1 : (1 : Int32).toInt = 1 := by decide
def own_S3 (x0 x1 x2 y0 y1 y2 : Int32) : Prop := y0.toInt ≤ y1.toInt ∧ y1.toInt ≤ y2.toInt ∧ y0.toInt = min x0.toInt (min x1.toInt x2.toInt) ∧ y2.toInt = max x0.toInt (max x1.toInt x2.toInt) ∧ y0.toInt + y1.toInt + y2.toInt = x0.toInt + x1.toInt + x2.toInt
def own_S2 (x0 x1 y0 y1 : Int32) : Prop := y0.toInt = min x0.toInt x1.toInt ∧ y1.toInt = max x0.toInt x1.toInt
theorem own_S3i {x0 x1 x2 y0 y1 y2 : Int32} (h : own_S3 x0 x1 x2 y0 y1 y2) : y0.toInt ≤ y1.toInt ∧ y1.toInt ≤ y2.toInt ∧ y0.toInt = min x0.toInt (min x1.toInt x2.toInt) ∧ y2.toInt = max x0.toInt (max x1.toInt x2.toInt) ∧ y0.toInt + y1.toInt + y2.toInt = x0.toInt + x1.toInt + x2.toInt := h
theorem own_S2i {x0 x1 y0 y1 : Int32} (h : own_S2 x0 x1 y0 y1) : y0.toInt = min x0.toInt x1.toInt ∧ y1.toInt = max x0.toInt x1.toInt := h

theorem d3_0 : decode B3 0 = .ok (.aload_n 0, 1) := by decide +kernel
theorem d3_1 : decode B3 1 = .ok (.invokespecial 1, 3) := by decide +kernel
theorem d3_4 : decode B3 4 = .ok (.return_, 1) := by decide +kernel
theorem own_pn_java_util_AbstractCollection : plainName "java/util/AbstractCollection" = true := by first | (simp [plainName, overriddenIn]; done) | decide +kernel
theorem own_ef_own_acInit (m : MethodId) (xa : Addr) : entryFrame m #[.ref xa] 1 = mkF m 0 #[vR xa] [] := by first | (simp [entryFrame, mkF, argsToLocals, Value.category]; done) | rfl
def Q_own_acInit (Z : State) (xa : Addr) (h0 : Heap) (n0 : Nat) (v : Option Value) (h : Heap) (L : List Loc) : Prop := Fr n0 L ∧ h = h0 ∧ v = none
theorem own_acInit (l : Launch) (Z : State) (a0 : Array Value) (hw : ∀ d ∈ tables_1, d.before a0 Z = true) (ws : List Jvm.Cond) (xa : Addr) (h0 : Heap) (n0 : Nat) (O0 : Old Z n0 h0) : own_Met l Z (⟨"java/util/AbstractCollection", "<init>", "()V"⟩ : MethodName) jdk_22_method_1_code 1 none ws ({ frames := 1, cells := 0, slots := 0, locals := 12 } : Room) #[.ref xa] h0 (Q_own_acInit Z xa h0 n0) := by
  refine own_mk (plainFor_of_name own_pn_java_util_AbstractCollection) O0 ?_
  intro p e s m below meth c s₁ hx hby hml hZ hown hnm hlk hret X0 e0 N0 z0 z1
  refine own_cast (own_ef_own_acInit m xa) ?_
  show own_Goes p e below (s₁.setTop (mkF m 0 #[vR xa] [])) _
  refine q_aloadN X0 hx hby d3_0 rfl rfl ?_
  obtain ⟨T1, X1, e1, st1⟩ := initO X0 hx hZ hown (wh hw 18 rfl) (wh hw 19 rfl) (wh hw 20 rfl) e0 (g := (mkF m 1 #[vR xa] [.ref xa])) rfl (by rw [hml]; rfl) rfl (hb hby d3_1) (by decide) (W := 0) (by show 2 * 0 + _ ≤ _; exact Nat.le_of_eq rfl) (by decide)
  refine gg st1 ?_
  refine r_V X1 hx hby hret hlk d3_4 e1 ?_
  exact ⟨N0, rfl, rfl⟩
theorem d6_0 : decode B6 0 = .ok (.aload_n 0, 1) := by decide +kernel
theorem d6_1 : decode B6 1 = .ok (.invokespecial 1, 3) := by decide +kernel
theorem d6_4 : decode B6 4 = .ok (.return_, 1) := by decide +kernel
theorem own_pn_java_util_AbstractMap : plainName "java/util/AbstractMap" = true := by first | (simp [plainName, overriddenIn]; done) | decide +kernel
theorem own_ef_own_amInit (m : MethodId) (xa : Addr) : entryFrame m #[.ref xa] 1 = mkF m 0 #[vR xa] [] := by first | (simp [entryFrame, mkF, argsToLocals, Value.category]; done) | rfl
def Q_own_amInit (Z : State) (xa : Addr) (h0 : Heap) (n0 : Nat) (v : Option Value) (h : Heap) (L : List Loc) : Prop := Fr n0 L ∧ h = h0 ∧ v = none
theorem own_amInit (l : Launch) (Z : State) (a0 : Array Value) (hw : ∀ d ∈ tables_1, d.before a0 Z = true) (ws : List Jvm.Cond) (xa : Addr) (h0 : Heap) (n0 : Nat) (O0 : Old Z n0 h0) : own_Met l Z (⟨"java/util/AbstractMap", "<init>", "()V"⟩ : MethodName) jdk_71_method_1_code 1 none ws ({ frames := 1, cells := 0, slots := 0, locals := 12 } : Room) #[.ref xa] h0 (Q_own_amInit Z xa h0 n0) := by
  refine own_mk (plainFor_of_name own_pn_java_util_AbstractMap) O0 ?_
  intro p e s m below meth c s₁ hx hby hml hZ hown hnm hlk hret X0 e0 N0 z0 z1
  refine own_cast (own_ef_own_amInit m xa) ?_
  show own_Goes p e below (s₁.setTop (mkF m 0 #[vR xa] [])) _
  refine q_aloadN X0 hx hby d6_0 rfl rfl ?_
  obtain ⟨T1, X1, e1, st1⟩ := initO X0 hx hZ hown (wh hw 38 rfl) (wh hw 19 rfl) (wh hw 20 rfl) e0 (g := (mkF m 1 #[vR xa] [.ref xa])) rfl (by rw [hml]; rfl) rfl (hb hby d6_1) (by decide) (W := 0) (by show 2 * 0 + _ ≤ _; exact Nat.le_of_eq rfl) (by decide)
  refine gg st1 ?_
  refine r_V X1 hx hby hret hlk d6_4 e1 ?_
  exact ⟨N0, rfl, rfl⟩
theorem d2_0 : decode B2 0 = .ok (.aload_n 0, 1) := by decide +kernel
theorem d2_1 : decode B2 1 = .ok (.invokespecial 1, 3) := by decide +kernel
theorem own_pd_0 : parseMethodDescriptor "()V" = some ⟨[], none⟩ := by decide +kernel
theorem d2_4 : decode B2 4 = .ok (.aload_n 0, 1) := by decide +kernel
theorem d2_5 : decode B2 5 = .ok (.iconst 0, 1) := by decide +kernel
theorem d2_6 : decode B2 6 = .ok (.putfield 7, 3) := by decide +kernel
theorem d2_9 : decode B2 9 = .ok (.return_, 1) := by decide +kernel
theorem own_pn_java_util_AbstractList : plainName "java/util/AbstractList" = true := by first | (simp [plainName, overriddenIn]; done) | decide +kernel
theorem own_ef_own_alsInit (m : MethodId) (xa : Addr) : entryFrame m #[.ref xa] 1 = mkF m 0 #[vR xa] [] := by first | (simp [entryFrame, mkF, argsToLocals, Value.category]; done) | rfl
def Q_own_alsInit (Z : State) (xa : Addr) (h0 : Heap) (n0 : Nat) (v : Option Value) (h : Heap) (L : List Loc) : Prop := Fr n0 L ∧ Keep h0 h [xa] ∧ v = none ∧ Fld Z h xa "java/util/ArrayList" "elementData" "[Ljava/lang/Object;" .null ∧ Fld Z h xa "java/util/ArrayList" "size" "I" (.int 0)
theorem own_alsInit (l : Launch) (Z : State) (a0 : Array Value) (hw : ∀ d ∈ tables_1, d.before a0 Z = true) (ws : List Jvm.Cond) (xa : Addr) (h0 : Heap) (n0 : Nat) (O0 : Old Z n0 h0) (P0 : Exa Z h0 xa "java/util/ArrayList") (P1 : Fld Z h0 xa "java/util/AbstractList" "modCount" "I" (.int 0)) (P2 : n0 ≤ xa) (P3 : Fld Z h0 xa "java/util/ArrayList" "elementData" "[Ljava/lang/Object;" .null) (P4 : Fld Z h0 xa "java/util/ArrayList" "size" "I" (.int 0)) : own_Met l Z (⟨"java/util/AbstractList", "<init>", "()V"⟩ : MethodName) jdk_39_method_1_code 1 none ws ({ frames := 2, cells := 0, slots := 0, locals := 24 } : Room) #[.ref xa] h0 (Q_own_alsInit Z xa h0 n0) := by
  refine own_mk (plainFor_of_name own_pn_java_util_AbstractList) O0 ?_
  intro p e s m below meth c s₁ hx hby hml hZ hown hnm hlk hret X0 e0 N0 z0 z1
  have K0 : Keep h0 h0 [xa] := Keep.refl _ _
  refine own_cast (own_ef_own_alsInit m xa) ?_
  show own_Goes p e below (s₁.setTop (mkF m 0 #[vR xa] [])) _
  have ltP0 : @LT.lt Nat _ xa h0.size := P0.lt
  refine q_aloadN X0 hx hby d2_0 rfl rfl ?_
  refine k_N X0 hx hby hZ hown (wh hw 12 rfl) (wh hw 13 rfl) (W := 0) (own_acInit l Z a0 hw [] xa h0 n0 O0) (wh hw 17 rfl) (wh hw 16 rfl) e0  hml (argsL := []) (rest := []) own_pd_0 d2_1 (fun _ T1 L1 X1 hQ1 => ?_)
  obtain ⟨Nc1, e1, rfl⟩ := hQ1
  have N1 := Fr.app N0 Nc1
  refine q_aloadN X1 hx hby d2_4 rfl rfl ?_
  refine q_iconst X1 hx hby d2_5 ?_
  refine qP X1 hx hby hZ hown (host := "") (Or.inl (wh hw 21 rfl)) Via.refl e1 P1 P0 (Or.inl (wh hw 22 rfl)) (wh hw 1 rfl) (ty := .int) d2_6 (fun T2 h2 X2 e2 W2 => ?_)
  have O3 := O0.wr W2 (show n0 ≤ xa by omega)
  have sz4 : h2.size = h0.size := Wr.size W2
  have K5 := K0.wr W2 (Or.inl (List.mem_of_getElem? (i := 0) rfl))
  have N2 := Fr.snoc X2 N1 (show n0 ≤ xa by omega)
  have Fw2 := P1.same W2
  refine r_V X2 hx hby hret hlk d2_9 e2 ?_
  have f6 := (P3.other W2 (Or.inr (slot_ne (Or.inl (wh hw 25 rfl)) (Or.inl (wh hw 22 rfl)) (by decide) (t := (.array (.object "java/lang/Object"))) (t' := .int) (by decide) (by decide))))
  have f7 := (P4.other W2 (Or.inr (slot_ne (Or.inl (wh hw 59 rfl)) (Or.inl (wh hw 22 rfl)) (by decide) (t := .int) (t' := .int) (by decide) (by decide))))
  exact ⟨N2, K5, rfl, f6, f7⟩
theorem d1_0 : decode B1 0 = .ok (.aload_n 0, 1) := by decide +kernel
theorem d1_1 : decode B1 1 = .ok (.invokespecial 1, 3) := by decide +kernel
theorem d1_4 : decode B1 4 = .ok (.aload_n 0, 1) := by decide +kernel
theorem d1_5 : decode B1 5 = .ok (.getstatic 39, 3) := by decide +kernel
theorem d1_8 : decode B1 8 = .ok (.putfield 9, 3) := by decide +kernel
theorem d1_11 : decode B1 11 = .ok (.return_, 1) := by decide +kernel
theorem own_pn_java_util_ArrayList : plainName "java/util/ArrayList" = true := by first | (simp [plainName, overriddenIn]; done) | decide +kernel
theorem own_ef_own_alInit (m : MethodId) (xa : Addr) : entryFrame m #[.ref xa] 1 = mkF m 0 #[vR xa] [] := by first | (simp [entryFrame, mkF, argsToLocals, Value.category]; done) | rfl
def Q_own_alInit (Z : State) (xa : Addr) (gwD : Addr) (gz : Int32) (gwc : Addr) (gcl : Cell) (h0 : Heap) (n0 : Nat) (v : Option Value) (h : Heap) (L : List Loc) : Prop := Fr n0 L ∧ Keep h0 h [xa] ∧ v = none ∧ Fld Z h xa "java/util/ArrayList" "size" "I" (.int 0)
theorem own_alInit (l : Launch) (Z : State) (a0 : Array Value) (hw : ∀ d ∈ tables_1, d.before a0 Z = true) (ws : List Jvm.Cond) (xa : Addr) (h0 : Heap) (n0 : Nat) (O0 : Old Z n0 h0) (gwD : Addr) (gz : Int32) (gwc : Addr) (gcl : Cell) (G : GG Z gwD gz gwc gcl) (P0 : Exa Z h0 xa "java/util/ArrayList") (P1 : Fld Z h0 xa "java/util/AbstractList" "modCount" "I" (.int 0)) (P2 : n0 ≤ xa) (P3 : Fld Z h0 xa "java/util/ArrayList" "elementData" "[Ljava/lang/Object;" .null) (P4 : Fld Z h0 xa "java/util/ArrayList" "size" "I" (.int 0)) : own_Met l Z (⟨"java/util/ArrayList", "<init>", "()V"⟩ : MethodName) jdk_38_method_2_code 1 none ws ({ frames := 3, cells := 0, slots := 0, locals := 36 } : Room) #[.ref xa] h0 (Q_own_alInit Z xa gwD gz gwc gcl h0 n0) := by
  refine own_mk (plainFor_of_name own_pn_java_util_ArrayList) O0 ?_
  intro p e s m below meth c s₁ hx hby hml hZ hown hnm hlk hret X0 e0 N0 z0 z1
  have K0 : Keep h0 h0 [xa] := Keep.refl _ _
  refine own_cast (own_ef_own_alInit m xa) ?_
  show own_Goes p e below (s₁.setTop (mkF m 0 #[vR xa] [])) _
  obtain ⟨G0, G1, G2, G3, G4, G5, G6⟩ := id G
  have ltG1 : @LT.lt Nat _ gwD Z.heap.size := G1.lt
  have ltP0 : @LT.lt Nat _ xa h0.size := P0.lt
  refine q_aloadN X0 hx hby d1_0 rfl rfl ?_
  refine k_N X0 hx hby hZ hown (wh hw 6 rfl) (wh hw 7 rfl) (W := 0) (own_alsInit l Z a0 hw [] xa h0 n0 O0 P0 P1 (show n0 ≤ xa by first | assumption | omega | decide) P3 P4) (wh hw 11 rfl) (wh hw 10 rfl) e0  hml (argsL := []) (rest := []) own_pd_0 d1_1 (fun _ T1 L1 X1 hQ1 => ?_)
  obtain ⟨h1, e1⟩ : ∃ z, T1.heap = z := ⟨_, rfl⟩
  rw [e1] at hQ1
  obtain ⟨Nc1, Kc1, rfl, c1_0, c1_1⟩ := hQ1
  have N1 := Fr.app N0 Nc1
  have O2 := O0.keep Kc1 (allS (show n0 ≤ xa by omega) all0)
  have sz3 : h0.size ≤ h1.size := Kc1.1
  have K4 := Keep.trans K0 Kc1 (allS (Or.inl (List.mem_of_getElem? (i := 0) rfl)) all0)
  refine q_aloadN X1 hx hby d1_4 rfl rfl ?_
  have q5 := G0.ext O2.2
  refine qS X1 hx hby hZ hown (host := "") (Or.inl (wh hw 23 rfl)) Via.refl e1 q5 d1_5 (fun T6 X6 e6 => ?_)
  have f7 := (P0.keep Kc1)
  refine qP X6 hx hby hZ hown (host := "") (Or.inl (wh hw 24 rfl)) Via.refl e6 c1_0 f7 (Or.inl (wh hw 25 rfl)) (wh hw 1 rfl) (ty := (.array (.object "java/lang/Object"))) d1_8 (fun T8 h8 X8 e8 W8 => ?_)
  have O9 := O2.wr W8 (show n0 ≤ xa by omega)
  have sz10 : h8.size = h1.size := Wr.size W8
  have K11 := K4.wr W8 (Or.inl (List.mem_of_getElem? (i := 0) rfl))
  have N8 := Fr.snoc X8 N1 (show n0 ≤ xa by omega)
  have Fw8 := c1_0.same W8
  refine r_V X8 hx hby hret hlk d1_11 e8 ?_
  have f12 := (c1_1.other W8 (Or.inr (slot_ne (Or.inl (wh hw 59 rfl)) (Or.inl (wh hw 25 rfl)) (by decide) (t := .int) (t' := (.array (.object "java/lang/Object"))) (by decide) (by decide))))
  exact ⟨N8, K11, rfl, f12⟩
theorem d8_0 : decode B8 0 = .ok (.aload_n 0, 1) := by decide +kernel
theorem d8_1 : decode B8 1 = .ok (.getfield 48, 3) := by decide +kernel
theorem d8_4 : decode B8 4 = .ok (.ireturn, 1) := by decide +kernel
theorem own_ef_own_alSize (m : MethodId) (xa : Addr) : entryFrame m #[.ref xa] 1 = mkF m 0 #[vR xa] [] := by first | (simp [entryFrame, mkF, argsToLocals, Value.category]; done) | rfl
def Q_own_alSize (Z : State) (xa : Addr) (h0 : Heap) (n0 : Nat) (v : Option Value) (h : Heap) (L : List Loc) : Prop := Fr n0 L ∧ h = h0 ∧ v = some (.int 0)
theorem own_alSize (l : Launch) (Z : State) (a0 : Array Value) (hw : ∀ d ∈ tables_1, d.before a0 Z = true) (ws : List Jvm.Cond) (xa : Addr) (h0 : Heap) (n0 : Nat) (O0 : Old Z n0 h0) (P0 : Fld Z h0 xa "java/util/ArrayList" "size" "I" (.int 0)) : own_Met l Z (⟨"java/util/ArrayList", "size", "()I"⟩ : MethodName) jdk_38_method_8_code 1 (some .int) ws ({ frames := 0, cells := 0, slots := 0, locals := 0 } : Room) #[.ref xa] h0 (Q_own_alSize Z xa h0 n0) := by
  refine own_mk (plainFor_of_name own_pn_java_util_ArrayList) O0 ?_
  intro p e s m below meth c s₁ hx hby hml hZ hown hnm hlk hret X0 e0 N0 z0 z1
  refine own_cast (own_ef_own_alSize m xa) ?_
  show own_Goes p e below (s₁.setTop (mkF m 0 #[vR xa] [])) _
  refine q_aloadN X0 hx hby d8_0 rfl rfl ?_
  refine qG X0 hx hby hZ hown (wh hw 58 rfl) e0 P0 d8_1 (fun T1 X1 e1 => ?_)
  refine r_I X1 hx hby hret hlk d8_4 e1 ?_
  exact ⟨N0, rfl, rfl⟩
theorem d5_0 : decode B5 0 = .ok (.aload_n 0, 1) := by decide +kernel
theorem d5_1 : decode B5 1 = .ok (.invokespecial 43, 3) := by decide +kernel
theorem d5_4 : decode B5 4 = .ok (.aload_n 0, 1) := by decide +kernel
theorem d5_5 : decode B5 5 = .ok (.ldc 92, 2) := by decide +kernel
theorem d5_7 : decode B5 7 = .ok (.putfield 81, 3) := by decide +kernel
theorem d5_10 : decode B5 10 = .ok (.return_, 1) := by decide +kernel
theorem own_pn_java_util_HashMap : plainName "java/util/HashMap" = true := by first | (simp [plainName, overriddenIn]; done) | decide +kernel
theorem own_ef_own_hmInit (m : MethodId) (xm : Addr) : entryFrame m #[.ref xm] 1 = mkF m 0 #[vR xm] [] := by first | (simp [entryFrame, mkF, argsToLocals, Value.category]; done) | rfl
def Q_own_hmInit (Z : State) (xm : Addr) (h0 : Heap) (n0 : Nat) (v : Option Value) (h : Heap) (L : List Loc) : Prop := Fr n0 L ∧ Keep h0 h [xm] ∧ v = none ∧ Fld Z h xm "java/util/HashMap" "size" "I" (.int 0) ∧ Fld Z h xm "java/util/HashMap" "modCount" "I" (.int 0) ∧ Fld Z h xm "java/util/HashMap" "threshold" "I" (.int 0) ∧ Fld Z h xm "java/util/HashMap" "table" "[Ljava/util/HashMap$Node;" .null ∧ Fld Z h xm "java/util/AbstractMap" "values" "Ljava/util/Collection;" .null
theorem own_hmInit (l : Launch) (Z : State) (a0 : Array Value) (hw : ∀ d ∈ tables_1, d.before a0 Z = true) (ws : List Jvm.Cond) (xm : Addr) (h0 : Heap) (n0 : Nat) (O0 : Old Z n0 h0) (P0 : Exa Z h0 xm "java/util/HashMap") (P1 : Fld Z h0 xm "java/util/HashMap" "loadFactor" "F" (.float (0 : UInt32))) (P2 : n0 ≤ xm) (P3 : Fld Z h0 xm "java/util/HashMap" "size" "I" (.int 0)) (P4 : Fld Z h0 xm "java/util/HashMap" "modCount" "I" (.int 0)) (P5 : Fld Z h0 xm "java/util/HashMap" "threshold" "I" (.int 0)) (P6 : Fld Z h0 xm "java/util/HashMap" "table" "[Ljava/util/HashMap$Node;" .null) (P7 : Fld Z h0 xm "java/util/AbstractMap" "values" "Ljava/util/Collection;" .null) : own_Met l Z (⟨"java/util/HashMap", "<init>", "()V"⟩ : MethodName) jdk_69_method_7_code 1 none ws ({ frames := 2, cells := 0, slots := 0, locals := 24 } : Room) #[.ref xm] h0 (Q_own_hmInit Z xm h0 n0) := by
  refine own_mk (plainFor_of_name own_pn_java_util_HashMap) O0 ?_
  intro p e s m below meth c s₁ hx hby hml hZ hown hnm hlk hret X0 e0 N0 z0 z1
  have K0 : Keep h0 h0 [xm] := Keep.refl _ _
  refine own_cast (own_ef_own_hmInit m xm) ?_
  show own_Goes p e below (s₁.setTop (mkF m 0 #[vR xm] [])) _
  have ltP0 : @LT.lt Nat _ xm h0.size := P0.lt
  refine q_aloadN X0 hx hby d5_0 rfl rfl ?_
  refine k_N X0 hx hby hZ hown (wh hw 32 rfl) (wh hw 33 rfl) (W := 0) (own_amInit l Z a0 hw [] xm h0 n0 O0) (wh hw 37 rfl) (wh hw 36 rfl) e0  hml (argsL := []) (rest := []) own_pd_0 d5_1 (fun _ T1 L1 X1 hQ1 => ?_)
  obtain ⟨Nc1, e1, rfl⟩ := hQ1
  have N1 := Fr.app N0 Nc1
  refine q_aloadN X1 hx hby d5_4 rfl rfl ?_
  refine gg (fun t k => X1.ldcFloatC hx hown (mv hZ (wh hw 39 rfl)) (g := (mkF m 5 #[vR xm] [.ref xm])) rfl (hb hby d5_5) _ k) ?_
  refine qP X1 hx hby hZ hown (host := "") (Or.inl (wh hw 40 rfl)) Via.refl e1 P1 P0 (Or.inr ⟨(wh hw 41 rfl), rfl, hnm⟩) (wh hw 27 rfl) (ty := .float) d5_7 (fun T2 h2 X2 e2 W2 => ?_)
  have O3 := O0.wr W2 (show n0 ≤ xm by omega)
  have sz4 : h2.size = h0.size := Wr.size W2
  have K5 := K0.wr W2 (Or.inl (List.mem_of_getElem? (i := 0) rfl))
  have N2 := Fr.snoc X2 N1 (show n0 ≤ xm by omega)
  have Fw2 := P1.same W2
  refine r_V X2 hx hby hret hlk d5_10 e2 ?_
  have f6 := (P3.other W2 (Or.inr (slot_ne (Or.inl (wh hw 76 rfl)) (Or.inr (wh hw 41 rfl)) (by decide) (t := .int) (t' := .float) (by decide) (by decide))))
  have f7 := (P4.other W2 (Or.inr (slot_ne (Or.inl (wh hw 125 rfl)) (Or.inr (wh hw 41 rfl)) (by decide) (t := .int) (t' := .float) (by decide) (by decide))))
  have f8 := (P5.other W2 (Or.inr (slot_ne (Or.inl (wh hw 259 rfl)) (Or.inr (wh hw 41 rfl)) (by decide) (t := .int) (t' := .float) (by decide) (by decide))))
  have f9 := (P6.other W2 (Or.inr (slot_ne (Or.inl (wh hw 129 rfl)) (Or.inr (wh hw 41 rfl)) (by decide) (t := (.array (.object "java/util/HashMap$Node"))) (t' := .float) (by decide) (by decide))))
  have f10 := (P7.other W2 (Or.inr (slot_ne (Or.inl (wh hw 87 rfl)) (Or.inr (wh hw 41 rfl)) (by decide) (t := (.object "java/util/Collection")) (t' := .float) (by decide) (by decide))))
  exact ⟨N2, K5, rfl, f6, f7, f8, f9, f10⟩
theorem d21_0 : decode B21 0 = .ok (.iload_n 0, 1) := by decide +kernel
theorem d21_1 : decode B21 1 = .ok (.iload_n 1, 1) := by decide +kernel
theorem d21_2 : decode B21 2 = .ok (.if_icmp .lt 7, 3) := by decide +kernel
theorem d21_9 : decode B21 9 = .ok (.iload_n 1, 1) := by decide +kernel
theorem d21_10 : decode B21 10 = .ok (.ireturn, 1) := by decide +kernel
theorem d21_5 : decode B21 5 = .ok (.iload_n 0, 1) := by decide +kernel
theorem d21_6 : decode B21 6 = .ok (.goto 4, 3) := by decide +kernel
theorem own_ef_own_maxC (m : MethodId) (xi : Int32) (xj : Int32) : entryFrame m #[.int xi, .int xj] 2 = mkF m 0 #[vI xi, vI xj] [] := by first | (simp [entryFrame, mkF, argsToLocals, Value.category]; done) | rfl
def Q_own_maxC (Z : State) (xi : Int32) (xj : Int32) (h0 : Heap) (n0 : Nat) (v : Option Value) (h : Heap) (L : List Loc) : Prop := Fr n0 L ∧ h = h0 ∧ v = some (.int (own_max xi xj))
theorem own_maxC (l : Launch) (Z : State) (a0 : Array Value) (hw : ∀ d ∈ tables_1, d.before a0 Z = true) (ws : List Jvm.Cond) (xi : Int32) (xj : Int32) (h0 : Heap) (n0 : Nat) (O0 : Old Z n0 h0) : own_Met l Z (⟨"java/lang/Math", "max", "(II)I"⟩ : MethodName) jdk_29_method_65_code 2 (some .int) ws ({ frames := 0, cells := 0, slots := 0, locals := 0 } : Room) #[.int xi, .int xj] h0 (Q_own_maxC Z xi xj h0 n0) := by
  refine own_mk (Jvm.Free.JP.mathPlain rfl (by decide +kernel)) O0 ?_
  intro p e s m below meth c s₁ hx hby hml hZ hown hnm hlk hret X0 e0 N0 z0 z1
  refine own_cast (own_ef_own_maxC m xi xj) ?_
  show own_Goes p e below (s₁.setTop (mkF m 0 #[vI xi, vI xj] [])) _
  refine q_iloadN X0 hx hby d21_0 rfl ?_
  refine q_iloadN X0 hx hby d21_1 rfl ?_
  by_cases hc1 : xi < xj
  · refine q_icmpYes (pc := 2) X0 hx hby d21_2 (pc' := 9) (tlt hc1).1 (by decide) (by decide) ?_
    refine q_iloadN X0 hx hby d21_9 rfl ?_
    refine r_I X0 hx hby hret hlk d21_10 e0 ?_
    exact ⟨N0, rfl, (by rw [own_maxT hc1] <;> rfl)⟩
  · refine q_icmpNo X0 hx hby d21_2 (flt hc1).1 ?_
    refine q_iloadN X0 hx hby d21_5 rfl ?_
    refine q_goto (pc := 6) X0 hx hby d21_6 (pc' := 10) (by decide) (by decide) ?_
    refine r_I X0 hx hby hret hlk d21_10 e0 ?_
    exact ⟨N0, rfl, (by rw [own_maxF hc1] <;> rfl)⟩
theorem d22_0 : decode B22 0 = .ok (.iload_n 0, 1) := by decide +kernel
theorem d22_1 : decode B22 1 = .ok (.iload_n 1, 1) := by decide +kernel
theorem d22_2 : decode B22 2 = .ok (.if_icmp .gt 7, 3) := by decide +kernel
theorem d22_9 : decode B22 9 = .ok (.iload_n 1, 1) := by decide +kernel
theorem d22_10 : decode B22 10 = .ok (.ireturn, 1) := by decide +kernel
theorem own_ef_own_minR (m : MethodId) (xi : Int32) (xj : Int32) : entryFrame m #[.int xi, .int xj] 2 = mkF m 0 #[vI xi, vI xj] [] := by first | (simp [entryFrame, mkF, argsToLocals, Value.category]; done) | rfl
def Q_own_minR (Z : State) (xi : Int32) (xj : Int32) (h0 : Heap) (n0 : Nat) (v : Option Value) (h : Heap) (L : List Loc) : Prop := Fr n0 L ∧ h = h0 ∧ v = some (.int xj)
theorem own_minR (l : Launch) (Z : State) (a0 : Array Value) (hw : ∀ d ∈ tables_1, d.before a0 Z = true) (ws : List Jvm.Cond) (xi : Int32) (xj : Int32) (h0 : Heap) (n0 : Nat) (O0 : Old Z n0 h0) (P0 : xj < xi) : own_Met l Z (⟨"java/lang/Math", "min", "(II)I"⟩ : MethodName) jdk_29_method_69_code 2 (some .int) ws ({ frames := 0, cells := 0, slots := 0, locals := 0 } : Room) #[.int xi, .int xj] h0 (Q_own_minR Z xi xj h0 n0) := by
  refine own_mk (Jvm.Free.JP.mathPlain rfl (by decide +kernel)) O0 ?_
  intro p e s m below meth c s₁ hx hby hml hZ hown hnm hlk hret X0 e0 N0 z0 z1
  refine own_cast (own_ef_own_minR m xi xj) ?_
  show own_Goes p e below (s₁.setTop (mkF m 0 #[vI xi, vI xj] [])) _
  refine q_iloadN X0 hx hby d22_0 rfl ?_
  refine q_iloadN X0 hx hby d22_1 rfl ?_
  refine q_icmpYes (pc := 2) X0 hx hby d22_2 (pc' := 9) (tlt (show (xj < xi) from P0)).2.2.1 (by decide) (by decide) ?_
  refine q_iloadN X0 hx hby d22_9 rfl ?_
  refine r_I X0 hx hby hret hlk d22_10 e0 ?_
  exact ⟨N0, rfl, rfl⟩
theorem d22_5 : decode B22 5 = .ok (.iload_n 0, 1) := by decide +kernel
theorem d22_6 : decode B22 6 = .ok (.goto 4, 3) := by decide +kernel
theorem own_ef_own_minC (m : MethodId) (xi : Int32) (xj : Int32) : entryFrame m #[.int xi, .int xj] 2 = mkF m 0 #[vI xi, vI xj] [] := by first | (simp [entryFrame, mkF, argsToLocals, Value.category]; done) | rfl
def Q_own_minC (Z : State) (xi : Int32) (xj : Int32) (h0 : Heap) (n0 : Nat) (v : Option Value) (h : Heap) (L : List Loc) : Prop := Fr n0 L ∧ h = h0 ∧ v = some (.int (own_min xi xj))
theorem own_minC (l : Launch) (Z : State) (a0 : Array Value) (hw : ∀ d ∈ tables_1, d.before a0 Z = true) (ws : List Jvm.Cond) (xi : Int32) (xj : Int32) (h0 : Heap) (n0 : Nat) (O0 : Old Z n0 h0) : own_Met l Z (⟨"java/lang/Math", "min", "(II)I"⟩ : MethodName) jdk_29_method_69_code 2 (some .int) ws ({ frames := 0, cells := 0, slots := 0, locals := 0 } : Room) #[.int xi, .int xj] h0 (Q_own_minC Z xi xj h0 n0) := by
  refine own_mk (Jvm.Free.JP.mathPlain rfl (by decide +kernel)) O0 ?_
  intro p e s m below meth c s₁ hx hby hml hZ hown hnm hlk hret X0 e0 N0 z0 z1
  refine own_cast (own_ef_own_minC m xi xj) ?_
  show own_Goes p e below (s₁.setTop (mkF m 0 #[vI xi, vI xj] [])) _
  refine q_iloadN X0 hx hby d22_0 rfl ?_
  refine q_iloadN X0 hx hby d22_1 rfl ?_
  by_cases hc1 : xj < xi
  · refine q_icmpYes (pc := 2) X0 hx hby d22_2 (pc' := 9) (tlt hc1).2.2.1 (by decide) (by decide) ?_
    refine q_iloadN X0 hx hby d22_9 rfl ?_
    refine r_I X0 hx hby hret hlk d22_10 e0 ?_
    exact ⟨N0, rfl, (by rw [own_minT hc1] <;> rfl)⟩
  · refine q_icmpNo X0 hx hby d22_2 (flt hc1).2.2.1 ?_
    refine q_iloadN X0 hx hby d22_5 rfl ?_
    refine q_goto (pc := 6) X0 hx hby d22_6 (pc' := 10) (by decide) (by decide) ?_
    refine r_I X0 hx hby hret hlk d22_10 e0 ?_
    exact ⟨N0, rfl, (by rw [own_minF hc1] <;> rfl)⟩
theorem d25_0 : decode B25 0 = .ok (.iload_n 0, 1) := by decide +kernel
theorem d25_1 : decode B25 1 = .ok (.sipush 255, 3) := by decide +kernel
theorem d25_4 : decode B25 4 = .ok (.if_icmp .gt 7, 3) := by decide +kernel
theorem d25_7 : decode B25 7 = .ok (.iconst 1, 1) := by decide +kernel
theorem d25_8 : decode B25 8 = .ok (.goto 4, 3) := by decide +kernel
theorem d25_12 : decode B25 12 = .ok (.ireturn, 1) := by decide +kernel
theorem own_pn_java_lang_StringLatin1 : plainName "java/lang/StringLatin1" = true := by first | (simp [plainName, overriddenIn]; done) | decide +kernel
theorem own_ef_own_canEnc (m : MethodId) (xi : Int32) : entryFrame m #[.int xi] 1 = mkF m 0 #[vI xi] [] := by first | (simp [entryFrame, mkF, argsToLocals, Value.category]; done) | rfl
def Q_own_canEnc (Z : State) (xi : Int32) (h0 : Heap) (n0 : Nat) (v : Option Value) (h : Heap) (L : List Loc) : Prop := Fr n0 L ∧ h = h0 ∧ v = some (.int 1)
theorem own_canEnc (l : Launch) (Z : State) (a0 : Array Value) (hw : ∀ d ∈ tables_1, d.before a0 Z = true) (ws : List Jvm.Cond) (xi : Int32) (h0 : Heap) (n0 : Nat) (O0 : Old Z n0 h0) (P0 : ¬ (255 : Int32) < xi) : own_Met l Z (⟨"java/lang/StringLatin1", "canEncode", "(C)Z"⟩ : MethodName) jdk_43_method_3_code 1 (some .boolean) ws ({ frames := 0, cells := 0, slots := 0, locals := 0 } : Room) #[.int xi] h0 (Q_own_canEnc Z xi h0 n0) := by
  refine own_mk (plainFor_of_name own_pn_java_lang_StringLatin1) O0 ?_
  intro p e s m below meth c s₁ hx hby hml hZ hown hnm hlk hret X0 e0 N0 z0 z1
  refine own_cast (own_ef_own_canEnc m xi) ?_
  show own_Goes p e below (s₁.setTop (mkF m 0 #[vI xi] [])) _
  refine q_iloadN X0 hx hby d25_0 rfl ?_
  refine q_sipush X0 hx hby d25_1 ?_
  refine q_icmpNo X0 hx hby d25_4 (flt (show ¬ ((255 : Int32) < xi) from P0)).2.2.1 ?_
  refine q_iconst X0 hx hby d25_7 ?_
  refine q_goto (pc := 8) X0 hx hby d25_8 (pc' := 12) (by decide) (by decide) ?_
  refine r_Z X0 hx hby hret hlk d25_12 e0 ?_
  exact ⟨N0, rfl, rfl⟩
theorem d27_0 : decode B27 0 = .ok (.aload_n 0, 1) := by decide +kernel
theorem d27_1 : decode B27 1 = .ok (.invokespecial 1, 3) := by decide +kernel
theorem d27_4 : decode B27 4 = .ok (.aload_n 0, 1) := by decide +kernel
theorem d27_5 : decode B27 5 = .ok (.aload_n 1, 1) := by decide +kernel
theorem d27_6 : decode B27 6 = .ok (.putfield 9, 3) := by decide +kernel
theorem d27_9 : decode B27 9 = .ok (.aload_n 0, 1) := by decide +kernel
theorem d27_10 : decode B27 10 = .ok (.iload_n 2, 1) := by decide +kernel
theorem d27_11 : decode B27 11 = .ok (.putfield 15, 3) := by decide +kernel
theorem d27_14 : decode B27 14 = .ok (.return_, 1) := by decide +kernel
theorem own_pn_java_lang_String : plainName "java/lang/String" = true := by first | (simp [plainName, overriddenIn]; done) | decide +kernel
theorem own_ef_own_strInit (m : MethodId) (xa : Addr) (xb : Addr) : entryFrame m #[.ref xa, .ref xb, .int 0] 3 = mkF m 0 #[vR xa, vR xb, vI 0] [] := by first | (simp [entryFrame, mkF, argsToLocals, Value.category]; done) | rfl
def Q_own_strInit (Z : State) (xa : Addr) (xb : Addr) (h0 : Heap) (n0 : Nat) (v : Option Value) (h : Heap) (L : List Loc) : Prop := Fr n0 L ∧ Keep h0 h [xa] ∧ v = none ∧ Fld Z h xa "java/lang/String" "value" "[B" (.ref xb) ∧ Fld Z h xa "java/lang/String" "coder" "B" (.int 0) ∧ Fld Z h xa "java/lang/String" "hash" "I" (.int 0) ∧ Fld Z h xa "java/lang/String" "hashIsZero" "Z" (.int 0)
theorem own_strInit (l : Launch) (Z : State) (a0 : Array Value) (hw : ∀ d ∈ tables_1, d.before a0 Z = true) (ws : List Jvm.Cond) (xa : Addr) (xb : Addr) (h0 : Heap) (n0 : Nat) (O0 : Old Z n0 h0) (P0 : Exa Z h0 xa "java/lang/String") (P1 : n0 ≤ xa) (P2 : Fld Z h0 xa "java/lang/String" "value" "[B" .null) (P3 : Fld Z h0 xa "java/lang/String" "coder" "B" (.int 0)) (P4 : Fld Z h0 xa "java/lang/String" "hash" "I" (.int 0)) (P5 : Fld Z h0 xa "java/lang/String" "hashIsZero" "Z" (.int 0)) : own_Met l Z (⟨"java/lang/String", "<init>", "([BB)V"⟩ : MethodName) jdk_42_method_151_code 3 none ws ({ frames := 1, cells := 0, slots := 0, locals := 12 } : Room) #[.ref xa, .ref xb, .int 0] h0 (Q_own_strInit Z xa xb h0 n0) := by
  refine own_mk (plainFor_of_name own_pn_java_lang_String) O0 ?_
  intro p e s m below meth c s₁ hx hby hml hZ hown hnm hlk hret X0 e0 N0 z0 z1
  have K0 : Keep h0 h0 [xa] := Keep.refl _ _
  refine own_cast (own_ef_own_strInit m xa xb) ?_
  show own_Goes p e below (s₁.setTop (mkF m 0 #[vR xa, vR xb, vI 0] [])) _
  have ltP0 : @LT.lt Nat _ xa h0.size := P0.lt
  refine q_aloadN X0 hx hby d27_0 rfl rfl ?_
  obtain ⟨T1, X1, e1, st1⟩ := initO X0 hx hZ hown (wh hw 206 rfl) (wh hw 19 rfl) (wh hw 20 rfl) e0 (g := (mkF m 1 #[vR xa, vR xb, vI 0] [.ref xa])) rfl (by rw [hml]; rfl) rfl (hb hby d27_1) (by decide) (W := 0) (by show 2 * 0 + _ ≤ _; exact Nat.le_of_eq rfl) (by decide)
  refine gg st1 ?_
  refine q_aloadN X1 hx hby d27_4 rfl rfl ?_
  refine q_aloadN X1 hx hby d27_5 rfl rfl ?_
  refine qP X1 hx hby hZ hown (host := "") (Or.inl (wh hw 207 rfl)) Via.refl e1 P2 P0 (Or.inr ⟨(wh hw 208 rfl), rfl, hnm⟩) (wh hw 197 rfl) (ty := (.array .byte)) d27_6 (fun T2 h2 X2 e2 W2 => ?_)
  have O3 := O0.wr W2 (show n0 ≤ xa by omega)
  have sz4 : h2.size = h0.size := Wr.size W2
  have K5 := K0.wr W2 (Or.inl (List.mem_of_getElem? (i := 0) rfl))
  have N2 := Fr.snoc X2 N0 (show n0 ≤ xa by omega)
  have Fw2 := P2.same W2
  refine q_aloadN X2 hx hby d27_9 rfl rfl ?_
  refine q_iloadN X2 hx hby d27_10 rfl ?_
  have f6 := (P3.other W2 (Or.inr (slot_ne (Or.inr (wh hw 210 rfl)) (Or.inr (wh hw 208 rfl)) (by decide) (t := .byte) (t' := (.array .byte)) (by decide) (by decide))))
  have f7 := (P0.wr W2)
  obtain ⟨T8, h8, X8, e8, W8, st8⟩ := putFN X2 hx hZ hown (wh hw 209 rfl) Via.refl e2 f6 f7 (Or.inr ⟨(wh hw 210 rfl), rfl, hnm⟩) (wh hw 197 rfl) (ty := .byte) (v' := (.int 0)) (by decide) rfl rfl (g := (mkF m 11 #[vR xa, vR xb, vI 0] [.int 0, .ref xa])) rfl rfl (hb hby d27_11)
  refine gg st8 ?_
  have O9 := O3.wr W8 (show n0 ≤ xa by omega)
  have sz10 : h8.size = h2.size := Wr.size W8
  have K11 := K5.wr W8 (Or.inl (List.mem_of_getElem? (i := 0) rfl))
  have N8 := Fr.snoc X8 N2 (show n0 ≤ xa by omega)
  have Fw8 := f6.same W8
  refine r_V X8 hx hby hret hlk d27_14 e8 ?_
  have f12 := (Fw2.other W8 (Or.inr (slot_ne (Or.inr (wh hw 208 rfl)) (Or.inr (wh hw 210 rfl)) (by decide) (t := (.array .byte)) (t' := .byte) (by decide) (by decide))))
  have f13 := ((P4.other W2 (Or.inr (slot_ne (Or.inl (wh hw 236 rfl)) (Or.inr (wh hw 208 rfl)) (by decide) (t := .int) (t' := (.array .byte)) (by decide) (by decide)))).other W8 (Or.inr (slot_ne (Or.inl (wh hw 236 rfl)) (Or.inr (wh hw 210 rfl)) (by decide) (t := .int) (t' := .byte) (by decide) (by decide))))
  have f14 := ((P5.other W2 (Or.inr (slot_ne (Or.inl (wh hw 238 rfl)) (Or.inr (wh hw 208 rfl)) (by decide) (t := .boolean) (t' := (.array .byte)) (by decide) (by decide)))).other W8 (Or.inr (slot_ne (Or.inl (wh hw 238 rfl)) (Or.inr (wh hw 210 rfl)) (by decide) (t := .boolean) (t' := .byte) (by decide) (by decide))))
  exact ⟨N8, K11, rfl, f12, Fw8, f13, f14⟩
theorem d32_0 : decode B32 0 = .ok (.getstatic 38, 3) := by decide +kernel
theorem d32_3 : decode B32 3 = .ok (.ifCond .eq 14, 3) := by decide +kernel
theorem d32_6 : decode B32 6 = .ok (.aload_n 0, 1) := by decide +kernel
theorem d32_7 : decode B32 7 = .ok (.getfield 15, 3) := by decide +kernel
theorem d32_10 : decode B32 10 = .ok (.ifCond .ne 7, 3) := by decide +kernel
theorem d32_13 : decode B32 13 = .ok (.iconst 1, 1) := by decide +kernel
theorem d32_14 : decode B32 14 = .ok (.goto 4, 3) := by decide +kernel
theorem d32_18 : decode B32 18 = .ok (.ireturn, 1) := by decide +kernel
theorem own_ef_own_isLat (m : MethodId) (xa : Addr) : entryFrame m #[.ref xa] 1 = mkF m 0 #[vR xa] [] := by first | (simp [entryFrame, mkF, argsToLocals, Value.category]; done) | rfl
def Q_own_isLat (Z : State) (xa : Addr) (gwD : Addr) (gz : Int32) (gwc : Addr) (gcl : Cell) (h0 : Heap) (n0 : Nat) (v : Option Value) (h : Heap) (L : List Loc) : Prop := Fr n0 L ∧ h = h0 ∧ v = some (.int 1)
theorem own_isLat (l : Launch) (Z : State) (a0 : Array Value) (hw : ∀ d ∈ tables_1, d.before a0 Z = true) (ws : List Jvm.Cond) (xa : Addr) (h0 : Heap) (n0 : Nat) (O0 : Old Z n0 h0) (gwD : Addr) (gz : Int32) (gwc : Addr) (gcl : Cell) (G : GG Z gwD gz gwc gcl) (P0 : Fld Z h0 xa "java/lang/String" "coder" "B" (.int 0)) : own_Met l Z (⟨"java/lang/String", "isLatin1", "()Z"⟩ : MethodName) jdk_42_method_154_code 1 (some .boolean) ws ({ frames := 0, cells := 0, slots := 0, locals := 0 } : Room) #[.ref xa] h0 (Q_own_isLat Z xa gwD gz gwc gcl h0 n0) := by
  refine own_mk (plainFor_of_name own_pn_java_lang_String) O0 ?_
  intro p e s m below meth c s₁ hx hby hml hZ hown hnm hlk hret X0 e0 N0 z0 z1
  refine own_cast (own_ef_own_isLat m xa) ?_
  show own_Goes p e below (s₁.setTop (mkF m 0 #[vR xa] [])) _
  obtain ⟨G0, G1, G2, G3, G4, G5, G6⟩ := id G
  have ltG1 : @LT.lt Nat _ gwD Z.heap.size := G1.lt
  have q1 := G2.ext O0.2
  refine qS X0 hx hby hZ hown (host := "") (Or.inl (wh hw 191 rfl)) Via.refl e0 q1 d32_0 (fun T2 X2 e2 => ?_)
  refine q_ifNo X2 hx hby d32_3 ((if0 _ _).trans (feq (show ¬ (gz = (0 : Int32)) from G3)).1) ?_
  refine q_aloadN X2 hx hby d32_6 rfl rfl ?_
  refine qG X2 hx hby hZ hown (wh hw 209 rfl) e2 P0 d32_7 (fun T3 X3 e3 => ?_)
  refine q_ifNo X3 hx hby d32_10 ((if0 _ _).trans (teq (show ((0 : Int32) = (0 : Int32)) from by decide)).2) ?_
  refine q_iconst X3 hx hby d32_13 ?_
  refine q_goto (pc := 14) X3 hx hby d32_14 (pc' := 18) (by decide) (by decide) ?_
  refine r_Z X3 hx hby hret hlk d32_18 e3 ?_
  exact ⟨N0, rfl, rfl⟩
def own_chr (x : Int32) : Prop := x.toInt8.toInt32 = x ∧ (x &&& (255 : Int32)) = x ∧ ¬ x = 0 ∧ (x ^^^ ((x.toUInt32 >>> ((16 : Int32) &&& 31).toUInt32).toInt32)) = x ∧ ¬ (255 : Int32) < x
theorem own_chr97 : own_chr 97 := by unfold own_chr; decide
theorem own_chr98 : own_chr 98 := by unfold own_chr; decide
theorem own_chr99 : own_chr 99 := by unfold own_chr; decide

theorem d26_0 : decode B26 0 = .ok (.iconst 1, 1) := by decide +kernel
theorem d26_1 : decode B26 1 = .ok (.newarray .byte, 2) := by decide +kernel
theorem d26_3 : decode B26 3 = .ok (.dup, 1) := by decide +kernel
theorem d26_4 : decode B26 4 = .ok (.iconst 0, 1) := by decide +kernel
theorem d26_5 : decode B26 5 = .ok (.iload_n 0, 1) := by decide +kernel
theorem d26_6 : decode B26 6 = .ok (.i2b, 1) := by decide +kernel
theorem d26_7 : decode B26 7 = .ok (.bastore, 1) := by decide +kernel
theorem d26_8 : decode B26 8 = .ok (.areturn, 1) := by decide +kernel
theorem own_ef_own_toB (m : MethodId) (xi : Int32) : entryFrame m #[.int xi] 1 = mkF m 0 #[vI xi] [] := by first | (simp [entryFrame, mkF, argsToLocals, Value.category]; done) | rfl
def Q_own_toB (Z : State) (xi : Int32) (h0 : Heap) (n0 : Nat) (v : Option Value) (h : Heap) (L : List Loc) : Prop := Fr n0 L ∧ Keep h0 h [] ∧ ∃ (r : Addr), ∃ (rk : ClassId), v = some (.ref r) ∧ Arv Z h r rk .byte (1 : Int32) [.int xi] (.int 0) ∧ h0.size ≤ r
theorem own_toB (l : Launch) (Z : State) (a0 : Array Value) (hw : ∀ d ∈ tables_1, d.before a0 Z = true) (ws : List Jvm.Cond) (xi : Int32) (h0 : Heap) (n0 : Nat) (O0 : Old Z n0 h0) (P0 : own_chr xi) : own_Met l Z (⟨"java/lang/StringLatin1", "toBytes", "(C)[B"⟩ : MethodName) jdk_43_method_46_code 1 (some (.array .byte)) ws ({ frames := 0, cells := 1, slots := 1, locals := 0 } : Room) #[.int xi] h0 (Q_own_toB Z xi h0 n0) := by
  refine own_mk (plainFor_of_name own_pn_java_lang_StringLatin1) O0 ?_
  intro p e s m below meth c s₁ hx hby hml hZ hown hnm hlk hret X0 e0 N0 z0 z1
  have K0 : Keep h0 h0 [] := Keep.refl _ _
  refine own_cast (own_ef_own_toB m xi) ?_
  show own_Goes p e below (s₁.setTop (mkF m 0 #[vI xi] [])) _
  refine q_iconst X0 hx hby d26_0 ?_
  obtain ⟨T1, h1, k1, X1, e1, E1, A1, st1⟩ := newP X0 hx hZ (wh hw 201 rfl) e0 (g := (mkF m 1 #[vI xi] [.int 1])) rfl (hb hby d26_1) rfl (by decide) (cap := 1) (by decide) (by decide) (by decide) (by decide)
  obtain ⟨b1, g1⟩ : ∃ z, z = h0.size := ⟨_, rfl⟩
  rw [← g1] at A1 st1
  refine gg st1 ?_
  have O2 := O0.ext E1
  have sz3 : h0.size ≤ h1.size := E1.1
  have K4 := K0.ext E1
  have l1 : @LT.lt Nat _ b1 h1.size := A1.lt
  have V1 : Arv Z h1 b1 k1 .byte (1 : Int32) [.int 0] (.int 0) := (Arv.new A1 (by decide)).pad (pad_rep [] (.int 0) 1)
  refine q_dup X1 hx hby d26_3 rfl ?_
  refine q_iconst X1 hx hby d26_4 ?_
  refine q_iloadN X1 hx hby d26_5 rfl ?_
  refine gg (fun t k => XS.i2b X1.here hx rfl (hb hby d26_6) rfl k) ?_
  show own_Goes p e below (T1.setTop (mkF m 7 #[vI xi] [(.int (xi.toInt8.toInt32)), .int 0, .ref b1, .ref b1])) _
  rw [show (xi.toInt8.toInt32) = xi from P0.1]
  refine q_stB X1 hx hby hZ e1 V1 0 d26_7 (fun T6 h6 X6 e6 W6 V6 => ?_)
  have O7 := O2.wr W6 (show n0 ≤ b1 by omega)
  have sz8 : h6.size = h1.size := Wr.size W6
  have K9 := K4.wr W6 (Or.inr (show h0.size ≤ b1 by omega))
  have N6 := Fr.snoc X6 N0 (show n0 ≤ b1 by omega)
  have V6 : Arv Z h6 b1 k1 .byte (1 : Int32) [(.int (xi.toInt8.toInt32))] (.int 0) := V6
  rw [show (xi.toInt8.toInt32) = xi from P0.1] at V6
  refine r_R X6 hx hby hret hlk d26_8 e6 ?_
  exact ⟨N6, K9, b1, k1, rfl, V6, (show h0.size ≤ b1 by first | assumption | omega | decide)⟩
theorem d24_0 : decode B24 0 = .ok (.getstatic 38, 3) := by decide +kernel
theorem d24_3 : decode B24 3 = .ok (.ifCond .eq 23, 3) := by decide +kernel
theorem d24_6 : decode B24 6 = .ok (.iload_n 0, 1) := by decide +kernel
theorem d24_7 : decode B24 7 = .ok (.invokestatic 1015, 3) := by decide +kernel
theorem own_pd_1 : parseMethodDescriptor "(C)Z" = some ⟨[.char], some .boolean⟩ := by decide +kernel
theorem d24_10 : decode B24 10 = .ok (.ifCond .eq 16, 3) := by decide +kernel
theorem d24_13 : decode B24 13 = .ok (.new 10, 3) := by decide +kernel
theorem d24_16 : decode B24 16 = .ok (.dup, 1) := by decide +kernel
theorem d24_17 : decode B24 17 = .ok (.iload_n 0, 1) := by decide +kernel
theorem d24_18 : decode B24 18 = .ok (.invokestatic 1018, 3) := by decide +kernel
theorem own_pd_2 : parseMethodDescriptor "(C)[B" = some ⟨[.char], some (.array .byte)⟩ := by decide +kernel
theorem d24_21 : decode B24 21 = .ok (.iconst 0, 1) := by decide +kernel
theorem d24_22 : decode B24 22 = .ok (.invokespecial 209, 3) := by decide +kernel
theorem own_pd_3 : parseMethodDescriptor "([BB)V" = some ⟨[(.array .byte), .byte], none⟩ := by decide +kernel
theorem d24_25 : decode B24 25 = .ok (.areturn, 1) := by decide +kernel
theorem own_ef_own_vOf (m : MethodId) (xi : Int32) : entryFrame m #[.int xi] 1 = mkF m 0 #[vI xi] [] := by first | (simp [entryFrame, mkF, argsToLocals, Value.category]; done) | rfl
def Q_own_vOf (Z : State) (xi : Int32) (gwD : Addr) (gz : Int32) (gwc : Addr) (gcl : Cell) (h0 : Heap) (n0 : Nat) (v : Option Value) (h : Heap) (L : List Loc) : Prop := Fr n0 L ∧ Keep h0 h [] ∧ ∃ (r : Addr), ∃ (rb : Addr), ∃ (rk : ClassId), v = some (.ref r) ∧ Exa Z h r "java/lang/String" ∧ Fld Z h r "java/lang/String" "value" "[B" (.ref rb) ∧ Fld Z h r "java/lang/String" "coder" "B" (.int 0) ∧ Fld Z h r "java/lang/String" "hash" "I" (.int 0) ∧ Fld Z h r "java/lang/String" "hashIsZero" "Z" (.int 0) ∧ Arv Z h rb rk .byte (1 : Int32) [.int xi] (.int 0) ∧ h0.size ≤ r ∧ @LT.lt Nat _ r rb
theorem own_vOf (l : Launch) (Z : State) (a0 : Array Value) (hw : ∀ d ∈ tables_1, d.before a0 Z = true) (ws : List Jvm.Cond) (xi : Int32) (h0 : Heap) (n0 : Nat) (O0 : Old Z n0 h0) (gwD : Addr) (gz : Int32) (gwc : Addr) (gcl : Cell) (G : GG Z gwD gz gwc gcl) (P0 : own_chr xi) : own_Met l Z (⟨"java/lang/String", "valueOf", "(C)Ljava/lang/String;"⟩ : MethodName) jdk_42_method_139_code 1 (some (.object "java/lang/String")) ws ({ frames := 2, cells := 2, slots := 5, locals := 27 } : Room) #[.int xi] h0 (Q_own_vOf Z xi gwD gz gwc gcl h0 n0) := by
  refine own_mk (plainFor_of_name own_pn_java_lang_String) O0 ?_
  intro p e s m below meth c s₁ hx hby hml hZ hown hnm hlk hret X0 e0 N0 z0 z1
  have K0 : Keep h0 h0 [] := Keep.refl _ _
  refine own_cast (own_ef_own_vOf m xi) ?_
  show own_Goes p e below (s₁.setTop (mkF m 0 #[vI xi] [])) _
  obtain ⟨G0, G1, G2, G3, G4, G5, G6⟩ := id G
  have ltG1 : @LT.lt Nat _ gwD Z.heap.size := G1.lt
  have Pc := P0.2.2.2.2
  have q1 := G2.ext O0.2
  refine qS X0 hx hby hZ hown (host := "") (Or.inl (wh hw 191 rfl)) Via.refl e0 q1 d24_0 (fun T2 X2 e2 => ?_)
  refine q_ifNo X2 hx hby d24_3 ((if0 _ _).trans (feq (show ¬ (gz = (0 : Int32)) from G3)).1) ?_
  refine q_iloadN X2 hx hby d24_6 rfl ?_
  refine k_S X2 hx hby hZ hown (wh hw 192 rfl) (wh hw 193 rfl) (W := 0) (own_canEnc l Z a0 hw [] xi h0 n0 O0 (show ¬ (255 : Int32) < xi by first | assumption | omega | decide)) (wh hw 195 rfl) (wh hw 194 rfl) e2  hml (argsL := [.int xi]) (rest := []) own_pd_1 d24_7 (fun _ T3 L3 X3 hQ3 => ?_)
  obtain ⟨Nc3, e3, rfl⟩ := hQ3
  have N3 := Fr.app N0 Nc3
  refine q_ifNo X3 hx hby d24_10 ((if0 _ _).trans (feq (show ¬ ((1 : Int32) = (0 : Int32)) from by decide)).1) ?_
  obtain ⟨T4, h4, X4, e4, E4, A4, D4, -, st4⟩ := newO X3 hx hZ hown (wh hw 196 rfl) (wh hw 197 rfl) (wh hw 189 rfl) e3 (g := (mkF m 13 #[vI xi] [])) rfl (hb hby d24_13) (by decide) (by decide)
  obtain ⟨b4, g4⟩ : ∃ z, z = h0.size := ⟨_, rfl⟩
  rw [← g4] at A4 D4 st4
  refine gg st4 ?_
  have O5 := O0.ext E4
  have sz6 : h0.size ≤ h4.size := E4.1
  have K7 := K0.ext E4
  have l4 : @LT.lt Nat _ b4 h4.size := A4.lt
  have F4_value : Fld Z h4 b4 "java/lang/String" "value" "[B" .null := D4 (Or.inr (wh hw 208 rfl)) (ty := (.array .byte)) (by decide)
  have F4_coder : Fld Z h4 b4 "java/lang/String" "coder" "B" (.int 0) := D4 (Or.inr (wh hw 210 rfl)) (ty := .byte) (by decide)
  have F4_hash : Fld Z h4 b4 "java/lang/String" "hash" "I" (.int 0) := D4 (Or.inl (wh hw 236 rfl)) (ty := .int) (by decide)
  have F4_hashIsZero : Fld Z h4 b4 "java/lang/String" "hashIsZero" "Z" (.int 0) := D4 (Or.inl (wh hw 238 rfl)) (ty := .boolean) (by decide)
  refine q_dup X4 hx hby d24_16 rfl ?_
  refine q_iloadN X4 hx hby d24_17 rfl ?_
  refine k_S X4 hx hby hZ hown (wh hw 198 rfl) (wh hw 199 rfl) (W := 2) (own_toB l Z a0 hw [] xi h4 n0 O5 (show own_chr xi from (by first | assumption | exact own_chr97 | exact own_chr98 | exact own_chr99))) (wh hw 200 rfl) (wh hw 194 rfl) e4  hml (argsL := [.int xi]) (rest := [.ref b4, .ref b4]) own_pd_2 d24_18 (fun _ T8 L8 X8 hQ8 => ?_)
  obtain ⟨h8, e8⟩ : ∃ z, T8.heap = z := ⟨_, rfl⟩
  rw [e8] at hQ8
  obtain ⟨Nc8, Kc8, r_8, rk_8, rfl, c8_0, c8_1⟩ := hQ8
  have N8 := Fr.app N3 Nc8
  have O9 := O5.keep Kc8 all0
  have sz10 : h4.size ≤ h8.size := Kc8.1
  have K11 := Keep.trans K7 Kc8 all0
  have ltc8_0 : @LT.lt Nat _ r_8 h8.size := c8_0.lt
  refine q_iconst X8 hx hby d24_21 ?_
  have f12 := (A4.keep Kc8)
  have f13 := (F4_value.keep Kc8 nin0)
  have f14 := (F4_coder.keep Kc8 nin0)
  have f15 := (F4_hash.keep Kc8 nin0)
  have f16 := (F4_hashIsZero.keep Kc8 nin0)
  refine k_N X8 hx hby hZ hown (wh hw 202 rfl) (wh hw 203 rfl) (W := 1) (own_strInit l Z a0 hw [] b4 r_8 h8 n0 O9 f12 (show n0 ≤ b4 by first | assumption | omega | decide) f13 f14 f15 f16) (wh hw 205 rfl) (wh hw 189 rfl) e8  hml (argsL := [.ref r_8, .int 0]) (rest := [.ref b4]) own_pd_3 d24_22 (fun _ T17 L17 X17 hQ17 => ?_)
  obtain ⟨h17, e17⟩ : ∃ z, T17.heap = z := ⟨_, rfl⟩
  rw [e17] at hQ17
  obtain ⟨Nc17, Kc17, rfl, c17_0, c17_1, c17_2, c17_3⟩ := hQ17
  have N17 := Fr.app N8 Nc17
  have O18 := O9.keep Kc17 (allS (show n0 ≤ b4 by omega) all0)
  have sz19 : h8.size ≤ h17.size := Kc17.1
  have K20 := Keep.trans K11 Kc17 (allS (Or.inr (show h0.size ≤ b4 by omega)) all0)
  refine r_R X17 hx hby hret hlk d24_25 e17 ?_
  have f21 := (f12.keep Kc17)
  have f22 := (c8_0.keep Kc17 (ninS (nE r_8 b4 (by omega)) nin0))
  exact ⟨N17, K20, b4, r_8, rk_8, rfl, f21, c17_0, c17_1, c17_2, c17_3, f22, (show h0.size ≤ b4 by first | assumption | omega | decide), (show @LT.lt Nat _ b4 r_8 by first | assumption | omega | decide)⟩
theorem d33_0 : decode B33 0 = .ok (.aload_n 0, 1) := by decide +kernel
theorem d33_1 : decode B33 1 = .ok (.arraylength, 1) := by decide +kernel
theorem d33_2 : decode B33 2 = .ok (.lookupswitch 40 #[(0, 26), (1, 30)], 26) := by decide +kernel
theorem d33_32 : decode B33 32 = .ok (.aload_n 0, 1) := by decide +kernel
theorem d33_33 : decode B33 33 = .ok (.iconst 0, 1) := by decide +kernel
theorem d33_34 : decode B33 34 = .ok (.baload, 1) := by decide +kernel
theorem d33_35 : decode B33 35 = .ok (.sipush 255, 3) := by decide +kernel
theorem d33_38 : decode B33 38 = .ok (.iand, 1) := by decide +kernel
theorem d33_39 : decode B33 39 = .ok (.goto 12, 3) := by decide +kernel
theorem d33_51 : decode B33 51 = .ok (.ireturn, 1) := by decide +kernel
theorem own_ef_own_lHash (m : MethodId) (xb : Addr) : entryFrame m #[.ref xb] 1 = mkF m 0 #[vR xb] [] := by first | (simp [entryFrame, mkF, argsToLocals, Value.category]; done) | rfl
def Q_own_lHash (Z : State) (xi : Int32) (xb : Addr) (xk : ClassId) (h0 : Heap) (n0 : Nat) (v : Option Value) (h : Heap) (L : List Loc) : Prop := Fr n0 L ∧ h = h0 ∧ v = some (.int xi)
theorem own_lHash (l : Launch) (Z : State) (a0 : Array Value) (hw : ∀ d ∈ tables_1, d.before a0 Z = true) (ws : List Jvm.Cond) (xi : Int32) (xb : Addr) (xk : ClassId) (h0 : Heap) (n0 : Nat) (O0 : Old Z n0 h0) (P0 : own_chr xi) (P1 : Arv Z h0 xb xk .byte (1 : Int32) [.int xi] (.int 0)) : own_Met l Z (⟨"java/lang/StringLatin1", "hashCode", "([B)I"⟩ : MethodName) jdk_43_method_21_code 1 (some .int) ws ({ frames := 0, cells := 0, slots := 0, locals := 0 } : Room) #[.ref xb] h0 (Q_own_lHash Z xi xb xk h0 n0) := by
  refine own_mk (plainFor_of_name own_pn_java_lang_StringLatin1) O0 ?_
  intro p e s m below meth c s₁ hx hby hml hZ hown hnm hlk hret X0 e0 N0 z0 z1
  refine own_cast (own_ef_own_lHash m xb) ?_
  show own_Goes p e below (s₁.setTop (mkF m 0 #[vR xb] [])) _
  have ltP1 : @LT.lt Nat _ xb h0.size := P1.lt
  refine q_aloadN X0 hx hby d33_0 rfl rfl ?_
  refine q_len X0 hx hby hZ e0 P1 d33_1 ?_
  refine gg (fun t k => X0.lookupswitchHit hx (g := (mkF m 2 #[vR xb] [.int 1])) rfl rfl (hb hby d33_2) (by decide) (a := 1) (off := 30) (by decide) (show (0 : Int) ≤ ((2 : Nat) : Int) + 30 by decide) _ k) ?_
  refine q_aloadN X0 hx hby d33_32 rfl rfl ?_
  refine q_iconst X0 hx hby d33_33 ?_
  refine q_baloadBytes X0 hx hby hZ e0 P1 d33_34 (.int xi) ?_
  refine q_sipush X0 hx hby d33_35 ?_
  refine q_iand X0 hx hby d33_38 ?_
  show own_Goes p e below (s₁.setTop (mkF m 39 #[vR xb] [(.int (xi &&& (255 : Int32)))])) _
  rw [show (xi &&& (255 : Int32)) = xi from P0.2.1]
  refine q_goto (pc := 39) X0 hx hby d33_39 (pc' := 51) (by decide) (by decide) ?_
  refine r_I X0 hx hby hret hlk d33_51 e0 ?_
  exact ⟨N0, rfl, rfl⟩
theorem d31_0 : decode B31 0 = .ok (.aload_n 0, 1) := by decide +kernel
theorem d31_1 : decode B31 1 = .ok (.getfield 19, 3) := by decide +kernel
theorem d31_4 : decode B31 4 = .ok (.istore_n 1, 1) := by decide +kernel
theorem d31_5 : decode B31 5 = .ok (.iload_n 1, 1) := by decide +kernel
theorem d31_6 : decode B31 6 = .ok (.ifCond .ne 52, 3) := by decide +kernel
theorem d31_9 : decode B31 9 = .ok (.aload_n 0, 1) := by decide +kernel
theorem d31_10 : decode B31 10 = .ok (.getfield 23, 3) := by decide +kernel
theorem d31_13 : decode B31 13 = .ok (.ifCond .ne 45, 3) := by decide +kernel
theorem d31_16 : decode B31 16 = .ok (.aload_n 0, 1) := by decide +kernel
theorem d31_17 : decode B31 17 = .ok (.invokevirtual 492, 3) := by decide +kernel
theorem own_pd_4 : parseMethodDescriptor "()Z" = some ⟨[], some .boolean⟩ := by decide +kernel
theorem d31_20 : decode B31 20 = .ok (.ifCond .eq 13, 3) := by decide +kernel
theorem d31_23 : decode B31 23 = .ok (.aload_n 0, 1) := by decide +kernel
theorem d31_24 : decode B31 24 = .ok (.getfield 9, 3) := by decide +kernel
theorem d31_27 : decode B31 27 = .ok (.invokestatic 628, 3) := by decide +kernel
theorem own_pd_5 : parseMethodDescriptor "([B)I" = some ⟨[(.array .byte)], some .int⟩ := by decide +kernel
theorem d31_30 : decode B31 30 = .ok (.goto 10, 3) := by decide +kernel
theorem d31_40 : decode B31 40 = .ok (.istore_n 1, 1) := by decide +kernel
theorem d31_41 : decode B31 41 = .ok (.iload_n 1, 1) := by decide +kernel
theorem d31_42 : decode B31 42 = .ok (.ifCond .ne 11, 3) := by decide +kernel
theorem d31_53 : decode B31 53 = .ok (.aload_n 0, 1) := by decide +kernel
theorem d31_54 : decode B31 54 = .ok (.iload_n 1, 1) := by decide +kernel
theorem d31_55 : decode B31 55 = .ok (.putfield 19, 3) := by decide +kernel
theorem d31_58 : decode B31 58 = .ok (.iload_n 1, 1) := by decide +kernel
theorem d31_59 : decode B31 59 = .ok (.ireturn, 1) := by decide +kernel
theorem own_ef_own_sHash (m : MethodId) (xa : Addr) : entryFrame m #[.ref xa] 2 = mkF m 0 #[vR xa, uS] [] := by first | (simp [entryFrame, mkF, argsToLocals, Value.category]; done) | rfl
def Q_own_sHash (Z : State) (xi : Int32) (xa : Addr) (xb : Addr) (xk : ClassId) (gwD : Addr) (gz : Int32) (gwc : Addr) (gcl : Cell) (h0 : Heap) (n0 : Nat) (v : Option Value) (h : Heap) (L : List Loc) : Prop := Fr n0 L ∧ Keep h0 h [xa] ∧ v = some (.int xi)
theorem own_sHash (l : Launch) (Z : State) (a0 : Array Value) (hw : ∀ d ∈ tables_1, d.before a0 Z = true) (ws : List Jvm.Cond) (xi : Int32) (xa : Addr) (xb : Addr) (xk : ClassId) (h0 : Heap) (n0 : Nat) (O0 : Old Z n0 h0) (gwD : Addr) (gz : Int32) (gwc : Addr) (gcl : Cell) (G : GG Z gwD gz gwc gcl) (P0 : own_chr xi) (P1 : Exa Z h0 xa "java/lang/String") (P2 : Fld Z h0 xa "java/lang/String" "value" "[B" (.ref xb)) (P3 : Fld Z h0 xa "java/lang/String" "coder" "B" (.int 0)) (P4 : Fld Z h0 xa "java/lang/String" "hash" "I" (.int 0)) (P5 : Fld Z h0 xa "java/lang/String" "hashIsZero" "Z" (.int 0)) (P6 : Arv Z h0 xb xk .byte (1 : Int32) [.int xi] (.int 0)) (P7 : n0 ≤ xa) : own_Met l Z (⟨"java/lang/String", "hashCode", "()I"⟩ : MethodName) jdk_42_method_78_code 2 (some .int) ws ({ frames := 1, cells := 0, slots := 0, locals := 12 } : Room) #[.ref xa] h0 (Q_own_sHash Z xi xa xb xk gwD gz gwc gcl h0 n0) := by
  refine own_mk (plainFor_of_name own_pn_java_lang_String) O0 ?_
  intro p e s m below meth c s₁ hx hby hml hZ hown hnm hlk hret X0 e0 N0 z0 z1
  have K0 : Keep h0 h0 [xa] := Keep.refl _ _
  refine own_cast (own_ef_own_sHash m xa) ?_
  show own_Goes p e below (s₁.setTop (mkF m 0 #[vR xa, uS] [])) _
  obtain ⟨G0, G1, G2, G3, G4, G5, G6⟩ := id G
  have ltG1 : @LT.lt Nat _ gwD Z.heap.size := G1.lt
  have ltP1 : @LT.lt Nat _ xa h0.size := P1.lt
  have ltP6 : @LT.lt Nat _ xb h0.size := P6.lt
  refine q_aloadN X0 hx hby d31_0 rfl rfl ?_
  refine qG X0 hx hby hZ hown (wh hw 235 rfl) e0 P4 d31_1 (fun T1 X1 e1 => ?_)
  refine q_istoreN X1 hx hby d31_4 (l' := #[vR xa, vI 0]) rfl ?_
  refine q_iloadN X1 hx hby d31_5 rfl ?_
  refine q_ifNo X1 hx hby d31_6 ((if0 _ _).trans (teq (show ((0 : Int32) = (0 : Int32)) from by decide)).2) ?_
  refine q_aloadN X1 hx hby d31_9 rfl rfl ?_
  refine qG X1 hx hby hZ hown (wh hw 237 rfl) e1 P5 d31_10 (fun T2 X2 e2 => ?_)
  refine q_ifNo X2 hx hby d31_13 ((if0 _ _).trans (teq (show ((0 : Int32) = (0 : Int32)) from by decide)).2) ?_
  refine q_aloadN X2 hx hby d31_16 rfl rfl ?_
  refine k_V X2 hx hby hZ hown (wh hw 239 rfl) (wh hw 240 rfl) (wh hw 242 rfl) (wh hw 241 rfl) (W := 0) (own_isLat l Z a0 hw [] xa h0 n0 O0 gwD gz gwc gcl G P3) (wh hw 243 rfl) (wh hw 189 rfl) e2 P1  hml (argsL := []) (rest := []) own_pd_4 d31_17 (fun _ T3 L3 X3 hQ3 => ?_)
  obtain ⟨Nc3, e3, rfl⟩ := hQ3
  have N3 := Fr.app N0 Nc3
  refine q_ifNo X3 hx hby d31_20 ((if0 _ _).trans (feq (show ¬ ((1 : Int32) = (0 : Int32)) from by decide)).1) ?_
  refine q_aloadN X3 hx hby d31_23 rfl rfl ?_
  refine qG X3 hx hby hZ hown (wh hw 207 rfl) e3 P2 d31_24 (fun T4 X4 e4 => ?_)
  refine k_S X4 hx hby hZ hown (wh hw 244 rfl) (wh hw 245 rfl) (W := 0) (own_lHash l Z a0 hw [] xi xb xk h0 n0 O0 (show own_chr xi from (by first | assumption | exact own_chr97 | exact own_chr98 | exact own_chr99)) P6) (wh hw 246 rfl) (wh hw 194 rfl) e4  hml (argsL := [.ref xb]) (rest := []) own_pd_5 d31_27 (fun _ T5 L5 X5 hQ5 => ?_)
  obtain ⟨Nc5, e5, rfl⟩ := hQ5
  have N5 := Fr.app N3 Nc5
  show own_Goes p e below (T5.setTop (mkF m 30 #[vR xa, vI 0] [.int xi])) _
  refine q_goto (pc := 30) X5 hx hby d31_30 (pc' := 40) (by decide) (by decide) ?_
  refine q_istoreN X5 hx hby d31_40 (l' := #[vR xa, vI xi]) rfl ?_
  refine q_iloadN X5 hx hby d31_41 rfl ?_
  refine q_ifYes (pc := 42) X5 hx hby d31_42 (pc' := 53) ((if0 _ _).trans (feq (show ¬ (xi = (0 : Int32)) from P0.2.2.1)).2) (by decide) (by decide) ?_
  refine q_aloadN X5 hx hby d31_53 rfl rfl ?_
  refine q_iloadN X5 hx hby d31_54 rfl ?_
  refine qP X5 hx hby hZ hown (host := "") (Or.inl (wh hw 235 rfl)) Via.refl e5 P4 P1 (Or.inl (wh hw 236 rfl)) (wh hw 197 rfl) (ty := .int) d31_55 (fun T6 h6 X6 e6 W6 => ?_)
  have O7 := O0.wr W6 (show n0 ≤ xa by omega)
  have sz8 : h6.size = h0.size := Wr.size W6
  have K9 := K0.wr W6 (Or.inl (List.mem_of_getElem? (i := 0) rfl))
  have N6 := Fr.snoc X6 N5 (show n0 ≤ xa by omega)
  have Fw6 := P4.same W6
  refine q_iloadN X6 hx hby d31_58 rfl ?_
  refine r_I X6 hx hby hret hlk d31_59 e6 ?_
  exact ⟨N6, K9, rfl⟩
theorem d30_0 : decode B30 0 = .ok (.aload_n 0, 1) := by decide +kernel
theorem d30_1 : decode B30 1 = .ok (.ifnonnull 7, 3) := by decide +kernel
theorem d30_8 : decode B30 8 = .ok (.aload_n 0, 1) := by decide +kernel
theorem d30_9 : decode B30 9 = .ok (.invokevirtual 1, 3) := by decide +kernel
theorem own_pd_6 : parseMethodDescriptor "()I" = some ⟨[], some .int⟩ := by decide +kernel
theorem d30_12 : decode B30 12 = .ok (.dup, 1) := by decide +kernel
theorem d30_13 : decode B30 13 = .ok (.istore_n 1, 1) := by decide +kernel
theorem d30_14 : decode B30 14 = .ok (.iload_n 1, 1) := by decide +kernel
theorem d30_15 : decode B30 15 = .ok (.bipush 16, 2) := by decide +kernel
theorem d30_17 : decode B30 17 = .ok (.iushr, 1) := by decide +kernel
theorem d30_18 : decode B30 18 = .ok (.ixor, 1) := by decide +kernel
theorem d30_19 : decode B30 19 = .ok (.ireturn, 1) := by decide +kernel
theorem own_ef_own_hash (m : MethodId) (xa : Addr) : entryFrame m #[.ref xa] 2 = mkF m 0 #[vR xa, uS] [] := by first | (simp [entryFrame, mkF, argsToLocals, Value.category]; done) | rfl
def Q_own_hash (Z : State) (xi : Int32) (xa : Addr) (xb : Addr) (xk : ClassId) (gwD : Addr) (gz : Int32) (gwc : Addr) (gcl : Cell) (h0 : Heap) (n0 : Nat) (v : Option Value) (h : Heap) (L : List Loc) : Prop := Fr n0 L ∧ Keep h0 h [xa] ∧ v = some (.int xi)
theorem own_hash (l : Launch) (Z : State) (a0 : Array Value) (hw : ∀ d ∈ tables_1, d.before a0 Z = true) (ws : List Jvm.Cond) (xi : Int32) (xa : Addr) (xb : Addr) (xk : ClassId) (h0 : Heap) (n0 : Nat) (O0 : Old Z n0 h0) (gwD : Addr) (gz : Int32) (gwc : Addr) (gcl : Cell) (G : GG Z gwD gz gwc gcl) (P0 : own_chr xi) (P1 : Exa Z h0 xa "java/lang/String") (P2 : Fld Z h0 xa "java/lang/String" "value" "[B" (.ref xb)) (P3 : Fld Z h0 xa "java/lang/String" "coder" "B" (.int 0)) (P4 : Fld Z h0 xa "java/lang/String" "hash" "I" (.int 0)) (P5 : Fld Z h0 xa "java/lang/String" "hashIsZero" "Z" (.int 0)) (P6 : Arv Z h0 xb xk .byte (1 : Int32) [.int xi] (.int 0)) (P7 : n0 ≤ xa) : own_Met l Z (⟨"java/util/HashMap", "hash", "(Ljava/lang/Object;)I"⟩ : MethodName) jdk_69_method_1_code 2 (some .int) ws ({ frames := 2, cells := 0, slots := 0, locals := 25 } : Room) #[.ref xa] h0 (Q_own_hash Z xi xa xb xk gwD gz gwc gcl h0 n0) := by
  refine own_mk (plainFor_of_name own_pn_java_util_HashMap) O0 ?_
  intro p e s m below meth c s₁ hx hby hml hZ hown hnm hlk hret X0 e0 N0 z0 z1
  have K0 : Keep h0 h0 [xa] := Keep.refl _ _
  refine own_cast (own_ef_own_hash m xa) ?_
  show own_Goes p e below (s₁.setTop (mkF m 0 #[vR xa, uS] [])) _
  obtain ⟨G0, G1, G2, G3, G4, G5, G6⟩ := id G
  have ltG1 : @LT.lt Nat _ gwD Z.heap.size := G1.lt
  have ltP1 : @LT.lt Nat _ xa h0.size := P1.lt
  have ltP6 : @LT.lt Nat _ xb h0.size := P6.lt
  refine q_aloadN X0 hx hby d30_0 rfl rfl ?_
  refine gg (fun t k => XS.ifnonnullYes X0.here hx rfl (pc0 := 1) (pc' := 8) rfl (hb hby d30_1) rfl (by decide) (by decide) k) ?_
  refine q_aloadN X0 hx hby d30_8 rfl rfl ?_
  refine k_Vn X0 hx hby hZ hown (wh hw 229 rfl) (wh hw 230 rfl) (wh hw 155 rfl) (wh hw 232 rfl) (wh hw 233 rfl) (W := 0) (own_sHash l Z a0 hw [] xi xa xb xk h0 n0 O0 gwD gz gwc gcl G (show own_chr xi from (by first | assumption | exact own_chr97 | exact own_chr98 | exact own_chr99)) P1 P2 P3 P4 P5 P6 (show n0 ≤ xa by first | assumption | omega | decide)) (wh hw 234 rfl) (wh hw 189 rfl) e0 P1  hml (argsL := []) (rest := []) own_pd_6 d30_9 (fun _ T1 L1 X1 hQ1 => ?_)
  obtain ⟨h1, e1⟩ : ∃ z, T1.heap = z := ⟨_, rfl⟩
  rw [e1] at hQ1
  obtain ⟨Nc1, Kc1, rfl⟩ := hQ1
  have N1 := Fr.app N0 Nc1
  have O2 := O0.keep Kc1 (allS (show n0 ≤ xa by omega) all0)
  have sz3 : h0.size ≤ h1.size := Kc1.1
  have K4 := Keep.trans K0 Kc1 (allS (Or.inl (List.mem_of_getElem? (i := 0) rfl)) all0)
  refine q_dup X1 hx hby d30_12 rfl ?_
  refine q_istoreN X1 hx hby d30_13 (l' := #[vR xa, vI xi]) rfl ?_
  refine q_iloadN X1 hx hby d30_14 rfl ?_
  refine q_bipush X1 hx hby d30_15 ?_
  refine gg (fun t k => XS.iushr X1.here hx rfl (hb hby d30_17) rfl k) ?_
  refine gg (fun t k => XS.ixor X1.here hx rfl (hb hby d30_18) rfl k) ?_
  show own_Goes p e below (T1.setTop (mkF m 19 #[vR xa, vI xi] [(.int (xi ^^^ ((xi.toUInt32 >>> ((16 : Int32) &&& 31).toUInt32).toInt32)))])) _
  rw [show (xi ^^^ ((xi.toUInt32 >>> ((16 : Int32) &&& 31).toUInt32).toInt32)) = xi from P0.2.2.2.1]
  refine r_I X1 hx hby hret hlk d30_19 e1 ?_
  exact ⟨N1, K4, rfl⟩
theorem d37_0 : decode B37 0 = .ok (.aload_n 0, 1) := by decide +kernel
theorem d37_1 : decode B37 1 = .ok (.invokespecial 1, 3) := by decide +kernel
theorem d37_4 : decode B37 4 = .ok (.aload_n 0, 1) := by decide +kernel
theorem d37_5 : decode B37 5 = .ok (.iload_n 1, 1) := by decide +kernel
theorem d37_6 : decode B37 6 = .ok (.putfield 7, 3) := by decide +kernel
theorem d37_9 : decode B37 9 = .ok (.aload_n 0, 1) := by decide +kernel
theorem d37_10 : decode B37 10 = .ok (.aload_n 2, 1) := by decide +kernel
theorem d37_11 : decode B37 11 = .ok (.putfield 13, 3) := by decide +kernel
theorem d37_14 : decode B37 14 = .ok (.aload_n 0, 1) := by decide +kernel
theorem d37_15 : decode B37 15 = .ok (.aload_n 3, 1) := by decide +kernel
theorem d37_16 : decode B37 16 = .ok (.putfield 17, 3) := by decide +kernel
theorem d37_19 : decode B37 19 = .ok (.aload_n 0, 1) := by decide +kernel
theorem d37_20 : decode B37 20 = .ok (.aload 4, 2) := by decide +kernel
theorem d37_22 : decode B37 22 = .ok (.putfield 20, 3) := by decide +kernel
theorem d37_25 : decode B37 25 = .ok (.return_, 1) := by decide +kernel
theorem own_pn_java_util_HashMap_Node : plainName "java/util/HashMap$Node" = true := by first | (simp [plainName, overriddenIn]; done) | decide +kernel
theorem own_ef_own_ndInit (m : MethodId) (xa : Addr) (xi : Int32) (xy : Addr) (xv : Addr) : entryFrame m #[.ref xa, .int xi, .ref xy, .ref xv, .null] 5 = mkF m 0 #[vR xa, vI xi, vR xy, vR xv, vN] [] := by first | (simp [entryFrame, mkF, argsToLocals, Value.category]; done) | rfl
def Q_own_ndInit (Z : State) (xa : Addr) (xi : Int32) (xy : Addr) (xv : Addr) (h0 : Heap) (n0 : Nat) (v : Option Value) (h : Heap) (L : List Loc) : Prop := Fr n0 L ∧ Keep h0 h [xa] ∧ v = none ∧ Fld Z h xa "java/util/HashMap$Node" "value" "Ljava/lang/Object;" (.ref xv) ∧ Fld Z h xa "java/util/HashMap$Node" "next" "Ljava/util/HashMap$Node;" .null
theorem own_ndInit (l : Launch) (Z : State) (a0 : Array Value) (hw : ∀ d ∈ tables_1, d.before a0 Z = true) (ws : List Jvm.Cond) (xa : Addr) (xi : Int32) (xy : Addr) (xv : Addr) (h0 : Heap) (n0 : Nat) (O0 : Old Z n0 h0) (P0 : Exa Z h0 xa "java/util/HashMap$Node") (P1 : Fld Z h0 xa "java/util/HashMap$Node" "hash" "I" (.int 0)) (P2 : Fld Z h0 xa "java/util/HashMap$Node" "key" "Ljava/lang/Object;" .null) (P3 : Fld Z h0 xa "java/util/HashMap$Node" "value" "Ljava/lang/Object;" .null) (P4 : Fld Z h0 xa "java/util/HashMap$Node" "next" "Ljava/util/HashMap$Node;" .null) (P5 : n0 ≤ xa) : own_Met l Z (⟨"java/util/HashMap$Node", "<init>", "(ILjava/lang/Object;Ljava/lang/Object;Ljava/util/HashMap$Node;)V"⟩ : MethodName) jdk_70_method_1_code 5 none ws ({ frames := 1, cells := 0, slots := 0, locals := 12 } : Room) #[.ref xa, .int xi, .ref xy, .ref xv, .null] h0 (Q_own_ndInit Z xa xi xy xv h0 n0) := by
  refine own_mk (plainFor_of_name own_pn_java_util_HashMap_Node) O0 ?_
  intro p e s m below meth c s₁ hx hby hml hZ hown hnm hlk hret X0 e0 N0 z0 z1
  have K0 : Keep h0 h0 [xa] := Keep.refl _ _
  refine own_cast (own_ef_own_ndInit m xa xi xy xv) ?_
  show own_Goes p e below (s₁.setTop (mkF m 0 #[vR xa, vI xi, vR xy, vR xv, vN] [])) _
  have ltP0 : @LT.lt Nat _ xa h0.size := P0.lt
  refine q_aloadN X0 hx hby d37_0 rfl rfl ?_
  obtain ⟨T1, X1, e1, st1⟩ := initO X0 hx hZ hown (wh hw 273 rfl) (wh hw 19 rfl) (wh hw 20 rfl) e0 (g := (mkF m 1 #[vR xa, vI xi, vR xy, vR xv, vN] [.ref xa])) rfl (by rw [hml]; rfl) rfl (hb hby d37_1) (by decide) (W := 0) (by show 2 * 0 + _ ≤ _; exact Nat.le_of_eq rfl) (by decide)
  refine gg st1 ?_
  refine q_aloadN X1 hx hby d37_4 rfl rfl ?_
  refine q_iloadN X1 hx hby d37_5 rfl ?_
  refine qP X1 hx hby hZ hown (host := "") (Or.inl (wh hw 274 rfl)) Via.refl e1 P1 P0 (Or.inr ⟨(wh hw 275 rfl), rfl, hnm⟩) (wh hw 267 rfl) (ty := .int) d37_6 (fun T2 h2 X2 e2 W2 => ?_)
  have O3 := O0.wr W2 (show n0 ≤ xa by omega)
  have sz4 : h2.size = h0.size := Wr.size W2
  have K5 := K0.wr W2 (Or.inl (List.mem_of_getElem? (i := 0) rfl))
  have N2 := Fr.snoc X2 N0 (show n0 ≤ xa by omega)
  have Fw2 := P1.same W2
  refine q_aloadN X2 hx hby d37_9 rfl rfl ?_
  refine q_aloadN X2 hx hby d37_10 rfl rfl ?_
  have f6 := (P2.other W2 (Or.inr (slot_ne (Or.inr (wh hw 277 rfl)) (Or.inr (wh hw 275 rfl)) (by decide) (t := (.object "java/lang/Object")) (t' := .int) (by decide) (by decide))))
  have f7 := (P0.wr W2)
  refine qP X2 hx hby hZ hown (host := "") (Or.inl (wh hw 276 rfl)) Via.refl e2 f6 f7 (Or.inr ⟨(wh hw 277 rfl), rfl, hnm⟩) (wh hw 267 rfl) (ty := (.object "java/lang/Object")) d37_11 (fun T8 h8 X8 e8 W8 => ?_)
  have O9 := O3.wr W8 (show n0 ≤ xa by omega)
  have sz10 : h8.size = h2.size := Wr.size W8
  have K11 := K5.wr W8 (Or.inl (List.mem_of_getElem? (i := 0) rfl))
  have N8 := Fr.snoc X8 N2 (show n0 ≤ xa by omega)
  have Fw8 := f6.same W8
  refine q_aloadN X8 hx hby d37_14 rfl rfl ?_
  refine q_aloadN X8 hx hby d37_15 rfl rfl ?_
  have f12 := ((P3.other W2 (Or.inr (slot_ne (Or.inl (wh hw 279 rfl)) (Or.inr (wh hw 275 rfl)) (by decide) (t := (.object "java/lang/Object")) (t' := .int) (by decide) (by decide)))).other W8 (Or.inr (slot_ne (Or.inl (wh hw 279 rfl)) (Or.inr (wh hw 277 rfl)) (by decide) (t := (.object "java/lang/Object")) (t' := (.object "java/lang/Object")) (by decide) (by decide))))
  have f13 := (f7.wr W8)
  refine qP X8 hx hby hZ hown (host := "") (Or.inl (wh hw 278 rfl)) Via.refl e8 f12 f13 (Or.inl (wh hw 279 rfl)) (wh hw 267 rfl) (ty := (.object "java/lang/Object")) d37_16 (fun T14 h14 X14 e14 W14 => ?_)
  have O15 := O9.wr W14 (show n0 ≤ xa by omega)
  have sz16 : h14.size = h8.size := Wr.size W14
  have K17 := K11.wr W14 (Or.inl (List.mem_of_getElem? (i := 0) rfl))
  have N14 := Fr.snoc X14 N8 (show n0 ≤ xa by omega)
  have Fw14 := f12.same W14
  refine q_aloadN X14 hx hby d37_19 rfl rfl ?_
  refine q_aload X14 hx hby d37_20 rfl rfl ?_
  have f18 := (((P4.other W2 (Or.inr (slot_ne (Or.inl (wh hw 281 rfl)) (Or.inr (wh hw 275 rfl)) (by decide) (t := (.object "java/util/HashMap$Node")) (t' := .int) (by decide) (by decide)))).other W8 (Or.inr (slot_ne (Or.inl (wh hw 281 rfl)) (Or.inr (wh hw 277 rfl)) (by decide) (t := (.object "java/util/HashMap$Node")) (t' := (.object "java/lang/Object")) (by decide) (by decide)))).other W14 (Or.inr (slot_ne (Or.inl (wh hw 281 rfl)) (Or.inl (wh hw 279 rfl)) (by decide) (t := (.object "java/util/HashMap$Node")) (t' := (.object "java/lang/Object")) (by decide) (by decide))))
  have f19 := (f13.wr W14)
  refine qP X14 hx hby hZ hown (host := "") (Or.inl (wh hw 280 rfl)) Via.refl e14 f18 f19 (Or.inl (wh hw 281 rfl)) (wh hw 267 rfl) (ty := (.object "java/util/HashMap$Node")) d37_22 (fun T20 h20 X20 e20 W20 => ?_)
  have O21 := O15.wr W20 (show n0 ≤ xa by omega)
  have sz22 : h20.size = h14.size := Wr.size W20
  have K23 := K17.wr W20 (Or.inl (List.mem_of_getElem? (i := 0) rfl))
  have N20 := Fr.snoc X20 N14 (show n0 ≤ xa by omega)
  have Fw20 := f18.same W20
  show own_Goes p e below (T20.setTop (mkF m 25 #[vR xa, vI xi, vR xy, vR xv, vN] [])) _
  refine r_V X20 hx hby hret hlk d37_25 e20 ?_
  have f24 := (Fw14.other W20 (Or.inr (slot_ne (Or.inl (wh hw 279 rfl)) (Or.inl (wh hw 281 rfl)) (by decide) (t := (.object "java/lang/Object")) (t' := (.object "java/util/HashMap$Node")) (by decide) (by decide))))
  exact ⟨N20, K23, rfl, f24, Fw20⟩
theorem d36_0 : decode B36 0 = .ok (.new 163, 3) := by decide +kernel
theorem d36_3 : decode B36 3 = .ok (.dup, 1) := by decide +kernel
theorem d36_4 : decode B36 4 = .ok (.iload_n 1, 1) := by decide +kernel
theorem d36_5 : decode B36 5 = .ok (.aload_n 2, 1) := by decide +kernel
theorem d36_6 : decode B36 6 = .ok (.aload_n 3, 1) := by decide +kernel
theorem d36_7 : decode B36 7 = .ok (.aload 4, 2) := by decide +kernel
theorem d36_9 : decode B36 9 = .ok (.invokespecial 375, 3) := by decide +kernel
theorem own_pd_7 : parseMethodDescriptor "(ILjava/lang/Object;Ljava/lang/Object;Ljava/util/HashMap$Node;)V" = some ⟨[.int, (.object "java/lang/Object"), (.object "java/lang/Object"), (.object "java/util/HashMap$Node")], none⟩ := by decide +kernel
theorem d36_12 : decode B36 12 = .ok (.areturn, 1) := by decide +kernel
theorem own_ef_own_newNode (m : MethodId) (xm : Addr) (xi : Int32) (xy : Addr) (xv : Addr) : entryFrame m #[.ref xm, .int xi, .ref xy, .ref xv, .null] 5 = mkF m 0 #[vR xm, vI xi, vR xy, vR xv, vN] [] := by first | (simp [entryFrame, mkF, argsToLocals, Value.category]; done) | rfl
def Q_own_newNode (Z : State) (xm : Addr) (xi : Int32) (xy : Addr) (xv : Addr) (h0 : Heap) (n0 : Nat) (v : Option Value) (h : Heap) (L : List Loc) : Prop := Fr n0 L ∧ Keep h0 h [] ∧ ∃ (r : Addr), v = some (.ref r) ∧ Exa Z h r "java/util/HashMap$Node" ∧ Fld Z h r "java/util/HashMap$Node" "value" "Ljava/lang/Object;" (.ref xv) ∧ Fld Z h r "java/util/HashMap$Node" "next" "Ljava/util/HashMap$Node;" .null ∧ h0.size ≤ r
theorem own_newNode (l : Launch) (Z : State) (a0 : Array Value) (hw : ∀ d ∈ tables_1, d.before a0 Z = true) (ws : List Jvm.Cond) (xm : Addr) (xi : Int32) (xy : Addr) (xv : Addr) (h0 : Heap) (n0 : Nat) (O0 : Old Z n0 h0) : own_Met l Z (⟨"java/util/HashMap", "newNode", "(ILjava/lang/Object;Ljava/lang/Object;Ljava/util/HashMap$Node;)Ljava/util/HashMap$Node;"⟩ : MethodName) jdk_69_method_46_code 5 (some (.object "java/util/HashMap$Node")) ws ({ frames := 2, cells := 1, slots := 4, locals := 29 } : Room) #[.ref xm, .int xi, .ref xy, .ref xv, .null] h0 (Q_own_newNode Z xm xi xy xv h0 n0) := by
  refine own_mk (plainFor_of_name own_pn_java_util_HashMap) O0 ?_
  intro p e s m below meth c s₁ hx hby hml hZ hown hnm hlk hret X0 e0 N0 z0 z1
  have K0 : Keep h0 h0 [] := Keep.refl _ _
  refine own_cast (own_ef_own_newNode m xm xi xy xv) ?_
  show own_Goes p e below (s₁.setTop (mkF m 0 #[vR xm, vI xi, vR xy, vR xv, vN] [])) _
  obtain ⟨T1, h1, X1, e1, E1, A1, D1, -, st1⟩ := newO X0 hx hZ hown (wh hw 260 rfl) (wh hw 267 rfl) (wh hw 268 rfl) e0 (g := (mkF m 0 #[vR xm, vI xi, vR xy, vR xv, vN] [])) rfl (hb hby d36_0) (by decide) (by decide)
  obtain ⟨b1, g1⟩ : ∃ z, z = h0.size := ⟨_, rfl⟩
  rw [← g1] at A1 D1 st1
  refine gg st1 ?_
  have O2 := O0.ext E1
  have sz3 : h0.size ≤ h1.size := E1.1
  have K4 := K0.ext E1
  have l1 : @LT.lt Nat _ b1 h1.size := A1.lt
  have F1_hash : Fld Z h1 b1 "java/util/HashMap$Node" "hash" "I" (.int 0) := D1 (Or.inr (wh hw 275 rfl)) (ty := .int) (by decide)
  have F1_key : Fld Z h1 b1 "java/util/HashMap$Node" "key" "Ljava/lang/Object;" .null := D1 (Or.inr (wh hw 277 rfl)) (ty := (.object "java/lang/Object")) (by decide)
  have F1_value : Fld Z h1 b1 "java/util/HashMap$Node" "value" "Ljava/lang/Object;" .null := D1 (Or.inl (wh hw 279 rfl)) (ty := (.object "java/lang/Object")) (by decide)
  have F1_next : Fld Z h1 b1 "java/util/HashMap$Node" "next" "Ljava/util/HashMap$Node;" .null := D1 (Or.inl (wh hw 281 rfl)) (ty := (.object "java/util/HashMap$Node")) (by decide)
  refine q_dup X1 hx hby d36_3 rfl ?_
  refine q_iloadN X1 hx hby d36_4 rfl ?_
  refine q_aloadN X1 hx hby d36_5 rfl rfl ?_
  refine q_aloadN X1 hx hby d36_6 rfl rfl ?_
  refine q_aload X1 hx hby d36_7 rfl rfl ?_
  refine k_N X1 hx hby hZ hown (wh hw 269 rfl) (wh hw 270 rfl) (W := 1) (own_ndInit l Z a0 hw [] b1 xi xy xv h1 n0 O2 A1 F1_hash F1_key F1_value F1_next (show n0 ≤ b1 by first | assumption | omega | decide)) (wh hw 272 rfl) (wh hw 268 rfl) e1  hml (argsL := [.int xi, .ref xy, .ref xv, .null]) (rest := [.ref b1]) own_pd_7 d36_9 (fun _ T5 L5 X5 hQ5 => ?_)
  obtain ⟨h5, e5⟩ : ∃ z, T5.heap = z := ⟨_, rfl⟩
  rw [e5] at hQ5
  obtain ⟨Nc5, Kc5, rfl, c5_0, c5_1⟩ := hQ5
  have N5 := Fr.app N0 Nc5
  have O6 := O2.keep Kc5 (allS (show n0 ≤ b1 by omega) all0)
  have sz7 : h1.size ≤ h5.size := Kc5.1
  have K8 := Keep.trans K4 Kc5 (allS (Or.inr (show h0.size ≤ b1 by omega)) all0)
  refine r_R X5 hx hby hret hlk d36_12 e5 ?_
  have f9 := (A1.keep Kc5)
  exact ⟨N5, K8, b1, rfl, f9, c5_0, c5_1, (show h0.size ≤ b1 by first | assumption | omega | decide)⟩
theorem d38_0 : decode B38 0 = .ok (.return_, 1) := by decide +kernel
theorem own_ef_own_after (m : MethodId) (xm : Addr) : entryFrame m #[.ref xm, .int 1] 2 = mkF m 0 #[vR xm, vI 1] [] := by first | (simp [entryFrame, mkF, argsToLocals, Value.category]; done) | rfl
def Q_own_after (Z : State) (xm : Addr) (h0 : Heap) (n0 : Nat) (v : Option Value) (h : Heap) (L : List Loc) : Prop := Fr n0 L ∧ h = h0 ∧ v = none
theorem own_after (l : Launch) (Z : State) (a0 : Array Value) (hw : ∀ d ∈ tables_1, d.before a0 Z = true) (ws : List Jvm.Cond) (xm : Addr) (h0 : Heap) (n0 : Nat) (O0 : Old Z n0 h0) : own_Met l Z (⟨"java/util/HashMap", "afterNodeInsertion", "(Z)V"⟩ : MethodName) jdk_69_method_52_code 2 none ws ({ frames := 0, cells := 0, slots := 0, locals := 0 } : Room) #[.ref xm, .int 1] h0 (Q_own_after Z xm h0 n0) := by
  refine own_mk (plainFor_of_name own_pn_java_util_HashMap) O0 ?_
  intro p e s m below meth c s₁ hx hby hml hZ hown hnm hlk hret X0 e0 N0 z0 z1
  refine own_cast (own_ef_own_after m xm) ?_
  show own_Goes p e below (s₁.setTop (mkF m 0 #[vR xm, vI 1] [])) _
  refine r_V X0 hx hby hret hlk d38_0 e0 ?_
  exact ⟨N0, rfl, rfl⟩
theorem d35_0 : decode B35 0 = .ok (.aload_n 0, 1) := by decide +kernel
theorem d35_1 : decode B35 1 = .ok (.getfield 105, 3) := by decide +kernel
theorem d35_4 : decode B35 4 = .ok (.astore_n 1, 1) := by decide +kernel
theorem d35_5 : decode B35 5 = .ok (.aload_n 1, 1) := by decide +kernel
theorem d35_6 : decode B35 6 = .ok (.ifnonnull 7, 3) := by decide +kernel
theorem d35_9 : decode B35 9 = .ok (.iconst 0, 1) := by decide +kernel
theorem d35_10 : decode B35 10 = .ok (.goto 5, 3) := by decide +kernel
theorem d35_15 : decode B35 15 = .ok (.istore_n 2, 1) := by decide +kernel
theorem d35_16 : decode B35 16 = .ok (.aload_n 0, 1) := by decide +kernel
theorem d35_17 : decode B35 17 = .ok (.getfield 88, 3) := by decide +kernel
theorem d35_20 : decode B35 20 = .ok (.istore_n 3, 1) := by decide +kernel
theorem d35_21 : decode B35 21 = .ok (.iconst 0, 1) := by decide +kernel
theorem d35_22 : decode B35 22 = .ok (.istore 5, 2) := by decide +kernel
theorem d35_24 : decode B35 24 = .ok (.iload_n 2, 1) := by decide +kernel
theorem d35_25 : decode B35 25 = .ok (.ifCond .le 42, 3) := by decide +kernel
theorem d35_67 : decode B35 67 = .ok (.iload_n 3, 1) := by decide +kernel
theorem d35_68 : decode B35 68 = .ok (.ifCond .le 9, 3) := by decide +kernel
theorem d35_77 : decode B35 77 = .ok (.bipush 16, 2) := by decide +kernel
theorem d35_79 : decode B35 79 = .ok (.istore 4, 2) := by decide +kernel
theorem d35_81 : decode B35 81 = .ok (.bipush 12, 2) := by decide +kernel
theorem d35_83 : decode B35 83 = .ok (.istore 5, 2) := by decide +kernel
theorem d35_85 : decode B35 85 = .ok (.iload 5, 2) := by decide +kernel
theorem d35_87 : decode B35 87 = .ok (.ifCond .ne 38, 3) := by decide +kernel
theorem d35_125 : decode B35 125 = .ok (.aload_n 0, 1) := by decide +kernel
theorem d35_126 : decode B35 126 = .ok (.iload 5, 2) := by decide +kernel
theorem d35_128 : decode B35 128 = .ok (.putfield 88, 3) := by decide +kernel
theorem d35_131 : decode B35 131 = .ok (.iload 4, 2) := by decide +kernel
theorem d35_133 : decode B35 133 = .ok (.anewarray 163, 3) := by decide +kernel
theorem d35_136 : decode B35 136 = .ok (.astore 6, 2) := by decide +kernel
theorem d35_138 : decode B35 138 = .ok (.aload_n 0, 1) := by decide +kernel
theorem d35_139 : decode B35 139 = .ok (.aload 6, 2) := by decide +kernel
theorem d35_141 : decode B35 141 = .ok (.putfield 105, 3) := by decide +kernel
theorem d35_144 : decode B35 144 = .ok (.aload_n 1, 1) := by decide +kernel
theorem d35_145 : decode B35 145 = .ok (.ifnull 208, 3) := by decide +kernel
theorem d35_353 : decode B35 353 = .ok (.aload 6, 2) := by decide +kernel
theorem d35_355 : decode B35 355 = .ok (.areturn, 1) := by decide +kernel
theorem own_ef_own_resize (m : MethodId) (xm : Addr) : entryFrame m #[.ref xm] 14 = mkF m 0 #[vR xm, uS, uS, uS, uS, uS, uS, uS, uS, uS, uS, uS, uS, uS] [] := by first | (simp [entryFrame, mkF, argsToLocals, Value.category]; done) | rfl
def Q_own_resize (Z : State) (xm : Addr) (h0 : Heap) (n0 : Nat) (v : Option Value) (h : Heap) (L : List Loc) : Prop := Fr n0 L ∧ Keep h0 h [xm] ∧ ∃ (r : Addr), ∃ (rk : ClassId), v = some (.ref r) ∧ Fld Z h xm "java/util/HashMap" "size" "I" (.int 0) ∧ Fld Z h xm "java/util/HashMap" "modCount" "I" (.int 0) ∧ Fld Z h xm "java/util/HashMap" "threshold" "I" (.int 12) ∧ Fld Z h xm "java/util/HashMap" "table" "[Ljava/util/HashMap$Node;" (.ref r) ∧ Fld Z h xm "java/util/AbstractMap" "values" "Ljava/util/Collection;" .null ∧ Arv Z h r rk (.object "java/util/HashMap$Node") (16 : Int32) [.null, .null, .null, .null, .null, .null, .null, .null, .null, .null, .null, .null, .null, .null, .null, .null] .null ∧ h0.size ≤ r ∧ Ovr Z rk "java/util/HashMap$Node"
theorem own_resize (l : Launch) (Z : State) (a0 : Array Value) (hw : ∀ d ∈ tables_1, d.before a0 Z = true) (ws : List Jvm.Cond) (xm : Addr) (h0 : Heap) (n0 : Nat) (O0 : Old Z n0 h0) (P0 : Exa Z h0 xm "java/util/HashMap") (P1 : n0 ≤ xm) (P2 : Fld Z h0 xm "java/util/HashMap" "size" "I" (.int 0)) (P3 : Fld Z h0 xm "java/util/HashMap" "modCount" "I" (.int 0)) (P4 : Fld Z h0 xm "java/util/HashMap" "threshold" "I" (.int 0)) (P5 : Fld Z h0 xm "java/util/HashMap" "table" "[Ljava/util/HashMap$Node;" .null) (P6 : Fld Z h0 xm "java/util/AbstractMap" "values" "Ljava/util/Collection;" .null) : own_Met l Z (⟨"java/util/HashMap", "resize", "()[Ljava/util/HashMap$Node;"⟩ : MethodName) jdk_69_method_17_code 14 (some (.array (.object "java/util/HashMap$Node"))) ws ({ frames := 0, cells := 1, slots := 16, locals := 0 } : Room) #[.ref xm] h0 (Q_own_resize Z xm h0 n0) := by
  refine own_mk (plainFor_of_name own_pn_java_util_HashMap) O0 ?_
  intro p e s m below meth c s₁ hx hby hml hZ hown hnm hlk hret X0 e0 N0 z0 z1
  have K0 : Keep h0 h0 [xm] := Keep.refl _ _
  refine own_cast (own_ef_own_resize m xm) ?_
  show own_Goes p e below (s₁.setTop (mkF m 0 #[vR xm, uS, uS, uS, uS, uS, uS, uS, uS, uS, uS, uS, uS, uS] [])) _
  have ltP0 : @LT.lt Nat _ xm h0.size := P0.lt
  refine q_aloadN X0 hx hby d35_0 rfl rfl ?_
  refine qG X0 hx hby hZ hown (wh hw 252 rfl) e0 P5 d35_1 (fun T1 X1 e1 => ?_)
  refine q_astoreN X1 hx hby d35_4 rfl (l' := #[vR xm, vN, uS, uS, uS, uS, uS, uS, uS, uS, uS, uS, uS, uS]) rfl ?_
  refine q_aloadN X1 hx hby d35_5 rfl rfl ?_
  refine gg (fun t k => XS.ifnonnullNo X1.here hx rfl (hb hby d35_6) rfl k) ?_
  refine q_iconst X1 hx hby d35_9 ?_
  refine q_goto (pc := 10) X1 hx hby d35_10 (pc' := 15) (by decide) (by decide) ?_
  refine q_istoreN X1 hx hby d35_15 (l' := #[vR xm, vN, vI 0, uS, uS, uS, uS, uS, uS, uS, uS, uS, uS, uS]) rfl ?_
  refine q_aloadN X1 hx hby d35_16 rfl rfl ?_
  refine qG X1 hx hby hZ hown (wh hw 258 rfl) e1 P4 d35_17 (fun T2 X2 e2 => ?_)
  refine q_istoreN X2 hx hby d35_20 (l' := #[vR xm, vN, vI 0, vI 0, uS, uS, uS, uS, uS, uS, uS, uS, uS, uS]) rfl ?_
  refine q_iconst X2 hx hby d35_21 ?_
  refine q_istore X2 hx hby d35_22 (l' := #[vR xm, vN, vI 0, vI 0, uS, vI 0, uS, uS, uS, uS, uS, uS, uS, uS]) rfl ?_
  refine q_iloadN X2 hx hby d35_24 rfl ?_
  show own_Goes p e below (T2.setTop (mkF m 25 #[vR xm, vN, vI 0, vI 0, uS, vI 0, uS, uS, uS, uS, uS, uS, uS, uS] [.int 0])) _
  refine q_ifYes (pc := 25) X2 hx hby d35_25 (pc' := 67) ((if0 _ _).trans (flt (show ¬ ((0 : Int32) < (0 : Int32)) from by decide)).2.2.2) (by decide) (by decide) ?_
  refine q_iloadN X2 hx hby d35_67 rfl ?_
  refine q_ifYes (pc := 68) X2 hx hby d35_68 (pc' := 77) ((if0 _ _).trans (flt (show ¬ ((0 : Int32) < (0 : Int32)) from by decide)).2.2.2) (by decide) (by decide) ?_
  refine q_bipush X2 hx hby d35_77 ?_
  refine q_istore X2 hx hby d35_79 (l' := #[vR xm, vN, vI 0, vI 0, vI 16, vI 0, uS, uS, uS, uS, uS, uS, uS, uS]) rfl ?_
  refine q_bipush X2 hx hby d35_81 ?_
  refine q_istore X2 hx hby d35_83 (l' := #[vR xm, vN, vI 0, vI 0, vI 16, vI 12, uS, uS, uS, uS, uS, uS, uS, uS]) rfl ?_
  refine q_iload X2 hx hby d35_85 rfl ?_
  refine q_ifYes (pc := 87) X2 hx hby d35_87 (pc' := 125) ((if0 _ _).trans (feq (show ¬ ((12 : Int32) = (0 : Int32)) from by decide)).2) (by decide) (by decide) ?_
  refine q_aloadN X2 hx hby d35_125 rfl rfl ?_
  refine q_iload X2 hx hby d35_126 rfl ?_
  refine qP X2 hx hby hZ hown (host := "") (Or.inl (wh hw 258 rfl)) Via.refl e2 P4 P0 (Or.inl (wh hw 259 rfl)) (wh hw 27 rfl) (ty := .int) d35_128 (fun T3 h3 X3 e3 W3 => ?_)
  have O4 := O0.wr W3 (show n0 ≤ xm by omega)
  have sz5 : h3.size = h0.size := Wr.size W3
  have K6 := K0.wr W3 (Or.inl (List.mem_of_getElem? (i := 0) rfl))
  have N3 := Fr.snoc X3 N0 (show n0 ≤ xm by omega)
  have Fw3 := P4.same W3
  refine q_iload X3 hx hby d35_131 rfl ?_
  obtain ⟨T7, h7, k7, X7, e7, E7, A7, Ov7, st7⟩ := newR X3 hx hZ hown (wh hw 260 rfl) (wh hw 261 rfl) e3 (g := (mkF m 133 #[vR xm, vN, vI 0, vI 0, vI 16, vI 12, uS, uS, uS, uS, uS, uS, uS, uS] [.int 16])) rfl (hb hby d35_133) rfl (by decide) (cap := 16) (by decide) (by decide) (by decide) (by decide)
  obtain ⟨b7, g7⟩ : ∃ z, z = h3.size := ⟨_, rfl⟩
  rw [← g7] at A7 st7
  refine gg st7 ?_
  have O8 := O4.ext E7
  have sz9 : h3.size ≤ h7.size := E7.1
  have K10 := K6.ext E7
  have l7 : @LT.lt Nat _ b7 h7.size := A7.lt
  have V7 : Arv Z h7 b7 k7 (.object "java/util/HashMap$Node") (16 : Int32) [.null, .null, .null, .null, .null, .null, .null, .null, .null, .null, .null, .null, .null, .null, .null, .null] .null := (Arv.new A7 (by decide)).pad (pad_rep [] .null 16)
  show own_Goes p e below (T7.setTop (mkF m 136 #[vR xm, vN, vI 0, vI 0, vI 16, vI 12, uS, uS, uS, uS, uS, uS, uS, uS] [.ref b7])) _
  refine q_astore X7 hx hby d35_136 rfl (l' := #[vR xm, vN, vI 0, vI 0, vI 16, vI 12, vR b7, uS, uS, uS, uS, uS, uS, uS]) rfl ?_
  refine q_aloadN X7 hx hby d35_138 rfl rfl ?_
  refine q_aload X7 hx hby d35_139 rfl rfl ?_
  have f11 := ((P5.other W3 (Or.inr (slot_ne (Or.inl (wh hw 129 rfl)) (Or.inl (wh hw 259 rfl)) (by decide) (t := (.array (.object "java/util/HashMap$Node"))) (t' := .int) (by decide) (by decide)))).ext E7)
  have f12 := ((P0.wr W3).ext E7)
  refine qP X7 hx hby hZ hown (host := "") (Or.inl (wh hw 252 rfl)) Via.refl e7 f11 f12 (Or.inl (wh hw 129 rfl)) (wh hw 27 rfl) (ty := (.array (.object "java/util/HashMap$Node"))) d35_141 (fun T13 h13 X13 e13 W13 => ?_)
  have O14 := O8.wr W13 (show n0 ≤ xm by omega)
  have sz15 : h13.size = h7.size := Wr.size W13
  have K16 := K10.wr W13 (Or.inl (List.mem_of_getElem? (i := 0) rfl))
  have N13 := Fr.snoc X13 N3 (show n0 ≤ xm by omega)
  have Fw13 := f11.same W13
  refine q_aloadN X13 hx hby d35_144 rfl rfl ?_
  refine q_ifnullYes (pc := 145) X13 hx hby d35_145 (pc' := 353) (by decide) (by decide) ?_
  refine q_aload X13 hx hby d35_353 rfl rfl ?_
  refine r_R X13 hx hby hret hlk d35_355 e13 ?_
  have f17 := (((P2.other W3 (Or.inr (slot_ne (Or.inl (wh hw 76 rfl)) (Or.inl (wh hw 259 rfl)) (by decide) (t := .int) (t' := .int) (by decide) (by decide)))).ext E7).other W13 (Or.inr (slot_ne (Or.inl (wh hw 76 rfl)) (Or.inl (wh hw 129 rfl)) (by decide) (t := .int) (t' := (.array (.object "java/util/HashMap$Node"))) (by decide) (by decide))))
  have f18 := (((P3.other W3 (Or.inr (slot_ne (Or.inl (wh hw 125 rfl)) (Or.inl (wh hw 259 rfl)) (by decide) (t := .int) (t' := .int) (by decide) (by decide)))).ext E7).other W13 (Or.inr (slot_ne (Or.inl (wh hw 125 rfl)) (Or.inl (wh hw 129 rfl)) (by decide) (t := .int) (t' := (.array (.object "java/util/HashMap$Node"))) (by decide) (by decide))))
  have f19 := ((Fw3.ext E7).other W13 (Or.inr (slot_ne (Or.inl (wh hw 259 rfl)) (Or.inl (wh hw 129 rfl)) (by decide) (t := .int) (t' := (.array (.object "java/util/HashMap$Node"))) (by decide) (by decide))))
  have f20 := (((P6.other W3 (Or.inr (slot_ne (Or.inl (wh hw 87 rfl)) (Or.inl (wh hw 259 rfl)) (by decide) (t := (.object "java/util/Collection")) (t' := .int) (by decide) (by decide)))).ext E7).other W13 (Or.inr (slot_ne (Or.inl (wh hw 87 rfl)) (Or.inl (wh hw 129 rfl)) (by decide) (t := (.object "java/util/Collection")) (t' := (.array (.object "java/util/HashMap$Node"))) (by decide) (by decide))))
  have f21 := (V7.other W13 (nE b7 xm (by omega)))
  exact ⟨N13, K16, b7, k7, rfl, f17, f18, f19, Fw13, f20, f21, (show h0.size ≤ b7 by first | assumption | omega | decide), (show Ovr Z k7 "java/util/HashMap$Node" by first | assumption | omega | decide)⟩
theorem d34_0 : decode B34 0 = .ok (.aload_n 0, 1) := by decide +kernel
theorem d34_1 : decode B34 1 = .ok (.getfield 105, 3) := by decide +kernel
theorem d34_4 : decode B34 4 = .ok (.dup, 1) := by decide +kernel
theorem d34_5 : decode B34 5 = .ok (.astore 6, 2) := by decide +kernel
theorem d34_7 : decode B34 7 = .ok (.ifnull 12, 3) := by decide +kernel
theorem d34_19 : decode B34 19 = .ok (.aload_n 0, 1) := by decide +kernel
theorem d34_20 : decode B34 20 = .ok (.invokevirtual 117, 3) := by decide +kernel
theorem own_pd_8 : parseMethodDescriptor "()[Ljava/util/HashMap$Node;" = some ⟨[], some (.array (.object "java/util/HashMap$Node"))⟩ := by decide +kernel
theorem d34_23 : decode B34 23 = .ok (.dup, 1) := by decide +kernel
theorem d34_24 : decode B34 24 = .ok (.astore 6, 2) := by decide +kernel
theorem d34_26 : decode B34 26 = .ok (.arraylength, 1) := by decide +kernel
theorem d34_27 : decode B34 27 = .ok (.istore 8, 2) := by decide +kernel
theorem d34_29 : decode B34 29 = .ok (.aload 6, 2) := by decide +kernel
theorem d34_31 : decode B34 31 = .ok (.iload 8, 2) := by decide +kernel
theorem d34_33 : decode B34 33 = .ok (.iconst 1, 1) := by decide +kernel
theorem d34_34 : decode B34 34 = .ok (.isub, 1) := by decide +kernel
theorem d34_35 : decode B34 35 = .ok (.iload_n 1, 1) := by decide +kernel
theorem d34_36 : decode B34 36 = .ok (.iand, 1) := by decide +kernel
theorem d34_37 : decode B34 37 = .ok (.dup, 1) := by decide +kernel
theorem d34_38 : decode B34 38 = .ok (.istore 9, 2) := by decide +kernel
theorem d34_40 : decode B34 40 = .ok (.aaload, 1) := by decide +kernel
theorem d34_41 : decode B34 41 = .ok (.dup, 1) := by decide +kernel
theorem d34_42 : decode B34 42 = .ok (.astore 7, 2) := by decide +kernel
theorem d34_44 : decode B34 44 = .ok (.ifnonnull 19, 3) := by decide +kernel
theorem d34_47 : decode B34 47 = .ok (.aload 6, 2) := by decide +kernel
theorem d34_49 : decode B34 49 = .ok (.iload 9, 2) := by decide +kernel
theorem d34_51 : decode B34 51 = .ok (.aload_n 0, 1) := by decide +kernel
theorem d34_52 : decode B34 52 = .ok (.iload_n 1, 1) := by decide +kernel
theorem d34_53 : decode B34 53 = .ok (.aload_n 2, 1) := by decide +kernel
theorem d34_54 : decode B34 54 = .ok (.aload_n 3, 1) := by decide +kernel
theorem d34_55 : decode B34 55 = .ok (.aconst_null, 1) := by decide +kernel
theorem d34_56 : decode B34 56 = .ok (.invokevirtual 186, 3) := by decide +kernel
theorem own_pd_9 : parseMethodDescriptor "(ILjava/lang/Object;Ljava/lang/Object;Ljava/util/HashMap$Node;)Ljava/util/HashMap$Node;" = some ⟨[.int, (.object "java/lang/Object"), (.object "java/lang/Object"), (.object "java/util/HashMap$Node")], some (.object "java/util/HashMap$Node")⟩ := by decide +kernel
theorem d34_59 : decode B34 59 = .ok (.aastore, 1) := by decide +kernel
theorem d34_60 : decode B34 60 = .ok (.goto 199, 3) := by decide +kernel
theorem d34_259 : decode B34 259 = .ok (.aload_n 0, 1) := by decide +kernel
theorem d34_260 : decode B34 260 = .ok (.dup, 1) := by decide +kernel
theorem d34_261 : decode B34 261 = .ok (.getfield 202, 3) := by decide +kernel
theorem d34_264 : decode B34 264 = .ok (.iconst 1, 1) := by decide +kernel
theorem d34_265 : decode B34 265 = .ok (.iadd, 1) := by decide +kernel
theorem d34_266 : decode B34 266 = .ok (.putfield 202, 3) := by decide +kernel
theorem d34_269 : decode B34 269 = .ok (.aload_n 0, 1) := by decide +kernel
theorem d34_270 : decode B34 270 = .ok (.dup, 1) := by decide +kernel
theorem d34_271 : decode B34 271 = .ok (.getfield 156, 3) := by decide +kernel
theorem d34_274 : decode B34 274 = .ok (.iconst 1, 1) := by decide +kernel
theorem d34_275 : decode B34 275 = .ok (.iadd, 1) := by decide +kernel
theorem d34_276 : decode B34 276 = .ok (.dup_x1, 1) := by decide +kernel
theorem d34_277 : decode B34 277 = .ok (.putfield 156, 3) := by decide +kernel
theorem d34_280 : decode B34 280 = .ok (.aload_n 0, 1) := by decide +kernel
theorem d34_281 : decode B34 281 = .ok (.getfield 88, 3) := by decide +kernel
theorem d34_284 : decode B34 284 = .ok (.if_icmp .le 8, 3) := by decide +kernel
theorem d34_292 : decode B34 292 = .ok (.aload_n 0, 1) := by decide +kernel
theorem d34_293 : decode B34 293 = .ok (.iload 5, 2) := by decide +kernel
theorem d34_295 : decode B34 295 = .ok (.invokevirtual 205, 3) := by decide +kernel
theorem own_pd_10 : parseMethodDescriptor "(Z)V" = some ⟨[.boolean], none⟩ := by decide +kernel
theorem d34_298 : decode B34 298 = .ok (.aconst_null, 1) := by decide +kernel
theorem d34_299 : decode B34 299 = .ok (.areturn, 1) := by decide +kernel
theorem own_ef_own_putVal0 (m : MethodId) (xm : Addr) (xy : Addr) (xv : Addr) : entryFrame m #[.ref xm, .int 97, .ref xy, .ref xv, .int 0, .int 1] 13 = mkF m 0 #[vR xm, vI 97, vR xy, vR xv, vI 0, vI 1, uS, uS, uS, uS, uS, uS, uS] [] := by first | (simp [entryFrame, mkF, argsToLocals, Value.category]; done) | rfl
def Q_own_putVal0 (Z : State) (xm : Addr) (xy : Addr) (xv : Addr) (h0 : Heap) (n0 : Nat) (v : Option Value) (h : Heap) (L : List Loc) : Prop := Fr n0 L ∧ Keep h0 h [xm] ∧ ∃ (rt : Addr), ∃ (rk : ClassId), ∃ (r : Addr), v = some .null ∧ Fld Z h xm "java/util/HashMap" "size" "I" (.int 1) ∧ Fld Z h xm "java/util/HashMap" "modCount" "I" (.int 1) ∧ Fld Z h xm "java/util/HashMap" "threshold" "I" (.int 12) ∧ Fld Z h xm "java/util/HashMap" "table" "[Ljava/util/HashMap$Node;" (.ref rt) ∧ Fld Z h xm "java/util/AbstractMap" "values" "Ljava/util/Collection;" .null ∧ Arv Z h rt rk (.object "java/util/HashMap$Node") (16 : Int32) [.null, .ref r, .null, .null, .null, .null, .null, .null, .null, .null, .null, .null, .null, .null, .null, .null] .null ∧ Exa Z h r "java/util/HashMap$Node" ∧ Fld Z h r "java/util/HashMap$Node" "value" "Ljava/lang/Object;" (.ref xv) ∧ Fld Z h r "java/util/HashMap$Node" "next" "Ljava/util/HashMap$Node;" .null ∧ h0.size ≤ rt ∧ @LT.lt Nat _ rt r ∧ Ovr Z rk "java/util/HashMap$Node"
theorem own_putVal0 (l : Launch) (Z : State) (a0 : Array Value) (hw : ∀ d ∈ tables_1, d.before a0 Z = true) (ws : List Jvm.Cond) (xm : Addr) (xy : Addr) (xv : Addr) (h0 : Heap) (n0 : Nat) (O0 : Old Z n0 h0) (P0 : Exa Z h0 xm "java/util/HashMap") (P1 : n0 ≤ xm) (P2 : Fld Z h0 xm "java/util/HashMap" "size" "I" (.int 0)) (P3 : Fld Z h0 xm "java/util/HashMap" "modCount" "I" (.int 0)) (P4 : Fld Z h0 xm "java/util/HashMap" "threshold" "I" (.int 0)) (P5 : Fld Z h0 xm "java/util/HashMap" "table" "[Ljava/util/HashMap$Node;" .null) (P6 : Fld Z h0 xm "java/util/AbstractMap" "values" "Ljava/util/Collection;" .null) : own_Met l Z (⟨"java/util/HashMap", "putVal", "(ILjava/lang/Object;Ljava/lang/Object;ZZ)Ljava/lang/Object;"⟩ : MethodName) jdk_69_method_16_code 13 (some (.object "java/lang/Object")) ws ({ frames := 3, cells := 2, slots := 20, locals := 47 } : Room) #[.ref xm, .int 97, .ref xy, .ref xv, .int 0, .int 1] h0 (Q_own_putVal0 Z xm xy xv h0 n0) := by
  refine own_mk (plainFor_of_name own_pn_java_util_HashMap) O0 ?_
  intro p e s m below meth c s₁ hx hby hml hZ hown hnm hlk hret X0 e0 N0 z0 z1
  have K0 : Keep h0 h0 [xm] := Keep.refl _ _
  refine own_cast (own_ef_own_putVal0 m xm xy xv) ?_
  show own_Goes p e below (s₁.setTop (mkF m 0 #[vR xm, vI 97, vR xy, vR xv, vI 0, vI 1, uS, uS, uS, uS, uS, uS, uS] [])) _
  have ltP0 : @LT.lt Nat _ xm h0.size := P0.lt
  refine q_aloadN X0 hx hby d34_0 rfl rfl ?_
  refine qG X0 hx hby hZ hown (wh hw 252 rfl) e0 P5 d34_1 (fun T1 X1 e1 => ?_)
  refine q_dup X1 hx hby d34_4 rfl ?_
  refine q_astore X1 hx hby d34_5 rfl (l' := #[vR xm, vI 97, vR xy, vR xv, vI 0, vI 1, vN, uS, uS, uS, uS, uS, uS]) rfl ?_
  refine q_ifnullYes (pc := 7) X1 hx hby d34_7 (pc' := 19) (by decide) (by decide) ?_
  refine q_aloadN X1 hx hby d34_19 rfl rfl ?_
  refine k_V X1 hx hby hZ hown (wh hw 253 rfl) (wh hw 254 rfl) (wh hw 256 rfl) (wh hw 255 rfl) (W := 0) (own_resize l Z a0 hw [] xm h0 n0 O0 P0 (show n0 ≤ xm by first | assumption | omega | decide) P2 P3 P4 P5 P6) (wh hw 257 rfl) (wh hw 28 rfl) e1 P0  hml (argsL := []) (rest := []) own_pd_8 d34_20 (fun _ T2 L2 X2 hQ2 => ?_)
  obtain ⟨h2, e2⟩ : ∃ z, T2.heap = z := ⟨_, rfl⟩
  rw [e2] at hQ2
  obtain ⟨Nc2, Kc2, r_2, rk_2, rfl, c2_0, c2_1, c2_2, c2_3, c2_4, c2_5, c2_6, c2_7⟩ := hQ2
  have N2 := Fr.app N0 Nc2
  have O3 := O0.keep Kc2 (allS (show n0 ≤ xm by omega) all0)
  have sz4 : h0.size ≤ h2.size := Kc2.1
  have K5 := Keep.trans K0 Kc2 (allS (Or.inl (List.mem_of_getElem? (i := 0) rfl)) all0)
  have ltc2_5 : @LT.lt Nat _ r_2 h2.size := c2_5.lt
  refine q_dup X2 hx hby d34_23 rfl ?_
  refine q_astore X2 hx hby d34_24 rfl (l' := #[vR xm, vI 97, vR xy, vR xv, vI 0, vI 1, vR r_2, uS, uS, uS, uS, uS, uS]) rfl ?_
  refine q_len X2 hx hby hZ e2 c2_5 d34_26 ?_
  refine q_istore X2 hx hby d34_27 (l' := #[vR xm, vI 97, vR xy, vR xv, vI 0, vI 1, vR r_2, uS, vI 16, uS, uS, uS, uS]) rfl ?_
  refine q_aload X2 hx hby d34_29 rfl rfl ?_
  refine q_iload X2 hx hby d34_31 rfl ?_
  refine q_iconst X2 hx hby d34_33 ?_
  show own_Goes p e below (T2.setTop (mkF m 34 #[vR xm, vI 97, vR xy, vR xv, vI 0, vI 1, vR r_2, uS, vI 16, uS, uS, uS, uS] [.int 1, .int 16, .ref r_2])) _
  refine q_isub X2 hx hby d34_34 ?_
  show own_Goes p e below (T2.setTop (mkF m 35 #[vR xm, vI 97, vR xy, vR xv, vI 0, vI 1, vR r_2, uS, vI 16, uS, uS, uS, uS] [(.int ((16 : Int32) - (1 : Int32))), .ref r_2])) _
  rw [show ((16 : Int32) - (1 : Int32)) = (15 : Int32) from by decide]
  refine q_iloadN X2 hx hby d34_35 rfl ?_
  refine q_iand X2 hx hby d34_36 ?_
  show own_Goes p e below (T2.setTop (mkF m 37 #[vR xm, vI 97, vR xy, vR xv, vI 0, vI 1, vR r_2, uS, vI 16, uS, uS, uS, uS] [(.int ((15 : Int32) &&& (97 : Int32))), .ref r_2])) _
  rw [show ((15 : Int32) &&& (97 : Int32)) = (1 : Int32) from by decide]
  refine q_dup X2 hx hby d34_37 rfl ?_
  refine q_istore X2 hx hby d34_38 (l' := #[vR xm, vI 97, vR xy, vR xv, vI 0, vI 1, vR r_2, uS, vI 16, vI 1, uS, uS, uS]) rfl ?_
  refine q_aaload X2 hx hby hZ e2 c2_5 d34_40 .null ?_
  refine q_dup X2 hx hby d34_41 rfl ?_
  refine q_astore X2 hx hby d34_42 rfl (l' := #[vR xm, vI 97, vR xy, vR xv, vI 0, vI 1, vR r_2, vN, vI 16, vI 1, uS, uS, uS]) rfl ?_
  refine gg (fun t k => XS.ifnonnullNo X2.here hx rfl (hb hby d34_44) rfl k) ?_
  refine q_aload X2 hx hby d34_47 rfl rfl ?_
  refine q_iload X2 hx hby d34_49 rfl ?_
  refine q_aloadN X2 hx hby d34_51 rfl rfl ?_
  refine q_iloadN X2 hx hby d34_52 rfl ?_
  refine q_aloadN X2 hx hby d34_53 rfl rfl ?_
  refine q_aloadN X2 hx hby d34_54 rfl rfl ?_
  refine q_aconstNull X2 hx hby d34_55 ?_
  have f8 := (P0.keep Kc2)
  refine k_V X2 hx hby hZ hown (wh hw 262 rfl) (wh hw 263 rfl) (wh hw 265 rfl) (wh hw 264 rfl) (W := 2) (own_newNode l Z a0 hw [] xm (97 : Int32) xy xv h2 n0 O3) (wh hw 266 rfl) (wh hw 28 rfl) e2 f8  hml (argsL := [.int 97, .ref xy, .ref xv, .null]) (rest := [.int 1, .ref r_2]) own_pd_9 d34_56 (fun _ T9 L9 X9 hQ9 => ?_)
  obtain ⟨h9, e9⟩ : ∃ z, T9.heap = z := ⟨_, rfl⟩
  rw [e9] at hQ9
  obtain ⟨Nc9, Kc9, r_9, rfl, c9_0, c9_1, c9_2, c9_3⟩ := hQ9
  have N9 := Fr.app N2 Nc9
  have O10 := O3.keep Kc9 all0
  have sz11 : h2.size ≤ h9.size := Kc9.1
  have K12 := Keep.trans K5 Kc9 all0
  have ltc9_0 : @LT.lt Nat _ r_9 h9.size := c9_0.lt
  show own_Goes p e below (T9.setTop (mkF m 59 #[vR xm, vI 97, vR xy, vR xv, vI 0, vI 1, vR r_2, vN, vI 16, vI 1, uS, uS, uS] [.ref r_9, .int 1, .ref r_2])) _
  have f13 := (c2_5.keep Kc9 nin0)
  obtain ⟨clu14, Aru14, qu14, Szu14, Ngu14, Hsu14, Gsu14⟩ := id f13
  have inu14 : ¬ ((1 : Int32) < 0 ∨ clu14.slots.size ≤ ((1 : Int32)).toNatClampNeg) := inb_of Szu14 ⟨by decide, by decide⟩
  obtain ⟨T15, h15, X15, e15, W15, st15⟩ := stR X9 hx hZ e9 Aru14 (j := (1 : Int32)) inu14 rfl (Sto.ofV Aru14 qu14 c2_7 (Ins.self c9_0)) (g := (mkF m 59 #[vR xm, vI 97, vR xy, vR xv, vI 0, vI 1, vR r_2, vN, vI 16, vI 1, uS, uS, uS] [.ref r_9, .int 1, .ref r_2])) rfl rfl (hb hby d34_59)
  refine gg st15 ?_
  have V15 := Arv.set Aru14 qu14 Szu14 Ngu14 Hsu14 Gsu14 rfl W15 1 rfl (Nat.le_of_ble_eq_true rfl)
  have O16 := O10.wr W15 (show n0 ≤ r_2 by omega)
  have sz17 : h15.size = h9.size := Wr.size W15
  have K18 := K12.wr W15 (Or.inr (show h0.size ≤ r_2 by omega))
  have N15 := Fr.snoc X15 N9 (show n0 ≤ r_2 by omega)
  have V15 : Arv Z h15 r_2 rk_2 (.object "java/util/HashMap$Node") (16 : Int32) [.null, .ref r_9, .null, .null, .null, .null, .null, .null, .null, .null, .null, .null, .null, .null, .null, .null] .null := V15
  refine q_goto (pc := 60) X15 hx hby d34_60 (pc' := 259) (by decide) (by decide) ?_
  refine q_aloadN X15 hx hby d34_259 rfl rfl ?_
  refine q_dup X15 hx hby d34_260 rfl ?_
  have f19 := ((c2_1.keep Kc9 nin0).other W15 (Or.inl (nE xm r_2 (by omega))))
  refine qG X15 hx hby hZ hown (wh hw 282 rfl) e15 f19 d34_261 (fun T20 X20 e20 => ?_)
  refine q_iconst X20 hx hby d34_264 ?_
  refine q_iadd X20 hx hby d34_265 ?_
  show own_Goes p e below (T20.setTop (mkF m 266 #[vR xm, vI 97, vR xy, vR xv, vI 0, vI 1, vR r_2, vN, vI 16, vI 1, uS, uS, uS] [(.int ((0 : Int32) + (1 : Int32))), .ref xm])) _
  rw [show ((0 : Int32) + (1 : Int32)) = (1 : Int32) from by decide]
  have f21 := ((f8.keep Kc9).wr W15)
  refine qP X20 hx hby hZ hown (host := "") (Or.inl (wh hw 282 rfl)) Via.refl e20 f19 f21 (Or.inl (wh hw 125 rfl)) (wh hw 27 rfl) (ty := .int) d34_266 (fun T22 h22 X22 e22 W22 => ?_)
  have O23 := O16.wr W22 (show n0 ≤ xm by omega)
  have sz24 : h22.size = h15.size := Wr.size W22
  have K25 := K18.wr W22 (Or.inl (List.mem_of_getElem? (i := 0) rfl))
  have N22 := Fr.snoc X22 N15 (show n0 ≤ xm by omega)
  have Fw22 := f19.same W22
  refine q_aloadN X22 hx hby d34_269 rfl rfl ?_
  refine q_dup X22 hx hby d34_270 rfl ?_
  have f26 := (((c2_0.keep Kc9 nin0).other W15 (Or.inl (nE xm r_2 (by omega)))).other W22 (Or.inr (slot_ne (Or.inl (wh hw 76 rfl)) (Or.inl (wh hw 125 rfl)) (by decide) (t := .int) (t' := .int) (by decide) (by decide))))
  refine qG X22 hx hby hZ hown (wh hw 75 rfl) e22 f26 d34_271 (fun T27 X27 e27 => ?_)
  refine q_iconst X27 hx hby d34_274 ?_
  refine q_iadd X27 hx hby d34_275 ?_
  show own_Goes p e below (T27.setTop (mkF m 276 #[vR xm, vI 97, vR xy, vR xv, vI 0, vI 1, vR r_2, vN, vI 16, vI 1, uS, uS, uS] [(.int ((0 : Int32) + (1 : Int32))), .ref xm])) _
  rw [show ((0 : Int32) + (1 : Int32)) = (1 : Int32) from by decide]
  refine gg (fun t k => XS.dupX1 X27.here hx rfl (hb hby d34_276) rfl rfl rfl k) ?_
  have f28 := (f21.wr W22)
  refine qP X27 hx hby hZ hown (host := "") (Or.inl (wh hw 75 rfl)) Via.refl e27 f26 f28 (Or.inl (wh hw 76 rfl)) (wh hw 27 rfl) (ty := .int) d34_277 (fun T29 h29 X29 e29 W29 => ?_)
  have O30 := O23.wr W29 (show n0 ≤ xm by omega)
  have sz31 : h29.size = h22.size := Wr.size W29
  have K32 := K25.wr W29 (Or.inl (List.mem_of_getElem? (i := 0) rfl))
  have N29 := Fr.snoc X29 N22 (show n0 ≤ xm by omega)
  have Fw29 := f26.same W29
  refine q_aloadN X29 hx hby d34_280 rfl rfl ?_
  have f33 := ((((c2_2.keep Kc9 nin0).other W15 (Or.inl (nE xm r_2 (by omega)))).other W22 (Or.inr (slot_ne (Or.inl (wh hw 259 rfl)) (Or.inl (wh hw 125 rfl)) (by decide) (t := .int) (t' := .int) (by decide) (by decide)))).other W29 (Or.inr (slot_ne (Or.inl (wh hw 259 rfl)) (Or.inl (wh hw 76 rfl)) (by decide) (t := .int) (t' := .int) (by decide) (by decide))))
  refine qG X29 hx hby hZ hown (wh hw 258 rfl) e29 f33 d34_281 (fun T34 X34 e34 => ?_)
  refine q_icmpYes (pc := 284) X34 hx hby d34_284 (pc' := 292) (flt (show ¬ ((12 : Int32) < (1 : Int32)) from by decide)).2.2.2 (by decide) (by decide) ?_
  refine q_aloadN X34 hx hby d34_292 rfl rfl ?_
  refine q_iload X34 hx hby d34_293 rfl ?_
  have f35 := (f28.wr W29)
  refine k_V X34 hx hby hZ hown (wh hw 283 rfl) (wh hw 284 rfl) (wh hw 286 rfl) (wh hw 285 rfl) (W := 0) (own_after l Z a0 hw [] xm h29 n0 O30) (wh hw 287 rfl) (wh hw 28 rfl) e34 f35  hml (argsL := [.int 1]) (rest := []) own_pd_10 d34_295 (fun _ T36 L36 X36 hQ36 => ?_)
  obtain ⟨Nc36, e36, rfl⟩ := hQ36
  have N36 := Fr.app N29 Nc36
  refine q_aconstNull X36 hx hby d34_298 ?_
  refine r_R X36 hx hby hret hlk d34_299 e36 ?_
  have f37 := (Fw22.other W29 (Or.inr (slot_ne (Or.inl (wh hw 125 rfl)) (Or.inl (wh hw 76 rfl)) (by decide) (t := .int) (t' := .int) (by decide) (by decide))))
  have f38 := ((((c2_3.keep Kc9 nin0).other W15 (Or.inl (nE xm r_2 (by omega)))).other W22 (Or.inr (slot_ne (Or.inl (wh hw 129 rfl)) (Or.inl (wh hw 125 rfl)) (by decide) (t := (.array (.object "java/util/HashMap$Node"))) (t' := .int) (by decide) (by decide)))).other W29 (Or.inr (slot_ne (Or.inl (wh hw 129 rfl)) (Or.inl (wh hw 76 rfl)) (by decide) (t := (.array (.object "java/util/HashMap$Node"))) (t' := .int) (by decide) (by decide))))
  have f39 := ((((c2_4.keep Kc9 nin0).other W15 (Or.inl (nE xm r_2 (by omega)))).other W22 (Or.inr (slot_ne (Or.inl (wh hw 87 rfl)) (Or.inl (wh hw 125 rfl)) (by decide) (t := (.object "java/util/Collection")) (t' := .int) (by decide) (by decide)))).other W29 (Or.inr (slot_ne (Or.inl (wh hw 87 rfl)) (Or.inl (wh hw 76 rfl)) (by decide) (t := (.object "java/util/Collection")) (t' := .int) (by decide) (by decide))))
  have f40 := ((V15.other W22 (nE r_2 xm (by omega))).other W29 (nE r_2 xm (by omega)))
  have f41 := (((c9_0.wr W15).wr W22).wr W29)
  have f42 := (((c9_1.other W15 (Or.inl (nE r_9 r_2 (by omega)))).other W22 (Or.inl (nE r_9 xm (by omega)))).other W29 (Or.inl (nE r_9 xm (by omega))))
  have f43 := (((c9_2.other W15 (Or.inl (nE r_9 r_2 (by omega)))).other W22 (Or.inl (nE r_9 xm (by omega)))).other W29 (Or.inl (nE r_9 xm (by omega))))
  exact ⟨N36, K32, r_2, rk_2, r_9, rfl, Fw29, f37, f33, f38, f39, f40, f41, f42, f43, (show h0.size ≤ r_2 by first | assumption | omega | decide), (show @LT.lt Nat _ r_2 r_9 by first | assumption | omega | decide), (show Ovr Z rk_2 "java/util/HashMap$Node" by first | assumption | omega | decide)⟩
theorem d29_0 : decode B29 0 = .ok (.aload_n 0, 1) := by decide +kernel
theorem d29_1 : decode B29 1 = .ok (.aload_n 1, 1) := by decide +kernel
theorem d29_2 : decode B29 2 = .ok (.invokestatic 149, 3) := by decide +kernel
theorem own_pd_11 : parseMethodDescriptor "(Ljava/lang/Object;)I" = some ⟨[(.object "java/lang/Object")], some .int⟩ := by decide +kernel
theorem d29_5 : decode B29 5 = .ok (.aload_n 1, 1) := by decide +kernel
theorem d29_6 : decode B29 6 = .ok (.aload_n 2, 1) := by decide +kernel
theorem d29_7 : decode B29 7 = .ok (.iconst 0, 1) := by decide +kernel
theorem d29_8 : decode B29 8 = .ok (.iconst 1, 1) := by decide +kernel
theorem d29_9 : decode B29 9 = .ok (.invokevirtual 152, 3) := by decide +kernel
theorem own_pd_12 : parseMethodDescriptor "(ILjava/lang/Object;Ljava/lang/Object;ZZ)Ljava/lang/Object;" = some ⟨[.int, (.object "java/lang/Object"), (.object "java/lang/Object"), .boolean, .boolean], some (.object "java/lang/Object")⟩ := by decide +kernel
theorem d29_12 : decode B29 12 = .ok (.areturn, 1) := by decide +kernel
theorem own_ef_own_put0 (m : MethodId) (xm : Addr) (xa : Addr) (xv : Addr) : entryFrame m #[.ref xm, .ref xa, .ref xv] 3 = mkF m 0 #[vR xm, vR xa, vR xv] [] := by first | (simp [entryFrame, mkF, argsToLocals, Value.category]; done) | rfl
def Q_own_put0 (Z : State) (xm : Addr) (xa : Addr) (xb : Addr) (xk : ClassId) (xv : Addr) (gwD : Addr) (gz : Int32) (gwc : Addr) (gcl : Cell) (h0 : Heap) (n0 : Nat) (v : Option Value) (h : Heap) (L : List Loc) : Prop := Fr n0 L ∧ Keep h0 h [xm, xa] ∧ ∃ (rt : Addr), ∃ (rk : ClassId), ∃ (r : Addr), v = some .null ∧ Fld Z h xm "java/util/HashMap" "size" "I" (.int 1) ∧ Fld Z h xm "java/util/HashMap" "modCount" "I" (.int 1) ∧ Fld Z h xm "java/util/HashMap" "threshold" "I" (.int 12) ∧ Fld Z h xm "java/util/HashMap" "table" "[Ljava/util/HashMap$Node;" (.ref rt) ∧ Fld Z h xm "java/util/AbstractMap" "values" "Ljava/util/Collection;" .null ∧ Arv Z h rt rk (.object "java/util/HashMap$Node") (16 : Int32) [.null, .ref r, .null, .null, .null, .null, .null, .null, .null, .null, .null, .null, .null, .null, .null, .null] .null ∧ Exa Z h r "java/util/HashMap$Node" ∧ Fld Z h r "java/util/HashMap$Node" "value" "Ljava/lang/Object;" (.ref xv) ∧ Fld Z h r "java/util/HashMap$Node" "next" "Ljava/util/HashMap$Node;" .null ∧ h0.size ≤ rt ∧ @LT.lt Nat _ rt r ∧ Ovr Z rk "java/util/HashMap$Node"
theorem own_put0 (l : Launch) (Z : State) (a0 : Array Value) (hw : ∀ d ∈ tables_1, d.before a0 Z = true) (ws : List Jvm.Cond) (xm : Addr) (xa : Addr) (xb : Addr) (xk : ClassId) (xv : Addr) (h0 : Heap) (n0 : Nat) (O0 : Old Z n0 h0) (gwD : Addr) (gz : Int32) (gwc : Addr) (gcl : Cell) (G : GG Z gwD gz gwc gcl) (P0 : Exa Z h0 xm "java/util/HashMap") (P1 : n0 ≤ xm) (P2 : Fld Z h0 xm "java/util/HashMap" "size" "I" (.int 0)) (P3 : Fld Z h0 xm "java/util/HashMap" "modCount" "I" (.int 0)) (P4 : Fld Z h0 xm "java/util/HashMap" "threshold" "I" (.int 0)) (P5 : Fld Z h0 xm "java/util/HashMap" "table" "[Ljava/util/HashMap$Node;" .null) (P6 : Fld Z h0 xm "java/util/AbstractMap" "values" "Ljava/util/Collection;" .null) (P7 : Exa Z h0 xa "java/lang/String") (P8 : Fld Z h0 xa "java/lang/String" "value" "[B" (.ref xb)) (P9 : Fld Z h0 xa "java/lang/String" "coder" "B" (.int 0)) (P10 : Fld Z h0 xa "java/lang/String" "hash" "I" (.int 0)) (P11 : Fld Z h0 xa "java/lang/String" "hashIsZero" "Z" (.int 0)) (P12 : Arv Z h0 xb xk .byte (1 : Int32) [.int 97] (.int 0)) (P13 : n0 ≤ xa) (P14 : @LT.lt Nat _ xm xa) (P15 : @LT.lt Nat _ xa xb) : own_Met l Z (⟨"java/util/HashMap", "put", "(Ljava/lang/Object;Ljava/lang/Object;)Ljava/lang/Object;"⟩ : MethodName) jdk_69_method_15_code 3 (some (.object "java/lang/Object")) ws ({ frames := 4, cells := 2, slots := 20, locals := 71 } : Room) #[.ref xm, .ref xa, .ref xv] h0 (Q_own_put0 Z xm xa xb xk xv gwD gz gwc gcl h0 n0) := by
  refine own_mk (plainFor_of_name own_pn_java_util_HashMap) O0 ?_
  intro p e s m below meth c s₁ hx hby hml hZ hown hnm hlk hret X0 e0 N0 z0 z1
  have K0 : Keep h0 h0 [xm, xa] := Keep.refl _ _
  refine own_cast (own_ef_own_put0 m xm xa xv) ?_
  show own_Goes p e below (s₁.setTop (mkF m 0 #[vR xm, vR xa, vR xv] [])) _
  obtain ⟨G0, G1, G2, G3, G4, G5, G6⟩ := id G
  have ltG1 : @LT.lt Nat _ gwD Z.heap.size := G1.lt
  have ltP0 : @LT.lt Nat _ xm h0.size := P0.lt
  have ltP7 : @LT.lt Nat _ xa h0.size := P7.lt
  have ltP12 : @LT.lt Nat _ xb h0.size := P12.lt
  refine q_aloadN X0 hx hby d29_0 rfl rfl ?_
  refine q_aloadN X0 hx hby d29_1 rfl rfl ?_
  refine k_S X0 hx hby hZ hown (wh hw 226 rfl) (wh hw 227 rfl) (W := 1) (own_hash l Z a0 hw [] (97 : Int32) xa xb xk h0 n0 O0 gwD gz gwc gcl G (show own_chr (97 : Int32) from (by first | assumption | exact own_chr97 | exact own_chr98 | exact own_chr99)) P7 P8 P9 P10 P11 P12 (show n0 ≤ xa by first | assumption | omega | decide)) (wh hw 228 rfl) (wh hw 28 rfl) e0  hml (argsL := [.ref xa]) (rest := [.ref xm]) own_pd_11 d29_2 (fun _ T1 L1 X1 hQ1 => ?_)
  obtain ⟨h1, e1⟩ : ∃ z, T1.heap = z := ⟨_, rfl⟩
  rw [e1] at hQ1
  obtain ⟨Nc1, Kc1, rfl⟩ := hQ1
  have N1 := Fr.app N0 Nc1
  have O2 := O0.keep Kc1 (allS (show n0 ≤ xa by omega) all0)
  have sz3 : h0.size ≤ h1.size := Kc1.1
  have K4 := Keep.trans K0 Kc1 (allS (Or.inl (List.mem_of_getElem? (i := 1) rfl)) all0)
  refine q_aloadN X1 hx hby d29_5 rfl rfl ?_
  refine q_aloadN X1 hx hby d29_6 rfl rfl ?_
  refine q_iconst X1 hx hby d29_7 ?_
  refine q_iconst X1 hx hby d29_8 ?_
  have f5 := (P0.keep Kc1)
  have f6 := (P2.keep Kc1 (ninS (nE xm xa (by omega)) nin0))
  have f7 := (P3.keep Kc1 (ninS (nE xm xa (by omega)) nin0))
  have f8 := (P4.keep Kc1 (ninS (nE xm xa (by omega)) nin0))
  have f9 := (P5.keep Kc1 (ninS (nE xm xa (by omega)) nin0))
  have f10 := (P6.keep Kc1 (ninS (nE xm xa (by omega)) nin0))
  refine k_V X1 hx hby hZ hown (wh hw 247 rfl) (wh hw 248 rfl) (wh hw 250 rfl) (wh hw 249 rfl) (W := 0) (own_putVal0 l Z a0 hw [] xm xa xv h1 n0 O2 f5 (show n0 ≤ xm by first | assumption | omega | decide) f6 f7 f8 f9 f10) (wh hw 251 rfl) (wh hw 28 rfl) e1 f5  hml (argsL := [.int 97, .ref xa, .ref xv, .int 0, .int 1]) (rest := []) own_pd_12 d29_9 (fun _ T11 L11 X11 hQ11 => ?_)
  obtain ⟨h11, e11⟩ : ∃ z, T11.heap = z := ⟨_, rfl⟩
  rw [e11] at hQ11
  obtain ⟨Nc11, Kc11, rt_11, rk_11, r_11, rfl, c11_0, c11_1, c11_2, c11_3, c11_4, c11_5, c11_6, c11_7, c11_8, c11_9, c11_10, c11_11⟩ := hQ11
  have N11 := Fr.app N1 Nc11
  have O12 := O2.keep Kc11 (allS (show n0 ≤ xm by omega) all0)
  have sz13 : h1.size ≤ h11.size := Kc11.1
  have K14 := Keep.trans K4 Kc11 (allS (Or.inl (List.mem_of_getElem? (i := 0) rfl)) all0)
  have ltc11_5 : @LT.lt Nat _ rt_11 h11.size := c11_5.lt
  have ltc11_6 : @LT.lt Nat _ r_11 h11.size := c11_6.lt
  refine r_R X11 hx hby hret hlk d29_12 e11 ?_
  exact ⟨N11, K14, rt_11, rk_11, r_11, rfl, c11_0, c11_1, c11_2, c11_3, c11_4, c11_5, c11_6, c11_7, c11_8, (show h0.size ≤ rt_11 by first | assumption | omega | decide), (show @LT.lt Nat _ rt_11 r_11 by first | assumption | omega | decide), (show Ovr Z rk_11 "java/util/HashMap$Node" by first | assumption | omega | decide)⟩
theorem d34_10 : decode B34 10 = .ok (.aload 6, 2) := by decide +kernel
theorem d34_12 : decode B34 12 = .ok (.arraylength, 1) := by decide +kernel
theorem d34_13 : decode B34 13 = .ok (.dup, 1) := by decide +kernel
theorem d34_14 : decode B34 14 = .ok (.istore 8, 2) := by decide +kernel
theorem d34_16 : decode B34 16 = .ok (.ifCond .ne 13, 3) := by decide +kernel
theorem own_ef_own_putVal1 (m : MethodId) (xm : Addr) (xy : Addr) (xv : Addr) : entryFrame m #[.ref xm, .int 98, .ref xy, .ref xv, .int 0, .int 1] 13 = mkF m 0 #[vR xm, vI 98, vR xy, vR xv, vI 0, vI 1, uS, uS, uS, uS, uS, uS, uS] [] := by first | (simp [entryFrame, mkF, argsToLocals, Value.category]; done) | rfl
def Q_own_putVal1 (Z : State) (xm : Addr) (xt : Addr) (xq : ClassId) (x1 : Addr) (xy : Addr) (xv : Addr) (h0 : Heap) (n0 : Nat) (v : Option Value) (h : Heap) (L : List Loc) : Prop := Fr n0 L ∧ Keep h0 h [xm, xt] ∧ ∃ (r : Addr), v = some .null ∧ Fld Z h xm "java/util/HashMap" "size" "I" (.int 2) ∧ Fld Z h xm "java/util/HashMap" "modCount" "I" (.int 2) ∧ Fld Z h xm "java/util/HashMap" "threshold" "I" (.int 12) ∧ Fld Z h xm "java/util/HashMap" "table" "[Ljava/util/HashMap$Node;" (.ref xt) ∧ Fld Z h xm "java/util/AbstractMap" "values" "Ljava/util/Collection;" .null ∧ Arv Z h xt xq (.object "java/util/HashMap$Node") (16 : Int32) [.null, .ref x1, .ref r, .null, .null, .null, .null, .null, .null, .null, .null, .null, .null, .null, .null, .null] .null ∧ Exa Z h r "java/util/HashMap$Node" ∧ Fld Z h r "java/util/HashMap$Node" "value" "Ljava/lang/Object;" (.ref xv) ∧ Fld Z h r "java/util/HashMap$Node" "next" "Ljava/util/HashMap$Node;" .null ∧ h0.size ≤ r
theorem own_putVal1 (l : Launch) (Z : State) (a0 : Array Value) (hw : ∀ d ∈ tables_1, d.before a0 Z = true) (ws : List Jvm.Cond) (xm : Addr) (xt : Addr) (xq : ClassId) (x1 : Addr) (xy : Addr) (xv : Addr) (h0 : Heap) (n0 : Nat) (O0 : Old Z n0 h0) (P0 : Exa Z h0 xm "java/util/HashMap") (P1 : n0 ≤ xm) (P2 : n0 ≤ xt) (P3 : @LT.lt Nat _ xm xt) (P4 : Fld Z h0 xm "java/util/HashMap" "size" "I" (.int 1)) (P5 : Fld Z h0 xm "java/util/HashMap" "modCount" "I" (.int 1)) (P6 : Fld Z h0 xm "java/util/HashMap" "threshold" "I" (.int 12)) (P7 : Fld Z h0 xm "java/util/HashMap" "table" "[Ljava/util/HashMap$Node;" (.ref xt)) (P8 : Fld Z h0 xm "java/util/AbstractMap" "values" "Ljava/util/Collection;" .null) (P9 : Arv Z h0 xt xq (.object "java/util/HashMap$Node") (16 : Int32) [.null, .ref x1, .null, .null, .null, .null, .null, .null, .null, .null, .null, .null, .null, .null, .null, .null] .null) (P10 : Ovr Z xq "java/util/HashMap$Node") : own_Met l Z (⟨"java/util/HashMap", "putVal", "(ILjava/lang/Object;Ljava/lang/Object;ZZ)Ljava/lang/Object;"⟩ : MethodName) jdk_69_method_16_code 13 (some (.object "java/lang/Object")) ws ({ frames := 3, cells := 1, slots := 4, locals := 47 } : Room) #[.ref xm, .int 98, .ref xy, .ref xv, .int 0, .int 1] h0 (Q_own_putVal1 Z xm xt xq x1 xy xv h0 n0) := by
  refine own_mk (plainFor_of_name own_pn_java_util_HashMap) O0 ?_
  intro p e s m below meth c s₁ hx hby hml hZ hown hnm hlk hret X0 e0 N0 z0 z1
  have K0 : Keep h0 h0 [xm, xt] := Keep.refl _ _
  refine own_cast (own_ef_own_putVal1 m xm xy xv) ?_
  show own_Goes p e below (s₁.setTop (mkF m 0 #[vR xm, vI 98, vR xy, vR xv, vI 0, vI 1, uS, uS, uS, uS, uS, uS, uS] [])) _
  have ltP0 : @LT.lt Nat _ xm h0.size := P0.lt
  have ltP9 : @LT.lt Nat _ xt h0.size := P9.lt
  refine q_aloadN X0 hx hby d34_0 rfl rfl ?_
  refine qG X0 hx hby hZ hown (wh hw 252 rfl) e0 P7 d34_1 (fun T1 X1 e1 => ?_)
  refine q_dup X1 hx hby d34_4 rfl ?_
  refine q_astore X1 hx hby d34_5 rfl (l' := #[vR xm, vI 98, vR xy, vR xv, vI 0, vI 1, vR xt, uS, uS, uS, uS, uS, uS]) rfl ?_
  refine q_ifnullNo X1 hx hby d34_7 ?_
  refine q_aload X1 hx hby d34_10 rfl rfl ?_
  refine q_len X1 hx hby hZ e1 P9 d34_12 ?_
  refine q_dup X1 hx hby d34_13 rfl ?_
  refine q_istore X1 hx hby d34_14 (l' := #[vR xm, vI 98, vR xy, vR xv, vI 0, vI 1, vR xt, uS, vI 16, uS, uS, uS, uS]) rfl ?_
  refine q_ifYes (pc := 16) X1 hx hby d34_16 (pc' := 29) ((if0 _ _).trans (feq (show ¬ ((16 : Int32) = (0 : Int32)) from by decide)).2) (by decide) (by decide) ?_
  refine q_aload X1 hx hby d34_29 rfl rfl ?_
  refine q_iload X1 hx hby d34_31 rfl ?_
  refine q_iconst X1 hx hby d34_33 ?_
  refine q_isub X1 hx hby d34_34 ?_
  show own_Goes p e below (T1.setTop (mkF m 35 #[vR xm, vI 98, vR xy, vR xv, vI 0, vI 1, vR xt, uS, vI 16, uS, uS, uS, uS] [(.int ((16 : Int32) - (1 : Int32))), .ref xt])) _
  rw [show ((16 : Int32) - (1 : Int32)) = (15 : Int32) from by decide]
  refine q_iloadN X1 hx hby d34_35 rfl ?_
  refine q_iand X1 hx hby d34_36 ?_
  show own_Goes p e below (T1.setTop (mkF m 37 #[vR xm, vI 98, vR xy, vR xv, vI 0, vI 1, vR xt, uS, vI 16, uS, uS, uS, uS] [(.int ((15 : Int32) &&& (98 : Int32))), .ref xt])) _
  rw [show ((15 : Int32) &&& (98 : Int32)) = (2 : Int32) from by decide]
  refine q_dup X1 hx hby d34_37 rfl ?_
  refine q_istore X1 hx hby d34_38 (l' := #[vR xm, vI 98, vR xy, vR xv, vI 0, vI 1, vR xt, uS, vI 16, vI 2, uS, uS, uS]) rfl ?_
  refine q_aaload X1 hx hby hZ e1 P9 d34_40 .null ?_
  refine q_dup X1 hx hby d34_41 rfl ?_
  refine q_astore X1 hx hby d34_42 rfl (l' := #[vR xm, vI 98, vR xy, vR xv, vI 0, vI 1, vR xt, vN, vI 16, vI 2, uS, uS, uS]) rfl ?_
  refine gg (fun t k => XS.ifnonnullNo X1.here hx rfl (hb hby d34_44) rfl k) ?_
  refine q_aload X1 hx hby d34_47 rfl rfl ?_
  refine q_iload X1 hx hby d34_49 rfl ?_
  refine q_aloadN X1 hx hby d34_51 rfl rfl ?_
  refine q_iloadN X1 hx hby d34_52 rfl ?_
  refine q_aloadN X1 hx hby d34_53 rfl rfl ?_
  refine q_aloadN X1 hx hby d34_54 rfl rfl ?_
  refine q_aconstNull X1 hx hby d34_55 ?_
  refine k_V X1 hx hby hZ hown (wh hw 262 rfl) (wh hw 263 rfl) (wh hw 265 rfl) (wh hw 264 rfl) (W := 2) (own_newNode l Z a0 hw [] xm (98 : Int32) xy xv h0 n0 O0) (wh hw 266 rfl) (wh hw 28 rfl) e1 P0  hml (argsL := [.int 98, .ref xy, .ref xv, .null]) (rest := [.int 2, .ref xt]) own_pd_9 d34_56 (fun _ T4 L4 X4 hQ4 => ?_)
  obtain ⟨h4, e4⟩ : ∃ z, T4.heap = z := ⟨_, rfl⟩
  rw [e4] at hQ4
  obtain ⟨Nc4, Kc4, r_4, rfl, c4_0, c4_1, c4_2, c4_3⟩ := hQ4
  have N4 := Fr.app N0 Nc4
  have O5 := O0.keep Kc4 all0
  have sz6 : h0.size ≤ h4.size := Kc4.1
  have K7 := Keep.trans K0 Kc4 all0
  have ltc4_0 : @LT.lt Nat _ r_4 h4.size := c4_0.lt
  show own_Goes p e below (T4.setTop (mkF m 59 #[vR xm, vI 98, vR xy, vR xv, vI 0, vI 1, vR xt, vN, vI 16, vI 2, uS, uS, uS] [.ref r_4, .int 2, .ref xt])) _
  have f8 := (P9.keep Kc4 nin0)
  obtain ⟨clu9, Aru9, qu9, Szu9, Ngu9, Hsu9, Gsu9⟩ := id f8
  have inu9 : ¬ ((2 : Int32) < 0 ∨ clu9.slots.size ≤ ((2 : Int32)).toNatClampNeg) := inb_of Szu9 ⟨by decide, by decide⟩
  obtain ⟨T10, h10, X10, e10, W10, st10⟩ := stR X4 hx hZ e4 Aru9 (j := (2 : Int32)) inu9 rfl (Sto.ofV Aru9 qu9 P10 (Ins.self c4_0)) (g := (mkF m 59 #[vR xm, vI 98, vR xy, vR xv, vI 0, vI 1, vR xt, vN, vI 16, vI 2, uS, uS, uS] [.ref r_4, .int 2, .ref xt])) rfl rfl (hb hby d34_59)
  refine gg st10 ?_
  have V10 := Arv.set Aru9 qu9 Szu9 Ngu9 Hsu9 Gsu9 rfl W10 2 rfl (Nat.le_of_ble_eq_true rfl)
  have O11 := O5.wr W10 (show n0 ≤ xt by omega)
  have sz12 : h10.size = h4.size := Wr.size W10
  have K13 := K7.wr W10 (Or.inl (List.mem_of_getElem? (i := 1) rfl))
  have N10 := Fr.snoc X10 N4 (show n0 ≤ xt by omega)
  have V10 : Arv Z h10 xt xq (.object "java/util/HashMap$Node") (16 : Int32) [.null, .ref x1, .ref r_4, .null, .null, .null, .null, .null, .null, .null, .null, .null, .null, .null, .null, .null] .null := V10
  refine q_goto (pc := 60) X10 hx hby d34_60 (pc' := 259) (by decide) (by decide) ?_
  refine q_aloadN X10 hx hby d34_259 rfl rfl ?_
  refine q_dup X10 hx hby d34_260 rfl ?_
  have f14 := ((P5.keep Kc4 nin0).other W10 (Or.inl (nE xm xt (by omega))))
  refine qG X10 hx hby hZ hown (wh hw 282 rfl) e10 f14 d34_261 (fun T15 X15 e15 => ?_)
  refine q_iconst X15 hx hby d34_264 ?_
  refine q_iadd X15 hx hby d34_265 ?_
  show own_Goes p e below (T15.setTop (mkF m 266 #[vR xm, vI 98, vR xy, vR xv, vI 0, vI 1, vR xt, vN, vI 16, vI 2, uS, uS, uS] [(.int ((1 : Int32) + (1 : Int32))), .ref xm])) _
  rw [show ((1 : Int32) + (1 : Int32)) = (2 : Int32) from by decide]
  have f16 := ((P0.keep Kc4).wr W10)
  refine qP X15 hx hby hZ hown (host := "") (Or.inl (wh hw 282 rfl)) Via.refl e15 f14 f16 (Or.inl (wh hw 125 rfl)) (wh hw 27 rfl) (ty := .int) d34_266 (fun T17 h17 X17 e17 W17 => ?_)
  have O18 := O11.wr W17 (show n0 ≤ xm by omega)
  have sz19 : h17.size = h10.size := Wr.size W17
  have K20 := K13.wr W17 (Or.inl (List.mem_of_getElem? (i := 0) rfl))
  have N17 := Fr.snoc X17 N10 (show n0 ≤ xm by omega)
  have Fw17 := f14.same W17
  refine q_aloadN X17 hx hby d34_269 rfl rfl ?_
  refine q_dup X17 hx hby d34_270 rfl ?_
  have f21 := (((P4.keep Kc4 nin0).other W10 (Or.inl (nE xm xt (by omega)))).other W17 (Or.inr (slot_ne (Or.inl (wh hw 76 rfl)) (Or.inl (wh hw 125 rfl)) (by decide) (t := .int) (t' := .int) (by decide) (by decide))))
  refine qG X17 hx hby hZ hown (wh hw 75 rfl) e17 f21 d34_271 (fun T22 X22 e22 => ?_)
  refine q_iconst X22 hx hby d34_274 ?_
  refine q_iadd X22 hx hby d34_275 ?_
  show own_Goes p e below (T22.setTop (mkF m 276 #[vR xm, vI 98, vR xy, vR xv, vI 0, vI 1, vR xt, vN, vI 16, vI 2, uS, uS, uS] [(.int ((1 : Int32) + (1 : Int32))), .ref xm])) _
  rw [show ((1 : Int32) + (1 : Int32)) = (2 : Int32) from by decide]
  refine gg (fun t k => XS.dupX1 X22.here hx rfl (hb hby d34_276) rfl rfl rfl k) ?_
  have f23 := (f16.wr W17)
  refine qP X22 hx hby hZ hown (host := "") (Or.inl (wh hw 75 rfl)) Via.refl e22 f21 f23 (Or.inl (wh hw 76 rfl)) (wh hw 27 rfl) (ty := .int) d34_277 (fun T24 h24 X24 e24 W24 => ?_)
  have O25 := O18.wr W24 (show n0 ≤ xm by omega)
  have sz26 : h24.size = h17.size := Wr.size W24
  have K27 := K20.wr W24 (Or.inl (List.mem_of_getElem? (i := 0) rfl))
  have N24 := Fr.snoc X24 N17 (show n0 ≤ xm by omega)
  have Fw24 := f21.same W24
  refine q_aloadN X24 hx hby d34_280 rfl rfl ?_
  have f28 := ((((P6.keep Kc4 nin0).other W10 (Or.inl (nE xm xt (by omega)))).other W17 (Or.inr (slot_ne (Or.inl (wh hw 259 rfl)) (Or.inl (wh hw 125 rfl)) (by decide) (t := .int) (t' := .int) (by decide) (by decide)))).other W24 (Or.inr (slot_ne (Or.inl (wh hw 259 rfl)) (Or.inl (wh hw 76 rfl)) (by decide) (t := .int) (t' := .int) (by decide) (by decide))))
  refine qG X24 hx hby hZ hown (wh hw 258 rfl) e24 f28 d34_281 (fun T29 X29 e29 => ?_)
  refine q_icmpYes (pc := 284) X29 hx hby d34_284 (pc' := 292) (flt (show ¬ ((12 : Int32) < (2 : Int32)) from by decide)).2.2.2 (by decide) (by decide) ?_
  refine q_aloadN X29 hx hby d34_292 rfl rfl ?_
  refine q_iload X29 hx hby d34_293 rfl ?_
  have f30 := (f23.wr W24)
  refine k_V X29 hx hby hZ hown (wh hw 283 rfl) (wh hw 284 rfl) (wh hw 286 rfl) (wh hw 285 rfl) (W := 0) (own_after l Z a0 hw [] xm h24 n0 O25) (wh hw 287 rfl) (wh hw 28 rfl) e29 f30  hml (argsL := [.int 1]) (rest := []) own_pd_10 d34_295 (fun _ T31 L31 X31 hQ31 => ?_)
  obtain ⟨Nc31, e31, rfl⟩ := hQ31
  have N31 := Fr.app N24 Nc31
  refine q_aconstNull X31 hx hby d34_298 ?_
  refine r_R X31 hx hby hret hlk d34_299 e31 ?_
  have f32 := (Fw17.other W24 (Or.inr (slot_ne (Or.inl (wh hw 125 rfl)) (Or.inl (wh hw 76 rfl)) (by decide) (t := .int) (t' := .int) (by decide) (by decide))))
  have f33 := ((((P7.keep Kc4 nin0).other W10 (Or.inl (nE xm xt (by omega)))).other W17 (Or.inr (slot_ne (Or.inl (wh hw 129 rfl)) (Or.inl (wh hw 125 rfl)) (by decide) (t := (.array (.object "java/util/HashMap$Node"))) (t' := .int) (by decide) (by decide)))).other W24 (Or.inr (slot_ne (Or.inl (wh hw 129 rfl)) (Or.inl (wh hw 76 rfl)) (by decide) (t := (.array (.object "java/util/HashMap$Node"))) (t' := .int) (by decide) (by decide))))
  have f34 := ((((P8.keep Kc4 nin0).other W10 (Or.inl (nE xm xt (by omega)))).other W17 (Or.inr (slot_ne (Or.inl (wh hw 87 rfl)) (Or.inl (wh hw 125 rfl)) (by decide) (t := (.object "java/util/Collection")) (t' := .int) (by decide) (by decide)))).other W24 (Or.inr (slot_ne (Or.inl (wh hw 87 rfl)) (Or.inl (wh hw 76 rfl)) (by decide) (t := (.object "java/util/Collection")) (t' := .int) (by decide) (by decide))))
  have f35 := ((V10.other W17 (nE xt xm (by omega))).other W24 (nE xt xm (by omega)))
  have f36 := (((c4_0.wr W10).wr W17).wr W24)
  have f37 := (((c4_1.other W10 (Or.inl (nE r_4 xt (by omega)))).other W17 (Or.inl (nE r_4 xm (by omega)))).other W24 (Or.inl (nE r_4 xm (by omega))))
  have f38 := (((c4_2.other W10 (Or.inl (nE r_4 xt (by omega)))).other W17 (Or.inl (nE r_4 xm (by omega)))).other W24 (Or.inl (nE r_4 xm (by omega))))
  exact ⟨N31, K27, r_4, rfl, Fw24, f32, f28, f33, f34, f35, f36, f37, f38, (show h0.size ≤ r_4 by first | assumption | omega | decide)⟩
theorem own_ef_own_put1 (m : MethodId) (xm : Addr) (xa : Addr) (xv : Addr) : entryFrame m #[.ref xm, .ref xa, .ref xv] 3 = mkF m 0 #[vR xm, vR xa, vR xv] [] := by first | (simp [entryFrame, mkF, argsToLocals, Value.category]; done) | rfl
def Q_own_put1 (Z : State) (xm : Addr) (xt : Addr) (xq : ClassId) (x1 : Addr) (xa : Addr) (xb : Addr) (xk : ClassId) (xv : Addr) (gwD : Addr) (gz : Int32) (gwc : Addr) (gcl : Cell) (h0 : Heap) (n0 : Nat) (v : Option Value) (h : Heap) (L : List Loc) : Prop := Fr n0 L ∧ Keep h0 h [xm, xt, xa] ∧ ∃ (r : Addr), v = some .null ∧ Fld Z h xm "java/util/HashMap" "size" "I" (.int 2) ∧ Fld Z h xm "java/util/HashMap" "modCount" "I" (.int 2) ∧ Fld Z h xm "java/util/HashMap" "threshold" "I" (.int 12) ∧ Fld Z h xm "java/util/HashMap" "table" "[Ljava/util/HashMap$Node;" (.ref xt) ∧ Fld Z h xm "java/util/AbstractMap" "values" "Ljava/util/Collection;" .null ∧ Arv Z h xt xq (.object "java/util/HashMap$Node") (16 : Int32) [.null, .ref x1, .ref r, .null, .null, .null, .null, .null, .null, .null, .null, .null, .null, .null, .null, .null] .null ∧ Exa Z h r "java/util/HashMap$Node" ∧ Fld Z h r "java/util/HashMap$Node" "value" "Ljava/lang/Object;" (.ref xv) ∧ Fld Z h r "java/util/HashMap$Node" "next" "Ljava/util/HashMap$Node;" .null ∧ h0.size ≤ r
theorem own_put1 (l : Launch) (Z : State) (a0 : Array Value) (hw : ∀ d ∈ tables_1, d.before a0 Z = true) (ws : List Jvm.Cond) (xm : Addr) (xt : Addr) (xq : ClassId) (x1 : Addr) (xa : Addr) (xb : Addr) (xk : ClassId) (xv : Addr) (h0 : Heap) (n0 : Nat) (O0 : Old Z n0 h0) (gwD : Addr) (gz : Int32) (gwc : Addr) (gcl : Cell) (G : GG Z gwD gz gwc gcl) (P0 : Exa Z h0 xm "java/util/HashMap") (P1 : n0 ≤ xm) (P2 : n0 ≤ xt) (P3 : @LT.lt Nat _ xm xt) (P4 : Fld Z h0 xm "java/util/HashMap" "size" "I" (.int 1)) (P5 : Fld Z h0 xm "java/util/HashMap" "modCount" "I" (.int 1)) (P6 : Fld Z h0 xm "java/util/HashMap" "threshold" "I" (.int 12)) (P7 : Fld Z h0 xm "java/util/HashMap" "table" "[Ljava/util/HashMap$Node;" (.ref xt)) (P8 : Fld Z h0 xm "java/util/AbstractMap" "values" "Ljava/util/Collection;" .null) (P9 : Arv Z h0 xt xq (.object "java/util/HashMap$Node") (16 : Int32) [.null, .ref x1, .null, .null, .null, .null, .null, .null, .null, .null, .null, .null, .null, .null, .null, .null] .null) (P10 : Ovr Z xq "java/util/HashMap$Node") (P11 : Exa Z h0 xa "java/lang/String") (P12 : Fld Z h0 xa "java/lang/String" "value" "[B" (.ref xb)) (P13 : Fld Z h0 xa "java/lang/String" "coder" "B" (.int 0)) (P14 : Fld Z h0 xa "java/lang/String" "hash" "I" (.int 0)) (P15 : Fld Z h0 xa "java/lang/String" "hashIsZero" "Z" (.int 0)) (P16 : Arv Z h0 xb xk .byte (1 : Int32) [.int 98] (.int 0)) (P17 : n0 ≤ xa) (P18 : @LT.lt Nat _ xt xa) (P19 : @LT.lt Nat _ xa xb) : own_Met l Z (⟨"java/util/HashMap", "put", "(Ljava/lang/Object;Ljava/lang/Object;)Ljava/lang/Object;"⟩ : MethodName) jdk_69_method_15_code 3 (some (.object "java/lang/Object")) ws ({ frames := 4, cells := 1, slots := 4, locals := 71 } : Room) #[.ref xm, .ref xa, .ref xv] h0 (Q_own_put1 Z xm xt xq x1 xa xb xk xv gwD gz gwc gcl h0 n0) := by
  refine own_mk (plainFor_of_name own_pn_java_util_HashMap) O0 ?_
  intro p e s m below meth c s₁ hx hby hml hZ hown hnm hlk hret X0 e0 N0 z0 z1
  have K0 : Keep h0 h0 [xm, xt, xa] := Keep.refl _ _
  refine own_cast (own_ef_own_put1 m xm xa xv) ?_
  show own_Goes p e below (s₁.setTop (mkF m 0 #[vR xm, vR xa, vR xv] [])) _
  obtain ⟨G0, G1, G2, G3, G4, G5, G6⟩ := id G
  have ltG1 : @LT.lt Nat _ gwD Z.heap.size := G1.lt
  have ltP0 : @LT.lt Nat _ xm h0.size := P0.lt
  have ltP9 : @LT.lt Nat _ xt h0.size := P9.lt
  have ltP11 : @LT.lt Nat _ xa h0.size := P11.lt
  have ltP16 : @LT.lt Nat _ xb h0.size := P16.lt
  refine q_aloadN X0 hx hby d29_0 rfl rfl ?_
  refine q_aloadN X0 hx hby d29_1 rfl rfl ?_
  refine k_S X0 hx hby hZ hown (wh hw 226 rfl) (wh hw 227 rfl) (W := 1) (own_hash l Z a0 hw [] (98 : Int32) xa xb xk h0 n0 O0 gwD gz gwc gcl G (show own_chr (98 : Int32) from (by first | assumption | exact own_chr97 | exact own_chr98 | exact own_chr99)) P11 P12 P13 P14 P15 P16 (show n0 ≤ xa by first | assumption | omega | decide)) (wh hw 228 rfl) (wh hw 28 rfl) e0  hml (argsL := [.ref xa]) (rest := [.ref xm]) own_pd_11 d29_2 (fun _ T1 L1 X1 hQ1 => ?_)
  obtain ⟨h1, e1⟩ : ∃ z, T1.heap = z := ⟨_, rfl⟩
  rw [e1] at hQ1
  obtain ⟨Nc1, Kc1, rfl⟩ := hQ1
  have N1 := Fr.app N0 Nc1
  have O2 := O0.keep Kc1 (allS (show n0 ≤ xa by omega) all0)
  have sz3 : h0.size ≤ h1.size := Kc1.1
  have K4 := Keep.trans K0 Kc1 (allS (Or.inl (List.mem_of_getElem? (i := 2) rfl)) all0)
  refine q_aloadN X1 hx hby d29_5 rfl rfl ?_
  refine q_aloadN X1 hx hby d29_6 rfl rfl ?_
  refine q_iconst X1 hx hby d29_7 ?_
  refine q_iconst X1 hx hby d29_8 ?_
  have f5 := (P0.keep Kc1)
  have f6 := (P4.keep Kc1 (ninS (nE xm xa (by omega)) nin0))
  have f7 := (P5.keep Kc1 (ninS (nE xm xa (by omega)) nin0))
  have f8 := (P6.keep Kc1 (ninS (nE xm xa (by omega)) nin0))
  have f9 := (P7.keep Kc1 (ninS (nE xm xa (by omega)) nin0))
  have f10 := (P8.keep Kc1 (ninS (nE xm xa (by omega)) nin0))
  have f11 := (P9.keep Kc1 (ninS (nE xt xa (by omega)) nin0))
  refine k_V X1 hx hby hZ hown (wh hw 247 rfl) (wh hw 248 rfl) (wh hw 250 rfl) (wh hw 249 rfl) (W := 0) (own_putVal1 l Z a0 hw [] xm xt xq x1 xa xv h1 n0 O2 f5 (show n0 ≤ xm by first | assumption | omega | decide) (show n0 ≤ xt by first | assumption | omega | decide) (show @LT.lt Nat _ xm xt by first | assumption | omega | decide) f6 f7 f8 f9 f10 f11 (show Ovr Z xq "java/util/HashMap$Node" by first | assumption | omega | decide)) (wh hw 251 rfl) (wh hw 28 rfl) e1 f5  hml (argsL := [.int 98, .ref xa, .ref xv, .int 0, .int 1]) (rest := []) own_pd_12 d29_9 (fun _ T12 L12 X12 hQ12 => ?_)
  obtain ⟨h12, e12⟩ : ∃ z, T12.heap = z := ⟨_, rfl⟩
  rw [e12] at hQ12
  obtain ⟨Nc12, Kc12, r_12, rfl, c12_0, c12_1, c12_2, c12_3, c12_4, c12_5, c12_6, c12_7, c12_8, c12_9⟩ := hQ12
  have N12 := Fr.app N1 Nc12
  have O13 := O2.keep Kc12 (allS (show n0 ≤ xm by omega) (allS (show n0 ≤ xt by omega) all0))
  have sz14 : h1.size ≤ h12.size := Kc12.1
  have K15 := Keep.trans K4 Kc12 (allS (Or.inl (List.mem_of_getElem? (i := 0) rfl)) (allS (Or.inl (List.mem_of_getElem? (i := 1) rfl)) all0))
  have ltc12_5 : @LT.lt Nat _ xt h12.size := c12_5.lt
  have ltc12_6 : @LT.lt Nat _ r_12 h12.size := c12_6.lt
  refine r_R X12 hx hby hret hlk d29_12 e12 ?_
  exact ⟨N12, K15, r_12, rfl, c12_0, c12_1, c12_2, c12_3, c12_4, c12_5, c12_6, c12_7, c12_8, (show h0.size ≤ r_12 by first | assumption | omega | decide)⟩
theorem own_ef_own_putVal2 (m : MethodId) (xm : Addr) (xy : Addr) (xv : Addr) : entryFrame m #[.ref xm, .int 99, .ref xy, .ref xv, .int 0, .int 1] 13 = mkF m 0 #[vR xm, vI 99, vR xy, vR xv, vI 0, vI 1, uS, uS, uS, uS, uS, uS, uS] [] := by first | (simp [entryFrame, mkF, argsToLocals, Value.category]; done) | rfl
def Q_own_putVal2 (Z : State) (xm : Addr) (xt : Addr) (xq : ClassId) (x1 : Addr) (x2 : Addr) (xy : Addr) (xv : Addr) (h0 : Heap) (n0 : Nat) (v : Option Value) (h : Heap) (L : List Loc) : Prop := Fr n0 L ∧ Keep h0 h [xm, xt] ∧ ∃ (r : Addr), v = some .null ∧ Fld Z h xm "java/util/HashMap" "size" "I" (.int 3) ∧ Fld Z h xm "java/util/HashMap" "modCount" "I" (.int 3) ∧ Fld Z h xm "java/util/HashMap" "threshold" "I" (.int 12) ∧ Fld Z h xm "java/util/HashMap" "table" "[Ljava/util/HashMap$Node;" (.ref xt) ∧ Fld Z h xm "java/util/AbstractMap" "values" "Ljava/util/Collection;" .null ∧ Arv Z h xt xq (.object "java/util/HashMap$Node") (16 : Int32) [.null, .ref x1, .ref x2, .ref r, .null, .null, .null, .null, .null, .null, .null, .null, .null, .null, .null, .null] .null ∧ Exa Z h r "java/util/HashMap$Node" ∧ Fld Z h r "java/util/HashMap$Node" "value" "Ljava/lang/Object;" (.ref xv) ∧ Fld Z h r "java/util/HashMap$Node" "next" "Ljava/util/HashMap$Node;" .null ∧ h0.size ≤ r
theorem own_putVal2 (l : Launch) (Z : State) (a0 : Array Value) (hw : ∀ d ∈ tables_1, d.before a0 Z = true) (ws : List Jvm.Cond) (xm : Addr) (xt : Addr) (xq : ClassId) (x1 : Addr) (x2 : Addr) (xy : Addr) (xv : Addr) (h0 : Heap) (n0 : Nat) (O0 : Old Z n0 h0) (P0 : Exa Z h0 xm "java/util/HashMap") (P1 : n0 ≤ xm) (P2 : n0 ≤ xt) (P3 : @LT.lt Nat _ xm xt) (P4 : Fld Z h0 xm "java/util/HashMap" "size" "I" (.int 2)) (P5 : Fld Z h0 xm "java/util/HashMap" "modCount" "I" (.int 2)) (P6 : Fld Z h0 xm "java/util/HashMap" "threshold" "I" (.int 12)) (P7 : Fld Z h0 xm "java/util/HashMap" "table" "[Ljava/util/HashMap$Node;" (.ref xt)) (P8 : Fld Z h0 xm "java/util/AbstractMap" "values" "Ljava/util/Collection;" .null) (P9 : Arv Z h0 xt xq (.object "java/util/HashMap$Node") (16 : Int32) [.null, .ref x1, .ref x2, .null, .null, .null, .null, .null, .null, .null, .null, .null, .null, .null, .null, .null] .null) (P10 : Ovr Z xq "java/util/HashMap$Node") : own_Met l Z (⟨"java/util/HashMap", "putVal", "(ILjava/lang/Object;Ljava/lang/Object;ZZ)Ljava/lang/Object;"⟩ : MethodName) jdk_69_method_16_code 13 (some (.object "java/lang/Object")) ws ({ frames := 3, cells := 1, slots := 4, locals := 47 } : Room) #[.ref xm, .int 99, .ref xy, .ref xv, .int 0, .int 1] h0 (Q_own_putVal2 Z xm xt xq x1 x2 xy xv h0 n0) := by
  refine own_mk (plainFor_of_name own_pn_java_util_HashMap) O0 ?_
  intro p e s m below meth c s₁ hx hby hml hZ hown hnm hlk hret X0 e0 N0 z0 z1
  have K0 : Keep h0 h0 [xm, xt] := Keep.refl _ _
  refine own_cast (own_ef_own_putVal2 m xm xy xv) ?_
  show own_Goes p e below (s₁.setTop (mkF m 0 #[vR xm, vI 99, vR xy, vR xv, vI 0, vI 1, uS, uS, uS, uS, uS, uS, uS] [])) _
  have ltP0 : @LT.lt Nat _ xm h0.size := P0.lt
  have ltP9 : @LT.lt Nat _ xt h0.size := P9.lt
  refine q_aloadN X0 hx hby d34_0 rfl rfl ?_
  refine qG X0 hx hby hZ hown (wh hw 252 rfl) e0 P7 d34_1 (fun T1 X1 e1 => ?_)
  refine q_dup X1 hx hby d34_4 rfl ?_
  refine q_astore X1 hx hby d34_5 rfl (l' := #[vR xm, vI 99, vR xy, vR xv, vI 0, vI 1, vR xt, uS, uS, uS, uS, uS, uS]) rfl ?_
  refine q_ifnullNo X1 hx hby d34_7 ?_
  refine q_aload X1 hx hby d34_10 rfl rfl ?_
  refine q_len X1 hx hby hZ e1 P9 d34_12 ?_
  refine q_dup X1 hx hby d34_13 rfl ?_
  refine q_istore X1 hx hby d34_14 (l' := #[vR xm, vI 99, vR xy, vR xv, vI 0, vI 1, vR xt, uS, vI 16, uS, uS, uS, uS]) rfl ?_
  refine q_ifYes (pc := 16) X1 hx hby d34_16 (pc' := 29) ((if0 _ _).trans (feq (show ¬ ((16 : Int32) = (0 : Int32)) from by decide)).2) (by decide) (by decide) ?_
  refine q_aload X1 hx hby d34_29 rfl rfl ?_
  refine q_iload X1 hx hby d34_31 rfl ?_
  refine q_iconst X1 hx hby d34_33 ?_
  refine q_isub X1 hx hby d34_34 ?_
  show own_Goes p e below (T1.setTop (mkF m 35 #[vR xm, vI 99, vR xy, vR xv, vI 0, vI 1, vR xt, uS, vI 16, uS, uS, uS, uS] [(.int ((16 : Int32) - (1 : Int32))), .ref xt])) _
  rw [show ((16 : Int32) - (1 : Int32)) = (15 : Int32) from by decide]
  refine q_iloadN X1 hx hby d34_35 rfl ?_
  refine q_iand X1 hx hby d34_36 ?_
  show own_Goes p e below (T1.setTop (mkF m 37 #[vR xm, vI 99, vR xy, vR xv, vI 0, vI 1, vR xt, uS, vI 16, uS, uS, uS, uS] [(.int ((15 : Int32) &&& (99 : Int32))), .ref xt])) _
  rw [show ((15 : Int32) &&& (99 : Int32)) = (3 : Int32) from by decide]
  refine q_dup X1 hx hby d34_37 rfl ?_
  refine q_istore X1 hx hby d34_38 (l' := #[vR xm, vI 99, vR xy, vR xv, vI 0, vI 1, vR xt, uS, vI 16, vI 3, uS, uS, uS]) rfl ?_
  refine q_aaload X1 hx hby hZ e1 P9 d34_40 .null ?_
  refine q_dup X1 hx hby d34_41 rfl ?_
  refine q_astore X1 hx hby d34_42 rfl (l' := #[vR xm, vI 99, vR xy, vR xv, vI 0, vI 1, vR xt, vN, vI 16, vI 3, uS, uS, uS]) rfl ?_
  refine gg (fun t k => XS.ifnonnullNo X1.here hx rfl (hb hby d34_44) rfl k) ?_
  refine q_aload X1 hx hby d34_47 rfl rfl ?_
  refine q_iload X1 hx hby d34_49 rfl ?_
  refine q_aloadN X1 hx hby d34_51 rfl rfl ?_
  refine q_iloadN X1 hx hby d34_52 rfl ?_
  refine q_aloadN X1 hx hby d34_53 rfl rfl ?_
  refine q_aloadN X1 hx hby d34_54 rfl rfl ?_
  refine q_aconstNull X1 hx hby d34_55 ?_
  refine k_V X1 hx hby hZ hown (wh hw 262 rfl) (wh hw 263 rfl) (wh hw 265 rfl) (wh hw 264 rfl) (W := 2) (own_newNode l Z a0 hw [] xm (99 : Int32) xy xv h0 n0 O0) (wh hw 266 rfl) (wh hw 28 rfl) e1 P0  hml (argsL := [.int 99, .ref xy, .ref xv, .null]) (rest := [.int 3, .ref xt]) own_pd_9 d34_56 (fun _ T4 L4 X4 hQ4 => ?_)
  obtain ⟨h4, e4⟩ : ∃ z, T4.heap = z := ⟨_, rfl⟩
  rw [e4] at hQ4
  obtain ⟨Nc4, Kc4, r_4, rfl, c4_0, c4_1, c4_2, c4_3⟩ := hQ4
  have N4 := Fr.app N0 Nc4
  have O5 := O0.keep Kc4 all0
  have sz6 : h0.size ≤ h4.size := Kc4.1
  have K7 := Keep.trans K0 Kc4 all0
  have ltc4_0 : @LT.lt Nat _ r_4 h4.size := c4_0.lt
  show own_Goes p e below (T4.setTop (mkF m 59 #[vR xm, vI 99, vR xy, vR xv, vI 0, vI 1, vR xt, vN, vI 16, vI 3, uS, uS, uS] [.ref r_4, .int 3, .ref xt])) _
  have f8 := (P9.keep Kc4 nin0)
  obtain ⟨clu9, Aru9, qu9, Szu9, Ngu9, Hsu9, Gsu9⟩ := id f8
  have inu9 : ¬ ((3 : Int32) < 0 ∨ clu9.slots.size ≤ ((3 : Int32)).toNatClampNeg) := inb_of Szu9 ⟨by decide, by decide⟩
  obtain ⟨T10, h10, X10, e10, W10, st10⟩ := stR X4 hx hZ e4 Aru9 (j := (3 : Int32)) inu9 rfl (Sto.ofV Aru9 qu9 P10 (Ins.self c4_0)) (g := (mkF m 59 #[vR xm, vI 99, vR xy, vR xv, vI 0, vI 1, vR xt, vN, vI 16, vI 3, uS, uS, uS] [.ref r_4, .int 3, .ref xt])) rfl rfl (hb hby d34_59)
  refine gg st10 ?_
  have V10 := Arv.set Aru9 qu9 Szu9 Ngu9 Hsu9 Gsu9 rfl W10 3 rfl (Nat.le_of_ble_eq_true rfl)
  have O11 := O5.wr W10 (show n0 ≤ xt by omega)
  have sz12 : h10.size = h4.size := Wr.size W10
  have K13 := K7.wr W10 (Or.inl (List.mem_of_getElem? (i := 1) rfl))
  have N10 := Fr.snoc X10 N4 (show n0 ≤ xt by omega)
  have V10 : Arv Z h10 xt xq (.object "java/util/HashMap$Node") (16 : Int32) [.null, .ref x1, .ref x2, .ref r_4, .null, .null, .null, .null, .null, .null, .null, .null, .null, .null, .null, .null] .null := V10
  refine q_goto (pc := 60) X10 hx hby d34_60 (pc' := 259) (by decide) (by decide) ?_
  refine q_aloadN X10 hx hby d34_259 rfl rfl ?_
  refine q_dup X10 hx hby d34_260 rfl ?_
  have f14 := ((P5.keep Kc4 nin0).other W10 (Or.inl (nE xm xt (by omega))))
  refine qG X10 hx hby hZ hown (wh hw 282 rfl) e10 f14 d34_261 (fun T15 X15 e15 => ?_)
  refine q_iconst X15 hx hby d34_264 ?_
  refine q_iadd X15 hx hby d34_265 ?_
  show own_Goes p e below (T15.setTop (mkF m 266 #[vR xm, vI 99, vR xy, vR xv, vI 0, vI 1, vR xt, vN, vI 16, vI 3, uS, uS, uS] [(.int ((2 : Int32) + (1 : Int32))), .ref xm])) _
  rw [show ((2 : Int32) + (1 : Int32)) = (3 : Int32) from by decide]
  have f16 := ((P0.keep Kc4).wr W10)
  refine qP X15 hx hby hZ hown (host := "") (Or.inl (wh hw 282 rfl)) Via.refl e15 f14 f16 (Or.inl (wh hw 125 rfl)) (wh hw 27 rfl) (ty := .int) d34_266 (fun T17 h17 X17 e17 W17 => ?_)
  have O18 := O11.wr W17 (show n0 ≤ xm by omega)
  have sz19 : h17.size = h10.size := Wr.size W17
  have K20 := K13.wr W17 (Or.inl (List.mem_of_getElem? (i := 0) rfl))
  have N17 := Fr.snoc X17 N10 (show n0 ≤ xm by omega)
  have Fw17 := f14.same W17
  refine q_aloadN X17 hx hby d34_269 rfl rfl ?_
  refine q_dup X17 hx hby d34_270 rfl ?_
  have f21 := (((P4.keep Kc4 nin0).other W10 (Or.inl (nE xm xt (by omega)))).other W17 (Or.inr (slot_ne (Or.inl (wh hw 76 rfl)) (Or.inl (wh hw 125 rfl)) (by decide) (t := .int) (t' := .int) (by decide) (by decide))))
  refine qG X17 hx hby hZ hown (wh hw 75 rfl) e17 f21 d34_271 (fun T22 X22 e22 => ?_)
  refine q_iconst X22 hx hby d34_274 ?_
  refine q_iadd X22 hx hby d34_275 ?_
  show own_Goes p e below (T22.setTop (mkF m 276 #[vR xm, vI 99, vR xy, vR xv, vI 0, vI 1, vR xt, vN, vI 16, vI 3, uS, uS, uS] [(.int ((2 : Int32) + (1 : Int32))), .ref xm])) _
  rw [show ((2 : Int32) + (1 : Int32)) = (3 : Int32) from by decide]
  refine gg (fun t k => XS.dupX1 X22.here hx rfl (hb hby d34_276) rfl rfl rfl k) ?_
  have f23 := (f16.wr W17)
  refine qP X22 hx hby hZ hown (host := "") (Or.inl (wh hw 75 rfl)) Via.refl e22 f21 f23 (Or.inl (wh hw 76 rfl)) (wh hw 27 rfl) (ty := .int) d34_277 (fun T24 h24 X24 e24 W24 => ?_)
  have O25 := O18.wr W24 (show n0 ≤ xm by omega)
  have sz26 : h24.size = h17.size := Wr.size W24
  have K27 := K20.wr W24 (Or.inl (List.mem_of_getElem? (i := 0) rfl))
  have N24 := Fr.snoc X24 N17 (show n0 ≤ xm by omega)
  have Fw24 := f21.same W24
  refine q_aloadN X24 hx hby d34_280 rfl rfl ?_
  have f28 := ((((P6.keep Kc4 nin0).other W10 (Or.inl (nE xm xt (by omega)))).other W17 (Or.inr (slot_ne (Or.inl (wh hw 259 rfl)) (Or.inl (wh hw 125 rfl)) (by decide) (t := .int) (t' := .int) (by decide) (by decide)))).other W24 (Or.inr (slot_ne (Or.inl (wh hw 259 rfl)) (Or.inl (wh hw 76 rfl)) (by decide) (t := .int) (t' := .int) (by decide) (by decide))))
  refine qG X24 hx hby hZ hown (wh hw 258 rfl) e24 f28 d34_281 (fun T29 X29 e29 => ?_)
  refine q_icmpYes (pc := 284) X29 hx hby d34_284 (pc' := 292) (flt (show ¬ ((12 : Int32) < (3 : Int32)) from by decide)).2.2.2 (by decide) (by decide) ?_
  refine q_aloadN X29 hx hby d34_292 rfl rfl ?_
  refine q_iload X29 hx hby d34_293 rfl ?_
  have f30 := (f23.wr W24)
  refine k_V X29 hx hby hZ hown (wh hw 283 rfl) (wh hw 284 rfl) (wh hw 286 rfl) (wh hw 285 rfl) (W := 0) (own_after l Z a0 hw [] xm h24 n0 O25) (wh hw 287 rfl) (wh hw 28 rfl) e29 f30  hml (argsL := [.int 1]) (rest := []) own_pd_10 d34_295 (fun _ T31 L31 X31 hQ31 => ?_)
  obtain ⟨Nc31, e31, rfl⟩ := hQ31
  have N31 := Fr.app N24 Nc31
  refine q_aconstNull X31 hx hby d34_298 ?_
  refine r_R X31 hx hby hret hlk d34_299 e31 ?_
  have f32 := (Fw17.other W24 (Or.inr (slot_ne (Or.inl (wh hw 125 rfl)) (Or.inl (wh hw 76 rfl)) (by decide) (t := .int) (t' := .int) (by decide) (by decide))))
  have f33 := ((((P7.keep Kc4 nin0).other W10 (Or.inl (nE xm xt (by omega)))).other W17 (Or.inr (slot_ne (Or.inl (wh hw 129 rfl)) (Or.inl (wh hw 125 rfl)) (by decide) (t := (.array (.object "java/util/HashMap$Node"))) (t' := .int) (by decide) (by decide)))).other W24 (Or.inr (slot_ne (Or.inl (wh hw 129 rfl)) (Or.inl (wh hw 76 rfl)) (by decide) (t := (.array (.object "java/util/HashMap$Node"))) (t' := .int) (by decide) (by decide))))
  have f34 := ((((P8.keep Kc4 nin0).other W10 (Or.inl (nE xm xt (by omega)))).other W17 (Or.inr (slot_ne (Or.inl (wh hw 87 rfl)) (Or.inl (wh hw 125 rfl)) (by decide) (t := (.object "java/util/Collection")) (t' := .int) (by decide) (by decide)))).other W24 (Or.inr (slot_ne (Or.inl (wh hw 87 rfl)) (Or.inl (wh hw 76 rfl)) (by decide) (t := (.object "java/util/Collection")) (t' := .int) (by decide) (by decide))))
  have f35 := ((V10.other W17 (nE xt xm (by omega))).other W24 (nE xt xm (by omega)))
  have f36 := (((c4_0.wr W10).wr W17).wr W24)
  have f37 := (((c4_1.other W10 (Or.inl (nE r_4 xt (by omega)))).other W17 (Or.inl (nE r_4 xm (by omega)))).other W24 (Or.inl (nE r_4 xm (by omega))))
  have f38 := (((c4_2.other W10 (Or.inl (nE r_4 xt (by omega)))).other W17 (Or.inl (nE r_4 xm (by omega)))).other W24 (Or.inl (nE r_4 xm (by omega))))
  exact ⟨N31, K27, r_4, rfl, Fw24, f32, f28, f33, f34, f35, f36, f37, f38, (show h0.size ≤ r_4 by first | assumption | omega | decide)⟩
theorem own_ef_own_put2 (m : MethodId) (xm : Addr) (xa : Addr) (xv : Addr) : entryFrame m #[.ref xm, .ref xa, .ref xv] 3 = mkF m 0 #[vR xm, vR xa, vR xv] [] := by first | (simp [entryFrame, mkF, argsToLocals, Value.category]; done) | rfl
def Q_own_put2 (Z : State) (xm : Addr) (xt : Addr) (xq : ClassId) (x1 : Addr) (x2 : Addr) (xa : Addr) (xb : Addr) (xk : ClassId) (xv : Addr) (gwD : Addr) (gz : Int32) (gwc : Addr) (gcl : Cell) (h0 : Heap) (n0 : Nat) (v : Option Value) (h : Heap) (L : List Loc) : Prop := Fr n0 L ∧ Keep h0 h [xm, xt, xa] ∧ ∃ (r : Addr), v = some .null ∧ Fld Z h xm "java/util/HashMap" "size" "I" (.int 3) ∧ Fld Z h xm "java/util/HashMap" "modCount" "I" (.int 3) ∧ Fld Z h xm "java/util/HashMap" "threshold" "I" (.int 12) ∧ Fld Z h xm "java/util/HashMap" "table" "[Ljava/util/HashMap$Node;" (.ref xt) ∧ Fld Z h xm "java/util/AbstractMap" "values" "Ljava/util/Collection;" .null ∧ Arv Z h xt xq (.object "java/util/HashMap$Node") (16 : Int32) [.null, .ref x1, .ref x2, .ref r, .null, .null, .null, .null, .null, .null, .null, .null, .null, .null, .null, .null] .null ∧ Exa Z h r "java/util/HashMap$Node" ∧ Fld Z h r "java/util/HashMap$Node" "value" "Ljava/lang/Object;" (.ref xv) ∧ Fld Z h r "java/util/HashMap$Node" "next" "Ljava/util/HashMap$Node;" .null ∧ h0.size ≤ r
theorem own_put2 (l : Launch) (Z : State) (a0 : Array Value) (hw : ∀ d ∈ tables_1, d.before a0 Z = true) (ws : List Jvm.Cond) (xm : Addr) (xt : Addr) (xq : ClassId) (x1 : Addr) (x2 : Addr) (xa : Addr) (xb : Addr) (xk : ClassId) (xv : Addr) (h0 : Heap) (n0 : Nat) (O0 : Old Z n0 h0) (gwD : Addr) (gz : Int32) (gwc : Addr) (gcl : Cell) (G : GG Z gwD gz gwc gcl) (P0 : Exa Z h0 xm "java/util/HashMap") (P1 : n0 ≤ xm) (P2 : n0 ≤ xt) (P3 : @LT.lt Nat _ xm xt) (P4 : Fld Z h0 xm "java/util/HashMap" "size" "I" (.int 2)) (P5 : Fld Z h0 xm "java/util/HashMap" "modCount" "I" (.int 2)) (P6 : Fld Z h0 xm "java/util/HashMap" "threshold" "I" (.int 12)) (P7 : Fld Z h0 xm "java/util/HashMap" "table" "[Ljava/util/HashMap$Node;" (.ref xt)) (P8 : Fld Z h0 xm "java/util/AbstractMap" "values" "Ljava/util/Collection;" .null) (P9 : Arv Z h0 xt xq (.object "java/util/HashMap$Node") (16 : Int32) [.null, .ref x1, .ref x2, .null, .null, .null, .null, .null, .null, .null, .null, .null, .null, .null, .null, .null] .null) (P10 : Ovr Z xq "java/util/HashMap$Node") (P11 : Exa Z h0 xa "java/lang/String") (P12 : Fld Z h0 xa "java/lang/String" "value" "[B" (.ref xb)) (P13 : Fld Z h0 xa "java/lang/String" "coder" "B" (.int 0)) (P14 : Fld Z h0 xa "java/lang/String" "hash" "I" (.int 0)) (P15 : Fld Z h0 xa "java/lang/String" "hashIsZero" "Z" (.int 0)) (P16 : Arv Z h0 xb xk .byte (1 : Int32) [.int 99] (.int 0)) (P17 : n0 ≤ xa) (P18 : @LT.lt Nat _ xt xa) (P19 : @LT.lt Nat _ xa xb) : own_Met l Z (⟨"java/util/HashMap", "put", "(Ljava/lang/Object;Ljava/lang/Object;)Ljava/lang/Object;"⟩ : MethodName) jdk_69_method_15_code 3 (some (.object "java/lang/Object")) ws ({ frames := 4, cells := 1, slots := 4, locals := 71 } : Room) #[.ref xm, .ref xa, .ref xv] h0 (Q_own_put2 Z xm xt xq x1 x2 xa xb xk xv gwD gz gwc gcl h0 n0) := by
  refine own_mk (plainFor_of_name own_pn_java_util_HashMap) O0 ?_
  intro p e s m below meth c s₁ hx hby hml hZ hown hnm hlk hret X0 e0 N0 z0 z1
  have K0 : Keep h0 h0 [xm, xt, xa] := Keep.refl _ _
  refine own_cast (own_ef_own_put2 m xm xa xv) ?_
  show own_Goes p e below (s₁.setTop (mkF m 0 #[vR xm, vR xa, vR xv] [])) _
  obtain ⟨G0, G1, G2, G3, G4, G5, G6⟩ := id G
  have ltG1 : @LT.lt Nat _ gwD Z.heap.size := G1.lt
  have ltP0 : @LT.lt Nat _ xm h0.size := P0.lt
  have ltP9 : @LT.lt Nat _ xt h0.size := P9.lt
  have ltP11 : @LT.lt Nat _ xa h0.size := P11.lt
  have ltP16 : @LT.lt Nat _ xb h0.size := P16.lt
  refine q_aloadN X0 hx hby d29_0 rfl rfl ?_
  refine q_aloadN X0 hx hby d29_1 rfl rfl ?_
  refine k_S X0 hx hby hZ hown (wh hw 226 rfl) (wh hw 227 rfl) (W := 1) (own_hash l Z a0 hw [] (99 : Int32) xa xb xk h0 n0 O0 gwD gz gwc gcl G (show own_chr (99 : Int32) from (by first | assumption | exact own_chr97 | exact own_chr98 | exact own_chr99)) P11 P12 P13 P14 P15 P16 (show n0 ≤ xa by first | assumption | omega | decide)) (wh hw 228 rfl) (wh hw 28 rfl) e0  hml (argsL := [.ref xa]) (rest := [.ref xm]) own_pd_11 d29_2 (fun _ T1 L1 X1 hQ1 => ?_)
  obtain ⟨h1, e1⟩ : ∃ z, T1.heap = z := ⟨_, rfl⟩
  rw [e1] at hQ1
  obtain ⟨Nc1, Kc1, rfl⟩ := hQ1
  have N1 := Fr.app N0 Nc1
  have O2 := O0.keep Kc1 (allS (show n0 ≤ xa by omega) all0)
  have sz3 : h0.size ≤ h1.size := Kc1.1
  have K4 := Keep.trans K0 Kc1 (allS (Or.inl (List.mem_of_getElem? (i := 2) rfl)) all0)
  refine q_aloadN X1 hx hby d29_5 rfl rfl ?_
  refine q_aloadN X1 hx hby d29_6 rfl rfl ?_
  refine q_iconst X1 hx hby d29_7 ?_
  refine q_iconst X1 hx hby d29_8 ?_
  have f5 := (P0.keep Kc1)
  have f6 := (P4.keep Kc1 (ninS (nE xm xa (by omega)) nin0))
  have f7 := (P5.keep Kc1 (ninS (nE xm xa (by omega)) nin0))
  have f8 := (P6.keep Kc1 (ninS (nE xm xa (by omega)) nin0))
  have f9 := (P7.keep Kc1 (ninS (nE xm xa (by omega)) nin0))
  have f10 := (P8.keep Kc1 (ninS (nE xm xa (by omega)) nin0))
  have f11 := (P9.keep Kc1 (ninS (nE xt xa (by omega)) nin0))
  refine k_V X1 hx hby hZ hown (wh hw 247 rfl) (wh hw 248 rfl) (wh hw 250 rfl) (wh hw 249 rfl) (W := 0) (own_putVal2 l Z a0 hw [] xm xt xq x1 x2 xa xv h1 n0 O2 f5 (show n0 ≤ xm by first | assumption | omega | decide) (show n0 ≤ xt by first | assumption | omega | decide) (show @LT.lt Nat _ xm xt by first | assumption | omega | decide) f6 f7 f8 f9 f10 f11 (show Ovr Z xq "java/util/HashMap$Node" by first | assumption | omega | decide)) (wh hw 251 rfl) (wh hw 28 rfl) e1 f5  hml (argsL := [.int 99, .ref xa, .ref xv, .int 0, .int 1]) (rest := []) own_pd_12 d29_9 (fun _ T12 L12 X12 hQ12 => ?_)
  obtain ⟨h12, e12⟩ : ∃ z, T12.heap = z := ⟨_, rfl⟩
  rw [e12] at hQ12
  obtain ⟨Nc12, Kc12, r_12, rfl, c12_0, c12_1, c12_2, c12_3, c12_4, c12_5, c12_6, c12_7, c12_8, c12_9⟩ := hQ12
  have N12 := Fr.app N1 Nc12
  have O13 := O2.keep Kc12 (allS (show n0 ≤ xm by omega) (allS (show n0 ≤ xt by omega) all0))
  have sz14 : h1.size ≤ h12.size := Kc12.1
  have K15 := Keep.trans K4 Kc12 (allS (Or.inl (List.mem_of_getElem? (i := 0) rfl)) (allS (Or.inl (List.mem_of_getElem? (i := 1) rfl)) all0))
  have ltc12_5 : @LT.lt Nat _ xt h12.size := c12_5.lt
  have ltc12_6 : @LT.lt Nat _ r_12 h12.size := c12_6.lt
  refine r_R X12 hx hby hret hlk d29_12 e12 ?_
  exact ⟨N12, K15, r_12, rfl, c12_0, c12_1, c12_2, c12_3, c12_4, c12_5, c12_6, c12_7, c12_8, (show h0.size ≤ r_12 by first | assumption | omega | decide)⟩
theorem d9_0 : decode B9 0 = .ok (.aload_n 0, 1) := by decide +kernel
theorem d9_1 : decode B9 1 = .ok (.getfield 156, 3) := by decide +kernel
theorem d9_4 : decode B9 4 = .ok (.ireturn, 1) := by decide +kernel
theorem own_ef_own_hmSize (m : MethodId) (xa : Addr) : entryFrame m #[.ref xa] 1 = mkF m 0 #[vR xa] [] := by first | (simp [entryFrame, mkF, argsToLocals, Value.category]; done) | rfl
def Q_own_hmSize (Z : State) (xa : Addr) (xv : Int32) (h0 : Heap) (n0 : Nat) (v : Option Value) (h : Heap) (L : List Loc) : Prop := Fr n0 L ∧ h = h0 ∧ v = some (.int xv)
theorem own_hmSize (l : Launch) (Z : State) (a0 : Array Value) (hw : ∀ d ∈ tables_1, d.before a0 Z = true) (ws : List Jvm.Cond) (xa : Addr) (xv : Int32) (h0 : Heap) (n0 : Nat) (O0 : Old Z n0 h0) (P0 : Fld Z h0 xa "java/util/HashMap" "size" "I" (.int xv)) : own_Met l Z (⟨"java/util/HashMap", "size", "()I"⟩ : MethodName) jdk_69_method_10_code 1 (some .int) ws ({ frames := 0, cells := 0, slots := 0, locals := 0 } : Room) #[.ref xa] h0 (Q_own_hmSize Z xa xv h0 n0) := by
  refine own_mk (plainFor_of_name own_pn_java_util_HashMap) O0 ?_
  intro p e s m below meth c s₁ hx hby hml hZ hown hnm hlk hret X0 e0 N0 z0 z1
  refine own_cast (own_ef_own_hmSize m xa) ?_
  show own_Goes p e below (s₁.setTop (mkF m 0 #[vR xa] [])) _
  refine q_aloadN X0 hx hby d9_0 rfl rfl ?_
  refine qG X0 hx hby hZ hown (wh hw 75 rfl) e0 P0 d9_1 (fun T1 X1 e1 => ?_)
  refine r_I X1 hx hby hret hlk d9_4 e1 ?_
  exact ⟨N0, rfl, rfl⟩
theorem d11_0 : decode B11 0 = .ok (.aload_n 0, 1) := by decide +kernel
theorem d11_1 : decode B11 1 = .ok (.aload_n 1, 1) := by decide +kernel
theorem d11_2 : decode B11 2 = .ok (.putfield 1, 3) := by decide +kernel
theorem d11_5 : decode B11 5 = .ok (.aload_n 0, 1) := by decide +kernel
theorem d11_6 : decode B11 6 = .ok (.invokespecial 7, 3) := by decide +kernel
theorem d11_9 : decode B11 9 = .ok (.return_, 1) := by decide +kernel
theorem own_pn_java_util_HashMap_Values : plainName "java/util/HashMap$Values" = true := by first | (simp [plainName, overriddenIn]; done) | decide +kernel
theorem own_ef_own_vsInit (m : MethodId) (xa : Addr) (xm : Addr) : entryFrame m #[.ref xa, .ref xm] 2 = mkF m 0 #[vR xa, vR xm] [] := by first | (simp [entryFrame, mkF, argsToLocals, Value.category]; done) | rfl
def Q_own_vsInit (Z : State) (xa : Addr) (xm : Addr) (h0 : Heap) (n0 : Nat) (v : Option Value) (h : Heap) (L : List Loc) : Prop := Fr n0 L ∧ Keep h0 h [xa] ∧ v = none ∧ Fld Z h xa "java/util/HashMap$Values" "this$0" "Ljava/util/HashMap;" (.ref xm)
theorem own_vsInit (l : Launch) (Z : State) (a0 : Array Value) (hw : ∀ d ∈ tables_1, d.before a0 Z = true) (ws : List Jvm.Cond) (xa : Addr) (xm : Addr) (h0 : Heap) (n0 : Nat) (O0 : Old Z n0 h0) (P0 : Exa Z h0 xa "java/util/HashMap$Values") (P1 : Fld Z h0 xa "java/util/HashMap$Values" "this$0" "Ljava/util/HashMap;" .null) (P2 : n0 ≤ xa) : own_Met l Z (⟨"java/util/HashMap$Values", "<init>", "(Ljava/util/HashMap;)V"⟩ : MethodName) jdk_2571_method_1_code 2 none ws ({ frames := 2, cells := 0, slots := 0, locals := 24 } : Room) #[.ref xa, .ref xm] h0 (Q_own_vsInit Z xa xm h0 n0) := by
  refine own_mk (plainFor_of_name own_pn_java_util_HashMap_Values) O0 ?_
  intro p e s m below meth c s₁ hx hby hml hZ hown hnm hlk hret X0 e0 N0 z0 z1
  have K0 : Keep h0 h0 [xa] := Keep.refl _ _
  refine own_cast (own_ef_own_vsInit m xa xm) ?_
  show own_Goes p e below (s₁.setTop (mkF m 0 #[vR xa, vR xm] [])) _
  have ltP0 : @LT.lt Nat _ xa h0.size := P0.lt
  refine q_aloadN X0 hx hby d11_0 rfl rfl ?_
  refine q_aloadN X0 hx hby d11_1 rfl rfl ?_
  refine qP X0 hx hby hZ hown (host := "") (Or.inl (wh hw 95 rfl)) Via.refl e0 P1 P0 (Or.inr ⟨(wh hw 96 rfl), rfl, hnm⟩) (wh hw 89 rfl) (ty := (.object "java/util/HashMap")) d11_2 (fun T1 h1 X1 e1 W1 => ?_)
  have O2 := O0.wr W1 (show n0 ≤ xa by omega)
  have sz3 : h1.size = h0.size := Wr.size W1
  have K4 := K0.wr W1 (Or.inl (List.mem_of_getElem? (i := 0) rfl))
  have N1 := Fr.snoc X1 N0 (show n0 ≤ xa by omega)
  have Fw1 := P1.same W1
  refine q_aloadN X1 hx hby d11_5 rfl rfl ?_
  refine k_N X1 hx hby hZ hown (wh hw 97 rfl) (wh hw 13 rfl) (W := 0) (own_acInit l Z a0 hw [] xa h1 n0 O2) (wh hw 17 rfl) (wh hw 16 rfl) e1  hml (argsL := []) (rest := []) own_pd_0 d11_6 (fun _ T5 L5 X5 hQ5 => ?_)
  obtain ⟨Nc5, e5, rfl⟩ := hQ5
  have N5 := Fr.app N1 Nc5
  refine r_V X5 hx hby hret hlk d11_9 e5 ?_
  exact ⟨N5, K4, rfl, Fw1⟩
theorem d10_0 : decode B10 0 = .ok (.aload_n 0, 1) := by decide +kernel
theorem d10_1 : decode B10 1 = .ok (.getfield 259, 3) := by decide +kernel
theorem d10_4 : decode B10 4 = .ok (.astore_n 1, 1) := by decide +kernel
theorem d10_5 : decode B10 5 = .ok (.aload_n 1, 1) := by decide +kernel
theorem d10_6 : decode B10 6 = .ok (.ifnonnull 17, 3) := by decide +kernel
theorem d10_9 : decode B10 9 = .ok (.new 263, 3) := by decide +kernel
theorem d10_12 : decode B10 12 = .ok (.dup, 1) := by decide +kernel
theorem d10_13 : decode B10 13 = .ok (.aload_n 0, 1) := by decide +kernel
theorem d10_14 : decode B10 14 = .ok (.invokespecial 265, 3) := by decide +kernel
theorem own_pd_13 : parseMethodDescriptor "(Ljava/util/HashMap;)V" = some ⟨[(.object "java/util/HashMap")], none⟩ := by decide +kernel
theorem d10_17 : decode B10 17 = .ok (.astore_n 1, 1) := by decide +kernel
theorem d10_18 : decode B10 18 = .ok (.aload_n 0, 1) := by decide +kernel
theorem d10_19 : decode B10 19 = .ok (.aload_n 1, 1) := by decide +kernel
theorem d10_20 : decode B10 20 = .ok (.putfield 259, 3) := by decide +kernel
theorem d10_23 : decode B10 23 = .ok (.aload_n 1, 1) := by decide +kernel
theorem d10_24 : decode B10 24 = .ok (.areturn, 1) := by decide +kernel
theorem own_ef_own_values (m : MethodId) (xm : Addr) : entryFrame m #[.ref xm] 2 = mkF m 0 #[vR xm, uS] [] := by first | (simp [entryFrame, mkF, argsToLocals, Value.category]; done) | rfl
def Q_own_values (Z : State) (xm : Addr) (xs : Int32) (xq : Int32) (xw : Int32) (xt : Value) (h0 : Heap) (n0 : Nat) (v : Option Value) (h : Heap) (L : List Loc) : Prop := Fr n0 L ∧ Keep h0 h [xm] ∧ ∃ (r : Addr), v = some (.ref r) ∧ Fld Z h xm "java/util/HashMap" "size" "I" (.int xs) ∧ Fld Z h xm "java/util/HashMap" "modCount" "I" (.int xq) ∧ Fld Z h xm "java/util/HashMap" "threshold" "I" (.int xw) ∧ Fld Z h xm "java/util/HashMap" "table" "[Ljava/util/HashMap$Node;" xt ∧ Fld Z h xm "java/util/AbstractMap" "values" "Ljava/util/Collection;" (.ref r) ∧ Exa Z h r "java/util/HashMap$Values" ∧ Fld Z h r "java/util/HashMap$Values" "this$0" "Ljava/util/HashMap;" (.ref xm) ∧ h0.size ≤ r
theorem own_values (l : Launch) (Z : State) (a0 : Array Value) (hw : ∀ d ∈ tables_1, d.before a0 Z = true) (ws : List Jvm.Cond) (xm : Addr) (xs : Int32) (xq : Int32) (xw : Int32) (xt : Value) (h0 : Heap) (n0 : Nat) (O0 : Old Z n0 h0) (P0 : Exa Z h0 xm "java/util/HashMap") (P1 : n0 ≤ xm) (P2 : Fld Z h0 xm "java/util/HashMap" "size" "I" (.int xs)) (P3 : Fld Z h0 xm "java/util/HashMap" "modCount" "I" (.int xq)) (P4 : Fld Z h0 xm "java/util/HashMap" "threshold" "I" (.int xw)) (P5 : Fld Z h0 xm "java/util/HashMap" "table" "[Ljava/util/HashMap$Node;" xt) (P6 : Fld Z h0 xm "java/util/AbstractMap" "values" "Ljava/util/Collection;" .null) : own_Met l Z (⟨"java/util/HashMap", "values", "()Ljava/util/Collection;"⟩ : MethodName) jdk_69_method_28_code 2 (some (.object "java/util/Collection")) ws ({ frames := 3, cells := 1, slots := 1, locals := 38 } : Room) #[.ref xm] h0 (Q_own_values Z xm xs xq xw xt h0 n0) := by
  refine own_mk (plainFor_of_name own_pn_java_util_HashMap) O0 ?_
  intro p e s m below meth c s₁ hx hby hml hZ hown hnm hlk hret X0 e0 N0 z0 z1
  have K0 : Keep h0 h0 [xm] := Keep.refl _ _
  refine own_cast (own_ef_own_values m xm) ?_
  show own_Goes p e below (s₁.setTop (mkF m 0 #[vR xm, uS] [])) _
  have ltP0 : @LT.lt Nat _ xm h0.size := P0.lt
  refine q_aloadN X0 hx hby d10_0 rfl rfl ?_
  refine qF X0 hx hby hZ hown (host := "") (Or.inl (wh hw 85 rfl)) (Via.of (wh hw 86 rfl)) e0 P6 d10_1 (fun T1 X1 e1 => ?_)
  refine q_astoreN X1 hx hby d10_4 rfl (l' := #[vR xm, vN]) rfl ?_
  refine q_aloadN X1 hx hby d10_5 rfl rfl ?_
  refine gg (fun t k => XS.ifnonnullNo X1.here hx rfl (hb hby d10_6) rfl k) ?_
  obtain ⟨T2, h2, X2, e2, E2, A2, D2, -, st2⟩ := newO X1 hx hZ hown (wh hw 88 rfl) (wh hw 89 rfl) (wh hw 90 rfl) e1 (g := (mkF m 9 #[vR xm, vN] [])) rfl (hb hby d10_9) (by decide) (by decide)
  obtain ⟨b2, g2⟩ : ∃ z, z = h0.size := ⟨_, rfl⟩
  rw [← g2] at A2 D2 st2
  refine gg st2 ?_
  have O3 := O0.ext E2
  have sz4 : h0.size ≤ h2.size := E2.1
  have K5 := K0.ext E2
  have l2 : @LT.lt Nat _ b2 h2.size := A2.lt
  have F2_this_0 : Fld Z h2 b2 "java/util/HashMap$Values" "this$0" "Ljava/util/HashMap;" .null := D2 (Or.inr (wh hw 96 rfl)) (ty := (.object "java/util/HashMap")) (by decide)
  refine q_dup X2 hx hby d10_12 rfl ?_
  refine q_aloadN X2 hx hby d10_13 rfl rfl ?_
  refine k_N X2 hx hby hZ hown (wh hw 91 rfl) (wh hw 92 rfl) (W := 1) (own_vsInit l Z a0 hw [] b2 xm h2 n0 O3 A2 F2_this_0 (show n0 ≤ b2 by first | assumption | omega | decide)) (wh hw 94 rfl) (wh hw 90 rfl) e2  hml (argsL := [.ref xm]) (rest := [.ref b2]) own_pd_13 d10_14 (fun _ T6 L6 X6 hQ6 => ?_)
  obtain ⟨h6, e6⟩ : ∃ z, T6.heap = z := ⟨_, rfl⟩
  rw [e6] at hQ6
  obtain ⟨Nc6, Kc6, rfl, c6_0⟩ := hQ6
  have N6 := Fr.app N0 Nc6
  have O7 := O3.keep Kc6 (allS (show n0 ≤ b2 by omega) all0)
  have sz8 : h2.size ≤ h6.size := Kc6.1
  have K9 := Keep.trans K5 Kc6 (allS (Or.inr (show h0.size ≤ b2 by omega)) all0)
  refine q_astoreN X6 hx hby d10_17 rfl (l' := #[vR xm, vR b2]) rfl ?_
  refine q_aloadN X6 hx hby d10_18 rfl rfl ?_
  refine q_aloadN X6 hx hby d10_19 rfl rfl ?_
  have f10 := ((P6.ext E2).keep Kc6 (ninS (nE xm b2 (by omega)) nin0))
  have f11 := ((P0.ext E2).keep Kc6)
  refine qP X6 hx hby hZ hown (host := "") (Or.inl (wh hw 85 rfl)) (Via.of (wh hw 86 rfl)) e6 f10 f11 (Or.inl (wh hw 87 rfl)) (wh hw 27 rfl) (ty := (.object "java/util/Collection")) d10_20 (fun T12 h12 X12 e12 W12 => ?_)
  have O13 := O7.wr W12 (show n0 ≤ xm by omega)
  have sz14 : h12.size = h6.size := Wr.size W12
  have K15 := K9.wr W12 (Or.inl (List.mem_of_getElem? (i := 0) rfl))
  have N12 := Fr.snoc X12 N6 (show n0 ≤ xm by omega)
  have Fw12 := f10.same W12
  refine q_aloadN X12 hx hby d10_23 rfl rfl ?_
  show own_Goes p e below (T12.setTop (mkF m 24 #[vR xm, vR b2] [.ref b2])) _
  refine r_R X12 hx hby hret hlk d10_24 e12 ?_
  have f16 := (((P2.ext E2).keep Kc6 (ninS (nE xm b2 (by omega)) nin0)).other W12 (Or.inr (slot_ne (Or.inl (wh hw 76 rfl)) (Or.inl (wh hw 87 rfl)) (by decide) (t := .int) (t' := (.object "java/util/Collection")) (by decide) (by decide))))
  have f17 := (((P3.ext E2).keep Kc6 (ninS (nE xm b2 (by omega)) nin0)).other W12 (Or.inr (slot_ne (Or.inl (wh hw 125 rfl)) (Or.inl (wh hw 87 rfl)) (by decide) (t := .int) (t' := (.object "java/util/Collection")) (by decide) (by decide))))
  have f18 := (((P4.ext E2).keep Kc6 (ninS (nE xm b2 (by omega)) nin0)).other W12 (Or.inr (slot_ne (Or.inl (wh hw 259 rfl)) (Or.inl (wh hw 87 rfl)) (by decide) (t := .int) (t' := (.object "java/util/Collection")) (by decide) (by decide))))
  have f19 := (((P5.ext E2).keep Kc6 (ninS (nE xm b2 (by omega)) nin0)).other W12 (Or.inr (slot_ne (Or.inl (wh hw 129 rfl)) (Or.inl (wh hw 87 rfl)) (by decide) (t := (.array (.object "java/util/HashMap$Node"))) (t' := (.object "java/util/Collection")) (by decide) (by decide))))
  have f20 := ((A2.keep Kc6).wr W12)
  have f21 := (c6_0.other W12 (Or.inl (nE b2 xm (by omega))))
  exact ⟨N12, K15, b2, rfl, f16, f17, f18, f19, Fw12, f20, f21, (show h0.size ≤ b2 by first | assumption | omega | decide)⟩
theorem d14_0 : decode B14 0 = .ok (.aload_n 0, 1) := by decide +kernel
theorem d14_1 : decode B14 1 = .ok (.aload_n 1, 1) := by decide +kernel
theorem d14_2 : decode B14 2 = .ok (.putfield 1, 3) := by decide +kernel
theorem d14_5 : decode B14 5 = .ok (.aload_n 0, 1) := by decide +kernel
theorem d14_6 : decode B14 6 = .ok (.invokespecial 7, 3) := by decide +kernel
theorem d14_9 : decode B14 9 = .ok (.aload_n 0, 1) := by decide +kernel
theorem d14_10 : decode B14 10 = .ok (.aload_n 1, 1) := by decide +kernel
theorem d14_11 : decode B14 11 = .ok (.getfield 13, 3) := by decide +kernel
theorem d14_14 : decode B14 14 = .ok (.putfield 19, 3) := by decide +kernel
theorem d14_17 : decode B14 17 = .ok (.aload_n 1, 1) := by decide +kernel
theorem d14_18 : decode B14 18 = .ok (.getfield 22, 3) := by decide +kernel
theorem d14_21 : decode B14 21 = .ok (.astore_n 2, 1) := by decide +kernel
theorem d14_22 : decode B14 22 = .ok (.aload_n 0, 1) := by decide +kernel
theorem d14_23 : decode B14 23 = .ok (.aload_n 0, 1) := by decide +kernel
theorem d14_24 : decode B14 24 = .ok (.aconst_null, 1) := by decide +kernel
theorem d14_25 : decode B14 25 = .ok (.dup_x1, 1) := by decide +kernel
theorem d14_26 : decode B14 26 = .ok (.putfield 26, 3) := by decide +kernel
theorem d14_29 : decode B14 29 = .ok (.putfield 30, 3) := by decide +kernel
theorem d14_32 : decode B14 32 = .ok (.aload_n 0, 1) := by decide +kernel
theorem d14_33 : decode B14 33 = .ok (.iconst 0, 1) := by decide +kernel
theorem d14_34 : decode B14 34 = .ok (.putfield 33, 3) := by decide +kernel
theorem d14_37 : decode B14 37 = .ok (.aload_n 2, 1) := by decide +kernel
theorem d14_38 : decode B14 38 = .ok (.ifnull 40, 3) := by decide +kernel
theorem d14_78 : decode B14 78 = .ok (.return_, 1) := by decide +kernel
theorem own_pn_java_util_HashMap_HashIterator : plainName "java/util/HashMap$HashIterator" = true := by first | (simp [plainName, overriddenIn]; done) | decide +kernel
theorem own_ef_own_hiInit0 (m : MethodId) (xa : Addr) (xm : Addr) : entryFrame m #[.ref xa, .ref xm] 3 = mkF m 0 #[vR xa, vR xm, uS] [] := by first | (simp [entryFrame, mkF, argsToLocals, Value.category]; done) | rfl
def Q_own_hiInit0 (Z : State) (xa : Addr) (xm : Addr) (xq : Int32) (h0 : Heap) (n0 : Nat) (v : Option Value) (h : Heap) (L : List Loc) : Prop := Fr n0 L ∧ Keep h0 h [xa] ∧ v = none ∧ Fld Z h xa "java/util/HashMap$HashIterator" "this$0" "Ljava/util/HashMap;" (.ref xm) ∧ Fld Z h xa "java/util/HashMap$HashIterator" "expectedModCount" "I" (.int xq) ∧ Fld Z h xa "java/util/HashMap$HashIterator" "next" "Ljava/util/HashMap$Node;" .null ∧ Fld Z h xa "java/util/HashMap$HashIterator" "current" "Ljava/util/HashMap$Node;" .null ∧ Fld Z h xa "java/util/HashMap$HashIterator" "index" "I" (.int 0)
theorem own_hiInit0 (l : Launch) (Z : State) (a0 : Array Value) (hw : ∀ d ∈ tables_1, d.before a0 Z = true) (ws : List Jvm.Cond) (xa : Addr) (xm : Addr) (xq : Int32) (h0 : Heap) (n0 : Nat) (O0 : Old Z n0 h0) (P0 : Exa Z h0 xa "java/util/HashMap$ValueIterator") (P1 : n0 ≤ xa) (P2 : Fld Z h0 xa "java/util/HashMap$HashIterator" "this$0" "Ljava/util/HashMap;" .null) (P3 : Fld Z h0 xa "java/util/HashMap$HashIterator" "expectedModCount" "I" (.int 0)) (P4 : Fld Z h0 xa "java/util/HashMap$HashIterator" "next" "Ljava/util/HashMap$Node;" .null) (P5 : Fld Z h0 xa "java/util/HashMap$HashIterator" "current" "Ljava/util/HashMap$Node;" .null) (P6 : Fld Z h0 xa "java/util/HashMap$HashIterator" "index" "I" (.int 0)) (P7 : Fld Z h0 xm "java/util/HashMap" "size" "I" (.int 0)) (P8 : Fld Z h0 xm "java/util/HashMap" "modCount" "I" (.int xq)) (P9 : Fld Z h0 xm "java/util/HashMap" "table" "[Ljava/util/HashMap$Node;" .null) (P10 : @LT.lt Nat _ xm xa) : own_Met l Z (⟨"java/util/HashMap$HashIterator", "<init>", "(Ljava/util/HashMap;)V"⟩ : MethodName) jdk_99_method_1_code 3 none ws ({ frames := 1, cells := 0, slots := 0, locals := 12 } : Room) #[.ref xa, .ref xm] h0 (Q_own_hiInit0 Z xa xm xq h0 n0) := by
  refine own_mk (plainFor_of_name own_pn_java_util_HashMap_HashIterator) O0 ?_
  intro p e s m below meth c s₁ hx hby hml hZ hown hnm hlk hret X0 e0 N0 z0 z1
  have K0 : Keep h0 h0 [xa] := Keep.refl _ _
  refine own_cast (own_ef_own_hiInit0 m xa xm) ?_
  show own_Goes p e below (s₁.setTop (mkF m 0 #[vR xa, vR xm, uS] [])) _
  have ltP0 : @LT.lt Nat _ xa h0.size := P0.lt
  refine q_aloadN X0 hx hby d14_0 rfl rfl ?_
  refine q_aloadN X0 hx hby d14_1 rfl rfl ?_
  refine qP X0 hx hby hZ hown (host := "") (Or.inl (wh hw 121 rfl)) Via.refl e0 P2 P0 (Or.inr ⟨(wh hw 122 rfl), rfl, hnm⟩) (wh hw 109 rfl) (ty := (.object "java/util/HashMap")) d14_2 (fun T1 h1 X1 e1 W1 => ?_)
  have O2 := O0.wr W1 (show n0 ≤ xa by omega)
  have sz3 : h1.size = h0.size := Wr.size W1
  have K4 := K0.wr W1 (Or.inl (List.mem_of_getElem? (i := 0) rfl))
  have N1 := Fr.snoc X1 N0 (show n0 ≤ xa by omega)
  have Fw1 := P2.same W1
  refine q_aloadN X1 hx hby d14_5 rfl rfl ?_
  obtain ⟨T5, X5, e5, st5⟩ := initO X1 hx hZ hown (wh hw 123 rfl) (wh hw 19 rfl) (wh hw 20 rfl) e1 (g := (mkF m 6 #[vR xa, vR xm, uS] [.ref xa])) rfl (by rw [hml]; rfl) rfl (hb hby d14_6) (by decide) (W := 0) (by show 2 * 0 + _ ≤ _; exact Nat.le_of_eq rfl) (by decide)
  refine gg st5 ?_
  refine q_aloadN X5 hx hby d14_9 rfl rfl ?_
  refine q_aloadN X5 hx hby d14_10 rfl rfl ?_
  have f6 := (P8.other W1 (Or.inl (nE xm xa (by omega))))
  refine qG X5 hx hby hZ hown (wh hw 124 rfl) e5 f6 d14_11 (fun T7 X7 e7 => ?_)
  have f8 := (P3.other W1 (Or.inr (slot_ne (Or.inl (wh hw 127 rfl)) (Or.inr (wh hw 122 rfl)) (by decide) (t := .int) (t' := (.object "java/util/HashMap")) (by decide) (by decide))))
  have f9 := (P0.wr W1)
  refine qP X7 hx hby hZ hown (host := "") (Or.inl (wh hw 126 rfl)) Via.refl e7 f8 f9 (Or.inl (wh hw 127 rfl)) (wh hw 109 rfl) (ty := .int) d14_14 (fun T10 h10 X10 e10 W10 => ?_)
  have O11 := O2.wr W10 (show n0 ≤ xa by omega)
  have sz12 : h10.size = h1.size := Wr.size W10
  have K13 := K4.wr W10 (Or.inl (List.mem_of_getElem? (i := 0) rfl))
  have N10 := Fr.snoc X10 N1 (show n0 ≤ xa by omega)
  have Fw10 := f8.same W10
  refine q_aloadN X10 hx hby d14_17 rfl rfl ?_
  have f14 := ((P9.other W1 (Or.inl (nE xm xa (by omega)))).other W10 (Or.inl (nE xm xa (by omega))))
  refine qG X10 hx hby hZ hown (wh hw 128 rfl) e10 f14 d14_18 (fun T15 X15 e15 => ?_)
  refine q_astoreN X15 hx hby d14_21 rfl (l' := #[vR xa, vR xm, vN]) rfl ?_
  refine q_aloadN X15 hx hby d14_22 rfl rfl ?_
  refine q_aloadN X15 hx hby d14_23 rfl rfl ?_
  show own_Goes p e below (T15.setTop (mkF m 24 #[vR xa, vR xm, vN] [.ref xa, .ref xa])) _
  refine q_aconstNull X15 hx hby d14_24 ?_
  refine gg (fun t k => XS.dupX1 X15.here hx rfl (hb hby d14_25) rfl rfl rfl k) ?_
  have f16 := ((P4.other W1 (Or.inr (slot_ne (Or.inl (wh hw 131 rfl)) (Or.inr (wh hw 122 rfl)) (by decide) (t := (.object "java/util/HashMap$Node")) (t' := (.object "java/util/HashMap")) (by decide) (by decide)))).other W10 (Or.inr (slot_ne (Or.inl (wh hw 131 rfl)) (Or.inl (wh hw 127 rfl)) (by decide) (t := (.object "java/util/HashMap$Node")) (t' := .int) (by decide) (by decide))))
  have f17 := (f9.wr W10)
  refine qP X15 hx hby hZ hown (host := "") (Or.inl (wh hw 130 rfl)) Via.refl e15 f16 f17 (Or.inl (wh hw 131 rfl)) (wh hw 109 rfl) (ty := (.object "java/util/HashMap$Node")) d14_26 (fun T18 h18 X18 e18 W18 => ?_)
  have O19 := O11.wr W18 (show n0 ≤ xa by omega)
  have sz20 : h18.size = h10.size := Wr.size W18
  have K21 := K13.wr W18 (Or.inl (List.mem_of_getElem? (i := 0) rfl))
  have N18 := Fr.snoc X18 N10 (show n0 ≤ xa by omega)
  have Fw18 := f16.same W18
  have f22 := (((P5.other W1 (Or.inr (slot_ne (Or.inl (wh hw 133 rfl)) (Or.inr (wh hw 122 rfl)) (by decide) (t := (.object "java/util/HashMap$Node")) (t' := (.object "java/util/HashMap")) (by decide) (by decide)))).other W10 (Or.inr (slot_ne (Or.inl (wh hw 133 rfl)) (Or.inl (wh hw 127 rfl)) (by decide) (t := (.object "java/util/HashMap$Node")) (t' := .int) (by decide) (by decide)))).other W18 (Or.inr (slot_ne (Or.inl (wh hw 133 rfl)) (Or.inl (wh hw 131 rfl)) (by decide) (t := (.object "java/util/HashMap$Node")) (t' := (.object "java/util/HashMap$Node")) (by decide) (by decide))))
  have f23 := (f17.wr W18)
  refine qP X18 hx hby hZ hown (host := "") (Or.inl (wh hw 132 rfl)) Via.refl e18 f22 f23 (Or.inl (wh hw 133 rfl)) (wh hw 109 rfl) (ty := (.object "java/util/HashMap$Node")) d14_29 (fun T24 h24 X24 e24 W24 => ?_)
  have O25 := O19.wr W24 (show n0 ≤ xa by omega)
  have sz26 : h24.size = h18.size := Wr.size W24
  have K27 := K21.wr W24 (Or.inl (List.mem_of_getElem? (i := 0) rfl))
  have N24 := Fr.snoc X24 N18 (show n0 ≤ xa by omega)
  have Fw24 := f22.same W24
  refine q_aloadN X24 hx hby d14_32 rfl rfl ?_
  refine q_iconst X24 hx hby d14_33 ?_
  have f28 := ((((P6.other W1 (Or.inr (slot_ne (Or.inl (wh hw 135 rfl)) (Or.inr (wh hw 122 rfl)) (by decide) (t := .int) (t' := (.object "java/util/HashMap")) (by decide) (by decide)))).other W10 (Or.inr (slot_ne (Or.inl (wh hw 135 rfl)) (Or.inl (wh hw 127 rfl)) (by decide) (t := .int) (t' := .int) (by decide) (by decide)))).other W18 (Or.inr (slot_ne (Or.inl (wh hw 135 rfl)) (Or.inl (wh hw 131 rfl)) (by decide) (t := .int) (t' := (.object "java/util/HashMap$Node")) (by decide) (by decide)))).other W24 (Or.inr (slot_ne (Or.inl (wh hw 135 rfl)) (Or.inl (wh hw 133 rfl)) (by decide) (t := .int) (t' := (.object "java/util/HashMap$Node")) (by decide) (by decide))))
  have f29 := (f23.wr W24)
  refine qP X24 hx hby hZ hown (host := "") (Or.inl (wh hw 134 rfl)) Via.refl e24 f28 f29 (Or.inl (wh hw 135 rfl)) (wh hw 109 rfl) (ty := .int) d14_34 (fun T30 h30 X30 e30 W30 => ?_)
  have O31 := O25.wr W30 (show n0 ≤ xa by omega)
  have sz32 : h30.size = h24.size := Wr.size W30
  have K33 := K27.wr W30 (Or.inl (List.mem_of_getElem? (i := 0) rfl))
  have N30 := Fr.snoc X30 N24 (show n0 ≤ xa by omega)
  have Fw30 := f28.same W30
  refine q_aloadN X30 hx hby d14_37 rfl rfl ?_
  refine q_ifnullYes (pc := 38) X30 hx hby d14_38 (pc' := 78) (by decide) (by decide) ?_
  refine r_V X30 hx hby hret hlk d14_78 e30 ?_
  have f34 := ((((Fw1.other W10 (Or.inr (slot_ne (Or.inr (wh hw 122 rfl)) (Or.inl (wh hw 127 rfl)) (by decide) (t := (.object "java/util/HashMap")) (t' := .int) (by decide) (by decide)))).other W18 (Or.inr (slot_ne (Or.inr (wh hw 122 rfl)) (Or.inl (wh hw 131 rfl)) (by decide) (t := (.object "java/util/HashMap")) (t' := (.object "java/util/HashMap$Node")) (by decide) (by decide)))).other W24 (Or.inr (slot_ne (Or.inr (wh hw 122 rfl)) (Or.inl (wh hw 133 rfl)) (by decide) (t := (.object "java/util/HashMap")) (t' := (.object "java/util/HashMap$Node")) (by decide) (by decide)))).other W30 (Or.inr (slot_ne (Or.inr (wh hw 122 rfl)) (Or.inl (wh hw 135 rfl)) (by decide) (t := (.object "java/util/HashMap")) (t' := .int) (by decide) (by decide))))
  have f35 := (((Fw10.other W18 (Or.inr (slot_ne (Or.inl (wh hw 127 rfl)) (Or.inl (wh hw 131 rfl)) (by decide) (t := .int) (t' := (.object "java/util/HashMap$Node")) (by decide) (by decide)))).other W24 (Or.inr (slot_ne (Or.inl (wh hw 127 rfl)) (Or.inl (wh hw 133 rfl)) (by decide) (t := .int) (t' := (.object "java/util/HashMap$Node")) (by decide) (by decide)))).other W30 (Or.inr (slot_ne (Or.inl (wh hw 127 rfl)) (Or.inl (wh hw 135 rfl)) (by decide) (t := .int) (t' := .int) (by decide) (by decide))))
  have f36 := ((Fw18.other W24 (Or.inr (slot_ne (Or.inl (wh hw 131 rfl)) (Or.inl (wh hw 133 rfl)) (by decide) (t := (.object "java/util/HashMap$Node")) (t' := (.object "java/util/HashMap$Node")) (by decide) (by decide)))).other W30 (Or.inr (slot_ne (Or.inl (wh hw 131 rfl)) (Or.inl (wh hw 135 rfl)) (by decide) (t := (.object "java/util/HashMap$Node")) (t' := .int) (by decide) (by decide))))
  have f37 := (Fw24.other W30 (Or.inr (slot_ne (Or.inl (wh hw 133 rfl)) (Or.inl (wh hw 135 rfl)) (by decide) (t := (.object "java/util/HashMap$Node")) (t' := .int) (by decide) (by decide))))
  exact ⟨N30, K33, rfl, f34, f35, f36, f37, Fw30⟩
theorem d13_0 : decode B13 0 = .ok (.aload_n 0, 1) := by decide +kernel
theorem d13_1 : decode B13 1 = .ok (.aload_n 1, 1) := by decide +kernel
theorem d13_2 : decode B13 2 = .ok (.invokespecial 1, 3) := by decide +kernel
theorem d13_5 : decode B13 5 = .ok (.return_, 1) := by decide +kernel
theorem own_pn_java_util_HashMap_ValueIterator : plainName "java/util/HashMap$ValueIterator" = true := by first | (simp [plainName, overriddenIn]; done) | decide +kernel
theorem own_ef_own_viInit0 (m : MethodId) (xa : Addr) (xm : Addr) : entryFrame m #[.ref xa, .ref xm] 2 = mkF m 0 #[vR xa, vR xm] [] := by first | (simp [entryFrame, mkF, argsToLocals, Value.category]; done) | rfl
def Q_own_viInit0 (Z : State) (xa : Addr) (xm : Addr) (xq : Int32) (h0 : Heap) (n0 : Nat) (v : Option Value) (h : Heap) (L : List Loc) : Prop := Fr n0 L ∧ Keep h0 h [xa] ∧ v = none ∧ Fld Z h xa "java/util/HashMap$HashIterator" "this$0" "Ljava/util/HashMap;" (.ref xm) ∧ Fld Z h xa "java/util/HashMap$HashIterator" "expectedModCount" "I" (.int xq) ∧ Fld Z h xa "java/util/HashMap$HashIterator" "next" "Ljava/util/HashMap$Node;" .null ∧ Fld Z h xa "java/util/HashMap$HashIterator" "current" "Ljava/util/HashMap$Node;" .null ∧ Fld Z h xa "java/util/HashMap$HashIterator" "index" "I" (.int 0)
theorem own_viInit0 (l : Launch) (Z : State) (a0 : Array Value) (hw : ∀ d ∈ tables_1, d.before a0 Z = true) (ws : List Jvm.Cond) (xa : Addr) (xm : Addr) (xq : Int32) (h0 : Heap) (n0 : Nat) (O0 : Old Z n0 h0) (P0 : Exa Z h0 xa "java/util/HashMap$ValueIterator") (P1 : n0 ≤ xa) (P2 : Fld Z h0 xa "java/util/HashMap$HashIterator" "this$0" "Ljava/util/HashMap;" .null) (P3 : Fld Z h0 xa "java/util/HashMap$HashIterator" "expectedModCount" "I" (.int 0)) (P4 : Fld Z h0 xa "java/util/HashMap$HashIterator" "next" "Ljava/util/HashMap$Node;" .null) (P5 : Fld Z h0 xa "java/util/HashMap$HashIterator" "current" "Ljava/util/HashMap$Node;" .null) (P6 : Fld Z h0 xa "java/util/HashMap$HashIterator" "index" "I" (.int 0)) (P7 : Fld Z h0 xm "java/util/HashMap" "size" "I" (.int 0)) (P8 : Fld Z h0 xm "java/util/HashMap" "modCount" "I" (.int xq)) (P9 : Fld Z h0 xm "java/util/HashMap" "table" "[Ljava/util/HashMap$Node;" .null) (P10 : @LT.lt Nat _ xm xa) : own_Met l Z (⟨"java/util/HashMap$ValueIterator", "<init>", "(Ljava/util/HashMap;)V"⟩ : MethodName) jdk_2569_method_1_code 2 none ws ({ frames := 2, cells := 0, slots := 0, locals := 26 } : Room) #[.ref xa, .ref xm] h0 (Q_own_viInit0 Z xa xm xq h0 n0) := by
  refine own_mk (plainFor_of_name own_pn_java_util_HashMap_ValueIterator) O0 ?_
  intro p e s m below meth c s₁ hx hby hml hZ hown hnm hlk hret X0 e0 N0 z0 z1
  have K0 : Keep h0 h0 [xa] := Keep.refl _ _
  refine own_cast (own_ef_own_viInit0 m xa xm) ?_
  show own_Goes p e below (s₁.setTop (mkF m 0 #[vR xa, vR xm] [])) _
  have ltP0 : @LT.lt Nat _ xa h0.size := P0.lt
  refine q_aloadN X0 hx hby d13_0 rfl rfl ?_
  refine q_aloadN X0 hx hby d13_1 rfl rfl ?_
  refine k_N X0 hx hby hZ hown (wh hw 115 rfl) (wh hw 116 rfl) (W := 0) (own_hiInit0 l Z a0 hw [] xa xm xq h0 n0 O0 P0 (show n0 ≤ xa by first | assumption | omega | decide) P2 P3 P4 P5 P6 P7 P8 P9 (show @LT.lt Nat _ xm xa by first | assumption | omega | decide)) (wh hw 120 rfl) (wh hw 119 rfl) e0  hml (argsL := [.ref xm]) (rest := []) own_pd_13 d13_2 (fun _ T1 L1 X1 hQ1 => ?_)
  obtain ⟨h1, e1⟩ : ∃ z, T1.heap = z := ⟨_, rfl⟩
  rw [e1] at hQ1
  obtain ⟨Nc1, Kc1, rfl, c1_0, c1_1, c1_2, c1_3, c1_4⟩ := hQ1
  have N1 := Fr.app N0 Nc1
  have O2 := O0.keep Kc1 (allS (show n0 ≤ xa by omega) all0)
  have sz3 : h0.size ≤ h1.size := Kc1.1
  have K4 := Keep.trans K0 Kc1 (allS (Or.inl (List.mem_of_getElem? (i := 0) rfl)) all0)
  refine r_V X1 hx hby hret hlk d13_5 e1 ?_
  exact ⟨N1, K4, rfl, c1_0, c1_1, c1_2, c1_3, c1_4⟩
theorem d12_0 : decode B12 0 = .ok (.new 22, 3) := by decide +kernel
theorem d12_3 : decode B12 3 = .ok (.dup, 1) := by decide +kernel
theorem d12_4 : decode B12 4 = .ok (.aload_n 0, 1) := by decide +kernel
theorem d12_5 : decode B12 5 = .ok (.getfield 1, 3) := by decide +kernel
theorem d12_8 : decode B12 8 = .ok (.invokespecial 24, 3) := by decide +kernel
theorem d12_11 : decode B12 11 = .ok (.areturn, 1) := by decide +kernel
theorem own_ef_own_iter0 (m : MethodId) (xv : Addr) : entryFrame m #[.ref xv] 1 = mkF m 0 #[vR xv] [] := by first | (simp [entryFrame, mkF, argsToLocals, Value.category]; done) | rfl
def Q_own_iter0 (Z : State) (xv : Addr) (xm : Addr) (xq : Int32) (h0 : Heap) (n0 : Nat) (v : Option Value) (h : Heap) (L : List Loc) : Prop := Fr n0 L ∧ Keep h0 h [] ∧ ∃ (r : Addr), v = some (.ref r) ∧ Exa Z h r "java/util/HashMap$ValueIterator" ∧ Fld Z h r "java/util/HashMap$HashIterator" "this$0" "Ljava/util/HashMap;" (.ref xm) ∧ Fld Z h r "java/util/HashMap$HashIterator" "expectedModCount" "I" (.int xq) ∧ Fld Z h r "java/util/HashMap$HashIterator" "next" "Ljava/util/HashMap$Node;" .null ∧ Fld Z h r "java/util/HashMap$HashIterator" "current" "Ljava/util/HashMap$Node;" .null ∧ Fld Z h r "java/util/HashMap$HashIterator" "index" "I" (.int 0) ∧ h0.size ≤ r
theorem own_iter0 (l : Launch) (Z : State) (a0 : Array Value) (hw : ∀ d ∈ tables_1, d.before a0 Z = true) (ws : List Jvm.Cond) (xv : Addr) (xm : Addr) (xq : Int32) (h0 : Heap) (n0 : Nat) (O0 : Old Z n0 h0) (P0 : Fld Z h0 xv "java/util/HashMap$Values" "this$0" "Ljava/util/HashMap;" (.ref xm)) (P1 : Fld Z h0 xm "java/util/HashMap" "size" "I" (.int 0)) (P2 : Fld Z h0 xm "java/util/HashMap" "modCount" "I" (.int xq)) (P3 : Fld Z h0 xm "java/util/HashMap" "table" "[Ljava/util/HashMap$Node;" .null) (P4 : @LT.lt Nat _ xm h0.size) : own_Met l Z (⟨"java/util/HashMap$Values", "iterator", "()Ljava/util/Iterator;"⟩ : MethodName) jdk_2571_method_4_code 1 (some (.object "java/util/Iterator")) ws ({ frames := 3, cells := 1, slots := 5, locals := 40 } : Room) #[.ref xv] h0 (Q_own_iter0 Z xv xm xq h0 n0) := by
  refine own_mk (plainFor_of_name own_pn_java_util_HashMap_Values) O0 ?_
  intro p e s m below meth c s₁ hx hby hml hZ hown hnm hlk hret X0 e0 N0 z0 z1
  have K0 : Keep h0 h0 [] := Keep.refl _ _
  refine own_cast (own_ef_own_iter0 m xv) ?_
  show own_Goes p e below (s₁.setTop (mkF m 0 #[vR xv] [])) _
  obtain ⟨T1, h1, X1, e1, E1, A1, D1, -, st1⟩ := newO X0 hx hZ hown (wh hw 108 rfl) (wh hw 109 rfl) (wh hw 110 rfl) e0 (g := (mkF m 0 #[vR xv] [])) rfl (hb hby d12_0) (by decide) (by decide)
  obtain ⟨b1, g1⟩ : ∃ z, z = h0.size := ⟨_, rfl⟩
  rw [← g1] at A1 D1 st1
  refine gg st1 ?_
  have O2 := O0.ext E1
  have sz3 : h0.size ≤ h1.size := E1.1
  have K4 := K0.ext E1
  have l1 : @LT.lt Nat _ b1 h1.size := A1.lt
  have F1_this_0 : Fld Z h1 b1 "java/util/HashMap$HashIterator" "this$0" "Ljava/util/HashMap;" .null := D1 (Or.inr (wh hw 122 rfl)) (ty := (.object "java/util/HashMap")) (by decide)
  have F1_expectedModCount : Fld Z h1 b1 "java/util/HashMap$HashIterator" "expectedModCount" "I" (.int 0) := D1 (Or.inl (wh hw 127 rfl)) (ty := .int) (by decide)
  have F1_next : Fld Z h1 b1 "java/util/HashMap$HashIterator" "next" "Ljava/util/HashMap$Node;" .null := D1 (Or.inl (wh hw 131 rfl)) (ty := (.object "java/util/HashMap$Node")) (by decide)
  have F1_current : Fld Z h1 b1 "java/util/HashMap$HashIterator" "current" "Ljava/util/HashMap$Node;" .null := D1 (Or.inl (wh hw 133 rfl)) (ty := (.object "java/util/HashMap$Node")) (by decide)
  have F1_index : Fld Z h1 b1 "java/util/HashMap$HashIterator" "index" "I" (.int 0) := D1 (Or.inl (wh hw 135 rfl)) (ty := .int) (by decide)
  refine q_dup X1 hx hby d12_3 rfl ?_
  refine q_aloadN X1 hx hby d12_4 rfl rfl ?_
  have f5 := (P0.ext E1)
  refine qG X1 hx hby hZ hown (wh hw 95 rfl) e1 f5 d12_5 (fun T6 X6 e6 => ?_)
  have f7 := (P1.ext E1)
  have f8 := (P2.ext E1)
  have f9 := (P3.ext E1)
  refine k_N X6 hx hby hZ hown (wh hw 111 rfl) (wh hw 112 rfl) (W := 1) (own_viInit0 l Z a0 hw [] b1 xm xq h1 n0 O2 A1 (show n0 ≤ b1 by first | assumption | omega | decide) F1_this_0 F1_expectedModCount F1_next F1_current F1_index f7 f8 f9 (show @LT.lt Nat _ xm b1 by first | assumption | omega | decide)) (wh hw 114 rfl) (wh hw 110 rfl) e6  hml (argsL := [.ref xm]) (rest := [.ref b1]) own_pd_13 d12_8 (fun _ T10 L10 X10 hQ10 => ?_)
  obtain ⟨h10, e10⟩ : ∃ z, T10.heap = z := ⟨_, rfl⟩
  rw [e10] at hQ10
  obtain ⟨Nc10, Kc10, rfl, c10_0, c10_1, c10_2, c10_3, c10_4⟩ := hQ10
  have N10 := Fr.app N0 Nc10
  have O11 := O2.keep Kc10 (allS (show n0 ≤ b1 by omega) all0)
  have sz12 : h1.size ≤ h10.size := Kc10.1
  have K13 := Keep.trans K4 Kc10 (allS (Or.inr (show h0.size ≤ b1 by omega)) all0)
  refine r_R X10 hx hby hret hlk d12_11 e10 ?_
  have f14 := (A1.keep Kc10)
  exact ⟨N10, K13, b1, rfl, f14, c10_0, c10_1, c10_2, c10_3, c10_4, (show h0.size ≤ b1 by first | assumption | omega | decide)⟩
theorem d14_41 : decode B14 41 = .ok (.aload_n 1, 1) := by decide +kernel
theorem d14_42 : decode B14 42 = .ok (.getfield 36, 3) := by decide +kernel
theorem d14_45 : decode B14 45 = .ok (.ifCond .le 33, 3) := by decide +kernel
theorem d14_48 : decode B14 48 = .ok (.aload_n 0, 1) := by decide +kernel
theorem d14_49 : decode B14 49 = .ok (.getfield 33, 3) := by decide +kernel
theorem d14_52 : decode B14 52 = .ok (.aload_n 2, 1) := by decide +kernel
theorem d14_53 : decode B14 53 = .ok (.arraylength, 1) := by decide +kernel
theorem d14_54 : decode B14 54 = .ok (.if_icmp .ge 24, 3) := by decide +kernel
theorem d14_57 : decode B14 57 = .ok (.aload_n 0, 1) := by decide +kernel
theorem d14_58 : decode B14 58 = .ok (.aload_n 2, 1) := by decide +kernel
theorem d14_59 : decode B14 59 = .ok (.aload_n 0, 1) := by decide +kernel
theorem d14_60 : decode B14 60 = .ok (.dup, 1) := by decide +kernel
theorem d14_61 : decode B14 61 = .ok (.getfield 33, 3) := by decide +kernel
theorem d14_64 : decode B14 64 = .ok (.dup_x1, 1) := by decide +kernel
theorem d14_65 : decode B14 65 = .ok (.iconst 1, 1) := by decide +kernel
theorem d14_66 : decode B14 66 = .ok (.iadd, 1) := by decide +kernel
theorem d14_67 : decode B14 67 = .ok (.putfield 33, 3) := by decide +kernel
theorem d14_70 : decode B14 70 = .ok (.aaload, 1) := by decide +kernel
theorem d14_71 : decode B14 71 = .ok (.dup_x1, 1) := by decide +kernel
theorem d14_72 : decode B14 72 = .ok (.putfield 26, 3) := by decide +kernel
theorem d14_75 : decode B14 75 = .ok (.ifnull (-27), 3) := by decide +kernel
theorem own_ef_own_hiInit1 (m : MethodId) (xa : Addr) (xm : Addr) : entryFrame m #[.ref xa, .ref xm] 3 = mkF m 0 #[vR xa, vR xm, uS] [] := by first | (simp [entryFrame, mkF, argsToLocals, Value.category]; done) | rfl
def Q_own_hiInit1 (Z : State) (xa : Addr) (xm : Addr) (xq : Int32) (xs : Int32) (xt : Addr) (xk : ClassId) (x1 : Addr) (x2 : Value) (x3 : Value) (h0 : Heap) (n0 : Nat) (v : Option Value) (h : Heap) (L : List Loc) : Prop := Fr n0 L ∧ Keep h0 h [xa] ∧ v = none ∧ Fld Z h xa "java/util/HashMap$HashIterator" "this$0" "Ljava/util/HashMap;" (.ref xm) ∧ Fld Z h xa "java/util/HashMap$HashIterator" "expectedModCount" "I" (.int xq) ∧ Fld Z h xa "java/util/HashMap$HashIterator" "next" "Ljava/util/HashMap$Node;" (.ref x1) ∧ Fld Z h xa "java/util/HashMap$HashIterator" "current" "Ljava/util/HashMap$Node;" .null ∧ Fld Z h xa "java/util/HashMap$HashIterator" "index" "I" (.int 2)
theorem own_hiInit1 (l : Launch) (Z : State) (a0 : Array Value) (hw : ∀ d ∈ tables_1, d.before a0 Z = true) (ws : List Jvm.Cond) (xa : Addr) (xm : Addr) (xq : Int32) (xs : Int32) (xt : Addr) (xk : ClassId) (x1 : Addr) (x2 : Value) (x3 : Value) (h0 : Heap) (n0 : Nat) (O0 : Old Z n0 h0) (P0 : Exa Z h0 xa "java/util/HashMap$ValueIterator") (P1 : n0 ≤ xa) (P2 : Fld Z h0 xa "java/util/HashMap$HashIterator" "this$0" "Ljava/util/HashMap;" .null) (P3 : Fld Z h0 xa "java/util/HashMap$HashIterator" "expectedModCount" "I" (.int 0)) (P4 : Fld Z h0 xa "java/util/HashMap$HashIterator" "next" "Ljava/util/HashMap$Node;" .null) (P5 : Fld Z h0 xa "java/util/HashMap$HashIterator" "current" "Ljava/util/HashMap$Node;" .null) (P6 : Fld Z h0 xa "java/util/HashMap$HashIterator" "index" "I" (.int 0)) (P7 : Fld Z h0 xm "java/util/HashMap" "size" "I" (.int xs)) (P8 : Fld Z h0 xm "java/util/HashMap" "modCount" "I" (.int xq)) (P9 : Fld Z h0 xm "java/util/HashMap" "table" "[Ljava/util/HashMap$Node;" (.ref xt)) (P10 : Arv Z h0 xt xk (.object "java/util/HashMap$Node") (16 : Int32) [.null, .ref x1, x2, x3, .null, .null, .null, .null, .null, .null, .null, .null, .null, .null, .null, .null] .null) (P11 : (0 : Int32) < xs) (P12 : @LT.lt Nat _ xm xa) (P13 : @LT.lt Nat _ xt xa) : own_Met l Z (⟨"java/util/HashMap$HashIterator", "<init>", "(Ljava/util/HashMap;)V"⟩ : MethodName) jdk_99_method_1_code 3 none ws ({ frames := 1, cells := 0, slots := 0, locals := 12 } : Room) #[.ref xa, .ref xm] h0 (Q_own_hiInit1 Z xa xm xq xs xt xk x1 x2 x3 h0 n0) := by
  refine own_mk (plainFor_of_name own_pn_java_util_HashMap_HashIterator) O0 ?_
  intro p e s m below meth c s₁ hx hby hml hZ hown hnm hlk hret X0 e0 N0 z0 z1
  have K0 : Keep h0 h0 [xa] := Keep.refl _ _
  refine own_cast (own_ef_own_hiInit1 m xa xm) ?_
  show own_Goes p e below (s₁.setTop (mkF m 0 #[vR xa, vR xm, uS] [])) _
  have ltP0 : @LT.lt Nat _ xa h0.size := P0.lt
  have ltP10 : @LT.lt Nat _ xt h0.size := P10.lt
  refine q_aloadN X0 hx hby d14_0 rfl rfl ?_
  refine q_aloadN X0 hx hby d14_1 rfl rfl ?_
  refine qP X0 hx hby hZ hown (host := "") (Or.inl (wh hw 121 rfl)) Via.refl e0 P2 P0 (Or.inr ⟨(wh hw 122 rfl), rfl, hnm⟩) (wh hw 109 rfl) (ty := (.object "java/util/HashMap")) d14_2 (fun T1 h1 X1 e1 W1 => ?_)
  have O2 := O0.wr W1 (show n0 ≤ xa by omega)
  have sz3 : h1.size = h0.size := Wr.size W1
  have K4 := K0.wr W1 (Or.inl (List.mem_of_getElem? (i := 0) rfl))
  have N1 := Fr.snoc X1 N0 (show n0 ≤ xa by omega)
  have Fw1 := P2.same W1
  refine q_aloadN X1 hx hby d14_5 rfl rfl ?_
  obtain ⟨T5, X5, e5, st5⟩ := initO X1 hx hZ hown (wh hw 123 rfl) (wh hw 19 rfl) (wh hw 20 rfl) e1 (g := (mkF m 6 #[vR xa, vR xm, uS] [.ref xa])) rfl (by rw [hml]; rfl) rfl (hb hby d14_6) (by decide) (W := 0) (by show 2 * 0 + _ ≤ _; exact Nat.le_of_eq rfl) (by decide)
  refine gg st5 ?_
  refine q_aloadN X5 hx hby d14_9 rfl rfl ?_
  refine q_aloadN X5 hx hby d14_10 rfl rfl ?_
  have f6 := (P8.other W1 (Or.inl (nE xm xa (by omega))))
  refine qG X5 hx hby hZ hown (wh hw 124 rfl) e5 f6 d14_11 (fun T7 X7 e7 => ?_)
  have f8 := (P3.other W1 (Or.inr (slot_ne (Or.inl (wh hw 127 rfl)) (Or.inr (wh hw 122 rfl)) (by decide) (t := .int) (t' := (.object "java/util/HashMap")) (by decide) (by decide))))
  have f9 := (P0.wr W1)
  refine qP X7 hx hby hZ hown (host := "") (Or.inl (wh hw 126 rfl)) Via.refl e7 f8 f9 (Or.inl (wh hw 127 rfl)) (wh hw 109 rfl) (ty := .int) d14_14 (fun T10 h10 X10 e10 W10 => ?_)
  have O11 := O2.wr W10 (show n0 ≤ xa by omega)
  have sz12 : h10.size = h1.size := Wr.size W10
  have K13 := K4.wr W10 (Or.inl (List.mem_of_getElem? (i := 0) rfl))
  have N10 := Fr.snoc X10 N1 (show n0 ≤ xa by omega)
  have Fw10 := f8.same W10
  refine q_aloadN X10 hx hby d14_17 rfl rfl ?_
  have f14 := ((P9.other W1 (Or.inl (nE xm xa (by omega)))).other W10 (Or.inl (nE xm xa (by omega))))
  refine qG X10 hx hby hZ hown (wh hw 128 rfl) e10 f14 d14_18 (fun T15 X15 e15 => ?_)
  refine q_astoreN X15 hx hby d14_21 rfl (l' := #[vR xa, vR xm, vR xt]) rfl ?_
  refine q_aloadN X15 hx hby d14_22 rfl rfl ?_
  refine q_aloadN X15 hx hby d14_23 rfl rfl ?_
  show own_Goes p e below (T15.setTop (mkF m 24 #[vR xa, vR xm, vR xt] [.ref xa, .ref xa])) _
  refine q_aconstNull X15 hx hby d14_24 ?_
  refine gg (fun t k => XS.dupX1 X15.here hx rfl (hb hby d14_25) rfl rfl rfl k) ?_
  have f16 := ((P4.other W1 (Or.inr (slot_ne (Or.inl (wh hw 131 rfl)) (Or.inr (wh hw 122 rfl)) (by decide) (t := (.object "java/util/HashMap$Node")) (t' := (.object "java/util/HashMap")) (by decide) (by decide)))).other W10 (Or.inr (slot_ne (Or.inl (wh hw 131 rfl)) (Or.inl (wh hw 127 rfl)) (by decide) (t := (.object "java/util/HashMap$Node")) (t' := .int) (by decide) (by decide))))
  have f17 := (f9.wr W10)
  refine qP X15 hx hby hZ hown (host := "") (Or.inl (wh hw 130 rfl)) Via.refl e15 f16 f17 (Or.inl (wh hw 131 rfl)) (wh hw 109 rfl) (ty := (.object "java/util/HashMap$Node")) d14_26 (fun T18 h18 X18 e18 W18 => ?_)
  have O19 := O11.wr W18 (show n0 ≤ xa by omega)
  have sz20 : h18.size = h10.size := Wr.size W18
  have K21 := K13.wr W18 (Or.inl (List.mem_of_getElem? (i := 0) rfl))
  have N18 := Fr.snoc X18 N10 (show n0 ≤ xa by omega)
  have Fw18 := f16.same W18
  have f22 := (((P5.other W1 (Or.inr (slot_ne (Or.inl (wh hw 133 rfl)) (Or.inr (wh hw 122 rfl)) (by decide) (t := (.object "java/util/HashMap$Node")) (t' := (.object "java/util/HashMap")) (by decide) (by decide)))).other W10 (Or.inr (slot_ne (Or.inl (wh hw 133 rfl)) (Or.inl (wh hw 127 rfl)) (by decide) (t := (.object "java/util/HashMap$Node")) (t' := .int) (by decide) (by decide)))).other W18 (Or.inr (slot_ne (Or.inl (wh hw 133 rfl)) (Or.inl (wh hw 131 rfl)) (by decide) (t := (.object "java/util/HashMap$Node")) (t' := (.object "java/util/HashMap$Node")) (by decide) (by decide))))
  have f23 := (f17.wr W18)
  refine qP X18 hx hby hZ hown (host := "") (Or.inl (wh hw 132 rfl)) Via.refl e18 f22 f23 (Or.inl (wh hw 133 rfl)) (wh hw 109 rfl) (ty := (.object "java/util/HashMap$Node")) d14_29 (fun T24 h24 X24 e24 W24 => ?_)
  have O25 := O19.wr W24 (show n0 ≤ xa by omega)
  have sz26 : h24.size = h18.size := Wr.size W24
  have K27 := K21.wr W24 (Or.inl (List.mem_of_getElem? (i := 0) rfl))
  have N24 := Fr.snoc X24 N18 (show n0 ≤ xa by omega)
  have Fw24 := f22.same W24
  refine q_aloadN X24 hx hby d14_32 rfl rfl ?_
  refine q_iconst X24 hx hby d14_33 ?_
  have f28 := ((((P6.other W1 (Or.inr (slot_ne (Or.inl (wh hw 135 rfl)) (Or.inr (wh hw 122 rfl)) (by decide) (t := .int) (t' := (.object "java/util/HashMap")) (by decide) (by decide)))).other W10 (Or.inr (slot_ne (Or.inl (wh hw 135 rfl)) (Or.inl (wh hw 127 rfl)) (by decide) (t := .int) (t' := .int) (by decide) (by decide)))).other W18 (Or.inr (slot_ne (Or.inl (wh hw 135 rfl)) (Or.inl (wh hw 131 rfl)) (by decide) (t := .int) (t' := (.object "java/util/HashMap$Node")) (by decide) (by decide)))).other W24 (Or.inr (slot_ne (Or.inl (wh hw 135 rfl)) (Or.inl (wh hw 133 rfl)) (by decide) (t := .int) (t' := (.object "java/util/HashMap$Node")) (by decide) (by decide))))
  have f29 := (f23.wr W24)
  refine qP X24 hx hby hZ hown (host := "") (Or.inl (wh hw 134 rfl)) Via.refl e24 f28 f29 (Or.inl (wh hw 135 rfl)) (wh hw 109 rfl) (ty := .int) d14_34 (fun T30 h30 X30 e30 W30 => ?_)
  have O31 := O25.wr W30 (show n0 ≤ xa by omega)
  have sz32 : h30.size = h24.size := Wr.size W30
  have K33 := K27.wr W30 (Or.inl (List.mem_of_getElem? (i := 0) rfl))
  have N30 := Fr.snoc X30 N24 (show n0 ≤ xa by omega)
  have Fw30 := f28.same W30
  refine q_aloadN X30 hx hby d14_37 rfl rfl ?_
  refine q_ifnullNo X30 hx hby d14_38 ?_
  refine q_aloadN X30 hx hby d14_41 rfl rfl ?_
  have f34 := (((((P7.other W1 (Or.inl (nE xm xa (by omega)))).other W10 (Or.inl (nE xm xa (by omega)))).other W18 (Or.inl (nE xm xa (by omega)))).other W24 (Or.inl (nE xm xa (by omega)))).other W30 (Or.inl (nE xm xa (by omega))))
  refine qG X30 hx hby hZ hown (wh hw 288 rfl) e30 f34 d14_42 (fun T35 X35 e35 => ?_)
  refine q_ifNo X35 hx hby d14_45 ((if0 _ _).trans (tlt (show ((0 : Int32) < xs) from P11)).2.2.2) ?_
  refine q_aloadN X35 hx hby d14_48 rfl rfl ?_
  refine qG X35 hx hby hZ hown (wh hw 134 rfl) e35 Fw30 d14_49 (fun T36 X36 e36 => ?_)
  show own_Goes p e below (T36.setTop (mkF m 52 #[vR xa, vR xm, vR xt] [.int 0])) _
  refine q_aloadN X36 hx hby d14_52 rfl rfl ?_
  have f37 := (((((P10.other W1 (nE xt xa (by omega))).other W10 (nE xt xa (by omega))).other W18 (nE xt xa (by omega))).other W24 (nE xt xa (by omega))).other W30 (nE xt xa (by omega)))
  refine q_len X36 hx hby hZ e36 f37 d14_53 ?_
  refine q_icmpNo X36 hx hby d14_54 (tlt (show ((0 : Int32) < (16 : Int32)) from by decide)).2.1 ?_
  refine q_aloadN X36 hx hby d14_57 rfl rfl ?_
  refine q_aloadN X36 hx hby d14_58 rfl rfl ?_
  refine q_aloadN X36 hx hby d14_59 rfl rfl ?_
  refine q_dup X36 hx hby d14_60 rfl ?_
  refine qG X36 hx hby hZ hown (wh hw 134 rfl) e36 Fw30 d14_61 (fun T39 X39 e39 => ?_)
  refine gg (fun t k => XS.dupX1 X39.here hx rfl (hb hby d14_64) rfl rfl rfl k) ?_
  refine q_iconst X39 hx hby d14_65 ?_
  refine q_iadd X39 hx hby d14_66 ?_
  show own_Goes p e below (T39.setTop (mkF m 67 #[vR xa, vR xm, vR xt] [(.int ((0 : Int32) + (1 : Int32))), .ref xa, .int 0, .ref xt, .ref xa])) _
  rw [show ((0 : Int32) + (1 : Int32)) = (1 : Int32) from by decide]
  have f40 := (f29.wr W30)
  refine qP X39 hx hby hZ hown (host := "") (Or.inl (wh hw 134 rfl)) Via.refl e39 Fw30 f40 (Or.inl (wh hw 135 rfl)) (wh hw 109 rfl) (ty := .int) d14_67 (fun T41 h41 X41 e41 W41 => ?_)
  have O42 := O31.wr W41 (show n0 ≤ xa by omega)
  have sz43 : h41.size = h30.size := Wr.size W41
  have K44 := K33.wr W41 (Or.inl (List.mem_of_getElem? (i := 0) rfl))
  have N41 := Fr.snoc X41 N30 (show n0 ≤ xa by omega)
  have Fw41 := Fw30.same W41
  have f45 := (f37.other W41 (nE xt xa (by omega)))
  refine q_aaload X41 hx hby hZ e41 f45 d14_70 .null ?_
  refine gg (fun t k => XS.dupX1 X41.here hx rfl (hb hby d14_71) rfl rfl rfl k) ?_
  have f47 := (((Fw18.other W24 (Or.inr (slot_ne (Or.inl (wh hw 131 rfl)) (Or.inl (wh hw 133 rfl)) (by decide) (t := (.object "java/util/HashMap$Node")) (t' := (.object "java/util/HashMap$Node")) (by decide) (by decide)))).other W30 (Or.inr (slot_ne (Or.inl (wh hw 131 rfl)) (Or.inl (wh hw 135 rfl)) (by decide) (t := (.object "java/util/HashMap$Node")) (t' := .int) (by decide) (by decide)))).other W41 (Or.inr (slot_ne (Or.inl (wh hw 131 rfl)) (Or.inl (wh hw 135 rfl)) (by decide) (t := (.object "java/util/HashMap$Node")) (t' := .int) (by decide) (by decide))))
  have f48 := (f40.wr W41)
  refine qP X41 hx hby hZ hown (host := "") (Or.inl (wh hw 130 rfl)) Via.refl e41 f47 f48 (Or.inl (wh hw 131 rfl)) (wh hw 109 rfl) (ty := (.object "java/util/HashMap$Node")) d14_72 (fun T49 h49 X49 e49 W49 => ?_)
  have O50 := O42.wr W49 (show n0 ≤ xa by omega)
  have sz51 : h49.size = h41.size := Wr.size W49
  have K52 := K44.wr W49 (Or.inl (List.mem_of_getElem? (i := 0) rfl))
  have N49 := Fr.snoc X49 N41 (show n0 ≤ xa by omega)
  have Fw49 := f47.same W49
  refine q_ifnullYes (pc := 75) X49 hx hby d14_75 (pc' := 48) (by decide) (by decide) ?_
  refine q_aloadN X49 hx hby d14_48 rfl rfl ?_
  have f53 := (Fw41.other W49 (Or.inr (slot_ne (Or.inl (wh hw 135 rfl)) (Or.inl (wh hw 131 rfl)) (by decide) (t := .int) (t' := (.object "java/util/HashMap$Node")) (by decide) (by decide))))
  refine qG X49 hx hby hZ hown (wh hw 134 rfl) e49 f53 d14_49 (fun T54 X54 e54 => ?_)
  refine q_aloadN X54 hx hby d14_52 rfl rfl ?_
  have f55 := (f45.other W49 (nE xt xa (by omega)))
  refine q_len X54 hx hby hZ e54 f55 d14_53 ?_
  refine q_icmpNo X54 hx hby d14_54 (tlt (show ((1 : Int32) < (16 : Int32)) from by decide)).2.1 ?_
  refine q_aloadN X54 hx hby d14_57 rfl rfl ?_
  refine q_aloadN X54 hx hby d14_58 rfl rfl ?_
  refine q_aloadN X54 hx hby d14_59 rfl rfl ?_
  refine q_dup X54 hx hby d14_60 rfl ?_
  show own_Goes p e below (T54.setTop (mkF m 61 #[vR xa, vR xm, vR xt] [.ref xa, .ref xa, .ref xt, .ref xa])) _
  refine qG X54 hx hby hZ hown (wh hw 134 rfl) e54 f53 d14_61 (fun T57 X57 e57 => ?_)
  refine gg (fun t k => XS.dupX1 X57.here hx rfl (hb hby d14_64) rfl rfl rfl k) ?_
  refine q_iconst X57 hx hby d14_65 ?_
  refine q_iadd X57 hx hby d14_66 ?_
  show own_Goes p e below (T57.setTop (mkF m 67 #[vR xa, vR xm, vR xt] [(.int ((1 : Int32) + (1 : Int32))), .ref xa, .int 1, .ref xt, .ref xa])) _
  rw [show ((1 : Int32) + (1 : Int32)) = (2 : Int32) from by decide]
  have f58 := (f48.wr W49)
  refine qP X57 hx hby hZ hown (host := "") (Or.inl (wh hw 134 rfl)) Via.refl e57 f53 f58 (Or.inl (wh hw 135 rfl)) (wh hw 109 rfl) (ty := .int) d14_67 (fun T59 h59 X59 e59 W59 => ?_)
  have O60 := O50.wr W59 (show n0 ≤ xa by omega)
  have sz61 : h59.size = h49.size := Wr.size W59
  have K62 := K52.wr W59 (Or.inl (List.mem_of_getElem? (i := 0) rfl))
  have N59 := Fr.snoc X59 N49 (show n0 ≤ xa by omega)
  have Fw59 := f53.same W59
  have f63 := (f55.other W59 (nE xt xa (by omega)))
  refine q_aaload X59 hx hby hZ e59 f63 d14_70 (.ref x1) ?_
  refine gg (fun t k => XS.dupX1 X59.here hx rfl (hb hby d14_71) rfl rfl rfl k) ?_
  have f65 := (Fw49.other W59 (Or.inr (slot_ne (Or.inl (wh hw 131 rfl)) (Or.inl (wh hw 135 rfl)) (by decide) (t := (.object "java/util/HashMap$Node")) (t' := .int) (by decide) (by decide))))
  have f66 := (f58.wr W59)
  refine qP X59 hx hby hZ hown (host := "") (Or.inl (wh hw 130 rfl)) Via.refl e59 f65 f66 (Or.inl (wh hw 131 rfl)) (wh hw 109 rfl) (ty := (.object "java/util/HashMap$Node")) d14_72 (fun T67 h67 X67 e67 W67 => ?_)
  have O68 := O60.wr W67 (show n0 ≤ xa by omega)
  have sz69 : h67.size = h59.size := Wr.size W67
  have K70 := K62.wr W67 (Or.inl (List.mem_of_getElem? (i := 0) rfl))
  have N67 := Fr.snoc X67 N59 (show n0 ≤ xa by omega)
  have Fw67 := f65.same W67
  refine q_ifnullNo X67 hx hby d14_75 ?_
  refine r_V X67 hx hby hret hlk d14_78 e67 ?_
  have f71 := ((((((((Fw1.other W10 (Or.inr (slot_ne (Or.inr (wh hw 122 rfl)) (Or.inl (wh hw 127 rfl)) (by decide) (t := (.object "java/util/HashMap")) (t' := .int) (by decide) (by decide)))).other W18 (Or.inr (slot_ne (Or.inr (wh hw 122 rfl)) (Or.inl (wh hw 131 rfl)) (by decide) (t := (.object "java/util/HashMap")) (t' := (.object "java/util/HashMap$Node")) (by decide) (by decide)))).other W24 (Or.inr (slot_ne (Or.inr (wh hw 122 rfl)) (Or.inl (wh hw 133 rfl)) (by decide) (t := (.object "java/util/HashMap")) (t' := (.object "java/util/HashMap$Node")) (by decide) (by decide)))).other W30 (Or.inr (slot_ne (Or.inr (wh hw 122 rfl)) (Or.inl (wh hw 135 rfl)) (by decide) (t := (.object "java/util/HashMap")) (t' := .int) (by decide) (by decide)))).other W41 (Or.inr (slot_ne (Or.inr (wh hw 122 rfl)) (Or.inl (wh hw 135 rfl)) (by decide) (t := (.object "java/util/HashMap")) (t' := .int) (by decide) (by decide)))).other W49 (Or.inr (slot_ne (Or.inr (wh hw 122 rfl)) (Or.inl (wh hw 131 rfl)) (by decide) (t := (.object "java/util/HashMap")) (t' := (.object "java/util/HashMap$Node")) (by decide) (by decide)))).other W59 (Or.inr (slot_ne (Or.inr (wh hw 122 rfl)) (Or.inl (wh hw 135 rfl)) (by decide) (t := (.object "java/util/HashMap")) (t' := .int) (by decide) (by decide)))).other W67 (Or.inr (slot_ne (Or.inr (wh hw 122 rfl)) (Or.inl (wh hw 131 rfl)) (by decide) (t := (.object "java/util/HashMap")) (t' := (.object "java/util/HashMap$Node")) (by decide) (by decide))))
  have f72 := (((((((Fw10.other W18 (Or.inr (slot_ne (Or.inl (wh hw 127 rfl)) (Or.inl (wh hw 131 rfl)) (by decide) (t := .int) (t' := (.object "java/util/HashMap$Node")) (by decide) (by decide)))).other W24 (Or.inr (slot_ne (Or.inl (wh hw 127 rfl)) (Or.inl (wh hw 133 rfl)) (by decide) (t := .int) (t' := (.object "java/util/HashMap$Node")) (by decide) (by decide)))).other W30 (Or.inr (slot_ne (Or.inl (wh hw 127 rfl)) (Or.inl (wh hw 135 rfl)) (by decide) (t := .int) (t' := .int) (by decide) (by decide)))).other W41 (Or.inr (slot_ne (Or.inl (wh hw 127 rfl)) (Or.inl (wh hw 135 rfl)) (by decide) (t := .int) (t' := .int) (by decide) (by decide)))).other W49 (Or.inr (slot_ne (Or.inl (wh hw 127 rfl)) (Or.inl (wh hw 131 rfl)) (by decide) (t := .int) (t' := (.object "java/util/HashMap$Node")) (by decide) (by decide)))).other W59 (Or.inr (slot_ne (Or.inl (wh hw 127 rfl)) (Or.inl (wh hw 135 rfl)) (by decide) (t := .int) (t' := .int) (by decide) (by decide)))).other W67 (Or.inr (slot_ne (Or.inl (wh hw 127 rfl)) (Or.inl (wh hw 131 rfl)) (by decide) (t := .int) (t' := (.object "java/util/HashMap$Node")) (by decide) (by decide))))
  have f73 := (((((Fw24.other W30 (Or.inr (slot_ne (Or.inl (wh hw 133 rfl)) (Or.inl (wh hw 135 rfl)) (by decide) (t := (.object "java/util/HashMap$Node")) (t' := .int) (by decide) (by decide)))).other W41 (Or.inr (slot_ne (Or.inl (wh hw 133 rfl)) (Or.inl (wh hw 135 rfl)) (by decide) (t := (.object "java/util/HashMap$Node")) (t' := .int) (by decide) (by decide)))).other W49 (Or.inr (slot_ne (Or.inl (wh hw 133 rfl)) (Or.inl (wh hw 131 rfl)) (by decide) (t := (.object "java/util/HashMap$Node")) (t' := (.object "java/util/HashMap$Node")) (by decide) (by decide)))).other W59 (Or.inr (slot_ne (Or.inl (wh hw 133 rfl)) (Or.inl (wh hw 135 rfl)) (by decide) (t := (.object "java/util/HashMap$Node")) (t' := .int) (by decide) (by decide)))).other W67 (Or.inr (slot_ne (Or.inl (wh hw 133 rfl)) (Or.inl (wh hw 131 rfl)) (by decide) (t := (.object "java/util/HashMap$Node")) (t' := (.object "java/util/HashMap$Node")) (by decide) (by decide))))
  have f74 := (Fw59.other W67 (Or.inr (slot_ne (Or.inl (wh hw 135 rfl)) (Or.inl (wh hw 131 rfl)) (by decide) (t := .int) (t' := (.object "java/util/HashMap$Node")) (by decide) (by decide))))
  exact ⟨N67, K70, rfl, f71, f72, Fw67, f73, f74⟩
theorem own_ef_own_viInit1 (m : MethodId) (xa : Addr) (xm : Addr) : entryFrame m #[.ref xa, .ref xm] 2 = mkF m 0 #[vR xa, vR xm] [] := by first | (simp [entryFrame, mkF, argsToLocals, Value.category]; done) | rfl
def Q_own_viInit1 (Z : State) (xa : Addr) (xm : Addr) (xq : Int32) (xs : Int32) (xt : Addr) (xk : ClassId) (x1 : Addr) (x2 : Value) (x3 : Value) (h0 : Heap) (n0 : Nat) (v : Option Value) (h : Heap) (L : List Loc) : Prop := Fr n0 L ∧ Keep h0 h [xa] ∧ v = none ∧ Fld Z h xa "java/util/HashMap$HashIterator" "this$0" "Ljava/util/HashMap;" (.ref xm) ∧ Fld Z h xa "java/util/HashMap$HashIterator" "expectedModCount" "I" (.int xq) ∧ Fld Z h xa "java/util/HashMap$HashIterator" "next" "Ljava/util/HashMap$Node;" (.ref x1) ∧ Fld Z h xa "java/util/HashMap$HashIterator" "current" "Ljava/util/HashMap$Node;" .null ∧ Fld Z h xa "java/util/HashMap$HashIterator" "index" "I" (.int 2)
theorem own_viInit1 (l : Launch) (Z : State) (a0 : Array Value) (hw : ∀ d ∈ tables_1, d.before a0 Z = true) (ws : List Jvm.Cond) (xa : Addr) (xm : Addr) (xq : Int32) (xs : Int32) (xt : Addr) (xk : ClassId) (x1 : Addr) (x2 : Value) (x3 : Value) (h0 : Heap) (n0 : Nat) (O0 : Old Z n0 h0) (P0 : Exa Z h0 xa "java/util/HashMap$ValueIterator") (P1 : n0 ≤ xa) (P2 : Fld Z h0 xa "java/util/HashMap$HashIterator" "this$0" "Ljava/util/HashMap;" .null) (P3 : Fld Z h0 xa "java/util/HashMap$HashIterator" "expectedModCount" "I" (.int 0)) (P4 : Fld Z h0 xa "java/util/HashMap$HashIterator" "next" "Ljava/util/HashMap$Node;" .null) (P5 : Fld Z h0 xa "java/util/HashMap$HashIterator" "current" "Ljava/util/HashMap$Node;" .null) (P6 : Fld Z h0 xa "java/util/HashMap$HashIterator" "index" "I" (.int 0)) (P7 : Fld Z h0 xm "java/util/HashMap" "size" "I" (.int xs)) (P8 : Fld Z h0 xm "java/util/HashMap" "modCount" "I" (.int xq)) (P9 : Fld Z h0 xm "java/util/HashMap" "table" "[Ljava/util/HashMap$Node;" (.ref xt)) (P10 : Arv Z h0 xt xk (.object "java/util/HashMap$Node") (16 : Int32) [.null, .ref x1, x2, x3, .null, .null, .null, .null, .null, .null, .null, .null, .null, .null, .null, .null] .null) (P11 : (0 : Int32) < xs) (P12 : @LT.lt Nat _ xm xa) (P13 : @LT.lt Nat _ xt xa) : own_Met l Z (⟨"java/util/HashMap$ValueIterator", "<init>", "(Ljava/util/HashMap;)V"⟩ : MethodName) jdk_2569_method_1_code 2 none ws ({ frames := 2, cells := 0, slots := 0, locals := 26 } : Room) #[.ref xa, .ref xm] h0 (Q_own_viInit1 Z xa xm xq xs xt xk x1 x2 x3 h0 n0) := by
  refine own_mk (plainFor_of_name own_pn_java_util_HashMap_ValueIterator) O0 ?_
  intro p e s m below meth c s₁ hx hby hml hZ hown hnm hlk hret X0 e0 N0 z0 z1
  have K0 : Keep h0 h0 [xa] := Keep.refl _ _
  refine own_cast (own_ef_own_viInit1 m xa xm) ?_
  show own_Goes p e below (s₁.setTop (mkF m 0 #[vR xa, vR xm] [])) _
  have ltP0 : @LT.lt Nat _ xa h0.size := P0.lt
  have ltP10 : @LT.lt Nat _ xt h0.size := P10.lt
  refine q_aloadN X0 hx hby d13_0 rfl rfl ?_
  refine q_aloadN X0 hx hby d13_1 rfl rfl ?_
  refine k_N X0 hx hby hZ hown (wh hw 115 rfl) (wh hw 116 rfl) (W := 0) (own_hiInit1 l Z a0 hw [] xa xm xq xs xt xk x1 x2 x3 h0 n0 O0 P0 (show n0 ≤ xa by first | assumption | omega | decide) P2 P3 P4 P5 P6 P7 P8 P9 P10 (show (0 : Int32) < xs by first | assumption | omega | decide) (show @LT.lt Nat _ xm xa by first | assumption | omega | decide) (show @LT.lt Nat _ xt xa by first | assumption | omega | decide)) (wh hw 120 rfl) (wh hw 119 rfl) e0  hml (argsL := [.ref xm]) (rest := []) own_pd_13 d13_2 (fun _ T1 L1 X1 hQ1 => ?_)
  obtain ⟨h1, e1⟩ : ∃ z, T1.heap = z := ⟨_, rfl⟩
  rw [e1] at hQ1
  obtain ⟨Nc1, Kc1, rfl, c1_0, c1_1, c1_2, c1_3, c1_4⟩ := hQ1
  have N1 := Fr.app N0 Nc1
  have O2 := O0.keep Kc1 (allS (show n0 ≤ xa by omega) all0)
  have sz3 : h0.size ≤ h1.size := Kc1.1
  have K4 := Keep.trans K0 Kc1 (allS (Or.inl (List.mem_of_getElem? (i := 0) rfl)) all0)
  refine r_V X1 hx hby hret hlk d13_5 e1 ?_
  exact ⟨N1, K4, rfl, c1_0, c1_1, c1_2, c1_3, c1_4⟩
theorem own_ef_own_iter1 (m : MethodId) (xv : Addr) : entryFrame m #[.ref xv] 1 = mkF m 0 #[vR xv] [] := by first | (simp [entryFrame, mkF, argsToLocals, Value.category]; done) | rfl
def Q_own_iter1 (Z : State) (xv : Addr) (xm : Addr) (xq : Int32) (xs : Int32) (xt : Addr) (xk : ClassId) (x1 : Addr) (x2 : Value) (x3 : Value) (h0 : Heap) (n0 : Nat) (v : Option Value) (h : Heap) (L : List Loc) : Prop := Fr n0 L ∧ Keep h0 h [] ∧ ∃ (r : Addr), v = some (.ref r) ∧ Exa Z h r "java/util/HashMap$ValueIterator" ∧ Fld Z h r "java/util/HashMap$HashIterator" "this$0" "Ljava/util/HashMap;" (.ref xm) ∧ Fld Z h r "java/util/HashMap$HashIterator" "expectedModCount" "I" (.int xq) ∧ Fld Z h r "java/util/HashMap$HashIterator" "next" "Ljava/util/HashMap$Node;" (.ref x1) ∧ Fld Z h r "java/util/HashMap$HashIterator" "current" "Ljava/util/HashMap$Node;" .null ∧ Fld Z h r "java/util/HashMap$HashIterator" "index" "I" (.int 2) ∧ h0.size ≤ r
theorem own_iter1 (l : Launch) (Z : State) (a0 : Array Value) (hw : ∀ d ∈ tables_1, d.before a0 Z = true) (ws : List Jvm.Cond) (xv : Addr) (xm : Addr) (xq : Int32) (xs : Int32) (xt : Addr) (xk : ClassId) (x1 : Addr) (x2 : Value) (x3 : Value) (h0 : Heap) (n0 : Nat) (O0 : Old Z n0 h0) (P0 : Fld Z h0 xv "java/util/HashMap$Values" "this$0" "Ljava/util/HashMap;" (.ref xm)) (P1 : Fld Z h0 xm "java/util/HashMap" "size" "I" (.int xs)) (P2 : Fld Z h0 xm "java/util/HashMap" "modCount" "I" (.int xq)) (P3 : Fld Z h0 xm "java/util/HashMap" "table" "[Ljava/util/HashMap$Node;" (.ref xt)) (P4 : Arv Z h0 xt xk (.object "java/util/HashMap$Node") (16 : Int32) [.null, .ref x1, x2, x3, .null, .null, .null, .null, .null, .null, .null, .null, .null, .null, .null, .null] .null) (P5 : (0 : Int32) < xs) (P6 : @LT.lt Nat _ xm h0.size) (P7 : @LT.lt Nat _ xt h0.size) : own_Met l Z (⟨"java/util/HashMap$Values", "iterator", "()Ljava/util/Iterator;"⟩ : MethodName) jdk_2571_method_4_code 1 (some (.object "java/util/Iterator")) ws ({ frames := 3, cells := 1, slots := 5, locals := 40 } : Room) #[.ref xv] h0 (Q_own_iter1 Z xv xm xq xs xt xk x1 x2 x3 h0 n0) := by
  refine own_mk (plainFor_of_name own_pn_java_util_HashMap_Values) O0 ?_
  intro p e s m below meth c s₁ hx hby hml hZ hown hnm hlk hret X0 e0 N0 z0 z1
  have K0 : Keep h0 h0 [] := Keep.refl _ _
  refine own_cast (own_ef_own_iter1 m xv) ?_
  show own_Goes p e below (s₁.setTop (mkF m 0 #[vR xv] [])) _
  have ltP4 : @LT.lt Nat _ xt h0.size := P4.lt
  obtain ⟨T1, h1, X1, e1, E1, A1, D1, -, st1⟩ := newO X0 hx hZ hown (wh hw 108 rfl) (wh hw 109 rfl) (wh hw 110 rfl) e0 (g := (mkF m 0 #[vR xv] [])) rfl (hb hby d12_0) (by decide) (by decide)
  obtain ⟨b1, g1⟩ : ∃ z, z = h0.size := ⟨_, rfl⟩
  rw [← g1] at A1 D1 st1
  refine gg st1 ?_
  have O2 := O0.ext E1
  have sz3 : h0.size ≤ h1.size := E1.1
  have K4 := K0.ext E1
  have l1 : @LT.lt Nat _ b1 h1.size := A1.lt
  have F1_this_0 : Fld Z h1 b1 "java/util/HashMap$HashIterator" "this$0" "Ljava/util/HashMap;" .null := D1 (Or.inr (wh hw 122 rfl)) (ty := (.object "java/util/HashMap")) (by decide)
  have F1_expectedModCount : Fld Z h1 b1 "java/util/HashMap$HashIterator" "expectedModCount" "I" (.int 0) := D1 (Or.inl (wh hw 127 rfl)) (ty := .int) (by decide)
  have F1_next : Fld Z h1 b1 "java/util/HashMap$HashIterator" "next" "Ljava/util/HashMap$Node;" .null := D1 (Or.inl (wh hw 131 rfl)) (ty := (.object "java/util/HashMap$Node")) (by decide)
  have F1_current : Fld Z h1 b1 "java/util/HashMap$HashIterator" "current" "Ljava/util/HashMap$Node;" .null := D1 (Or.inl (wh hw 133 rfl)) (ty := (.object "java/util/HashMap$Node")) (by decide)
  have F1_index : Fld Z h1 b1 "java/util/HashMap$HashIterator" "index" "I" (.int 0) := D1 (Or.inl (wh hw 135 rfl)) (ty := .int) (by decide)
  refine q_dup X1 hx hby d12_3 rfl ?_
  refine q_aloadN X1 hx hby d12_4 rfl rfl ?_
  have f5 := (P0.ext E1)
  refine qG X1 hx hby hZ hown (wh hw 95 rfl) e1 f5 d12_5 (fun T6 X6 e6 => ?_)
  have f7 := (P1.ext E1)
  have f8 := (P2.ext E1)
  have f9 := (P3.ext E1)
  have f10 := (P4.ext E1)
  refine k_N X6 hx hby hZ hown (wh hw 111 rfl) (wh hw 112 rfl) (W := 1) (own_viInit1 l Z a0 hw [] b1 xm xq xs xt xk x1 x2 x3 h1 n0 O2 A1 (show n0 ≤ b1 by first | assumption | omega | decide) F1_this_0 F1_expectedModCount F1_next F1_current F1_index f7 f8 f9 f10 (show (0 : Int32) < xs by first | assumption | omega | decide) (show @LT.lt Nat _ xm b1 by first | assumption | omega | decide) (show @LT.lt Nat _ xt b1 by first | assumption | omega | decide)) (wh hw 114 rfl) (wh hw 110 rfl) e6  hml (argsL := [.ref xm]) (rest := [.ref b1]) own_pd_13 d12_8 (fun _ T11 L11 X11 hQ11 => ?_)
  obtain ⟨h11, e11⟩ : ∃ z, T11.heap = z := ⟨_, rfl⟩
  rw [e11] at hQ11
  obtain ⟨Nc11, Kc11, rfl, c11_0, c11_1, c11_2, c11_3, c11_4⟩ := hQ11
  have N11 := Fr.app N0 Nc11
  have O12 := O2.keep Kc11 (allS (show n0 ≤ b1 by omega) all0)
  have sz13 : h1.size ≤ h11.size := Kc11.1
  have K14 := Keep.trans K4 Kc11 (allS (Or.inr (show h0.size ≤ b1 by omega)) all0)
  refine r_R X11 hx hby hret hlk d12_11 e11 ?_
  have f15 := (A1.keep Kc11)
  exact ⟨N11, K14, b1, rfl, f15, c11_0, c11_1, c11_2, c11_3, c11_4, (show h0.size ≤ b1 by first | assumption | omega | decide)⟩
theorem d15_0 : decode B15 0 = .ok (.aload_n 0, 1) := by decide +kernel
theorem d15_1 : decode B15 1 = .ok (.getfield 26, 3) := by decide +kernel
theorem d15_4 : decode B15 4 = .ok (.ifnull 7, 3) := by decide +kernel
theorem d15_11 : decode B15 11 = .ok (.iconst 0, 1) := by decide +kernel
theorem d15_12 : decode B15 12 = .ok (.ireturn, 1) := by decide +kernel
theorem own_ef_own_hasNext0 (m : MethodId) (xa : Addr) : entryFrame m #[.ref xa] 1 = mkF m 0 #[vR xa] [] := by first | (simp [entryFrame, mkF, argsToLocals, Value.category]; done) | rfl
def Q_own_hasNext0 (Z : State) (xa : Addr) (h0 : Heap) (n0 : Nat) (v : Option Value) (h : Heap) (L : List Loc) : Prop := Fr n0 L ∧ h = h0 ∧ v = some (.int 0)
theorem own_hasNext0 (l : Launch) (Z : State) (a0 : Array Value) (hw : ∀ d ∈ tables_1, d.before a0 Z = true) (ws : List Jvm.Cond) (xa : Addr) (h0 : Heap) (n0 : Nat) (O0 : Old Z n0 h0) (P0 : Fld Z h0 xa "java/util/HashMap$HashIterator" "next" "Ljava/util/HashMap$Node;" .null) : own_Met l Z (⟨"java/util/HashMap$HashIterator", "hasNext", "()Z"⟩ : MethodName) jdk_99_method_2_code 1 (some .boolean) ws ({ frames := 0, cells := 0, slots := 0, locals := 0 } : Room) #[.ref xa] h0 (Q_own_hasNext0 Z xa h0 n0) := by
  refine own_mk (plainFor_of_name own_pn_java_util_HashMap_HashIterator) O0 ?_
  intro p e s m below meth c s₁ hx hby hml hZ hown hnm hlk hret X0 e0 N0 z0 z1
  refine own_cast (own_ef_own_hasNext0 m xa) ?_
  show own_Goes p e below (s₁.setTop (mkF m 0 #[vR xa] [])) _
  refine q_aloadN X0 hx hby d15_0 rfl rfl ?_
  refine qG X0 hx hby hZ hown (wh hw 130 rfl) e0 P0 d15_1 (fun T1 X1 e1 => ?_)
  refine q_ifnullYes (pc := 4) X1 hx hby d15_4 (pc' := 11) (by decide) (by decide) ?_
  refine q_iconst X1 hx hby d15_11 ?_
  refine r_Z X1 hx hby hret hlk d15_12 e1 ?_
  exact ⟨N0, rfl, rfl⟩
theorem d15_7 : decode B15 7 = .ok (.iconst 1, 1) := by decide +kernel
theorem d15_8 : decode B15 8 = .ok (.goto 4, 3) := by decide +kernel
theorem own_ef_own_hasNext1 (m : MethodId) (xa : Addr) : entryFrame m #[.ref xa] 1 = mkF m 0 #[vR xa] [] := by first | (simp [entryFrame, mkF, argsToLocals, Value.category]; done) | rfl
def Q_own_hasNext1 (Z : State) (xa : Addr) (xv : Addr) (h0 : Heap) (n0 : Nat) (v : Option Value) (h : Heap) (L : List Loc) : Prop := Fr n0 L ∧ h = h0 ∧ v = some (.int 1)
theorem own_hasNext1 (l : Launch) (Z : State) (a0 : Array Value) (hw : ∀ d ∈ tables_1, d.before a0 Z = true) (ws : List Jvm.Cond) (xa : Addr) (xv : Addr) (h0 : Heap) (n0 : Nat) (O0 : Old Z n0 h0) (P0 : Fld Z h0 xa "java/util/HashMap$HashIterator" "next" "Ljava/util/HashMap$Node;" (.ref xv)) : own_Met l Z (⟨"java/util/HashMap$HashIterator", "hasNext", "()Z"⟩ : MethodName) jdk_99_method_2_code 1 (some .boolean) ws ({ frames := 0, cells := 0, slots := 0, locals := 0 } : Room) #[.ref xa] h0 (Q_own_hasNext1 Z xa xv h0 n0) := by
  refine own_mk (plainFor_of_name own_pn_java_util_HashMap_HashIterator) O0 ?_
  intro p e s m below meth c s₁ hx hby hml hZ hown hnm hlk hret X0 e0 N0 z0 z1
  refine own_cast (own_ef_own_hasNext1 m xa) ?_
  show own_Goes p e below (s₁.setTop (mkF m 0 #[vR xa] [])) _
  refine q_aloadN X0 hx hby d15_0 rfl rfl ?_
  refine qG X0 hx hby hZ hown (wh hw 130 rfl) e0 P0 d15_1 (fun T1 X1 e1 => ?_)
  refine q_ifnullNo X1 hx hby d15_4 ?_
  refine q_iconst X1 hx hby d15_7 ?_
  refine q_goto (pc := 8) X1 hx hby d15_8 (pc' := 12) (by decide) (by decide) ?_
  refine r_Z X1 hx hby hret hlk d15_12 e1 ?_
  exact ⟨N0, rfl, rfl⟩
theorem own_inb16 {i : Int32} {n : Nat} (h1 : ¬ i < 0) (h2 : i < (16 : Int32)) (hn : n = (16 : Int32).toNatClampNeg) : ¬ (i < 0 ∨ n ≤ i.toNatClampNeg) := by
  have e1 : (16 : Int32).toInt = 16 := by decide
  have e5 : (0 : Int32).toInt = 0 := by decide
  rw [Int32.lt_iff_toInt_lt] at h1 h2
  rw [Int32.lt_iff_toInt_lt]
  subst hn
  simp only [Int32.toNatClampNeg]
  omega

theorem d40_0 : decode B40 0 = .ok (.aload_n 0, 1) := by decide +kernel
theorem d40_1 : decode B40 1 = .ok (.getfield 26, 3) := by decide +kernel
theorem d40_4 : decode B40 4 = .ok (.astore_n 2, 1) := by decide +kernel
theorem d40_5 : decode B40 5 = .ok (.aload_n 0, 1) := by decide +kernel
theorem d40_6 : decode B40 6 = .ok (.getfield 1, 3) := by decide +kernel
theorem d40_9 : decode B40 9 = .ok (.getfield 13, 3) := by decide +kernel
theorem d40_12 : decode B40 12 = .ok (.aload_n 0, 1) := by decide +kernel
theorem d40_13 : decode B40 13 = .ok (.getfield 19, 3) := by decide +kernel
theorem d40_16 : decode B40 16 = .ok (.if_icmp .eq 11, 3) := by decide +kernel
theorem d40_27 : decode B40 27 = .ok (.aload_n 2, 1) := by decide +kernel
theorem d40_28 : decode B40 28 = .ok (.ifnonnull 11, 3) := by decide +kernel
theorem d40_39 : decode B40 39 = .ok (.aload_n 0, 1) := by decide +kernel
theorem d40_40 : decode B40 40 = .ok (.aload_n 0, 1) := by decide +kernel
theorem d40_41 : decode B40 41 = .ok (.aload_n 2, 1) := by decide +kernel
theorem d40_42 : decode B40 42 = .ok (.dup_x1, 1) := by decide +kernel
theorem d40_43 : decode B40 43 = .ok (.putfield 30, 3) := by decide +kernel
theorem d40_46 : decode B40 46 = .ok (.getfield 45, 3) := by decide +kernel
theorem d40_49 : decode B40 49 = .ok (.dup_x1, 1) := by decide +kernel
theorem d40_50 : decode B40 50 = .ok (.putfield 26, 3) := by decide +kernel
theorem d40_53 : decode B40 53 = .ok (.ifnonnull 45, 3) := by decide +kernel
theorem d40_56 : decode B40 56 = .ok (.aload_n 0, 1) := by decide +kernel
theorem d40_57 : decode B40 57 = .ok (.getfield 1, 3) := by decide +kernel
theorem d40_60 : decode B40 60 = .ok (.getfield 22, 3) := by decide +kernel
theorem d40_63 : decode B40 63 = .ok (.dup, 1) := by decide +kernel
theorem d40_64 : decode B40 64 = .ok (.astore_n 1, 1) := by decide +kernel
theorem d40_65 : decode B40 65 = .ok (.ifnull 33, 3) := by decide +kernel
theorem d40_68 : decode B40 68 = .ok (.aload_n 0, 1) := by decide +kernel
theorem d40_69 : decode B40 69 = .ok (.getfield 33, 3) := by decide +kernel
theorem d40_72 : decode B40 72 = .ok (.aload_n 1, 1) := by decide +kernel
theorem d40_73 : decode B40 73 = .ok (.arraylength, 1) := by decide +kernel
theorem d40_74 : decode B40 74 = .ok (.if_icmp .ge 24, 3) := by decide +kernel
theorem d40_77 : decode B40 77 = .ok (.aload_n 0, 1) := by decide +kernel
theorem d40_78 : decode B40 78 = .ok (.aload_n 1, 1) := by decide +kernel
theorem d40_79 : decode B40 79 = .ok (.aload_n 0, 1) := by decide +kernel
theorem d40_80 : decode B40 80 = .ok (.dup, 1) := by decide +kernel
theorem d40_81 : decode B40 81 = .ok (.getfield 33, 3) := by decide +kernel
theorem d40_84 : decode B40 84 = .ok (.dup_x1, 1) := by decide +kernel
theorem d40_85 : decode B40 85 = .ok (.iconst 1, 1) := by decide +kernel
theorem d40_86 : decode B40 86 = .ok (.iadd, 1) := by decide +kernel
theorem d40_87 : decode B40 87 = .ok (.putfield 33, 3) := by decide +kernel
theorem d40_90 : decode B40 90 = .ok (.aaload, 1) := by decide +kernel
theorem d40_91 : decode B40 91 = .ok (.dup_x1, 1) := by decide +kernel
theorem d40_92 : decode B40 92 = .ok (.putfield 26, 3) := by decide +kernel
theorem d40_95 : decode B40 95 = .ok (.ifnull (-27), 3) := by decide +kernel
theorem d40_98 : decode B40 98 = .ok (.aload_n 2, 1) := by decide +kernel
theorem d40_99 : decode B40 99 = .ok (.areturn, 1) := by decide +kernel
theorem own_ef_own_nextNodeE (m : MethodId) (xa : Addr) : entryFrame m #[.ref xa] 3 = mkF m 0 #[vR xa, uS, uS] [] := by first | (simp [entryFrame, mkF, argsToLocals, Value.category]; done) | rfl
def Q_own_nextNodeE (Z : State) (xa : Addr) (xm : Addr) (xq : Int32) (xt : Addr) (xk : ClassId) (xc : Value) (xj : Int32) (xn : Addr) (x1 : Addr) (x2 : Value) (x3 : Value) (h0 : Heap) (n0 : Nat) (v : Option Value) (h : Heap) (L : List Loc) : Prop := Fr n0 L ∧ Keep h0 h [xa] ∧ v = some (.ref xn) ∧ Fld Z h xa "java/util/HashMap$HashIterator" "this$0" "Ljava/util/HashMap;" (.ref xm) ∧ Fld Z h xa "java/util/HashMap$HashIterator" "expectedModCount" "I" (.int xq) ∧ Fld Z h xa "java/util/HashMap$HashIterator" "next" "Ljava/util/HashMap$Node;" .null ∧ Fld Z h xa "java/util/HashMap$HashIterator" "current" "Ljava/util/HashMap$Node;" (.ref xn) ∧ Fld Z h xa "java/util/HashMap$HashIterator" "index" "I" (.int 16)
theorem own_nextNodeE (l : Launch) (Z : State) (a0 : Array Value) (hw : ∀ d ∈ tables_1, d.before a0 Z = true) (ws : List Jvm.Cond) (xa : Addr) (xm : Addr) (xq : Int32) (xt : Addr) (xk : ClassId) (xc : Value) (xj : Int32) (xn : Addr) (x1 : Addr) (x2 : Value) (x3 : Value) (h0 : Heap) (n0 : Nat) (O0 : Old Z n0 h0) (P0 : Exa Z h0 xa "java/util/HashMap$ValueIterator") (P1 : n0 ≤ xa) (P2 : Fld Z h0 xa "java/util/HashMap$HashIterator" "this$0" "Ljava/util/HashMap;" (.ref xm)) (P3 : Fld Z h0 xa "java/util/HashMap$HashIterator" "expectedModCount" "I" (.int xq)) (P4 : Fld Z h0 xa "java/util/HashMap$HashIterator" "next" "Ljava/util/HashMap$Node;" (.ref xn)) (P5 : Fld Z h0 xa "java/util/HashMap$HashIterator" "current" "Ljava/util/HashMap$Node;" xc) (P6 : Fld Z h0 xa "java/util/HashMap$HashIterator" "index" "I" (.int xj)) (P7 : Fld Z h0 xm "java/util/HashMap" "modCount" "I" (.int xq)) (P8 : Fld Z h0 xm "java/util/HashMap" "table" "[Ljava/util/HashMap$Node;" (.ref xt)) (P9 : Arv Z h0 xt xk (.object "java/util/HashMap$Node") (16 : Int32) [.null, .ref x1, x2, x3, .null, .null, .null, .null, .null, .null, .null, .null, .null, .null, .null, .null] .null) (P10 : Fld Z h0 xn "java/util/HashMap$Node" "next" "Ljava/util/HashMap$Node;" .null) (P11 : @LT.lt Nat _ xm xa) (P12 : @LT.lt Nat _ xt xa) (P13 : @LT.lt Nat _ xn xa) (P14 : (xj = (2 : Int32) ∧ x2 = Value.null ∧ x3 = Value.null) ∨ (xj = (3 : Int32) ∧ x3 = Value.null) ∨ xj = (4 : Int32)) : own_Met l Z (⟨"java/util/HashMap$HashIterator", "nextNode", "()Ljava/util/HashMap$Node;"⟩ : MethodName) jdk_99_method_3_code 3 (some (.object "java/util/HashMap$Node")) ws ({ frames := 0, cells := 0, slots := 0, locals := 0 } : Room) #[.ref xa] h0 (Q_own_nextNodeE Z xa xm xq xt xk xc xj xn x1 x2 x3 h0 n0) := by
  refine own_mk (plainFor_of_name own_pn_java_util_HashMap_HashIterator) O0 ?_
  intro p e s m below meth c s₁ hx hby hml hZ hown hnm hlk hret X0 e0 N0 z0 z1
  have K0 : Keep h0 h0 [xa] := Keep.refl _ _
  refine own_cast (own_ef_own_nextNodeE m xa) ?_
  show own_Goes p e below (s₁.setTop (mkF m 0 #[vR xa, uS, uS] [])) _
  have ltP0 : @LT.lt Nat _ xa h0.size := P0.lt
  have ltP9 : @LT.lt Nat _ xt h0.size := P9.lt
  refine q_aloadN X0 hx hby d40_0 rfl rfl ?_
  refine qG X0 hx hby hZ hown (wh hw 130 rfl) e0 P4 d40_1 (fun T1 X1 e1 => ?_)
  refine q_astoreN X1 hx hby d40_4 rfl (l' := #[vR xa, uS, vR xn]) rfl ?_
  refine q_aloadN X1 hx hby d40_5 rfl rfl ?_
  refine qG X1 hx hby hZ hown (wh hw 121 rfl) e1 P2 d40_6 (fun T2 X2 e2 => ?_)
  refine qG X2 hx hby hZ hown (wh hw 124 rfl) e2 P7 d40_9 (fun T3 X3 e3 => ?_)
  refine q_aloadN X3 hx hby d40_12 rfl rfl ?_
  refine qG X3 hx hby hZ hown (wh hw 126 rfl) e3 P3 d40_13 (fun T4 X4 e4 => ?_)
  refine q_icmpYes (pc := 16) X4 hx hby d40_16 (pc' := 27) (teq (rfl : xq = xq)).1 (by decide) (by decide) ?_
  refine q_aloadN X4 hx hby d40_27 rfl rfl ?_
  refine gg (fun t k => XS.ifnonnullYes X4.here hx rfl (pc0 := 28) (pc' := 39) rfl (hb hby d40_28) rfl (by decide) (by decide) k) ?_
  refine q_aloadN X4 hx hby d40_39 rfl rfl ?_
  refine q_aloadN X4 hx hby d40_40 rfl rfl ?_
  refine q_aloadN X4 hx hby d40_41 rfl rfl ?_
  show own_Goes p e below (T4.setTop (mkF m 42 #[vR xa, uS, vR xn] [.ref xn, .ref xa, .ref xa])) _
  refine gg (fun t k => XS.dupX1 X4.here hx rfl (hb hby d40_42) rfl rfl rfl k) ?_
  refine qP X4 hx hby hZ hown (host := "") (Or.inl (wh hw 132 rfl)) Via.refl e4 P5 P0 (Or.inl (wh hw 133 rfl)) (wh hw 109 rfl) (ty := (.object "java/util/HashMap$Node")) d40_43 (fun T5 h5 X5 e5 W5 => ?_)
  have O6 := O0.wr W5 (show n0 ≤ xa by omega)
  have sz7 : h5.size = h0.size := Wr.size W5
  have K8 := K0.wr W5 (Or.inl (List.mem_of_getElem? (i := 0) rfl))
  have N5 := Fr.snoc X5 N0 (show n0 ≤ xa by omega)
  have Fw5 := P5.same W5
  have f9 := (P10.other W5 (Or.inl (nE xn xa (by omega))))
  refine qG X5 hx hby hZ hown (wh hw 303 rfl) e5 f9 d40_46 (fun T10 X10 e10 => ?_)
  refine gg (fun t k => XS.dupX1 X10.here hx rfl (hb hby d40_49) rfl rfl rfl k) ?_
  have f11 := (P4.other W5 (Or.inr (slot_ne (Or.inl (wh hw 131 rfl)) (Or.inl (wh hw 133 rfl)) (by decide) (t := (.object "java/util/HashMap$Node")) (t' := (.object "java/util/HashMap$Node")) (by decide) (by decide))))
  have f12 := (P0.wr W5)
  refine qP X10 hx hby hZ hown (host := "") (Or.inl (wh hw 130 rfl)) Via.refl e10 f11 f12 (Or.inl (wh hw 131 rfl)) (wh hw 109 rfl) (ty := (.object "java/util/HashMap$Node")) d40_50 (fun T13 h13 X13 e13 W13 => ?_)
  have O14 := O6.wr W13 (show n0 ≤ xa by omega)
  have sz15 : h13.size = h5.size := Wr.size W13
  have K16 := K8.wr W13 (Or.inl (List.mem_of_getElem? (i := 0) rfl))
  have N13 := Fr.snoc X13 N5 (show n0 ≤ xa by omega)
  have Fw13 := f11.same W13
  refine gg (fun t k => XS.ifnonnullNo X13.here hx rfl (hb hby d40_53) rfl k) ?_
  refine q_aloadN X13 hx hby d40_56 rfl rfl ?_
  have f17 := ((P2.other W5 (Or.inr (slot_ne (Or.inr (wh hw 122 rfl)) (Or.inl (wh hw 133 rfl)) (by decide) (t := (.object "java/util/HashMap")) (t' := (.object "java/util/HashMap$Node")) (by decide) (by decide)))).other W13 (Or.inr (slot_ne (Or.inr (wh hw 122 rfl)) (Or.inl (wh hw 131 rfl)) (by decide) (t := (.object "java/util/HashMap")) (t' := (.object "java/util/HashMap$Node")) (by decide) (by decide))))
  refine qG X13 hx hby hZ hown (wh hw 121 rfl) e13 f17 d40_57 (fun T18 X18 e18 => ?_)
  have f19 := ((P8.other W5 (Or.inl (nE xm xa (by omega)))).other W13 (Or.inl (nE xm xa (by omega))))
  refine qG X18 hx hby hZ hown (wh hw 128 rfl) e18 f19 d40_60 (fun T20 X20 e20 => ?_)
  refine q_dup X20 hx hby d40_63 rfl ?_
  refine q_astoreN X20 hx hby d40_64 rfl (l' := #[vR xa, vR xt, vR xn]) rfl ?_
  refine q_ifnullNo X20 hx hby d40_65 ?_
  have LS : ∀ (i_ j_ : Int32), ¬ i_ < 0 → i_ < (16 : Int32) → i_ + (1 : Int32) = j_ → List.getD ([.null, .ref x1, x2, x3, .null, .null, .null, .null, .null, .null, .null, .null, .null, .null, .null, .null] : List Value) i_.toNatClampNeg .null = .null → (∀ (T_ : State) (h_ : Heap) (L_ : List Loc), Stand p l e ({ frames := 0, cells := 0, slots := 0, locals := 0 } : Room) s m #[.ref xa] below meth c T_ L_ 0 0 ∧ T_.heap = h_ ∧ Fr n0 L_ ∧ Old Z n0 h_ ∧ Keep h0 h_ [xa] ∧ Exa Z h_ xa "java/util/HashMap$ValueIterator" ∧ Fld Z h_ xa "java/util/HashMap$HashIterator" "this$0" "Ljava/util/HashMap;" (.ref xm) ∧ Fld Z h_ xa "java/util/HashMap$HashIterator" "expectedModCount" "I" (.int xq) ∧ Fld Z h_ xa "java/util/HashMap$HashIterator" "next" "Ljava/util/HashMap$Node;" .null ∧ Fld Z h_ xa "java/util/HashMap$HashIterator" "current" "Ljava/util/HashMap$Node;" (.ref xn) ∧ Fld Z h_ xa "java/util/HashMap$HashIterator" "index" "I" (.int j_) ∧ Fld Z h_ xm "java/util/HashMap" "modCount" "I" (.int xq) ∧ Fld Z h_ xm "java/util/HashMap" "table" "[Ljava/util/HashMap$Node;" (.ref xt) ∧ Arv Z h_ xt xk (.object "java/util/HashMap$Node") (16 : Int32) [.null, .ref x1, x2, x3, .null, .null, .null, .null, .null, .null, .null, .null, .null, .null, .null, .null] .null ∧ Fld Z h_ xn "java/util/HashMap$Node" "next" "Ljava/util/HashMap$Node;" .null → own_Goes p e below (T_.setTop (mkF m 68 #[vR xa, vR xt, vR xn] [])) (own_PostN s (Q_own_nextNodeE Z xa xm xq xt xk xc xj xn x1 x2 x3 h0 n0) ({ frames := 0, cells := 0, slots := 0, locals := 0 } : Room).cells ({ frames := 0, cells := 0, slots := 0, locals := 0 } : Room).slots)) → ∀ (T_ : State) (h_ : Heap) (L_ : List Loc), Stand p l e ({ frames := 0, cells := 0, slots := 0, locals := 0 } : Room) s m #[.ref xa] below meth c T_ L_ 0 0 ∧ T_.heap = h_ ∧ Fr n0 L_ ∧ Old Z n0 h_ ∧ Keep h0 h_ [xa] ∧ Exa Z h_ xa "java/util/HashMap$ValueIterator" ∧ Fld Z h_ xa "java/util/HashMap$HashIterator" "this$0" "Ljava/util/HashMap;" (.ref xm) ∧ Fld Z h_ xa "java/util/HashMap$HashIterator" "expectedModCount" "I" (.int xq) ∧ Fld Z h_ xa "java/util/HashMap$HashIterator" "next" "Ljava/util/HashMap$Node;" .null ∧ Fld Z h_ xa "java/util/HashMap$HashIterator" "current" "Ljava/util/HashMap$Node;" (.ref xn) ∧ Fld Z h_ xa "java/util/HashMap$HashIterator" "index" "I" (.int i_) ∧ Fld Z h_ xm "java/util/HashMap" "modCount" "I" (.int xq) ∧ Fld Z h_ xm "java/util/HashMap" "table" "[Ljava/util/HashMap$Node;" (.ref xt) ∧ Arv Z h_ xt xk (.object "java/util/HashMap$Node") (16 : Int32) [.null, .ref x1, x2, x3, .null, .null, .null, .null, .null, .null, .null, .null, .null, .null, .null, .null] .null ∧ Fld Z h_ xn "java/util/HashMap$Node" "next" "Ljava/util/HashMap$Node;" .null → own_Goes p e below (T_.setTop (mkF m 68 #[vR xa, vR xt, vR xn] [])) (own_PostN s (Q_own_nextNodeE Z xa xm xq xt xk xc xj xn x1 x2 x3 h0 n0) ({ frames := 0, cells := 0, slots := 0, locals := 0 } : Room).cells ({ frames := 0, cells := 0, slots := 0, locals := 0 } : Room).slots) := by
    intro i_ j_ hi1 hi2 hij hiv nxt T_ h_ L_ ⟨X_, e_, N_, O_, K_, f_0, f_1, f_2, f_3, f_4, f_5, f_6, f_7, f_8, f_9⟩
    show own_Goes p e below (T_.setTop (mkF m 68 #[vR xa, vR xt, vR xn] [])) _
    refine q_aloadN X_ hx hby d40_68 rfl rfl ?_
    refine qG X_ hx hby hZ hown (wh hw 134 rfl) e_ f_5 d40_69 (fun T21 X21 e21 => ?_)
    refine q_aloadN X21 hx hby d40_72 rfl rfl ?_
    refine q_len X21 hx hby hZ e21 f_8 d40_73 ?_
    refine q_icmpNo X21 hx hby d40_74 (tlt hi2).2.1 ?_
    refine q_aloadN X21 hx hby d40_77 rfl rfl ?_
    refine q_aloadN X21 hx hby d40_78 rfl rfl ?_
    refine q_aloadN X21 hx hby d40_79 rfl rfl ?_
    refine q_dup X21 hx hby d40_80 rfl ?_
    refine qG X21 hx hby hZ hown (wh hw 134 rfl) e21 f_5 d40_81 (fun T23 X23 e23 => ?_)
    refine gg (fun t k => XS.dupX1 X23.here hx rfl (hb hby d40_84) rfl rfl rfl k) ?_
    refine q_iconst X23 hx hby d40_85 ?_
    refine q_iadd X23 hx hby d40_86 ?_
    refine qP X23 hx hby hZ hown (host := "") (Or.inl (wh hw 134 rfl)) Via.refl e23 f_5 f_0 (Or.inl (wh hw 135 rfl)) (wh hw 109 rfl) (ty := .int) d40_87 (fun T24 h24 X24 e24 W24 => ?_)
    have O25 := O_.wr W24 (show n0 ≤ xa by omega)
    have sz26 : h24.size = h_.size := Wr.size W24
    have K27 := K_.wr W24 (Or.inl (List.mem_of_getElem? (i := 0) rfl))
    have N24 := Fr.snoc X24 N_ (show n0 ≤ xa by omega)
    have Fw24 : Fld Z h24 xa "java/util/HashMap$HashIterator" "index" "I" (.int (i_ + (1 : Int32))) := f_5.same W24
    show own_Goes p e below (T24.setTop (mkF m 90 #[vR xa, vR xt, vR xn] [.int i_, .ref xt, .ref xa])) _
    have f28 := (f_8.other W24 (nE xt xa (by omega)))
    obtain ⟨clu29, Aru29, qu29, Szu29, Ngu29, Hsu29, Gsu29⟩ := id f28
    have inu29 : ¬ (i_ < 0 ∨ clu29.slots.size ≤ (i_).toNatClampNeg) := own_inb16 hi1 hi2 Szu29
    have atu29 : clu29.slots[(i_).toNatClampNeg]? = some .null := Hsu29.at inu29 hiv
    refine gg (fun t k => X24.aaload hx (j := i_) (v := .null) (by rw [e24]; exact Aru29.1) (State.isArrayOf_alike hZ.alike Aru29.2.1) rfl Aru29.2.2 inu29 atu29 (g := (mkF m 90 #[vR xa, vR xt, vR xn] [.int i_, .ref xt, .ref xa])) rfl rfl (hb hby d40_90) _ k) ?_
    refine gg (fun t k => XS.dupX1 X24.here hx rfl (hb hby d40_91) rfl rfl rfl k) ?_
    have f30 := (f_3.other W24 (Or.inr (slot_ne (Or.inl (wh hw 131 rfl)) (Or.inl (wh hw 135 rfl)) (by decide) (t := (.object "java/util/HashMap$Node")) (t' := .int) (by decide) (by decide))))
    have f31 := (f_0.wr W24)
    refine qP X24 hx hby hZ hown (host := "") (Or.inl (wh hw 130 rfl)) Via.refl e24 f30 f31 (Or.inl (wh hw 131 rfl)) (wh hw 109 rfl) (ty := (.object "java/util/HashMap$Node")) d40_92 (fun T32 h32 X32 e32 W32 => ?_)
    have O33 := O25.wr W32 (show n0 ≤ xa by omega)
    have sz34 : h32.size = h24.size := Wr.size W32
    have K35 := K27.wr W32 (Or.inl (List.mem_of_getElem? (i := 0) rfl))
    have N32 := Fr.snoc X32 N24 (show n0 ≤ xa by omega)
    have Fw32 := f30.same W32
    refine q_ifnullYes (pc := 95) X32 hx hby d40_95 (pc' := 68) (by decide) (by decide) ?_
    rw [hij] at Fw24
    have f36 := (f31.wr W32)
    have f37 := ((f_1.other W24 (Or.inr (slot_ne (Or.inr (wh hw 122 rfl)) (Or.inl (wh hw 135 rfl)) (by decide) (t := (.object "java/util/HashMap")) (t' := .int) (by decide) (by decide)))).other W32 (Or.inr (slot_ne (Or.inr (wh hw 122 rfl)) (Or.inl (wh hw 131 rfl)) (by decide) (t := (.object "java/util/HashMap")) (t' := (.object "java/util/HashMap$Node")) (by decide) (by decide))))
    have f38 := ((f_2.other W24 (Or.inr (slot_ne (Or.inl (wh hw 127 rfl)) (Or.inl (wh hw 135 rfl)) (by decide) (t := .int) (t' := .int) (by decide) (by decide)))).other W32 (Or.inr (slot_ne (Or.inl (wh hw 127 rfl)) (Or.inl (wh hw 131 rfl)) (by decide) (t := .int) (t' := (.object "java/util/HashMap$Node")) (by decide) (by decide))))
    have f39 := ((f_4.other W24 (Or.inr (slot_ne (Or.inl (wh hw 133 rfl)) (Or.inl (wh hw 135 rfl)) (by decide) (t := (.object "java/util/HashMap$Node")) (t' := .int) (by decide) (by decide)))).other W32 (Or.inr (slot_ne (Or.inl (wh hw 133 rfl)) (Or.inl (wh hw 131 rfl)) (by decide) (t := (.object "java/util/HashMap$Node")) (t' := (.object "java/util/HashMap$Node")) (by decide) (by decide))))
    have f40 := (Fw24.other W32 (Or.inr (slot_ne (Or.inl (wh hw 135 rfl)) (Or.inl (wh hw 131 rfl)) (by decide) (t := .int) (t' := (.object "java/util/HashMap$Node")) (by decide) (by decide))))
    have f41 := ((f_6.other W24 (Or.inl (nE xm xa (by omega)))).other W32 (Or.inl (nE xm xa (by omega))))
    have f42 := ((f_7.other W24 (Or.inl (nE xm xa (by omega)))).other W32 (Or.inl (nE xm xa (by omega))))
    have f43 := (f28.other W32 (nE xt xa (by omega)))
    have f44 := ((f_9.other W24 (Or.inl (nE xn xa (by omega)))).other W32 (Or.inl (nE xn xa (by omega))))
    exact nxt _ _ _ ⟨X32, e32, N32, O33, K35, f36, f37, f38, Fw32, f39, f40, f41, f42, f43, f44⟩
  have LE : ∀ (T_ : State) (h_ : Heap) (L_ : List Loc), Stand p l e ({ frames := 0, cells := 0, slots := 0, locals := 0 } : Room) s m #[.ref xa] below meth c T_ L_ 0 0 ∧ T_.heap = h_ ∧ Fr n0 L_ ∧ Old Z n0 h_ ∧ Keep h0 h_ [xa] ∧ Exa Z h_ xa "java/util/HashMap$ValueIterator" ∧ Fld Z h_ xa "java/util/HashMap$HashIterator" "this$0" "Ljava/util/HashMap;" (.ref xm) ∧ Fld Z h_ xa "java/util/HashMap$HashIterator" "expectedModCount" "I" (.int xq) ∧ Fld Z h_ xa "java/util/HashMap$HashIterator" "next" "Ljava/util/HashMap$Node;" .null ∧ Fld Z h_ xa "java/util/HashMap$HashIterator" "current" "Ljava/util/HashMap$Node;" (.ref xn) ∧ Fld Z h_ xa "java/util/HashMap$HashIterator" "index" "I" (.int 16) ∧ Fld Z h_ xm "java/util/HashMap" "modCount" "I" (.int xq) ∧ Fld Z h_ xm "java/util/HashMap" "table" "[Ljava/util/HashMap$Node;" (.ref xt) ∧ Arv Z h_ xt xk (.object "java/util/HashMap$Node") (16 : Int32) [.null, .ref x1, x2, x3, .null, .null, .null, .null, .null, .null, .null, .null, .null, .null, .null, .null] .null ∧ Fld Z h_ xn "java/util/HashMap$Node" "next" "Ljava/util/HashMap$Node;" .null → own_Goes p e below (T_.setTop (mkF m 68 #[vR xa, vR xt, vR xn] [])) (own_PostN s (Q_own_nextNodeE Z xa xm xq xt xk xc xj xn x1 x2 x3 h0 n0) ({ frames := 0, cells := 0, slots := 0, locals := 0 } : Room).cells ({ frames := 0, cells := 0, slots := 0, locals := 0 } : Room).slots) := by
    intro T_ h_ L_ ⟨X_, e_, N_, O_, K_, f_0, f_1, f_2, f_3, f_4, f_5, f_6, f_7, f_8, f_9⟩
    show own_Goes p e below (T_.setTop (mkF m 68 #[vR xa, vR xt, vR xn] [])) _
    refine q_aloadN X_ hx hby d40_68 rfl rfl ?_
    refine qG X_ hx hby hZ hown (wh hw 134 rfl) e_ f_5 d40_69 (fun T45 X45 e45 => ?_)
    refine q_aloadN X45 hx hby d40_72 rfl rfl ?_
    refine q_len X45 hx hby hZ e45 f_8 d40_73 ?_
    refine q_icmpYes (pc := 74) X45 hx hby d40_74 (pc' := 98) (flt (show ¬ ((16 : Int32) < (16 : Int32)) from by decide)).2.1 (by decide) (by decide) ?_
    refine q_aloadN X45 hx hby d40_98 rfl rfl ?_
    refine r_R X45 hx hby hret hlk d40_99 e45 ?_
    exact ⟨N_, K_, rfl, f_1, f_2, f_3, f_4, f_5⟩
  have f47 := (f12.wr W13)
  have f48 := ((P3.other W5 (Or.inr (slot_ne (Or.inl (wh hw 127 rfl)) (Or.inl (wh hw 133 rfl)) (by decide) (t := .int) (t' := (.object "java/util/HashMap$Node")) (by decide) (by decide)))).other W13 (Or.inr (slot_ne (Or.inl (wh hw 127 rfl)) (Or.inl (wh hw 131 rfl)) (by decide) (t := .int) (t' := (.object "java/util/HashMap$Node")) (by decide) (by decide))))
  have f49 := (Fw5.other W13 (Or.inr (slot_ne (Or.inl (wh hw 133 rfl)) (Or.inl (wh hw 131 rfl)) (by decide) (t := (.object "java/util/HashMap$Node")) (t' := (.object "java/util/HashMap$Node")) (by decide) (by decide))))
  have f50 := ((P6.other W5 (Or.inr (slot_ne (Or.inl (wh hw 135 rfl)) (Or.inl (wh hw 133 rfl)) (by decide) (t := .int) (t' := (.object "java/util/HashMap$Node")) (by decide) (by decide)))).other W13 (Or.inr (slot_ne (Or.inl (wh hw 135 rfl)) (Or.inl (wh hw 131 rfl)) (by decide) (t := .int) (t' := (.object "java/util/HashMap$Node")) (by decide) (by decide))))
  have f51 := ((P7.other W5 (Or.inl (nE xm xa (by omega)))).other W13 (Or.inl (nE xm xa (by omega))))
  have f52 := ((P9.other W5 (nE xt xa (by omega))).other W13 (nE xt xa (by omega)))
  have f53 := (f9.other W13 (Or.inl (nE xn xa (by omega))))
  rcases P14 with ⟨rfl, rfl, rfl⟩ | ⟨rfl, rfl⟩ | rfl
  · exact (LS 2 3 (by decide) (by decide) (by decide) rfl (LS 3 4 (by decide) (by decide) (by decide) rfl (LS 4 5 (by decide) (by decide) (by decide) rfl (LS 5 6 (by decide) (by decide) (by decide) rfl (LS 6 7 (by decide) (by decide) (by decide) rfl (LS 7 8 (by decide) (by decide) (by decide) rfl (LS 8 9 (by decide) (by decide) (by decide) rfl (LS 9 10 (by decide) (by decide) (by decide) rfl (LS 10 11 (by decide) (by decide) (by decide) rfl (LS 11 12 (by decide) (by decide) (by decide) rfl (LS 12 13 (by decide) (by decide) (by decide) rfl (LS 13 14 (by decide) (by decide) (by decide) rfl (LS 14 15 (by decide) (by decide) (by decide) rfl (LS 15 16 (by decide) (by decide) (by decide) rfl LE)))))))))))))) _ _ _ ⟨X20, e20, N13, O14, K16, f47, f17, f48, Fw13, f49, f50, f51, f19, f52, f53⟩
  · exact (LS 3 4 (by decide) (by decide) (by decide) rfl (LS 4 5 (by decide) (by decide) (by decide) rfl (LS 5 6 (by decide) (by decide) (by decide) rfl (LS 6 7 (by decide) (by decide) (by decide) rfl (LS 7 8 (by decide) (by decide) (by decide) rfl (LS 8 9 (by decide) (by decide) (by decide) rfl (LS 9 10 (by decide) (by decide) (by decide) rfl (LS 10 11 (by decide) (by decide) (by decide) rfl (LS 11 12 (by decide) (by decide) (by decide) rfl (LS 12 13 (by decide) (by decide) (by decide) rfl (LS 13 14 (by decide) (by decide) (by decide) rfl (LS 14 15 (by decide) (by decide) (by decide) rfl (LS 15 16 (by decide) (by decide) (by decide) rfl LE))))))))))))) _ _ _ ⟨X20, e20, N13, O14, K16, f47, f17, f48, Fw13, f49, f50, f51, f19, f52, f53⟩
  · exact (LS 4 5 (by decide) (by decide) (by decide) rfl (LS 5 6 (by decide) (by decide) (by decide) rfl (LS 6 7 (by decide) (by decide) (by decide) rfl (LS 7 8 (by decide) (by decide) (by decide) rfl (LS 8 9 (by decide) (by decide) (by decide) rfl (LS 9 10 (by decide) (by decide) (by decide) rfl (LS 10 11 (by decide) (by decide) (by decide) rfl (LS 11 12 (by decide) (by decide) (by decide) rfl (LS 12 13 (by decide) (by decide) (by decide) rfl (LS 13 14 (by decide) (by decide) (by decide) rfl (LS 14 15 (by decide) (by decide) (by decide) rfl (LS 15 16 (by decide) (by decide) (by decide) rfl LE)))))))))))) _ _ _ ⟨X20, e20, N13, O14, K16, f47, f17, f48, Fw13, f49, f50, f51, f19, f52, f53⟩
theorem d39_0 : decode B39 0 = .ok (.aload_n 0, 1) := by decide +kernel
theorem d39_1 : decode B39 1 = .ok (.invokevirtual 7, 3) := by decide +kernel
theorem own_pd_14 : parseMethodDescriptor "()Ljava/util/HashMap$Node;" = some ⟨[], some (.object "java/util/HashMap$Node")⟩ := by decide +kernel
theorem d39_4 : decode B39 4 = .ok (.getfield 13, 3) := by decide +kernel
theorem d39_7 : decode B39 7 = .ok (.areturn, 1) := by decide +kernel
theorem own_ef_own_nextE (m : MethodId) (xa : Addr) : entryFrame m #[.ref xa] 1 = mkF m 0 #[vR xa] [] := by first | (simp [entryFrame, mkF, argsToLocals, Value.category]; done) | rfl
def Q_own_nextE (Z : State) (xa : Addr) (xm : Addr) (xq : Int32) (xt : Addr) (xk : ClassId) (xc : Value) (xj : Int32) (xn : Addr) (x1 : Addr) (x2 : Value) (x3 : Value) (xv : Addr) (h0 : Heap) (n0 : Nat) (v : Option Value) (h : Heap) (L : List Loc) : Prop := Fr n0 L ∧ Keep h0 h [xa] ∧ v = some (.ref xv) ∧ Fld Z h xa "java/util/HashMap$HashIterator" "this$0" "Ljava/util/HashMap;" (.ref xm) ∧ Fld Z h xa "java/util/HashMap$HashIterator" "expectedModCount" "I" (.int xq) ∧ Fld Z h xa "java/util/HashMap$HashIterator" "next" "Ljava/util/HashMap$Node;" .null ∧ Fld Z h xa "java/util/HashMap$HashIterator" "current" "Ljava/util/HashMap$Node;" (.ref xn) ∧ Fld Z h xa "java/util/HashMap$HashIterator" "index" "I" (.int 16)
theorem own_nextE (l : Launch) (Z : State) (a0 : Array Value) (hw : ∀ d ∈ tables_1, d.before a0 Z = true) (ws : List Jvm.Cond) (xa : Addr) (xm : Addr) (xq : Int32) (xt : Addr) (xk : ClassId) (xc : Value) (xj : Int32) (xn : Addr) (x1 : Addr) (x2 : Value) (x3 : Value) (xv : Addr) (h0 : Heap) (n0 : Nat) (O0 : Old Z n0 h0) (P0 : Exa Z h0 xa "java/util/HashMap$ValueIterator") (P1 : n0 ≤ xa) (P2 : Fld Z h0 xa "java/util/HashMap$HashIterator" "this$0" "Ljava/util/HashMap;" (.ref xm)) (P3 : Fld Z h0 xa "java/util/HashMap$HashIterator" "expectedModCount" "I" (.int xq)) (P4 : Fld Z h0 xa "java/util/HashMap$HashIterator" "next" "Ljava/util/HashMap$Node;" (.ref xn)) (P5 : Fld Z h0 xa "java/util/HashMap$HashIterator" "current" "Ljava/util/HashMap$Node;" xc) (P6 : Fld Z h0 xa "java/util/HashMap$HashIterator" "index" "I" (.int xj)) (P7 : Fld Z h0 xm "java/util/HashMap" "modCount" "I" (.int xq)) (P8 : Fld Z h0 xm "java/util/HashMap" "table" "[Ljava/util/HashMap$Node;" (.ref xt)) (P9 : Arv Z h0 xt xk (.object "java/util/HashMap$Node") (16 : Int32) [.null, .ref x1, x2, x3, .null, .null, .null, .null, .null, .null, .null, .null, .null, .null, .null, .null] .null) (P10 : Fld Z h0 xn "java/util/HashMap$Node" "next" "Ljava/util/HashMap$Node;" .null) (P11 : @LT.lt Nat _ xm xa) (P12 : @LT.lt Nat _ xt xa) (P13 : @LT.lt Nat _ xn xa) (P14 : Fld Z h0 xn "java/util/HashMap$Node" "value" "Ljava/lang/Object;" (.ref xv)) (P15 : (xj = (2 : Int32) ∧ x2 = Value.null ∧ x3 = Value.null) ∨ (xj = (3 : Int32) ∧ x3 = Value.null) ∨ xj = (4 : Int32)) : own_Met l Z (⟨"java/util/HashMap$ValueIterator", "next", "()Ljava/lang/Object;"⟩ : MethodName) jdk_2569_method_2_code 1 (some (.object "java/lang/Object")) ws ({ frames := 1, cells := 0, slots := 0, locals := 14 } : Room) #[.ref xa] h0 (Q_own_nextE Z xa xm xq xt xk xc xj xn x1 x2 x3 xv h0 n0) := by
  refine own_mk (plainFor_of_name own_pn_java_util_HashMap_ValueIterator) O0 ?_
  intro p e s m below meth c s₁ hx hby hml hZ hown hnm hlk hret X0 e0 N0 z0 z1
  have K0 : Keep h0 h0 [xa] := Keep.refl _ _
  refine own_cast (own_ef_own_nextE m xa) ?_
  show own_Goes p e below (s₁.setTop (mkF m 0 #[vR xa] [])) _
  have ltP0 : @LT.lt Nat _ xa h0.size := P0.lt
  have ltP9 : @LT.lt Nat _ xt h0.size := P9.lt
  refine q_aloadN X0 hx hby d39_0 rfl rfl ?_
  refine k_VU X0 hx hby hZ hown (wh hw 297 rfl) (wh hw 298 rfl) (wh hw 299 rfl) (wh hw 301 rfl) (wh hw 300 rfl) (W := 0) (own_nextNodeE l Z a0 hw [] xa xm xq xt xk xc xj xn x1 x2 x3 h0 n0 O0 P0 (show n0 ≤ xa by first | assumption | omega | decide) P2 P3 P4 P5 P6 P7 P8 P9 P10 (show @LT.lt Nat _ xm xa by first | assumption | omega | decide) (show @LT.lt Nat _ xt xa by first | assumption | omega | decide) (show @LT.lt Nat _ xn xa by first | assumption | omega | decide) (show (xj = (2 : Int32) ∧ x2 = Value.null ∧ x3 = Value.null) ∨ (xj = (3 : Int32) ∧ x3 = Value.null) ∨ xj = (4 : Int32) from (by first | exact Or.inl ⟨by decide, rfl, rfl⟩ | exact Or.inr (Or.inl ⟨by decide, rfl⟩) | exact Or.inr (Or.inr (by decide)) | assumption))) (wh hw 302 rfl) (wh hw 119 rfl) e0 P0  hml (argsL := []) (rest := []) own_pd_14 d39_1 (fun _ T1 L1 X1 hQ1 => ?_)
  obtain ⟨h1, e1⟩ : ∃ z, T1.heap = z := ⟨_, rfl⟩
  rw [e1] at hQ1
  obtain ⟨Nc1, Kc1, rfl, c1_0, c1_1, c1_2, c1_3, c1_4⟩ := hQ1
  have N1 := Fr.app N0 Nc1
  have O2 := O0.keep Kc1 (allS (show n0 ≤ xa by omega) all0)
  have sz3 : h0.size ≤ h1.size := Kc1.1
  have K4 := Keep.trans K0 Kc1 (allS (Or.inl (List.mem_of_getElem? (i := 0) rfl)) all0)
  have f5 := (P14.keep Kc1 (ninS (nE xn xa (by omega)) nin0))
  refine qG X1 hx hby hZ hown (wh hw 304 rfl) e1 f5 d39_4 (fun T6 X6 e6 => ?_)
  refine r_R X6 hx hby hret hlk d39_7 e6 ?_
  exact ⟨N1, K4, rfl, c1_0, c1_1, c1_2, c1_3, c1_4⟩
theorem own_ef_own_nextNodeF (m : MethodId) (xa : Addr) : entryFrame m #[.ref xa] 3 = mkF m 0 #[vR xa, uS, uS] [] := by first | (simp [entryFrame, mkF, argsToLocals, Value.category]; done) | rfl
def Q_own_nextNodeF (Z : State) (xa : Addr) (xm : Addr) (xq : Int32) (xt : Addr) (xk : ClassId) (xc : Value) (xj : Int32) (xn : Addr) (x1 : Addr) (x2 : Value) (x3 : Value) (xy : Addr) (h0 : Heap) (n0 : Nat) (v : Option Value) (h : Heap) (L : List Loc) : Prop := Fr n0 L ∧ Keep h0 h [xa] ∧ v = some (.ref xn) ∧ Fld Z h xa "java/util/HashMap$HashIterator" "this$0" "Ljava/util/HashMap;" (.ref xm) ∧ Fld Z h xa "java/util/HashMap$HashIterator" "expectedModCount" "I" (.int xq) ∧ Fld Z h xa "java/util/HashMap$HashIterator" "next" "Ljava/util/HashMap$Node;" (.ref xy) ∧ Fld Z h xa "java/util/HashMap$HashIterator" "current" "Ljava/util/HashMap$Node;" (.ref xn) ∧ Fld Z h xa "java/util/HashMap$HashIterator" "index" "I" (.int (xj + (1 : Int32)))
theorem own_nextNodeF (l : Launch) (Z : State) (a0 : Array Value) (hw : ∀ d ∈ tables_1, d.before a0 Z = true) (ws : List Jvm.Cond) (xa : Addr) (xm : Addr) (xq : Int32) (xt : Addr) (xk : ClassId) (xc : Value) (xj : Int32) (xn : Addr) (x1 : Addr) (x2 : Value) (x3 : Value) (xy : Addr) (h0 : Heap) (n0 : Nat) (O0 : Old Z n0 h0) (P0 : Exa Z h0 xa "java/util/HashMap$ValueIterator") (P1 : n0 ≤ xa) (P2 : Fld Z h0 xa "java/util/HashMap$HashIterator" "this$0" "Ljava/util/HashMap;" (.ref xm)) (P3 : Fld Z h0 xa "java/util/HashMap$HashIterator" "expectedModCount" "I" (.int xq)) (P4 : Fld Z h0 xa "java/util/HashMap$HashIterator" "next" "Ljava/util/HashMap$Node;" (.ref xn)) (P5 : Fld Z h0 xa "java/util/HashMap$HashIterator" "current" "Ljava/util/HashMap$Node;" xc) (P6 : Fld Z h0 xa "java/util/HashMap$HashIterator" "index" "I" (.int xj)) (P7 : Fld Z h0 xm "java/util/HashMap" "modCount" "I" (.int xq)) (P8 : Fld Z h0 xm "java/util/HashMap" "table" "[Ljava/util/HashMap$Node;" (.ref xt)) (P9 : Arv Z h0 xt xk (.object "java/util/HashMap$Node") (16 : Int32) [.null, .ref x1, x2, x3, .null, .null, .null, .null, .null, .null, .null, .null, .null, .null, .null, .null] .null) (P10 : Fld Z h0 xn "java/util/HashMap$Node" "next" "Ljava/util/HashMap$Node;" .null) (P11 : @LT.lt Nat _ xm xa) (P12 : @LT.lt Nat _ xt xa) (P13 : @LT.lt Nat _ xn xa) (P14 : ¬ xj < 0 ∧ xj < (16 : Int32) ∧ List.getD ([.null, .ref x1, x2, x3, .null, .null, .null, .null, .null, .null, .null, .null, .null, .null, .null, .null] : List Value) xj.toNatClampNeg .null = .ref xy) : own_Met l Z (⟨"java/util/HashMap$HashIterator", "nextNode", "()Ljava/util/HashMap$Node;"⟩ : MethodName) jdk_99_method_3_code 3 (some (.object "java/util/HashMap$Node")) ws ({ frames := 0, cells := 0, slots := 0, locals := 0 } : Room) #[.ref xa] h0 (Q_own_nextNodeF Z xa xm xq xt xk xc xj xn x1 x2 x3 xy h0 n0) := by
  refine own_mk (plainFor_of_name own_pn_java_util_HashMap_HashIterator) O0 ?_
  intro p e s m below meth c s₁ hx hby hml hZ hown hnm hlk hret X0 e0 N0 z0 z1
  have K0 : Keep h0 h0 [xa] := Keep.refl _ _
  refine own_cast (own_ef_own_nextNodeF m xa) ?_
  show own_Goes p e below (s₁.setTop (mkF m 0 #[vR xa, uS, uS] [])) _
  have ltP0 : @LT.lt Nat _ xa h0.size := P0.lt
  have ltP9 : @LT.lt Nat _ xt h0.size := P9.lt
  refine q_aloadN X0 hx hby d40_0 rfl rfl ?_
  refine qG X0 hx hby hZ hown (wh hw 130 rfl) e0 P4 d40_1 (fun T1 X1 e1 => ?_)
  refine q_astoreN X1 hx hby d40_4 rfl (l' := #[vR xa, uS, vR xn]) rfl ?_
  refine q_aloadN X1 hx hby d40_5 rfl rfl ?_
  refine qG X1 hx hby hZ hown (wh hw 121 rfl) e1 P2 d40_6 (fun T2 X2 e2 => ?_)
  refine qG X2 hx hby hZ hown (wh hw 124 rfl) e2 P7 d40_9 (fun T3 X3 e3 => ?_)
  refine q_aloadN X3 hx hby d40_12 rfl rfl ?_
  refine qG X3 hx hby hZ hown (wh hw 126 rfl) e3 P3 d40_13 (fun T4 X4 e4 => ?_)
  refine q_icmpYes (pc := 16) X4 hx hby d40_16 (pc' := 27) (teq (rfl : xq = xq)).1 (by decide) (by decide) ?_
  refine q_aloadN X4 hx hby d40_27 rfl rfl ?_
  refine gg (fun t k => XS.ifnonnullYes X4.here hx rfl (pc0 := 28) (pc' := 39) rfl (hb hby d40_28) rfl (by decide) (by decide) k) ?_
  refine q_aloadN X4 hx hby d40_39 rfl rfl ?_
  refine q_aloadN X4 hx hby d40_40 rfl rfl ?_
  refine q_aloadN X4 hx hby d40_41 rfl rfl ?_
  show own_Goes p e below (T4.setTop (mkF m 42 #[vR xa, uS, vR xn] [.ref xn, .ref xa, .ref xa])) _
  refine gg (fun t k => XS.dupX1 X4.here hx rfl (hb hby d40_42) rfl rfl rfl k) ?_
  refine qP X4 hx hby hZ hown (host := "") (Or.inl (wh hw 132 rfl)) Via.refl e4 P5 P0 (Or.inl (wh hw 133 rfl)) (wh hw 109 rfl) (ty := (.object "java/util/HashMap$Node")) d40_43 (fun T5 h5 X5 e5 W5 => ?_)
  have O6 := O0.wr W5 (show n0 ≤ xa by omega)
  have sz7 : h5.size = h0.size := Wr.size W5
  have K8 := K0.wr W5 (Or.inl (List.mem_of_getElem? (i := 0) rfl))
  have N5 := Fr.snoc X5 N0 (show n0 ≤ xa by omega)
  have Fw5 := P5.same W5
  have f9 := (P10.other W5 (Or.inl (nE xn xa (by omega))))
  refine qG X5 hx hby hZ hown (wh hw 303 rfl) e5 f9 d40_46 (fun T10 X10 e10 => ?_)
  refine gg (fun t k => XS.dupX1 X10.here hx rfl (hb hby d40_49) rfl rfl rfl k) ?_
  have f11 := (P4.other W5 (Or.inr (slot_ne (Or.inl (wh hw 131 rfl)) (Or.inl (wh hw 133 rfl)) (by decide) (t := (.object "java/util/HashMap$Node")) (t' := (.object "java/util/HashMap$Node")) (by decide) (by decide))))
  have f12 := (P0.wr W5)
  refine qP X10 hx hby hZ hown (host := "") (Or.inl (wh hw 130 rfl)) Via.refl e10 f11 f12 (Or.inl (wh hw 131 rfl)) (wh hw 109 rfl) (ty := (.object "java/util/HashMap$Node")) d40_50 (fun T13 h13 X13 e13 W13 => ?_)
  have O14 := O6.wr W13 (show n0 ≤ xa by omega)
  have sz15 : h13.size = h5.size := Wr.size W13
  have K16 := K8.wr W13 (Or.inl (List.mem_of_getElem? (i := 0) rfl))
  have N13 := Fr.snoc X13 N5 (show n0 ≤ xa by omega)
  have Fw13 := f11.same W13
  refine gg (fun t k => XS.ifnonnullNo X13.here hx rfl (hb hby d40_53) rfl k) ?_
  refine q_aloadN X13 hx hby d40_56 rfl rfl ?_
  have f17 := ((P2.other W5 (Or.inr (slot_ne (Or.inr (wh hw 122 rfl)) (Or.inl (wh hw 133 rfl)) (by decide) (t := (.object "java/util/HashMap")) (t' := (.object "java/util/HashMap$Node")) (by decide) (by decide)))).other W13 (Or.inr (slot_ne (Or.inr (wh hw 122 rfl)) (Or.inl (wh hw 131 rfl)) (by decide) (t := (.object "java/util/HashMap")) (t' := (.object "java/util/HashMap$Node")) (by decide) (by decide))))
  refine qG X13 hx hby hZ hown (wh hw 121 rfl) e13 f17 d40_57 (fun T18 X18 e18 => ?_)
  have f19 := ((P8.other W5 (Or.inl (nE xm xa (by omega)))).other W13 (Or.inl (nE xm xa (by omega))))
  refine qG X18 hx hby hZ hown (wh hw 128 rfl) e18 f19 d40_60 (fun T20 X20 e20 => ?_)
  refine q_dup X20 hx hby d40_63 rfl ?_
  refine q_astoreN X20 hx hby d40_64 rfl (l' := #[vR xa, vR xt, vR xn]) rfl ?_
  refine q_ifnullNo X20 hx hby d40_65 ?_
  refine q_aloadN X20 hx hby d40_68 rfl rfl ?_
  have f21 := ((P6.other W5 (Or.inr (slot_ne (Or.inl (wh hw 135 rfl)) (Or.inl (wh hw 133 rfl)) (by decide) (t := .int) (t' := (.object "java/util/HashMap$Node")) (by decide) (by decide)))).other W13 (Or.inr (slot_ne (Or.inl (wh hw 135 rfl)) (Or.inl (wh hw 131 rfl)) (by decide) (t := .int) (t' := (.object "java/util/HashMap$Node")) (by decide) (by decide))))
  refine qG X20 hx hby hZ hown (wh hw 134 rfl) e20 f21 d40_69 (fun T22 X22 e22 => ?_)
  show own_Goes p e below (T22.setTop (mkF m 72 #[vR xa, vR xt, vR xn] [.int xj])) _
  refine q_aloadN X22 hx hby d40_72 rfl rfl ?_
  have f23 := ((P9.other W5 (nE xt xa (by omega))).other W13 (nE xt xa (by omega)))
  refine q_len X22 hx hby hZ e22 f23 d40_73 ?_
  refine q_icmpNo X22 hx hby d40_74 (tlt (show (xj < (16 : Int32)) from P14.2.1)).2.1 ?_
  refine q_aloadN X22 hx hby d40_77 rfl rfl ?_
  refine q_aloadN X22 hx hby d40_78 rfl rfl ?_
  refine q_aloadN X22 hx hby d40_79 rfl rfl ?_
  refine q_dup X22 hx hby d40_80 rfl ?_
  refine qG X22 hx hby hZ hown (wh hw 134 rfl) e22 f21 d40_81 (fun T25 X25 e25 => ?_)
  refine gg (fun t k => XS.dupX1 X25.here hx rfl (hb hby d40_84) rfl rfl rfl k) ?_
  refine q_iconst X25 hx hby d40_85 ?_
  refine q_iadd X25 hx hby d40_86 ?_
  have f26 := (f12.wr W13)
  refine qP X25 hx hby hZ hown (host := "") (Or.inl (wh hw 134 rfl)) Via.refl e25 f21 f26 (Or.inl (wh hw 135 rfl)) (wh hw 109 rfl) (ty := .int) d40_87 (fun T27 h27 X27 e27 W27 => ?_)
  have O28 := O14.wr W27 (show n0 ≤ xa by omega)
  have sz29 : h27.size = h13.size := Wr.size W27
  have K30 := K16.wr W27 (Or.inl (List.mem_of_getElem? (i := 0) rfl))
  have N27 := Fr.snoc X27 N13 (show n0 ≤ xa by omega)
  have Fw27 : Fld Z h27 xa "java/util/HashMap$HashIterator" "index" "I" (.int (xj + (1 : Int32))) := f21.same W27
  have f31 := (f23.other W27 (nE xt xa (by omega)))
  obtain ⟨clu32, Aru32, qu32, Szu32, Ngu32, Hsu32, Gsu32⟩ := id f31
  have inu32 : ¬ (xj < 0 ∨ clu32.slots.size ≤ (xj).toNatClampNeg) := own_inb16 P14.1 P14.2.1 Szu32
  have atu32 : clu32.slots[(xj).toNatClampNeg]? = some (.ref xy) := Hsu32.at inu32 P14.2.2
  refine gg (fun t k => X27.aaload hx (j := xj) (v := (.ref xy)) (by rw [e27]; exact Aru32.1) (State.isArrayOf_alike hZ.alike Aru32.2.1) rfl Aru32.2.2 inu32 atu32 (g := (mkF m 90 #[vR xa, vR xt, vR xn] [.int xj, .ref xt, .ref xa])) rfl rfl (hb hby d40_90) _ k) ?_
  refine gg (fun t k => XS.dupX1 X27.here hx rfl (hb hby d40_91) rfl rfl rfl k) ?_
  show own_Goes p e below (T27.setTop (mkF m 92 #[vR xa, vR xt, vR xn] [.ref xy, .ref xa, .ref xy])) _
  have f33 := (Fw13.other W27 (Or.inr (slot_ne (Or.inl (wh hw 131 rfl)) (Or.inl (wh hw 135 rfl)) (by decide) (t := (.object "java/util/HashMap$Node")) (t' := .int) (by decide) (by decide))))
  have f34 := (f26.wr W27)
  refine qP X27 hx hby hZ hown (host := "") (Or.inl (wh hw 130 rfl)) Via.refl e27 f33 f34 (Or.inl (wh hw 131 rfl)) (wh hw 109 rfl) (ty := (.object "java/util/HashMap$Node")) d40_92 (fun T35 h35 X35 e35 W35 => ?_)
  have O36 := O28.wr W35 (show n0 ≤ xa by omega)
  have sz37 : h35.size = h27.size := Wr.size W35
  have K38 := K30.wr W35 (Or.inl (List.mem_of_getElem? (i := 0) rfl))
  have N35 := Fr.snoc X35 N27 (show n0 ≤ xa by omega)
  have Fw35 := f33.same W35
  refine q_ifnullNo X35 hx hby d40_95 ?_
  refine q_aloadN X35 hx hby d40_98 rfl rfl ?_
  refine r_R X35 hx hby hret hlk d40_99 e35 ?_
  have f39 := ((f17.other W27 (Or.inr (slot_ne (Or.inr (wh hw 122 rfl)) (Or.inl (wh hw 135 rfl)) (by decide) (t := (.object "java/util/HashMap")) (t' := .int) (by decide) (by decide)))).other W35 (Or.inr (slot_ne (Or.inr (wh hw 122 rfl)) (Or.inl (wh hw 131 rfl)) (by decide) (t := (.object "java/util/HashMap")) (t' := (.object "java/util/HashMap$Node")) (by decide) (by decide))))
  have f40 := ((((P3.other W5 (Or.inr (slot_ne (Or.inl (wh hw 127 rfl)) (Or.inl (wh hw 133 rfl)) (by decide) (t := .int) (t' := (.object "java/util/HashMap$Node")) (by decide) (by decide)))).other W13 (Or.inr (slot_ne (Or.inl (wh hw 127 rfl)) (Or.inl (wh hw 131 rfl)) (by decide) (t := .int) (t' := (.object "java/util/HashMap$Node")) (by decide) (by decide)))).other W27 (Or.inr (slot_ne (Or.inl (wh hw 127 rfl)) (Or.inl (wh hw 135 rfl)) (by decide) (t := .int) (t' := .int) (by decide) (by decide)))).other W35 (Or.inr (slot_ne (Or.inl (wh hw 127 rfl)) (Or.inl (wh hw 131 rfl)) (by decide) (t := .int) (t' := (.object "java/util/HashMap$Node")) (by decide) (by decide))))
  have f41 := (((Fw5.other W13 (Or.inr (slot_ne (Or.inl (wh hw 133 rfl)) (Or.inl (wh hw 131 rfl)) (by decide) (t := (.object "java/util/HashMap$Node")) (t' := (.object "java/util/HashMap$Node")) (by decide) (by decide)))).other W27 (Or.inr (slot_ne (Or.inl (wh hw 133 rfl)) (Or.inl (wh hw 135 rfl)) (by decide) (t := (.object "java/util/HashMap$Node")) (t' := .int) (by decide) (by decide)))).other W35 (Or.inr (slot_ne (Or.inl (wh hw 133 rfl)) (Or.inl (wh hw 131 rfl)) (by decide) (t := (.object "java/util/HashMap$Node")) (t' := (.object "java/util/HashMap$Node")) (by decide) (by decide))))
  have f42 := (Fw27.other W35 (Or.inr (slot_ne (Or.inl (wh hw 135 rfl)) (Or.inl (wh hw 131 rfl)) (by decide) (t := .int) (t' := (.object "java/util/HashMap$Node")) (by decide) (by decide))))
  exact ⟨N35, K38, rfl, f39, f40, Fw35, f41, f42⟩
theorem own_ef_own_nextF (m : MethodId) (xa : Addr) : entryFrame m #[.ref xa] 1 = mkF m 0 #[vR xa] [] := by first | (simp [entryFrame, mkF, argsToLocals, Value.category]; done) | rfl
def Q_own_nextF (Z : State) (xa : Addr) (xm : Addr) (xq : Int32) (xt : Addr) (xk : ClassId) (xc : Value) (xj : Int32) (xn : Addr) (x1 : Addr) (x2 : Value) (x3 : Value) (xy : Addr) (xv : Addr) (h0 : Heap) (n0 : Nat) (v : Option Value) (h : Heap) (L : List Loc) : Prop := Fr n0 L ∧ Keep h0 h [xa] ∧ v = some (.ref xv) ∧ Fld Z h xa "java/util/HashMap$HashIterator" "this$0" "Ljava/util/HashMap;" (.ref xm) ∧ Fld Z h xa "java/util/HashMap$HashIterator" "expectedModCount" "I" (.int xq) ∧ Fld Z h xa "java/util/HashMap$HashIterator" "next" "Ljava/util/HashMap$Node;" (.ref xy) ∧ Fld Z h xa "java/util/HashMap$HashIterator" "current" "Ljava/util/HashMap$Node;" (.ref xn) ∧ Fld Z h xa "java/util/HashMap$HashIterator" "index" "I" (.int (xj + (1 : Int32)))
theorem own_nextF (l : Launch) (Z : State) (a0 : Array Value) (hw : ∀ d ∈ tables_1, d.before a0 Z = true) (ws : List Jvm.Cond) (xa : Addr) (xm : Addr) (xq : Int32) (xt : Addr) (xk : ClassId) (xc : Value) (xj : Int32) (xn : Addr) (x1 : Addr) (x2 : Value) (x3 : Value) (xy : Addr) (xv : Addr) (h0 : Heap) (n0 : Nat) (O0 : Old Z n0 h0) (P0 : Exa Z h0 xa "java/util/HashMap$ValueIterator") (P1 : n0 ≤ xa) (P2 : Fld Z h0 xa "java/util/HashMap$HashIterator" "this$0" "Ljava/util/HashMap;" (.ref xm)) (P3 : Fld Z h0 xa "java/util/HashMap$HashIterator" "expectedModCount" "I" (.int xq)) (P4 : Fld Z h0 xa "java/util/HashMap$HashIterator" "next" "Ljava/util/HashMap$Node;" (.ref xn)) (P5 : Fld Z h0 xa "java/util/HashMap$HashIterator" "current" "Ljava/util/HashMap$Node;" xc) (P6 : Fld Z h0 xa "java/util/HashMap$HashIterator" "index" "I" (.int xj)) (P7 : Fld Z h0 xm "java/util/HashMap" "modCount" "I" (.int xq)) (P8 : Fld Z h0 xm "java/util/HashMap" "table" "[Ljava/util/HashMap$Node;" (.ref xt)) (P9 : Arv Z h0 xt xk (.object "java/util/HashMap$Node") (16 : Int32) [.null, .ref x1, x2, x3, .null, .null, .null, .null, .null, .null, .null, .null, .null, .null, .null, .null] .null) (P10 : Fld Z h0 xn "java/util/HashMap$Node" "next" "Ljava/util/HashMap$Node;" .null) (P11 : @LT.lt Nat _ xm xa) (P12 : @LT.lt Nat _ xt xa) (P13 : @LT.lt Nat _ xn xa) (P14 : Fld Z h0 xn "java/util/HashMap$Node" "value" "Ljava/lang/Object;" (.ref xv)) (P15 : ¬ xj < 0 ∧ xj < (16 : Int32) ∧ List.getD ([.null, .ref x1, x2, x3, .null, .null, .null, .null, .null, .null, .null, .null, .null, .null, .null, .null] : List Value) xj.toNatClampNeg .null = .ref xy) : own_Met l Z (⟨"java/util/HashMap$ValueIterator", "next", "()Ljava/lang/Object;"⟩ : MethodName) jdk_2569_method_2_code 1 (some (.object "java/lang/Object")) ws ({ frames := 1, cells := 0, slots := 0, locals := 14 } : Room) #[.ref xa] h0 (Q_own_nextF Z xa xm xq xt xk xc xj xn x1 x2 x3 xy xv h0 n0) := by
  refine own_mk (plainFor_of_name own_pn_java_util_HashMap_ValueIterator) O0 ?_
  intro p e s m below meth c s₁ hx hby hml hZ hown hnm hlk hret X0 e0 N0 z0 z1
  have K0 : Keep h0 h0 [xa] := Keep.refl _ _
  refine own_cast (own_ef_own_nextF m xa) ?_
  show own_Goes p e below (s₁.setTop (mkF m 0 #[vR xa] [])) _
  have ltP0 : @LT.lt Nat _ xa h0.size := P0.lt
  have ltP9 : @LT.lt Nat _ xt h0.size := P9.lt
  refine q_aloadN X0 hx hby d39_0 rfl rfl ?_
  refine k_VU X0 hx hby hZ hown (wh hw 297 rfl) (wh hw 298 rfl) (wh hw 299 rfl) (wh hw 301 rfl) (wh hw 300 rfl) (W := 0) (own_nextNodeF l Z a0 hw [] xa xm xq xt xk xc xj xn x1 x2 x3 xy h0 n0 O0 P0 (show n0 ≤ xa by first | assumption | omega | decide) P2 P3 P4 P5 P6 P7 P8 P9 P10 (show @LT.lt Nat _ xm xa by first | assumption | omega | decide) (show @LT.lt Nat _ xt xa by first | assumption | omega | decide) (show @LT.lt Nat _ xn xa by first | assumption | omega | decide) (show ¬ xj < 0 ∧ xj < (16 : Int32) ∧ List.getD ([.null, .ref x1, x2, x3, .null, .null, .null, .null, .null, .null, .null, .null, .null, .null, .null, .null] : List Value) xj.toNatClampNeg .null = .ref xy from (by first | exact ⟨by decide, by decide, rfl⟩ | assumption))) (wh hw 302 rfl) (wh hw 119 rfl) e0 P0  hml (argsL := []) (rest := []) own_pd_14 d39_1 (fun _ T1 L1 X1 hQ1 => ?_)
  obtain ⟨h1, e1⟩ : ∃ z, T1.heap = z := ⟨_, rfl⟩
  rw [e1] at hQ1
  obtain ⟨Nc1, Kc1, rfl, c1_0, c1_1, c1_2, c1_3, c1_4⟩ := hQ1
  have N1 := Fr.app N0 Nc1
  have O2 := O0.keep Kc1 (allS (show n0 ≤ xa by omega) all0)
  have sz3 : h0.size ≤ h1.size := Kc1.1
  have K4 := Keep.trans K0 Kc1 (allS (Or.inl (List.mem_of_getElem? (i := 0) rfl)) all0)
  have f5 := (P14.keep Kc1 (ninS (nE xn xa (by omega)) nin0))
  refine qG X1 hx hby hZ hown (wh hw 304 rfl) e1 f5 d39_4 (fun T6 X6 e6 => ?_)
  refine r_R X6 hx hby hret hlk d39_7 e6 ?_
  exact ⟨N1, K4, rfl, c1_0, c1_1, c1_2, c1_3, c1_4⟩
theorem own_cpn {k n : Int32} (h : k < n) (hk : ¬ k < 0) : (0 : Int32).toNatClampNeg + k.toNatClampNeg ≤ n.toNatClampNeg := by
  have e : (0 : Int32).toInt = 0 := by decide
  rw [Int32.lt_iff_toInt_lt] at h hk
  simp only [Int32.toNatClampNeg]
  omega
theorem d16_0 : decode B16 0 = .ok (.iload_n 1, 1) := by decide +kernel
theorem d16_1 : decode B16 1 = .ok (.aload_n 0, 1) := by decide +kernel
theorem d16_2 : decode B16 2 = .ok (.arraylength, 1) := by decide +kernel
theorem d16_3 : decode B16 3 = .ok (.if_icmp .ne 11, 3) := by decide +kernel
theorem d16_6 : decode B16 6 = .ok (.aload_n 0, 1) := by decide +kernel
theorem d16_7 : decode B16 7 = .ok (.invokevirtual 316, 3) := by decide +kernel
theorem d16_10 : decode B16 10 = .ok (.checkcast 317, 3) := by decide +kernel
theorem d16_13 : decode B16 13 = .ok (.areturn, 1) := by decide +kernel
theorem own_pn_java_util_Arrays : plainName "java/util/Arrays" = true := by first | (simp [plainName, overriddenIn]; done) | decide +kernel
theorem own_ef_own_copy0 (m : MethodId) (xa : Addr) : entryFrame m #[.ref xa, .int 0] 3 = mkF m 0 #[vR xa, vI 0, uS] [] := by first | (simp [entryFrame, mkF, argsToLocals, Value.category]; done) | rfl
def Q_own_copy0 (Z : State) (xa : Addr) (xk : ClassId) (h0 : Heap) (n0 : Nat) (v : Option Value) (h : Heap) (L : List Loc) : Prop := Fr n0 L ∧ Keep h0 h [] ∧ ∃ (r : Addr), ∃ (rk : ClassId), v = some (.ref r) ∧ Arv Z h r rk .int (0 : Int32) [] (.int 0) ∧ h0.size ≤ r
theorem own_copy0 (l : Launch) (Z : State) (a0 : Array Value) (hw : ∀ d ∈ tables_1, d.before a0 Z = true) (ws : List Jvm.Cond) (xa : Addr) (xk : ClassId) (h0 : Heap) (n0 : Nat) (O0 : Old Z n0 h0) (P0 : Exa Z h0 xa "[I") (P1 : Arv Z h0 xa xk .int (0 : Int32) [] (.int 0)) : own_Met l Z (⟨"java/util/Arrays", "copyOf", "([II)[I"⟩ : MethodName) jdk_65_method_123_code 3 (some (.array .int)) ws ({ frames := 1, cells := 1, slots := 0, locals := 14 } : Room) #[.ref xa, .int 0] h0 (Q_own_copy0 Z xa xk h0 n0) := by
  refine own_mk (plainFor_of_name own_pn_java_util_Arrays) O0 ?_
  intro p e s m below meth c s₁ hx hby hml hZ hown hnm hlk hret X0 e0 N0 z0 z1
  have K0 : Keep h0 h0 [] := Keep.refl _ _
  refine own_cast (own_ef_own_copy0 m xa) ?_
  show own_Goes p e below (s₁.setTop (mkF m 0 #[vR xa, vI 0, uS] [])) _
  have ltP0 : @LT.lt Nat _ xa h0.size := P0.lt
  have ltP1 : @LT.lt Nat _ xa h0.size := P1.lt
  refine q_iloadN X0 hx hby d16_0 rfl ?_
  refine q_aloadN X0 hx hby d16_1 rfl rfl ?_
  refine q_len X0 hx hby hZ e0 P1 d16_2 ?_
  refine q_icmpNo X0 hx hby d16_3 (teq (show ((0 : Int32) = (0 : Int32)) from by decide)).2 ?_
  refine q_aloadN X0 hx hby d16_6 rfl rfl ?_
  obtain ⟨T2, h2, X2, e2, E2, V2, A2, st2⟩ := cloneH X0 hx hZ hown (wh hw 151 rfl) (wh hw 152 rfl) (wh hw 156 rfl) (wh hw 154 rfl) (wh hw 155 rfl) (wh hw 157 rfl) e0 (Arv.arh P1) P0 (g := (mkF m 7 #[vR xa, vI 0, uS] [.ref xa])) rfl (by rw [hml]; rfl) rfl (hb hby d16_7) (by decide) (W := 0) (cap := 0) (by show 2 * 0 + _ ≤ _; exact Nat.le_of_eq rfl) (by decide) (by decide) (by decide) (by decide)
  obtain ⟨b2, g2⟩ : ∃ z, z = h0.size := ⟨_, rfl⟩
  rw [← g2] at A2 V2 st2
  refine gg st2 ?_
  have O3 := O0.ext E2
  have sz4 : h0.size ≤ h2.size := E2.1
  have K5 := K0.ext E2
  have l2 : @LT.lt Nat _ b2 h2.size := A2.lt
  replace V2 : Arv Z h2 b2 xk .int (0 : Int32) [] (.int 0) := V2
  obtain ⟨T6, X6, e6, st6⟩ := castY X2 hx hZ hown (wh hw 158 rfl) e2 (Ins.self A2) (g := (mkF m 10 #[vR xa, vI 0, uS] [.ref b2])) rfl rfl (hb hby d16_10)
  refine gg st6 ?_
  refine r_R X6 hx hby hret hlk d16_13 e6 ?_
  exact ⟨N0, K5, b2, xk, rfl, V2, (show h0.size ≤ b2 by first | assumption | omega | decide)⟩
theorem d16_14 : decode B16 14 = .ok (.iload_n 1, 1) := by decide +kernel
theorem d16_15 : decode B16 15 = .ok (.newarray .int, 2) := by decide +kernel
theorem d16_17 : decode B16 17 = .ok (.astore_n 2, 1) := by decide +kernel
theorem d16_18 : decode B16 18 = .ok (.aload_n 0, 1) := by decide +kernel
theorem d16_19 : decode B16 19 = .ok (.iconst 0, 1) := by decide +kernel
theorem d16_20 : decode B16 20 = .ok (.aload_n 2, 1) := by decide +kernel
theorem d16_21 : decode B16 21 = .ok (.iconst 0, 1) := by decide +kernel
theorem d16_22 : decode B16 22 = .ok (.aload_n 0, 1) := by decide +kernel
theorem d16_23 : decode B16 23 = .ok (.arraylength, 1) := by decide +kernel
theorem d16_24 : decode B16 24 = .ok (.iload_n 1, 1) := by decide +kernel
theorem d16_25 : decode B16 25 = .ok (.invokestatic 304, 3) := by decide +kernel
theorem own_pd_15 : parseMethodDescriptor "(II)I" = some ⟨[.int, .int], some .int⟩ := by decide +kernel
theorem d16_28 : decode B16 28 = .ok (.invokestatic 150, 3) := by decide +kernel
theorem d16_31 : decode B16 31 = .ok (.aload_n 2, 1) := by decide +kernel
theorem d16_32 : decode B16 32 = .ok (.areturn, 1) := by decide +kernel
theorem own_ef_own_copyS0 (m : MethodId) (xa : Addr) : entryFrame m #[.ref xa, .int 0] 3 = mkF m 0 #[vR xa, vI 0, uS] [] := by first | (simp [entryFrame, mkF, argsToLocals, Value.category]; done) | rfl
def Q_own_copyS0 (Z : State) (xa : Addr) (xk : ClassId) (xn : Int32) (h0 : Heap) (n0 : Nat) (v : Option Value) (h : Heap) (L : List Loc) : Prop := Fr n0 L ∧ Keep h0 h [] ∧ ∃ (r : Addr), ∃ (rk : ClassId), v = some (.ref r) ∧ Arv Z h r rk .int (0 : Int32) [] (.int 0) ∧ h0.size ≤ r
theorem own_copyS0 (l : Launch) (Z : State) (a0 : Array Value) (hw : ∀ d ∈ tables_1, d.before a0 Z = true) (ws : List Jvm.Cond) (xa : Addr) (xk : ClassId) (xn : Int32) (h0 : Heap) (n0 : Nat) (O0 : Old Z n0 h0) (P0 : Arv Z h0 xa xk .int xn [] (.int 0)) (P1 : ¬ (0 : Int32) = xn) (P2 : (0 : Int32) < xn) : own_Met l Z (⟨"java/util/Arrays", "copyOf", "([II)[I"⟩ : MethodName) jdk_65_method_123_code 3 (some (.array .int)) ws ({ frames := 1, cells := 1, slots := 0, locals := 40 } : Room) #[.ref xa, .int 0] h0 (Q_own_copyS0 Z xa xk xn h0 n0) := by
  refine own_mk (plainFor_of_name own_pn_java_util_Arrays) O0 ?_
  intro p e s m below meth c s₁ hx hby hml hZ hown hnm hlk hret X0 e0 N0 z0 z1
  have K0 : Keep h0 h0 [] := Keep.refl _ _
  refine own_cast (own_ef_own_copyS0 m xa) ?_
  show own_Goes p e below (s₁.setTop (mkF m 0 #[vR xa, vI 0, uS] [])) _
  have ltP0 : @LT.lt Nat _ xa h0.size := P0.lt
  refine q_iloadN X0 hx hby d16_0 rfl ?_
  refine q_aloadN X0 hx hby d16_1 rfl rfl ?_
  refine q_len X0 hx hby hZ e0 P0 d16_2 ?_
  refine q_icmpYes (pc := 3) X0 hx hby d16_3 (pc' := 14) (feq (show ¬ ((0 : Int32) = xn) from P1)).2 (by decide) (by decide) ?_
  refine q_iloadN X0 hx hby d16_14 rfl ?_
  obtain ⟨T2, h2, k2, X2, e2, E2, A2, Ex2, st2⟩ := newPE X0 hx hZ (wh hw 63 rfl) e0 (g := (mkF m 15 #[vR xa, vI 0, uS] [.int 0])) rfl (hb hby d16_15) rfl (by decide) (cap := 0) (by decide) (by decide) (by decide) (by decide) (ad := "[I") (by decide)
  obtain ⟨b2, g2⟩ : ∃ z, z = h0.size := ⟨_, rfl⟩
  rw [← g2] at A2 st2 Ex2
  refine gg st2 ?_
  have O3 := O0.ext E2
  have sz4 : h0.size ≤ h2.size := E2.1
  have K5 := K0.ext E2
  have l2 : @LT.lt Nat _ b2 h2.size := A2.lt
  have V2 : Arv Z h2 b2 k2 .int (0 : Int32) [] (.int 0) := (Arv.new A2 (by decide)).pad (pad_rep [] (.int 0) 0)
  refine q_astoreN X2 hx hby d16_17 rfl (l' := #[vR xa, vI 0, vR b2]) rfl ?_
  refine q_aloadN X2 hx hby d16_18 rfl rfl ?_
  refine q_iconst X2 hx hby d16_19 ?_
  refine q_aloadN X2 hx hby d16_20 rfl rfl ?_
  refine q_iconst X2 hx hby d16_21 ?_
  refine q_aloadN X2 hx hby d16_22 rfl rfl ?_
  have f6 := (P0.ext E2)
  refine q_len X2 hx hby hZ e2 f6 d16_23 ?_
  refine q_iloadN X2 hx hby d16_24 rfl ?_
  show own_Goes p e below (T2.setTop (mkF m 25 #[vR xa, vI 0, vR b2] [.int 0, .int xn, .int 0, .ref b2, .int 0, .ref xa])) _
  refine k_S X2 hx hby hZ hown (wh hw 327 rfl) (wh hw 180 rfl) (W := 4) (own_minR l Z a0 hw [] xn (0 : Int32) h2 n0 O3 (show (0 : Int32) < xn by first | assumption | omega | decide)) (wh hw 181 rfl) (wh hw 177 rfl) e2  hml (argsL := [.int xn, .int 0]) (rest := [.int 0, .ref b2, .int 0, .ref xa]) own_pd_15 d16_25 (fun _ T8 L8 X8 hQ8 => ?_)
  obtain ⟨Nc8, e8, rfl⟩ := hQ8
  have N8 := Fr.app N0 Nc8
  obtain ⟨T9, h9, Lq9, X9, e9, N9, Kc9, V9, st9⟩ := cpA X8 hx hZ hown (wh hw 328 rfl) (wh hw 331 rfl) (wh hw 329 rfl) (wh hw 330 rfl) e8 f6 V2 (sp := (0 : Int32)) (dp := (0 : Int32)) (nn := (0 : Int32)) (us := []) (Or.inl ⟨rfl, rfl⟩) (by decide) (by decide) (by decide) (own_cpn P2 (by decide)) (by decide) rfl (by decide) N8 (show n0 ≤ b2 by omega) (g := (mkF m 28 #[vR xa, vI 0, vR b2] [.int 0, .int 0, .ref b2, .int 0, .ref xa])) rfl (by rw [hml]; rfl) rfl (hb hby d16_28) (by decide) (W := 0) (by show 2 * 0 + _ ≤ _; exact Nat.le_of_eq rfl) (by decide)
  refine gg st9 ?_
  have O10 := O3.keep Kc9 (allS (show n0 ≤ b2 by omega) all0)
  have sz11 : h2.size ≤ h9.size := Kc9.1
  have K12 := Keep.trans K5 Kc9 (allS (Or.inr (show h0.size ≤ b2 by omega)) all0)
  replace V9 : Arv Z h9 b2 k2 .int (0 : Int32) [] (.int 0) := V9
  refine q_aloadN X9 hx hby d16_31 rfl rfl ?_
  refine r_R X9 hx hby hret hlk d16_32 e9 ?_
  exact ⟨N9, K12, b2, k2, rfl, V9, (show h0.size ≤ b2 by first | assumption | omega | decide)⟩
theorem own_ef_own_copy1 (m : MethodId) (xa : Addr) : entryFrame m #[.ref xa, .int 1] 3 = mkF m 0 #[vR xa, vI 1, uS] [] := by first | (simp [entryFrame, mkF, argsToLocals, Value.category]; done) | rfl
def Q_own_copy1 (Z : State) (xa : Addr) (xk : ClassId) (y0 : Int32) (h0 : Heap) (n0 : Nat) (v : Option Value) (h : Heap) (L : List Loc) : Prop := Fr n0 L ∧ Keep h0 h [] ∧ ∃ (r : Addr), ∃ (rk : ClassId), v = some (.ref r) ∧ Arv Z h r rk .int (1 : Int32) [.int y0] (.int 0) ∧ h0.size ≤ r
theorem own_copy1 (l : Launch) (Z : State) (a0 : Array Value) (hw : ∀ d ∈ tables_1, d.before a0 Z = true) (ws : List Jvm.Cond) (xa : Addr) (xk : ClassId) (y0 : Int32) (h0 : Heap) (n0 : Nat) (O0 : Old Z n0 h0) (P0 : Exa Z h0 xa "[I") (P1 : Arv Z h0 xa xk .int (1 : Int32) [.int y0] (.int 0)) : own_Met l Z (⟨"java/util/Arrays", "copyOf", "([II)[I"⟩ : MethodName) jdk_65_method_123_code 3 (some (.array .int)) ws ({ frames := 1, cells := 1, slots := 1, locals := 14 } : Room) #[.ref xa, .int 1] h0 (Q_own_copy1 Z xa xk y0 h0 n0) := by
  refine own_mk (plainFor_of_name own_pn_java_util_Arrays) O0 ?_
  intro p e s m below meth c s₁ hx hby hml hZ hown hnm hlk hret X0 e0 N0 z0 z1
  have K0 : Keep h0 h0 [] := Keep.refl _ _
  refine own_cast (own_ef_own_copy1 m xa) ?_
  show own_Goes p e below (s₁.setTop (mkF m 0 #[vR xa, vI 1, uS] [])) _
  have ltP0 : @LT.lt Nat _ xa h0.size := P0.lt
  have ltP1 : @LT.lt Nat _ xa h0.size := P1.lt
  refine q_iloadN X0 hx hby d16_0 rfl ?_
  refine q_aloadN X0 hx hby d16_1 rfl rfl ?_
  refine q_len X0 hx hby hZ e0 P1 d16_2 ?_
  refine q_icmpNo X0 hx hby d16_3 (teq (show ((1 : Int32) = (1 : Int32)) from by decide)).2 ?_
  refine q_aloadN X0 hx hby d16_6 rfl rfl ?_
  obtain ⟨T2, h2, X2, e2, E2, V2, A2, st2⟩ := cloneH X0 hx hZ hown (wh hw 151 rfl) (wh hw 152 rfl) (wh hw 156 rfl) (wh hw 154 rfl) (wh hw 155 rfl) (wh hw 157 rfl) e0 (Arv.arh P1) P0 (g := (mkF m 7 #[vR xa, vI 1, uS] [.ref xa])) rfl (by rw [hml]; rfl) rfl (hb hby d16_7) (by decide) (W := 0) (cap := 1) (by show 2 * 0 + _ ≤ _; exact Nat.le_of_eq rfl) (by decide) (by decide) (by decide) (by decide)
  obtain ⟨b2, g2⟩ : ∃ z, z = h0.size := ⟨_, rfl⟩
  rw [← g2] at A2 V2 st2
  refine gg st2 ?_
  have O3 := O0.ext E2
  have sz4 : h0.size ≤ h2.size := E2.1
  have K5 := K0.ext E2
  have l2 : @LT.lt Nat _ b2 h2.size := A2.lt
  replace V2 : Arv Z h2 b2 xk .int (1 : Int32) [.int y0] (.int 0) := V2
  obtain ⟨T6, X6, e6, st6⟩ := castY X2 hx hZ hown (wh hw 158 rfl) e2 (Ins.self A2) (g := (mkF m 10 #[vR xa, vI 1, uS] [.ref b2])) rfl rfl (hb hby d16_10)
  refine gg st6 ?_
  refine r_R X6 hx hby hret hlk d16_13 e6 ?_
  exact ⟨N0, K5, b2, xk, rfl, V2, (show h0.size ≤ b2 by first | assumption | omega | decide)⟩
theorem own_ef_own_copyS1 (m : MethodId) (xa : Addr) : entryFrame m #[.ref xa, .int 1] 3 = mkF m 0 #[vR xa, vI 1, uS] [] := by first | (simp [entryFrame, mkF, argsToLocals, Value.category]; done) | rfl
def Q_own_copyS1 (Z : State) (xa : Addr) (xk : ClassId) (xn : Int32) (y0 : Int32) (h0 : Heap) (n0 : Nat) (v : Option Value) (h : Heap) (L : List Loc) : Prop := Fr n0 L ∧ Keep h0 h [] ∧ ∃ (r : Addr), ∃ (rk : ClassId), v = some (.ref r) ∧ Arv Z h r rk .int (1 : Int32) [.int y0] (.int 0) ∧ h0.size ≤ r
theorem own_copyS1 (l : Launch) (Z : State) (a0 : Array Value) (hw : ∀ d ∈ tables_1, d.before a0 Z = true) (ws : List Jvm.Cond) (xa : Addr) (xk : ClassId) (xn : Int32) (y0 : Int32) (h0 : Heap) (n0 : Nat) (O0 : Old Z n0 h0) (P0 : Arv Z h0 xa xk .int xn [.int y0] (.int 0)) (P1 : ¬ (1 : Int32) = xn) (P2 : (1 : Int32) < xn) : own_Met l Z (⟨"java/util/Arrays", "copyOf", "([II)[I"⟩ : MethodName) jdk_65_method_123_code 3 (some (.array .int)) ws ({ frames := 1, cells := 1, slots := 1, locals := 40 } : Room) #[.ref xa, .int 1] h0 (Q_own_copyS1 Z xa xk xn y0 h0 n0) := by
  refine own_mk (plainFor_of_name own_pn_java_util_Arrays) O0 ?_
  intro p e s m below meth c s₁ hx hby hml hZ hown hnm hlk hret X0 e0 N0 z0 z1
  have K0 : Keep h0 h0 [] := Keep.refl _ _
  refine own_cast (own_ef_own_copyS1 m xa) ?_
  show own_Goes p e below (s₁.setTop (mkF m 0 #[vR xa, vI 1, uS] [])) _
  have ltP0 : @LT.lt Nat _ xa h0.size := P0.lt
  refine q_iloadN X0 hx hby d16_0 rfl ?_
  refine q_aloadN X0 hx hby d16_1 rfl rfl ?_
  refine q_len X0 hx hby hZ e0 P0 d16_2 ?_
  refine q_icmpYes (pc := 3) X0 hx hby d16_3 (pc' := 14) (feq (show ¬ ((1 : Int32) = xn) from P1)).2 (by decide) (by decide) ?_
  refine q_iloadN X0 hx hby d16_14 rfl ?_
  obtain ⟨T2, h2, k2, X2, e2, E2, A2, Ex2, st2⟩ := newPE X0 hx hZ (wh hw 63 rfl) e0 (g := (mkF m 15 #[vR xa, vI 1, uS] [.int 1])) rfl (hb hby d16_15) rfl (by decide) (cap := 1) (by decide) (by decide) (by decide) (by decide) (ad := "[I") (by decide)
  obtain ⟨b2, g2⟩ : ∃ z, z = h0.size := ⟨_, rfl⟩
  rw [← g2] at A2 st2 Ex2
  refine gg st2 ?_
  have O3 := O0.ext E2
  have sz4 : h0.size ≤ h2.size := E2.1
  have K5 := K0.ext E2
  have l2 : @LT.lt Nat _ b2 h2.size := A2.lt
  have V2 : Arv Z h2 b2 k2 .int (1 : Int32) [.int 0] (.int 0) := (Arv.new A2 (by decide)).pad (pad_rep [] (.int 0) 1)
  refine q_astoreN X2 hx hby d16_17 rfl (l' := #[vR xa, vI 1, vR b2]) rfl ?_
  refine q_aloadN X2 hx hby d16_18 rfl rfl ?_
  refine q_iconst X2 hx hby d16_19 ?_
  refine q_aloadN X2 hx hby d16_20 rfl rfl ?_
  refine q_iconst X2 hx hby d16_21 ?_
  refine q_aloadN X2 hx hby d16_22 rfl rfl ?_
  have f6 := (P0.ext E2)
  refine q_len X2 hx hby hZ e2 f6 d16_23 ?_
  refine q_iloadN X2 hx hby d16_24 rfl ?_
  show own_Goes p e below (T2.setTop (mkF m 25 #[vR xa, vI 1, vR b2] [.int 1, .int xn, .int 0, .ref b2, .int 0, .ref xa])) _
  refine k_S X2 hx hby hZ hown (wh hw 327 rfl) (wh hw 180 rfl) (W := 4) (own_minR l Z a0 hw [] xn (1 : Int32) h2 n0 O3 (show (1 : Int32) < xn by first | assumption | omega | decide)) (wh hw 181 rfl) (wh hw 177 rfl) e2  hml (argsL := [.int xn, .int 1]) (rest := [.int 0, .ref b2, .int 0, .ref xa]) own_pd_15 d16_25 (fun _ T8 L8 X8 hQ8 => ?_)
  obtain ⟨Nc8, e8, rfl⟩ := hQ8
  have N8 := Fr.app N0 Nc8
  obtain ⟨T9, h9, Lq9, X9, e9, N9, Kc9, V9, st9⟩ := cpA X8 hx hZ hown (wh hw 328 rfl) (wh hw 331 rfl) (wh hw 329 rfl) (wh hw 330 rfl) e8 f6 V2 (sp := (0 : Int32)) (dp := (0 : Int32)) (nn := (1 : Int32)) (us := [.int y0]) (Or.inl ⟨rfl, rfl⟩) (by decide) (by decide) (by decide) (own_cpn P2 (by decide)) (by decide) rfl (by decide) N8 (show n0 ≤ b2 by omega) (g := (mkF m 28 #[vR xa, vI 1, vR b2] [.int 1, .int 0, .ref b2, .int 0, .ref xa])) rfl (by rw [hml]; rfl) rfl (hb hby d16_28) (by decide) (W := 0) (by show 2 * 0 + _ ≤ _; exact Nat.le_of_eq rfl) (by decide)
  refine gg st9 ?_
  have O10 := O3.keep Kc9 (allS (show n0 ≤ b2 by omega) all0)
  have sz11 : h2.size ≤ h9.size := Kc9.1
  have K12 := Keep.trans K5 Kc9 (allS (Or.inr (show h0.size ≤ b2 by omega)) all0)
  replace V9 : Arv Z h9 b2 k2 .int (1 : Int32) [.int y0] (.int 0) := V9
  refine q_aloadN X9 hx hby d16_31 rfl rfl ?_
  refine r_R X9 hx hby hret hlk d16_32 e9 ?_
  exact ⟨N9, K12, b2, k2, rfl, V9, (show h0.size ≤ b2 by first | assumption | omega | decide)⟩
theorem own_ef_own_copy2 (m : MethodId) (xa : Addr) : entryFrame m #[.ref xa, .int 2] 3 = mkF m 0 #[vR xa, vI 2, uS] [] := by first | (simp [entryFrame, mkF, argsToLocals, Value.category]; done) | rfl
def Q_own_copy2 (Z : State) (xa : Addr) (xk : ClassId) (y0 : Int32) (y1 : Int32) (h0 : Heap) (n0 : Nat) (v : Option Value) (h : Heap) (L : List Loc) : Prop := Fr n0 L ∧ Keep h0 h [] ∧ ∃ (r : Addr), ∃ (rk : ClassId), v = some (.ref r) ∧ Arv Z h r rk .int (2 : Int32) [.int y0, .int y1] (.int 0) ∧ h0.size ≤ r
theorem own_copy2 (l : Launch) (Z : State) (a0 : Array Value) (hw : ∀ d ∈ tables_1, d.before a0 Z = true) (ws : List Jvm.Cond) (xa : Addr) (xk : ClassId) (y0 : Int32) (y1 : Int32) (h0 : Heap) (n0 : Nat) (O0 : Old Z n0 h0) (P0 : Exa Z h0 xa "[I") (P1 : Arv Z h0 xa xk .int (2 : Int32) [.int y0, .int y1] (.int 0)) : own_Met l Z (⟨"java/util/Arrays", "copyOf", "([II)[I"⟩ : MethodName) jdk_65_method_123_code 3 (some (.array .int)) ws ({ frames := 1, cells := 1, slots := 2, locals := 14 } : Room) #[.ref xa, .int 2] h0 (Q_own_copy2 Z xa xk y0 y1 h0 n0) := by
  refine own_mk (plainFor_of_name own_pn_java_util_Arrays) O0 ?_
  intro p e s m below meth c s₁ hx hby hml hZ hown hnm hlk hret X0 e0 N0 z0 z1
  have K0 : Keep h0 h0 [] := Keep.refl _ _
  refine own_cast (own_ef_own_copy2 m xa) ?_
  show own_Goes p e below (s₁.setTop (mkF m 0 #[vR xa, vI 2, uS] [])) _
  have ltP0 : @LT.lt Nat _ xa h0.size := P0.lt
  have ltP1 : @LT.lt Nat _ xa h0.size := P1.lt
  refine q_iloadN X0 hx hby d16_0 rfl ?_
  refine q_aloadN X0 hx hby d16_1 rfl rfl ?_
  refine q_len X0 hx hby hZ e0 P1 d16_2 ?_
  refine q_icmpNo X0 hx hby d16_3 (teq (show ((2 : Int32) = (2 : Int32)) from by decide)).2 ?_
  refine q_aloadN X0 hx hby d16_6 rfl rfl ?_
  obtain ⟨T2, h2, X2, e2, E2, V2, A2, st2⟩ := cloneH X0 hx hZ hown (wh hw 151 rfl) (wh hw 152 rfl) (wh hw 156 rfl) (wh hw 154 rfl) (wh hw 155 rfl) (wh hw 157 rfl) e0 (Arv.arh P1) P0 (g := (mkF m 7 #[vR xa, vI 2, uS] [.ref xa])) rfl (by rw [hml]; rfl) rfl (hb hby d16_7) (by decide) (W := 0) (cap := 2) (by show 2 * 0 + _ ≤ _; exact Nat.le_of_eq rfl) (by decide) (by decide) (by decide) (by decide)
  obtain ⟨b2, g2⟩ : ∃ z, z = h0.size := ⟨_, rfl⟩
  rw [← g2] at A2 V2 st2
  refine gg st2 ?_
  have O3 := O0.ext E2
  have sz4 : h0.size ≤ h2.size := E2.1
  have K5 := K0.ext E2
  have l2 : @LT.lt Nat _ b2 h2.size := A2.lt
  replace V2 : Arv Z h2 b2 xk .int (2 : Int32) [.int y0, .int y1] (.int 0) := V2
  obtain ⟨T6, X6, e6, st6⟩ := castY X2 hx hZ hown (wh hw 158 rfl) e2 (Ins.self A2) (g := (mkF m 10 #[vR xa, vI 2, uS] [.ref b2])) rfl rfl (hb hby d16_10)
  refine gg st6 ?_
  refine r_R X6 hx hby hret hlk d16_13 e6 ?_
  exact ⟨N0, K5, b2, xk, rfl, V2, (show h0.size ≤ b2 by first | assumption | omega | decide)⟩
theorem own_ef_own_copyS2 (m : MethodId) (xa : Addr) : entryFrame m #[.ref xa, .int 2] 3 = mkF m 0 #[vR xa, vI 2, uS] [] := by first | (simp [entryFrame, mkF, argsToLocals, Value.category]; done) | rfl
def Q_own_copyS2 (Z : State) (xa : Addr) (xk : ClassId) (xn : Int32) (y0 : Int32) (y1 : Int32) (h0 : Heap) (n0 : Nat) (v : Option Value) (h : Heap) (L : List Loc) : Prop := Fr n0 L ∧ Keep h0 h [] ∧ ∃ (r : Addr), ∃ (rk : ClassId), v = some (.ref r) ∧ Arv Z h r rk .int (2 : Int32) [.int y0, .int y1] (.int 0) ∧ h0.size ≤ r
theorem own_copyS2 (l : Launch) (Z : State) (a0 : Array Value) (hw : ∀ d ∈ tables_1, d.before a0 Z = true) (ws : List Jvm.Cond) (xa : Addr) (xk : ClassId) (xn : Int32) (y0 : Int32) (y1 : Int32) (h0 : Heap) (n0 : Nat) (O0 : Old Z n0 h0) (P0 : Arv Z h0 xa xk .int xn [.int y0, .int y1] (.int 0)) (P1 : ¬ (2 : Int32) = xn) (P2 : (2 : Int32) < xn) : own_Met l Z (⟨"java/util/Arrays", "copyOf", "([II)[I"⟩ : MethodName) jdk_65_method_123_code 3 (some (.array .int)) ws ({ frames := 1, cells := 1, slots := 2, locals := 40 } : Room) #[.ref xa, .int 2] h0 (Q_own_copyS2 Z xa xk xn y0 y1 h0 n0) := by
  refine own_mk (plainFor_of_name own_pn_java_util_Arrays) O0 ?_
  intro p e s m below meth c s₁ hx hby hml hZ hown hnm hlk hret X0 e0 N0 z0 z1
  have K0 : Keep h0 h0 [] := Keep.refl _ _
  refine own_cast (own_ef_own_copyS2 m xa) ?_
  show own_Goes p e below (s₁.setTop (mkF m 0 #[vR xa, vI 2, uS] [])) _
  have ltP0 : @LT.lt Nat _ xa h0.size := P0.lt
  refine q_iloadN X0 hx hby d16_0 rfl ?_
  refine q_aloadN X0 hx hby d16_1 rfl rfl ?_
  refine q_len X0 hx hby hZ e0 P0 d16_2 ?_
  refine q_icmpYes (pc := 3) X0 hx hby d16_3 (pc' := 14) (feq (show ¬ ((2 : Int32) = xn) from P1)).2 (by decide) (by decide) ?_
  refine q_iloadN X0 hx hby d16_14 rfl ?_
  obtain ⟨T2, h2, k2, X2, e2, E2, A2, Ex2, st2⟩ := newPE X0 hx hZ (wh hw 63 rfl) e0 (g := (mkF m 15 #[vR xa, vI 2, uS] [.int 2])) rfl (hb hby d16_15) rfl (by decide) (cap := 2) (by decide) (by decide) (by decide) (by decide) (ad := "[I") (by decide)
  obtain ⟨b2, g2⟩ : ∃ z, z = h0.size := ⟨_, rfl⟩
  rw [← g2] at A2 st2 Ex2
  refine gg st2 ?_
  have O3 := O0.ext E2
  have sz4 : h0.size ≤ h2.size := E2.1
  have K5 := K0.ext E2
  have l2 : @LT.lt Nat _ b2 h2.size := A2.lt
  have V2 : Arv Z h2 b2 k2 .int (2 : Int32) [.int 0, .int 0] (.int 0) := (Arv.new A2 (by decide)).pad (pad_rep [] (.int 0) 2)
  refine q_astoreN X2 hx hby d16_17 rfl (l' := #[vR xa, vI 2, vR b2]) rfl ?_
  refine q_aloadN X2 hx hby d16_18 rfl rfl ?_
  refine q_iconst X2 hx hby d16_19 ?_
  refine q_aloadN X2 hx hby d16_20 rfl rfl ?_
  refine q_iconst X2 hx hby d16_21 ?_
  refine q_aloadN X2 hx hby d16_22 rfl rfl ?_
  have f6 := (P0.ext E2)
  refine q_len X2 hx hby hZ e2 f6 d16_23 ?_
  refine q_iloadN X2 hx hby d16_24 rfl ?_
  show own_Goes p e below (T2.setTop (mkF m 25 #[vR xa, vI 2, vR b2] [.int 2, .int xn, .int 0, .ref b2, .int 0, .ref xa])) _
  refine k_S X2 hx hby hZ hown (wh hw 327 rfl) (wh hw 180 rfl) (W := 4) (own_minR l Z a0 hw [] xn (2 : Int32) h2 n0 O3 (show (2 : Int32) < xn by first | assumption | omega | decide)) (wh hw 181 rfl) (wh hw 177 rfl) e2  hml (argsL := [.int xn, .int 2]) (rest := [.int 0, .ref b2, .int 0, .ref xa]) own_pd_15 d16_25 (fun _ T8 L8 X8 hQ8 => ?_)
  obtain ⟨Nc8, e8, rfl⟩ := hQ8
  have N8 := Fr.app N0 Nc8
  obtain ⟨T9, h9, Lq9, X9, e9, N9, Kc9, V9, st9⟩ := cpA X8 hx hZ hown (wh hw 328 rfl) (wh hw 331 rfl) (wh hw 329 rfl) (wh hw 330 rfl) e8 f6 V2 (sp := (0 : Int32)) (dp := (0 : Int32)) (nn := (2 : Int32)) (us := [.int y0, .int y1]) (Or.inl ⟨rfl, rfl⟩) (by decide) (by decide) (by decide) (own_cpn P2 (by decide)) (by decide) rfl (by decide) N8 (show n0 ≤ b2 by omega) (g := (mkF m 28 #[vR xa, vI 2, vR b2] [.int 2, .int 0, .ref b2, .int 0, .ref xa])) rfl (by rw [hml]; rfl) rfl (hb hby d16_28) (by decide) (W := 0) (by show 2 * 0 + _ ≤ _; exact Nat.le_of_eq rfl) (by decide)
  refine gg st9 ?_
  have O10 := O3.keep Kc9 (allS (show n0 ≤ b2 by omega) all0)
  have sz11 : h2.size ≤ h9.size := Kc9.1
  have K12 := Keep.trans K5 Kc9 (allS (Or.inr (show h0.size ≤ b2 by omega)) all0)
  replace V9 : Arv Z h9 b2 k2 .int (2 : Int32) [.int y0, .int y1] (.int 0) := V9
  refine q_aloadN X9 hx hby d16_31 rfl rfl ?_
  refine r_R X9 hx hby hret hlk d16_32 e9 ?_
  exact ⟨N9, K12, b2, k2, rfl, V9, (show h0.size ≤ b2 by first | assumption | omega | decide)⟩
theorem own_ef_own_copy3 (m : MethodId) (xa : Addr) : entryFrame m #[.ref xa, .int 3] 3 = mkF m 0 #[vR xa, vI 3, uS] [] := by first | (simp [entryFrame, mkF, argsToLocals, Value.category]; done) | rfl
def Q_own_copy3 (Z : State) (xa : Addr) (xk : ClassId) (y0 : Int32) (y1 : Int32) (y2 : Int32) (h0 : Heap) (n0 : Nat) (v : Option Value) (h : Heap) (L : List Loc) : Prop := Fr n0 L ∧ Keep h0 h [] ∧ ∃ (r : Addr), ∃ (rk : ClassId), v = some (.ref r) ∧ Arv Z h r rk .int (3 : Int32) [.int y0, .int y1, .int y2] (.int 0) ∧ h0.size ≤ r
theorem own_copy3 (l : Launch) (Z : State) (a0 : Array Value) (hw : ∀ d ∈ tables_1, d.before a0 Z = true) (ws : List Jvm.Cond) (xa : Addr) (xk : ClassId) (y0 : Int32) (y1 : Int32) (y2 : Int32) (h0 : Heap) (n0 : Nat) (O0 : Old Z n0 h0) (P0 : Exa Z h0 xa "[I") (P1 : Arv Z h0 xa xk .int (3 : Int32) [.int y0, .int y1, .int y2] (.int 0)) : own_Met l Z (⟨"java/util/Arrays", "copyOf", "([II)[I"⟩ : MethodName) jdk_65_method_123_code 3 (some (.array .int)) ws ({ frames := 1, cells := 1, slots := 3, locals := 14 } : Room) #[.ref xa, .int 3] h0 (Q_own_copy3 Z xa xk y0 y1 y2 h0 n0) := by
  refine own_mk (plainFor_of_name own_pn_java_util_Arrays) O0 ?_
  intro p e s m below meth c s₁ hx hby hml hZ hown hnm hlk hret X0 e0 N0 z0 z1
  have K0 : Keep h0 h0 [] := Keep.refl _ _
  refine own_cast (own_ef_own_copy3 m xa) ?_
  show own_Goes p e below (s₁.setTop (mkF m 0 #[vR xa, vI 3, uS] [])) _
  have ltP0 : @LT.lt Nat _ xa h0.size := P0.lt
  have ltP1 : @LT.lt Nat _ xa h0.size := P1.lt
  refine q_iloadN X0 hx hby d16_0 rfl ?_
  refine q_aloadN X0 hx hby d16_1 rfl rfl ?_
  refine q_len X0 hx hby hZ e0 P1 d16_2 ?_
  refine q_icmpNo X0 hx hby d16_3 (teq (show ((3 : Int32) = (3 : Int32)) from by decide)).2 ?_
  refine q_aloadN X0 hx hby d16_6 rfl rfl ?_
  obtain ⟨T2, h2, X2, e2, E2, V2, A2, st2⟩ := cloneH X0 hx hZ hown (wh hw 151 rfl) (wh hw 152 rfl) (wh hw 156 rfl) (wh hw 154 rfl) (wh hw 155 rfl) (wh hw 157 rfl) e0 (Arv.arh P1) P0 (g := (mkF m 7 #[vR xa, vI 3, uS] [.ref xa])) rfl (by rw [hml]; rfl) rfl (hb hby d16_7) (by decide) (W := 0) (cap := 3) (by show 2 * 0 + _ ≤ _; exact Nat.le_of_eq rfl) (by decide) (by decide) (by decide) (by decide)
  obtain ⟨b2, g2⟩ : ∃ z, z = h0.size := ⟨_, rfl⟩
  rw [← g2] at A2 V2 st2
  refine gg st2 ?_
  have O3 := O0.ext E2
  have sz4 : h0.size ≤ h2.size := E2.1
  have K5 := K0.ext E2
  have l2 : @LT.lt Nat _ b2 h2.size := A2.lt
  replace V2 : Arv Z h2 b2 xk .int (3 : Int32) [.int y0, .int y1, .int y2] (.int 0) := V2
  obtain ⟨T6, X6, e6, st6⟩ := castY X2 hx hZ hown (wh hw 158 rfl) e2 (Ins.self A2) (g := (mkF m 10 #[vR xa, vI 3, uS] [.ref b2])) rfl rfl (hb hby d16_10)
  refine gg st6 ?_
  refine r_R X6 hx hby hret hlk d16_13 e6 ?_
  exact ⟨N0, K5, b2, xk, rfl, V2, (show h0.size ≤ b2 by first | assumption | omega | decide)⟩
theorem d20_0 : decode B20 0 = .ok (.iload_n 1, 1) := by decide +kernel
theorem d20_1 : decode B20 1 = .ok (.istore 4, 2) := by decide +kernel
theorem d20_3 : decode B20 3 = .ok (.iinc 4 1, 3) := by decide +kernel
theorem d20_6 : decode B20 6 = .ok (.iload 4, 2) := by decide +kernel
theorem d20_8 : decode B20 8 = .ok (.iload_n 2, 1) := by decide +kernel
theorem d20_9 : decode B20 9 = .ok (.if_icmp .ge 58, 3) := by decide +kernel
theorem d20_67 : decode B20 67 = .ok (.return_, 1) := by decide +kernel
theorem own_pn_java_util_DualPivotQuicksort : plainName "java/util/DualPivotQuicksort" = true := by first | (simp [plainName, overriddenIn]; done) | decide +kernel
theorem own_ef_own_ins0 (m : MethodId) (xa : Addr) : entryFrame m #[.ref xa, .int 0, .int 0] 6 = mkF m 0 #[vR xa, vI 0, vI 0, uS, uS, uS] [] := by first | (simp [entryFrame, mkF, argsToLocals, Value.category]; done) | rfl
def Q_own_ins0 (Z : State) (xa : Addr) (xk : ClassId) (h0 : Heap) (n0 : Nat) (v : Option Value) (h : Heap) (L : List Loc) : Prop := Fr n0 L ∧ Keep h0 h [xa] ∧ v = none ∧ Arv Z h xa xk .int (0 : Int32) [] (.int 0)
theorem own_ins0 (l : Launch) (Z : State) (a0 : Array Value) (hw : ∀ d ∈ tables_1, d.before a0 Z = true) (ws : List Jvm.Cond) (xa : Addr) (xk : ClassId) (h0 : Heap) (n0 : Nat) (O0 : Old Z n0 h0) (P0 : Arv Z h0 xa xk .int (0 : Int32) [] (.int 0)) (P1 : n0 ≤ xa) : own_Met l Z (⟨"java/util/DualPivotQuicksort", "insertionSort", "([III)V"⟩ : MethodName) jdk_2529_method_6_code 6 none ws ({ frames := 0, cells := 0, slots := 0, locals := 0 } : Room) #[.ref xa, .int 0, .int 0] h0 (Q_own_ins0 Z xa xk h0 n0) := by
  refine own_mk (plainFor_of_name own_pn_java_util_DualPivotQuicksort) O0 ?_
  intro p e s m below meth c s₁ hx hby hml hZ hown hnm hlk hret X0 e0 N0 z0 z1
  have K0 : Keep h0 h0 [xa] := Keep.refl _ _
  refine own_cast (own_ef_own_ins0 m xa) ?_
  show own_Goes p e below (s₁.setTop (mkF m 0 #[vR xa, vI 0, vI 0, uS, uS, uS] [])) _
  have ltP0 : @LT.lt Nat _ xa h0.size := P0.lt
  refine q_iloadN X0 hx hby d20_0 rfl ?_
  refine q_istore X0 hx hby d20_1 (l' := #[vR xa, vI 0, vI 0, uS, vI 0, uS]) rfl ?_
  refine gg (fun t k => XS.iinc X0.here hx rfl (hb hby d20_3) rfl (l' := #[vR xa, vI 0, vI 0, uS, vI ((0 : Int32) + (1 : Int32)), uS]) rfl k) ?_
  show own_Goes p e below (s₁.setTop (mkF m 6 #[vR xa, vI 0, vI 0, uS, vI ((0 : Int32) + (1 : Int32)), uS] [])) _
  rw [show ((0 : Int32) + (1 : Int32)) = (1 : Int32) from by decide]
  refine q_iload X0 hx hby d20_6 rfl ?_
  refine q_iloadN X0 hx hby d20_8 rfl ?_
  refine q_icmpYes (pc := 9) X0 hx hby d20_9 (pc' := 67) (flt (show ¬ ((1 : Int32) < (0 : Int32)) from by decide)).2.1 (by decide) (by decide) ?_
  refine r_V X0 hx hby hret hlk d20_67 e0 ?_
  exact ⟨N0, K0, rfl, P0⟩
theorem d19_0 : decode B19 0 = .ok (.iload 4, 2) := by decide +kernel
theorem d19_2 : decode B19 2 = .ok (.iconst 1, 1) := by decide +kernel
theorem d19_3 : decode B19 3 = .ok (.isub, 1) := by decide +kernel
theorem d19_4 : decode B19 4 = .ok (.istore 5, 2) := by decide +kernel
theorem d19_6 : decode B19 6 = .ok (.iload 4, 2) := by decide +kernel
theorem d19_8 : decode B19 8 = .ok (.iload_n 3, 1) := by decide +kernel
theorem d19_9 : decode B19 9 = .ok (.isub, 1) := by decide +kernel
theorem d19_10 : decode B19 10 = .ok (.istore 6, 2) := by decide +kernel
theorem d19_12 : decode B19 12 = .ok (.iload 6, 2) := by decide +kernel
theorem d19_14 : decode B19 14 = .ok (.bipush 65, 2) := by decide +kernel
theorem d19_16 : decode B19 16 = .ok (.iload_n 2, 1) := by decide +kernel
theorem d19_17 : decode B19 17 = .ok (.iadd, 1) := by decide +kernel
theorem d19_18 : decode B19 18 = .ok (.if_icmp .ge 28, 3) := by decide +kernel
theorem d19_21 : decode B19 21 = .ok (.iload_n 2, 1) := by decide +kernel
theorem d19_22 : decode B19 22 = .ok (.iconst 1, 1) := by decide +kernel
theorem d19_23 : decode B19 23 = .ok (.iand, 1) := by decide +kernel
theorem d19_24 : decode B19 24 = .ok (.ifCond .le 22, 3) := by decide +kernel
theorem d19_46 : decode B19 46 = .ok (.iload 6, 2) := by decide +kernel
theorem d19_48 : decode B19 48 = .ok (.bipush 44, 2) := by decide +kernel
theorem d19_50 : decode B19 50 = .ok (.if_icmp .ge 11, 3) := by decide +kernel
theorem d19_53 : decode B19 53 = .ok (.aload_n 1, 1) := by decide +kernel
theorem d19_54 : decode B19 54 = .ok (.iload_n 3, 1) := by decide +kernel
theorem d19_55 : decode B19 55 = .ok (.iload 4, 2) := by decide +kernel
theorem d19_57 : decode B19 57 = .ok (.invokestatic 34, 3) := by decide +kernel
theorem own_pd_16 : parseMethodDescriptor "([III)V" = some ⟨[(.array .int), .int, .int], none⟩ := by decide +kernel
theorem d19_60 : decode B19 60 = .ok (.return_, 1) := by decide +kernel
theorem own_ef_own_dpa0 (m : MethodId) (xa : Addr) : entryFrame m #[.null, .ref xa, .int 0, .int 0, .int 0] 21 = mkF m 0 #[vN, vR xa, vI 0, vI 0, vI 0, uS, uS, uS, uS, uS, uS, uS, uS, uS, uS, uS, uS, uS, uS, uS, uS] [] := by first | (simp [entryFrame, mkF, argsToLocals, Value.category]; done) | rfl
def Q_own_dpa0 (Z : State) (xa : Addr) (xk : ClassId) (h0 : Heap) (n0 : Nat) (v : Option Value) (h : Heap) (L : List Loc) : Prop := Fr n0 L ∧ Keep h0 h [xa] ∧ v = none ∧ Arv Z h xa xk .int (0 : Int32) [] (.int 0)
theorem own_dpa0 (l : Launch) (Z : State) (a0 : Array Value) (hw : ∀ d ∈ tables_1, d.before a0 Z = true) (ws : List Jvm.Cond) (xa : Addr) (xk : ClassId) (h0 : Heap) (n0 : Nat) (O0 : Old Z n0 h0) (P0 : Arv Z h0 xa xk .int (0 : Int32) [] (.int 0)) (P1 : n0 ≤ xa) : own_Met l Z (⟨"java/util/DualPivotQuicksort", "sort", "(Ljava/util/DualPivotQuicksort$Sorter;[IIII)V"⟩ : MethodName) jdk_2529_method_4_code 21 none ws ({ frames := 1, cells := 0, slots := 0, locals := 17 } : Room) #[.null, .ref xa, .int 0, .int 0, .int 0] h0 (Q_own_dpa0 Z xa xk h0 n0) := by
  refine own_mk (plainFor_of_name own_pn_java_util_DualPivotQuicksort) O0 ?_
  intro p e s m below meth c s₁ hx hby hml hZ hown hnm hlk hret X0 e0 N0 z0 z1
  have K0 : Keep h0 h0 [xa] := Keep.refl _ _
  refine own_cast (own_ef_own_dpa0 m xa) ?_
  show own_Goes p e below (s₁.setTop (mkF m 0 #[vN, vR xa, vI 0, vI 0, vI 0, uS, uS, uS, uS, uS, uS, uS, uS, uS, uS, uS, uS, uS, uS, uS, uS] [])) _
  have ltP0 : @LT.lt Nat _ xa h0.size := P0.lt
  refine q_iload X0 hx hby d19_0 rfl ?_
  refine q_iconst X0 hx hby d19_2 ?_
  refine q_isub X0 hx hby d19_3 ?_
  show own_Goes p e below (s₁.setTop (mkF m 4 #[vN, vR xa, vI 0, vI 0, vI 0, uS, uS, uS, uS, uS, uS, uS, uS, uS, uS, uS, uS, uS, uS, uS, uS] [(.int ((0 : Int32) - (1 : Int32)))])) _
  rw [show ((0 : Int32) - (1 : Int32)) = (-1 : Int32) from by decide]
  refine q_istore X0 hx hby d19_4 (l' := #[vN, vR xa, vI 0, vI 0, vI 0, vI (-1), uS, uS, uS, uS, uS, uS, uS, uS, uS, uS, uS, uS, uS, uS, uS]) rfl ?_
  refine q_iload X0 hx hby d19_6 rfl ?_
  refine q_iloadN X0 hx hby d19_8 rfl ?_
  refine q_isub X0 hx hby d19_9 ?_
  show own_Goes p e below (s₁.setTop (mkF m 10 #[vN, vR xa, vI 0, vI 0, vI 0, vI (-1), uS, uS, uS, uS, uS, uS, uS, uS, uS, uS, uS, uS, uS, uS, uS] [(.int ((0 : Int32) - (0 : Int32)))])) _
  rw [show ((0 : Int32) - (0 : Int32)) = (0 : Int32) from by decide]
  refine q_istore X0 hx hby d19_10 (l' := #[vN, vR xa, vI 0, vI 0, vI 0, vI (-1), vI 0, uS, uS, uS, uS, uS, uS, uS, uS, uS, uS, uS, uS, uS, uS]) rfl ?_
  refine q_iload X0 hx hby d19_12 rfl ?_
  refine q_bipush X0 hx hby d19_14 ?_
  refine q_iloadN X0 hx hby d19_16 rfl ?_
  refine q_iadd X0 hx hby d19_17 ?_
  show own_Goes p e below (s₁.setTop (mkF m 18 #[vN, vR xa, vI 0, vI 0, vI 0, vI (-1), vI 0, uS, uS, uS, uS, uS, uS, uS, uS, uS, uS, uS, uS, uS, uS] [(.int ((65 : Int32) + (0 : Int32))), .int 0])) _
  rw [show ((65 : Int32) + (0 : Int32)) = (65 : Int32) from by decide]
  refine q_icmpNo X0 hx hby d19_18 (tlt (show ((0 : Int32) < (65 : Int32)) from by decide)).2.1 ?_
  refine q_iloadN X0 hx hby d19_21 rfl ?_
  refine q_iconst X0 hx hby d19_22 ?_
  refine q_iand X0 hx hby d19_23 ?_
  show own_Goes p e below (s₁.setTop (mkF m 24 #[vN, vR xa, vI 0, vI 0, vI 0, vI (-1), vI 0, uS, uS, uS, uS, uS, uS, uS, uS, uS, uS, uS, uS, uS, uS] [(.int ((0 : Int32) &&& (1 : Int32)))])) _
  rw [show ((0 : Int32) &&& (1 : Int32)) = (0 : Int32) from by decide]
  refine q_ifYes (pc := 24) X0 hx hby d19_24 (pc' := 46) ((if0 _ _).trans (flt (show ¬ ((0 : Int32) < (0 : Int32)) from by decide)).2.2.2) (by decide) (by decide) ?_
  refine q_iload X0 hx hby d19_46 rfl ?_
  refine q_bipush X0 hx hby d19_48 ?_
  refine q_icmpNo X0 hx hby d19_50 (tlt (show ((0 : Int32) < (44 : Int32)) from by decide)).2.1 ?_
  refine q_aloadN X0 hx hby d19_53 rfl rfl ?_
  refine q_iloadN X0 hx hby d19_54 rfl ?_
  refine q_iload X0 hx hby d19_55 rfl ?_
  refine k_S X0 hx hby hZ hown (wh hw 172 rfl) (wh hw 173 rfl) (W := 0) (own_ins0 l Z a0 hw [] xa xk h0 n0 O0 P0 (show n0 ≤ xa by first | assumption | omega | decide)) (wh hw 174 rfl) (wh hw 167 rfl) e0  hml (argsL := [.ref xa, .int 0, .int 0]) (rest := []) own_pd_16 d19_57 (fun _ T1 L1 X1 hQ1 => ?_)
  obtain ⟨h1, e1⟩ : ∃ z, T1.heap = z := ⟨_, rfl⟩
  rw [e1] at hQ1
  obtain ⟨Nc1, Kc1, rfl, c1_0⟩ := hQ1
  have N1 := Fr.app N0 Nc1
  have O2 := O0.keep Kc1 (allS (show n0 ≤ xa by omega) all0)
  have sz3 : h0.size ≤ h1.size := Kc1.1
  have K4 := Keep.trans K0 Kc1 (allS (Or.inl (List.mem_of_getElem? (i := 0) rfl)) all0)
  have ltc1_0 : @LT.lt Nat _ xa h1.size := c1_0.lt
  refine r_V X1 hx hby hret hlk d19_60 e1 ?_
  exact ⟨N1, K4, rfl, c1_0⟩
theorem d18_0 : decode B18 0 = .ok (.iload_n 3, 1) := by decide +kernel
theorem d18_1 : decode B18 1 = .ok (.iload_n 2, 1) := by decide +kernel
theorem d18_2 : decode B18 2 = .ok (.isub, 1) := by decide +kernel
theorem d18_3 : decode B18 3 = .ok (.istore 4, 2) := by decide +kernel
theorem d18_5 : decode B18 5 = .ok (.iload_n 1, 1) := by decide +kernel
theorem d18_6 : decode B18 6 = .ok (.iconst 1, 1) := by decide +kernel
theorem d18_7 : decode B18 7 = .ok (.if_icmp .le 61, 3) := by decide +kernel
theorem d18_68 : decode B18 68 = .ok (.aconst_null, 1) := by decide +kernel
theorem d18_69 : decode B18 69 = .ok (.aload_n 0, 1) := by decide +kernel
theorem d18_70 : decode B18 70 = .ok (.iconst 0, 1) := by decide +kernel
theorem d18_71 : decode B18 71 = .ok (.iload_n 2, 1) := by decide +kernel
theorem d18_72 : decode B18 72 = .ok (.iload_n 3, 1) := by decide +kernel
theorem d18_73 : decode B18 73 = .ok (.invokestatic 26, 3) := by decide +kernel
theorem own_pd_17 : parseMethodDescriptor "(Ljava/util/DualPivotQuicksort$Sorter;[IIII)V" = some ⟨[(.object "java/util/DualPivotQuicksort$Sorter"), (.array .int), .int, .int, .int], none⟩ := by decide +kernel
theorem d18_76 : decode B18 76 = .ok (.return_, 1) := by decide +kernel
theorem own_ef_own_dpb0 (m : MethodId) (xa : Addr) : entryFrame m #[.ref xa, .int 0, .int 0, .int 0] 7 = mkF m 0 #[vR xa, vI 0, vI 0, vI 0, uS, uS, uS] [] := by first | (simp [entryFrame, mkF, argsToLocals, Value.category]; done) | rfl
def Q_own_dpb0 (Z : State) (xa : Addr) (xk : ClassId) (h0 : Heap) (n0 : Nat) (v : Option Value) (h : Heap) (L : List Loc) : Prop := Fr n0 L ∧ Keep h0 h [xa] ∧ v = none ∧ Arv Z h xa xk .int (0 : Int32) [] (.int 0)
theorem own_dpb0 (l : Launch) (Z : State) (a0 : Array Value) (hw : ∀ d ∈ tables_1, d.before a0 Z = true) (ws : List Jvm.Cond) (xa : Addr) (xk : ClassId) (h0 : Heap) (n0 : Nat) (O0 : Old Z n0 h0) (P0 : Arv Z h0 xa xk .int (0 : Int32) [] (.int 0)) (P1 : n0 ≤ xa) : own_Met l Z (⟨"java/util/DualPivotQuicksort", "sort", "([IIII)V"⟩ : MethodName) jdk_2529_method_3_code 7 none ws ({ frames := 2, cells := 0, slots := 0, locals := 49 } : Room) #[.ref xa, .int 0, .int 0, .int 0] h0 (Q_own_dpb0 Z xa xk h0 n0) := by
  refine own_mk (plainFor_of_name own_pn_java_util_DualPivotQuicksort) O0 ?_
  intro p e s m below meth c s₁ hx hby hml hZ hown hnm hlk hret X0 e0 N0 z0 z1
  have K0 : Keep h0 h0 [xa] := Keep.refl _ _
  refine own_cast (own_ef_own_dpb0 m xa) ?_
  show own_Goes p e below (s₁.setTop (mkF m 0 #[vR xa, vI 0, vI 0, vI 0, uS, uS, uS] [])) _
  have ltP0 : @LT.lt Nat _ xa h0.size := P0.lt
  refine q_iloadN X0 hx hby d18_0 rfl ?_
  refine q_iloadN X0 hx hby d18_1 rfl ?_
  refine q_isub X0 hx hby d18_2 ?_
  show own_Goes p e below (s₁.setTop (mkF m 3 #[vR xa, vI 0, vI 0, vI 0, uS, uS, uS] [(.int ((0 : Int32) - (0 : Int32)))])) _
  rw [show ((0 : Int32) - (0 : Int32)) = (0 : Int32) from by decide]
  refine q_istore X0 hx hby d18_3 (l' := #[vR xa, vI 0, vI 0, vI 0, vI 0, uS, uS]) rfl ?_
  refine q_iloadN X0 hx hby d18_5 rfl ?_
  refine q_iconst X0 hx hby d18_6 ?_
  refine q_icmpYes (pc := 7) X0 hx hby d18_7 (pc' := 68) (flt (show ¬ ((1 : Int32) < (0 : Int32)) from by decide)).2.2.2 (by decide) (by decide) ?_
  refine q_aconstNull X0 hx hby d18_68 ?_
  refine q_aloadN X0 hx hby d18_69 rfl rfl ?_
  refine q_iconst X0 hx hby d18_70 ?_
  refine q_iloadN X0 hx hby d18_71 rfl ?_
  refine q_iloadN X0 hx hby d18_72 rfl ?_
  refine k_S X0 hx hby hZ hown (wh hw 169 rfl) (wh hw 170 rfl) (W := 0) (own_dpa0 l Z a0 hw [] xa xk h0 n0 O0 P0 (show n0 ≤ xa by first | assumption | omega | decide)) (wh hw 171 rfl) (wh hw 167 rfl) e0  hml (argsL := [.null, .ref xa, .int 0, .int 0, .int 0]) (rest := []) own_pd_17 d18_73 (fun _ T1 L1 X1 hQ1 => ?_)
  obtain ⟨h1, e1⟩ : ∃ z, T1.heap = z := ⟨_, rfl⟩
  rw [e1] at hQ1
  obtain ⟨Nc1, Kc1, rfl, c1_0⟩ := hQ1
  have N1 := Fr.app N0 Nc1
  have O2 := O0.keep Kc1 (allS (show n0 ≤ xa by omega) all0)
  have sz3 : h0.size ≤ h1.size := Kc1.1
  have K4 := Keep.trans K0 Kc1 (allS (Or.inl (List.mem_of_getElem? (i := 0) rfl)) all0)
  have ltc1_0 : @LT.lt Nat _ xa h1.size := c1_0.lt
  refine r_V X1 hx hby hret hlk d18_76 e1 ?_
  exact ⟨N1, K4, rfl, c1_0⟩
theorem d17_0 : decode B17 0 = .ok (.aload_n 0, 1) := by decide +kernel
theorem d17_1 : decode B17 1 = .ok (.iconst 0, 1) := by decide +kernel
theorem d17_2 : decode B17 2 = .ok (.iconst 0, 1) := by decide +kernel
theorem d17_3 : decode B17 3 = .ok (.aload_n 0, 1) := by decide +kernel
theorem d17_4 : decode B17 4 = .ok (.arraylength, 1) := by decide +kernel
theorem d17_5 : decode B17 5 = .ok (.invokestatic 7, 3) := by decide +kernel
theorem own_pd_18 : parseMethodDescriptor "([IIII)V" = some ⟨[(.array .int), .int, .int, .int], none⟩ := by decide +kernel
theorem d17_8 : decode B17 8 = .ok (.return_, 1) := by decide +kernel
theorem own_ef_own_sort0 (m : MethodId) (xa : Addr) : entryFrame m #[.ref xa] 1 = mkF m 0 #[vR xa] [] := by first | (simp [entryFrame, mkF, argsToLocals, Value.category]; done) | rfl
def Q_own_sort0 (Z : State) (xa : Addr) (xk : ClassId) (h0 : Heap) (n0 : Nat) (v : Option Value) (h : Heap) (L : List Loc) : Prop := Fr n0 L ∧ Keep h0 h [xa] ∧ v = none ∧ Arv Z h xa xk .int (0 : Int32) [] (.int 0)
theorem own_sort0 (l : Launch) (Z : State) (a0 : Array Value) (hw : ∀ d ∈ tables_1, d.before a0 Z = true) (ws : List Jvm.Cond) (xa : Addr) (xk : ClassId) (h0 : Heap) (n0 : Nat) (O0 : Old Z n0 h0) (P0 : Arv Z h0 xa xk .int (0 : Int32) [] (.int 0)) (P1 : n0 ≤ xa) : own_Met l Z (⟨"java/util/Arrays", "sort", "([I)V"⟩ : MethodName) jdk_65_method_2_code 1 none ws ({ frames := 3, cells := 0, slots := 0, locals := 67 } : Room) #[.ref xa] h0 (Q_own_sort0 Z xa xk h0 n0) := by
  refine own_mk (plainFor_of_name own_pn_java_util_Arrays) O0 ?_
  intro p e s m below meth c s₁ hx hby hml hZ hown hnm hlk hret X0 e0 N0 z0 z1
  have K0 : Keep h0 h0 [xa] := Keep.refl _ _
  refine own_cast (own_ef_own_sort0 m xa) ?_
  show own_Goes p e below (s₁.setTop (mkF m 0 #[vR xa] [])) _
  have ltP0 : @LT.lt Nat _ xa h0.size := P0.lt
  refine q_aloadN X0 hx hby d17_0 rfl rfl ?_
  refine q_iconst X0 hx hby d17_1 ?_
  refine q_iconst X0 hx hby d17_2 ?_
  refine q_aloadN X0 hx hby d17_3 rfl rfl ?_
  refine q_len X0 hx hby hZ e0 P0 d17_4 ?_
  refine k_S X0 hx hby hZ hown (wh hw 165 rfl) (wh hw 166 rfl) (W := 0) (own_dpb0 l Z a0 hw [] xa xk h0 n0 O0 P0 (show n0 ≤ xa by first | assumption | omega | decide)) (wh hw 168 rfl) (wh hw 167 rfl) e0  hml (argsL := [.ref xa, .int 0, .int 0, .int 0]) (rest := []) own_pd_18 d17_5 (fun _ T2 L2 X2 hQ2 => ?_)
  obtain ⟨h2, e2⟩ : ∃ z, T2.heap = z := ⟨_, rfl⟩
  rw [e2] at hQ2
  obtain ⟨Nc2, Kc2, rfl, c2_0⟩ := hQ2
  have N2 := Fr.app N0 Nc2
  have O3 := O0.keep Kc2 (allS (show n0 ≤ xa by omega) all0)
  have sz4 : h0.size ≤ h2.size := Kc2.1
  have K5 := Keep.trans K0 Kc2 (allS (Or.inl (List.mem_of_getElem? (i := 0) rfl)) all0)
  have ltc2_0 : @LT.lt Nat _ xa h2.size := c2_0.lt
  refine r_V X2 hx hby hret hlk d17_8 e2 ?_
  exact ⟨N2, K5, rfl, c2_0⟩
theorem own_ef_own_ins1 (m : MethodId) (xa : Addr) : entryFrame m #[.ref xa, .int 0, .int 1] 6 = mkF m 0 #[vR xa, vI 0, vI 1, uS, uS, uS] [] := by first | (simp [entryFrame, mkF, argsToLocals, Value.category]; done) | rfl
def Q_own_ins1 (Z : State) (xa : Addr) (xk : ClassId) (y0 : Int32) (h0 : Heap) (n0 : Nat) (v : Option Value) (h : Heap) (L : List Loc) : Prop := Fr n0 L ∧ Keep h0 h [xa] ∧ v = none ∧ Arv Z h xa xk .int (1 : Int32) [.int y0] (.int 0)
theorem own_ins1 (l : Launch) (Z : State) (a0 : Array Value) (hw : ∀ d ∈ tables_1, d.before a0 Z = true) (ws : List Jvm.Cond) (xa : Addr) (xk : ClassId) (y0 : Int32) (h0 : Heap) (n0 : Nat) (O0 : Old Z n0 h0) (P0 : Arv Z h0 xa xk .int (1 : Int32) [.int y0] (.int 0)) (P1 : n0 ≤ xa) : own_Met l Z (⟨"java/util/DualPivotQuicksort", "insertionSort", "([III)V"⟩ : MethodName) jdk_2529_method_6_code 6 none ws ({ frames := 0, cells := 0, slots := 0, locals := 0 } : Room) #[.ref xa, .int 0, .int 1] h0 (Q_own_ins1 Z xa xk y0 h0 n0) := by
  refine own_mk (plainFor_of_name own_pn_java_util_DualPivotQuicksort) O0 ?_
  intro p e s m below meth c s₁ hx hby hml hZ hown hnm hlk hret X0 e0 N0 z0 z1
  have K0 : Keep h0 h0 [xa] := Keep.refl _ _
  refine own_cast (own_ef_own_ins1 m xa) ?_
  show own_Goes p e below (s₁.setTop (mkF m 0 #[vR xa, vI 0, vI 1, uS, uS, uS] [])) _
  have ltP0 : @LT.lt Nat _ xa h0.size := P0.lt
  refine q_iloadN X0 hx hby d20_0 rfl ?_
  refine q_istore X0 hx hby d20_1 (l' := #[vR xa, vI 0, vI 1, uS, vI 0, uS]) rfl ?_
  refine gg (fun t k => XS.iinc X0.here hx rfl (hb hby d20_3) rfl (l' := #[vR xa, vI 0, vI 1, uS, vI ((0 : Int32) + (1 : Int32)), uS]) rfl k) ?_
  show own_Goes p e below (s₁.setTop (mkF m 6 #[vR xa, vI 0, vI 1, uS, vI ((0 : Int32) + (1 : Int32)), uS] [])) _
  rw [show ((0 : Int32) + (1 : Int32)) = (1 : Int32) from by decide]
  refine q_iload X0 hx hby d20_6 rfl ?_
  refine q_iloadN X0 hx hby d20_8 rfl ?_
  refine q_icmpYes (pc := 9) X0 hx hby d20_9 (pc' := 67) (flt (show ¬ ((1 : Int32) < (1 : Int32)) from by decide)).2.1 (by decide) (by decide) ?_
  refine r_V X0 hx hby hret hlk d20_67 e0 ?_
  exact ⟨N0, K0, rfl, P0⟩
theorem own_ef_own_dpa1 (m : MethodId) (xa : Addr) : entryFrame m #[.null, .ref xa, .int 0, .int 0, .int 1] 21 = mkF m 0 #[vN, vR xa, vI 0, vI 0, vI 1, uS, uS, uS, uS, uS, uS, uS, uS, uS, uS, uS, uS, uS, uS, uS, uS] [] := by first | (simp [entryFrame, mkF, argsToLocals, Value.category]; done) | rfl
def Q_own_dpa1 (Z : State) (xa : Addr) (xk : ClassId) (y0 : Int32) (h0 : Heap) (n0 : Nat) (v : Option Value) (h : Heap) (L : List Loc) : Prop := Fr n0 L ∧ Keep h0 h [xa] ∧ v = none ∧ Arv Z h xa xk .int (1 : Int32) [.int y0] (.int 0)
theorem own_dpa1 (l : Launch) (Z : State) (a0 : Array Value) (hw : ∀ d ∈ tables_1, d.before a0 Z = true) (ws : List Jvm.Cond) (xa : Addr) (xk : ClassId) (y0 : Int32) (h0 : Heap) (n0 : Nat) (O0 : Old Z n0 h0) (P0 : Arv Z h0 xa xk .int (1 : Int32) [.int y0] (.int 0)) (P1 : n0 ≤ xa) : own_Met l Z (⟨"java/util/DualPivotQuicksort", "sort", "(Ljava/util/DualPivotQuicksort$Sorter;[IIII)V"⟩ : MethodName) jdk_2529_method_4_code 21 none ws ({ frames := 1, cells := 0, slots := 0, locals := 17 } : Room) #[.null, .ref xa, .int 0, .int 0, .int 1] h0 (Q_own_dpa1 Z xa xk y0 h0 n0) := by
  refine own_mk (plainFor_of_name own_pn_java_util_DualPivotQuicksort) O0 ?_
  intro p e s m below meth c s₁ hx hby hml hZ hown hnm hlk hret X0 e0 N0 z0 z1
  have K0 : Keep h0 h0 [xa] := Keep.refl _ _
  refine own_cast (own_ef_own_dpa1 m xa) ?_
  show own_Goes p e below (s₁.setTop (mkF m 0 #[vN, vR xa, vI 0, vI 0, vI 1, uS, uS, uS, uS, uS, uS, uS, uS, uS, uS, uS, uS, uS, uS, uS, uS] [])) _
  have ltP0 : @LT.lt Nat _ xa h0.size := P0.lt
  refine q_iload X0 hx hby d19_0 rfl ?_
  refine q_iconst X0 hx hby d19_2 ?_
  refine q_isub X0 hx hby d19_3 ?_
  show own_Goes p e below (s₁.setTop (mkF m 4 #[vN, vR xa, vI 0, vI 0, vI 1, uS, uS, uS, uS, uS, uS, uS, uS, uS, uS, uS, uS, uS, uS, uS, uS] [(.int ((1 : Int32) - (1 : Int32)))])) _
  rw [show ((1 : Int32) - (1 : Int32)) = (0 : Int32) from by decide]
  refine q_istore X0 hx hby d19_4 (l' := #[vN, vR xa, vI 0, vI 0, vI 1, vI 0, uS, uS, uS, uS, uS, uS, uS, uS, uS, uS, uS, uS, uS, uS, uS]) rfl ?_
  refine q_iload X0 hx hby d19_6 rfl ?_
  refine q_iloadN X0 hx hby d19_8 rfl ?_
  refine q_isub X0 hx hby d19_9 ?_
  show own_Goes p e below (s₁.setTop (mkF m 10 #[vN, vR xa, vI 0, vI 0, vI 1, vI 0, uS, uS, uS, uS, uS, uS, uS, uS, uS, uS, uS, uS, uS, uS, uS] [(.int ((1 : Int32) - (0 : Int32)))])) _
  rw [show ((1 : Int32) - (0 : Int32)) = (1 : Int32) from by decide]
  refine q_istore X0 hx hby d19_10 (l' := #[vN, vR xa, vI 0, vI 0, vI 1, vI 0, vI 1, uS, uS, uS, uS, uS, uS, uS, uS, uS, uS, uS, uS, uS, uS]) rfl ?_
  refine q_iload X0 hx hby d19_12 rfl ?_
  refine q_bipush X0 hx hby d19_14 ?_
  refine q_iloadN X0 hx hby d19_16 rfl ?_
  refine q_iadd X0 hx hby d19_17 ?_
  show own_Goes p e below (s₁.setTop (mkF m 18 #[vN, vR xa, vI 0, vI 0, vI 1, vI 0, vI 1, uS, uS, uS, uS, uS, uS, uS, uS, uS, uS, uS, uS, uS, uS] [(.int ((65 : Int32) + (0 : Int32))), .int 1])) _
  rw [show ((65 : Int32) + (0 : Int32)) = (65 : Int32) from by decide]
  refine q_icmpNo X0 hx hby d19_18 (tlt (show ((1 : Int32) < (65 : Int32)) from by decide)).2.1 ?_
  refine q_iloadN X0 hx hby d19_21 rfl ?_
  refine q_iconst X0 hx hby d19_22 ?_
  refine q_iand X0 hx hby d19_23 ?_
  show own_Goes p e below (s₁.setTop (mkF m 24 #[vN, vR xa, vI 0, vI 0, vI 1, vI 0, vI 1, uS, uS, uS, uS, uS, uS, uS, uS, uS, uS, uS, uS, uS, uS] [(.int ((0 : Int32) &&& (1 : Int32)))])) _
  rw [show ((0 : Int32) &&& (1 : Int32)) = (0 : Int32) from by decide]
  refine q_ifYes (pc := 24) X0 hx hby d19_24 (pc' := 46) ((if0 _ _).trans (flt (show ¬ ((0 : Int32) < (0 : Int32)) from by decide)).2.2.2) (by decide) (by decide) ?_
  refine q_iload X0 hx hby d19_46 rfl ?_
  refine q_bipush X0 hx hby d19_48 ?_
  refine q_icmpNo X0 hx hby d19_50 (tlt (show ((1 : Int32) < (44 : Int32)) from by decide)).2.1 ?_
  refine q_aloadN X0 hx hby d19_53 rfl rfl ?_
  refine q_iloadN X0 hx hby d19_54 rfl ?_
  refine q_iload X0 hx hby d19_55 rfl ?_
  refine k_S X0 hx hby hZ hown (wh hw 172 rfl) (wh hw 173 rfl) (W := 0) (own_ins1 l Z a0 hw [] xa xk y0 h0 n0 O0 P0 (show n0 ≤ xa by first | assumption | omega | decide)) (wh hw 174 rfl) (wh hw 167 rfl) e0  hml (argsL := [.ref xa, .int 0, .int 1]) (rest := []) own_pd_16 d19_57 (fun _ T1 L1 X1 hQ1 => ?_)
  obtain ⟨h1, e1⟩ : ∃ z, T1.heap = z := ⟨_, rfl⟩
  rw [e1] at hQ1
  obtain ⟨Nc1, Kc1, rfl, c1_0⟩ := hQ1
  have N1 := Fr.app N0 Nc1
  have O2 := O0.keep Kc1 (allS (show n0 ≤ xa by omega) all0)
  have sz3 : h0.size ≤ h1.size := Kc1.1
  have K4 := Keep.trans K0 Kc1 (allS (Or.inl (List.mem_of_getElem? (i := 0) rfl)) all0)
  have ltc1_0 : @LT.lt Nat _ xa h1.size := c1_0.lt
  refine r_V X1 hx hby hret hlk d19_60 e1 ?_
  exact ⟨N1, K4, rfl, c1_0⟩
theorem own_ef_own_dpb1 (m : MethodId) (xa : Addr) : entryFrame m #[.ref xa, .int 0, .int 0, .int 1] 7 = mkF m 0 #[vR xa, vI 0, vI 0, vI 1, uS, uS, uS] [] := by first | (simp [entryFrame, mkF, argsToLocals, Value.category]; done) | rfl
def Q_own_dpb1 (Z : State) (xa : Addr) (xk : ClassId) (y0 : Int32) (h0 : Heap) (n0 : Nat) (v : Option Value) (h : Heap) (L : List Loc) : Prop := Fr n0 L ∧ Keep h0 h [xa] ∧ v = none ∧ Arv Z h xa xk .int (1 : Int32) [.int y0] (.int 0)
theorem own_dpb1 (l : Launch) (Z : State) (a0 : Array Value) (hw : ∀ d ∈ tables_1, d.before a0 Z = true) (ws : List Jvm.Cond) (xa : Addr) (xk : ClassId) (y0 : Int32) (h0 : Heap) (n0 : Nat) (O0 : Old Z n0 h0) (P0 : Arv Z h0 xa xk .int (1 : Int32) [.int y0] (.int 0)) (P1 : n0 ≤ xa) : own_Met l Z (⟨"java/util/DualPivotQuicksort", "sort", "([IIII)V"⟩ : MethodName) jdk_2529_method_3_code 7 none ws ({ frames := 2, cells := 0, slots := 0, locals := 49 } : Room) #[.ref xa, .int 0, .int 0, .int 1] h0 (Q_own_dpb1 Z xa xk y0 h0 n0) := by
  refine own_mk (plainFor_of_name own_pn_java_util_DualPivotQuicksort) O0 ?_
  intro p e s m below meth c s₁ hx hby hml hZ hown hnm hlk hret X0 e0 N0 z0 z1
  have K0 : Keep h0 h0 [xa] := Keep.refl _ _
  refine own_cast (own_ef_own_dpb1 m xa) ?_
  show own_Goes p e below (s₁.setTop (mkF m 0 #[vR xa, vI 0, vI 0, vI 1, uS, uS, uS] [])) _
  have ltP0 : @LT.lt Nat _ xa h0.size := P0.lt
  refine q_iloadN X0 hx hby d18_0 rfl ?_
  refine q_iloadN X0 hx hby d18_1 rfl ?_
  refine q_isub X0 hx hby d18_2 ?_
  show own_Goes p e below (s₁.setTop (mkF m 3 #[vR xa, vI 0, vI 0, vI 1, uS, uS, uS] [(.int ((1 : Int32) - (0 : Int32)))])) _
  rw [show ((1 : Int32) - (0 : Int32)) = (1 : Int32) from by decide]
  refine q_istore X0 hx hby d18_3 (l' := #[vR xa, vI 0, vI 0, vI 1, vI 1, uS, uS]) rfl ?_
  refine q_iloadN X0 hx hby d18_5 rfl ?_
  refine q_iconst X0 hx hby d18_6 ?_
  refine q_icmpYes (pc := 7) X0 hx hby d18_7 (pc' := 68) (flt (show ¬ ((1 : Int32) < (0 : Int32)) from by decide)).2.2.2 (by decide) (by decide) ?_
  refine q_aconstNull X0 hx hby d18_68 ?_
  refine q_aloadN X0 hx hby d18_69 rfl rfl ?_
  refine q_iconst X0 hx hby d18_70 ?_
  refine q_iloadN X0 hx hby d18_71 rfl ?_
  refine q_iloadN X0 hx hby d18_72 rfl ?_
  refine k_S X0 hx hby hZ hown (wh hw 169 rfl) (wh hw 170 rfl) (W := 0) (own_dpa1 l Z a0 hw [] xa xk y0 h0 n0 O0 P0 (show n0 ≤ xa by first | assumption | omega | decide)) (wh hw 171 rfl) (wh hw 167 rfl) e0  hml (argsL := [.null, .ref xa, .int 0, .int 0, .int 1]) (rest := []) own_pd_17 d18_73 (fun _ T1 L1 X1 hQ1 => ?_)
  obtain ⟨h1, e1⟩ : ∃ z, T1.heap = z := ⟨_, rfl⟩
  rw [e1] at hQ1
  obtain ⟨Nc1, Kc1, rfl, c1_0⟩ := hQ1
  have N1 := Fr.app N0 Nc1
  have O2 := O0.keep Kc1 (allS (show n0 ≤ xa by omega) all0)
  have sz3 : h0.size ≤ h1.size := Kc1.1
  have K4 := Keep.trans K0 Kc1 (allS (Or.inl (List.mem_of_getElem? (i := 0) rfl)) all0)
  have ltc1_0 : @LT.lt Nat _ xa h1.size := c1_0.lt
  refine r_V X1 hx hby hret hlk d18_76 e1 ?_
  exact ⟨N1, K4, rfl, c1_0⟩
theorem own_ef_own_sort1 (m : MethodId) (xa : Addr) : entryFrame m #[.ref xa] 1 = mkF m 0 #[vR xa] [] := by first | (simp [entryFrame, mkF, argsToLocals, Value.category]; done) | rfl
def Q_own_sort1 (Z : State) (xa : Addr) (xk : ClassId) (y0 : Int32) (h0 : Heap) (n0 : Nat) (v : Option Value) (h : Heap) (L : List Loc) : Prop := Fr n0 L ∧ Keep h0 h [xa] ∧ v = none ∧ Arv Z h xa xk .int (1 : Int32) [.int y0] (.int 0)
theorem own_sort1 (l : Launch) (Z : State) (a0 : Array Value) (hw : ∀ d ∈ tables_1, d.before a0 Z = true) (ws : List Jvm.Cond) (xa : Addr) (xk : ClassId) (y0 : Int32) (h0 : Heap) (n0 : Nat) (O0 : Old Z n0 h0) (P0 : Arv Z h0 xa xk .int (1 : Int32) [.int y0] (.int 0)) (P1 : n0 ≤ xa) : own_Met l Z (⟨"java/util/Arrays", "sort", "([I)V"⟩ : MethodName) jdk_65_method_2_code 1 none ws ({ frames := 3, cells := 0, slots := 0, locals := 67 } : Room) #[.ref xa] h0 (Q_own_sort1 Z xa xk y0 h0 n0) := by
  refine own_mk (plainFor_of_name own_pn_java_util_Arrays) O0 ?_
  intro p e s m below meth c s₁ hx hby hml hZ hown hnm hlk hret X0 e0 N0 z0 z1
  have K0 : Keep h0 h0 [xa] := Keep.refl _ _
  refine own_cast (own_ef_own_sort1 m xa) ?_
  show own_Goes p e below (s₁.setTop (mkF m 0 #[vR xa] [])) _
  have ltP0 : @LT.lt Nat _ xa h0.size := P0.lt
  refine q_aloadN X0 hx hby d17_0 rfl rfl ?_
  refine q_iconst X0 hx hby d17_1 ?_
  refine q_iconst X0 hx hby d17_2 ?_
  refine q_aloadN X0 hx hby d17_3 rfl rfl ?_
  refine q_len X0 hx hby hZ e0 P0 d17_4 ?_
  refine k_S X0 hx hby hZ hown (wh hw 165 rfl) (wh hw 166 rfl) (W := 0) (own_dpb1 l Z a0 hw [] xa xk y0 h0 n0 O0 P0 (show n0 ≤ xa by first | assumption | omega | decide)) (wh hw 168 rfl) (wh hw 167 rfl) e0  hml (argsL := [.ref xa, .int 0, .int 0, .int 1]) (rest := []) own_pd_18 d17_5 (fun _ T2 L2 X2 hQ2 => ?_)
  obtain ⟨h2, e2⟩ : ∃ z, T2.heap = z := ⟨_, rfl⟩
  rw [e2] at hQ2
  obtain ⟨Nc2, Kc2, rfl, c2_0⟩ := hQ2
  have N2 := Fr.app N0 Nc2
  have O3 := O0.keep Kc2 (allS (show n0 ≤ xa by omega) all0)
  have sz4 : h0.size ≤ h2.size := Kc2.1
  have K5 := Keep.trans K0 Kc2 (allS (Or.inl (List.mem_of_getElem? (i := 0) rfl)) all0)
  have ltc2_0 : @LT.lt Nat _ xa h2.size := c2_0.lt
  refine r_V X2 hx hby hret hlk d17_8 e2 ?_
  exact ⟨N2, K5, rfl, c2_0⟩
theorem d20_12 : decode B20 12 = .ok (.aload_n 0, 1) := by decide +kernel
theorem d20_13 : decode B20 13 = .ok (.iload 4, 2) := by decide +kernel
theorem d20_15 : decode B20 15 = .ok (.dup, 1) := by decide +kernel
theorem d20_16 : decode B20 16 = .ok (.istore_n 3, 1) := by decide +kernel
theorem d20_17 : decode B20 17 = .ok (.iaload, 1) := by decide +kernel
theorem d20_18 : decode B20 18 = .ok (.istore 5, 2) := by decide +kernel
theorem d20_20 : decode B20 20 = .ok (.iload 5, 2) := by decide +kernel
theorem d20_22 : decode B20 22 = .ok (.aload_n 0, 1) := by decide +kernel
theorem d20_23 : decode B20 23 = .ok (.iload_n 3, 1) := by decide +kernel
theorem d20_24 : decode B20 24 = .ok (.iconst 1, 1) := by decide +kernel
theorem d20_25 : decode B20 25 = .ok (.isub, 1) := by decide +kernel
theorem d20_26 : decode B20 26 = .ok (.iaload, 1) := by decide +kernel
theorem d20_27 : decode B20 27 = .ok (.if_icmp .ge 37, 3) := by decide +kernel
theorem d20_30 : decode B20 30 = .ok (.iinc 3 (-1), 3) := by decide +kernel
theorem d20_33 : decode B20 33 = .ok (.iload_n 3, 1) := by decide +kernel
theorem d20_34 : decode B20 34 = .ok (.iload_n 1, 1) := by decide +kernel
theorem d20_35 : decode B20 35 = .ok (.if_icmp .lt 22, 3) := by decide +kernel
theorem d20_38 : decode B20 38 = .ok (.iload 5, 2) := by decide +kernel
theorem d20_40 : decode B20 40 = .ok (.aload_n 0, 1) := by decide +kernel
theorem d20_41 : decode B20 41 = .ok (.iload_n 3, 1) := by decide +kernel
theorem d20_42 : decode B20 42 = .ok (.iaload, 1) := by decide +kernel
theorem d20_43 : decode B20 43 = .ok (.if_icmp .ge 14, 3) := by decide +kernel
theorem d20_46 : decode B20 46 = .ok (.aload_n 0, 1) := by decide +kernel
theorem d20_47 : decode B20 47 = .ok (.iload_n 3, 1) := by decide +kernel
theorem d20_48 : decode B20 48 = .ok (.iconst 1, 1) := by decide +kernel
theorem d20_49 : decode B20 49 = .ok (.iadd, 1) := by decide +kernel
theorem d20_50 : decode B20 50 = .ok (.aload_n 0, 1) := by decide +kernel
theorem d20_51 : decode B20 51 = .ok (.iload_n 3, 1) := by decide +kernel
theorem d20_52 : decode B20 52 = .ok (.iaload, 1) := by decide +kernel
theorem d20_53 : decode B20 53 = .ok (.iastore, 1) := by decide +kernel
theorem d20_54 : decode B20 54 = .ok (.goto (-24), 3) := by decide +kernel
theorem d20_57 : decode B20 57 = .ok (.aload_n 0, 1) := by decide +kernel
theorem d20_58 : decode B20 58 = .ok (.iload_n 3, 1) := by decide +kernel
theorem d20_59 : decode B20 59 = .ok (.iconst 1, 1) := by decide +kernel
theorem d20_60 : decode B20 60 = .ok (.iadd, 1) := by decide +kernel
theorem d20_61 : decode B20 61 = .ok (.iload 5, 2) := by decide +kernel
theorem d20_63 : decode B20 63 = .ok (.iastore, 1) := by decide +kernel
theorem d20_64 : decode B20 64 = .ok (.goto (-61), 3) := by decide +kernel
theorem own_ef_own_ins2 (m : MethodId) (xa : Addr) : entryFrame m #[.ref xa, .int 0, .int 2] 6 = mkF m 0 #[vR xa, vI 0, vI 2, uS, uS, uS] [] := by first | (simp [entryFrame, mkF, argsToLocals, Value.category]; done) | rfl
def Q_own_ins2 (Z : State) (xa : Addr) (xk : ClassId) (y0 : Int32) (y1 : Int32) (h0 : Heap) (n0 : Nat) (v : Option Value) (h : Heap) (L : List Loc) : Prop := Fr n0 L ∧ Keep h0 h [xa] ∧ ∃ (z0 : Int32), ∃ (z1 : Int32), v = none ∧ Arv Z h xa xk .int (2 : Int32) [.int z0, .int z1] (.int 0) ∧ own_S2 y0 y1 z0 z1
theorem own_ins2 (l : Launch) (Z : State) (a0 : Array Value) (hw : ∀ d ∈ tables_1, d.before a0 Z = true) (ws : List Jvm.Cond) (xa : Addr) (xk : ClassId) (y0 : Int32) (y1 : Int32) (h0 : Heap) (n0 : Nat) (O0 : Old Z n0 h0) (P0 : Arv Z h0 xa xk .int (2 : Int32) [.int y0, .int y1] (.int 0)) (P1 : n0 ≤ xa) : own_Met l Z (⟨"java/util/DualPivotQuicksort", "insertionSort", "([III)V"⟩ : MethodName) jdk_2529_method_6_code 6 none ws ({ frames := 0, cells := 0, slots := 0, locals := 0 } : Room) #[.ref xa, .int 0, .int 2] h0 (Q_own_ins2 Z xa xk y0 y1 h0 n0) := by
  refine own_mk (plainFor_of_name own_pn_java_util_DualPivotQuicksort) O0 ?_
  intro p e s m below meth c s₁ hx hby hml hZ hown hnm hlk hret X0 e0 N0 z0 z1
  have K0 : Keep h0 h0 [xa] := Keep.refl _ _
  refine own_cast (own_ef_own_ins2 m xa) ?_
  show own_Goes p e below (s₁.setTop (mkF m 0 #[vR xa, vI 0, vI 2, uS, uS, uS] [])) _
  have ltP0 : @LT.lt Nat _ xa h0.size := P0.lt
  refine q_iloadN X0 hx hby d20_0 rfl ?_
  refine q_istore X0 hx hby d20_1 (l' := #[vR xa, vI 0, vI 2, uS, vI 0, uS]) rfl ?_
  refine gg (fun t k => XS.iinc X0.here hx rfl (hb hby d20_3) rfl (l' := #[vR xa, vI 0, vI 2, uS, vI ((0 : Int32) + (1 : Int32)), uS]) rfl k) ?_
  show own_Goes p e below (s₁.setTop (mkF m 6 #[vR xa, vI 0, vI 2, uS, vI ((0 : Int32) + (1 : Int32)), uS] [])) _
  rw [show ((0 : Int32) + (1 : Int32)) = (1 : Int32) from by decide]
  refine q_iload X0 hx hby d20_6 rfl ?_
  refine q_iloadN X0 hx hby d20_8 rfl ?_
  refine q_icmpNo X0 hx hby d20_9 (tlt (show ((1 : Int32) < (2 : Int32)) from by decide)).2.1 ?_
  refine q_aloadN X0 hx hby d20_12 rfl rfl ?_
  refine q_iload X0 hx hby d20_13 rfl ?_
  refine q_dup X0 hx hby d20_15 rfl ?_
  refine q_istoreN X0 hx hby d20_16 (l' := #[vR xa, vI 0, vI 2, vI 1, vI 1, uS]) rfl ?_
  refine q_iaload X0 hx hby hZ e0 P0 d20_17 (.int y1) ?_
  refine q_istore X0 hx hby d20_18 (l' := #[vR xa, vI 0, vI 2, vI 1, vI 1, vI y1]) rfl ?_
  refine q_iload X0 hx hby d20_20 rfl ?_
  refine q_aloadN X0 hx hby d20_22 rfl rfl ?_
  refine q_iloadN X0 hx hby d20_23 rfl ?_
  refine q_iconst X0 hx hby d20_24 ?_
  refine q_isub X0 hx hby d20_25 ?_
  show own_Goes p e below (s₁.setTop (mkF m 26 #[vR xa, vI 0, vI 2, vI 1, vI 1, vI y1] [(.int ((1 : Int32) - (1 : Int32))), .ref xa, .int y1])) _
  rw [show ((1 : Int32) - (1 : Int32)) = (0 : Int32) from by decide]
  refine q_iaload X0 hx hby hZ e0 P0 d20_26 (.int y0) ?_
  by_cases hc3 : y1 < y0
  · refine q_icmpNo X0 hx hby d20_27 (tlt hc3).2.1 ?_
    refine gg (fun t k => XS.iinc X0.here hx rfl (hb hby d20_30) rfl (l' := #[vR xa, vI 0, vI 2, vI ((1 : Int32) + (-1 : Int32)), vI 1, vI y1]) rfl k) ?_
    show own_Goes p e below (s₁.setTop (mkF m 33 #[vR xa, vI 0, vI 2, vI ((1 : Int32) + (-1 : Int32)), vI 1, vI y1] [])) _
    rw [show ((1 : Int32) + (-1 : Int32)) = (0 : Int32) from by decide]
    refine q_iloadN X0 hx hby d20_33 rfl ?_
    refine q_iloadN X0 hx hby d20_34 rfl ?_
    refine q_icmpNo X0 hx hby d20_35 (flt (show ¬ ((0 : Int32) < (0 : Int32)) from by decide)).1 ?_
    refine q_iload X0 hx hby d20_38 rfl ?_
    refine q_aloadN X0 hx hby d20_40 rfl rfl ?_
    refine q_iloadN X0 hx hby d20_41 rfl ?_
    refine q_iaload X0 hx hby hZ e0 P0 d20_42 (.int y0) ?_
    refine q_icmpNo X0 hx hby d20_43 (tlt hc3).2.1 ?_
    refine q_aloadN X0 hx hby d20_46 rfl rfl ?_
    refine q_iloadN X0 hx hby d20_47 rfl ?_
    refine q_iconst X0 hx hby d20_48 ?_
    refine q_iadd X0 hx hby d20_49 ?_
    show own_Goes p e below (s₁.setTop (mkF m 50 #[vR xa, vI 0, vI 2, vI 0, vI 1, vI y1] [(.int ((0 : Int32) + (1 : Int32))), .ref xa])) _
    rw [show ((0 : Int32) + (1 : Int32)) = (1 : Int32) from by decide]
    refine q_aloadN X0 hx hby d20_50 rfl rfl ?_
    refine q_iloadN X0 hx hby d20_51 rfl ?_
    refine q_iaload X0 hx hby hZ e0 P0 d20_52 (.int y0) ?_
    refine q_stI X0 hx hby hZ e0 P0 1 d20_53 (fun T7 h7 X7 e7 W7 V7 => ?_)
    have O8 := O0.wr W7 (show n0 ≤ xa by omega)
    have sz9 : h7.size = h0.size := Wr.size W7
    have K10 := K0.wr W7 (Or.inl (List.mem_of_getElem? (i := 0) rfl))
    have N7 := Fr.snoc X7 N0 (show n0 ≤ xa by omega)
    have V7 : Arv Z h7 xa xk .int (2 : Int32) [.int y0, .int y0] (.int 0) := V7
    refine q_goto (pc := 54) X7 hx hby d20_54 (pc' := 30) (by decide) (by decide) ?_
    refine gg (fun t k => XS.iinc X7.here hx rfl (hb hby d20_30) rfl (l' := #[vR xa, vI 0, vI 2, vI ((0 : Int32) + (-1 : Int32)), vI 1, vI y1]) rfl k) ?_
    show own_Goes p e below (T7.setTop (mkF m 33 #[vR xa, vI 0, vI 2, vI ((0 : Int32) + (-1 : Int32)), vI 1, vI y1] [])) _
    rw [show ((0 : Int32) + (-1 : Int32)) = (-1 : Int32) from by decide]
    refine q_iloadN X7 hx hby d20_33 rfl ?_
    refine q_iloadN X7 hx hby d20_34 rfl ?_
    refine q_icmpYes (pc := 35) X7 hx hby d20_35 (pc' := 57) (tlt (show ((-1 : Int32) < (0 : Int32)) from by decide)).1 (by decide) (by decide) ?_
    refine q_aloadN X7 hx hby d20_57 rfl rfl ?_
    refine q_iloadN X7 hx hby d20_58 rfl ?_
    refine q_iconst X7 hx hby d20_59 ?_
    refine q_iadd X7 hx hby d20_60 ?_
    show own_Goes p e below (T7.setTop (mkF m 61 #[vR xa, vI 0, vI 2, vI (-1), vI 1, vI y1] [(.int ((-1 : Int32) + (1 : Int32))), .ref xa])) _
    rw [show ((-1 : Int32) + (1 : Int32)) = (0 : Int32) from by decide]
    refine q_iload X7 hx hby d20_61 rfl ?_
    refine q_stI X7 hx hby hZ e7 V7 0 d20_63 (fun T12 h12 X12 e12 W12 V12 => ?_)
    have O13 := O8.wr W12 (show n0 ≤ xa by omega)
    have sz14 : h12.size = h7.size := Wr.size W12
    have K15 := K10.wr W12 (Or.inl (List.mem_of_getElem? (i := 0) rfl))
    have N12 := Fr.snoc X12 N7 (show n0 ≤ xa by omega)
    have V12 : Arv Z h12 xa xk .int (2 : Int32) [.int y1, .int y0] (.int 0) := V12
    refine q_goto (pc := 64) X12 hx hby d20_64 (pc' := 3) (by decide) (by decide) ?_
    refine gg (fun t k => XS.iinc X12.here hx rfl (hb hby d20_3) rfl (l' := #[vR xa, vI 0, vI 2, vI (-1), vI ((1 : Int32) + (1 : Int32)), vI y1]) rfl k) ?_
    show own_Goes p e below (T12.setTop (mkF m 6 #[vR xa, vI 0, vI 2, vI (-1), vI ((1 : Int32) + (1 : Int32)), vI y1] [])) _
    rw [show ((1 : Int32) + (1 : Int32)) = (2 : Int32) from by decide]
    refine q_iload X12 hx hby d20_6 rfl ?_
    refine q_iloadN X12 hx hby d20_8 rfl ?_
    refine q_icmpYes (pc := 9) X12 hx hby d20_9 (pc' := 67) (flt (show ¬ ((2 : Int32) < (2 : Int32)) from by decide)).2.1 (by decide) (by decide) ?_
    refine r_V X12 hx hby hret hlk d20_67 e12 ?_
    exact ⟨N12, K15, y1, y0, rfl, V12, (by unfold own_S2; have := own_ltI hc3; omega)⟩
  · refine q_icmpYes (pc := 27) X0 hx hby d20_27 (pc' := 64) (flt hc3).2.1 (by decide) (by decide) ?_
    refine q_goto (pc := 64) X0 hx hby d20_64 (pc' := 3) (by decide) (by decide) ?_
    refine gg (fun t k => XS.iinc X0.here hx rfl (hb hby d20_3) rfl (l' := #[vR xa, vI 0, vI 2, vI 1, vI ((1 : Int32) + (1 : Int32)), vI y1]) rfl k) ?_
    show own_Goes p e below (s₁.setTop (mkF m 6 #[vR xa, vI 0, vI 2, vI 1, vI ((1 : Int32) + (1 : Int32)), vI y1] [])) _
    rw [show ((1 : Int32) + (1 : Int32)) = (2 : Int32) from by decide]
    refine q_iload X0 hx hby d20_6 rfl ?_
    refine q_iloadN X0 hx hby d20_8 rfl ?_
    refine q_icmpYes (pc := 9) X0 hx hby d20_9 (pc' := 67) (flt (show ¬ ((2 : Int32) < (2 : Int32)) from by decide)).2.1 (by decide) (by decide) ?_
    refine r_V X0 hx hby hret hlk d20_67 e0 ?_
    exact ⟨N0, K0, y0, y1, rfl, P0, (by unfold own_S2; have := own_nltI hc3; omega)⟩
theorem own_ef_own_dpa2 (m : MethodId) (xa : Addr) : entryFrame m #[.null, .ref xa, .int 0, .int 0, .int 2] 21 = mkF m 0 #[vN, vR xa, vI 0, vI 0, vI 2, uS, uS, uS, uS, uS, uS, uS, uS, uS, uS, uS, uS, uS, uS, uS, uS] [] := by first | (simp [entryFrame, mkF, argsToLocals, Value.category]; done) | rfl
def Q_own_dpa2 (Z : State) (xa : Addr) (xk : ClassId) (y0 : Int32) (y1 : Int32) (h0 : Heap) (n0 : Nat) (v : Option Value) (h : Heap) (L : List Loc) : Prop := Fr n0 L ∧ Keep h0 h [xa] ∧ ∃ (z0 : Int32), ∃ (z1 : Int32), v = none ∧ Arv Z h xa xk .int (2 : Int32) [.int z0, .int z1] (.int 0) ∧ own_S2 y0 y1 z0 z1
theorem own_dpa2 (l : Launch) (Z : State) (a0 : Array Value) (hw : ∀ d ∈ tables_1, d.before a0 Z = true) (ws : List Jvm.Cond) (xa : Addr) (xk : ClassId) (y0 : Int32) (y1 : Int32) (h0 : Heap) (n0 : Nat) (O0 : Old Z n0 h0) (P0 : Arv Z h0 xa xk .int (2 : Int32) [.int y0, .int y1] (.int 0)) (P1 : n0 ≤ xa) : own_Met l Z (⟨"java/util/DualPivotQuicksort", "sort", "(Ljava/util/DualPivotQuicksort$Sorter;[IIII)V"⟩ : MethodName) jdk_2529_method_4_code 21 none ws ({ frames := 1, cells := 0, slots := 0, locals := 17 } : Room) #[.null, .ref xa, .int 0, .int 0, .int 2] h0 (Q_own_dpa2 Z xa xk y0 y1 h0 n0) := by
  refine own_mk (plainFor_of_name own_pn_java_util_DualPivotQuicksort) O0 ?_
  intro p e s m below meth c s₁ hx hby hml hZ hown hnm hlk hret X0 e0 N0 z0 z1
  have K0 : Keep h0 h0 [xa] := Keep.refl _ _
  refine own_cast (own_ef_own_dpa2 m xa) ?_
  show own_Goes p e below (s₁.setTop (mkF m 0 #[vN, vR xa, vI 0, vI 0, vI 2, uS, uS, uS, uS, uS, uS, uS, uS, uS, uS, uS, uS, uS, uS, uS, uS] [])) _
  have ltP0 : @LT.lt Nat _ xa h0.size := P0.lt
  refine q_iload X0 hx hby d19_0 rfl ?_
  refine q_iconst X0 hx hby d19_2 ?_
  refine q_isub X0 hx hby d19_3 ?_
  show own_Goes p e below (s₁.setTop (mkF m 4 #[vN, vR xa, vI 0, vI 0, vI 2, uS, uS, uS, uS, uS, uS, uS, uS, uS, uS, uS, uS, uS, uS, uS, uS] [(.int ((2 : Int32) - (1 : Int32)))])) _
  rw [show ((2 : Int32) - (1 : Int32)) = (1 : Int32) from by decide]
  refine q_istore X0 hx hby d19_4 (l' := #[vN, vR xa, vI 0, vI 0, vI 2, vI 1, uS, uS, uS, uS, uS, uS, uS, uS, uS, uS, uS, uS, uS, uS, uS]) rfl ?_
  refine q_iload X0 hx hby d19_6 rfl ?_
  refine q_iloadN X0 hx hby d19_8 rfl ?_
  refine q_isub X0 hx hby d19_9 ?_
  show own_Goes p e below (s₁.setTop (mkF m 10 #[vN, vR xa, vI 0, vI 0, vI 2, vI 1, uS, uS, uS, uS, uS, uS, uS, uS, uS, uS, uS, uS, uS, uS, uS] [(.int ((2 : Int32) - (0 : Int32)))])) _
  rw [show ((2 : Int32) - (0 : Int32)) = (2 : Int32) from by decide]
  refine q_istore X0 hx hby d19_10 (l' := #[vN, vR xa, vI 0, vI 0, vI 2, vI 1, vI 2, uS, uS, uS, uS, uS, uS, uS, uS, uS, uS, uS, uS, uS, uS]) rfl ?_
  refine q_iload X0 hx hby d19_12 rfl ?_
  refine q_bipush X0 hx hby d19_14 ?_
  refine q_iloadN X0 hx hby d19_16 rfl ?_
  refine q_iadd X0 hx hby d19_17 ?_
  show own_Goes p e below (s₁.setTop (mkF m 18 #[vN, vR xa, vI 0, vI 0, vI 2, vI 1, vI 2, uS, uS, uS, uS, uS, uS, uS, uS, uS, uS, uS, uS, uS, uS] [(.int ((65 : Int32) + (0 : Int32))), .int 2])) _
  rw [show ((65 : Int32) + (0 : Int32)) = (65 : Int32) from by decide]
  refine q_icmpNo X0 hx hby d19_18 (tlt (show ((2 : Int32) < (65 : Int32)) from by decide)).2.1 ?_
  refine q_iloadN X0 hx hby d19_21 rfl ?_
  refine q_iconst X0 hx hby d19_22 ?_
  refine q_iand X0 hx hby d19_23 ?_
  show own_Goes p e below (s₁.setTop (mkF m 24 #[vN, vR xa, vI 0, vI 0, vI 2, vI 1, vI 2, uS, uS, uS, uS, uS, uS, uS, uS, uS, uS, uS, uS, uS, uS] [(.int ((0 : Int32) &&& (1 : Int32)))])) _
  rw [show ((0 : Int32) &&& (1 : Int32)) = (0 : Int32) from by decide]
  refine q_ifYes (pc := 24) X0 hx hby d19_24 (pc' := 46) ((if0 _ _).trans (flt (show ¬ ((0 : Int32) < (0 : Int32)) from by decide)).2.2.2) (by decide) (by decide) ?_
  refine q_iload X0 hx hby d19_46 rfl ?_
  refine q_bipush X0 hx hby d19_48 ?_
  refine q_icmpNo X0 hx hby d19_50 (tlt (show ((2 : Int32) < (44 : Int32)) from by decide)).2.1 ?_
  refine q_aloadN X0 hx hby d19_53 rfl rfl ?_
  refine q_iloadN X0 hx hby d19_54 rfl ?_
  refine q_iload X0 hx hby d19_55 rfl ?_
  refine k_S X0 hx hby hZ hown (wh hw 172 rfl) (wh hw 173 rfl) (W := 0) (own_ins2 l Z a0 hw [] xa xk y0 y1 h0 n0 O0 P0 (show n0 ≤ xa by first | assumption | omega | decide)) (wh hw 174 rfl) (wh hw 167 rfl) e0  hml (argsL := [.ref xa, .int 0, .int 2]) (rest := []) own_pd_16 d19_57 (fun _ T1 L1 X1 hQ1 => ?_)
  obtain ⟨h1, e1⟩ : ∃ z, T1.heap = z := ⟨_, rfl⟩
  rw [e1] at hQ1
  obtain ⟨Nc1, Kc1, z0_1, z1_1, rfl, c1_0, c1_1⟩ := hQ1
  have N1 := Fr.app N0 Nc1
  have O2 := O0.keep Kc1 (allS (show n0 ≤ xa by omega) all0)
  have sz3 : h0.size ≤ h1.size := Kc1.1
  have K4 := Keep.trans K0 Kc1 (allS (Or.inl (List.mem_of_getElem? (i := 0) rfl)) all0)
  have ltc1_0 : @LT.lt Nat _ xa h1.size := c1_0.lt
  refine r_V X1 hx hby hret hlk d19_60 e1 ?_
  exact ⟨N1, K4, z0_1, z1_1, rfl, c1_0, (show own_S2 y0 y1 z0_1 z1_1 by first | assumption | omega | decide)⟩
theorem own_ef_own_dpb2 (m : MethodId) (xa : Addr) : entryFrame m #[.ref xa, .int 0, .int 0, .int 2] 7 = mkF m 0 #[vR xa, vI 0, vI 0, vI 2, uS, uS, uS] [] := by first | (simp [entryFrame, mkF, argsToLocals, Value.category]; done) | rfl
def Q_own_dpb2 (Z : State) (xa : Addr) (xk : ClassId) (y0 : Int32) (y1 : Int32) (h0 : Heap) (n0 : Nat) (v : Option Value) (h : Heap) (L : List Loc) : Prop := Fr n0 L ∧ Keep h0 h [xa] ∧ ∃ (z0 : Int32), ∃ (z1 : Int32), v = none ∧ Arv Z h xa xk .int (2 : Int32) [.int z0, .int z1] (.int 0) ∧ own_S2 y0 y1 z0 z1
theorem own_dpb2 (l : Launch) (Z : State) (a0 : Array Value) (hw : ∀ d ∈ tables_1, d.before a0 Z = true) (ws : List Jvm.Cond) (xa : Addr) (xk : ClassId) (y0 : Int32) (y1 : Int32) (h0 : Heap) (n0 : Nat) (O0 : Old Z n0 h0) (P0 : Arv Z h0 xa xk .int (2 : Int32) [.int y0, .int y1] (.int 0)) (P1 : n0 ≤ xa) : own_Met l Z (⟨"java/util/DualPivotQuicksort", "sort", "([IIII)V"⟩ : MethodName) jdk_2529_method_3_code 7 none ws ({ frames := 2, cells := 0, slots := 0, locals := 49 } : Room) #[.ref xa, .int 0, .int 0, .int 2] h0 (Q_own_dpb2 Z xa xk y0 y1 h0 n0) := by
  refine own_mk (plainFor_of_name own_pn_java_util_DualPivotQuicksort) O0 ?_
  intro p e s m below meth c s₁ hx hby hml hZ hown hnm hlk hret X0 e0 N0 z0 z1
  have K0 : Keep h0 h0 [xa] := Keep.refl _ _
  refine own_cast (own_ef_own_dpb2 m xa) ?_
  show own_Goes p e below (s₁.setTop (mkF m 0 #[vR xa, vI 0, vI 0, vI 2, uS, uS, uS] [])) _
  have ltP0 : @LT.lt Nat _ xa h0.size := P0.lt
  refine q_iloadN X0 hx hby d18_0 rfl ?_
  refine q_iloadN X0 hx hby d18_1 rfl ?_
  refine q_isub X0 hx hby d18_2 ?_
  show own_Goes p e below (s₁.setTop (mkF m 3 #[vR xa, vI 0, vI 0, vI 2, uS, uS, uS] [(.int ((2 : Int32) - (0 : Int32)))])) _
  rw [show ((2 : Int32) - (0 : Int32)) = (2 : Int32) from by decide]
  refine q_istore X0 hx hby d18_3 (l' := #[vR xa, vI 0, vI 0, vI 2, vI 2, uS, uS]) rfl ?_
  refine q_iloadN X0 hx hby d18_5 rfl ?_
  refine q_iconst X0 hx hby d18_6 ?_
  refine q_icmpYes (pc := 7) X0 hx hby d18_7 (pc' := 68) (flt (show ¬ ((1 : Int32) < (0 : Int32)) from by decide)).2.2.2 (by decide) (by decide) ?_
  refine q_aconstNull X0 hx hby d18_68 ?_
  refine q_aloadN X0 hx hby d18_69 rfl rfl ?_
  refine q_iconst X0 hx hby d18_70 ?_
  refine q_iloadN X0 hx hby d18_71 rfl ?_
  refine q_iloadN X0 hx hby d18_72 rfl ?_
  refine k_S X0 hx hby hZ hown (wh hw 169 rfl) (wh hw 170 rfl) (W := 0) (own_dpa2 l Z a0 hw [] xa xk y0 y1 h0 n0 O0 P0 (show n0 ≤ xa by first | assumption | omega | decide)) (wh hw 171 rfl) (wh hw 167 rfl) e0  hml (argsL := [.null, .ref xa, .int 0, .int 0, .int 2]) (rest := []) own_pd_17 d18_73 (fun _ T1 L1 X1 hQ1 => ?_)
  obtain ⟨h1, e1⟩ : ∃ z, T1.heap = z := ⟨_, rfl⟩
  rw [e1] at hQ1
  obtain ⟨Nc1, Kc1, z0_1, z1_1, rfl, c1_0, c1_1⟩ := hQ1
  have N1 := Fr.app N0 Nc1
  have O2 := O0.keep Kc1 (allS (show n0 ≤ xa by omega) all0)
  have sz3 : h0.size ≤ h1.size := Kc1.1
  have K4 := Keep.trans K0 Kc1 (allS (Or.inl (List.mem_of_getElem? (i := 0) rfl)) all0)
  have ltc1_0 : @LT.lt Nat _ xa h1.size := c1_0.lt
  refine r_V X1 hx hby hret hlk d18_76 e1 ?_
  exact ⟨N1, K4, z0_1, z1_1, rfl, c1_0, (show own_S2 y0 y1 z0_1 z1_1 by first | assumption | omega | decide)⟩
theorem own_ef_own_sort2 (m : MethodId) (xa : Addr) : entryFrame m #[.ref xa] 1 = mkF m 0 #[vR xa] [] := by first | (simp [entryFrame, mkF, argsToLocals, Value.category]; done) | rfl
def Q_own_sort2 (Z : State) (xa : Addr) (xk : ClassId) (y0 : Int32) (y1 : Int32) (h0 : Heap) (n0 : Nat) (v : Option Value) (h : Heap) (L : List Loc) : Prop := Fr n0 L ∧ Keep h0 h [xa] ∧ ∃ (z0 : Int32), ∃ (z1 : Int32), v = none ∧ Arv Z h xa xk .int (2 : Int32) [.int z0, .int z1] (.int 0) ∧ own_S2 y0 y1 z0 z1
theorem own_sort2 (l : Launch) (Z : State) (a0 : Array Value) (hw : ∀ d ∈ tables_1, d.before a0 Z = true) (ws : List Jvm.Cond) (xa : Addr) (xk : ClassId) (y0 : Int32) (y1 : Int32) (h0 : Heap) (n0 : Nat) (O0 : Old Z n0 h0) (P0 : Arv Z h0 xa xk .int (2 : Int32) [.int y0, .int y1] (.int 0)) (P1 : n0 ≤ xa) : own_Met l Z (⟨"java/util/Arrays", "sort", "([I)V"⟩ : MethodName) jdk_65_method_2_code 1 none ws ({ frames := 3, cells := 0, slots := 0, locals := 67 } : Room) #[.ref xa] h0 (Q_own_sort2 Z xa xk y0 y1 h0 n0) := by
  refine own_mk (plainFor_of_name own_pn_java_util_Arrays) O0 ?_
  intro p e s m below meth c s₁ hx hby hml hZ hown hnm hlk hret X0 e0 N0 z0 z1
  have K0 : Keep h0 h0 [xa] := Keep.refl _ _
  refine own_cast (own_ef_own_sort2 m xa) ?_
  show own_Goes p e below (s₁.setTop (mkF m 0 #[vR xa] [])) _
  have ltP0 : @LT.lt Nat _ xa h0.size := P0.lt
  refine q_aloadN X0 hx hby d17_0 rfl rfl ?_
  refine q_iconst X0 hx hby d17_1 ?_
  refine q_iconst X0 hx hby d17_2 ?_
  refine q_aloadN X0 hx hby d17_3 rfl rfl ?_
  refine q_len X0 hx hby hZ e0 P0 d17_4 ?_
  refine k_S X0 hx hby hZ hown (wh hw 165 rfl) (wh hw 166 rfl) (W := 0) (own_dpb2 l Z a0 hw [] xa xk y0 y1 h0 n0 O0 P0 (show n0 ≤ xa by first | assumption | omega | decide)) (wh hw 168 rfl) (wh hw 167 rfl) e0  hml (argsL := [.ref xa, .int 0, .int 0, .int 2]) (rest := []) own_pd_18 d17_5 (fun _ T2 L2 X2 hQ2 => ?_)
  obtain ⟨h2, e2⟩ : ∃ z, T2.heap = z := ⟨_, rfl⟩
  rw [e2] at hQ2
  obtain ⟨Nc2, Kc2, z0_2, z1_2, rfl, c2_0, c2_1⟩ := hQ2
  have N2 := Fr.app N0 Nc2
  have O3 := O0.keep Kc2 (allS (show n0 ≤ xa by omega) all0)
  have sz4 : h0.size ≤ h2.size := Kc2.1
  have K5 := Keep.trans K0 Kc2 (allS (Or.inl (List.mem_of_getElem? (i := 0) rfl)) all0)
  have ltc2_0 : @LT.lt Nat _ xa h2.size := c2_0.lt
  refine r_V X2 hx hby hret hlk d17_8 e2 ?_
  exact ⟨N2, K5, z0_2, z1_2, rfl, c2_0, (show own_S2 y0 y1 z0_2 z1_2 by first | assumption | omega | decide)⟩
theorem own_ef_own_ins3 (m : MethodId) (xa : Addr) : entryFrame m #[.ref xa, .int 0, .int 3] 6 = mkF m 0 #[vR xa, vI 0, vI 3, uS, uS, uS] [] := by first | (simp [entryFrame, mkF, argsToLocals, Value.category]; done) | rfl
def Q_own_ins3 (Z : State) (xa : Addr) (xk : ClassId) (y0 : Int32) (y1 : Int32) (y2 : Int32) (h0 : Heap) (n0 : Nat) (v : Option Value) (h : Heap) (L : List Loc) : Prop := Fr n0 L ∧ Keep h0 h [xa] ∧ ∃ (z0 : Int32), ∃ (z1 : Int32), ∃ (z2 : Int32), v = none ∧ Arv Z h xa xk .int (3 : Int32) [.int z0, .int z1, .int z2] (.int 0) ∧ own_S3 y0 y1 y2 z0 z1 z2
theorem own_ins3 (l : Launch) (Z : State) (a0 : Array Value) (hw : ∀ d ∈ tables_1, d.before a0 Z = true) (ws : List Jvm.Cond) (xa : Addr) (xk : ClassId) (y0 : Int32) (y1 : Int32) (y2 : Int32) (h0 : Heap) (n0 : Nat) (O0 : Old Z n0 h0) (P0 : Arv Z h0 xa xk .int (3 : Int32) [.int y0, .int y1, .int y2] (.int 0)) (P1 : n0 ≤ xa) : own_Met l Z (⟨"java/util/DualPivotQuicksort", "insertionSort", "([III)V"⟩ : MethodName) jdk_2529_method_6_code 6 none ws ({ frames := 0, cells := 0, slots := 0, locals := 0 } : Room) #[.ref xa, .int 0, .int 3] h0 (Q_own_ins3 Z xa xk y0 y1 y2 h0 n0) := by
  refine own_mk (plainFor_of_name own_pn_java_util_DualPivotQuicksort) O0 ?_
  intro p e s m below meth c s₁ hx hby hml hZ hown hnm hlk hret X0 e0 N0 z0 z1
  have K0 : Keep h0 h0 [xa] := Keep.refl _ _
  refine own_cast (own_ef_own_ins3 m xa) ?_
  show own_Goes p e below (s₁.setTop (mkF m 0 #[vR xa, vI 0, vI 3, uS, uS, uS] [])) _
  have ltP0 : @LT.lt Nat _ xa h0.size := P0.lt
  refine q_iloadN X0 hx hby d20_0 rfl ?_
  refine q_istore X0 hx hby d20_1 (l' := #[vR xa, vI 0, vI 3, uS, vI 0, uS]) rfl ?_
  have C1 : ∀ (w0_ w1_ l3_ : Int32) (T_ : State) (h_ : Heap) (L_ : List Loc), own_S2 y0 y1 w0_ w1_ → Stand p l e ({ frames := 0, cells := 0, slots := 0, locals := 0 } : Room) s m #[.ref xa, .int 0, .int 3] below meth c T_ L_ 0 0 → T_.heap = h_ → Fr n0 L_ → Old Z n0 h_ → Keep h0 h_ [xa] → Arv Z h_ xa xk .int (3 : Int32) [.int w0_, .int w1_, .int y2] (.int 0) → own_Goes p e below (T_.setTop (mkF m 3 #[vR xa, vI 0, vI 3, vI l3_, vI 1, vI y1] [])) (own_PostN s (Q_own_ins3 Z xa xk y0 y1 y2 h0 n0) ({ frames := 0, cells := 0, slots := 0, locals := 0 } : Room).cells ({ frames := 0, cells := 0, slots := 0, locals := 0 } : Room).slots) := by
    intro w0_ w1_ l3_ T_ h_ L_ hS_ X_ e_ N_ O_ K_ V_
    show own_Goes p e below (T_.setTop (mkF m 3 #[vR xa, vI 0, vI 3, vI l3_, vI 1, vI y1] [])) _
    refine gg (fun t k => XS.iinc X_.here hx rfl (hb hby d20_3) rfl (l' := #[vR xa, vI 0, vI 3, vI l3_, vI ((1 : Int32) + (1 : Int32)), vI y1]) rfl k) ?_
    show own_Goes p e below (T_.setTop (mkF m 6 #[vR xa, vI 0, vI 3, vI l3_, vI ((1 : Int32) + (1 : Int32)), vI y1] [])) _
    rw [show ((1 : Int32) + (1 : Int32)) = (2 : Int32) from by decide]
    refine q_iload X_ hx hby d20_6 rfl ?_
    refine q_iloadN X_ hx hby d20_8 rfl ?_
    refine q_icmpNo X_ hx hby d20_9 (tlt (show ((2 : Int32) < (3 : Int32)) from by decide)).2.1 ?_
    refine q_aloadN X_ hx hby d20_12 rfl rfl ?_
    refine q_iload X_ hx hby d20_13 rfl ?_
    refine q_dup X_ hx hby d20_15 rfl ?_
    refine q_istoreN X_ hx hby d20_16 (l' := #[vR xa, vI 0, vI 3, vI 2, vI 2, vI y1]) rfl ?_
    refine q_iaload X_ hx hby hZ e_ V_ d20_17 (.int y2) ?_
    refine q_istore X_ hx hby d20_18 (l' := #[vR xa, vI 0, vI 3, vI 2, vI 2, vI y2]) rfl ?_
    refine q_iload X_ hx hby d20_20 rfl ?_
    refine q_aloadN X_ hx hby d20_22 rfl rfl ?_
    refine q_iloadN X_ hx hby d20_23 rfl ?_
    refine q_iconst X_ hx hby d20_24 ?_
    refine q_isub X_ hx hby d20_25 ?_
    show own_Goes p e below (T_.setTop (mkF m 26 #[vR xa, vI 0, vI 3, vI 2, vI 2, vI y2] [(.int ((2 : Int32) - (1 : Int32))), .ref xa, .int y2])) _
    rw [show ((2 : Int32) - (1 : Int32)) = (1 : Int32) from by decide]
    refine q_iaload X_ hx hby hZ e_ V_ d20_26 (.int w1_) ?_
    by_cases hc3 : y2 < w1_
    · refine q_icmpNo X_ hx hby d20_27 (tlt hc3).2.1 ?_
      refine gg (fun t k => XS.iinc X_.here hx rfl (hb hby d20_30) rfl (l' := #[vR xa, vI 0, vI 3, vI ((2 : Int32) + (-1 : Int32)), vI 2, vI y2]) rfl k) ?_
      show own_Goes p e below (T_.setTop (mkF m 33 #[vR xa, vI 0, vI 3, vI ((2 : Int32) + (-1 : Int32)), vI 2, vI y2] [])) _
      rw [show ((2 : Int32) + (-1 : Int32)) = (1 : Int32) from by decide]
      refine q_iloadN X_ hx hby d20_33 rfl ?_
      refine q_iloadN X_ hx hby d20_34 rfl ?_
      refine q_icmpNo X_ hx hby d20_35 (flt (show ¬ ((1 : Int32) < (0 : Int32)) from by decide)).1 ?_
      refine q_iload X_ hx hby d20_38 rfl ?_
      refine q_aloadN X_ hx hby d20_40 rfl rfl ?_
      refine q_iloadN X_ hx hby d20_41 rfl ?_
      refine q_iaload X_ hx hby hZ e_ V_ d20_42 (.int w1_) ?_
      refine q_icmpNo X_ hx hby d20_43 (tlt hc3).2.1 ?_
      refine q_aloadN X_ hx hby d20_46 rfl rfl ?_
      refine q_iloadN X_ hx hby d20_47 rfl ?_
      refine q_iconst X_ hx hby d20_48 ?_
      refine q_iadd X_ hx hby d20_49 ?_
      show own_Goes p e below (T_.setTop (mkF m 50 #[vR xa, vI 0, vI 3, vI 1, vI 2, vI y2] [(.int ((1 : Int32) + (1 : Int32))), .ref xa])) _
      rw [show ((1 : Int32) + (1 : Int32)) = (2 : Int32) from by decide]
      refine q_aloadN X_ hx hby d20_50 rfl rfl ?_
      refine q_iloadN X_ hx hby d20_51 rfl ?_
      refine q_iaload X_ hx hby hZ e_ V_ d20_52 (.int w1_) ?_
      refine q_stI X_ hx hby hZ e_ V_ 2 d20_53 (fun T7 h7 X7 e7 W7 V7 => ?_)
      have O8 := O_.wr W7 (show n0 ≤ xa by omega)
      have sz9 : h7.size = h_.size := Wr.size W7
      have K10 := K_.wr W7 (Or.inl (List.mem_of_getElem? (i := 0) rfl))
      have N7 := Fr.snoc X7 N_ (show n0 ≤ xa by omega)
      have V7 : Arv Z h7 xa xk .int (3 : Int32) [.int w0_, .int w1_, .int w1_] (.int 0) := V7
      refine q_goto (pc := 54) X7 hx hby d20_54 (pc' := 30) (by decide) (by decide) ?_
      refine gg (fun t k => XS.iinc X7.here hx rfl (hb hby d20_30) rfl (l' := #[vR xa, vI 0, vI 3, vI ((1 : Int32) + (-1 : Int32)), vI 2, vI y2]) rfl k) ?_
      show own_Goes p e below (T7.setTop (mkF m 33 #[vR xa, vI 0, vI 3, vI ((1 : Int32) + (-1 : Int32)), vI 2, vI y2] [])) _
      rw [show ((1 : Int32) + (-1 : Int32)) = (0 : Int32) from by decide]
      refine q_iloadN X7 hx hby d20_33 rfl ?_
      refine q_iloadN X7 hx hby d20_34 rfl ?_
      refine q_icmpNo X7 hx hby d20_35 (flt (show ¬ ((0 : Int32) < (0 : Int32)) from by decide)).1 ?_
      refine q_iload X7 hx hby d20_38 rfl ?_
      refine q_aloadN X7 hx hby d20_40 rfl rfl ?_
      refine q_iloadN X7 hx hby d20_41 rfl ?_
      refine q_iaload X7 hx hby hZ e7 V7 d20_42 (.int w0_) ?_
      by_cases hc12 : y2 < w0_
      · refine q_icmpNo X7 hx hby d20_43 (tlt hc12).2.1 ?_
        refine q_aloadN X7 hx hby d20_46 rfl rfl ?_
        refine q_iloadN X7 hx hby d20_47 rfl ?_
        refine q_iconst X7 hx hby d20_48 ?_
        refine q_iadd X7 hx hby d20_49 ?_
        show own_Goes p e below (T7.setTop (mkF m 50 #[vR xa, vI 0, vI 3, vI 0, vI 2, vI y2] [(.int ((0 : Int32) + (1 : Int32))), .ref xa])) _
        rw [show ((0 : Int32) + (1 : Int32)) = (1 : Int32) from by decide]
        refine q_aloadN X7 hx hby d20_50 rfl rfl ?_
        refine q_iloadN X7 hx hby d20_51 rfl ?_
        refine q_iaload X7 hx hby hZ e7 V7 d20_52 (.int w0_) ?_
        refine q_stI X7 hx hby hZ e7 V7 1 d20_53 (fun T15 h15 X15 e15 W15 V15 => ?_)
        have O16 := O8.wr W15 (show n0 ≤ xa by omega)
        have sz17 : h15.size = h7.size := Wr.size W15
        have K18 := K10.wr W15 (Or.inl (List.mem_of_getElem? (i := 0) rfl))
        have N15 := Fr.snoc X15 N7 (show n0 ≤ xa by omega)
        have V15 : Arv Z h15 xa xk .int (3 : Int32) [.int w0_, .int w0_, .int w1_] (.int 0) := V15
        refine q_goto (pc := 54) X15 hx hby d20_54 (pc' := 30) (by decide) (by decide) ?_
        refine gg (fun t k => XS.iinc X15.here hx rfl (hb hby d20_30) rfl (l' := #[vR xa, vI 0, vI 3, vI ((0 : Int32) + (-1 : Int32)), vI 2, vI y2]) rfl k) ?_
        show own_Goes p e below (T15.setTop (mkF m 33 #[vR xa, vI 0, vI 3, vI ((0 : Int32) + (-1 : Int32)), vI 2, vI y2] [])) _
        rw [show ((0 : Int32) + (-1 : Int32)) = (-1 : Int32) from by decide]
        refine q_iloadN X15 hx hby d20_33 rfl ?_
        refine q_iloadN X15 hx hby d20_34 rfl ?_
        refine q_icmpYes (pc := 35) X15 hx hby d20_35 (pc' := 57) (tlt (show ((-1 : Int32) < (0 : Int32)) from by decide)).1 (by decide) (by decide) ?_
        refine q_aloadN X15 hx hby d20_57 rfl rfl ?_
        refine q_iloadN X15 hx hby d20_58 rfl ?_
        refine q_iconst X15 hx hby d20_59 ?_
        refine q_iadd X15 hx hby d20_60 ?_
        show own_Goes p e below (T15.setTop (mkF m 61 #[vR xa, vI 0, vI 3, vI (-1), vI 2, vI y2] [(.int ((-1 : Int32) + (1 : Int32))), .ref xa])) _
        rw [show ((-1 : Int32) + (1 : Int32)) = (0 : Int32) from by decide]
        refine q_iload X15 hx hby d20_61 rfl ?_
        refine q_stI X15 hx hby hZ e15 V15 0 d20_63 (fun T20 h20 X20 e20 W20 V20 => ?_)
        have O21 := O16.wr W20 (show n0 ≤ xa by omega)
        have sz22 : h20.size = h15.size := Wr.size W20
        have K23 := K18.wr W20 (Or.inl (List.mem_of_getElem? (i := 0) rfl))
        have N20 := Fr.snoc X20 N15 (show n0 ≤ xa by omega)
        have V20 : Arv Z h20 xa xk .int (3 : Int32) [.int y2, .int w0_, .int w1_] (.int 0) := V20
        refine q_goto (pc := 64) X20 hx hby d20_64 (pc' := 3) (by decide) (by decide) ?_
        refine gg (fun t k => XS.iinc X20.here hx rfl (hb hby d20_3) rfl (l' := #[vR xa, vI 0, vI 3, vI (-1), vI ((2 : Int32) + (1 : Int32)), vI y2]) rfl k) ?_
        show own_Goes p e below (T20.setTop (mkF m 6 #[vR xa, vI 0, vI 3, vI (-1), vI ((2 : Int32) + (1 : Int32)), vI y2] [])) _
        rw [show ((2 : Int32) + (1 : Int32)) = (3 : Int32) from by decide]
        refine q_iload X20 hx hby d20_6 rfl ?_
        refine q_iloadN X20 hx hby d20_8 rfl ?_
        refine q_icmpYes (pc := 9) X20 hx hby d20_9 (pc' := 67) (flt (show ¬ ((3 : Int32) < (3 : Int32)) from by decide)).2.1 (by decide) (by decide) ?_
        refine r_V X20 hx hby hret hlk d20_67 e20 ?_
        exact ⟨N20, K23, y2, w0_, w1_, rfl, V20, (by unfold own_S3; have := own_ltI hc3; have := own_ltI hc12; have := own_S2i hS_; omega)⟩
      · refine q_icmpYes (pc := 43) X7 hx hby d20_43 (pc' := 57) (flt hc12).2.1 (by decide) (by decide) ?_
        refine q_aloadN X7 hx hby d20_57 rfl rfl ?_
        refine q_iloadN X7 hx hby d20_58 rfl ?_
        refine q_iconst X7 hx hby d20_59 ?_
        refine q_iadd X7 hx hby d20_60 ?_
        show own_Goes p e below (T7.setTop (mkF m 61 #[vR xa, vI 0, vI 3, vI 0, vI 2, vI y2] [(.int ((0 : Int32) + (1 : Int32))), .ref xa])) _
        rw [show ((0 : Int32) + (1 : Int32)) = (1 : Int32) from by decide]
        refine q_iload X7 hx hby d20_61 rfl ?_
        refine q_stI X7 hx hby hZ e7 V7 1 d20_63 (fun T25 h25 X25 e25 W25 V25 => ?_)
        have O26 := O8.wr W25 (show n0 ≤ xa by omega)
        have sz27 : h25.size = h7.size := Wr.size W25
        have K28 := K10.wr W25 (Or.inl (List.mem_of_getElem? (i := 0) rfl))
        have N25 := Fr.snoc X25 N7 (show n0 ≤ xa by omega)
        have V25 : Arv Z h25 xa xk .int (3 : Int32) [.int w0_, .int y2, .int w1_] (.int 0) := V25
        refine q_goto (pc := 64) X25 hx hby d20_64 (pc' := 3) (by decide) (by decide) ?_
        refine gg (fun t k => XS.iinc X25.here hx rfl (hb hby d20_3) rfl (l' := #[vR xa, vI 0, vI 3, vI 0, vI ((2 : Int32) + (1 : Int32)), vI y2]) rfl k) ?_
        show own_Goes p e below (T25.setTop (mkF m 6 #[vR xa, vI 0, vI 3, vI 0, vI ((2 : Int32) + (1 : Int32)), vI y2] [])) _
        rw [show ((2 : Int32) + (1 : Int32)) = (3 : Int32) from by decide]
        refine q_iload X25 hx hby d20_6 rfl ?_
        refine q_iloadN X25 hx hby d20_8 rfl ?_
        refine q_icmpYes (pc := 9) X25 hx hby d20_9 (pc' := 67) (flt (show ¬ ((3 : Int32) < (3 : Int32)) from by decide)).2.1 (by decide) (by decide) ?_
        refine r_V X25 hx hby hret hlk d20_67 e25 ?_
        exact ⟨N25, K28, w0_, y2, w1_, rfl, V25, (by unfold own_S3; have := own_ltI hc3; have := own_nltI hc12; have := own_S2i hS_; omega)⟩
    · refine q_icmpYes (pc := 27) X_ hx hby d20_27 (pc' := 64) (flt hc3).2.1 (by decide) (by decide) ?_
      refine q_goto (pc := 64) X_ hx hby d20_64 (pc' := 3) (by decide) (by decide) ?_
      refine gg (fun t k => XS.iinc X_.here hx rfl (hb hby d20_3) rfl (l' := #[vR xa, vI 0, vI 3, vI 2, vI ((2 : Int32) + (1 : Int32)), vI y2]) rfl k) ?_
      show own_Goes p e below (T_.setTop (mkF m 6 #[vR xa, vI 0, vI 3, vI 2, vI ((2 : Int32) + (1 : Int32)), vI y2] [])) _
      rw [show ((2 : Int32) + (1 : Int32)) = (3 : Int32) from by decide]
      refine q_iload X_ hx hby d20_6 rfl ?_
      refine q_iloadN X_ hx hby d20_8 rfl ?_
      refine q_icmpYes (pc := 9) X_ hx hby d20_9 (pc' := 67) (flt (show ¬ ((3 : Int32) < (3 : Int32)) from by decide)).2.1 (by decide) (by decide) ?_
      refine r_V X_ hx hby hret hlk d20_67 e_ ?_
      exact ⟨N_, K_, w0_, w1_, y2, rfl, V_, (by unfold own_S3; have := own_nltI hc3; have := own_S2i hS_; omega)⟩
  refine gg (fun t k => XS.iinc X0.here hx rfl (hb hby d20_3) rfl (l' := #[vR xa, vI 0, vI 3, uS, vI ((0 : Int32) + (1 : Int32)), uS]) rfl k) ?_
  show own_Goes p e below (s₁.setTop (mkF m 6 #[vR xa, vI 0, vI 3, uS, vI ((0 : Int32) + (1 : Int32)), uS] [])) _
  rw [show ((0 : Int32) + (1 : Int32)) = (1 : Int32) from by decide]
  refine q_iload X0 hx hby d20_6 rfl ?_
  refine q_iloadN X0 hx hby d20_8 rfl ?_
  refine q_icmpNo X0 hx hby d20_9 (tlt (show ((1 : Int32) < (3 : Int32)) from by decide)).2.1 ?_
  refine q_aloadN X0 hx hby d20_12 rfl rfl ?_
  refine q_iload X0 hx hby d20_13 rfl ?_
  refine q_dup X0 hx hby d20_15 rfl ?_
  refine q_istoreN X0 hx hby d20_16 (l' := #[vR xa, vI 0, vI 3, vI 1, vI 1, uS]) rfl ?_
  refine q_iaload X0 hx hby hZ e0 P0 d20_17 (.int y1) ?_
  refine q_istore X0 hx hby d20_18 (l' := #[vR xa, vI 0, vI 3, vI 1, vI 1, vI y1]) rfl ?_
  refine q_iload X0 hx hby d20_20 rfl ?_
  refine q_aloadN X0 hx hby d20_22 rfl rfl ?_
  refine q_iloadN X0 hx hby d20_23 rfl ?_
  refine q_iconst X0 hx hby d20_24 ?_
  refine q_isub X0 hx hby d20_25 ?_
  show own_Goes p e below (s₁.setTop (mkF m 26 #[vR xa, vI 0, vI 3, vI 1, vI 1, vI y1] [(.int ((1 : Int32) - (1 : Int32))), .ref xa, .int y1])) _
  rw [show ((1 : Int32) - (1 : Int32)) = (0 : Int32) from by decide]
  refine q_iaload X0 hx hby hZ e0 P0 d20_26 (.int y0) ?_
  by_cases hc31 : y1 < y0
  · refine q_icmpNo X0 hx hby d20_27 (tlt hc31).2.1 ?_
    refine gg (fun t k => XS.iinc X0.here hx rfl (hb hby d20_30) rfl (l' := #[vR xa, vI 0, vI 3, vI ((1 : Int32) + (-1 : Int32)), vI 1, vI y1]) rfl k) ?_
    show own_Goes p e below (s₁.setTop (mkF m 33 #[vR xa, vI 0, vI 3, vI ((1 : Int32) + (-1 : Int32)), vI 1, vI y1] [])) _
    rw [show ((1 : Int32) + (-1 : Int32)) = (0 : Int32) from by decide]
    refine q_iloadN X0 hx hby d20_33 rfl ?_
    refine q_iloadN X0 hx hby d20_34 rfl ?_
    refine q_icmpNo X0 hx hby d20_35 (flt (show ¬ ((0 : Int32) < (0 : Int32)) from by decide)).1 ?_
    refine q_iload X0 hx hby d20_38 rfl ?_
    refine q_aloadN X0 hx hby d20_40 rfl rfl ?_
    refine q_iloadN X0 hx hby d20_41 rfl ?_
    refine q_iaload X0 hx hby hZ e0 P0 d20_42 (.int y0) ?_
    refine q_icmpNo X0 hx hby d20_43 (tlt hc31).2.1 ?_
    refine q_aloadN X0 hx hby d20_46 rfl rfl ?_
    refine q_iloadN X0 hx hby d20_47 rfl ?_
    refine q_iconst X0 hx hby d20_48 ?_
    refine q_iadd X0 hx hby d20_49 ?_
    show own_Goes p e below (s₁.setTop (mkF m 50 #[vR xa, vI 0, vI 3, vI 0, vI 1, vI y1] [(.int ((0 : Int32) + (1 : Int32))), .ref xa])) _
    rw [show ((0 : Int32) + (1 : Int32)) = (1 : Int32) from by decide]
    refine q_aloadN X0 hx hby d20_50 rfl rfl ?_
    refine q_iloadN X0 hx hby d20_51 rfl ?_
    refine q_iaload X0 hx hby hZ e0 P0 d20_52 (.int y0) ?_
    refine q_stI X0 hx hby hZ e0 P0 1 d20_53 (fun T35 h35 X35 e35 W35 V35 => ?_)
    have O36 := O0.wr W35 (show n0 ≤ xa by omega)
    have sz37 : h35.size = h0.size := Wr.size W35
    have K38 := K0.wr W35 (Or.inl (List.mem_of_getElem? (i := 0) rfl))
    have N35 := Fr.snoc X35 N0 (show n0 ≤ xa by omega)
    have V35 : Arv Z h35 xa xk .int (3 : Int32) [.int y0, .int y0, .int y2] (.int 0) := V35
    refine q_goto (pc := 54) X35 hx hby d20_54 (pc' := 30) (by decide) (by decide) ?_
    refine gg (fun t k => XS.iinc X35.here hx rfl (hb hby d20_30) rfl (l' := #[vR xa, vI 0, vI 3, vI ((0 : Int32) + (-1 : Int32)), vI 1, vI y1]) rfl k) ?_
    show own_Goes p e below (T35.setTop (mkF m 33 #[vR xa, vI 0, vI 3, vI ((0 : Int32) + (-1 : Int32)), vI 1, vI y1] [])) _
    rw [show ((0 : Int32) + (-1 : Int32)) = (-1 : Int32) from by decide]
    refine q_iloadN X35 hx hby d20_33 rfl ?_
    refine q_iloadN X35 hx hby d20_34 rfl ?_
    refine q_icmpYes (pc := 35) X35 hx hby d20_35 (pc' := 57) (tlt (show ((-1 : Int32) < (0 : Int32)) from by decide)).1 (by decide) (by decide) ?_
    refine q_aloadN X35 hx hby d20_57 rfl rfl ?_
    refine q_iloadN X35 hx hby d20_58 rfl ?_
    refine q_iconst X35 hx hby d20_59 ?_
    refine q_iadd X35 hx hby d20_60 ?_
    show own_Goes p e below (T35.setTop (mkF m 61 #[vR xa, vI 0, vI 3, vI (-1), vI 1, vI y1] [(.int ((-1 : Int32) + (1 : Int32))), .ref xa])) _
    rw [show ((-1 : Int32) + (1 : Int32)) = (0 : Int32) from by decide]
    refine q_iload X35 hx hby d20_61 rfl ?_
    refine q_stI X35 hx hby hZ e35 V35 0 d20_63 (fun T40 h40 X40 e40 W40 V40 => ?_)
    have O41 := O36.wr W40 (show n0 ≤ xa by omega)
    have sz42 : h40.size = h35.size := Wr.size W40
    have K43 := K38.wr W40 (Or.inl (List.mem_of_getElem? (i := 0) rfl))
    have N40 := Fr.snoc X40 N35 (show n0 ≤ xa by omega)
    have V40 : Arv Z h40 xa xk .int (3 : Int32) [.int y1, .int y0, .int y2] (.int 0) := V40
    refine q_goto (pc := 64) X40 hx hby d20_64 (pc' := 3) (by decide) (by decide) ?_
    exact C1 y1 y0 (-1 : Int32) _ _ _ (by unfold own_S2; have := own_ltI hc31; omega) X40 e40 N40 O41 K43 V40
  · refine q_icmpYes (pc := 27) X0 hx hby d20_27 (pc' := 64) (flt hc31).2.1 (by decide) (by decide) ?_
    refine q_goto (pc := 64) X0 hx hby d20_64 (pc' := 3) (by decide) (by decide) ?_
    exact C1 y0 y1 (1 : Int32) _ _ _ (by unfold own_S2; have := own_nltI hc31; omega) X0 e0 N0 O0 K0 P0
theorem own_ef_own_dpa3 (m : MethodId) (xa : Addr) : entryFrame m #[.null, .ref xa, .int 0, .int 0, .int 3] 21 = mkF m 0 #[vN, vR xa, vI 0, vI 0, vI 3, uS, uS, uS, uS, uS, uS, uS, uS, uS, uS, uS, uS, uS, uS, uS, uS] [] := by first | (simp [entryFrame, mkF, argsToLocals, Value.category]; done) | rfl
def Q_own_dpa3 (Z : State) (xa : Addr) (xk : ClassId) (y0 : Int32) (y1 : Int32) (y2 : Int32) (h0 : Heap) (n0 : Nat) (v : Option Value) (h : Heap) (L : List Loc) : Prop := Fr n0 L ∧ Keep h0 h [xa] ∧ ∃ (z0 : Int32), ∃ (z1 : Int32), ∃ (z2 : Int32), v = none ∧ Arv Z h xa xk .int (3 : Int32) [.int z0, .int z1, .int z2] (.int 0) ∧ own_S3 y0 y1 y2 z0 z1 z2
theorem own_dpa3 (l : Launch) (Z : State) (a0 : Array Value) (hw : ∀ d ∈ tables_1, d.before a0 Z = true) (ws : List Jvm.Cond) (xa : Addr) (xk : ClassId) (y0 : Int32) (y1 : Int32) (y2 : Int32) (h0 : Heap) (n0 : Nat) (O0 : Old Z n0 h0) (P0 : Arv Z h0 xa xk .int (3 : Int32) [.int y0, .int y1, .int y2] (.int 0)) (P1 : n0 ≤ xa) : own_Met l Z (⟨"java/util/DualPivotQuicksort", "sort", "(Ljava/util/DualPivotQuicksort$Sorter;[IIII)V"⟩ : MethodName) jdk_2529_method_4_code 21 none ws ({ frames := 1, cells := 0, slots := 0, locals := 17 } : Room) #[.null, .ref xa, .int 0, .int 0, .int 3] h0 (Q_own_dpa3 Z xa xk y0 y1 y2 h0 n0) := by
  refine own_mk (plainFor_of_name own_pn_java_util_DualPivotQuicksort) O0 ?_
  intro p e s m below meth c s₁ hx hby hml hZ hown hnm hlk hret X0 e0 N0 z0 z1
  have K0 : Keep h0 h0 [xa] := Keep.refl _ _
  refine own_cast (own_ef_own_dpa3 m xa) ?_
  show own_Goes p e below (s₁.setTop (mkF m 0 #[vN, vR xa, vI 0, vI 0, vI 3, uS, uS, uS, uS, uS, uS, uS, uS, uS, uS, uS, uS, uS, uS, uS, uS] [])) _
  have ltP0 : @LT.lt Nat _ xa h0.size := P0.lt
  refine q_iload X0 hx hby d19_0 rfl ?_
  refine q_iconst X0 hx hby d19_2 ?_
  refine q_isub X0 hx hby d19_3 ?_
  show own_Goes p e below (s₁.setTop (mkF m 4 #[vN, vR xa, vI 0, vI 0, vI 3, uS, uS, uS, uS, uS, uS, uS, uS, uS, uS, uS, uS, uS, uS, uS, uS] [(.int ((3 : Int32) - (1 : Int32)))])) _
  rw [show ((3 : Int32) - (1 : Int32)) = (2 : Int32) from by decide]
  refine q_istore X0 hx hby d19_4 (l' := #[vN, vR xa, vI 0, vI 0, vI 3, vI 2, uS, uS, uS, uS, uS, uS, uS, uS, uS, uS, uS, uS, uS, uS, uS]) rfl ?_
  refine q_iload X0 hx hby d19_6 rfl ?_
  refine q_iloadN X0 hx hby d19_8 rfl ?_
  refine q_isub X0 hx hby d19_9 ?_
  show own_Goes p e below (s₁.setTop (mkF m 10 #[vN, vR xa, vI 0, vI 0, vI 3, vI 2, uS, uS, uS, uS, uS, uS, uS, uS, uS, uS, uS, uS, uS, uS, uS] [(.int ((3 : Int32) - (0 : Int32)))])) _
  rw [show ((3 : Int32) - (0 : Int32)) = (3 : Int32) from by decide]
  refine q_istore X0 hx hby d19_10 (l' := #[vN, vR xa, vI 0, vI 0, vI 3, vI 2, vI 3, uS, uS, uS, uS, uS, uS, uS, uS, uS, uS, uS, uS, uS, uS]) rfl ?_
  refine q_iload X0 hx hby d19_12 rfl ?_
  refine q_bipush X0 hx hby d19_14 ?_
  refine q_iloadN X0 hx hby d19_16 rfl ?_
  refine q_iadd X0 hx hby d19_17 ?_
  show own_Goes p e below (s₁.setTop (mkF m 18 #[vN, vR xa, vI 0, vI 0, vI 3, vI 2, vI 3, uS, uS, uS, uS, uS, uS, uS, uS, uS, uS, uS, uS, uS, uS] [(.int ((65 : Int32) + (0 : Int32))), .int 3])) _
  rw [show ((65 : Int32) + (0 : Int32)) = (65 : Int32) from by decide]
  refine q_icmpNo X0 hx hby d19_18 (tlt (show ((3 : Int32) < (65 : Int32)) from by decide)).2.1 ?_
  refine q_iloadN X0 hx hby d19_21 rfl ?_
  refine q_iconst X0 hx hby d19_22 ?_
  refine q_iand X0 hx hby d19_23 ?_
  show own_Goes p e below (s₁.setTop (mkF m 24 #[vN, vR xa, vI 0, vI 0, vI 3, vI 2, vI 3, uS, uS, uS, uS, uS, uS, uS, uS, uS, uS, uS, uS, uS, uS] [(.int ((0 : Int32) &&& (1 : Int32)))])) _
  rw [show ((0 : Int32) &&& (1 : Int32)) = (0 : Int32) from by decide]
  refine q_ifYes (pc := 24) X0 hx hby d19_24 (pc' := 46) ((if0 _ _).trans (flt (show ¬ ((0 : Int32) < (0 : Int32)) from by decide)).2.2.2) (by decide) (by decide) ?_
  refine q_iload X0 hx hby d19_46 rfl ?_
  refine q_bipush X0 hx hby d19_48 ?_
  refine q_icmpNo X0 hx hby d19_50 (tlt (show ((3 : Int32) < (44 : Int32)) from by decide)).2.1 ?_
  refine q_aloadN X0 hx hby d19_53 rfl rfl ?_
  refine q_iloadN X0 hx hby d19_54 rfl ?_
  refine q_iload X0 hx hby d19_55 rfl ?_
  refine k_S X0 hx hby hZ hown (wh hw 172 rfl) (wh hw 173 rfl) (W := 0) (own_ins3 l Z a0 hw [] xa xk y0 y1 y2 h0 n0 O0 P0 (show n0 ≤ xa by first | assumption | omega | decide)) (wh hw 174 rfl) (wh hw 167 rfl) e0  hml (argsL := [.ref xa, .int 0, .int 3]) (rest := []) own_pd_16 d19_57 (fun _ T1 L1 X1 hQ1 => ?_)
  obtain ⟨h1, e1⟩ : ∃ z, T1.heap = z := ⟨_, rfl⟩
  rw [e1] at hQ1
  obtain ⟨Nc1, Kc1, z0_1, z1_1, z2_1, rfl, c1_0, c1_1⟩ := hQ1
  have N1 := Fr.app N0 Nc1
  have O2 := O0.keep Kc1 (allS (show n0 ≤ xa by omega) all0)
  have sz3 : h0.size ≤ h1.size := Kc1.1
  have K4 := Keep.trans K0 Kc1 (allS (Or.inl (List.mem_of_getElem? (i := 0) rfl)) all0)
  have ltc1_0 : @LT.lt Nat _ xa h1.size := c1_0.lt
  refine r_V X1 hx hby hret hlk d19_60 e1 ?_
  exact ⟨N1, K4, z0_1, z1_1, z2_1, rfl, c1_0, (show own_S3 y0 y1 y2 z0_1 z1_1 z2_1 by first | assumption | omega | decide)⟩
theorem own_ef_own_dpb3 (m : MethodId) (xa : Addr) : entryFrame m #[.ref xa, .int 0, .int 0, .int 3] 7 = mkF m 0 #[vR xa, vI 0, vI 0, vI 3, uS, uS, uS] [] := by first | (simp [entryFrame, mkF, argsToLocals, Value.category]; done) | rfl
def Q_own_dpb3 (Z : State) (xa : Addr) (xk : ClassId) (y0 : Int32) (y1 : Int32) (y2 : Int32) (h0 : Heap) (n0 : Nat) (v : Option Value) (h : Heap) (L : List Loc) : Prop := Fr n0 L ∧ Keep h0 h [xa] ∧ ∃ (z0 : Int32), ∃ (z1 : Int32), ∃ (z2 : Int32), v = none ∧ Arv Z h xa xk .int (3 : Int32) [.int z0, .int z1, .int z2] (.int 0) ∧ own_S3 y0 y1 y2 z0 z1 z2
theorem own_dpb3 (l : Launch) (Z : State) (a0 : Array Value) (hw : ∀ d ∈ tables_1, d.before a0 Z = true) (ws : List Jvm.Cond) (xa : Addr) (xk : ClassId) (y0 : Int32) (y1 : Int32) (y2 : Int32) (h0 : Heap) (n0 : Nat) (O0 : Old Z n0 h0) (P0 : Arv Z h0 xa xk .int (3 : Int32) [.int y0, .int y1, .int y2] (.int 0)) (P1 : n0 ≤ xa) : own_Met l Z (⟨"java/util/DualPivotQuicksort", "sort", "([IIII)V"⟩ : MethodName) jdk_2529_method_3_code 7 none ws ({ frames := 2, cells := 0, slots := 0, locals := 49 } : Room) #[.ref xa, .int 0, .int 0, .int 3] h0 (Q_own_dpb3 Z xa xk y0 y1 y2 h0 n0) := by
  refine own_mk (plainFor_of_name own_pn_java_util_DualPivotQuicksort) O0 ?_
  intro p e s m below meth c s₁ hx hby hml hZ hown hnm hlk hret X0 e0 N0 z0 z1
  have K0 : Keep h0 h0 [xa] := Keep.refl _ _
  refine own_cast (own_ef_own_dpb3 m xa) ?_
  show own_Goes p e below (s₁.setTop (mkF m 0 #[vR xa, vI 0, vI 0, vI 3, uS, uS, uS] [])) _
  have ltP0 : @LT.lt Nat _ xa h0.size := P0.lt
  refine q_iloadN X0 hx hby d18_0 rfl ?_
  refine q_iloadN X0 hx hby d18_1 rfl ?_
  refine q_isub X0 hx hby d18_2 ?_
  show own_Goes p e below (s₁.setTop (mkF m 3 #[vR xa, vI 0, vI 0, vI 3, uS, uS, uS] [(.int ((3 : Int32) - (0 : Int32)))])) _
  rw [show ((3 : Int32) - (0 : Int32)) = (3 : Int32) from by decide]
  refine q_istore X0 hx hby d18_3 (l' := #[vR xa, vI 0, vI 0, vI 3, vI 3, uS, uS]) rfl ?_
  refine q_iloadN X0 hx hby d18_5 rfl ?_
  refine q_iconst X0 hx hby d18_6 ?_
  refine q_icmpYes (pc := 7) X0 hx hby d18_7 (pc' := 68) (flt (show ¬ ((1 : Int32) < (0 : Int32)) from by decide)).2.2.2 (by decide) (by decide) ?_
  refine q_aconstNull X0 hx hby d18_68 ?_
  refine q_aloadN X0 hx hby d18_69 rfl rfl ?_
  refine q_iconst X0 hx hby d18_70 ?_
  refine q_iloadN X0 hx hby d18_71 rfl ?_
  refine q_iloadN X0 hx hby d18_72 rfl ?_
  refine k_S X0 hx hby hZ hown (wh hw 169 rfl) (wh hw 170 rfl) (W := 0) (own_dpa3 l Z a0 hw [] xa xk y0 y1 y2 h0 n0 O0 P0 (show n0 ≤ xa by first | assumption | omega | decide)) (wh hw 171 rfl) (wh hw 167 rfl) e0  hml (argsL := [.null, .ref xa, .int 0, .int 0, .int 3]) (rest := []) own_pd_17 d18_73 (fun _ T1 L1 X1 hQ1 => ?_)
  obtain ⟨h1, e1⟩ : ∃ z, T1.heap = z := ⟨_, rfl⟩
  rw [e1] at hQ1
  obtain ⟨Nc1, Kc1, z0_1, z1_1, z2_1, rfl, c1_0, c1_1⟩ := hQ1
  have N1 := Fr.app N0 Nc1
  have O2 := O0.keep Kc1 (allS (show n0 ≤ xa by omega) all0)
  have sz3 : h0.size ≤ h1.size := Kc1.1
  have K4 := Keep.trans K0 Kc1 (allS (Or.inl (List.mem_of_getElem? (i := 0) rfl)) all0)
  have ltc1_0 : @LT.lt Nat _ xa h1.size := c1_0.lt
  refine r_V X1 hx hby hret hlk d18_76 e1 ?_
  exact ⟨N1, K4, z0_1, z1_1, z2_1, rfl, c1_0, (show own_S3 y0 y1 y2 z0_1 z1_1 z2_1 by first | assumption | omega | decide)⟩
theorem own_ef_own_sort3 (m : MethodId) (xa : Addr) : entryFrame m #[.ref xa] 1 = mkF m 0 #[vR xa] [] := by first | (simp [entryFrame, mkF, argsToLocals, Value.category]; done) | rfl
def Q_own_sort3 (Z : State) (xa : Addr) (xk : ClassId) (y0 : Int32) (y1 : Int32) (y2 : Int32) (h0 : Heap) (n0 : Nat) (v : Option Value) (h : Heap) (L : List Loc) : Prop := Fr n0 L ∧ Keep h0 h [xa] ∧ ∃ (z0 : Int32), ∃ (z1 : Int32), ∃ (z2 : Int32), v = none ∧ Arv Z h xa xk .int (3 : Int32) [.int z0, .int z1, .int z2] (.int 0) ∧ own_S3 y0 y1 y2 z0 z1 z2
theorem own_sort3 (l : Launch) (Z : State) (a0 : Array Value) (hw : ∀ d ∈ tables_1, d.before a0 Z = true) (ws : List Jvm.Cond) (xa : Addr) (xk : ClassId) (y0 : Int32) (y1 : Int32) (y2 : Int32) (h0 : Heap) (n0 : Nat) (O0 : Old Z n0 h0) (P0 : Arv Z h0 xa xk .int (3 : Int32) [.int y0, .int y1, .int y2] (.int 0)) (P1 : n0 ≤ xa) : own_Met l Z (⟨"java/util/Arrays", "sort", "([I)V"⟩ : MethodName) jdk_65_method_2_code 1 none ws ({ frames := 3, cells := 0, slots := 0, locals := 67 } : Room) #[.ref xa] h0 (Q_own_sort3 Z xa xk y0 y1 y2 h0 n0) := by
  refine own_mk (plainFor_of_name own_pn_java_util_Arrays) O0 ?_
  intro p e s m below meth c s₁ hx hby hml hZ hown hnm hlk hret X0 e0 N0 z0 z1
  have K0 : Keep h0 h0 [xa] := Keep.refl _ _
  refine own_cast (own_ef_own_sort3 m xa) ?_
  show own_Goes p e below (s₁.setTop (mkF m 0 #[vR xa] [])) _
  have ltP0 : @LT.lt Nat _ xa h0.size := P0.lt
  refine q_aloadN X0 hx hby d17_0 rfl rfl ?_
  refine q_iconst X0 hx hby d17_1 ?_
  refine q_iconst X0 hx hby d17_2 ?_
  refine q_aloadN X0 hx hby d17_3 rfl rfl ?_
  refine q_len X0 hx hby hZ e0 P0 d17_4 ?_
  refine k_S X0 hx hby hZ hown (wh hw 165 rfl) (wh hw 166 rfl) (W := 0) (own_dpb3 l Z a0 hw [] xa xk y0 y1 y2 h0 n0 O0 P0 (show n0 ≤ xa by first | assumption | omega | decide)) (wh hw 168 rfl) (wh hw 167 rfl) e0  hml (argsL := [.ref xa, .int 0, .int 0, .int 3]) (rest := []) own_pd_18 d17_5 (fun _ T2 L2 X2 hQ2 => ?_)
  obtain ⟨h2, e2⟩ : ∃ z, T2.heap = z := ⟨_, rfl⟩
  rw [e2] at hQ2
  obtain ⟨Nc2, Kc2, z0_2, z1_2, z2_2, rfl, c2_0, c2_1⟩ := hQ2
  have N2 := Fr.app N0 Nc2
  have O3 := O0.keep Kc2 (allS (show n0 ≤ xa by omega) all0)
  have sz4 : h0.size ≤ h2.size := Kc2.1
  have K5 := Keep.trans K0 Kc2 (allS (Or.inl (List.mem_of_getElem? (i := 0) rfl)) all0)
  have ltc2_0 : @LT.lt Nat _ xa h2.size := c2_0.lt
  refine r_V X2 hx hby hret hlk d17_8 e2 ?_
  exact ⟨N2, K5, z0_2, z1_2, z2_2, rfl, c2_0, (show own_S3 y0 y1 y2 z0_2 z1_2 z2_2 by first | assumption | omega | decide)⟩
theorem own_inCache {xi : Int32} (h1 : ¬ xi < (-128 : Int32)) (h2 : ¬ (127 : Int32) < xi) {n : Nat} (hn : n = (256 : Int32).toNatClampNeg) : ¬ (xi + (128 : Int32) < 0 ∨ n ≤ (xi + (128 : Int32)).toNatClampNeg) := by
  have e1 : (-128 : Int32).toInt = -128 := by decide
  have e2 : (127 : Int32).toInt = 127 := by decide
  have e3 : (128 : Int32).toInt = 128 := by decide
  have e4 : (256 : Int32).toInt = 256 := by decide
  have e5 : (0 : Int32).toInt = 0 := by decide
  rw [Int32.lt_iff_toInt_lt] at h1 h2
  have q := Jvm.RoadKit.c_iadd xi 128
  have q1 := Jvm.RoadKit.rng32 (xi + 128)
  rw [Int32.lt_iff_toInt_lt]
  subst hn
  simp only [Int32.toNatClampNeg]
  omega

theorem d43_0 : decode B43 0 = .ok (.aload_n 0, 1) := by decide +kernel
theorem d43_1 : decode B43 1 = .ok (.invokespecial 1, 3) := by decide +kernel
theorem d43_4 : decode B43 4 = .ok (.return_, 1) := by decide +kernel
theorem own_pn_java_lang_Number : plainName "java/lang/Number" = true := by first | (simp [plainName, overriddenIn]; done) | decide +kernel
theorem own_ef_own_numInit (m : MethodId) (xa : Addr) : entryFrame m #[.ref xa] 1 = mkF m 0 #[vR xa] [] := by first | (simp [entryFrame, mkF, argsToLocals, Value.category]; done) | rfl
def Q_own_numInit (Z : State) (xa : Addr) (h0 : Heap) (n0 : Nat) (v : Option Value) (h : Heap) (L : List Loc) : Prop := Fr n0 L ∧ h = h0 ∧ v = none
theorem own_numInit (l : Launch) (Z : State) (a0 : Array Value) (hw : ∀ d ∈ tables_1, d.before a0 Z = true) (ws : List Jvm.Cond) (xa : Addr) (h0 : Heap) (n0 : Nat) (O0 : Old Z n0 h0) : own_Met l Z (⟨"java/lang/Number", "<init>", "()V"⟩ : MethodName) jdk_18_method_1_code 1 none ws ({ frames := 1, cells := 0, slots := 0, locals := 12 } : Room) #[.ref xa] h0 (Q_own_numInit Z xa h0 n0) := by
  refine own_mk (plainFor_of_name own_pn_java_lang_Number) O0 ?_
  intro p e s m below meth c s₁ hx hby hml hZ hown hnm hlk hret X0 e0 N0 z0 z1
  refine own_cast (own_ef_own_numInit m xa) ?_
  show own_Goes p e below (s₁.setTop (mkF m 0 #[vR xa] [])) _
  refine q_aloadN X0 hx hby d43_0 rfl rfl ?_
  obtain ⟨T1, X1, e1, st1⟩ := initO X0 hx hZ hown (wh hw 326 rfl) (wh hw 19 rfl) (wh hw 20 rfl) e0 (g := (mkF m 1 #[vR xa] [.ref xa])) rfl (by rw [hml]; rfl) rfl (hb hby d43_1) (by decide) (W := 0) (by show 2 * 0 + _ ≤ _; exact Nat.le_of_eq rfl) (by decide)
  refine gg st1 ?_
  refine r_V X1 hx hby hret hlk d43_4 e1 ?_
  exact ⟨N0, rfl, rfl⟩
theorem d42_0 : decode B42 0 = .ok (.aload_n 0, 1) := by decide +kernel
theorem d42_1 : decode B42 1 = .ok (.invokespecial 202, 3) := by decide +kernel
theorem d42_4 : decode B42 4 = .ok (.aload_n 0, 1) := by decide +kernel
theorem d42_5 : decode B42 5 = .ok (.iload_n 1, 1) := by decide +kernel
theorem d42_6 : decode B42 6 = .ok (.putfield 205, 3) := by decide +kernel
theorem d42_9 : decode B42 9 = .ok (.return_, 1) := by decide +kernel
theorem own_pn_java_lang_Integer : plainName "java/lang/Integer" = true := by first | (simp [plainName, overriddenIn]; done) | decide +kernel
theorem own_ef_own_intInit (m : MethodId) (xa : Addr) (xi : Int32) : entryFrame m #[.ref xa, .int xi] 2 = mkF m 0 #[vR xa, vI xi] [] := by first | (simp [entryFrame, mkF, argsToLocals, Value.category]; done) | rfl
def Q_own_intInit (Z : State) (xa : Addr) (xi : Int32) (h0 : Heap) (n0 : Nat) (v : Option Value) (h : Heap) (L : List Loc) : Prop := Fr n0 L ∧ Keep h0 h [xa] ∧ v = none ∧ Fld Z h xa "java/lang/Integer" "value" "I" (.int xi)
theorem own_intInit (l : Launch) (Z : State) (a0 : Array Value) (hw : ∀ d ∈ tables_1, d.before a0 Z = true) (ws : List Jvm.Cond) (xa : Addr) (xi : Int32) (h0 : Heap) (n0 : Nat) (O0 : Old Z n0 h0) (P0 : Exa Z h0 xa "java/lang/Integer") (P1 : Fld Z h0 xa "java/lang/Integer" "value" "I" (.int 0)) (P2 : n0 ≤ xa) : own_Met l Z (⟨"java/lang/Integer", "<init>", "(I)V"⟩ : MethodName) jdk_33_method_23_code 2 none ws ({ frames := 2, cells := 0, slots := 0, locals := 24 } : Room) #[.ref xa, .int xi] h0 (Q_own_intInit Z xa xi h0 n0) := by
  refine own_mk (plainFor_of_name own_pn_java_lang_Integer) O0 ?_
  intro p e s m below meth c s₁ hx hby hml hZ hown hnm hlk hret X0 e0 N0 z0 z1
  have K0 : Keep h0 h0 [xa] := Keep.refl _ _
  refine own_cast (own_ef_own_intInit m xa xi) ?_
  show own_Goes p e below (s₁.setTop (mkF m 0 #[vR xa, vI xi] [])) _
  have ltP0 : @LT.lt Nat _ xa h0.size := P0.lt
  refine q_aloadN X0 hx hby d42_0 rfl rfl ?_
  refine k_N X0 hx hby hZ hown (wh hw 320 rfl) (wh hw 321 rfl) (W := 0) (own_numInit l Z a0 hw [] xa h0 n0 O0) (wh hw 325 rfl) (wh hw 324 rfl) e0  hml (argsL := []) (rest := []) own_pd_0 d42_1 (fun _ T1 L1 X1 hQ1 => ?_)
  obtain ⟨Nc1, e1, rfl⟩ := hQ1
  have N1 := Fr.app N0 Nc1
  refine q_aloadN X1 hx hby d42_4 rfl rfl ?_
  refine q_iloadN X1 hx hby d42_5 rfl ?_
  refine qP X1 hx hby hZ hown (host := "") (Or.inl (wh hw 312 rfl)) Via.refl e1 P1 P0 (Or.inr ⟨(wh hw 313 rfl), rfl, hnm⟩) (wh hw 316 rfl) (ty := .int) d42_6 (fun T2 h2 X2 e2 W2 => ?_)
  have O3 := O0.wr W2 (show n0 ≤ xa by omega)
  have sz4 : h2.size = h0.size := Wr.size W2
  have K5 := K0.wr W2 (Or.inl (List.mem_of_getElem? (i := 0) rfl))
  have N2 := Fr.snoc X2 N1 (show n0 ≤ xa by omega)
  have Fw2 := P1.same W2
  refine r_V X2 hx hby hret hlk d42_9 e2 ?_
  exact ⟨N2, K5, rfl, Fw2⟩
theorem d28_0 : decode B28 0 = .ok (.iload_n 0, 1) := by decide +kernel
theorem d28_1 : decode B28 1 = .ok (.bipush (-128), 2) := by decide +kernel
theorem d28_3 : decode B28 3 = .ok (.if_icmp .lt 20, 3) := by decide +kernel
theorem d28_23 : decode B28 23 = .ok (.new 1, 3) := by decide +kernel
theorem d28_26 : decode B28 26 = .ok (.dup, 1) := by decide +kernel
theorem d28_27 : decode B28 27 = .ok (.iload_n 0, 1) := by decide +kernel
theorem d28_28 : decode B28 28 = .ok (.invokespecial 199, 3) := by decide +kernel
theorem own_pd_19 : parseMethodDescriptor "(I)V" = some ⟨[.int], none⟩ := by decide +kernel
theorem d28_31 : decode B28 31 = .ok (.areturn, 1) := by decide +kernel
theorem d28_6 : decode B28 6 = .ok (.iload_n 0, 1) := by decide +kernel
theorem d28_7 : decode B28 7 = .ok (.getstatic 191, 3) := by decide +kernel
theorem d28_10 : decode B28 10 = .ok (.if_icmp .gt 13, 3) := by decide +kernel
theorem d28_13 : decode B28 13 = .ok (.getstatic 195, 3) := by decide +kernel
theorem d28_16 : decode B28 16 = .ok (.iload_n 0, 1) := by decide +kernel
theorem d28_17 : decode B28 17 = .ok (.sipush 128, 3) := by decide +kernel
theorem d28_20 : decode B28 20 = .ok (.iadd, 1) := by decide +kernel
theorem d28_21 : decode B28 21 = .ok (.aaload, 1) := by decide +kernel
theorem d28_22 : decode B28 22 = .ok (.areturn, 1) := by decide +kernel
theorem own_ef_own_intValueOf (m : MethodId) (xi : Int32) : entryFrame m #[.int xi] 1 = mkF m 0 #[vI xi] [] := by first | (simp [entryFrame, mkF, argsToLocals, Value.category]; done) | rfl
def Q_own_intValueOf (Z : State) (xi : Int32) (gwD : Addr) (gz : Int32) (gwc : Addr) (gcl : Cell) (h0 : Heap) (n0 : Nat) (v : Option Value) (h : Heap) (L : List Loc) : Prop := Fr n0 L ∧ Keep h0 h [] ∧ ∃ (r : Addr), v = some (.ref r) ∧ Exa Z h r "java/lang/Integer" ∧ Fld Z h r "java/lang/Integer" "value" "I" (.int xi) ∧ (@LT.lt Nat _ r n0 ∨ h0.size ≤ r)
theorem own_intValueOf (l : Launch) (Z : State) (a0 : Array Value) (hw : ∀ d ∈ tables_1, d.before a0 Z = true) (ws : List Jvm.Cond) (xi : Int32) (h0 : Heap) (n0 : Nat) (O0 : Old Z n0 h0) (gwD : Addr) (gz : Int32) (gwc : Addr) (gcl : Cell) (G : GG Z gwD gz gwc gcl) : own_Met l Z (⟨"java/lang/Integer", "valueOf", "(I)Ljava/lang/Integer;"⟩ : MethodName) jdk_33_method_22_code 1 (some (.object "java/lang/Integer")) ws ({ frames := 3, cells := 1, slots := 1, locals := 38 } : Room) #[.int xi] h0 (Q_own_intValueOf Z xi gwD gz gwc gcl h0 n0) := by
  refine own_mk (plainFor_of_name own_pn_java_lang_Integer) O0 ?_
  intro p e s m below meth c s₁ hx hby hml hZ hown hnm hlk hret X0 e0 N0 z0 z1
  have K0 : Keep h0 h0 [] := Keep.refl _ _
  refine own_cast (own_ef_own_intValueOf m xi) ?_
  show own_Goes p e below (s₁.setTop (mkF m 0 #[vI xi] [])) _
  obtain ⟨G0, G1, G2, G3, G4, G5, G6⟩ := id G
  have ltG1 : @LT.lt Nat _ gwD Z.heap.size := G1.lt
  refine q_iloadN X0 hx hby d28_0 rfl ?_
  refine q_bipush X0 hx hby d28_1 ?_
  by_cases hc1 : xi < (-128 : Int32)
  · refine q_icmpYes (pc := 3) X0 hx hby d28_3 (pc' := 23) (tlt hc1).1 (by decide) (by decide) ?_
    obtain ⟨T2, h2, X2, e2, E2, A2, D2, -, st2⟩ := newO X0 hx hZ hown (wh hw 315 rfl) (wh hw 316 rfl) (wh hw 213 rfl) e0 (g := (mkF m 23 #[vI xi] [])) rfl (hb hby d28_23) (by decide) (by decide)
    obtain ⟨b2, g2⟩ : ∃ z, z = h0.size := ⟨_, rfl⟩
    rw [← g2] at A2 D2 st2
    refine gg st2 ?_
    have O3 := O0.ext E2
    have sz4 : h0.size ≤ h2.size := E2.1
    have K5 := K0.ext E2
    have l2 : @LT.lt Nat _ b2 h2.size := A2.lt
    have F2_value : Fld Z h2 b2 "java/lang/Integer" "value" "I" (.int 0) := D2 (Or.inr (wh hw 313 rfl)) (ty := .int) (by decide)
    refine q_dup X2 hx hby d28_26 rfl ?_
    refine q_iloadN X2 hx hby d28_27 rfl ?_
    refine k_N X2 hx hby hZ hown (wh hw 317 rfl) (wh hw 318 rfl) (W := 1) (own_intInit l Z a0 hw [] b2 xi h2 n0 O3 A2 F2_value (show n0 ≤ b2 by first | assumption | omega | decide)) (wh hw 319 rfl) (wh hw 213 rfl) e2  hml (argsL := [.int xi]) (rest := [.ref b2]) own_pd_19 d28_28 (fun _ T6 L6 X6 hQ6 => ?_)
    obtain ⟨h6, e6⟩ : ∃ z, T6.heap = z := ⟨_, rfl⟩
    rw [e6] at hQ6
    obtain ⟨Nc6, Kc6, rfl, c6_0⟩ := hQ6
    have N6 := Fr.app N0 Nc6
    have O7 := O3.keep Kc6 (allS (show n0 ≤ b2 by omega) all0)
    have sz8 : h2.size ≤ h6.size := Kc6.1
    have K9 := Keep.trans K5 Kc6 (allS (Or.inr (show h0.size ≤ b2 by omega)) all0)
    refine r_R X6 hx hby hret hlk d28_31 e6 ?_
    have f10 := (A2.keep Kc6)
    exact ⟨N6, K9, b2, rfl, f10, c6_0, (show (@LT.lt Nat _ b2 n0 ∨ h0.size ≤ b2) by first | assumption | omega | decide)⟩
  · refine q_icmpNo X0 hx hby d28_3 (flt hc1).1 ?_
    refine q_iloadN X0 hx hby d28_6 rfl ?_
    have q11 := G4.ext O0.2
    refine qS X0 hx hby hZ hown (host := "") (Or.inl (wh hw 215 rfl)) Via.refl e0 q11 d28_7 (fun T12 X12 e12 => ?_)
    by_cases hc13 : (127 : Int32) < xi
    · refine q_icmpYes (pc := 10) X12 hx hby d28_10 (pc' := 23) (tlt hc13).2.2.1 (by decide) (by decide) ?_
      obtain ⟨T14, h14, X14, e14, E14, A14, D14, -, st14⟩ := newO X12 hx hZ hown (wh hw 315 rfl) (wh hw 316 rfl) (wh hw 213 rfl) e12 (g := (mkF m 23 #[vI xi] [])) rfl (hb hby d28_23) (by decide) (by decide)
      obtain ⟨b14, g14⟩ : ∃ z, z = h0.size := ⟨_, rfl⟩
      rw [← g14] at A14 D14 st14
      refine gg st14 ?_
      have O15 := O0.ext E14
      have sz16 : h0.size ≤ h14.size := E14.1
      have K17 := K0.ext E14
      have l14 : @LT.lt Nat _ b14 h14.size := A14.lt
      have F14_value : Fld Z h14 b14 "java/lang/Integer" "value" "I" (.int 0) := D14 (Or.inr (wh hw 313 rfl)) (ty := .int) (by decide)
      refine q_dup X14 hx hby d28_26 rfl ?_
      refine q_iloadN X14 hx hby d28_27 rfl ?_
      show own_Goes p e below (T14.setTop (mkF m 28 #[vI xi] [.int xi, .ref b14, .ref b14])) _
      refine k_N X14 hx hby hZ hown (wh hw 317 rfl) (wh hw 318 rfl) (W := 1) (own_intInit l Z a0 hw [] b14 xi h14 n0 O15 A14 F14_value (show n0 ≤ b14 by first | assumption | omega | decide)) (wh hw 319 rfl) (wh hw 213 rfl) e14  hml (argsL := [.int xi]) (rest := [.ref b14]) own_pd_19 d28_28 (fun _ T18 L18 X18 hQ18 => ?_)
      obtain ⟨h18, e18⟩ : ∃ z, T18.heap = z := ⟨_, rfl⟩
      rw [e18] at hQ18
      obtain ⟨Nc18, Kc18, rfl, c18_0⟩ := hQ18
      have N18 := Fr.app N0 Nc18
      have O19 := O15.keep Kc18 (allS (show n0 ≤ b14 by omega) all0)
      have sz20 : h14.size ≤ h18.size := Kc18.1
      have K21 := Keep.trans K17 Kc18 (allS (Or.inr (show h0.size ≤ b14 by omega)) all0)
      refine r_R X18 hx hby hret hlk d28_31 e18 ?_
      have f22 := (A14.keep Kc18)
      exact ⟨N18, K21, b14, rfl, f22, c18_0, (show (@LT.lt Nat _ b14 n0 ∨ h0.size ≤ b14) by first | assumption | omega | decide)⟩
    · refine q_icmpNo X12 hx hby d28_10 (flt hc13).2.2.1 ?_
      have q23 := G5.ext O0.2
      refine qS X12 hx hby hZ hown (host := "") (Or.inl (wh hw 217 rfl)) Via.refl e12 q23 d28_13 (fun T24 X24 e24 => ?_)
      refine q_iloadN X24 hx hby d28_16 rfl ?_
      refine q_sipush X24 hx hby d28_17 ?_
      refine q_iadd X24 hx hby d28_20 ?_
      have hin : ¬ ((xi + (128 : Int32)) < 0 ∨ gcl.slots.size ≤ (xi + (128 : Int32)).toNatClampNeg) := own_inCache hc1 hc13 G6.2.1
      obtain ⟨rb, hat, Eb, Fb⟩ := G6.2.2.2 _ hin
      have Fb2 : Fld Z Z.heap rb "java/lang/Integer" "value" "I" (.int xi) := (show (Value.int ((xi + (128 : Int32)) - 128)) = .int xi by rw [Int32.add_sub_cancel]) ▸ Fb
      have ltb : @LT.lt Nat _ rb Z.heap.size := Eb.lt
      have Ab := G6.ext O0.2
      refine gg (fun t k => X24.aaload hx (j := (xi + (128 : Int32))) (v := (.ref rb)) (by rw [e24]; exact Ab.1.1) (State.isArrayOf_alike hZ.alike Ab.1.2.1) rfl Ab.1.2.2 hin hat (g := (mkF m 21 #[vI xi] [(.int (xi + (128 : Int32))), .ref gwc])) rfl rfl (hb hby d28_21) _ k) ?_
      refine r_R X24 hx hby hret hlk d28_22 e24 ?_
      have q25 := Eb.ext O0.2
      have q26 := Fb2.ext O0.2
      exact ⟨N0, K0, rb, rfl, q25, q26, (show (@LT.lt Nat _ rb n0 ∨ h0.size ≤ rb) by first | assumption | omega | decide)⟩
theorem d41_0 : decode B41 0 = .ok (.aload_n 0, 1) := by decide +kernel
theorem d41_1 : decode B41 1 = .ok (.getfield 205, 3) := by decide +kernel
theorem d41_4 : decode B41 4 = .ok (.ireturn, 1) := by decide +kernel
theorem own_ef_own_intValue (m : MethodId) (xa : Addr) : entryFrame m #[.ref xa] 1 = mkF m 0 #[vR xa] [] := by first | (simp [entryFrame, mkF, argsToLocals, Value.category]; done) | rfl
def Q_own_intValue (Z : State) (xa : Addr) (xv : Int32) (h0 : Heap) (n0 : Nat) (v : Option Value) (h : Heap) (L : List Loc) : Prop := Fr n0 L ∧ h = h0 ∧ v = some (.int xv)
theorem own_intValue (l : Launch) (Z : State) (a0 : Array Value) (hw : ∀ d ∈ tables_1, d.before a0 Z = true) (ws : List Jvm.Cond) (xa : Addr) (xv : Int32) (h0 : Heap) (n0 : Nat) (O0 : Old Z n0 h0) (P0 : Fld Z h0 xa "java/lang/Integer" "value" "I" (.int xv)) : own_Met l Z (⟨"java/lang/Integer", "intValue", "()I"⟩ : MethodName) jdk_33_method_27_code 1 (some .int) ws ({ frames := 0, cells := 0, slots := 0, locals := 0 } : Room) #[.ref xa] h0 (Q_own_intValue Z xa xv h0 n0) := by
  refine own_mk (plainFor_of_name own_pn_java_lang_Integer) O0 ?_
  intro p e s m below meth c s₁ hx hby hml hZ hown hnm hlk hret X0 e0 N0 z0 z1
  refine own_cast (own_ef_own_intValue m xa) ?_
  show own_Goes p e below (s₁.setTop (mkF m 0 #[vR xa] [])) _
  refine q_aloadN X0 hx hby d41_0 rfl rfl ?_
  refine qG X0 hx hby hZ hown (wh hw 312 rfl) e0 P0 d41_1 (fun T1 X1 e1 => ?_)
  refine r_I X1 hx hby hret hlk d41_4 e1 ?_
  exact ⟨N0, rfl, rfl⟩
def own_Gains (Z : State) (h : Heap) (x : Addr) (hi mid lo : Int32) : Prop := ∃ (r : Addr) (rk : ClassId), Fld Z h x "com/example/dolm/dolm/eval/JudgedRanking" "judgedGains" "[I" (.ref r) ∧
  ((Arv Z h r rk .int 0 [] (.int 0) ∧ hi = 0 ∧ mid = 0 ∧ lo = 0) ∨ (∃ z0, Arv Z h r rk .int 1 [.int z0] (.int 0) ∧ hi = z0 ∧ mid = 0 ∧ lo = 0) ∨ (∃ z0 z1, Arv Z h r rk .int 2 [.int z0, .int z1] (.int 0) ∧ hi = z1 ∧ mid = z0 ∧ lo = 0) ∨ (∃ z0 z1 z2, Arv Z h r rk .int 3 [.int z0, .int z1, .int z2] (.int 0) ∧ hi = z2 ∧ mid = z1 ∧ lo = z0))
theorem own_posT {u : Int32} (h : ¬ u < (1 : Int32)) : (0 : Int32) < u := by
  have := own_nltI h; have := own_i1; have := own_i0; rw [Int32.lt_iff_toInt_lt]; omega
theorem own_posF {u : Int32} (h : u < (1 : Int32)) : ¬ (0 : Int32) < u := by
  have := own_ltI h; have := own_i1; have := own_i0; rw [Int32.lt_iff_toInt_lt]; omega
theorem d7_0 : decode B7 0 = .ok (.aload_n 0, 1) := by decide +kernel
theorem d7_1 : decode B7 1 = .ok (.invokespecial 1, 3) := by decide +kernel
theorem d7_4 : decode B7 4 = .ok (.aload_n 0, 1) := by decide +kernel
theorem d7_5 : decode B7 5 = .ok (.aload_n 1, 1) := by decide +kernel
theorem d7_6 : decode B7 6 = .ok (.invokeinterface 7 1, 5) := by decide +kernel
theorem d7_11 : decode B7 11 = .ok (.newarray .boolean, 2) := by decide +kernel
theorem d7_13 : decode B7 13 = .ok (.putfield 13, 3) := by decide +kernel
theorem d7_16 : decode B7 16 = .ok (.aload_n 0, 1) := by decide +kernel
theorem d7_17 : decode B7 17 = .ok (.aload_n 1, 1) := by decide +kernel
theorem d7_18 : decode B7 18 = .ok (.invokeinterface 7 1, 5) := by decide +kernel
theorem d7_23 : decode B7 23 = .ok (.newarray .int, 2) := by decide +kernel
theorem d7_25 : decode B7 25 = .ok (.putfield 19, 3) := by decide +kernel
theorem d7_28 : decode B7 28 = .ok (.iconst 0, 1) := by decide +kernel
theorem d7_29 : decode B7 29 = .ok (.istore_n 3, 1) := by decide +kernel
theorem d7_30 : decode B7 30 = .ok (.iload_n 3, 1) := by decide +kernel
theorem d7_31 : decode B7 31 = .ok (.aload_n 0, 1) := by decide +kernel
theorem d7_32 : decode B7 32 = .ok (.getfield 13, 3) := by decide +kernel
theorem d7_35 : decode B7 35 = .ok (.arraylength, 1) := by decide +kernel
theorem d7_36 : decode B7 36 = .ok (.if_icmp .ge 69, 3) := by decide +kernel
theorem d7_105 : decode B7 105 = .ok (.iconst 0, 1) := by decide +kernel
theorem d7_106 : decode B7 106 = .ok (.istore_n 3, 1) := by decide +kernel
theorem d7_107 : decode B7 107 = .ok (.aload_n 2, 1) := by decide +kernel
theorem d7_108 : decode B7 108 = .ok (.invokeinterface 56 1, 5) := by decide +kernel
theorem d7_113 : decode B7 113 = .ok (.newarray .int, 2) := by decide +kernel
theorem d7_115 : decode B7 115 = .ok (.astore 4, 2) := by decide +kernel
theorem d7_117 : decode B7 117 = .ok (.iconst 0, 1) := by decide +kernel
theorem d7_118 : decode B7 118 = .ok (.istore 5, 2) := by decide +kernel
theorem d7_120 : decode B7 120 = .ok (.aload_n 2, 1) := by decide +kernel
theorem d7_121 : decode B7 121 = .ok (.invokeinterface 57 1, 5) := by decide +kernel
theorem own_pd_20 : parseMethodDescriptor "()Ljava/util/Collection;" = some ⟨[], some (.object "java/util/Collection")⟩ := by decide +kernel
theorem d7_126 : decode B7 126 = .ok (.invokeinterface 61 1, 5) := by decide +kernel
theorem own_pd_21 : parseMethodDescriptor "()Ljava/util/Iterator;" = some ⟨[], some (.object "java/util/Iterator")⟩ := by decide +kernel
theorem d7_131 : decode B7 131 = .ok (.astore 6, 2) := by decide +kernel
theorem d7_133 : decode B7 133 = .ok (.aload 6, 2) := by decide +kernel
theorem d7_135 : decode B7 135 = .ok (.invokeinterface 67 1, 5) := by decide +kernel
theorem d7_140 : decode B7 140 = .ok (.ifCond .eq 45, 3) := by decide +kernel
theorem d7_185 : decode B7 185 = .ok (.aload_n 0, 1) := by decide +kernel
theorem d7_186 : decode B7 186 = .ok (.iload_n 3, 1) := by decide +kernel
theorem d7_187 : decode B7 187 = .ok (.putfield 77, 3) := by decide +kernel
theorem d7_190 : decode B7 190 = .ok (.aload_n 0, 1) := by decide +kernel
theorem d7_191 : decode B7 191 = .ok (.aload 4, 2) := by decide +kernel
theorem d7_193 : decode B7 193 = .ok (.iload 5, 2) := by decide +kernel
theorem d7_195 : decode B7 195 = .ok (.invokestatic 81, 3) := by decide +kernel
theorem own_pd_22 : parseMethodDescriptor "([II)[I" = some ⟨[(.array .int), .int], some (.array .int)⟩ := by decide +kernel
theorem d7_198 : decode B7 198 = .ok (.putfield 87, 3) := by decide +kernel
theorem d7_201 : decode B7 201 = .ok (.aload_n 0, 1) := by decide +kernel
theorem d7_202 : decode B7 202 = .ok (.getfield 87, 3) := by decide +kernel
theorem d7_205 : decode B7 205 = .ok (.invokestatic 90, 3) := by decide +kernel
theorem own_pd_23 : parseMethodDescriptor "([I)V" = some ⟨[(.array .int)], none⟩ := by decide +kernel
theorem d7_208 : decode B7 208 = .ok (.return_, 1) := by decide +kernel
theorem own_pn_com_example_dolm_dolm_eval_JudgedRanking : plainName "com/example/dolm/dolm/eval/JudgedRanking" = true := by first | (simp [plainName, overriddenIn]; done) | decide +kernel
theorem own_ef_own_jr0 (m : MethodId) (xa : Addr) (xl : Addr) (xm : Addr) : entryFrame m #[.ref xa, .ref xl, .ref xm] 8 = mkF m 0 #[vR xa, vR xl, vR xm, uS, uS, uS, uS, uS] [] := by first | (simp [entryFrame, mkF, argsToLocals, Value.category]; done) | rfl
def Q_own_jr0 (Z : State) (xa : Addr) (xl : Addr) (xm : Addr) (h0 : Heap) (n0 : Nat) (v : Option Value) (h : Heap) (L : List Loc) : Prop := Fr n0 L ∧ Keep h0 h [xa, xm] ∧ v = none ∧ own_Gains Z h xa (own_max (0 : Int32) (own_max (0 : Int32) (0 : Int32))) (own_max (own_min (0 : Int32) (0 : Int32)) (own_min (own_max (0 : Int32) (0 : Int32)) (0 : Int32))) (own_min (0 : Int32) (own_min (0 : Int32) (0 : Int32)))
theorem own_jr0 (l : Launch) (Z : State) (a0 : Array Value) (hw : ∀ d ∈ tables_1, d.before a0 Z = true) (ws : List Jvm.Cond) (xa : Addr) (xl : Addr) (xm : Addr) (h0 : Heap) (n0 : Nat) (O0 : Old Z n0 h0) (P0 : Exa Z h0 xa "com/example/dolm/dolm/eval/JudgedRanking") (P1 : Fld Z h0 xa "com/example/dolm/dolm/eval/JudgedRanking" "relevant" "[Z" .null) (P2 : Fld Z h0 xa "com/example/dolm/dolm/eval/JudgedRanking" "gains" "[I" .null) (P3 : Fld Z h0 xa "com/example/dolm/dolm/eval/JudgedRanking" "relevantCount" "I" (.int 0)) (P4 : Fld Z h0 xa "com/example/dolm/dolm/eval/JudgedRanking" "judgedGains" "[I" .null) (P5 : n0 ≤ xa) (P6 : n0 ≤ xm) (P7 : Exa Z h0 xl "java/util/ArrayList") (P8 : Fld Z h0 xl "java/util/ArrayList" "size" "I" (.int 0)) (P9 : Exa Z h0 xm "java/util/HashMap") (P10 : Fld Z h0 xm "java/util/HashMap" "size" "I" (.int 0)) (P11 : Fld Z h0 xm "java/util/HashMap" "modCount" "I" (.int 0)) (P12 : Fld Z h0 xm "java/util/HashMap" "threshold" "I" (.int 0)) (P13 : Fld Z h0 xm "java/util/HashMap" "table" "[Ljava/util/HashMap$Node;" .null) (P14 : Fld Z h0 xm "java/util/AbstractMap" "values" "Ljava/util/Collection;" .null) (P15 : @LT.lt Nat _ xm xa) (P16 : @LT.lt Nat _ xl xm) : own_Met l Z (⟨"com/example/dolm/dolm/eval/JudgedRanking", "<init>", "(Ljava/util/List;Ljava/util/Map;)V"⟩ : MethodName) prog_9_method_1_code 8 none ws ({ frames := 4, cells := 6, slots := 6, locals := 79 } : Room) #[.ref xa, .ref xl, .ref xm] h0 (Q_own_jr0 Z xa xl xm h0 n0) := by
  refine own_mk (plainFor_of_name own_pn_com_example_dolm_dolm_eval_JudgedRanking) O0 ?_
  intro p e s m below meth c s₁ hx hby hml hZ hown hnm hlk hret X0 e0 N0 z0 z1
  have K0 : Keep h0 h0 [xa, xm] := Keep.refl _ _
  refine own_cast (own_ef_own_jr0 m xa xl xm) ?_
  show own_Goes p e below (s₁.setTop (mkF m 0 #[vR xa, vR xl, vR xm, uS, uS, uS, uS, uS] [])) _
  have ltP0 : @LT.lt Nat _ xa h0.size := P0.lt
  have ltP7 : @LT.lt Nat _ xl h0.size := P7.lt
  have ltP9 : @LT.lt Nat _ xm h0.size := P9.lt
  refine q_aloadN X0 hx hby d7_0 rfl rfl ?_
  obtain ⟨T1, X1, e1, st1⟩ := initO X0 hx hZ hown (wh hw 48 rfl) (wh hw 19 rfl) (wh hw 20 rfl) e0 (g := (mkF m 1 #[vR xa, vR xl, vR xm, uS, uS, uS, uS, uS] [.ref xa])) rfl (by rw [hml]; rfl) rfl (hb hby d7_1) (by decide) (W := 0) (by show 2 * 0 + _ ≤ _; exact Nat.le_of_eq rfl) (by decide)
  refine gg st1 ?_
  refine q_aloadN X1 hx hby d7_4 rfl rfl ?_
  refine q_aloadN X1 hx hby d7_5 rfl rfl ?_
  refine k_I X1 hx hby hZ hown (wh hw 49 rfl) (wh hw 50 rfl) (wh hw 51 rfl) (wh hw 52 rfl) (wh hw 53 rfl) (wh hw 54 rfl) (wh hw 55 rfl) (wh hw 56 rfl) (W := 1) (own_alSize l Z a0 hw [] xl h0 n0 O0 P8) (wh hw 57 rfl) (wh hw 2 rfl) e1 P7  hml (argsL := []) (rest := [.ref xa]) own_pd_6 d7_6 (fun _ T2 L2 X2 hQ2 => ?_)
  obtain ⟨Nc2, e2, rfl⟩ := hQ2
  have N2 := Fr.app N0 Nc2
  obtain ⟨T3, h3, k3, X3, e3, E3, A3, st3⟩ := newP X2 hx hZ (wh hw 60 rfl) e2 (g := (mkF m 11 #[vR xa, vR xl, vR xm, uS, uS, uS, uS, uS] [.int 0, .ref xa])) rfl (hb hby d7_11) rfl (by decide) (cap := 0) (by decide) (by decide) (by decide) (by decide)
  obtain ⟨b3, g3⟩ : ∃ z, z = h0.size := ⟨_, rfl⟩
  rw [← g3] at A3 st3
  refine gg st3 ?_
  have O4 := O0.ext E3
  have sz5 : h0.size ≤ h3.size := E3.1
  have K6 := K0.ext E3
  have l3 : @LT.lt Nat _ b3 h3.size := A3.lt
  have V3 : Arv Z h3 b3 k3 .boolean (0 : Int32) [] (.int 0) := (Arv.new A3 (by decide)).pad (pad_rep [] (.int 0) 0)
  have f7 := (P1.ext E3)
  have f8 := (P0.ext E3)
  refine qP X3 hx hby hZ hown (host := "") (Or.inl (wh hw 61 rfl)) Via.refl e3 f7 f8 (Or.inr ⟨(wh hw 62 rfl), rfl, hnm⟩) (wh hw 43 rfl) (ty := (.array .boolean)) d7_13 (fun T9 h9 X9 e9 W9 => ?_)
  have O10 := O4.wr W9 (show n0 ≤ xa by omega)
  have sz11 : h9.size = h3.size := Wr.size W9
  have K12 := K6.wr W9 (Or.inl (List.mem_of_getElem? (i := 0) rfl))
  have N9 := Fr.snoc X9 N2 (show n0 ≤ xa by omega)
  have Fw9 := f7.same W9
  refine q_aloadN X9 hx hby d7_16 rfl rfl ?_
  refine q_aloadN X9 hx hby d7_17 rfl rfl ?_
  have f13 := ((P8.ext E3).other W9 (Or.inl (nE xl xa (by omega))))
  have f14 := ((P7.ext E3).wr W9)
  refine k_I X9 hx hby hZ hown (wh hw 49 rfl) (wh hw 50 rfl) (wh hw 51 rfl) (wh hw 52 rfl) (wh hw 53 rfl) (wh hw 54 rfl) (wh hw 55 rfl) (wh hw 56 rfl) (W := 1) (own_alSize l Z a0 hw [] xl h9 n0 O10 f13) (wh hw 57 rfl) (wh hw 2 rfl) e9 f14  hml (argsL := []) (rest := [.ref xa]) own_pd_6 d7_18 (fun _ T15 L15 X15 hQ15 => ?_)
  obtain ⟨Nc15, e15, rfl⟩ := hQ15
  have N15 := Fr.app N9 Nc15
  obtain ⟨T16, h16, k16, X16, e16, E16, A16, Ex16, st16⟩ := newPE X15 hx hZ (wh hw 63 rfl) e15 (g := (mkF m 23 #[vR xa, vR xl, vR xm, uS, uS, uS, uS, uS] [.int 0, .ref xa])) rfl (hb hby d7_23) rfl (by decide) (cap := 0) (by decide) (by decide) (by decide) (by decide) (ad := "[I") (by decide)
  obtain ⟨b16, g16⟩ : ∃ z, z = h9.size := ⟨_, rfl⟩
  rw [← g16] at A16 st16 Ex16
  refine gg st16 ?_
  have O17 := O10.ext E16
  have sz18 : h9.size ≤ h16.size := E16.1
  have K19 := K12.ext E16
  have l16 : @LT.lt Nat _ b16 h16.size := A16.lt
  have V16 : Arv Z h16 b16 k16 .int (0 : Int32) [] (.int 0) := (Arv.new A16 (by decide)).pad (pad_rep [] (.int 0) 0)
  have f20 := (((P2.ext E3).other W9 (Or.inr (slot_ne (Or.inr (wh hw 65 rfl)) (Or.inr (wh hw 62 rfl)) (by decide) (t := (.array .int)) (t' := (.array .boolean)) (by decide) (by decide)))).ext E16)
  have f21 := ((f8.wr W9).ext E16)
  refine qP X16 hx hby hZ hown (host := "") (Or.inl (wh hw 64 rfl)) Via.refl e16 f20 f21 (Or.inr ⟨(wh hw 65 rfl), rfl, hnm⟩) (wh hw 43 rfl) (ty := (.array .int)) d7_25 (fun T22 h22 X22 e22 W22 => ?_)
  have O23 := O17.wr W22 (show n0 ≤ xa by omega)
  have sz24 : h22.size = h16.size := Wr.size W22
  have K25 := K19.wr W22 (Or.inl (List.mem_of_getElem? (i := 0) rfl))
  have N22 := Fr.snoc X22 N15 (show n0 ≤ xa by omega)
  have Fw22 := f20.same W22
  refine q_iconst X22 hx hby d7_28 ?_
  refine q_istoreN X22 hx hby d7_29 (l' := #[vR xa, vR xl, vR xm, vI 0, uS, uS, uS, uS]) rfl ?_
  show own_Goes p e below (T22.setTop (mkF m 30 #[vR xa, vR xl, vR xm, vI 0, uS, uS, uS, uS] [])) _
  refine q_iloadN X22 hx hby d7_30 rfl ?_
  refine q_aloadN X22 hx hby d7_31 rfl rfl ?_
  have f26 := ((Fw9.ext E16).other W22 (Or.inr (slot_ne (Or.inr (wh hw 62 rfl)) (Or.inr (wh hw 65 rfl)) (by decide) (t := (.array .boolean)) (t' := (.array .int)) (by decide) (by decide))))
  refine qG X22 hx hby hZ hown (wh hw 61 rfl) e22 f26 d7_32 (fun T27 X27 e27 => ?_)
  have f28 := (((V3.other W9 (nE b3 xa (by omega))).ext E16).other W22 (nE b3 xa (by omega)))
  refine q_len X27 hx hby hZ e27 f28 d7_35 ?_
  refine q_icmpYes (pc := 36) X27 hx hby d7_36 (pc' := 105) (flt (show ¬ ((0 : Int32) < (0 : Int32)) from by decide)).2.1 (by decide) (by decide) ?_
  refine q_iconst X27 hx hby d7_105 ?_
  refine q_istoreN X27 hx hby d7_106 (l' := #[vR xa, vR xl, vR xm, vI 0, uS, uS, uS, uS]) rfl ?_
  refine q_aloadN X27 hx hby d7_107 rfl rfl ?_
  have f30 := ((((P10.ext E3).other W9 (Or.inl (nE xm xa (by omega)))).ext E16).other W22 (Or.inl (nE xm xa (by omega))))
  have f31 := ((((P9.ext E3).wr W9).ext E16).wr W22)
  refine k_I X27 hx hby hZ hown (wh hw 66 rfl) (wh hw 67 rfl) (wh hw 68 rfl) (wh hw 69 rfl) (wh hw 70 rfl) (wh hw 71 rfl) (wh hw 72 rfl) (wh hw 73 rfl) (W := 0) (own_hmSize l Z a0 hw [] xm (0 : Int32) h22 n0 O23 f30) (wh hw 74 rfl) (wh hw 28 rfl) e27 f31  hml (argsL := []) (rest := []) own_pd_6 d7_108 (fun _ T32 L32 X32 hQ32 => ?_)
  obtain ⟨Nc32, e32, rfl⟩ := hQ32
  have N32 := Fr.app N22 Nc32
  obtain ⟨T33, h33, k33, X33, e33, E33, A33, Ex33, st33⟩ := newPE X32 hx hZ (wh hw 63 rfl) e32 (g := (mkF m 113 #[vR xa, vR xl, vR xm, vI 0, uS, uS, uS, uS] [.int 0])) rfl (hb hby d7_113) rfl (by decide) (cap := 0) (by decide) (by decide) (by decide) (by decide) (ad := "[I") (by decide)
  obtain ⟨b33, g33⟩ : ∃ z, z = h22.size := ⟨_, rfl⟩
  rw [← g33] at A33 st33 Ex33
  refine gg st33 ?_
  have O34 := O23.ext E33
  have sz35 : h22.size ≤ h33.size := E33.1
  have K36 := K25.ext E33
  have l33 : @LT.lt Nat _ b33 h33.size := A33.lt
  have V33 : Arv Z h33 b33 k33 .int (0 : Int32) [] (.int 0) := (Arv.new A33 (by decide)).pad (pad_rep [] (.int 0) 0)
  refine q_astore X33 hx hby d7_115 rfl (l' := #[vR xa, vR xl, vR xm, vI 0, vR b33, uS, uS, uS]) rfl ?_
  refine q_iconst X33 hx hby d7_117 ?_
  refine q_istore X33 hx hby d7_118 (l' := #[vR xa, vR xl, vR xm, vI 0, vR b33, vI 0, uS, uS]) rfl ?_
  refine q_aloadN X33 hx hby d7_120 rfl rfl ?_
  show own_Goes p e below (T33.setTop (mkF m 121 #[vR xa, vR xl, vR xm, vI 0, vR b33, vI 0, uS, uS] [.ref xm])) _
  have f37 := (f31.ext E33)
  have f38 := (f30.ext E33)
  have f39 := (((((P11.ext E3).other W9 (Or.inl (nE xm xa (by omega)))).ext E16).other W22 (Or.inl (nE xm xa (by omega)))).ext E33)
  have f40 := (((((P12.ext E3).other W9 (Or.inl (nE xm xa (by omega)))).ext E16).other W22 (Or.inl (nE xm xa (by omega)))).ext E33)
  have f41 := (((((P13.ext E3).other W9 (Or.inl (nE xm xa (by omega)))).ext E16).other W22 (Or.inl (nE xm xa (by omega)))).ext E33)
  have f42 := (((((P14.ext E3).other W9 (Or.inl (nE xm xa (by omega)))).ext E16).other W22 (Or.inl (nE xm xa (by omega)))).ext E33)
  refine k_I X33 hx hby hZ hown (wh hw 77 rfl) (wh hw 78 rfl) (wh hw 79 rfl) (wh hw 80 rfl) (wh hw 81 rfl) (wh hw 82 rfl) (wh hw 83 rfl) (wh hw 73 rfl) (W := 0) (own_values l Z a0 hw [] xm (0 : Int32) (0 : Int32) (0 : Int32) Value.null h33 n0 O34 f37 (show n0 ≤ xm by first | assumption | omega | decide) f38 f39 f40 f41 f42) (wh hw 84 rfl) (wh hw 28 rfl) e33 f37  hml (argsL := []) (rest := []) own_pd_20 d7_121 (fun _ T43 L43 X43 hQ43 => ?_)
  obtain ⟨h43, e43⟩ : ∃ z, T43.heap = z := ⟨_, rfl⟩
  rw [e43] at hQ43
  obtain ⟨Nc43, Kc43, r_43, rfl, c43_0, c43_1, c43_2, c43_3, c43_4, c43_5, c43_6, c43_7⟩ := hQ43
  have N43 := Fr.app N32 Nc43
  have O44 := O34.keep Kc43 (allS (show n0 ≤ xm by omega) all0)
  have sz45 : h33.size ≤ h43.size := Kc43.1
  have K46 := Keep.trans K36 Kc43 (allS (Or.inl (List.mem_of_getElem? (i := 1) rfl)) all0)
  have ltc43_5 : @LT.lt Nat _ r_43 h43.size := c43_5.lt
  refine k_I X43 hx hby hZ hown (wh hw 99 rfl) (wh hw 100 rfl) (wh hw 101 rfl) (wh hw 102 rfl) (wh hw 103 rfl) (wh hw 104 rfl) (wh hw 105 rfl) (wh hw 106 rfl) (W := 0) (own_iter0 l Z a0 hw [] r_43 xm (0 : Int32) h43 n0 O44 c43_6 c43_0 c43_1 c43_3 (show @LT.lt Nat _ xm h43.size by first | assumption | omega | decide)) (wh hw 107 rfl) (wh hw 90 rfl) e43 c43_5  hml (argsL := []) (rest := []) own_pd_21 d7_126 (fun _ T47 L47 X47 hQ47 => ?_)
  obtain ⟨h47, e47⟩ : ∃ z, T47.heap = z := ⟨_, rfl⟩
  rw [e47] at hQ47
  obtain ⟨Nc47, Kc47, r_47, rfl, c47_0, c47_1, c47_2, c47_3, c47_4, c47_5, c47_6⟩ := hQ47
  have N47 := Fr.app N43 Nc47
  have O48 := O44.keep Kc47 all0
  have sz49 : h43.size ≤ h47.size := Kc47.1
  have K50 := Keep.trans K46 Kc47 all0
  have ltc47_0 : @LT.lt Nat _ r_47 h47.size := c47_0.lt
  refine q_astore X47 hx hby d7_131 rfl (l' := #[vR xa, vR xl, vR xm, vI 0, vR b33, vI 0, vR r_47, uS]) rfl ?_
  refine q_aload X47 hx hby d7_133 rfl rfl ?_
  refine k_I X47 hx hby hZ hown (wh hw 136 rfl) (wh hw 137 rfl) (wh hw 138 rfl) (wh hw 139 rfl) (wh hw 140 rfl) (wh hw 141 rfl) (wh hw 142 rfl) (wh hw 143 rfl) (W := 0) (own_hasNext0 l Z a0 hw [] r_47 h47 n0 O48 c47_3) (wh hw 144 rfl) (wh hw 119 rfl) e47 c47_0  hml (argsL := []) (rest := []) own_pd_4 d7_135 (fun _ T51 L51 X51 hQ51 => ?_)
  obtain ⟨Nc51, e51, rfl⟩ := hQ51
  have N51 := Fr.app N47 Nc51
  refine q_ifYes (pc := 140) X51 hx hby d7_140 (pc' := 185) ((if0 _ _).trans (teq (show ((0 : Int32) = (0 : Int32)) from by decide)).1) (by decide) (by decide) ?_
  refine q_aloadN X51 hx hby d7_185 rfl rfl ?_
  refine q_iloadN X51 hx hby d7_186 rfl ?_
  have f52 := (((((((P3.ext E3).other W9 (Or.inr (slot_ne (Or.inr (wh hw 146 rfl)) (Or.inr (wh hw 62 rfl)) (by decide) (t := .int) (t' := (.array .boolean)) (by decide) (by decide)))).ext E16).other W22 (Or.inr (slot_ne (Or.inr (wh hw 146 rfl)) (Or.inr (wh hw 65 rfl)) (by decide) (t := .int) (t' := (.array .int)) (by decide) (by decide)))).ext E33).keep Kc43 (ninS (nE xa xm (by omega)) nin0)).keep Kc47 nin0)
  have f53 := ((((f21.wr W22).ext E33).keep Kc43).keep Kc47)
  refine qP X51 hx hby hZ hown (host := "") (Or.inl (wh hw 145 rfl)) Via.refl e51 f52 f53 (Or.inr ⟨(wh hw 146 rfl), rfl, hnm⟩) (wh hw 43 rfl) (ty := .int) d7_187 (fun T54 h54 X54 e54 W54 => ?_)
  have O55 := O48.wr W54 (show n0 ≤ xa by omega)
  have sz56 : h54.size = h47.size := Wr.size W54
  have K57 := K50.wr W54 (Or.inl (List.mem_of_getElem? (i := 0) rfl))
  have N54 := Fr.snoc X54 N51 (show n0 ≤ xa by omega)
  have Fw54 := f52.same W54
  refine q_aloadN X54 hx hby d7_190 rfl rfl ?_
  refine q_aload X54 hx hby d7_191 rfl rfl ?_
  refine q_iload X54 hx hby d7_193 rfl ?_
  have f58 := (((Ex33.keep Kc43).keep Kc47).wr W54)
  have f59 := (((V33.keep Kc43 (ninS (nE b33 xm (by omega)) nin0)).keep Kc47 nin0).other W54 (nE b33 xa (by omega)))
  refine k_S X54 hx hby hZ hown (wh hw 147 rfl) (wh hw 148 rfl) (W := 1) (own_copy0 l Z a0 hw [] b33 k33 h54 n0 O55 f58 f59) (wh hw 150 rfl) (wh hw 149 rfl) e54  hml (argsL := [.ref b33, .int 0]) (rest := [.ref xa]) own_pd_22 d7_195 (fun _ T60 L60 X60 hQ60 => ?_)
  obtain ⟨h60, e60⟩ : ∃ z, T60.heap = z := ⟨_, rfl⟩
  rw [e60] at hQ60
  obtain ⟨Nc60, Kc60, r_60, rk_60, rfl, c60_0, c60_1⟩ := hQ60
  have N60 := Fr.app N54 Nc60
  have O61 := O55.keep Kc60 all0
  have sz62 : h54.size ≤ h60.size := Kc60.1
  have K63 := Keep.trans K57 Kc60 all0
  have ltc60_0 : @LT.lt Nat _ r_60 h60.size := c60_0.lt
  have f64 := (((((((((P4.ext E3).other W9 (Or.inr (slot_ne (Or.inr (wh hw 161 rfl)) (Or.inr (wh hw 62 rfl)) (by decide) (t := (.array .int)) (t' := (.array .boolean)) (by decide) (by decide)))).ext E16).other W22 (Or.inr (slot_ne (Or.inr (wh hw 161 rfl)) (Or.inr (wh hw 65 rfl)) (by decide) (t := (.array .int)) (t' := (.array .int)) (by decide) (by decide)))).ext E33).keep Kc43 (ninS (nE xa xm (by omega)) nin0)).keep Kc47 nin0).other W54 (Or.inr (slot_ne (Or.inr (wh hw 161 rfl)) (Or.inr (wh hw 146 rfl)) (by decide) (t := (.array .int)) (t' := .int) (by decide) (by decide)))).keep Kc60 nin0)
  have f65 := ((f53.wr W54).keep Kc60)
  refine qP X60 hx hby hZ hown (host := "") (Or.inl (wh hw 160 rfl)) Via.refl e60 f64 f65 (Or.inr ⟨(wh hw 161 rfl), rfl, hnm⟩) (wh hw 43 rfl) (ty := (.array .int)) d7_198 (fun T66 h66 X66 e66 W66 => ?_)
  have O67 := O61.wr W66 (show n0 ≤ xa by omega)
  have sz68 : h66.size = h60.size := Wr.size W66
  have K69 := K63.wr W66 (Or.inl (List.mem_of_getElem? (i := 0) rfl))
  have N66 := Fr.snoc X66 N60 (show n0 ≤ xa by omega)
  have Fw66 := f64.same W66
  show own_Goes p e below (T66.setTop (mkF m 201 #[vR xa, vR xl, vR xm, vI 0, vR b33, vI 0, vR r_47, uS] [])) _
  refine q_aloadN X66 hx hby d7_201 rfl rfl ?_
  refine qG X66 hx hby hZ hown (wh hw 160 rfl) e66 Fw66 d7_202 (fun T70 X70 e70 => ?_)
  have f71 := (c60_0.other W66 (nE r_60 xa (by omega)))
  refine k_S X70 hx hby hZ hown (wh hw 162 rfl) (wh hw 163 rfl) (W := 0) (own_sort0 l Z a0 hw [] r_60 rk_60 h66 n0 O67 f71 (show n0 ≤ r_60 by first | assumption | omega | decide)) (wh hw 164 rfl) (wh hw 149 rfl) e70  hml (argsL := [.ref r_60]) (rest := []) own_pd_23 d7_205 (fun _ T72 L72 X72 hQ72 => ?_)
  obtain ⟨h72, e72⟩ : ∃ z, T72.heap = z := ⟨_, rfl⟩
  rw [e72] at hQ72
  obtain ⟨Nc72, Kc72, rfl, c72_0⟩ := hQ72
  have N72 := Fr.app N66 Nc72
  have O73 := O67.keep Kc72 (allS (show n0 ≤ r_60 by omega) all0)
  have sz74 : h66.size ≤ h72.size := Kc72.1
  have K75 := Keep.trans K69 Kc72 (allS (Or.inr (show h0.size ≤ r_60 by omega)) all0)
  have ltc72_0 : @LT.lt Nat _ r_60 h72.size := c72_0.lt
  refine r_V X72 hx hby hret hlk d7_208 e72 ?_
  have f76 := (Fw66.keep Kc72 (ninS (nE xa r_60 (by omega)) nin0))
  have GA : own_Gains Z h72 xa (own_max (0 : Int32) (own_max (0 : Int32) (0 : Int32))) (own_max (own_min (0 : Int32) (0 : Int32)) (own_min (own_max (0 : Int32) (0 : Int32)) (0 : Int32))) (own_min (0 : Int32) (own_min (0 : Int32) (0 : Int32))) := ⟨r_60, rk_60, f76, (Or.inl ⟨c72_0, own_eqI (by simp only [own_maxI, own_minI, own_i0]; omega), own_eqI (by simp only [own_maxI, own_minI, own_i0]; omega), own_eqI (by simp only [own_maxI, own_minI, own_i0]; omega)⟩)⟩
  exact ⟨N72, K75, rfl, GA⟩
theorem d7_143 : decode B7 143 = .ok (.aload 6, 2) := by decide +kernel
theorem d7_145 : decode B7 145 = .ok (.invokeinterface 73 1, 5) := by decide +kernel
theorem own_pd_24 : parseMethodDescriptor "()Ljava/lang/Object;" = some ⟨[], some (.object "java/lang/Object")⟩ := by decide +kernel
theorem d7_150 : decode B7 150 = .ok (.checkcast 34, 3) := by decide +kernel
theorem d7_153 : decode B7 153 = .ok (.invokevirtual 45, 3) := by decide +kernel
theorem d7_156 : decode B7 156 = .ok (.istore 7, 2) := by decide +kernel
theorem d7_158 : decode B7 158 = .ok (.iload 7, 2) := by decide +kernel
theorem d7_160 : decode B7 160 = .ok (.iconst 1, 1) := by decide +kernel
theorem d7_161 : decode B7 161 = .ok (.if_icmp .lt 6, 3) := by decide +kernel
theorem d7_167 : decode B7 167 = .ok (.iload 7, 2) := by decide +kernel
theorem d7_169 : decode B7 169 = .ok (.ifCond .le 13, 3) := by decide +kernel
theorem d7_182 : decode B7 182 = .ok (.goto (-49), 3) := by decide +kernel
theorem d7_164 : decode B7 164 = .ok (.iinc 3 1, 3) := by decide +kernel
theorem d7_172 : decode B7 172 = .ok (.aload 4, 2) := by decide +kernel
theorem d7_174 : decode B7 174 = .ok (.iload 5, 2) := by decide +kernel
theorem d7_176 : decode B7 176 = .ok (.iload 7, 2) := by decide +kernel
theorem d7_178 : decode B7 178 = .ok (.iastore, 1) := by decide +kernel
theorem d7_179 : decode B7 179 = .ok (.iinc 5 1, 3) := by decide +kernel
theorem own_ef_own_jr1 (m : MethodId) (xa : Addr) (xl : Addr) (xm : Addr) : entryFrame m #[.ref xa, .ref xl, .ref xm] 8 = mkF m 0 #[vR xa, vR xl, vR xm, uS, uS, uS, uS, uS] [] := by first | (simp [entryFrame, mkF, argsToLocals, Value.category]; done) | rfl
def Q_own_jr1 (Z : State) (xa : Addr) (xl : Addr) (xm : Addr) (xt : Addr) (xk : ClassId) (x1 : Addr) (v0 : Addr) (u0 : Int32) (h0 : Heap) (n0 : Nat) (v : Option Value) (h : Heap) (L : List Loc) : Prop := Fr n0 L ∧ Keep h0 h [xa, xm] ∧ v = none ∧ own_Gains Z h xa (own_max (own_max u0 (0 : Int32)) (own_max (0 : Int32) (0 : Int32))) (own_max (own_min (own_max u0 (0 : Int32)) (0 : Int32)) (own_min (own_max (own_max u0 (0 : Int32)) (0 : Int32)) (0 : Int32))) (own_min (own_max u0 (0 : Int32)) (own_min (0 : Int32) (0 : Int32)))
theorem own_jr1 (l : Launch) (Z : State) (a0 : Array Value) (hw : ∀ d ∈ tables_1, d.before a0 Z = true) (ws : List Jvm.Cond) (xa : Addr) (xl : Addr) (xm : Addr) (xt : Addr) (xk : ClassId) (x1 : Addr) (v0 : Addr) (u0 : Int32) (h0 : Heap) (n0 : Nat) (O0 : Old Z n0 h0) (P0 : Exa Z h0 xa "com/example/dolm/dolm/eval/JudgedRanking") (P1 : Fld Z h0 xa "com/example/dolm/dolm/eval/JudgedRanking" "relevant" "[Z" .null) (P2 : Fld Z h0 xa "com/example/dolm/dolm/eval/JudgedRanking" "gains" "[I" .null) (P3 : Fld Z h0 xa "com/example/dolm/dolm/eval/JudgedRanking" "relevantCount" "I" (.int 0)) (P4 : Fld Z h0 xa "com/example/dolm/dolm/eval/JudgedRanking" "judgedGains" "[I" .null) (P5 : n0 ≤ xa) (P6 : n0 ≤ xm) (P7 : Exa Z h0 xl "java/util/ArrayList") (P8 : Fld Z h0 xl "java/util/ArrayList" "size" "I" (.int 0)) (P9 : Exa Z h0 xm "java/util/HashMap") (P10 : Fld Z h0 xm "java/util/HashMap" "size" "I" (.int 1)) (P11 : Fld Z h0 xm "java/util/HashMap" "modCount" "I" (.int 1)) (P12 : Fld Z h0 xm "java/util/HashMap" "threshold" "I" (.int 12)) (P13 : Fld Z h0 xm "java/util/HashMap" "table" "[Ljava/util/HashMap$Node;" (.ref xt)) (P14 : Fld Z h0 xm "java/util/AbstractMap" "values" "Ljava/util/Collection;" .null) (P15 : @LT.lt Nat _ xm xa) (P16 : @LT.lt Nat _ xl xm) (P17 : Arv Z h0 xt xk (.object "java/util/HashMap$Node") (16 : Int32) [.null, .ref x1, .null, .null, .null, .null, .null, .null, .null, .null, .null, .null, .null, .null, .null, .null] .null) (P18 : @LT.lt Nat _ xm xt) (P19 : @LT.lt Nat _ xt xa) (P20 : Exa Z h0 x1 "java/util/HashMap$Node") (P21 : Fld Z h0 x1 "java/util/HashMap$Node" "value" "Ljava/lang/Object;" (.ref v0)) (P22 : Fld Z h0 x1 "java/util/HashMap$Node" "next" "Ljava/util/HashMap$Node;" .null) (P23 : Exa Z h0 v0 "java/lang/Integer") (P24 : Fld Z h0 v0 "java/lang/Integer" "value" "I" (.int u0)) (P25 : @LT.lt Nat _ xt x1) (P26 : @LT.lt Nat _ x1 xa) (P27 : (@LT.lt Nat _ v0 n0 ∨ @LT.lt Nat _ xm v0)) (P28 : @LT.lt Nat _ v0 xa) : own_Met l Z (⟨"com/example/dolm/dolm/eval/JudgedRanking", "<init>", "(Ljava/util/List;Ljava/util/Map;)V"⟩ : MethodName) prog_9_method_1_code 8 none ws ({ frames := 4, cells := 6, slots := 8, locals := 79 } : Room) #[.ref xa, .ref xl, .ref xm] h0 (Q_own_jr1 Z xa xl xm xt xk x1 v0 u0 h0 n0) := by
  refine own_mk (plainFor_of_name own_pn_com_example_dolm_dolm_eval_JudgedRanking) O0 ?_
  intro p e s m below meth c s₁ hx hby hml hZ hown hnm hlk hret X0 e0 N0 z0 z1
  have K0 : Keep h0 h0 [xa, xm] := Keep.refl _ _
  refine own_cast (own_ef_own_jr1 m xa xl xm) ?_
  show own_Goes p e below (s₁.setTop (mkF m 0 #[vR xa, vR xl, vR xm, uS, uS, uS, uS, uS] [])) _
  have ltP0 : @LT.lt Nat _ xa h0.size := P0.lt
  have ltP7 : @LT.lt Nat _ xl h0.size := P7.lt
  have ltP9 : @LT.lt Nat _ xm h0.size := P9.lt
  have ltP17 : @LT.lt Nat _ xt h0.size := P17.lt
  have ltP20 : @LT.lt Nat _ x1 h0.size := P20.lt
  have ltP23 : @LT.lt Nat _ v0 h0.size := P23.lt
  refine q_aloadN X0 hx hby d7_0 rfl rfl ?_
  obtain ⟨T1, X1, e1, st1⟩ := initO X0 hx hZ hown (wh hw 48 rfl) (wh hw 19 rfl) (wh hw 20 rfl) e0 (g := (mkF m 1 #[vR xa, vR xl, vR xm, uS, uS, uS, uS, uS] [.ref xa])) rfl (by rw [hml]; rfl) rfl (hb hby d7_1) (by decide) (W := 0) (by show 2 * 0 + _ ≤ _; exact Nat.le_of_eq rfl) (by decide)
  refine gg st1 ?_
  refine q_aloadN X1 hx hby d7_4 rfl rfl ?_
  refine q_aloadN X1 hx hby d7_5 rfl rfl ?_
  refine k_I X1 hx hby hZ hown (wh hw 49 rfl) (wh hw 50 rfl) (wh hw 51 rfl) (wh hw 52 rfl) (wh hw 53 rfl) (wh hw 54 rfl) (wh hw 55 rfl) (wh hw 56 rfl) (W := 1) (own_alSize l Z a0 hw [] xl h0 n0 O0 P8) (wh hw 57 rfl) (wh hw 2 rfl) e1 P7  hml (argsL := []) (rest := [.ref xa]) own_pd_6 d7_6 (fun _ T2 L2 X2 hQ2 => ?_)
  obtain ⟨Nc2, e2, rfl⟩ := hQ2
  have N2 := Fr.app N0 Nc2
  obtain ⟨T3, h3, k3, X3, e3, E3, A3, st3⟩ := newP X2 hx hZ (wh hw 60 rfl) e2 (g := (mkF m 11 #[vR xa, vR xl, vR xm, uS, uS, uS, uS, uS] [.int 0, .ref xa])) rfl (hb hby d7_11) rfl (by decide) (cap := 0) (by decide) (by decide) (by decide) (by decide)
  obtain ⟨b3, g3⟩ : ∃ z, z = h0.size := ⟨_, rfl⟩
  rw [← g3] at A3 st3
  refine gg st3 ?_
  have O4 := O0.ext E3
  have sz5 : h0.size ≤ h3.size := E3.1
  have K6 := K0.ext E3
  have l3 : @LT.lt Nat _ b3 h3.size := A3.lt
  have V3 : Arv Z h3 b3 k3 .boolean (0 : Int32) [] (.int 0) := (Arv.new A3 (by decide)).pad (pad_rep [] (.int 0) 0)
  have f7 := (P1.ext E3)
  have f8 := (P0.ext E3)
  refine qP X3 hx hby hZ hown (host := "") (Or.inl (wh hw 61 rfl)) Via.refl e3 f7 f8 (Or.inr ⟨(wh hw 62 rfl), rfl, hnm⟩) (wh hw 43 rfl) (ty := (.array .boolean)) d7_13 (fun T9 h9 X9 e9 W9 => ?_)
  have O10 := O4.wr W9 (show n0 ≤ xa by omega)
  have sz11 : h9.size = h3.size := Wr.size W9
  have K12 := K6.wr W9 (Or.inl (List.mem_of_getElem? (i := 0) rfl))
  have N9 := Fr.snoc X9 N2 (show n0 ≤ xa by omega)
  have Fw9 := f7.same W9
  refine q_aloadN X9 hx hby d7_16 rfl rfl ?_
  refine q_aloadN X9 hx hby d7_17 rfl rfl ?_
  have f13 := ((P8.ext E3).other W9 (Or.inl (nE xl xa (by omega))))
  have f14 := ((P7.ext E3).wr W9)
  refine k_I X9 hx hby hZ hown (wh hw 49 rfl) (wh hw 50 rfl) (wh hw 51 rfl) (wh hw 52 rfl) (wh hw 53 rfl) (wh hw 54 rfl) (wh hw 55 rfl) (wh hw 56 rfl) (W := 1) (own_alSize l Z a0 hw [] xl h9 n0 O10 f13) (wh hw 57 rfl) (wh hw 2 rfl) e9 f14  hml (argsL := []) (rest := [.ref xa]) own_pd_6 d7_18 (fun _ T15 L15 X15 hQ15 => ?_)
  obtain ⟨Nc15, e15, rfl⟩ := hQ15
  have N15 := Fr.app N9 Nc15
  obtain ⟨T16, h16, k16, X16, e16, E16, A16, Ex16, st16⟩ := newPE X15 hx hZ (wh hw 63 rfl) e15 (g := (mkF m 23 #[vR xa, vR xl, vR xm, uS, uS, uS, uS, uS] [.int 0, .ref xa])) rfl (hb hby d7_23) rfl (by decide) (cap := 0) (by decide) (by decide) (by decide) (by decide) (ad := "[I") (by decide)
  obtain ⟨b16, g16⟩ : ∃ z, z = h9.size := ⟨_, rfl⟩
  rw [← g16] at A16 st16 Ex16
  refine gg st16 ?_
  have O17 := O10.ext E16
  have sz18 : h9.size ≤ h16.size := E16.1
  have K19 := K12.ext E16
  have l16 : @LT.lt Nat _ b16 h16.size := A16.lt
  have V16 : Arv Z h16 b16 k16 .int (0 : Int32) [] (.int 0) := (Arv.new A16 (by decide)).pad (pad_rep [] (.int 0) 0)
  have f20 := (((P2.ext E3).other W9 (Or.inr (slot_ne (Or.inr (wh hw 65 rfl)) (Or.inr (wh hw 62 rfl)) (by decide) (t := (.array .int)) (t' := (.array .boolean)) (by decide) (by decide)))).ext E16)
  have f21 := ((f8.wr W9).ext E16)
  refine qP X16 hx hby hZ hown (host := "") (Or.inl (wh hw 64 rfl)) Via.refl e16 f20 f21 (Or.inr ⟨(wh hw 65 rfl), rfl, hnm⟩) (wh hw 43 rfl) (ty := (.array .int)) d7_25 (fun T22 h22 X22 e22 W22 => ?_)
  have O23 := O17.wr W22 (show n0 ≤ xa by omega)
  have sz24 : h22.size = h16.size := Wr.size W22
  have K25 := K19.wr W22 (Or.inl (List.mem_of_getElem? (i := 0) rfl))
  have N22 := Fr.snoc X22 N15 (show n0 ≤ xa by omega)
  have Fw22 := f20.same W22
  refine q_iconst X22 hx hby d7_28 ?_
  refine q_istoreN X22 hx hby d7_29 (l' := #[vR xa, vR xl, vR xm, vI 0, uS, uS, uS, uS]) rfl ?_
  show own_Goes p e below (T22.setTop (mkF m 30 #[vR xa, vR xl, vR xm, vI 0, uS, uS, uS, uS] [])) _
  refine q_iloadN X22 hx hby d7_30 rfl ?_
  refine q_aloadN X22 hx hby d7_31 rfl rfl ?_
  have f26 := ((Fw9.ext E16).other W22 (Or.inr (slot_ne (Or.inr (wh hw 62 rfl)) (Or.inr (wh hw 65 rfl)) (by decide) (t := (.array .boolean)) (t' := (.array .int)) (by decide) (by decide))))
  refine qG X22 hx hby hZ hown (wh hw 61 rfl) e22 f26 d7_32 (fun T27 X27 e27 => ?_)
  have f28 := (((V3.other W9 (nE b3 xa (by omega))).ext E16).other W22 (nE b3 xa (by omega)))
  refine q_len X27 hx hby hZ e27 f28 d7_35 ?_
  refine q_icmpYes (pc := 36) X27 hx hby d7_36 (pc' := 105) (flt (show ¬ ((0 : Int32) < (0 : Int32)) from by decide)).2.1 (by decide) (by decide) ?_
  refine q_iconst X27 hx hby d7_105 ?_
  refine q_istoreN X27 hx hby d7_106 (l' := #[vR xa, vR xl, vR xm, vI 0, uS, uS, uS, uS]) rfl ?_
  refine q_aloadN X27 hx hby d7_107 rfl rfl ?_
  have f30 := ((((P10.ext E3).other W9 (Or.inl (nE xm xa (by omega)))).ext E16).other W22 (Or.inl (nE xm xa (by omega))))
  have f31 := ((((P9.ext E3).wr W9).ext E16).wr W22)
  refine k_I X27 hx hby hZ hown (wh hw 66 rfl) (wh hw 67 rfl) (wh hw 68 rfl) (wh hw 69 rfl) (wh hw 70 rfl) (wh hw 71 rfl) (wh hw 72 rfl) (wh hw 73 rfl) (W := 0) (own_hmSize l Z a0 hw [] xm (1 : Int32) h22 n0 O23 f30) (wh hw 74 rfl) (wh hw 28 rfl) e27 f31  hml (argsL := []) (rest := []) own_pd_6 d7_108 (fun _ T32 L32 X32 hQ32 => ?_)
  obtain ⟨Nc32, e32, rfl⟩ := hQ32
  have N32 := Fr.app N22 Nc32
  obtain ⟨T33, h33, k33, X33, e33, E33, A33, Ex33, st33⟩ := newPE X32 hx hZ (wh hw 63 rfl) e32 (g := (mkF m 113 #[vR xa, vR xl, vR xm, vI 0, uS, uS, uS, uS] [.int 1])) rfl (hb hby d7_113) rfl (by decide) (cap := 1) (by decide) (by decide) (by decide) (by decide) (ad := "[I") (by decide)
  obtain ⟨b33, g33⟩ : ∃ z, z = h22.size := ⟨_, rfl⟩
  rw [← g33] at A33 st33 Ex33
  refine gg st33 ?_
  have O34 := O23.ext E33
  have sz35 : h22.size ≤ h33.size := E33.1
  have K36 := K25.ext E33
  have l33 : @LT.lt Nat _ b33 h33.size := A33.lt
  have V33 : Arv Z h33 b33 k33 .int (1 : Int32) [.int 0] (.int 0) := (Arv.new A33 (by decide)).pad (pad_rep [] (.int 0) 1)
  refine q_astore X33 hx hby d7_115 rfl (l' := #[vR xa, vR xl, vR xm, vI 0, vR b33, uS, uS, uS]) rfl ?_
  refine q_iconst X33 hx hby d7_117 ?_
  refine q_istore X33 hx hby d7_118 (l' := #[vR xa, vR xl, vR xm, vI 0, vR b33, vI 0, uS, uS]) rfl ?_
  refine q_aloadN X33 hx hby d7_120 rfl rfl ?_
  show own_Goes p e below (T33.setTop (mkF m 121 #[vR xa, vR xl, vR xm, vI 0, vR b33, vI 0, uS, uS] [.ref xm])) _
  have f37 := (f31.ext E33)
  have f38 := (f30.ext E33)
  have f39 := (((((P11.ext E3).other W9 (Or.inl (nE xm xa (by omega)))).ext E16).other W22 (Or.inl (nE xm xa (by omega)))).ext E33)
  have f40 := (((((P12.ext E3).other W9 (Or.inl (nE xm xa (by omega)))).ext E16).other W22 (Or.inl (nE xm xa (by omega)))).ext E33)
  have f41 := (((((P13.ext E3).other W9 (Or.inl (nE xm xa (by omega)))).ext E16).other W22 (Or.inl (nE xm xa (by omega)))).ext E33)
  have f42 := (((((P14.ext E3).other W9 (Or.inl (nE xm xa (by omega)))).ext E16).other W22 (Or.inl (nE xm xa (by omega)))).ext E33)
  refine k_I X33 hx hby hZ hown (wh hw 77 rfl) (wh hw 78 rfl) (wh hw 79 rfl) (wh hw 80 rfl) (wh hw 81 rfl) (wh hw 82 rfl) (wh hw 83 rfl) (wh hw 73 rfl) (W := 0) (own_values l Z a0 hw [] xm (1 : Int32) (1 : Int32) (12 : Int32) (Value.ref xt) h33 n0 O34 f37 (show n0 ≤ xm by first | assumption | omega | decide) f38 f39 f40 f41 f42) (wh hw 84 rfl) (wh hw 28 rfl) e33 f37  hml (argsL := []) (rest := []) own_pd_20 d7_121 (fun _ T43 L43 X43 hQ43 => ?_)
  obtain ⟨h43, e43⟩ : ∃ z, T43.heap = z := ⟨_, rfl⟩
  rw [e43] at hQ43
  obtain ⟨Nc43, Kc43, r_43, rfl, c43_0, c43_1, c43_2, c43_3, c43_4, c43_5, c43_6, c43_7⟩ := hQ43
  have N43 := Fr.app N32 Nc43
  have O44 := O34.keep Kc43 (allS (show n0 ≤ xm by omega) all0)
  have sz45 : h33.size ≤ h43.size := Kc43.1
  have K46 := Keep.trans K36 Kc43 (allS (Or.inl (List.mem_of_getElem? (i := 1) rfl)) all0)
  have ltc43_5 : @LT.lt Nat _ r_43 h43.size := c43_5.lt
  have f47 := ((((((P17.ext E3).other W9 (nE xt xa (by omega))).ext E16).other W22 (nE xt xa (by omega))).ext E33).keep Kc43 (ninS (nE xt xm (by omega)) nin0))
  refine k_I X43 hx hby hZ hown (wh hw 99 rfl) (wh hw 100 rfl) (wh hw 101 rfl) (wh hw 102 rfl) (wh hw 103 rfl) (wh hw 104 rfl) (wh hw 105 rfl) (wh hw 106 rfl) (W := 0) (own_iter1 l Z a0 hw [] r_43 xm (1 : Int32) (1 : Int32) xt xk x1 Value.null Value.null h43 n0 O44 c43_6 c43_0 c43_1 c43_3 f47 (show (0 : Int32) < (1 : Int32) by first | assumption | omega | decide) (show @LT.lt Nat _ xm h43.size by first | assumption | omega | decide) (show @LT.lt Nat _ xt h43.size by first | assumption | omega | decide)) (wh hw 107 rfl) (wh hw 90 rfl) e43 c43_5  hml (argsL := []) (rest := []) own_pd_21 d7_126 (fun _ T48 L48 X48 hQ48 => ?_)
  obtain ⟨h48, e48⟩ : ∃ z, T48.heap = z := ⟨_, rfl⟩
  rw [e48] at hQ48
  obtain ⟨Nc48, Kc48, r_48, rfl, c48_0, c48_1, c48_2, c48_3, c48_4, c48_5, c48_6⟩ := hQ48
  have N48 := Fr.app N43 Nc48
  have O49 := O44.keep Kc48 all0
  have sz50 : h43.size ≤ h48.size := Kc48.1
  have K51 := Keep.trans K46 Kc48 all0
  have ltc48_0 : @LT.lt Nat _ r_48 h48.size := c48_0.lt
  refine q_astore X48 hx hby d7_131 rfl (l' := #[vR xa, vR xl, vR xm, vI 0, vR b33, vI 0, vR r_48, uS]) rfl ?_
  have C_1_0 : ∀ (T_ : State) (h_ : Heap) (L_ : List Loc), (u0.toInt ≤ 0) → Stand p l e ({ frames := 4, cells := 6, slots := 8, locals := 79 } : Room) s m #[.ref xa, .ref xl, .ref xm] below meth c T_ L_ 5 7 ∧ T_.heap = h_ ∧ Fr n0 L_ ∧ Old Z n0 h_ ∧ Keep h0 h_ [xa, xm] ∧ Exa Z h_ xa "com/example/dolm/dolm/eval/JudgedRanking" ∧ Fld Z h_ xa "com/example/dolm/dolm/eval/JudgedRanking" "relevantCount" "I" (.int 0) ∧ Fld Z h_ xa "com/example/dolm/dolm/eval/JudgedRanking" "judgedGains" "[I" .null ∧ Exa Z h_ r_48 "java/util/HashMap$ValueIterator" ∧ Fld Z h_ r_48 "java/util/HashMap$HashIterator" "next" "Ljava/util/HashMap$Node;" .null ∧ Exa Z h_ b33 "[I" ∧ Arv Z h_ b33 k33 .int (1 : Int32) [.int 0] (.int 0) → own_Goes p e below (T_.setTop (mkF m 133 #[vR xa, vR xl, vR xm, vI 0, vR b33, vI 0, vR r_48, vI u0] [])) (own_PostN s (Q_own_jr1 Z xa xl xm xt xk x1 v0 u0 h0 n0) ({ frames := 4, cells := 6, slots := 8, locals := 79 } : Room).cells ({ frames := 4, cells := 6, slots := 8, locals := 79 } : Room).slots) := by
    intro T_ h_ L_ hR ⟨X_, e_, N_, O_, K_, f_0, f_1, f_2, f_3, f_4, f_5, f_6⟩
    have lt_0 : @LT.lt Nat _ xa h_.size := f_0.lt
    have lt_3 : @LT.lt Nat _ r_48 h_.size := f_3.lt
    have lt_5 : @LT.lt Nat _ b33 h_.size := f_5.lt
    have lt_6 : @LT.lt Nat _ b33 h_.size := f_6.lt
    show own_Goes p e below (T_.setTop (mkF m 133 #[vR xa, vR xl, vR xm, vI 0, vR b33, vI 0, vR r_48, vI u0] [])) _
    refine q_aload X_ hx hby d7_133 rfl rfl ?_
    refine k_I X_ hx hby hZ hown (wh hw 136 rfl) (wh hw 137 rfl) (wh hw 138 rfl) (wh hw 139 rfl) (wh hw 140 rfl) (wh hw 141 rfl) (wh hw 142 rfl) (wh hw 143 rfl) (W := 0) (own_hasNext0 l Z a0 hw [] r_48 h_ n0 O_ f_4) (wh hw 144 rfl) (wh hw 119 rfl) e_ f_3  hml (argsL := []) (rest := []) own_pd_4 d7_135 (fun _ T52 L52 X52 hQ52 => ?_)
    obtain ⟨Nc52, e52, rfl⟩ := hQ52
    have N52 := Fr.app N_ Nc52
    refine q_ifYes (pc := 140) X52 hx hby d7_140 (pc' := 185) ((if0 _ _).trans (teq (show ((0 : Int32) = (0 : Int32)) from by decide)).1) (by decide) (by decide) ?_
    refine q_aloadN X52 hx hby d7_185 rfl rfl ?_
    refine q_iloadN X52 hx hby d7_186 rfl ?_
    refine qP X52 hx hby hZ hown (host := "") (Or.inl (wh hw 145 rfl)) Via.refl e52 f_1 f_0 (Or.inr ⟨(wh hw 146 rfl), rfl, hnm⟩) (wh hw 43 rfl) (ty := .int) d7_187 (fun T53 h53 X53 e53 W53 => ?_)
    have O54 := O_.wr W53 (show n0 ≤ xa by omega)
    have sz55 : h53.size = h_.size := Wr.size W53
    have K56 := K_.wr W53 (Or.inl (List.mem_of_getElem? (i := 0) rfl))
    have N53 := Fr.snoc X53 N52 (show n0 ≤ xa by omega)
    have Fw53 := f_1.same W53
    refine q_aloadN X53 hx hby d7_190 rfl rfl ?_
    refine q_aload X53 hx hby d7_191 rfl rfl ?_
    refine q_iload X53 hx hby d7_193 rfl ?_
    have f57 := (f_6.other W53 (nE b33 xa (by omega)))
    have V58 : Arv Z h53 b33 k33 .int (1 : Int32) [] (.int 0) := f57.pad (fun i => (pad_rep [] (.int 0) 1 i).symm)
    refine k_S X53 hx hby hZ hown (wh hw 147 rfl) (wh hw 148 rfl) (W := 1) (own_copyS0 l Z a0 hw [] b33 k33 (1 : Int32) h53 n0 O54 V58 (show ¬ (0 : Int32) = (1 : Int32) by first | assumption | omega | decide) (show (0 : Int32) < (1 : Int32) by first | assumption | omega | decide)) (wh hw 150 rfl) (wh hw 149 rfl) e53  hml (argsL := [.ref b33, .int 0]) (rest := [.ref xa]) own_pd_22 d7_195 (fun _ T59 L59 X59 hQ59 => ?_)
    obtain ⟨h59, e59⟩ : ∃ z, T59.heap = z := ⟨_, rfl⟩
    rw [e59] at hQ59
    obtain ⟨Nc59, Kc59, r_59, rk_59, rfl, c59_0, c59_1⟩ := hQ59
    have N59 := Fr.app N53 Nc59
    have O60 := O54.keep Kc59 all0
    have sz61 : h53.size ≤ h59.size := Kc59.1
    have K62 := Keep.trans K56 Kc59 all0
    have ltc59_0 : @LT.lt Nat _ r_59 h59.size := c59_0.lt
    have f63 := ((f_2.other W53 (Or.inr (slot_ne (Or.inr (wh hw 161 rfl)) (Or.inr (wh hw 146 rfl)) (by decide) (t := (.array .int)) (t' := .int) (by decide) (by decide)))).keep Kc59 nin0)
    have f64 := ((f_0.wr W53).keep Kc59)
    refine qP X59 hx hby hZ hown (host := "") (Or.inl (wh hw 160 rfl)) Via.refl e59 f63 f64 (Or.inr ⟨(wh hw 161 rfl), rfl, hnm⟩) (wh hw 43 rfl) (ty := (.array .int)) d7_198 (fun T65 h65 X65 e65 W65 => ?_)
    have O66 := O60.wr W65 (show n0 ≤ xa by omega)
    have sz67 : h65.size = h59.size := Wr.size W65
    have K68 := K62.wr W65 (Or.inl (List.mem_of_getElem? (i := 0) rfl))
    have N65 := Fr.snoc X65 N59 (show n0 ≤ xa by omega)
    have Fw65 := f63.same W65
    refine q_aloadN X65 hx hby d7_201 rfl rfl ?_
    refine qG X65 hx hby hZ hown (wh hw 160 rfl) e65 Fw65 d7_202 (fun T69 X69 e69 => ?_)
    have f70 := (c59_0.other W65 (nE r_59 xa (by omega)))
    refine k_S X69 hx hby hZ hown (wh hw 162 rfl) (wh hw 163 rfl) (W := 0) (own_sort0 l Z a0 hw [] r_59 rk_59 h65 n0 O66 f70 (show n0 ≤ r_59 by first | assumption | omega | decide)) (wh hw 164 rfl) (wh hw 149 rfl) e69  hml (argsL := [.ref r_59]) (rest := []) own_pd_23 d7_205 (fun _ T71 L71 X71 hQ71 => ?_)
    obtain ⟨h71, e71⟩ : ∃ z, T71.heap = z := ⟨_, rfl⟩
    rw [e71] at hQ71
    obtain ⟨Nc71, Kc71, rfl, c71_0⟩ := hQ71
    have N71 := Fr.app N65 Nc71
    have O72 := O66.keep Kc71 (allS (show n0 ≤ r_59 by omega) all0)
    have sz73 : h65.size ≤ h71.size := Kc71.1
    have K74 := Keep.trans K68 Kc71 (allS (Or.inr (show h0.size ≤ r_59 by omega)) all0)
    have ltc71_0 : @LT.lt Nat _ r_59 h71.size := c71_0.lt
    show own_Goes p e below (T71.setTop (mkF m 208 #[vR xa, vR xl, vR xm, vI 0, vR b33, vI 0, vR r_48, vI u0] [])) _
    refine r_V X71 hx hby hret hlk d7_208 e71 ?_
    have f75 := (Fw65.keep Kc71 (ninS (nE xa r_59 (by omega)) nin0))
    have GA : own_Gains Z h71 xa (own_max (own_max u0 (0 : Int32)) (own_max (0 : Int32) (0 : Int32))) (own_max (own_min (own_max u0 (0 : Int32)) (0 : Int32)) (own_min (own_max (own_max u0 (0 : Int32)) (0 : Int32)) (0 : Int32))) (own_min (own_max u0 (0 : Int32)) (own_min (0 : Int32) (0 : Int32))) := ⟨r_59, rk_59, f75, (Or.inl ⟨c71_0, own_eqI (by simp only [own_maxI, own_minI, own_i0]; omega), own_eqI (by simp only [own_maxI, own_minI, own_i0]; omega), own_eqI (by simp only [own_maxI, own_minI, own_i0]; omega)⟩)⟩
    exact ⟨N71, K74, rfl, GA⟩
  have C_1_1 : ∀ (y0 : Int32) (T_ : State) (h_ : Heap) (L_ : List Loc), (y0.toInt = u0.toInt ∧ 1 ≤ u0.toInt) → Stand p l e ({ frames := 4, cells := 6, slots := 8, locals := 79 } : Room) s m #[.ref xa, .ref xl, .ref xm] below meth c T_ L_ 5 7 ∧ T_.heap = h_ ∧ Fr n0 L_ ∧ Old Z n0 h_ ∧ Keep h0 h_ [xa, xm] ∧ Exa Z h_ xa "com/example/dolm/dolm/eval/JudgedRanking" ∧ Fld Z h_ xa "com/example/dolm/dolm/eval/JudgedRanking" "relevantCount" "I" (.int 0) ∧ Fld Z h_ xa "com/example/dolm/dolm/eval/JudgedRanking" "judgedGains" "[I" .null ∧ Exa Z h_ r_48 "java/util/HashMap$ValueIterator" ∧ Fld Z h_ r_48 "java/util/HashMap$HashIterator" "next" "Ljava/util/HashMap$Node;" .null ∧ Exa Z h_ b33 "[I" ∧ Arv Z h_ b33 k33 .int (1 : Int32) [.int y0] (.int 0) → own_Goes p e below (T_.setTop (mkF m 133 #[vR xa, vR xl, vR xm, vI 1, vR b33, vI 1, vR r_48, vI u0] [])) (own_PostN s (Q_own_jr1 Z xa xl xm xt xk x1 v0 u0 h0 n0) ({ frames := 4, cells := 6, slots := 8, locals := 79 } : Room).cells ({ frames := 4, cells := 6, slots := 8, locals := 79 } : Room).slots) := by
    intro y0 T_ h_ L_ hR ⟨X_, e_, N_, O_, K_, f_0, f_1, f_2, f_3, f_4, f_5, f_6⟩
    have lt_0 : @LT.lt Nat _ xa h_.size := f_0.lt
    have lt_3 : @LT.lt Nat _ r_48 h_.size := f_3.lt
    have lt_5 : @LT.lt Nat _ b33 h_.size := f_5.lt
    have lt_6 : @LT.lt Nat _ b33 h_.size := f_6.lt
    show own_Goes p e below (T_.setTop (mkF m 133 #[vR xa, vR xl, vR xm, vI 1, vR b33, vI 1, vR r_48, vI u0] [])) _
    refine q_aload X_ hx hby d7_133 rfl rfl ?_
    refine k_I X_ hx hby hZ hown (wh hw 136 rfl) (wh hw 137 rfl) (wh hw 138 rfl) (wh hw 139 rfl) (wh hw 140 rfl) (wh hw 141 rfl) (wh hw 142 rfl) (wh hw 143 rfl) (W := 0) (own_hasNext0 l Z a0 hw [] r_48 h_ n0 O_ f_4) (wh hw 144 rfl) (wh hw 119 rfl) e_ f_3  hml (argsL := []) (rest := []) own_pd_4 d7_135 (fun _ T76 L76 X76 hQ76 => ?_)
    obtain ⟨Nc76, e76, rfl⟩ := hQ76
    have N76 := Fr.app N_ Nc76
    refine q_ifYes (pc := 140) X76 hx hby d7_140 (pc' := 185) ((if0 _ _).trans (teq (show ((0 : Int32) = (0 : Int32)) from by decide)).1) (by decide) (by decide) ?_
    refine q_aloadN X76 hx hby d7_185 rfl rfl ?_
    refine q_iloadN X76 hx hby d7_186 rfl ?_
    refine qP X76 hx hby hZ hown (host := "") (Or.inl (wh hw 145 rfl)) Via.refl e76 f_1 f_0 (Or.inr ⟨(wh hw 146 rfl), rfl, hnm⟩) (wh hw 43 rfl) (ty := .int) d7_187 (fun T77 h77 X77 e77 W77 => ?_)
    have O78 := O_.wr W77 (show n0 ≤ xa by omega)
    have sz79 : h77.size = h_.size := Wr.size W77
    have K80 := K_.wr W77 (Or.inl (List.mem_of_getElem? (i := 0) rfl))
    have N77 := Fr.snoc X77 N76 (show n0 ≤ xa by omega)
    have Fw77 := f_1.same W77
    refine q_aloadN X77 hx hby d7_190 rfl rfl ?_
    refine q_aload X77 hx hby d7_191 rfl rfl ?_
    refine q_iload X77 hx hby d7_193 rfl ?_
    have f81 := (f_5.wr W77)
    have f82 := (f_6.other W77 (nE b33 xa (by omega)))
    refine k_S X77 hx hby hZ hown (wh hw 147 rfl) (wh hw 148 rfl) (W := 1) (own_copy1 l Z a0 hw [] b33 k33 y0 h77 n0 O78 f81 f82) (wh hw 150 rfl) (wh hw 149 rfl) e77  hml (argsL := [.ref b33, .int 1]) (rest := [.ref xa]) own_pd_22 d7_195 (fun _ T83 L83 X83 hQ83 => ?_)
    obtain ⟨h83, e83⟩ : ∃ z, T83.heap = z := ⟨_, rfl⟩
    rw [e83] at hQ83
    obtain ⟨Nc83, Kc83, r_83, rk_83, rfl, c83_0, c83_1⟩ := hQ83
    have N83 := Fr.app N77 Nc83
    have O84 := O78.keep Kc83 all0
    have sz85 : h77.size ≤ h83.size := Kc83.1
    have K86 := Keep.trans K80 Kc83 all0
    have ltc83_0 : @LT.lt Nat _ r_83 h83.size := c83_0.lt
    have f87 := ((f_2.other W77 (Or.inr (slot_ne (Or.inr (wh hw 161 rfl)) (Or.inr (wh hw 146 rfl)) (by decide) (t := (.array .int)) (t' := .int) (by decide) (by decide)))).keep Kc83 nin0)
    have f88 := ((f_0.wr W77).keep Kc83)
    refine qP X83 hx hby hZ hown (host := "") (Or.inl (wh hw 160 rfl)) Via.refl e83 f87 f88 (Or.inr ⟨(wh hw 161 rfl), rfl, hnm⟩) (wh hw 43 rfl) (ty := (.array .int)) d7_198 (fun T89 h89 X89 e89 W89 => ?_)
    have O90 := O84.wr W89 (show n0 ≤ xa by omega)
    have sz91 : h89.size = h83.size := Wr.size W89
    have K92 := K86.wr W89 (Or.inl (List.mem_of_getElem? (i := 0) rfl))
    have N89 := Fr.snoc X89 N83 (show n0 ≤ xa by omega)
    have Fw89 := f87.same W89
    refine q_aloadN X89 hx hby d7_201 rfl rfl ?_
    refine qG X89 hx hby hZ hown (wh hw 160 rfl) e89 Fw89 d7_202 (fun T93 X93 e93 => ?_)
    have f94 := (c83_0.other W89 (nE r_83 xa (by omega)))
    refine k_S X93 hx hby hZ hown (wh hw 162 rfl) (wh hw 163 rfl) (W := 0) (own_sort1 l Z a0 hw [] r_83 rk_83 y0 h89 n0 O90 f94 (show n0 ≤ r_83 by first | assumption | omega | decide)) (wh hw 164 rfl) (wh hw 149 rfl) e93  hml (argsL := [.ref r_83]) (rest := []) own_pd_23 d7_205 (fun _ T95 L95 X95 hQ95 => ?_)
    obtain ⟨h95, e95⟩ : ∃ z, T95.heap = z := ⟨_, rfl⟩
    rw [e95] at hQ95
    obtain ⟨Nc95, Kc95, rfl, c95_0⟩ := hQ95
    have N95 := Fr.app N89 Nc95
    have O96 := O90.keep Kc95 (allS (show n0 ≤ r_83 by omega) all0)
    have sz97 : h89.size ≤ h95.size := Kc95.1
    have K98 := Keep.trans K92 Kc95 (allS (Or.inr (show h0.size ≤ r_83 by omega)) all0)
    have ltc95_0 : @LT.lt Nat _ r_83 h95.size := c95_0.lt
    show own_Goes p e below (T95.setTop (mkF m 208 #[vR xa, vR xl, vR xm, vI 1, vR b33, vI 1, vR r_48, vI u0] [])) _
    refine r_V X95 hx hby hret hlk d7_208 e95 ?_
    have f99 := (Fw89.keep Kc95 (ninS (nE xa r_83 (by omega)) nin0))
    have GA : own_Gains Z h95 xa (own_max (own_max u0 (0 : Int32)) (own_max (0 : Int32) (0 : Int32))) (own_max (own_min (own_max u0 (0 : Int32)) (0 : Int32)) (own_min (own_max (own_max u0 (0 : Int32)) (0 : Int32)) (0 : Int32))) (own_min (own_max u0 (0 : Int32)) (own_min (0 : Int32) (0 : Int32))) := ⟨r_83, rk_83, f99, (Or.inr (Or.inl ⟨_, c95_0, own_eqI (by simp only [own_maxI, own_minI, own_i0]; omega), own_eqI (by simp only [own_maxI, own_minI, own_i0]; omega), own_eqI (by simp only [own_maxI, own_minI, own_i0]; omega)⟩))⟩
    exact ⟨N95, K98, rfl, GA⟩
  refine q_aload X48 hx hby d7_133 rfl rfl ?_
  refine k_I X48 hx hby hZ hown (wh hw 136 rfl) (wh hw 137 rfl) (wh hw 138 rfl) (wh hw 139 rfl) (wh hw 140 rfl) (wh hw 141 rfl) (wh hw 142 rfl) (wh hw 143 rfl) (W := 0) (own_hasNext1 l Z a0 hw [] r_48 x1 h48 n0 O49 c48_3) (wh hw 144 rfl) (wh hw 119 rfl) e48 c48_0  hml (argsL := []) (rest := []) own_pd_4 d7_135 (fun _ T100 L100 X100 hQ100 => ?_)
  obtain ⟨Nc100, e100, rfl⟩ := hQ100
  have N100 := Fr.app N48 Nc100
  refine q_ifNo X100 hx hby d7_140 ((if0 _ _).trans (feq (show ¬ ((1 : Int32) = (0 : Int32)) from by decide)).1) ?_
  refine q_aload X100 hx hby d7_143 rfl rfl ?_
  have f101 := (c43_1.keep Kc48 nin0)
  have f102 := (c43_3.keep Kc48 nin0)
  have f103 := (f47.keep Kc48 nin0)
  have f104 := (((((((P22.ext E3).other W9 (Or.inl (nE x1 xa (by omega)))).ext E16).other W22 (Or.inl (nE x1 xa (by omega)))).ext E33).keep Kc43 (ninS (nE x1 xm (by omega)) nin0)).keep Kc48 nin0)
  have f105 := (((((((P21.ext E3).other W9 (Or.inl (nE x1 xa (by omega)))).ext E16).other W22 (Or.inl (nE x1 xa (by omega)))).ext E33).keep Kc43 (ninS (nE x1 xm (by omega)) nin0)).keep Kc48 nin0)
  refine k_I X100 hx hby hZ hown (wh hw 289 rfl) (wh hw 290 rfl) (wh hw 291 rfl) (wh hw 292 rfl) (wh hw 293 rfl) (wh hw 294 rfl) (wh hw 295 rfl) (wh hw 143 rfl) (W := 0) (own_nextE l Z a0 hw [] r_48 xm (1 : Int32) xt xk Value.null (2 : Int32) x1 x1 Value.null Value.null v0 h48 n0 O49 c48_0 (show n0 ≤ r_48 by first | assumption | omega | decide) c48_1 c48_2 c48_3 c48_4 c48_5 f101 f102 f103 f104 (show @LT.lt Nat _ xm r_48 by first | assumption | omega | decide) (show @LT.lt Nat _ xt r_48 by first | assumption | omega | decide) (show @LT.lt Nat _ x1 r_48 by first | assumption | omega | decide) f105 (show ((2 : Int32) = (2 : Int32) ∧ Value.null = Value.null ∧ Value.null = Value.null) ∨ ((2 : Int32) = (3 : Int32) ∧ Value.null = Value.null) ∨ (2 : Int32) = (4 : Int32) from (by first | exact Or.inl ⟨by decide, rfl, rfl⟩ | exact Or.inr (Or.inl ⟨by decide, rfl⟩) | exact Or.inr (Or.inr (by decide)) | assumption))) (wh hw 296 rfl) (wh hw 110 rfl) e100 c48_0  hml (argsL := []) (rest := []) own_pd_24 d7_145 (fun _ T106 L106 X106 hQ106 => ?_)
  obtain ⟨h106, e106⟩ : ∃ z, T106.heap = z := ⟨_, rfl⟩
  rw [e106] at hQ106
  obtain ⟨Nc106, Kc106, rfl, c106_0, c106_1, c106_2, c106_3, c106_4⟩ := hQ106
  have N106 := Fr.app N100 Nc106
  have O107 := O49.keep Kc106 (allS (show n0 ≤ r_48 by omega) all0)
  have sz108 : h48.size ≤ h106.size := Kc106.1
  have K109 := Keep.trans K51 Kc106 (allS (Or.inr (show h0.size ≤ r_48 by omega)) all0)
  have f110 := ((((((((P23.ext E3).wr W9).ext E16).wr W22).ext E33).keep Kc43).keep Kc48).keep Kc106)
  obtain ⟨T111, X111, e111, st111⟩ := castY X106 hx hZ hown (wh hw 305 rfl) e106 (Ins.self f110) (g := (mkF m 150 #[vR xa, vR xl, vR xm, vI 0, vR b33, vI 0, vR r_48, uS] [.ref v0])) rfl rfl (hb hby d7_150)
  refine gg st111 ?_
  have f112 := ((((((((P24.ext E3).other W9 (Or.inl (nE v0 xa (by omega)))).ext E16).other W22 (Or.inl (nE v0 xa (by omega)))).ext E33).keep Kc43 (ninS (nE v0 xm (by omega)) nin0)).keep Kc48 nin0).keep Kc106 (ninS (nE v0 r_48 (by omega)) nin0))
  refine k_V X111 hx hby hZ hown (wh hw 307 rfl) (wh hw 308 rfl) (wh hw 310 rfl) (wh hw 309 rfl) (W := 0) (own_intValue l Z a0 hw [] v0 u0 h106 n0 O107 f112) (wh hw 311 rfl) (wh hw 213 rfl) e111 f110  hml (argsL := []) (rest := []) own_pd_6 d7_153 (fun _ T113 L113 X113 hQ113 => ?_)
  obtain ⟨Nc113, e113, rfl⟩ := hQ113
  have N113 := Fr.app N106 Nc113
  refine q_istore X113 hx hby d7_156 (l' := #[vR xa, vR xl, vR xm, vI 0, vR b33, vI 0, vR r_48, vI u0]) rfl ?_
  refine q_iload X113 hx hby d7_158 rfl ?_
  refine q_iconst X113 hx hby d7_160 ?_
  by_cases hc114 : u0 < (1 : Int32)
  · refine q_icmpYes (pc := 161) X113 hx hby d7_161 (pc' := 167) (tlt hc114).1 (by decide) (by decide) ?_
    refine q_iload X113 hx hby d7_167 rfl ?_
    refine q_ifYes (pc := 169) X113 hx hby d7_169 (pc' := 182) ((if0 _ _).trans (flt (show ¬ ((0 : Int32) < u0) from (own_posF hc114))).2.2.2) (by decide) (by decide) ?_
    refine q_goto (pc := 182) X113 hx hby d7_182 (pc' := 133) (by decide) (by decide) ?_
    show own_Goes p e below (T113.setTop (mkF m 133 #[vR xa, vR xl, vR xm, vI 0, vR b33, vI 0, vR r_48, vI u0] [])) _
    have f115 := (((((f21.wr W22).ext E33).keep Kc43).keep Kc48).keep Kc106)
    have f116 := ((((((((P3.ext E3).other W9 (Or.inr (slot_ne (Or.inr (wh hw 146 rfl)) (Or.inr (wh hw 62 rfl)) (by decide) (t := .int) (t' := (.array .boolean)) (by decide) (by decide)))).ext E16).other W22 (Or.inr (slot_ne (Or.inr (wh hw 146 rfl)) (Or.inr (wh hw 65 rfl)) (by decide) (t := .int) (t' := (.array .int)) (by decide) (by decide)))).ext E33).keep Kc43 (ninS (nE xa xm (by omega)) nin0)).keep Kc48 nin0).keep Kc106 (ninS (nE xa r_48 (by omega)) nin0))
    have f117 := ((((((((P4.ext E3).other W9 (Or.inr (slot_ne (Or.inr (wh hw 161 rfl)) (Or.inr (wh hw 62 rfl)) (by decide) (t := (.array .int)) (t' := (.array .boolean)) (by decide) (by decide)))).ext E16).other W22 (Or.inr (slot_ne (Or.inr (wh hw 161 rfl)) (Or.inr (wh hw 65 rfl)) (by decide) (t := (.array .int)) (t' := (.array .int)) (by decide) (by decide)))).ext E33).keep Kc43 (ninS (nE xa xm (by omega)) nin0)).keep Kc48 nin0).keep Kc106 (ninS (nE xa r_48 (by omega)) nin0))
    have f118 := (c48_0.keep Kc106)
    have f119 := (((Ex33.keep Kc43).keep Kc48).keep Kc106)
    have f120 := (((V33.keep Kc43 (ninS (nE b33 xm (by omega)) nin0)).keep Kc48 nin0).keep Kc106 (ninS (nE b33 r_48 (by omega)) nin0))
    exact C_1_0 _ _ _ (by have := own_ltI hc114; have := own_i1; omega) ⟨X113, e113, N113, O107, K109, f115, f116, f117, f118, c106_2, f119, f120⟩
  · refine q_icmpNo X113 hx hby d7_161 (flt hc114).1 ?_
    refine gg (fun t k => XS.iinc X113.here hx rfl (hb hby d7_164) rfl (l' := #[vR xa, vR xl, vR xm, vI ((0 : Int32) + (1 : Int32)), vR b33, vI 0, vR r_48, vI u0]) rfl k) ?_
    show own_Goes p e below (T113.setTop (mkF m 167 #[vR xa, vR xl, vR xm, vI ((0 : Int32) + (1 : Int32)), vR b33, vI 0, vR r_48, vI u0] [])) _
    rw [show ((0 : Int32) + (1 : Int32)) = (1 : Int32) from by decide]
    refine q_iload X113 hx hby d7_167 rfl ?_
    refine q_ifNo X113 hx hby d7_169 ((if0 _ _).trans (tlt (show ((0 : Int32) < u0) from (own_posT hc114))).2.2.2) ?_
    refine q_aload X113 hx hby d7_172 rfl rfl ?_
    refine q_iload X113 hx hby d7_174 rfl ?_
    refine q_iload X113 hx hby d7_176 rfl ?_
    have f121 := (((V33.keep Kc43 (ninS (nE b33 xm (by omega)) nin0)).keep Kc48 nin0).keep Kc106 (ninS (nE b33 r_48 (by omega)) nin0))
    refine q_stI X113 hx hby hZ e113 f121 0 d7_178 (fun T123 h123 X123 e123 W123 V123 => ?_)
    have O124 := O107.wr W123 (show n0 ≤ b33 by omega)
    have sz125 : h123.size = h106.size := Wr.size W123
    have K126 := K109.wr W123 (Or.inr (show h0.size ≤ b33 by omega))
    have N123 := Fr.snoc X123 N113 (show n0 ≤ b33 by omega)
    have V123 : Arv Z h123 b33 k33 .int (1 : Int32) [.int u0] (.int 0) := V123
    refine gg (fun t k => XS.iinc X123.here hx rfl (hb hby d7_179) rfl (l' := #[vR xa, vR xl, vR xm, vI 1, vR b33, vI ((0 : Int32) + (1 : Int32)), vR r_48, vI u0]) rfl k) ?_
    show own_Goes p e below (T123.setTop (mkF m 182 #[vR xa, vR xl, vR xm, vI 1, vR b33, vI ((0 : Int32) + (1 : Int32)), vR r_48, vI u0] [])) _
    rw [show ((0 : Int32) + (1 : Int32)) = (1 : Int32) from by decide]
    refine q_goto (pc := 182) X123 hx hby d7_182 (pc' := 133) (by decide) (by decide) ?_
    have f127 := ((((((f21.wr W22).ext E33).keep Kc43).keep Kc48).keep Kc106).wr W123)
    have f128 := (((((((((P3.ext E3).other W9 (Or.inr (slot_ne (Or.inr (wh hw 146 rfl)) (Or.inr (wh hw 62 rfl)) (by decide) (t := .int) (t' := (.array .boolean)) (by decide) (by decide)))).ext E16).other W22 (Or.inr (slot_ne (Or.inr (wh hw 146 rfl)) (Or.inr (wh hw 65 rfl)) (by decide) (t := .int) (t' := (.array .int)) (by decide) (by decide)))).ext E33).keep Kc43 (ninS (nE xa xm (by omega)) nin0)).keep Kc48 nin0).keep Kc106 (ninS (nE xa r_48 (by omega)) nin0)).other W123 (Or.inl (nE xa b33 (by omega))))
    have f129 := (((((((((P4.ext E3).other W9 (Or.inr (slot_ne (Or.inr (wh hw 161 rfl)) (Or.inr (wh hw 62 rfl)) (by decide) (t := (.array .int)) (t' := (.array .boolean)) (by decide) (by decide)))).ext E16).other W22 (Or.inr (slot_ne (Or.inr (wh hw 161 rfl)) (Or.inr (wh hw 65 rfl)) (by decide) (t := (.array .int)) (t' := (.array .int)) (by decide) (by decide)))).ext E33).keep Kc43 (ninS (nE xa xm (by omega)) nin0)).keep Kc48 nin0).keep Kc106 (ninS (nE xa r_48 (by omega)) nin0)).other W123 (Or.inl (nE xa b33 (by omega))))
    have f130 := ((c48_0.keep Kc106).wr W123)
    have f131 := (c106_2.other W123 (Or.inl (nE r_48 b33 (by omega))))
    have f132 := ((((Ex33.keep Kc43).keep Kc48).keep Kc106).wr W123)
    exact C_1_1 u0 _ _ _ (by have := own_nltI hc114; have := own_i1; omega) ⟨X123, e123, N123, O124, K126, f127, f128, f129, f130, f131, f132, V123⟩
theorem own_ef_own_jr2 (m : MethodId) (xa : Addr) (xl : Addr) (xm : Addr) : entryFrame m #[.ref xa, .ref xl, .ref xm] 8 = mkF m 0 #[vR xa, vR xl, vR xm, uS, uS, uS, uS, uS] [] := by first | (simp [entryFrame, mkF, argsToLocals, Value.category]; done) | rfl
def Q_own_jr2 (Z : State) (xa : Addr) (xl : Addr) (xm : Addr) (xt : Addr) (xk : ClassId) (x1 : Addr) (x2 : Addr) (v0 : Addr) (v1 : Addr) (u0 : Int32) (u1 : Int32) (h0 : Heap) (n0 : Nat) (v : Option Value) (h : Heap) (L : List Loc) : Prop := Fr n0 L ∧ Keep h0 h [xa, xm] ∧ v = none ∧ own_Gains Z h xa (own_max (own_max u0 (0 : Int32)) (own_max (own_max u1 (0 : Int32)) (0 : Int32))) (own_max (own_min (own_max u0 (0 : Int32)) (own_max u1 (0 : Int32))) (own_min (own_max (own_max u0 (0 : Int32)) (own_max u1 (0 : Int32))) (0 : Int32))) (own_min (own_max u0 (0 : Int32)) (own_min (own_max u1 (0 : Int32)) (0 : Int32)))
theorem own_jr2 (l : Launch) (Z : State) (a0 : Array Value) (hw : ∀ d ∈ tables_1, d.before a0 Z = true) (ws : List Jvm.Cond) (xa : Addr) (xl : Addr) (xm : Addr) (xt : Addr) (xk : ClassId) (x1 : Addr) (x2 : Addr) (v0 : Addr) (v1 : Addr) (u0 : Int32) (u1 : Int32) (h0 : Heap) (n0 : Nat) (O0 : Old Z n0 h0) (P0 : Exa Z h0 xa "com/example/dolm/dolm/eval/JudgedRanking") (P1 : Fld Z h0 xa "com/example/dolm/dolm/eval/JudgedRanking" "relevant" "[Z" .null) (P2 : Fld Z h0 xa "com/example/dolm/dolm/eval/JudgedRanking" "gains" "[I" .null) (P3 : Fld Z h0 xa "com/example/dolm/dolm/eval/JudgedRanking" "relevantCount" "I" (.int 0)) (P4 : Fld Z h0 xa "com/example/dolm/dolm/eval/JudgedRanking" "judgedGains" "[I" .null) (P5 : n0 ≤ xa) (P6 : n0 ≤ xm) (P7 : Exa Z h0 xl "java/util/ArrayList") (P8 : Fld Z h0 xl "java/util/ArrayList" "size" "I" (.int 0)) (P9 : Exa Z h0 xm "java/util/HashMap") (P10 : Fld Z h0 xm "java/util/HashMap" "size" "I" (.int 2)) (P11 : Fld Z h0 xm "java/util/HashMap" "modCount" "I" (.int 2)) (P12 : Fld Z h0 xm "java/util/HashMap" "threshold" "I" (.int 12)) (P13 : Fld Z h0 xm "java/util/HashMap" "table" "[Ljava/util/HashMap$Node;" (.ref xt)) (P14 : Fld Z h0 xm "java/util/AbstractMap" "values" "Ljava/util/Collection;" .null) (P15 : @LT.lt Nat _ xm xa) (P16 : @LT.lt Nat _ xl xm) (P17 : Arv Z h0 xt xk (.object "java/util/HashMap$Node") (16 : Int32) [.null, .ref x1, .ref x2, .null, .null, .null, .null, .null, .null, .null, .null, .null, .null, .null, .null, .null] .null) (P18 : @LT.lt Nat _ xm xt) (P19 : @LT.lt Nat _ xt xa) (P20 : Exa Z h0 x1 "java/util/HashMap$Node") (P21 : Fld Z h0 x1 "java/util/HashMap$Node" "value" "Ljava/lang/Object;" (.ref v0)) (P22 : Fld Z h0 x1 "java/util/HashMap$Node" "next" "Ljava/util/HashMap$Node;" .null) (P23 : Exa Z h0 v0 "java/lang/Integer") (P24 : Fld Z h0 v0 "java/lang/Integer" "value" "I" (.int u0)) (P25 : @LT.lt Nat _ xt x1) (P26 : @LT.lt Nat _ x1 xa) (P27 : (@LT.lt Nat _ v0 n0 ∨ @LT.lt Nat _ xm v0)) (P28 : @LT.lt Nat _ v0 xa) (P29 : Exa Z h0 x2 "java/util/HashMap$Node") (P30 : Fld Z h0 x2 "java/util/HashMap$Node" "value" "Ljava/lang/Object;" (.ref v1)) (P31 : Fld Z h0 x2 "java/util/HashMap$Node" "next" "Ljava/util/HashMap$Node;" .null) (P32 : Exa Z h0 v1 "java/lang/Integer") (P33 : Fld Z h0 v1 "java/lang/Integer" "value" "I" (.int u1)) (P34 : @LT.lt Nat _ xt x2) (P35 : @LT.lt Nat _ x2 xa) (P36 : (@LT.lt Nat _ v1 n0 ∨ @LT.lt Nat _ xm v1)) (P37 : @LT.lt Nat _ v1 xa) : own_Met l Z (⟨"com/example/dolm/dolm/eval/JudgedRanking", "<init>", "(Ljava/util/List;Ljava/util/Map;)V"⟩ : MethodName) prog_9_method_1_code 8 none ws ({ frames := 4, cells := 6, slots := 10, locals := 79 } : Room) #[.ref xa, .ref xl, .ref xm] h0 (Q_own_jr2 Z xa xl xm xt xk x1 x2 v0 v1 u0 u1 h0 n0) := by
  refine own_mk (plainFor_of_name own_pn_com_example_dolm_dolm_eval_JudgedRanking) O0 ?_
  intro p e s m below meth c s₁ hx hby hml hZ hown hnm hlk hret X0 e0 N0 z0 z1
  have K0 : Keep h0 h0 [xa, xm] := Keep.refl _ _
  refine own_cast (own_ef_own_jr2 m xa xl xm) ?_
  show own_Goes p e below (s₁.setTop (mkF m 0 #[vR xa, vR xl, vR xm, uS, uS, uS, uS, uS] [])) _
  have ltP0 : @LT.lt Nat _ xa h0.size := P0.lt
  have ltP7 : @LT.lt Nat _ xl h0.size := P7.lt
  have ltP9 : @LT.lt Nat _ xm h0.size := P9.lt
  have ltP17 : @LT.lt Nat _ xt h0.size := P17.lt
  have ltP20 : @LT.lt Nat _ x1 h0.size := P20.lt
  have ltP23 : @LT.lt Nat _ v0 h0.size := P23.lt
  have ltP29 : @LT.lt Nat _ x2 h0.size := P29.lt
  have ltP32 : @LT.lt Nat _ v1 h0.size := P32.lt
  refine q_aloadN X0 hx hby d7_0 rfl rfl ?_
  obtain ⟨T1, X1, e1, st1⟩ := initO X0 hx hZ hown (wh hw 48 rfl) (wh hw 19 rfl) (wh hw 20 rfl) e0 (g := (mkF m 1 #[vR xa, vR xl, vR xm, uS, uS, uS, uS, uS] [.ref xa])) rfl (by rw [hml]; rfl) rfl (hb hby d7_1) (by decide) (W := 0) (by show 2 * 0 + _ ≤ _; exact Nat.le_of_eq rfl) (by decide)
  refine gg st1 ?_
  refine q_aloadN X1 hx hby d7_4 rfl rfl ?_
  refine q_aloadN X1 hx hby d7_5 rfl rfl ?_
  refine k_I X1 hx hby hZ hown (wh hw 49 rfl) (wh hw 50 rfl) (wh hw 51 rfl) (wh hw 52 rfl) (wh hw 53 rfl) (wh hw 54 rfl) (wh hw 55 rfl) (wh hw 56 rfl) (W := 1) (own_alSize l Z a0 hw [] xl h0 n0 O0 P8) (wh hw 57 rfl) (wh hw 2 rfl) e1 P7  hml (argsL := []) (rest := [.ref xa]) own_pd_6 d7_6 (fun _ T2 L2 X2 hQ2 => ?_)
  obtain ⟨Nc2, e2, rfl⟩ := hQ2
  have N2 := Fr.app N0 Nc2
  obtain ⟨T3, h3, k3, X3, e3, E3, A3, st3⟩ := newP X2 hx hZ (wh hw 60 rfl) e2 (g := (mkF m 11 #[vR xa, vR xl, vR xm, uS, uS, uS, uS, uS] [.int 0, .ref xa])) rfl (hb hby d7_11) rfl (by decide) (cap := 0) (by decide) (by decide) (by decide) (by decide)
  obtain ⟨b3, g3⟩ : ∃ z, z = h0.size := ⟨_, rfl⟩
  rw [← g3] at A3 st3
  refine gg st3 ?_
  have O4 := O0.ext E3
  have sz5 : h0.size ≤ h3.size := E3.1
  have K6 := K0.ext E3
  have l3 : @LT.lt Nat _ b3 h3.size := A3.lt
  have V3 : Arv Z h3 b3 k3 .boolean (0 : Int32) [] (.int 0) := (Arv.new A3 (by decide)).pad (pad_rep [] (.int 0) 0)
  have f7 := (P1.ext E3)
  have f8 := (P0.ext E3)
  refine qP X3 hx hby hZ hown (host := "") (Or.inl (wh hw 61 rfl)) Via.refl e3 f7 f8 (Or.inr ⟨(wh hw 62 rfl), rfl, hnm⟩) (wh hw 43 rfl) (ty := (.array .boolean)) d7_13 (fun T9 h9 X9 e9 W9 => ?_)
  have O10 := O4.wr W9 (show n0 ≤ xa by omega)
  have sz11 : h9.size = h3.size := Wr.size W9
  have K12 := K6.wr W9 (Or.inl (List.mem_of_getElem? (i := 0) rfl))
  have N9 := Fr.snoc X9 N2 (show n0 ≤ xa by omega)
  have Fw9 := f7.same W9
  refine q_aloadN X9 hx hby d7_16 rfl rfl ?_
  refine q_aloadN X9 hx hby d7_17 rfl rfl ?_
  have f13 := ((P8.ext E3).other W9 (Or.inl (nE xl xa (by omega))))
  have f14 := ((P7.ext E3).wr W9)
  refine k_I X9 hx hby hZ hown (wh hw 49 rfl) (wh hw 50 rfl) (wh hw 51 rfl) (wh hw 52 rfl) (wh hw 53 rfl) (wh hw 54 rfl) (wh hw 55 rfl) (wh hw 56 rfl) (W := 1) (own_alSize l Z a0 hw [] xl h9 n0 O10 f13) (wh hw 57 rfl) (wh hw 2 rfl) e9 f14  hml (argsL := []) (rest := [.ref xa]) own_pd_6 d7_18 (fun _ T15 L15 X15 hQ15 => ?_)
  obtain ⟨Nc15, e15, rfl⟩ := hQ15
  have N15 := Fr.app N9 Nc15
  obtain ⟨T16, h16, k16, X16, e16, E16, A16, Ex16, st16⟩ := newPE X15 hx hZ (wh hw 63 rfl) e15 (g := (mkF m 23 #[vR xa, vR xl, vR xm, uS, uS, uS, uS, uS] [.int 0, .ref xa])) rfl (hb hby d7_23) rfl (by decide) (cap := 0) (by decide) (by decide) (by decide) (by decide) (ad := "[I") (by decide)
  obtain ⟨b16, g16⟩ : ∃ z, z = h9.size := ⟨_, rfl⟩
  rw [← g16] at A16 st16 Ex16
  refine gg st16 ?_
  have O17 := O10.ext E16
  have sz18 : h9.size ≤ h16.size := E16.1
  have K19 := K12.ext E16
  have l16 : @LT.lt Nat _ b16 h16.size := A16.lt
  have V16 : Arv Z h16 b16 k16 .int (0 : Int32) [] (.int 0) := (Arv.new A16 (by decide)).pad (pad_rep [] (.int 0) 0)
  have f20 := (((P2.ext E3).other W9 (Or.inr (slot_ne (Or.inr (wh hw 65 rfl)) (Or.inr (wh hw 62 rfl)) (by decide) (t := (.array .int)) (t' := (.array .boolean)) (by decide) (by decide)))).ext E16)
  have f21 := ((f8.wr W9).ext E16)
  refine qP X16 hx hby hZ hown (host := "") (Or.inl (wh hw 64 rfl)) Via.refl e16 f20 f21 (Or.inr ⟨(wh hw 65 rfl), rfl, hnm⟩) (wh hw 43 rfl) (ty := (.array .int)) d7_25 (fun T22 h22 X22 e22 W22 => ?_)
  have O23 := O17.wr W22 (show n0 ≤ xa by omega)
  have sz24 : h22.size = h16.size := Wr.size W22
  have K25 := K19.wr W22 (Or.inl (List.mem_of_getElem? (i := 0) rfl))
  have N22 := Fr.snoc X22 N15 (show n0 ≤ xa by omega)
  have Fw22 := f20.same W22
  refine q_iconst X22 hx hby d7_28 ?_
  refine q_istoreN X22 hx hby d7_29 (l' := #[vR xa, vR xl, vR xm, vI 0, uS, uS, uS, uS]) rfl ?_
  show own_Goes p e below (T22.setTop (mkF m 30 #[vR xa, vR xl, vR xm, vI 0, uS, uS, uS, uS] [])) _
  refine q_iloadN X22 hx hby d7_30 rfl ?_
  refine q_aloadN X22 hx hby d7_31 rfl rfl ?_
  have f26 := ((Fw9.ext E16).other W22 (Or.inr (slot_ne (Or.inr (wh hw 62 rfl)) (Or.inr (wh hw 65 rfl)) (by decide) (t := (.array .boolean)) (t' := (.array .int)) (by decide) (by decide))))
  refine qG X22 hx hby hZ hown (wh hw 61 rfl) e22 f26 d7_32 (fun T27 X27 e27 => ?_)
  have f28 := (((V3.other W9 (nE b3 xa (by omega))).ext E16).other W22 (nE b3 xa (by omega)))
  refine q_len X27 hx hby hZ e27 f28 d7_35 ?_
  refine q_icmpYes (pc := 36) X27 hx hby d7_36 (pc' := 105) (flt (show ¬ ((0 : Int32) < (0 : Int32)) from by decide)).2.1 (by decide) (by decide) ?_
  refine q_iconst X27 hx hby d7_105 ?_
  refine q_istoreN X27 hx hby d7_106 (l' := #[vR xa, vR xl, vR xm, vI 0, uS, uS, uS, uS]) rfl ?_
  refine q_aloadN X27 hx hby d7_107 rfl rfl ?_
  have f30 := ((((P10.ext E3).other W9 (Or.inl (nE xm xa (by omega)))).ext E16).other W22 (Or.inl (nE xm xa (by omega))))
  have f31 := ((((P9.ext E3).wr W9).ext E16).wr W22)
  refine k_I X27 hx hby hZ hown (wh hw 66 rfl) (wh hw 67 rfl) (wh hw 68 rfl) (wh hw 69 rfl) (wh hw 70 rfl) (wh hw 71 rfl) (wh hw 72 rfl) (wh hw 73 rfl) (W := 0) (own_hmSize l Z a0 hw [] xm (2 : Int32) h22 n0 O23 f30) (wh hw 74 rfl) (wh hw 28 rfl) e27 f31  hml (argsL := []) (rest := []) own_pd_6 d7_108 (fun _ T32 L32 X32 hQ32 => ?_)
  obtain ⟨Nc32, e32, rfl⟩ := hQ32
  have N32 := Fr.app N22 Nc32
  obtain ⟨T33, h33, k33, X33, e33, E33, A33, Ex33, st33⟩ := newPE X32 hx hZ (wh hw 63 rfl) e32 (g := (mkF m 113 #[vR xa, vR xl, vR xm, vI 0, uS, uS, uS, uS] [.int 2])) rfl (hb hby d7_113) rfl (by decide) (cap := 2) (by decide) (by decide) (by decide) (by decide) (ad := "[I") (by decide)
  obtain ⟨b33, g33⟩ : ∃ z, z = h22.size := ⟨_, rfl⟩
  rw [← g33] at A33 st33 Ex33
  refine gg st33 ?_
  have O34 := O23.ext E33
  have sz35 : h22.size ≤ h33.size := E33.1
  have K36 := K25.ext E33
  have l33 : @LT.lt Nat _ b33 h33.size := A33.lt
  have V33 : Arv Z h33 b33 k33 .int (2 : Int32) [.int 0, .int 0] (.int 0) := (Arv.new A33 (by decide)).pad (pad_rep [] (.int 0) 2)
  refine q_astore X33 hx hby d7_115 rfl (l' := #[vR xa, vR xl, vR xm, vI 0, vR b33, uS, uS, uS]) rfl ?_
  refine q_iconst X33 hx hby d7_117 ?_
  refine q_istore X33 hx hby d7_118 (l' := #[vR xa, vR xl, vR xm, vI 0, vR b33, vI 0, uS, uS]) rfl ?_
  refine q_aloadN X33 hx hby d7_120 rfl rfl ?_
  show own_Goes p e below (T33.setTop (mkF m 121 #[vR xa, vR xl, vR xm, vI 0, vR b33, vI 0, uS, uS] [.ref xm])) _
  have f37 := (f31.ext E33)
  have f38 := (f30.ext E33)
  have f39 := (((((P11.ext E3).other W9 (Or.inl (nE xm xa (by omega)))).ext E16).other W22 (Or.inl (nE xm xa (by omega)))).ext E33)
  have f40 := (((((P12.ext E3).other W9 (Or.inl (nE xm xa (by omega)))).ext E16).other W22 (Or.inl (nE xm xa (by omega)))).ext E33)
  have f41 := (((((P13.ext E3).other W9 (Or.inl (nE xm xa (by omega)))).ext E16).other W22 (Or.inl (nE xm xa (by omega)))).ext E33)
  have f42 := (((((P14.ext E3).other W9 (Or.inl (nE xm xa (by omega)))).ext E16).other W22 (Or.inl (nE xm xa (by omega)))).ext E33)
  refine k_I X33 hx hby hZ hown (wh hw 77 rfl) (wh hw 78 rfl) (wh hw 79 rfl) (wh hw 80 rfl) (wh hw 81 rfl) (wh hw 82 rfl) (wh hw 83 rfl) (wh hw 73 rfl) (W := 0) (own_values l Z a0 hw [] xm (2 : Int32) (2 : Int32) (12 : Int32) (Value.ref xt) h33 n0 O34 f37 (show n0 ≤ xm by first | assumption | omega | decide) f38 f39 f40 f41 f42) (wh hw 84 rfl) (wh hw 28 rfl) e33 f37  hml (argsL := []) (rest := []) own_pd_20 d7_121 (fun _ T43 L43 X43 hQ43 => ?_)
  obtain ⟨h43, e43⟩ : ∃ z, T43.heap = z := ⟨_, rfl⟩
  rw [e43] at hQ43
  obtain ⟨Nc43, Kc43, r_43, rfl, c43_0, c43_1, c43_2, c43_3, c43_4, c43_5, c43_6, c43_7⟩ := hQ43
  have N43 := Fr.app N32 Nc43
  have O44 := O34.keep Kc43 (allS (show n0 ≤ xm by omega) all0)
  have sz45 : h33.size ≤ h43.size := Kc43.1
  have K46 := Keep.trans K36 Kc43 (allS (Or.inl (List.mem_of_getElem? (i := 1) rfl)) all0)
  have ltc43_5 : @LT.lt Nat _ r_43 h43.size := c43_5.lt
  have f47 := ((((((P17.ext E3).other W9 (nE xt xa (by omega))).ext E16).other W22 (nE xt xa (by omega))).ext E33).keep Kc43 (ninS (nE xt xm (by omega)) nin0))
  refine k_I X43 hx hby hZ hown (wh hw 99 rfl) (wh hw 100 rfl) (wh hw 101 rfl) (wh hw 102 rfl) (wh hw 103 rfl) (wh hw 104 rfl) (wh hw 105 rfl) (wh hw 106 rfl) (W := 0) (own_iter1 l Z a0 hw [] r_43 xm (2 : Int32) (2 : Int32) xt xk x1 (Value.ref x2) Value.null h43 n0 O44 c43_6 c43_0 c43_1 c43_3 f47 (show (0 : Int32) < (2 : Int32) by first | assumption | omega | decide) (show @LT.lt Nat _ xm h43.size by first | assumption | omega | decide) (show @LT.lt Nat _ xt h43.size by first | assumption | omega | decide)) (wh hw 107 rfl) (wh hw 90 rfl) e43 c43_5  hml (argsL := []) (rest := []) own_pd_21 d7_126 (fun _ T48 L48 X48 hQ48 => ?_)
  obtain ⟨h48, e48⟩ : ∃ z, T48.heap = z := ⟨_, rfl⟩
  rw [e48] at hQ48
  obtain ⟨Nc48, Kc48, r_48, rfl, c48_0, c48_1, c48_2, c48_3, c48_4, c48_5, c48_6⟩ := hQ48
  have N48 := Fr.app N43 Nc48
  have O49 := O44.keep Kc48 all0
  have sz50 : h43.size ≤ h48.size := Kc48.1
  have K51 := Keep.trans K46 Kc48 all0
  have ltc48_0 : @LT.lt Nat _ r_48 h48.size := c48_0.lt
  refine q_astore X48 hx hby d7_131 rfl (l' := #[vR xa, vR xl, vR xm, vI 0, vR b33, vI 0, vR r_48, uS]) rfl ?_
  have C_2_0 : ∀ (T_ : State) (h_ : Heap) (L_ : List Loc), (u0.toInt ≤ 0 ∧ u1.toInt ≤ 0) → Stand p l e ({ frames := 4, cells := 6, slots := 10, locals := 79 } : Room) s m #[.ref xa, .ref xl, .ref xm] below meth c T_ L_ 5 8 ∧ T_.heap = h_ ∧ Fr n0 L_ ∧ Old Z n0 h_ ∧ Keep h0 h_ [xa, xm] ∧ Exa Z h_ xa "com/example/dolm/dolm/eval/JudgedRanking" ∧ Fld Z h_ xa "com/example/dolm/dolm/eval/JudgedRanking" "relevantCount" "I" (.int 0) ∧ Fld Z h_ xa "com/example/dolm/dolm/eval/JudgedRanking" "judgedGains" "[I" .null ∧ Exa Z h_ r_48 "java/util/HashMap$ValueIterator" ∧ Fld Z h_ r_48 "java/util/HashMap$HashIterator" "next" "Ljava/util/HashMap$Node;" .null ∧ Exa Z h_ b33 "[I" ∧ Arv Z h_ b33 k33 .int (2 : Int32) [.int 0, .int 0] (.int 0) → own_Goes p e below (T_.setTop (mkF m 133 #[vR xa, vR xl, vR xm, vI 0, vR b33, vI 0, vR r_48, vI u1] [])) (own_PostN s (Q_own_jr2 Z xa xl xm xt xk x1 x2 v0 v1 u0 u1 h0 n0) ({ frames := 4, cells := 6, slots := 10, locals := 79 } : Room).cells ({ frames := 4, cells := 6, slots := 10, locals := 79 } : Room).slots) := by
    intro T_ h_ L_ hR ⟨X_, e_, N_, O_, K_, f_0, f_1, f_2, f_3, f_4, f_5, f_6⟩
    have lt_0 : @LT.lt Nat _ xa h_.size := f_0.lt
    have lt_3 : @LT.lt Nat _ r_48 h_.size := f_3.lt
    have lt_5 : @LT.lt Nat _ b33 h_.size := f_5.lt
    have lt_6 : @LT.lt Nat _ b33 h_.size := f_6.lt
    show own_Goes p e below (T_.setTop (mkF m 133 #[vR xa, vR xl, vR xm, vI 0, vR b33, vI 0, vR r_48, vI u1] [])) _
    refine q_aload X_ hx hby d7_133 rfl rfl ?_
    refine k_I X_ hx hby hZ hown (wh hw 136 rfl) (wh hw 137 rfl) (wh hw 138 rfl) (wh hw 139 rfl) (wh hw 140 rfl) (wh hw 141 rfl) (wh hw 142 rfl) (wh hw 143 rfl) (W := 0) (own_hasNext0 l Z a0 hw [] r_48 h_ n0 O_ f_4) (wh hw 144 rfl) (wh hw 119 rfl) e_ f_3  hml (argsL := []) (rest := []) own_pd_4 d7_135 (fun _ T52 L52 X52 hQ52 => ?_)
    obtain ⟨Nc52, e52, rfl⟩ := hQ52
    have N52 := Fr.app N_ Nc52
    refine q_ifYes (pc := 140) X52 hx hby d7_140 (pc' := 185) ((if0 _ _).trans (teq (show ((0 : Int32) = (0 : Int32)) from by decide)).1) (by decide) (by decide) ?_
    refine q_aloadN X52 hx hby d7_185 rfl rfl ?_
    refine q_iloadN X52 hx hby d7_186 rfl ?_
    refine qP X52 hx hby hZ hown (host := "") (Or.inl (wh hw 145 rfl)) Via.refl e52 f_1 f_0 (Or.inr ⟨(wh hw 146 rfl), rfl, hnm⟩) (wh hw 43 rfl) (ty := .int) d7_187 (fun T53 h53 X53 e53 W53 => ?_)
    have O54 := O_.wr W53 (show n0 ≤ xa by omega)
    have sz55 : h53.size = h_.size := Wr.size W53
    have K56 := K_.wr W53 (Or.inl (List.mem_of_getElem? (i := 0) rfl))
    have N53 := Fr.snoc X53 N52 (show n0 ≤ xa by omega)
    have Fw53 := f_1.same W53
    refine q_aloadN X53 hx hby d7_190 rfl rfl ?_
    refine q_aload X53 hx hby d7_191 rfl rfl ?_
    refine q_iload X53 hx hby d7_193 rfl ?_
    have f57 := (f_6.other W53 (nE b33 xa (by omega)))
    have V58 : Arv Z h53 b33 k33 .int (2 : Int32) [] (.int 0) := f57.pad (fun i => (pad_rep [] (.int 0) 2 i).symm)
    refine k_S X53 hx hby hZ hown (wh hw 147 rfl) (wh hw 148 rfl) (W := 1) (own_copyS0 l Z a0 hw [] b33 k33 (2 : Int32) h53 n0 O54 V58 (show ¬ (0 : Int32) = (2 : Int32) by first | assumption | omega | decide) (show (0 : Int32) < (2 : Int32) by first | assumption | omega | decide)) (wh hw 150 rfl) (wh hw 149 rfl) e53  hml (argsL := [.ref b33, .int 0]) (rest := [.ref xa]) own_pd_22 d7_195 (fun _ T59 L59 X59 hQ59 => ?_)
    obtain ⟨h59, e59⟩ : ∃ z, T59.heap = z := ⟨_, rfl⟩
    rw [e59] at hQ59
    obtain ⟨Nc59, Kc59, r_59, rk_59, rfl, c59_0, c59_1⟩ := hQ59
    have N59 := Fr.app N53 Nc59
    have O60 := O54.keep Kc59 all0
    have sz61 : h53.size ≤ h59.size := Kc59.1
    have K62 := Keep.trans K56 Kc59 all0
    have ltc59_0 : @LT.lt Nat _ r_59 h59.size := c59_0.lt
    have f63 := ((f_2.other W53 (Or.inr (slot_ne (Or.inr (wh hw 161 rfl)) (Or.inr (wh hw 146 rfl)) (by decide) (t := (.array .int)) (t' := .int) (by decide) (by decide)))).keep Kc59 nin0)
    have f64 := ((f_0.wr W53).keep Kc59)
    refine qP X59 hx hby hZ hown (host := "") (Or.inl (wh hw 160 rfl)) Via.refl e59 f63 f64 (Or.inr ⟨(wh hw 161 rfl), rfl, hnm⟩) (wh hw 43 rfl) (ty := (.array .int)) d7_198 (fun T65 h65 X65 e65 W65 => ?_)
    have O66 := O60.wr W65 (show n0 ≤ xa by omega)
    have sz67 : h65.size = h59.size := Wr.size W65
    have K68 := K62.wr W65 (Or.inl (List.mem_of_getElem? (i := 0) rfl))
    have N65 := Fr.snoc X65 N59 (show n0 ≤ xa by omega)
    have Fw65 := f63.same W65
    refine q_aloadN X65 hx hby d7_201 rfl rfl ?_
    refine qG X65 hx hby hZ hown (wh hw 160 rfl) e65 Fw65 d7_202 (fun T69 X69 e69 => ?_)
    have f70 := (c59_0.other W65 (nE r_59 xa (by omega)))
    refine k_S X69 hx hby hZ hown (wh hw 162 rfl) (wh hw 163 rfl) (W := 0) (own_sort0 l Z a0 hw [] r_59 rk_59 h65 n0 O66 f70 (show n0 ≤ r_59 by first | assumption | omega | decide)) (wh hw 164 rfl) (wh hw 149 rfl) e69  hml (argsL := [.ref r_59]) (rest := []) own_pd_23 d7_205 (fun _ T71 L71 X71 hQ71 => ?_)
    obtain ⟨h71, e71⟩ : ∃ z, T71.heap = z := ⟨_, rfl⟩
    rw [e71] at hQ71
    obtain ⟨Nc71, Kc71, rfl, c71_0⟩ := hQ71
    have N71 := Fr.app N65 Nc71
    have O72 := O66.keep Kc71 (allS (show n0 ≤ r_59 by omega) all0)
    have sz73 : h65.size ≤ h71.size := Kc71.1
    have K74 := Keep.trans K68 Kc71 (allS (Or.inr (show h0.size ≤ r_59 by omega)) all0)
    have ltc71_0 : @LT.lt Nat _ r_59 h71.size := c71_0.lt
    show own_Goes p e below (T71.setTop (mkF m 208 #[vR xa, vR xl, vR xm, vI 0, vR b33, vI 0, vR r_48, vI u1] [])) _
    refine r_V X71 hx hby hret hlk d7_208 e71 ?_
    have f75 := (Fw65.keep Kc71 (ninS (nE xa r_59 (by omega)) nin0))
    have GA : own_Gains Z h71 xa (own_max (own_max u0 (0 : Int32)) (own_max (own_max u1 (0 : Int32)) (0 : Int32))) (own_max (own_min (own_max u0 (0 : Int32)) (own_max u1 (0 : Int32))) (own_min (own_max (own_max u0 (0 : Int32)) (own_max u1 (0 : Int32))) (0 : Int32))) (own_min (own_max u0 (0 : Int32)) (own_min (own_max u1 (0 : Int32)) (0 : Int32))) := ⟨r_59, rk_59, f75, (Or.inl ⟨c71_0, own_eqI (by simp only [own_maxI, own_minI, own_i0]; omega), own_eqI (by simp only [own_maxI, own_minI, own_i0]; omega), own_eqI (by simp only [own_maxI, own_minI, own_i0]; omega)⟩)⟩
    exact ⟨N71, K74, rfl, GA⟩
  have C_2_1 : ∀ (y0 : Int32) (T_ : State) (h_ : Heap) (L_ : List Loc), (y0.toInt = u0.toInt ∧ 1 ≤ u0.toInt ∧ u1.toInt ≤ 0) ∨ (y0.toInt = u1.toInt ∧ 1 ≤ u1.toInt ∧ u0.toInt ≤ 0) → Stand p l e ({ frames := 4, cells := 6, slots := 10, locals := 79 } : Room) s m #[.ref xa, .ref xl, .ref xm] below meth c T_ L_ 5 8 ∧ T_.heap = h_ ∧ Fr n0 L_ ∧ Old Z n0 h_ ∧ Keep h0 h_ [xa, xm] ∧ Exa Z h_ xa "com/example/dolm/dolm/eval/JudgedRanking" ∧ Fld Z h_ xa "com/example/dolm/dolm/eval/JudgedRanking" "relevantCount" "I" (.int 0) ∧ Fld Z h_ xa "com/example/dolm/dolm/eval/JudgedRanking" "judgedGains" "[I" .null ∧ Exa Z h_ r_48 "java/util/HashMap$ValueIterator" ∧ Fld Z h_ r_48 "java/util/HashMap$HashIterator" "next" "Ljava/util/HashMap$Node;" .null ∧ Exa Z h_ b33 "[I" ∧ Arv Z h_ b33 k33 .int (2 : Int32) [.int y0, .int 0] (.int 0) → own_Goes p e below (T_.setTop (mkF m 133 #[vR xa, vR xl, vR xm, vI 1, vR b33, vI 1, vR r_48, vI u1] [])) (own_PostN s (Q_own_jr2 Z xa xl xm xt xk x1 x2 v0 v1 u0 u1 h0 n0) ({ frames := 4, cells := 6, slots := 10, locals := 79 } : Room).cells ({ frames := 4, cells := 6, slots := 10, locals := 79 } : Room).slots) := by
    intro y0 T_ h_ L_ hR ⟨X_, e_, N_, O_, K_, f_0, f_1, f_2, f_3, f_4, f_5, f_6⟩
    have lt_0 : @LT.lt Nat _ xa h_.size := f_0.lt
    have lt_3 : @LT.lt Nat _ r_48 h_.size := f_3.lt
    have lt_5 : @LT.lt Nat _ b33 h_.size := f_5.lt
    have lt_6 : @LT.lt Nat _ b33 h_.size := f_6.lt
    show own_Goes p e below (T_.setTop (mkF m 133 #[vR xa, vR xl, vR xm, vI 1, vR b33, vI 1, vR r_48, vI u1] [])) _
    refine q_aload X_ hx hby d7_133 rfl rfl ?_
    refine k_I X_ hx hby hZ hown (wh hw 136 rfl) (wh hw 137 rfl) (wh hw 138 rfl) (wh hw 139 rfl) (wh hw 140 rfl) (wh hw 141 rfl) (wh hw 142 rfl) (wh hw 143 rfl) (W := 0) (own_hasNext0 l Z a0 hw [] r_48 h_ n0 O_ f_4) (wh hw 144 rfl) (wh hw 119 rfl) e_ f_3  hml (argsL := []) (rest := []) own_pd_4 d7_135 (fun _ T76 L76 X76 hQ76 => ?_)
    obtain ⟨Nc76, e76, rfl⟩ := hQ76
    have N76 := Fr.app N_ Nc76
    refine q_ifYes (pc := 140) X76 hx hby d7_140 (pc' := 185) ((if0 _ _).trans (teq (show ((0 : Int32) = (0 : Int32)) from by decide)).1) (by decide) (by decide) ?_
    refine q_aloadN X76 hx hby d7_185 rfl rfl ?_
    refine q_iloadN X76 hx hby d7_186 rfl ?_
    refine qP X76 hx hby hZ hown (host := "") (Or.inl (wh hw 145 rfl)) Via.refl e76 f_1 f_0 (Or.inr ⟨(wh hw 146 rfl), rfl, hnm⟩) (wh hw 43 rfl) (ty := .int) d7_187 (fun T77 h77 X77 e77 W77 => ?_)
    have O78 := O_.wr W77 (show n0 ≤ xa by omega)
    have sz79 : h77.size = h_.size := Wr.size W77
    have K80 := K_.wr W77 (Or.inl (List.mem_of_getElem? (i := 0) rfl))
    have N77 := Fr.snoc X77 N76 (show n0 ≤ xa by omega)
    have Fw77 := f_1.same W77
    refine q_aloadN X77 hx hby d7_190 rfl rfl ?_
    refine q_aload X77 hx hby d7_191 rfl rfl ?_
    refine q_iload X77 hx hby d7_193 rfl ?_
    have f81 := (f_6.other W77 (nE b33 xa (by omega)))
    have V82 : Arv Z h77 b33 k33 .int (2 : Int32) [.int y0] (.int 0) := f81.pad (fun i => (pad_rep [.int y0] (.int 0) 1 i).symm)
    refine k_S X77 hx hby hZ hown (wh hw 147 rfl) (wh hw 148 rfl) (W := 1) (own_copyS1 l Z a0 hw [] b33 k33 (2 : Int32) y0 h77 n0 O78 V82 (show ¬ (1 : Int32) = (2 : Int32) by first | assumption | omega | decide) (show (1 : Int32) < (2 : Int32) by first | assumption | omega | decide)) (wh hw 150 rfl) (wh hw 149 rfl) e77  hml (argsL := [.ref b33, .int 1]) (rest := [.ref xa]) own_pd_22 d7_195 (fun _ T83 L83 X83 hQ83 => ?_)
    obtain ⟨h83, e83⟩ : ∃ z, T83.heap = z := ⟨_, rfl⟩
    rw [e83] at hQ83
    obtain ⟨Nc83, Kc83, r_83, rk_83, rfl, c83_0, c83_1⟩ := hQ83
    have N83 := Fr.app N77 Nc83
    have O84 := O78.keep Kc83 all0
    have sz85 : h77.size ≤ h83.size := Kc83.1
    have K86 := Keep.trans K80 Kc83 all0
    have ltc83_0 : @LT.lt Nat _ r_83 h83.size := c83_0.lt
    have f87 := ((f_2.other W77 (Or.inr (slot_ne (Or.inr (wh hw 161 rfl)) (Or.inr (wh hw 146 rfl)) (by decide) (t := (.array .int)) (t' := .int) (by decide) (by decide)))).keep Kc83 nin0)
    have f88 := ((f_0.wr W77).keep Kc83)
    refine qP X83 hx hby hZ hown (host := "") (Or.inl (wh hw 160 rfl)) Via.refl e83 f87 f88 (Or.inr ⟨(wh hw 161 rfl), rfl, hnm⟩) (wh hw 43 rfl) (ty := (.array .int)) d7_198 (fun T89 h89 X89 e89 W89 => ?_)
    have O90 := O84.wr W89 (show n0 ≤ xa by omega)
    have sz91 : h89.size = h83.size := Wr.size W89
    have K92 := K86.wr W89 (Or.inl (List.mem_of_getElem? (i := 0) rfl))
    have N89 := Fr.snoc X89 N83 (show n0 ≤ xa by omega)
    have Fw89 := f87.same W89
    refine q_aloadN X89 hx hby d7_201 rfl rfl ?_
    refine qG X89 hx hby hZ hown (wh hw 160 rfl) e89 Fw89 d7_202 (fun T93 X93 e93 => ?_)
    have f94 := (c83_0.other W89 (nE r_83 xa (by omega)))
    refine k_S X93 hx hby hZ hown (wh hw 162 rfl) (wh hw 163 rfl) (W := 0) (own_sort1 l Z a0 hw [] r_83 rk_83 y0 h89 n0 O90 f94 (show n0 ≤ r_83 by first | assumption | omega | decide)) (wh hw 164 rfl) (wh hw 149 rfl) e93  hml (argsL := [.ref r_83]) (rest := []) own_pd_23 d7_205 (fun _ T95 L95 X95 hQ95 => ?_)
    obtain ⟨h95, e95⟩ : ∃ z, T95.heap = z := ⟨_, rfl⟩
    rw [e95] at hQ95
    obtain ⟨Nc95, Kc95, rfl, c95_0⟩ := hQ95
    have N95 := Fr.app N89 Nc95
    have O96 := O90.keep Kc95 (allS (show n0 ≤ r_83 by omega) all0)
    have sz97 : h89.size ≤ h95.size := Kc95.1
    have K98 := Keep.trans K92 Kc95 (allS (Or.inr (show h0.size ≤ r_83 by omega)) all0)
    have ltc95_0 : @LT.lt Nat _ r_83 h95.size := c95_0.lt
    show own_Goes p e below (T95.setTop (mkF m 208 #[vR xa, vR xl, vR xm, vI 1, vR b33, vI 1, vR r_48, vI u1] [])) _
    refine r_V X95 hx hby hret hlk d7_208 e95 ?_
    have f99 := (Fw89.keep Kc95 (ninS (nE xa r_83 (by omega)) nin0))
    have GA : own_Gains Z h95 xa (own_max (own_max u0 (0 : Int32)) (own_max (own_max u1 (0 : Int32)) (0 : Int32))) (own_max (own_min (own_max u0 (0 : Int32)) (own_max u1 (0 : Int32))) (own_min (own_max (own_max u0 (0 : Int32)) (own_max u1 (0 : Int32))) (0 : Int32))) (own_min (own_max u0 (0 : Int32)) (own_min (own_max u1 (0 : Int32)) (0 : Int32))) := ⟨r_83, rk_83, f99, (Or.inr (Or.inl ⟨_, c95_0, own_eqI (by simp only [own_maxI, own_minI, own_i0]; omega), own_eqI (by simp only [own_maxI, own_minI, own_i0]; omega), own_eqI (by simp only [own_maxI, own_minI, own_i0]; omega)⟩))⟩
    exact ⟨N95, K98, rfl, GA⟩
  have C_2_2 : ∀ (y0 : Int32) (y1 : Int32) (T_ : State) (h_ : Heap) (L_ : List Loc), (y0.toInt = u0.toInt ∧ 1 ≤ u0.toInt ∧ y1.toInt = u1.toInt ∧ 1 ≤ u1.toInt) → Stand p l e ({ frames := 4, cells := 6, slots := 10, locals := 79 } : Room) s m #[.ref xa, .ref xl, .ref xm] below meth c T_ L_ 5 8 ∧ T_.heap = h_ ∧ Fr n0 L_ ∧ Old Z n0 h_ ∧ Keep h0 h_ [xa, xm] ∧ Exa Z h_ xa "com/example/dolm/dolm/eval/JudgedRanking" ∧ Fld Z h_ xa "com/example/dolm/dolm/eval/JudgedRanking" "relevantCount" "I" (.int 0) ∧ Fld Z h_ xa "com/example/dolm/dolm/eval/JudgedRanking" "judgedGains" "[I" .null ∧ Exa Z h_ r_48 "java/util/HashMap$ValueIterator" ∧ Fld Z h_ r_48 "java/util/HashMap$HashIterator" "next" "Ljava/util/HashMap$Node;" .null ∧ Exa Z h_ b33 "[I" ∧ Arv Z h_ b33 k33 .int (2 : Int32) [.int y0, .int y1] (.int 0) → own_Goes p e below (T_.setTop (mkF m 133 #[vR xa, vR xl, vR xm, vI 2, vR b33, vI 2, vR r_48, vI u1] [])) (own_PostN s (Q_own_jr2 Z xa xl xm xt xk x1 x2 v0 v1 u0 u1 h0 n0) ({ frames := 4, cells := 6, slots := 10, locals := 79 } : Room).cells ({ frames := 4, cells := 6, slots := 10, locals := 79 } : Room).slots) := by
    intro y0 y1 T_ h_ L_ hR ⟨X_, e_, N_, O_, K_, f_0, f_1, f_2, f_3, f_4, f_5, f_6⟩
    have lt_0 : @LT.lt Nat _ xa h_.size := f_0.lt
    have lt_3 : @LT.lt Nat _ r_48 h_.size := f_3.lt
    have lt_5 : @LT.lt Nat _ b33 h_.size := f_5.lt
    have lt_6 : @LT.lt Nat _ b33 h_.size := f_6.lt
    show own_Goes p e below (T_.setTop (mkF m 133 #[vR xa, vR xl, vR xm, vI 2, vR b33, vI 2, vR r_48, vI u1] [])) _
    refine q_aload X_ hx hby d7_133 rfl rfl ?_
    refine k_I X_ hx hby hZ hown (wh hw 136 rfl) (wh hw 137 rfl) (wh hw 138 rfl) (wh hw 139 rfl) (wh hw 140 rfl) (wh hw 141 rfl) (wh hw 142 rfl) (wh hw 143 rfl) (W := 0) (own_hasNext0 l Z a0 hw [] r_48 h_ n0 O_ f_4) (wh hw 144 rfl) (wh hw 119 rfl) e_ f_3  hml (argsL := []) (rest := []) own_pd_4 d7_135 (fun _ T100 L100 X100 hQ100 => ?_)
    obtain ⟨Nc100, e100, rfl⟩ := hQ100
    have N100 := Fr.app N_ Nc100
    refine q_ifYes (pc := 140) X100 hx hby d7_140 (pc' := 185) ((if0 _ _).trans (teq (show ((0 : Int32) = (0 : Int32)) from by decide)).1) (by decide) (by decide) ?_
    refine q_aloadN X100 hx hby d7_185 rfl rfl ?_
    refine q_iloadN X100 hx hby d7_186 rfl ?_
    refine qP X100 hx hby hZ hown (host := "") (Or.inl (wh hw 145 rfl)) Via.refl e100 f_1 f_0 (Or.inr ⟨(wh hw 146 rfl), rfl, hnm⟩) (wh hw 43 rfl) (ty := .int) d7_187 (fun T101 h101 X101 e101 W101 => ?_)
    have O102 := O_.wr W101 (show n0 ≤ xa by omega)
    have sz103 : h101.size = h_.size := Wr.size W101
    have K104 := K_.wr W101 (Or.inl (List.mem_of_getElem? (i := 0) rfl))
    have N101 := Fr.snoc X101 N100 (show n0 ≤ xa by omega)
    have Fw101 := f_1.same W101
    refine q_aloadN X101 hx hby d7_190 rfl rfl ?_
    refine q_aload X101 hx hby d7_191 rfl rfl ?_
    refine q_iload X101 hx hby d7_193 rfl ?_
    have f105 := (f_5.wr W101)
    have f106 := (f_6.other W101 (nE b33 xa (by omega)))
    refine k_S X101 hx hby hZ hown (wh hw 147 rfl) (wh hw 148 rfl) (W := 1) (own_copy2 l Z a0 hw [] b33 k33 y0 y1 h101 n0 O102 f105 f106) (wh hw 150 rfl) (wh hw 149 rfl) e101  hml (argsL := [.ref b33, .int 2]) (rest := [.ref xa]) own_pd_22 d7_195 (fun _ T107 L107 X107 hQ107 => ?_)
    obtain ⟨h107, e107⟩ : ∃ z, T107.heap = z := ⟨_, rfl⟩
    rw [e107] at hQ107
    obtain ⟨Nc107, Kc107, r_107, rk_107, rfl, c107_0, c107_1⟩ := hQ107
    have N107 := Fr.app N101 Nc107
    have O108 := O102.keep Kc107 all0
    have sz109 : h101.size ≤ h107.size := Kc107.1
    have K110 := Keep.trans K104 Kc107 all0
    have ltc107_0 : @LT.lt Nat _ r_107 h107.size := c107_0.lt
    have f111 := ((f_2.other W101 (Or.inr (slot_ne (Or.inr (wh hw 161 rfl)) (Or.inr (wh hw 146 rfl)) (by decide) (t := (.array .int)) (t' := .int) (by decide) (by decide)))).keep Kc107 nin0)
    have f112 := ((f_0.wr W101).keep Kc107)
    refine qP X107 hx hby hZ hown (host := "") (Or.inl (wh hw 160 rfl)) Via.refl e107 f111 f112 (Or.inr ⟨(wh hw 161 rfl), rfl, hnm⟩) (wh hw 43 rfl) (ty := (.array .int)) d7_198 (fun T113 h113 X113 e113 W113 => ?_)
    have O114 := O108.wr W113 (show n0 ≤ xa by omega)
    have sz115 : h113.size = h107.size := Wr.size W113
    have K116 := K110.wr W113 (Or.inl (List.mem_of_getElem? (i := 0) rfl))
    have N113 := Fr.snoc X113 N107 (show n0 ≤ xa by omega)
    have Fw113 := f111.same W113
    refine q_aloadN X113 hx hby d7_201 rfl rfl ?_
    refine qG X113 hx hby hZ hown (wh hw 160 rfl) e113 Fw113 d7_202 (fun T117 X117 e117 => ?_)
    have f118 := (c107_0.other W113 (nE r_107 xa (by omega)))
    refine k_S X117 hx hby hZ hown (wh hw 162 rfl) (wh hw 163 rfl) (W := 0) (own_sort2 l Z a0 hw [] r_107 rk_107 y0 y1 h113 n0 O114 f118 (show n0 ≤ r_107 by first | assumption | omega | decide)) (wh hw 164 rfl) (wh hw 149 rfl) e117  hml (argsL := [.ref r_107]) (rest := []) own_pd_23 d7_205 (fun _ T119 L119 X119 hQ119 => ?_)
    obtain ⟨h119, e119⟩ : ∃ z, T119.heap = z := ⟨_, rfl⟩
    rw [e119] at hQ119
    obtain ⟨Nc119, Kc119, z0_119, z1_119, rfl, c119_0, c119_1⟩ := hQ119
    have N119 := Fr.app N113 Nc119
    have O120 := O114.keep Kc119 (allS (show n0 ≤ r_107 by omega) all0)
    have sz121 : h113.size ≤ h119.size := Kc119.1
    have K122 := Keep.trans K116 Kc119 (allS (Or.inr (show h0.size ≤ r_107 by omega)) all0)
    have ltc119_0 : @LT.lt Nat _ r_107 h119.size := c119_0.lt
    show own_Goes p e below (T119.setTop (mkF m 208 #[vR xa, vR xl, vR xm, vI 2, vR b33, vI 2, vR r_48, vI u1] [])) _
    refine r_V X119 hx hby hret hlk d7_208 e119 ?_
    have f123 := (Fw113.keep Kc119 (ninS (nE xa r_107 (by omega)) nin0))
    have GA : own_Gains Z h119 xa (own_max (own_max u0 (0 : Int32)) (own_max (own_max u1 (0 : Int32)) (0 : Int32))) (own_max (own_min (own_max u0 (0 : Int32)) (own_max u1 (0 : Int32))) (own_min (own_max (own_max u0 (0 : Int32)) (own_max u1 (0 : Int32))) (0 : Int32))) (own_min (own_max u0 (0 : Int32)) (own_min (own_max u1 (0 : Int32)) (0 : Int32))) := ⟨r_107, rk_107, f123, (Or.inr (Or.inr (Or.inl ⟨_, _, c119_0, own_eqI (by simp only [own_maxI, own_minI, own_i0]; have := own_S2i c119_1; omega), own_eqI (by simp only [own_maxI, own_minI, own_i0]; have := own_S2i c119_1; omega), own_eqI (by simp only [own_maxI, own_minI, own_i0]; have := own_S2i c119_1; omega)⟩)))⟩
    exact ⟨N119, K122, rfl, GA⟩
  have C_1_0 : ∀ (T_ : State) (h_ : Heap) (L_ : List Loc), (u0.toInt ≤ 0) → Stand p l e ({ frames := 4, cells := 6, slots := 10, locals := 79 } : Room) s m #[.ref xa, .ref xl, .ref xm] below meth c T_ L_ 5 8 ∧ T_.heap = h_ ∧ Fr n0 L_ ∧ Old Z n0 h_ ∧ Keep h0 h_ [xa, xm] ∧ Exa Z h_ xa "com/example/dolm/dolm/eval/JudgedRanking" ∧ Fld Z h_ xa "com/example/dolm/dolm/eval/JudgedRanking" "relevantCount" "I" (.int 0) ∧ Fld Z h_ xa "com/example/dolm/dolm/eval/JudgedRanking" "judgedGains" "[I" .null ∧ Exa Z h_ r_48 "java/util/HashMap$ValueIterator" ∧ Fld Z h_ r_48 "java/util/HashMap$HashIterator" "next" "Ljava/util/HashMap$Node;" (.ref x2) ∧ Fld Z h_ r_48 "java/util/HashMap$HashIterator" "this$0" "Ljava/util/HashMap;" (.ref xm) ∧ Fld Z h_ r_48 "java/util/HashMap$HashIterator" "expectedModCount" "I" (.int 2) ∧ Fld Z h_ r_48 "java/util/HashMap$HashIterator" "current" "Ljava/util/HashMap$Node;" (.ref x1) ∧ Fld Z h_ r_48 "java/util/HashMap$HashIterator" "index" "I" (.int ((2 : Int32) + (1 : Int32))) ∧ Fld Z h_ xm "java/util/HashMap" "modCount" "I" (.int 2) ∧ Fld Z h_ xm "java/util/HashMap" "table" "[Ljava/util/HashMap$Node;" (.ref xt) ∧ Arv Z h_ xt xk (.object "java/util/HashMap$Node") (16 : Int32) [.null, .ref x1, .ref x2, .null, .null, .null, .null, .null, .null, .null, .null, .null, .null, .null, .null, .null] .null ∧ Fld Z h_ x2 "java/util/HashMap$Node" "value" "Ljava/lang/Object;" (.ref v1) ∧ Fld Z h_ x2 "java/util/HashMap$Node" "next" "Ljava/util/HashMap$Node;" .null ∧ Exa Z h_ v1 "java/lang/Integer" ∧ Fld Z h_ v1 "java/lang/Integer" "value" "I" (.int u1) ∧ Exa Z h_ b33 "[I" ∧ Arv Z h_ b33 k33 .int (2 : Int32) [.int 0, .int 0] (.int 0) → own_Goes p e below (T_.setTop (mkF m 133 #[vR xa, vR xl, vR xm, vI 0, vR b33, vI 0, vR r_48, vI u0] [])) (own_PostN s (Q_own_jr2 Z xa xl xm xt xk x1 x2 v0 v1 u0 u1 h0 n0) ({ frames := 4, cells := 6, slots := 10, locals := 79 } : Room).cells ({ frames := 4, cells := 6, slots := 10, locals := 79 } : Room).slots) := by
    intro T_ h_ L_ hR ⟨X_, e_, N_, O_, K_, f_0, f_1, f_2, f_3, f_4, f_5, f_6, f_7, f_8, f_9, f_10, f_11, f_12, f_13, f_14, f_15, f_16, f_17⟩
    have lt_0 : @LT.lt Nat _ xa h_.size := f_0.lt
    have lt_3 : @LT.lt Nat _ r_48 h_.size := f_3.lt
    have lt_11 : @LT.lt Nat _ xt h_.size := f_11.lt
    have lt_14 : @LT.lt Nat _ v1 h_.size := f_14.lt
    have lt_16 : @LT.lt Nat _ b33 h_.size := f_16.lt
    have lt_17 : @LT.lt Nat _ b33 h_.size := f_17.lt
    show own_Goes p e below (T_.setTop (mkF m 133 #[vR xa, vR xl, vR xm, vI 0, vR b33, vI 0, vR r_48, vI u0] [])) _
    refine q_aload X_ hx hby d7_133 rfl rfl ?_
    refine k_I X_ hx hby hZ hown (wh hw 136 rfl) (wh hw 137 rfl) (wh hw 138 rfl) (wh hw 139 rfl) (wh hw 140 rfl) (wh hw 141 rfl) (wh hw 142 rfl) (wh hw 143 rfl) (W := 0) (own_hasNext1 l Z a0 hw [] r_48 x2 h_ n0 O_ f_4) (wh hw 144 rfl) (wh hw 119 rfl) e_ f_3  hml (argsL := []) (rest := []) own_pd_4 d7_135 (fun _ T124 L124 X124 hQ124 => ?_)
    obtain ⟨Nc124, e124, rfl⟩ := hQ124
    have N124 := Fr.app N_ Nc124
    refine q_ifNo X124 hx hby d7_140 ((if0 _ _).trans (feq (show ¬ ((1 : Int32) = (0 : Int32)) from by decide)).1) ?_
    refine q_aload X124 hx hby d7_143 rfl rfl ?_
    refine k_I X124 hx hby hZ hown (wh hw 289 rfl) (wh hw 290 rfl) (wh hw 291 rfl) (wh hw 292 rfl) (wh hw 293 rfl) (wh hw 294 rfl) (wh hw 295 rfl) (wh hw 143 rfl) (W := 0) (own_nextE l Z a0 hw [] r_48 xm (2 : Int32) xt xk (Value.ref x1) ((2 : Int32) + (1 : Int32)) x2 x1 (Value.ref x2) Value.null v1 h_ n0 O_ f_3 (show n0 ≤ r_48 by first | assumption | omega | decide) f_5 f_6 f_4 f_7 f_8 f_9 f_10 f_11 f_13 (show @LT.lt Nat _ xm r_48 by first | assumption | omega | decide) (show @LT.lt Nat _ xt r_48 by first | assumption | omega | decide) (show @LT.lt Nat _ x2 r_48 by first | assumption | omega | decide) f_12 (show (((2 : Int32) + (1 : Int32)) = (2 : Int32) ∧ (Value.ref x2) = Value.null ∧ Value.null = Value.null) ∨ (((2 : Int32) + (1 : Int32)) = (3 : Int32) ∧ Value.null = Value.null) ∨ ((2 : Int32) + (1 : Int32)) = (4 : Int32) from (by first | exact Or.inl ⟨by decide, rfl, rfl⟩ | exact Or.inr (Or.inl ⟨by decide, rfl⟩) | exact Or.inr (Or.inr (by decide)) | assumption))) (wh hw 296 rfl) (wh hw 110 rfl) e124 f_3  hml (argsL := []) (rest := []) own_pd_24 d7_145 (fun _ T125 L125 X125 hQ125 => ?_)
    obtain ⟨h125, e125⟩ : ∃ z, T125.heap = z := ⟨_, rfl⟩
    rw [e125] at hQ125
    obtain ⟨Nc125, Kc125, rfl, c125_0, c125_1, c125_2, c125_3, c125_4⟩ := hQ125
    have N125 := Fr.app N124 Nc125
    have O126 := O_.keep Kc125 (allS (show n0 ≤ r_48 by omega) all0)
    have sz127 : h_.size ≤ h125.size := Kc125.1
    have K128 := Keep.trans K_ Kc125 (allS (Or.inr (show h0.size ≤ r_48 by omega)) all0)
    have f129 := (f_14.keep Kc125)
    obtain ⟨T130, X130, e130, st130⟩ := castY X125 hx hZ hown (wh hw 305 rfl) e125 (Ins.self f129) (g := (mkF m 150 #[vR xa, vR xl, vR xm, vI 0, vR b33, vI 0, vR r_48, vI u0] [.ref v1])) rfl rfl (hb hby d7_150)
    refine gg st130 ?_
    have f131 := (f_15.keep Kc125 (ninS (nE v1 r_48 (by omega)) nin0))
    refine k_V X130 hx hby hZ hown (wh hw 307 rfl) (wh hw 308 rfl) (wh hw 310 rfl) (wh hw 309 rfl) (W := 0) (own_intValue l Z a0 hw [] v1 u1 h125 n0 O126 f131) (wh hw 311 rfl) (wh hw 213 rfl) e130 f129  hml (argsL := []) (rest := []) own_pd_6 d7_153 (fun _ T132 L132 X132 hQ132 => ?_)
    obtain ⟨Nc132, e132, rfl⟩ := hQ132
    have N132 := Fr.app N125 Nc132
    refine q_istore X132 hx hby d7_156 (l' := #[vR xa, vR xl, vR xm, vI 0, vR b33, vI 0, vR r_48, vI u1]) rfl ?_
    refine q_iload X132 hx hby d7_158 rfl ?_
    refine q_iconst X132 hx hby d7_160 ?_
    by_cases hc133 : u1 < (1 : Int32)
    · refine q_icmpYes (pc := 161) X132 hx hby d7_161 (pc' := 167) (tlt hc133).1 (by decide) (by decide) ?_
      refine q_iload X132 hx hby d7_167 rfl ?_
      refine q_ifYes (pc := 169) X132 hx hby d7_169 (pc' := 182) ((if0 _ _).trans (flt (show ¬ ((0 : Int32) < u1) from (own_posF hc133))).2.2.2) (by decide) (by decide) ?_
      refine q_goto (pc := 182) X132 hx hby d7_182 (pc' := 133) (by decide) (by decide) ?_
      show own_Goes p e below (T132.setTop (mkF m 133 #[vR xa, vR xl, vR xm, vI 0, vR b33, vI 0, vR r_48, vI u1] [])) _
      have f134 := (f_0.keep Kc125)
      have f135 := (f_1.keep Kc125 (ninS (nE xa r_48 (by omega)) nin0))
      have f136 := (f_2.keep Kc125 (ninS (nE xa r_48 (by omega)) nin0))
      have f137 := (f_3.keep Kc125)
      have f138 := (f_16.keep Kc125)
      have f139 := (f_17.keep Kc125 (ninS (nE b33 r_48 (by omega)) nin0))
      exact C_2_0 _ _ _ (by have := own_ltI hc133; have := own_i1; omega) ⟨X132, e132, N132, O126, K128, f134, f135, f136, f137, c125_2, f138, f139⟩
    · refine q_icmpNo X132 hx hby d7_161 (flt hc133).1 ?_
      refine gg (fun t k => XS.iinc X132.here hx rfl (hb hby d7_164) rfl (l' := #[vR xa, vR xl, vR xm, vI ((0 : Int32) + (1 : Int32)), vR b33, vI 0, vR r_48, vI u1]) rfl k) ?_
      show own_Goes p e below (T132.setTop (mkF m 167 #[vR xa, vR xl, vR xm, vI ((0 : Int32) + (1 : Int32)), vR b33, vI 0, vR r_48, vI u1] [])) _
      rw [show ((0 : Int32) + (1 : Int32)) = (1 : Int32) from by decide]
      refine q_iload X132 hx hby d7_167 rfl ?_
      refine q_ifNo X132 hx hby d7_169 ((if0 _ _).trans (tlt (show ((0 : Int32) < u1) from (own_posT hc133))).2.2.2) ?_
      refine q_aload X132 hx hby d7_172 rfl rfl ?_
      refine q_iload X132 hx hby d7_174 rfl ?_
      refine q_iload X132 hx hby d7_176 rfl ?_
      have f140 := (f_17.keep Kc125 (ninS (nE b33 r_48 (by omega)) nin0))
      refine q_stI X132 hx hby hZ e132 f140 0 d7_178 (fun T142 h142 X142 e142 W142 V142 => ?_)
      have O143 := O126.wr W142 (show n0 ≤ b33 by omega)
      have sz144 : h142.size = h125.size := Wr.size W142
      have K145 := K128.wr W142 (Or.inr (show h0.size ≤ b33 by omega))
      have N142 := Fr.snoc X142 N132 (show n0 ≤ b33 by omega)
      have V142 : Arv Z h142 b33 k33 .int (2 : Int32) [.int u1, .int 0] (.int 0) := V142
      refine gg (fun t k => XS.iinc X142.here hx rfl (hb hby d7_179) rfl (l' := #[vR xa, vR xl, vR xm, vI 1, vR b33, vI ((0 : Int32) + (1 : Int32)), vR r_48, vI u1]) rfl k) ?_
      show own_Goes p e below (T142.setTop (mkF m 182 #[vR xa, vR xl, vR xm, vI 1, vR b33, vI ((0 : Int32) + (1 : Int32)), vR r_48, vI u1] [])) _
      rw [show ((0 : Int32) + (1 : Int32)) = (1 : Int32) from by decide]
      refine q_goto (pc := 182) X142 hx hby d7_182 (pc' := 133) (by decide) (by decide) ?_
      have f146 := ((f_0.keep Kc125).wr W142)
      have f147 := ((f_1.keep Kc125 (ninS (nE xa r_48 (by omega)) nin0)).other W142 (Or.inl (nE xa b33 (by omega))))
      have f148 := ((f_2.keep Kc125 (ninS (nE xa r_48 (by omega)) nin0)).other W142 (Or.inl (nE xa b33 (by omega))))
      have f149 := ((f_3.keep Kc125).wr W142)
      have f150 := (c125_2.other W142 (Or.inl (nE r_48 b33 (by omega))))
      have f151 := ((f_16.keep Kc125).wr W142)
      exact C_2_1 u1 _ _ _ (by have := own_nltI hc133; have := own_i1; omega) ⟨X142, e142, N142, O143, K145, f146, f147, f148, f149, f150, f151, V142⟩
  have C_1_1 : ∀ (y0 : Int32) (T_ : State) (h_ : Heap) (L_ : List Loc), (y0.toInt = u0.toInt ∧ 1 ≤ u0.toInt) → Stand p l e ({ frames := 4, cells := 6, slots := 10, locals := 79 } : Room) s m #[.ref xa, .ref xl, .ref xm] below meth c T_ L_ 5 8 ∧ T_.heap = h_ ∧ Fr n0 L_ ∧ Old Z n0 h_ ∧ Keep h0 h_ [xa, xm] ∧ Exa Z h_ xa "com/example/dolm/dolm/eval/JudgedRanking" ∧ Fld Z h_ xa "com/example/dolm/dolm/eval/JudgedRanking" "relevantCount" "I" (.int 0) ∧ Fld Z h_ xa "com/example/dolm/dolm/eval/JudgedRanking" "judgedGains" "[I" .null ∧ Exa Z h_ r_48 "java/util/HashMap$ValueIterator" ∧ Fld Z h_ r_48 "java/util/HashMap$HashIterator" "next" "Ljava/util/HashMap$Node;" (.ref x2) ∧ Fld Z h_ r_48 "java/util/HashMap$HashIterator" "this$0" "Ljava/util/HashMap;" (.ref xm) ∧ Fld Z h_ r_48 "java/util/HashMap$HashIterator" "expectedModCount" "I" (.int 2) ∧ Fld Z h_ r_48 "java/util/HashMap$HashIterator" "current" "Ljava/util/HashMap$Node;" (.ref x1) ∧ Fld Z h_ r_48 "java/util/HashMap$HashIterator" "index" "I" (.int ((2 : Int32) + (1 : Int32))) ∧ Fld Z h_ xm "java/util/HashMap" "modCount" "I" (.int 2) ∧ Fld Z h_ xm "java/util/HashMap" "table" "[Ljava/util/HashMap$Node;" (.ref xt) ∧ Arv Z h_ xt xk (.object "java/util/HashMap$Node") (16 : Int32) [.null, .ref x1, .ref x2, .null, .null, .null, .null, .null, .null, .null, .null, .null, .null, .null, .null, .null] .null ∧ Fld Z h_ x2 "java/util/HashMap$Node" "value" "Ljava/lang/Object;" (.ref v1) ∧ Fld Z h_ x2 "java/util/HashMap$Node" "next" "Ljava/util/HashMap$Node;" .null ∧ Exa Z h_ v1 "java/lang/Integer" ∧ Fld Z h_ v1 "java/lang/Integer" "value" "I" (.int u1) ∧ Exa Z h_ b33 "[I" ∧ Arv Z h_ b33 k33 .int (2 : Int32) [.int y0, .int 0] (.int 0) → own_Goes p e below (T_.setTop (mkF m 133 #[vR xa, vR xl, vR xm, vI 1, vR b33, vI 1, vR r_48, vI u0] [])) (own_PostN s (Q_own_jr2 Z xa xl xm xt xk x1 x2 v0 v1 u0 u1 h0 n0) ({ frames := 4, cells := 6, slots := 10, locals := 79 } : Room).cells ({ frames := 4, cells := 6, slots := 10, locals := 79 } : Room).slots) := by
    intro y0 T_ h_ L_ hR ⟨X_, e_, N_, O_, K_, f_0, f_1, f_2, f_3, f_4, f_5, f_6, f_7, f_8, f_9, f_10, f_11, f_12, f_13, f_14, f_15, f_16, f_17⟩
    have lt_0 : @LT.lt Nat _ xa h_.size := f_0.lt
    have lt_3 : @LT.lt Nat _ r_48 h_.size := f_3.lt
    have lt_11 : @LT.lt Nat _ xt h_.size := f_11.lt
    have lt_14 : @LT.lt Nat _ v1 h_.size := f_14.lt
    have lt_16 : @LT.lt Nat _ b33 h_.size := f_16.lt
    have lt_17 : @LT.lt Nat _ b33 h_.size := f_17.lt
    show own_Goes p e below (T_.setTop (mkF m 133 #[vR xa, vR xl, vR xm, vI 1, vR b33, vI 1, vR r_48, vI u0] [])) _
    refine q_aload X_ hx hby d7_133 rfl rfl ?_
    refine k_I X_ hx hby hZ hown (wh hw 136 rfl) (wh hw 137 rfl) (wh hw 138 rfl) (wh hw 139 rfl) (wh hw 140 rfl) (wh hw 141 rfl) (wh hw 142 rfl) (wh hw 143 rfl) (W := 0) (own_hasNext1 l Z a0 hw [] r_48 x2 h_ n0 O_ f_4) (wh hw 144 rfl) (wh hw 119 rfl) e_ f_3  hml (argsL := []) (rest := []) own_pd_4 d7_135 (fun _ T152 L152 X152 hQ152 => ?_)
    obtain ⟨Nc152, e152, rfl⟩ := hQ152
    have N152 := Fr.app N_ Nc152
    refine q_ifNo X152 hx hby d7_140 ((if0 _ _).trans (feq (show ¬ ((1 : Int32) = (0 : Int32)) from by decide)).1) ?_
    refine q_aload X152 hx hby d7_143 rfl rfl ?_
    refine k_I X152 hx hby hZ hown (wh hw 289 rfl) (wh hw 290 rfl) (wh hw 291 rfl) (wh hw 292 rfl) (wh hw 293 rfl) (wh hw 294 rfl) (wh hw 295 rfl) (wh hw 143 rfl) (W := 0) (own_nextE l Z a0 hw [] r_48 xm (2 : Int32) xt xk (Value.ref x1) ((2 : Int32) + (1 : Int32)) x2 x1 (Value.ref x2) Value.null v1 h_ n0 O_ f_3 (show n0 ≤ r_48 by first | assumption | omega | decide) f_5 f_6 f_4 f_7 f_8 f_9 f_10 f_11 f_13 (show @LT.lt Nat _ xm r_48 by first | assumption | omega | decide) (show @LT.lt Nat _ xt r_48 by first | assumption | omega | decide) (show @LT.lt Nat _ x2 r_48 by first | assumption | omega | decide) f_12 (show (((2 : Int32) + (1 : Int32)) = (2 : Int32) ∧ (Value.ref x2) = Value.null ∧ Value.null = Value.null) ∨ (((2 : Int32) + (1 : Int32)) = (3 : Int32) ∧ Value.null = Value.null) ∨ ((2 : Int32) + (1 : Int32)) = (4 : Int32) from (by first | exact Or.inl ⟨by decide, rfl, rfl⟩ | exact Or.inr (Or.inl ⟨by decide, rfl⟩) | exact Or.inr (Or.inr (by decide)) | assumption))) (wh hw 296 rfl) (wh hw 110 rfl) e152 f_3  hml (argsL := []) (rest := []) own_pd_24 d7_145 (fun _ T153 L153 X153 hQ153 => ?_)
    obtain ⟨h153, e153⟩ : ∃ z, T153.heap = z := ⟨_, rfl⟩
    rw [e153] at hQ153
    obtain ⟨Nc153, Kc153, rfl, c153_0, c153_1, c153_2, c153_3, c153_4⟩ := hQ153
    have N153 := Fr.app N152 Nc153
    have O154 := O_.keep Kc153 (allS (show n0 ≤ r_48 by omega) all0)
    have sz155 : h_.size ≤ h153.size := Kc153.1
    have K156 := Keep.trans K_ Kc153 (allS (Or.inr (show h0.size ≤ r_48 by omega)) all0)
    have f157 := (f_14.keep Kc153)
    obtain ⟨T158, X158, e158, st158⟩ := castY X153 hx hZ hown (wh hw 305 rfl) e153 (Ins.self f157) (g := (mkF m 150 #[vR xa, vR xl, vR xm, vI 1, vR b33, vI 1, vR r_48, vI u0] [.ref v1])) rfl rfl (hb hby d7_150)
    refine gg st158 ?_
    have f159 := (f_15.keep Kc153 (ninS (nE v1 r_48 (by omega)) nin0))
    refine k_V X158 hx hby hZ hown (wh hw 307 rfl) (wh hw 308 rfl) (wh hw 310 rfl) (wh hw 309 rfl) (W := 0) (own_intValue l Z a0 hw [] v1 u1 h153 n0 O154 f159) (wh hw 311 rfl) (wh hw 213 rfl) e158 f157  hml (argsL := []) (rest := []) own_pd_6 d7_153 (fun _ T160 L160 X160 hQ160 => ?_)
    obtain ⟨Nc160, e160, rfl⟩ := hQ160
    have N160 := Fr.app N153 Nc160
    refine q_istore X160 hx hby d7_156 (l' := #[vR xa, vR xl, vR xm, vI 1, vR b33, vI 1, vR r_48, vI u1]) rfl ?_
    refine q_iload X160 hx hby d7_158 rfl ?_
    refine q_iconst X160 hx hby d7_160 ?_
    by_cases hc161 : u1 < (1 : Int32)
    · refine q_icmpYes (pc := 161) X160 hx hby d7_161 (pc' := 167) (tlt hc161).1 (by decide) (by decide) ?_
      refine q_iload X160 hx hby d7_167 rfl ?_
      refine q_ifYes (pc := 169) X160 hx hby d7_169 (pc' := 182) ((if0 _ _).trans (flt (show ¬ ((0 : Int32) < u1) from (own_posF hc161))).2.2.2) (by decide) (by decide) ?_
      refine q_goto (pc := 182) X160 hx hby d7_182 (pc' := 133) (by decide) (by decide) ?_
      show own_Goes p e below (T160.setTop (mkF m 133 #[vR xa, vR xl, vR xm, vI 1, vR b33, vI 1, vR r_48, vI u1] [])) _
      have f162 := (f_0.keep Kc153)
      have f163 := (f_1.keep Kc153 (ninS (nE xa r_48 (by omega)) nin0))
      have f164 := (f_2.keep Kc153 (ninS (nE xa r_48 (by omega)) nin0))
      have f165 := (f_3.keep Kc153)
      have f166 := (f_16.keep Kc153)
      have f167 := (f_17.keep Kc153 (ninS (nE b33 r_48 (by omega)) nin0))
      exact C_2_1 y0 _ _ _ (by have := own_ltI hc161; have := own_i1; omega) ⟨X160, e160, N160, O154, K156, f162, f163, f164, f165, c153_2, f166, f167⟩
    · refine q_icmpNo X160 hx hby d7_161 (flt hc161).1 ?_
      refine gg (fun t k => XS.iinc X160.here hx rfl (hb hby d7_164) rfl (l' := #[vR xa, vR xl, vR xm, vI ((1 : Int32) + (1 : Int32)), vR b33, vI 1, vR r_48, vI u1]) rfl k) ?_
      show own_Goes p e below (T160.setTop (mkF m 167 #[vR xa, vR xl, vR xm, vI ((1 : Int32) + (1 : Int32)), vR b33, vI 1, vR r_48, vI u1] [])) _
      rw [show ((1 : Int32) + (1 : Int32)) = (2 : Int32) from by decide]
      refine q_iload X160 hx hby d7_167 rfl ?_
      refine q_ifNo X160 hx hby d7_169 ((if0 _ _).trans (tlt (show ((0 : Int32) < u1) from (own_posT hc161))).2.2.2) ?_
      refine q_aload X160 hx hby d7_172 rfl rfl ?_
      refine q_iload X160 hx hby d7_174 rfl ?_
      refine q_iload X160 hx hby d7_176 rfl ?_
      have f168 := (f_17.keep Kc153 (ninS (nE b33 r_48 (by omega)) nin0))
      refine q_stI X160 hx hby hZ e160 f168 1 d7_178 (fun T170 h170 X170 e170 W170 V170 => ?_)
      have O171 := O154.wr W170 (show n0 ≤ b33 by omega)
      have sz172 : h170.size = h153.size := Wr.size W170
      have K173 := K156.wr W170 (Or.inr (show h0.size ≤ b33 by omega))
      have N170 := Fr.snoc X170 N160 (show n0 ≤ b33 by omega)
      have V170 : Arv Z h170 b33 k33 .int (2 : Int32) [.int y0, .int u1] (.int 0) := V170
      refine gg (fun t k => XS.iinc X170.here hx rfl (hb hby d7_179) rfl (l' := #[vR xa, vR xl, vR xm, vI 2, vR b33, vI ((1 : Int32) + (1 : Int32)), vR r_48, vI u1]) rfl k) ?_
      show own_Goes p e below (T170.setTop (mkF m 182 #[vR xa, vR xl, vR xm, vI 2, vR b33, vI ((1 : Int32) + (1 : Int32)), vR r_48, vI u1] [])) _
      rw [show ((1 : Int32) + (1 : Int32)) = (2 : Int32) from by decide]
      refine q_goto (pc := 182) X170 hx hby d7_182 (pc' := 133) (by decide) (by decide) ?_
      have f174 := ((f_0.keep Kc153).wr W170)
      have f175 := ((f_1.keep Kc153 (ninS (nE xa r_48 (by omega)) nin0)).other W170 (Or.inl (nE xa b33 (by omega))))
      have f176 := ((f_2.keep Kc153 (ninS (nE xa r_48 (by omega)) nin0)).other W170 (Or.inl (nE xa b33 (by omega))))
      have f177 := ((f_3.keep Kc153).wr W170)
      have f178 := (c153_2.other W170 (Or.inl (nE r_48 b33 (by omega))))
      have f179 := ((f_16.keep Kc153).wr W170)
      exact C_2_2 y0 u1 _ _ _ (by have := own_nltI hc161; have := own_i1; omega) ⟨X170, e170, N170, O171, K173, f174, f175, f176, f177, f178, f179, V170⟩
  refine q_aload X48 hx hby d7_133 rfl rfl ?_
  refine k_I X48 hx hby hZ hown (wh hw 136 rfl) (wh hw 137 rfl) (wh hw 138 rfl) (wh hw 139 rfl) (wh hw 140 rfl) (wh hw 141 rfl) (wh hw 142 rfl) (wh hw 143 rfl) (W := 0) (own_hasNext1 l Z a0 hw [] r_48 x1 h48 n0 O49 c48_3) (wh hw 144 rfl) (wh hw 119 rfl) e48 c48_0  hml (argsL := []) (rest := []) own_pd_4 d7_135 (fun _ T180 L180 X180 hQ180 => ?_)
  obtain ⟨Nc180, e180, rfl⟩ := hQ180
  have N180 := Fr.app N48 Nc180
  refine q_ifNo X180 hx hby d7_140 ((if0 _ _).trans (feq (show ¬ ((1 : Int32) = (0 : Int32)) from by decide)).1) ?_
  refine q_aload X180 hx hby d7_143 rfl rfl ?_
  have f181 := (c43_1.keep Kc48 nin0)
  have f182 := (c43_3.keep Kc48 nin0)
  have f183 := (f47.keep Kc48 nin0)
  have f184 := (((((((P22.ext E3).other W9 (Or.inl (nE x1 xa (by omega)))).ext E16).other W22 (Or.inl (nE x1 xa (by omega)))).ext E33).keep Kc43 (ninS (nE x1 xm (by omega)) nin0)).keep Kc48 nin0)
  have f185 := (((((((P21.ext E3).other W9 (Or.inl (nE x1 xa (by omega)))).ext E16).other W22 (Or.inl (nE x1 xa (by omega)))).ext E33).keep Kc43 (ninS (nE x1 xm (by omega)) nin0)).keep Kc48 nin0)
  refine k_I X180 hx hby hZ hown (wh hw 289 rfl) (wh hw 290 rfl) (wh hw 291 rfl) (wh hw 292 rfl) (wh hw 293 rfl) (wh hw 294 rfl) (wh hw 295 rfl) (wh hw 143 rfl) (W := 0) (own_nextF l Z a0 hw [] r_48 xm (2 : Int32) xt xk Value.null (2 : Int32) x1 x1 (Value.ref x2) Value.null x2 v0 h48 n0 O49 c48_0 (show n0 ≤ r_48 by first | assumption | omega | decide) c48_1 c48_2 c48_3 c48_4 c48_5 f181 f182 f183 f184 (show @LT.lt Nat _ xm r_48 by first | assumption | omega | decide) (show @LT.lt Nat _ xt r_48 by first | assumption | omega | decide) (show @LT.lt Nat _ x1 r_48 by first | assumption | omega | decide) f185 (show ¬ (2 : Int32) < 0 ∧ (2 : Int32) < (16 : Int32) ∧ List.getD ([.null, .ref x1, (Value.ref x2), Value.null, .null, .null, .null, .null, .null, .null, .null, .null, .null, .null, .null, .null] : List Value) (2 : Int32).toNatClampNeg .null = .ref x2 from (by first | exact ⟨by decide, by decide, rfl⟩ | assumption))) (wh hw 296 rfl) (wh hw 110 rfl) e180 c48_0  hml (argsL := []) (rest := []) own_pd_24 d7_145 (fun _ T186 L186 X186 hQ186 => ?_)
  obtain ⟨h186, e186⟩ : ∃ z, T186.heap = z := ⟨_, rfl⟩
  rw [e186] at hQ186
  obtain ⟨Nc186, Kc186, rfl, c186_0, c186_1, c186_2, c186_3, c186_4⟩ := hQ186
  have N186 := Fr.app N180 Nc186
  have O187 := O49.keep Kc186 (allS (show n0 ≤ r_48 by omega) all0)
  have sz188 : h48.size ≤ h186.size := Kc186.1
  have K189 := Keep.trans K51 Kc186 (allS (Or.inr (show h0.size ≤ r_48 by omega)) all0)
  have f190 := ((((((((P23.ext E3).wr W9).ext E16).wr W22).ext E33).keep Kc43).keep Kc48).keep Kc186)
  obtain ⟨T191, X191, e191, st191⟩ := castY X186 hx hZ hown (wh hw 305 rfl) e186 (Ins.self f190) (g := (mkF m 150 #[vR xa, vR xl, vR xm, vI 0, vR b33, vI 0, vR r_48, uS] [.ref v0])) rfl rfl (hb hby d7_150)
  refine gg st191 ?_
  have f192 := ((((((((P24.ext E3).other W9 (Or.inl (nE v0 xa (by omega)))).ext E16).other W22 (Or.inl (nE v0 xa (by omega)))).ext E33).keep Kc43 (ninS (nE v0 xm (by omega)) nin0)).keep Kc48 nin0).keep Kc186 (ninS (nE v0 r_48 (by omega)) nin0))
  refine k_V X191 hx hby hZ hown (wh hw 307 rfl) (wh hw 308 rfl) (wh hw 310 rfl) (wh hw 309 rfl) (W := 0) (own_intValue l Z a0 hw [] v0 u0 h186 n0 O187 f192) (wh hw 311 rfl) (wh hw 213 rfl) e191 f190  hml (argsL := []) (rest := []) own_pd_6 d7_153 (fun _ T193 L193 X193 hQ193 => ?_)
  obtain ⟨Nc193, e193, rfl⟩ := hQ193
  have N193 := Fr.app N186 Nc193
  refine q_istore X193 hx hby d7_156 (l' := #[vR xa, vR xl, vR xm, vI 0, vR b33, vI 0, vR r_48, vI u0]) rfl ?_
  refine q_iload X193 hx hby d7_158 rfl ?_
  refine q_iconst X193 hx hby d7_160 ?_
  by_cases hc194 : u0 < (1 : Int32)
  · refine q_icmpYes (pc := 161) X193 hx hby d7_161 (pc' := 167) (tlt hc194).1 (by decide) (by decide) ?_
    refine q_iload X193 hx hby d7_167 rfl ?_
    refine q_ifYes (pc := 169) X193 hx hby d7_169 (pc' := 182) ((if0 _ _).trans (flt (show ¬ ((0 : Int32) < u0) from (own_posF hc194))).2.2.2) (by decide) (by decide) ?_
    show own_Goes p e below (T193.setTop (mkF m 182 #[vR xa, vR xl, vR xm, vI 0, vR b33, vI 0, vR r_48, vI u0] [])) _
    refine q_goto (pc := 182) X193 hx hby d7_182 (pc' := 133) (by decide) (by decide) ?_
    have f195 := (((((f21.wr W22).ext E33).keep Kc43).keep Kc48).keep Kc186)
    have f196 := ((((((((P3.ext E3).other W9 (Or.inr (slot_ne (Or.inr (wh hw 146 rfl)) (Or.inr (wh hw 62 rfl)) (by decide) (t := .int) (t' := (.array .boolean)) (by decide) (by decide)))).ext E16).other W22 (Or.inr (slot_ne (Or.inr (wh hw 146 rfl)) (Or.inr (wh hw 65 rfl)) (by decide) (t := .int) (t' := (.array .int)) (by decide) (by decide)))).ext E33).keep Kc43 (ninS (nE xa xm (by omega)) nin0)).keep Kc48 nin0).keep Kc186 (ninS (nE xa r_48 (by omega)) nin0))
    have f197 := ((((((((P4.ext E3).other W9 (Or.inr (slot_ne (Or.inr (wh hw 161 rfl)) (Or.inr (wh hw 62 rfl)) (by decide) (t := (.array .int)) (t' := (.array .boolean)) (by decide) (by decide)))).ext E16).other W22 (Or.inr (slot_ne (Or.inr (wh hw 161 rfl)) (Or.inr (wh hw 65 rfl)) (by decide) (t := (.array .int)) (t' := (.array .int)) (by decide) (by decide)))).ext E33).keep Kc43 (ninS (nE xa xm (by omega)) nin0)).keep Kc48 nin0).keep Kc186 (ninS (nE xa r_48 (by omega)) nin0))
    have f198 := (c48_0.keep Kc186)
    have f199 := (f181.keep Kc186 (ninS (nE xm r_48 (by omega)) nin0))
    have f200 := (f182.keep Kc186 (ninS (nE xm r_48 (by omega)) nin0))
    have f201 := (f183.keep Kc186 (ninS (nE xt r_48 (by omega)) nin0))
    have f202 := ((((((((P30.ext E3).other W9 (Or.inl (nE x2 xa (by omega)))).ext E16).other W22 (Or.inl (nE x2 xa (by omega)))).ext E33).keep Kc43 (ninS (nE x2 xm (by omega)) nin0)).keep Kc48 nin0).keep Kc186 (ninS (nE x2 r_48 (by omega)) nin0))
    have f203 := ((((((((P31.ext E3).other W9 (Or.inl (nE x2 xa (by omega)))).ext E16).other W22 (Or.inl (nE x2 xa (by omega)))).ext E33).keep Kc43 (ninS (nE x2 xm (by omega)) nin0)).keep Kc48 nin0).keep Kc186 (ninS (nE x2 r_48 (by omega)) nin0))
    have f204 := ((((((((P32.ext E3).wr W9).ext E16).wr W22).ext E33).keep Kc43).keep Kc48).keep Kc186)
    have f205 := ((((((((P33.ext E3).other W9 (Or.inl (nE v1 xa (by omega)))).ext E16).other W22 (Or.inl (nE v1 xa (by omega)))).ext E33).keep Kc43 (ninS (nE v1 xm (by omega)) nin0)).keep Kc48 nin0).keep Kc186 (ninS (nE v1 r_48 (by omega)) nin0))
    have f206 := (((Ex33.keep Kc43).keep Kc48).keep Kc186)
    have f207 := (((V33.keep Kc43 (ninS (nE b33 xm (by omega)) nin0)).keep Kc48 nin0).keep Kc186 (ninS (nE b33 r_48 (by omega)) nin0))
    exact C_1_0 _ _ _ (by have := own_ltI hc194; have := own_i1; omega) ⟨X193, e193, N193, O187, K189, f195, f196, f197, f198, c186_2, c186_0, c186_1, c186_3, c186_4, f199, f200, f201, f202, f203, f204, f205, f206, f207⟩
  · refine q_icmpNo X193 hx hby d7_161 (flt hc194).1 ?_
    refine gg (fun t k => XS.iinc X193.here hx rfl (hb hby d7_164) rfl (l' := #[vR xa, vR xl, vR xm, vI ((0 : Int32) + (1 : Int32)), vR b33, vI 0, vR r_48, vI u0]) rfl k) ?_
    show own_Goes p e below (T193.setTop (mkF m 167 #[vR xa, vR xl, vR xm, vI ((0 : Int32) + (1 : Int32)), vR b33, vI 0, vR r_48, vI u0] [])) _
    rw [show ((0 : Int32) + (1 : Int32)) = (1 : Int32) from by decide]
    refine q_iload X193 hx hby d7_167 rfl ?_
    refine q_ifNo X193 hx hby d7_169 ((if0 _ _).trans (tlt (show ((0 : Int32) < u0) from (own_posT hc194))).2.2.2) ?_
    refine q_aload X193 hx hby d7_172 rfl rfl ?_
    refine q_iload X193 hx hby d7_174 rfl ?_
    refine q_iload X193 hx hby d7_176 rfl ?_
    have f208 := (((V33.keep Kc43 (ninS (nE b33 xm (by omega)) nin0)).keep Kc48 nin0).keep Kc186 (ninS (nE b33 r_48 (by omega)) nin0))
    refine q_stI X193 hx hby hZ e193 f208 0 d7_178 (fun T210 h210 X210 e210 W210 V210 => ?_)
    have O211 := O187.wr W210 (show n0 ≤ b33 by omega)
    have sz212 : h210.size = h186.size := Wr.size W210
    have K213 := K189.wr W210 (Or.inr (show h0.size ≤ b33 by omega))
    have N210 := Fr.snoc X210 N193 (show n0 ≤ b33 by omega)
    have V210 : Arv Z h210 b33 k33 .int (2 : Int32) [.int u0, .int 0] (.int 0) := V210
    refine gg (fun t k => XS.iinc X210.here hx rfl (hb hby d7_179) rfl (l' := #[vR xa, vR xl, vR xm, vI 1, vR b33, vI ((0 : Int32) + (1 : Int32)), vR r_48, vI u0]) rfl k) ?_
    show own_Goes p e below (T210.setTop (mkF m 182 #[vR xa, vR xl, vR xm, vI 1, vR b33, vI ((0 : Int32) + (1 : Int32)), vR r_48, vI u0] [])) _
    rw [show ((0 : Int32) + (1 : Int32)) = (1 : Int32) from by decide]
    refine q_goto (pc := 182) X210 hx hby d7_182 (pc' := 133) (by decide) (by decide) ?_
    have f214 := ((((((f21.wr W22).ext E33).keep Kc43).keep Kc48).keep Kc186).wr W210)
    have f215 := (((((((((P3.ext E3).other W9 (Or.inr (slot_ne (Or.inr (wh hw 146 rfl)) (Or.inr (wh hw 62 rfl)) (by decide) (t := .int) (t' := (.array .boolean)) (by decide) (by decide)))).ext E16).other W22 (Or.inr (slot_ne (Or.inr (wh hw 146 rfl)) (Or.inr (wh hw 65 rfl)) (by decide) (t := .int) (t' := (.array .int)) (by decide) (by decide)))).ext E33).keep Kc43 (ninS (nE xa xm (by omega)) nin0)).keep Kc48 nin0).keep Kc186 (ninS (nE xa r_48 (by omega)) nin0)).other W210 (Or.inl (nE xa b33 (by omega))))
    have f216 := (((((((((P4.ext E3).other W9 (Or.inr (slot_ne (Or.inr (wh hw 161 rfl)) (Or.inr (wh hw 62 rfl)) (by decide) (t := (.array .int)) (t' := (.array .boolean)) (by decide) (by decide)))).ext E16).other W22 (Or.inr (slot_ne (Or.inr (wh hw 161 rfl)) (Or.inr (wh hw 65 rfl)) (by decide) (t := (.array .int)) (t' := (.array .int)) (by decide) (by decide)))).ext E33).keep Kc43 (ninS (nE xa xm (by omega)) nin0)).keep Kc48 nin0).keep Kc186 (ninS (nE xa r_48 (by omega)) nin0)).other W210 (Or.inl (nE xa b33 (by omega))))
    have f217 := ((c48_0.keep Kc186).wr W210)
    have f218 := (c186_2.other W210 (Or.inl (nE r_48 b33 (by omega))))
    have f219 := (c186_0.other W210 (Or.inl (nE r_48 b33 (by omega))))
    have f220 := (c186_1.other W210 (Or.inl (nE r_48 b33 (by omega))))
    have f221 := (c186_3.other W210 (Or.inl (nE r_48 b33 (by omega))))
    have f222 := (c186_4.other W210 (Or.inl (nE r_48 b33 (by omega))))
    have f223 := ((f181.keep Kc186 (ninS (nE xm r_48 (by omega)) nin0)).other W210 (Or.inl (nE xm b33 (by omega))))
    have f224 := ((f182.keep Kc186 (ninS (nE xm r_48 (by omega)) nin0)).other W210 (Or.inl (nE xm b33 (by omega))))
    have f225 := ((f183.keep Kc186 (ninS (nE xt r_48 (by omega)) nin0)).other W210 (nE xt b33 (by omega)))
    have f226 := (((((((((P30.ext E3).other W9 (Or.inl (nE x2 xa (by omega)))).ext E16).other W22 (Or.inl (nE x2 xa (by omega)))).ext E33).keep Kc43 (ninS (nE x2 xm (by omega)) nin0)).keep Kc48 nin0).keep Kc186 (ninS (nE x2 r_48 (by omega)) nin0)).other W210 (Or.inl (nE x2 b33 (by omega))))
    have f227 := (((((((((P31.ext E3).other W9 (Or.inl (nE x2 xa (by omega)))).ext E16).other W22 (Or.inl (nE x2 xa (by omega)))).ext E33).keep Kc43 (ninS (nE x2 xm (by omega)) nin0)).keep Kc48 nin0).keep Kc186 (ninS (nE x2 r_48 (by omega)) nin0)).other W210 (Or.inl (nE x2 b33 (by omega))))
    have f228 := (((((((((P32.ext E3).wr W9).ext E16).wr W22).ext E33).keep Kc43).keep Kc48).keep Kc186).wr W210)
    have f229 := (((((((((P33.ext E3).other W9 (Or.inl (nE v1 xa (by omega)))).ext E16).other W22 (Or.inl (nE v1 xa (by omega)))).ext E33).keep Kc43 (ninS (nE v1 xm (by omega)) nin0)).keep Kc48 nin0).keep Kc186 (ninS (nE v1 r_48 (by omega)) nin0)).other W210 (Or.inl (nE v1 b33 (by omega))))
    have f230 := ((((Ex33.keep Kc43).keep Kc48).keep Kc186).wr W210)
    exact C_1_1 u0 _ _ _ (by have := own_nltI hc194; have := own_i1; omega) ⟨X210, e210, N210, O211, K213, f214, f215, f216, f217, f218, f219, f220, f221, f222, f223, f224, f225, f226, f227, f228, f229, f230, V210⟩
theorem own_ef_own_jr3 (m : MethodId) (xa : Addr) (xl : Addr) (xm : Addr) : entryFrame m #[.ref xa, .ref xl, .ref xm] 8 = mkF m 0 #[vR xa, vR xl, vR xm, uS, uS, uS, uS, uS] [] := by first | (simp [entryFrame, mkF, argsToLocals, Value.category]; done) | rfl
def Q_own_jr3 (Z : State) (xa : Addr) (xl : Addr) (xm : Addr) (xt : Addr) (xk : ClassId) (x1 : Addr) (x2 : Addr) (x3 : Addr) (v0 : Addr) (v1 : Addr) (v2 : Addr) (u0 : Int32) (u1 : Int32) (u2 : Int32) (h0 : Heap) (n0 : Nat) (v : Option Value) (h : Heap) (L : List Loc) : Prop := Fr n0 L ∧ Keep h0 h [xa, xm] ∧ v = none ∧ own_Gains Z h xa (own_max (own_max u0 (0 : Int32)) (own_max (own_max u1 (0 : Int32)) (own_max u2 (0 : Int32)))) (own_max (own_min (own_max u0 (0 : Int32)) (own_max u1 (0 : Int32))) (own_min (own_max (own_max u0 (0 : Int32)) (own_max u1 (0 : Int32))) (own_max u2 (0 : Int32)))) (own_min (own_max u0 (0 : Int32)) (own_min (own_max u1 (0 : Int32)) (own_max u2 (0 : Int32))))
theorem own_jr3 (l : Launch) (Z : State) (a0 : Array Value) (hw : ∀ d ∈ tables_1, d.before a0 Z = true) (ws : List Jvm.Cond) (xa : Addr) (xl : Addr) (xm : Addr) (xt : Addr) (xk : ClassId) (x1 : Addr) (x2 : Addr) (x3 : Addr) (v0 : Addr) (v1 : Addr) (v2 : Addr) (u0 : Int32) (u1 : Int32) (u2 : Int32) (h0 : Heap) (n0 : Nat) (O0 : Old Z n0 h0) (P0 : Exa Z h0 xa "com/example/dolm/dolm/eval/JudgedRanking") (P1 : Fld Z h0 xa "com/example/dolm/dolm/eval/JudgedRanking" "relevant" "[Z" .null) (P2 : Fld Z h0 xa "com/example/dolm/dolm/eval/JudgedRanking" "gains" "[I" .null) (P3 : Fld Z h0 xa "com/example/dolm/dolm/eval/JudgedRanking" "relevantCount" "I" (.int 0)) (P4 : Fld Z h0 xa "com/example/dolm/dolm/eval/JudgedRanking" "judgedGains" "[I" .null) (P5 : n0 ≤ xa) (P6 : n0 ≤ xm) (P7 : Exa Z h0 xl "java/util/ArrayList") (P8 : Fld Z h0 xl "java/util/ArrayList" "size" "I" (.int 0)) (P9 : Exa Z h0 xm "java/util/HashMap") (P10 : Fld Z h0 xm "java/util/HashMap" "size" "I" (.int 3)) (P11 : Fld Z h0 xm "java/util/HashMap" "modCount" "I" (.int 3)) (P12 : Fld Z h0 xm "java/util/HashMap" "threshold" "I" (.int 12)) (P13 : Fld Z h0 xm "java/util/HashMap" "table" "[Ljava/util/HashMap$Node;" (.ref xt)) (P14 : Fld Z h0 xm "java/util/AbstractMap" "values" "Ljava/util/Collection;" .null) (P15 : @LT.lt Nat _ xm xa) (P16 : @LT.lt Nat _ xl xm) (P17 : Arv Z h0 xt xk (.object "java/util/HashMap$Node") (16 : Int32) [.null, .ref x1, .ref x2, .ref x3, .null, .null, .null, .null, .null, .null, .null, .null, .null, .null, .null, .null] .null) (P18 : @LT.lt Nat _ xm xt) (P19 : @LT.lt Nat _ xt xa) (P20 : Exa Z h0 x1 "java/util/HashMap$Node") (P21 : Fld Z h0 x1 "java/util/HashMap$Node" "value" "Ljava/lang/Object;" (.ref v0)) (P22 : Fld Z h0 x1 "java/util/HashMap$Node" "next" "Ljava/util/HashMap$Node;" .null) (P23 : Exa Z h0 v0 "java/lang/Integer") (P24 : Fld Z h0 v0 "java/lang/Integer" "value" "I" (.int u0)) (P25 : @LT.lt Nat _ xt x1) (P26 : @LT.lt Nat _ x1 xa) (P27 : (@LT.lt Nat _ v0 n0 ∨ @LT.lt Nat _ xm v0)) (P28 : @LT.lt Nat _ v0 xa) (P29 : Exa Z h0 x2 "java/util/HashMap$Node") (P30 : Fld Z h0 x2 "java/util/HashMap$Node" "value" "Ljava/lang/Object;" (.ref v1)) (P31 : Fld Z h0 x2 "java/util/HashMap$Node" "next" "Ljava/util/HashMap$Node;" .null) (P32 : Exa Z h0 v1 "java/lang/Integer") (P33 : Fld Z h0 v1 "java/lang/Integer" "value" "I" (.int u1)) (P34 : @LT.lt Nat _ xt x2) (P35 : @LT.lt Nat _ x2 xa) (P36 : (@LT.lt Nat _ v1 n0 ∨ @LT.lt Nat _ xm v1)) (P37 : @LT.lt Nat _ v1 xa) (P38 : Exa Z h0 x3 "java/util/HashMap$Node") (P39 : Fld Z h0 x3 "java/util/HashMap$Node" "value" "Ljava/lang/Object;" (.ref v2)) (P40 : Fld Z h0 x3 "java/util/HashMap$Node" "next" "Ljava/util/HashMap$Node;" .null) (P41 : Exa Z h0 v2 "java/lang/Integer") (P42 : Fld Z h0 v2 "java/lang/Integer" "value" "I" (.int u2)) (P43 : @LT.lt Nat _ xt x3) (P44 : @LT.lt Nat _ x3 xa) (P45 : (@LT.lt Nat _ v2 n0 ∨ @LT.lt Nat _ xm v2)) (P46 : @LT.lt Nat _ v2 xa) : own_Met l Z (⟨"com/example/dolm/dolm/eval/JudgedRanking", "<init>", "(Ljava/util/List;Ljava/util/Map;)V"⟩ : MethodName) prog_9_method_1_code 8 none ws ({ frames := 4, cells := 6, slots := 12, locals := 79 } : Room) #[.ref xa, .ref xl, .ref xm] h0 (Q_own_jr3 Z xa xl xm xt xk x1 x2 x3 v0 v1 v2 u0 u1 u2 h0 n0) := by
  refine own_mk (plainFor_of_name own_pn_com_example_dolm_dolm_eval_JudgedRanking) O0 ?_
  intro p e s m below meth c s₁ hx hby hml hZ hown hnm hlk hret X0 e0 N0 z0 z1
  have K0 : Keep h0 h0 [xa, xm] := Keep.refl _ _
  refine own_cast (own_ef_own_jr3 m xa xl xm) ?_
  show own_Goes p e below (s₁.setTop (mkF m 0 #[vR xa, vR xl, vR xm, uS, uS, uS, uS, uS] [])) _
  have ltP0 : @LT.lt Nat _ xa h0.size := P0.lt
  have ltP7 : @LT.lt Nat _ xl h0.size := P7.lt
  have ltP9 : @LT.lt Nat _ xm h0.size := P9.lt
  have ltP17 : @LT.lt Nat _ xt h0.size := P17.lt
  have ltP20 : @LT.lt Nat _ x1 h0.size := P20.lt
  have ltP23 : @LT.lt Nat _ v0 h0.size := P23.lt
  have ltP29 : @LT.lt Nat _ x2 h0.size := P29.lt
  have ltP32 : @LT.lt Nat _ v1 h0.size := P32.lt
  have ltP38 : @LT.lt Nat _ x3 h0.size := P38.lt
  have ltP41 : @LT.lt Nat _ v2 h0.size := P41.lt
  refine q_aloadN X0 hx hby d7_0 rfl rfl ?_
  obtain ⟨T1, X1, e1, st1⟩ := initO X0 hx hZ hown (wh hw 48 rfl) (wh hw 19 rfl) (wh hw 20 rfl) e0 (g := (mkF m 1 #[vR xa, vR xl, vR xm, uS, uS, uS, uS, uS] [.ref xa])) rfl (by rw [hml]; rfl) rfl (hb hby d7_1) (by decide) (W := 0) (by show 2 * 0 + _ ≤ _; exact Nat.le_of_eq rfl) (by decide)
  refine gg st1 ?_
  refine q_aloadN X1 hx hby d7_4 rfl rfl ?_
  refine q_aloadN X1 hx hby d7_5 rfl rfl ?_
  refine k_I X1 hx hby hZ hown (wh hw 49 rfl) (wh hw 50 rfl) (wh hw 51 rfl) (wh hw 52 rfl) (wh hw 53 rfl) (wh hw 54 rfl) (wh hw 55 rfl) (wh hw 56 rfl) (W := 1) (own_alSize l Z a0 hw [] xl h0 n0 O0 P8) (wh hw 57 rfl) (wh hw 2 rfl) e1 P7  hml (argsL := []) (rest := [.ref xa]) own_pd_6 d7_6 (fun _ T2 L2 X2 hQ2 => ?_)
  obtain ⟨Nc2, e2, rfl⟩ := hQ2
  have N2 := Fr.app N0 Nc2
  obtain ⟨T3, h3, k3, X3, e3, E3, A3, st3⟩ := newP X2 hx hZ (wh hw 60 rfl) e2 (g := (mkF m 11 #[vR xa, vR xl, vR xm, uS, uS, uS, uS, uS] [.int 0, .ref xa])) rfl (hb hby d7_11) rfl (by decide) (cap := 0) (by decide) (by decide) (by decide) (by decide)
  obtain ⟨b3, g3⟩ : ∃ z, z = h0.size := ⟨_, rfl⟩
  rw [← g3] at A3 st3
  refine gg st3 ?_
  have O4 := O0.ext E3
  have sz5 : h0.size ≤ h3.size := E3.1
  have K6 := K0.ext E3
  have l3 : @LT.lt Nat _ b3 h3.size := A3.lt
  have V3 : Arv Z h3 b3 k3 .boolean (0 : Int32) [] (.int 0) := (Arv.new A3 (by decide)).pad (pad_rep [] (.int 0) 0)
  have f7 := (P1.ext E3)
  have f8 := (P0.ext E3)
  refine qP X3 hx hby hZ hown (host := "") (Or.inl (wh hw 61 rfl)) Via.refl e3 f7 f8 (Or.inr ⟨(wh hw 62 rfl), rfl, hnm⟩) (wh hw 43 rfl) (ty := (.array .boolean)) d7_13 (fun T9 h9 X9 e9 W9 => ?_)
  have O10 := O4.wr W9 (show n0 ≤ xa by omega)
  have sz11 : h9.size = h3.size := Wr.size W9
  have K12 := K6.wr W9 (Or.inl (List.mem_of_getElem? (i := 0) rfl))
  have N9 := Fr.snoc X9 N2 (show n0 ≤ xa by omega)
  have Fw9 := f7.same W9
  refine q_aloadN X9 hx hby d7_16 rfl rfl ?_
  refine q_aloadN X9 hx hby d7_17 rfl rfl ?_
  have f13 := ((P8.ext E3).other W9 (Or.inl (nE xl xa (by omega))))
  have f14 := ((P7.ext E3).wr W9)
  refine k_I X9 hx hby hZ hown (wh hw 49 rfl) (wh hw 50 rfl) (wh hw 51 rfl) (wh hw 52 rfl) (wh hw 53 rfl) (wh hw 54 rfl) (wh hw 55 rfl) (wh hw 56 rfl) (W := 1) (own_alSize l Z a0 hw [] xl h9 n0 O10 f13) (wh hw 57 rfl) (wh hw 2 rfl) e9 f14  hml (argsL := []) (rest := [.ref xa]) own_pd_6 d7_18 (fun _ T15 L15 X15 hQ15 => ?_)
  obtain ⟨Nc15, e15, rfl⟩ := hQ15
  have N15 := Fr.app N9 Nc15
  obtain ⟨T16, h16, k16, X16, e16, E16, A16, Ex16, st16⟩ := newPE X15 hx hZ (wh hw 63 rfl) e15 (g := (mkF m 23 #[vR xa, vR xl, vR xm, uS, uS, uS, uS, uS] [.int 0, .ref xa])) rfl (hb hby d7_23) rfl (by decide) (cap := 0) (by decide) (by decide) (by decide) (by decide) (ad := "[I") (by decide)
  obtain ⟨b16, g16⟩ : ∃ z, z = h9.size := ⟨_, rfl⟩
  rw [← g16] at A16 st16 Ex16
  refine gg st16 ?_
  have O17 := O10.ext E16
  have sz18 : h9.size ≤ h16.size := E16.1
  have K19 := K12.ext E16
  have l16 : @LT.lt Nat _ b16 h16.size := A16.lt
  have V16 : Arv Z h16 b16 k16 .int (0 : Int32) [] (.int 0) := (Arv.new A16 (by decide)).pad (pad_rep [] (.int 0) 0)
  have f20 := (((P2.ext E3).other W9 (Or.inr (slot_ne (Or.inr (wh hw 65 rfl)) (Or.inr (wh hw 62 rfl)) (by decide) (t := (.array .int)) (t' := (.array .boolean)) (by decide) (by decide)))).ext E16)
  have f21 := ((f8.wr W9).ext E16)
  refine qP X16 hx hby hZ hown (host := "") (Or.inl (wh hw 64 rfl)) Via.refl e16 f20 f21 (Or.inr ⟨(wh hw 65 rfl), rfl, hnm⟩) (wh hw 43 rfl) (ty := (.array .int)) d7_25 (fun T22 h22 X22 e22 W22 => ?_)
  have O23 := O17.wr W22 (show n0 ≤ xa by omega)
  have sz24 : h22.size = h16.size := Wr.size W22
  have K25 := K19.wr W22 (Or.inl (List.mem_of_getElem? (i := 0) rfl))
  have N22 := Fr.snoc X22 N15 (show n0 ≤ xa by omega)
  have Fw22 := f20.same W22
  refine q_iconst X22 hx hby d7_28 ?_
  refine q_istoreN X22 hx hby d7_29 (l' := #[vR xa, vR xl, vR xm, vI 0, uS, uS, uS, uS]) rfl ?_
  show own_Goes p e below (T22.setTop (mkF m 30 #[vR xa, vR xl, vR xm, vI 0, uS, uS, uS, uS] [])) _
  refine q_iloadN X22 hx hby d7_30 rfl ?_
  refine q_aloadN X22 hx hby d7_31 rfl rfl ?_
  have f26 := ((Fw9.ext E16).other W22 (Or.inr (slot_ne (Or.inr (wh hw 62 rfl)) (Or.inr (wh hw 65 rfl)) (by decide) (t := (.array .boolean)) (t' := (.array .int)) (by decide) (by decide))))
  refine qG X22 hx hby hZ hown (wh hw 61 rfl) e22 f26 d7_32 (fun T27 X27 e27 => ?_)
  have f28 := (((V3.other W9 (nE b3 xa (by omega))).ext E16).other W22 (nE b3 xa (by omega)))
  refine q_len X27 hx hby hZ e27 f28 d7_35 ?_
  refine q_icmpYes (pc := 36) X27 hx hby d7_36 (pc' := 105) (flt (show ¬ ((0 : Int32) < (0 : Int32)) from by decide)).2.1 (by decide) (by decide) ?_
  refine q_iconst X27 hx hby d7_105 ?_
  refine q_istoreN X27 hx hby d7_106 (l' := #[vR xa, vR xl, vR xm, vI 0, uS, uS, uS, uS]) rfl ?_
  refine q_aloadN X27 hx hby d7_107 rfl rfl ?_
  have f30 := ((((P10.ext E3).other W9 (Or.inl (nE xm xa (by omega)))).ext E16).other W22 (Or.inl (nE xm xa (by omega))))
  have f31 := ((((P9.ext E3).wr W9).ext E16).wr W22)
  refine k_I X27 hx hby hZ hown (wh hw 66 rfl) (wh hw 67 rfl) (wh hw 68 rfl) (wh hw 69 rfl) (wh hw 70 rfl) (wh hw 71 rfl) (wh hw 72 rfl) (wh hw 73 rfl) (W := 0) (own_hmSize l Z a0 hw [] xm (3 : Int32) h22 n0 O23 f30) (wh hw 74 rfl) (wh hw 28 rfl) e27 f31  hml (argsL := []) (rest := []) own_pd_6 d7_108 (fun _ T32 L32 X32 hQ32 => ?_)
  obtain ⟨Nc32, e32, rfl⟩ := hQ32
  have N32 := Fr.app N22 Nc32
  obtain ⟨T33, h33, k33, X33, e33, E33, A33, Ex33, st33⟩ := newPE X32 hx hZ (wh hw 63 rfl) e32 (g := (mkF m 113 #[vR xa, vR xl, vR xm, vI 0, uS, uS, uS, uS] [.int 3])) rfl (hb hby d7_113) rfl (by decide) (cap := 3) (by decide) (by decide) (by decide) (by decide) (ad := "[I") (by decide)
  obtain ⟨b33, g33⟩ : ∃ z, z = h22.size := ⟨_, rfl⟩
  rw [← g33] at A33 st33 Ex33
  refine gg st33 ?_
  have O34 := O23.ext E33
  have sz35 : h22.size ≤ h33.size := E33.1
  have K36 := K25.ext E33
  have l33 : @LT.lt Nat _ b33 h33.size := A33.lt
  have V33 : Arv Z h33 b33 k33 .int (3 : Int32) [.int 0, .int 0, .int 0] (.int 0) := (Arv.new A33 (by decide)).pad (pad_rep [] (.int 0) 3)
  refine q_astore X33 hx hby d7_115 rfl (l' := #[vR xa, vR xl, vR xm, vI 0, vR b33, uS, uS, uS]) rfl ?_
  refine q_iconst X33 hx hby d7_117 ?_
  refine q_istore X33 hx hby d7_118 (l' := #[vR xa, vR xl, vR xm, vI 0, vR b33, vI 0, uS, uS]) rfl ?_
  refine q_aloadN X33 hx hby d7_120 rfl rfl ?_
  show own_Goes p e below (T33.setTop (mkF m 121 #[vR xa, vR xl, vR xm, vI 0, vR b33, vI 0, uS, uS] [.ref xm])) _
  have f37 := (f31.ext E33)
  have f38 := (f30.ext E33)
  have f39 := (((((P11.ext E3).other W9 (Or.inl (nE xm xa (by omega)))).ext E16).other W22 (Or.inl (nE xm xa (by omega)))).ext E33)
  have f40 := (((((P12.ext E3).other W9 (Or.inl (nE xm xa (by omega)))).ext E16).other W22 (Or.inl (nE xm xa (by omega)))).ext E33)
  have f41 := (((((P13.ext E3).other W9 (Or.inl (nE xm xa (by omega)))).ext E16).other W22 (Or.inl (nE xm xa (by omega)))).ext E33)
  have f42 := (((((P14.ext E3).other W9 (Or.inl (nE xm xa (by omega)))).ext E16).other W22 (Or.inl (nE xm xa (by omega)))).ext E33)
  refine k_I X33 hx hby hZ hown (wh hw 77 rfl) (wh hw 78 rfl) (wh hw 79 rfl) (wh hw 80 rfl) (wh hw 81 rfl) (wh hw 82 rfl) (wh hw 83 rfl) (wh hw 73 rfl) (W := 0) (own_values l Z a0 hw [] xm (3 : Int32) (3 : Int32) (12 : Int32) (Value.ref xt) h33 n0 O34 f37 (show n0 ≤ xm by first | assumption | omega | decide) f38 f39 f40 f41 f42) (wh hw 84 rfl) (wh hw 28 rfl) e33 f37  hml (argsL := []) (rest := []) own_pd_20 d7_121 (fun _ T43 L43 X43 hQ43 => ?_)
  obtain ⟨h43, e43⟩ : ∃ z, T43.heap = z := ⟨_, rfl⟩
  rw [e43] at hQ43
  obtain ⟨Nc43, Kc43, r_43, rfl, c43_0, c43_1, c43_2, c43_3, c43_4, c43_5, c43_6, c43_7⟩ := hQ43
  have N43 := Fr.app N32 Nc43
  have O44 := O34.keep Kc43 (allS (show n0 ≤ xm by omega) all0)
  have sz45 : h33.size ≤ h43.size := Kc43.1
  have K46 := Keep.trans K36 Kc43 (allS (Or.inl (List.mem_of_getElem? (i := 1) rfl)) all0)
  have ltc43_5 : @LT.lt Nat _ r_43 h43.size := c43_5.lt
  have f47 := ((((((P17.ext E3).other W9 (nE xt xa (by omega))).ext E16).other W22 (nE xt xa (by omega))).ext E33).keep Kc43 (ninS (nE xt xm (by omega)) nin0))
  refine k_I X43 hx hby hZ hown (wh hw 99 rfl) (wh hw 100 rfl) (wh hw 101 rfl) (wh hw 102 rfl) (wh hw 103 rfl) (wh hw 104 rfl) (wh hw 105 rfl) (wh hw 106 rfl) (W := 0) (own_iter1 l Z a0 hw [] r_43 xm (3 : Int32) (3 : Int32) xt xk x1 (Value.ref x2) (Value.ref x3) h43 n0 O44 c43_6 c43_0 c43_1 c43_3 f47 (show (0 : Int32) < (3 : Int32) by first | assumption | omega | decide) (show @LT.lt Nat _ xm h43.size by first | assumption | omega | decide) (show @LT.lt Nat _ xt h43.size by first | assumption | omega | decide)) (wh hw 107 rfl) (wh hw 90 rfl) e43 c43_5  hml (argsL := []) (rest := []) own_pd_21 d7_126 (fun _ T48 L48 X48 hQ48 => ?_)
  obtain ⟨h48, e48⟩ : ∃ z, T48.heap = z := ⟨_, rfl⟩
  rw [e48] at hQ48
  obtain ⟨Nc48, Kc48, r_48, rfl, c48_0, c48_1, c48_2, c48_3, c48_4, c48_5, c48_6⟩ := hQ48
  have N48 := Fr.app N43 Nc48
  have O49 := O44.keep Kc48 all0
  have sz50 : h43.size ≤ h48.size := Kc48.1
  have K51 := Keep.trans K46 Kc48 all0
  have ltc48_0 : @LT.lt Nat _ r_48 h48.size := c48_0.lt
  refine q_astore X48 hx hby d7_131 rfl (l' := #[vR xa, vR xl, vR xm, vI 0, vR b33, vI 0, vR r_48, uS]) rfl ?_
  have C_3_0 : ∀ (T_ : State) (h_ : Heap) (L_ : List Loc), (u0.toInt ≤ 0 ∧ u1.toInt ≤ 0 ∧ u2.toInt ≤ 0) → Stand p l e ({ frames := 4, cells := 6, slots := 12, locals := 79 } : Room) s m #[.ref xa, .ref xl, .ref xm] below meth c T_ L_ 5 9 ∧ T_.heap = h_ ∧ Fr n0 L_ ∧ Old Z n0 h_ ∧ Keep h0 h_ [xa, xm] ∧ Exa Z h_ xa "com/example/dolm/dolm/eval/JudgedRanking" ∧ Fld Z h_ xa "com/example/dolm/dolm/eval/JudgedRanking" "relevantCount" "I" (.int 0) ∧ Fld Z h_ xa "com/example/dolm/dolm/eval/JudgedRanking" "judgedGains" "[I" .null ∧ Exa Z h_ r_48 "java/util/HashMap$ValueIterator" ∧ Fld Z h_ r_48 "java/util/HashMap$HashIterator" "next" "Ljava/util/HashMap$Node;" .null ∧ Exa Z h_ b33 "[I" ∧ Arv Z h_ b33 k33 .int (3 : Int32) [.int 0, .int 0, .int 0] (.int 0) → own_Goes p e below (T_.setTop (mkF m 133 #[vR xa, vR xl, vR xm, vI 0, vR b33, vI 0, vR r_48, vI u2] [])) (own_PostN s (Q_own_jr3 Z xa xl xm xt xk x1 x2 x3 v0 v1 v2 u0 u1 u2 h0 n0) ({ frames := 4, cells := 6, slots := 12, locals := 79 } : Room).cells ({ frames := 4, cells := 6, slots := 12, locals := 79 } : Room).slots) := by
    intro T_ h_ L_ hR ⟨X_, e_, N_, O_, K_, f_0, f_1, f_2, f_3, f_4, f_5, f_6⟩
    have lt_0 : @LT.lt Nat _ xa h_.size := f_0.lt
    have lt_3 : @LT.lt Nat _ r_48 h_.size := f_3.lt
    have lt_5 : @LT.lt Nat _ b33 h_.size := f_5.lt
    have lt_6 : @LT.lt Nat _ b33 h_.size := f_6.lt
    show own_Goes p e below (T_.setTop (mkF m 133 #[vR xa, vR xl, vR xm, vI 0, vR b33, vI 0, vR r_48, vI u2] [])) _
    refine q_aload X_ hx hby d7_133 rfl rfl ?_
    refine k_I X_ hx hby hZ hown (wh hw 136 rfl) (wh hw 137 rfl) (wh hw 138 rfl) (wh hw 139 rfl) (wh hw 140 rfl) (wh hw 141 rfl) (wh hw 142 rfl) (wh hw 143 rfl) (W := 0) (own_hasNext0 l Z a0 hw [] r_48 h_ n0 O_ f_4) (wh hw 144 rfl) (wh hw 119 rfl) e_ f_3  hml (argsL := []) (rest := []) own_pd_4 d7_135 (fun _ T52 L52 X52 hQ52 => ?_)
    obtain ⟨Nc52, e52, rfl⟩ := hQ52
    have N52 := Fr.app N_ Nc52
    refine q_ifYes (pc := 140) X52 hx hby d7_140 (pc' := 185) ((if0 _ _).trans (teq (show ((0 : Int32) = (0 : Int32)) from by decide)).1) (by decide) (by decide) ?_
    refine q_aloadN X52 hx hby d7_185 rfl rfl ?_
    refine q_iloadN X52 hx hby d7_186 rfl ?_
    refine qP X52 hx hby hZ hown (host := "") (Or.inl (wh hw 145 rfl)) Via.refl e52 f_1 f_0 (Or.inr ⟨(wh hw 146 rfl), rfl, hnm⟩) (wh hw 43 rfl) (ty := .int) d7_187 (fun T53 h53 X53 e53 W53 => ?_)
    have O54 := O_.wr W53 (show n0 ≤ xa by omega)
    have sz55 : h53.size = h_.size := Wr.size W53
    have K56 := K_.wr W53 (Or.inl (List.mem_of_getElem? (i := 0) rfl))
    have N53 := Fr.snoc X53 N52 (show n0 ≤ xa by omega)
    have Fw53 := f_1.same W53
    refine q_aloadN X53 hx hby d7_190 rfl rfl ?_
    refine q_aload X53 hx hby d7_191 rfl rfl ?_
    refine q_iload X53 hx hby d7_193 rfl ?_
    have f57 := (f_6.other W53 (nE b33 xa (by omega)))
    have V58 : Arv Z h53 b33 k33 .int (3 : Int32) [] (.int 0) := f57.pad (fun i => (pad_rep [] (.int 0) 3 i).symm)
    refine k_S X53 hx hby hZ hown (wh hw 147 rfl) (wh hw 148 rfl) (W := 1) (own_copyS0 l Z a0 hw [] b33 k33 (3 : Int32) h53 n0 O54 V58 (show ¬ (0 : Int32) = (3 : Int32) by first | assumption | omega | decide) (show (0 : Int32) < (3 : Int32) by first | assumption | omega | decide)) (wh hw 150 rfl) (wh hw 149 rfl) e53  hml (argsL := [.ref b33, .int 0]) (rest := [.ref xa]) own_pd_22 d7_195 (fun _ T59 L59 X59 hQ59 => ?_)
    obtain ⟨h59, e59⟩ : ∃ z, T59.heap = z := ⟨_, rfl⟩
    rw [e59] at hQ59
    obtain ⟨Nc59, Kc59, r_59, rk_59, rfl, c59_0, c59_1⟩ := hQ59
    have N59 := Fr.app N53 Nc59
    have O60 := O54.keep Kc59 all0
    have sz61 : h53.size ≤ h59.size := Kc59.1
    have K62 := Keep.trans K56 Kc59 all0
    have ltc59_0 : @LT.lt Nat _ r_59 h59.size := c59_0.lt
    have f63 := ((f_2.other W53 (Or.inr (slot_ne (Or.inr (wh hw 161 rfl)) (Or.inr (wh hw 146 rfl)) (by decide) (t := (.array .int)) (t' := .int) (by decide) (by decide)))).keep Kc59 nin0)
    have f64 := ((f_0.wr W53).keep Kc59)
    refine qP X59 hx hby hZ hown (host := "") (Or.inl (wh hw 160 rfl)) Via.refl e59 f63 f64 (Or.inr ⟨(wh hw 161 rfl), rfl, hnm⟩) (wh hw 43 rfl) (ty := (.array .int)) d7_198 (fun T65 h65 X65 e65 W65 => ?_)
    have O66 := O60.wr W65 (show n0 ≤ xa by omega)
    have sz67 : h65.size = h59.size := Wr.size W65
    have K68 := K62.wr W65 (Or.inl (List.mem_of_getElem? (i := 0) rfl))
    have N65 := Fr.snoc X65 N59 (show n0 ≤ xa by omega)
    have Fw65 := f63.same W65
    refine q_aloadN X65 hx hby d7_201 rfl rfl ?_
    refine qG X65 hx hby hZ hown (wh hw 160 rfl) e65 Fw65 d7_202 (fun T69 X69 e69 => ?_)
    have f70 := (c59_0.other W65 (nE r_59 xa (by omega)))
    refine k_S X69 hx hby hZ hown (wh hw 162 rfl) (wh hw 163 rfl) (W := 0) (own_sort0 l Z a0 hw [] r_59 rk_59 h65 n0 O66 f70 (show n0 ≤ r_59 by first | assumption | omega | decide)) (wh hw 164 rfl) (wh hw 149 rfl) e69  hml (argsL := [.ref r_59]) (rest := []) own_pd_23 d7_205 (fun _ T71 L71 X71 hQ71 => ?_)
    obtain ⟨h71, e71⟩ : ∃ z, T71.heap = z := ⟨_, rfl⟩
    rw [e71] at hQ71
    obtain ⟨Nc71, Kc71, rfl, c71_0⟩ := hQ71
    have N71 := Fr.app N65 Nc71
    have O72 := O66.keep Kc71 (allS (show n0 ≤ r_59 by omega) all0)
    have sz73 : h65.size ≤ h71.size := Kc71.1
    have K74 := Keep.trans K68 Kc71 (allS (Or.inr (show h0.size ≤ r_59 by omega)) all0)
    have ltc71_0 : @LT.lt Nat _ r_59 h71.size := c71_0.lt
    show own_Goes p e below (T71.setTop (mkF m 208 #[vR xa, vR xl, vR xm, vI 0, vR b33, vI 0, vR r_48, vI u2] [])) _
    refine r_V X71 hx hby hret hlk d7_208 e71 ?_
    have f75 := (Fw65.keep Kc71 (ninS (nE xa r_59 (by omega)) nin0))
    have GA : own_Gains Z h71 xa (own_max (own_max u0 (0 : Int32)) (own_max (own_max u1 (0 : Int32)) (own_max u2 (0 : Int32)))) (own_max (own_min (own_max u0 (0 : Int32)) (own_max u1 (0 : Int32))) (own_min (own_max (own_max u0 (0 : Int32)) (own_max u1 (0 : Int32))) (own_max u2 (0 : Int32)))) (own_min (own_max u0 (0 : Int32)) (own_min (own_max u1 (0 : Int32)) (own_max u2 (0 : Int32)))) := ⟨r_59, rk_59, f75, (Or.inl ⟨c71_0, own_eqI (by simp only [own_maxI, own_minI, own_i0]; omega), own_eqI (by simp only [own_maxI, own_minI, own_i0]; omega), own_eqI (by simp only [own_maxI, own_minI, own_i0]; omega)⟩)⟩
    exact ⟨N71, K74, rfl, GA⟩
  have C_3_1 : ∀ (y0 : Int32) (T_ : State) (h_ : Heap) (L_ : List Loc), (y0.toInt = u0.toInt ∧ 1 ≤ u0.toInt ∧ u1.toInt ≤ 0 ∧ u2.toInt ≤ 0) ∨ (y0.toInt = u1.toInt ∧ 1 ≤ u1.toInt ∧ u0.toInt ≤ 0 ∧ u2.toInt ≤ 0) ∨ (y0.toInt = u2.toInt ∧ 1 ≤ u2.toInt ∧ u0.toInt ≤ 0 ∧ u1.toInt ≤ 0) → Stand p l e ({ frames := 4, cells := 6, slots := 12, locals := 79 } : Room) s m #[.ref xa, .ref xl, .ref xm] below meth c T_ L_ 5 9 ∧ T_.heap = h_ ∧ Fr n0 L_ ∧ Old Z n0 h_ ∧ Keep h0 h_ [xa, xm] ∧ Exa Z h_ xa "com/example/dolm/dolm/eval/JudgedRanking" ∧ Fld Z h_ xa "com/example/dolm/dolm/eval/JudgedRanking" "relevantCount" "I" (.int 0) ∧ Fld Z h_ xa "com/example/dolm/dolm/eval/JudgedRanking" "judgedGains" "[I" .null ∧ Exa Z h_ r_48 "java/util/HashMap$ValueIterator" ∧ Fld Z h_ r_48 "java/util/HashMap$HashIterator" "next" "Ljava/util/HashMap$Node;" .null ∧ Exa Z h_ b33 "[I" ∧ Arv Z h_ b33 k33 .int (3 : Int32) [.int y0, .int 0, .int 0] (.int 0) → own_Goes p e below (T_.setTop (mkF m 133 #[vR xa, vR xl, vR xm, vI 1, vR b33, vI 1, vR r_48, vI u2] [])) (own_PostN s (Q_own_jr3 Z xa xl xm xt xk x1 x2 x3 v0 v1 v2 u0 u1 u2 h0 n0) ({ frames := 4, cells := 6, slots := 12, locals := 79 } : Room).cells ({ frames := 4, cells := 6, slots := 12, locals := 79 } : Room).slots) := by
    intro y0 T_ h_ L_ hR ⟨X_, e_, N_, O_, K_, f_0, f_1, f_2, f_3, f_4, f_5, f_6⟩
    have lt_0 : @LT.lt Nat _ xa h_.size := f_0.lt
    have lt_3 : @LT.lt Nat _ r_48 h_.size := f_3.lt
    have lt_5 : @LT.lt Nat _ b33 h_.size := f_5.lt
    have lt_6 : @LT.lt Nat _ b33 h_.size := f_6.lt
    show own_Goes p e below (T_.setTop (mkF m 133 #[vR xa, vR xl, vR xm, vI 1, vR b33, vI 1, vR r_48, vI u2] [])) _
    refine q_aload X_ hx hby d7_133 rfl rfl ?_
    refine k_I X_ hx hby hZ hown (wh hw 136 rfl) (wh hw 137 rfl) (wh hw 138 rfl) (wh hw 139 rfl) (wh hw 140 rfl) (wh hw 141 rfl) (wh hw 142 rfl) (wh hw 143 rfl) (W := 0) (own_hasNext0 l Z a0 hw [] r_48 h_ n0 O_ f_4) (wh hw 144 rfl) (wh hw 119 rfl) e_ f_3  hml (argsL := []) (rest := []) own_pd_4 d7_135 (fun _ T76 L76 X76 hQ76 => ?_)
    obtain ⟨Nc76, e76, rfl⟩ := hQ76
    have N76 := Fr.app N_ Nc76
    refine q_ifYes (pc := 140) X76 hx hby d7_140 (pc' := 185) ((if0 _ _).trans (teq (show ((0 : Int32) = (0 : Int32)) from by decide)).1) (by decide) (by decide) ?_
    refine q_aloadN X76 hx hby d7_185 rfl rfl ?_
    refine q_iloadN X76 hx hby d7_186 rfl ?_
    refine qP X76 hx hby hZ hown (host := "") (Or.inl (wh hw 145 rfl)) Via.refl e76 f_1 f_0 (Or.inr ⟨(wh hw 146 rfl), rfl, hnm⟩) (wh hw 43 rfl) (ty := .int) d7_187 (fun T77 h77 X77 e77 W77 => ?_)
    have O78 := O_.wr W77 (show n0 ≤ xa by omega)
    have sz79 : h77.size = h_.size := Wr.size W77
    have K80 := K_.wr W77 (Or.inl (List.mem_of_getElem? (i := 0) rfl))
    have N77 := Fr.snoc X77 N76 (show n0 ≤ xa by omega)
    have Fw77 := f_1.same W77
    refine q_aloadN X77 hx hby d7_190 rfl rfl ?_
    refine q_aload X77 hx hby d7_191 rfl rfl ?_
    refine q_iload X77 hx hby d7_193 rfl ?_
    have f81 := (f_6.other W77 (nE b33 xa (by omega)))
    have V82 : Arv Z h77 b33 k33 .int (3 : Int32) [.int y0] (.int 0) := f81.pad (fun i => (pad_rep [.int y0] (.int 0) 2 i).symm)
    refine k_S X77 hx hby hZ hown (wh hw 147 rfl) (wh hw 148 rfl) (W := 1) (own_copyS1 l Z a0 hw [] b33 k33 (3 : Int32) y0 h77 n0 O78 V82 (show ¬ (1 : Int32) = (3 : Int32) by first | assumption | omega | decide) (show (1 : Int32) < (3 : Int32) by first | assumption | omega | decide)) (wh hw 150 rfl) (wh hw 149 rfl) e77  hml (argsL := [.ref b33, .int 1]) (rest := [.ref xa]) own_pd_22 d7_195 (fun _ T83 L83 X83 hQ83 => ?_)
    obtain ⟨h83, e83⟩ : ∃ z, T83.heap = z := ⟨_, rfl⟩
    rw [e83] at hQ83
    obtain ⟨Nc83, Kc83, r_83, rk_83, rfl, c83_0, c83_1⟩ := hQ83
    have N83 := Fr.app N77 Nc83
    have O84 := O78.keep Kc83 all0
    have sz85 : h77.size ≤ h83.size := Kc83.1
    have K86 := Keep.trans K80 Kc83 all0
    have ltc83_0 : @LT.lt Nat _ r_83 h83.size := c83_0.lt
    have f87 := ((f_2.other W77 (Or.inr (slot_ne (Or.inr (wh hw 161 rfl)) (Or.inr (wh hw 146 rfl)) (by decide) (t := (.array .int)) (t' := .int) (by decide) (by decide)))).keep Kc83 nin0)
    have f88 := ((f_0.wr W77).keep Kc83)
    refine qP X83 hx hby hZ hown (host := "") (Or.inl (wh hw 160 rfl)) Via.refl e83 f87 f88 (Or.inr ⟨(wh hw 161 rfl), rfl, hnm⟩) (wh hw 43 rfl) (ty := (.array .int)) d7_198 (fun T89 h89 X89 e89 W89 => ?_)
    have O90 := O84.wr W89 (show n0 ≤ xa by omega)
    have sz91 : h89.size = h83.size := Wr.size W89
    have K92 := K86.wr W89 (Or.inl (List.mem_of_getElem? (i := 0) rfl))
    have N89 := Fr.snoc X89 N83 (show n0 ≤ xa by omega)
    have Fw89 := f87.same W89
    refine q_aloadN X89 hx hby d7_201 rfl rfl ?_
    refine qG X89 hx hby hZ hown (wh hw 160 rfl) e89 Fw89 d7_202 (fun T93 X93 e93 => ?_)
    have f94 := (c83_0.other W89 (nE r_83 xa (by omega)))
    refine k_S X93 hx hby hZ hown (wh hw 162 rfl) (wh hw 163 rfl) (W := 0) (own_sort1 l Z a0 hw [] r_83 rk_83 y0 h89 n0 O90 f94 (show n0 ≤ r_83 by first | assumption | omega | decide)) (wh hw 164 rfl) (wh hw 149 rfl) e93  hml (argsL := [.ref r_83]) (rest := []) own_pd_23 d7_205 (fun _ T95 L95 X95 hQ95 => ?_)
    obtain ⟨h95, e95⟩ : ∃ z, T95.heap = z := ⟨_, rfl⟩
    rw [e95] at hQ95
    obtain ⟨Nc95, Kc95, rfl, c95_0⟩ := hQ95
    have N95 := Fr.app N89 Nc95
    have O96 := O90.keep Kc95 (allS (show n0 ≤ r_83 by omega) all0)
    have sz97 : h89.size ≤ h95.size := Kc95.1
    have K98 := Keep.trans K92 Kc95 (allS (Or.inr (show h0.size ≤ r_83 by omega)) all0)
    have ltc95_0 : @LT.lt Nat _ r_83 h95.size := c95_0.lt
    show own_Goes p e below (T95.setTop (mkF m 208 #[vR xa, vR xl, vR xm, vI 1, vR b33, vI 1, vR r_48, vI u2] [])) _
    refine r_V X95 hx hby hret hlk d7_208 e95 ?_
    have f99 := (Fw89.keep Kc95 (ninS (nE xa r_83 (by omega)) nin0))
    have GA : own_Gains Z h95 xa (own_max (own_max u0 (0 : Int32)) (own_max (own_max u1 (0 : Int32)) (own_max u2 (0 : Int32)))) (own_max (own_min (own_max u0 (0 : Int32)) (own_max u1 (0 : Int32))) (own_min (own_max (own_max u0 (0 : Int32)) (own_max u1 (0 : Int32))) (own_max u2 (0 : Int32)))) (own_min (own_max u0 (0 : Int32)) (own_min (own_max u1 (0 : Int32)) (own_max u2 (0 : Int32)))) := ⟨r_83, rk_83, f99, (Or.inr (Or.inl ⟨_, c95_0, own_eqI (by simp only [own_maxI, own_minI, own_i0]; omega), own_eqI (by simp only [own_maxI, own_minI, own_i0]; omega), own_eqI (by simp only [own_maxI, own_minI, own_i0]; omega)⟩))⟩
    exact ⟨N95, K98, rfl, GA⟩
  have C_3_2 : ∀ (y0 : Int32) (y1 : Int32) (T_ : State) (h_ : Heap) (L_ : List Loc), (y0.toInt = u0.toInt ∧ 1 ≤ u0.toInt ∧ y1.toInt = u1.toInt ∧ 1 ≤ u1.toInt ∧ u2.toInt ≤ 0) ∨ (y0.toInt = u0.toInt ∧ 1 ≤ u0.toInt ∧ y1.toInt = u2.toInt ∧ 1 ≤ u2.toInt ∧ u1.toInt ≤ 0) ∨ (y0.toInt = u1.toInt ∧ 1 ≤ u1.toInt ∧ y1.toInt = u2.toInt ∧ 1 ≤ u2.toInt ∧ u0.toInt ≤ 0) → Stand p l e ({ frames := 4, cells := 6, slots := 12, locals := 79 } : Room) s m #[.ref xa, .ref xl, .ref xm] below meth c T_ L_ 5 9 ∧ T_.heap = h_ ∧ Fr n0 L_ ∧ Old Z n0 h_ ∧ Keep h0 h_ [xa, xm] ∧ Exa Z h_ xa "com/example/dolm/dolm/eval/JudgedRanking" ∧ Fld Z h_ xa "com/example/dolm/dolm/eval/JudgedRanking" "relevantCount" "I" (.int 0) ∧ Fld Z h_ xa "com/example/dolm/dolm/eval/JudgedRanking" "judgedGains" "[I" .null ∧ Exa Z h_ r_48 "java/util/HashMap$ValueIterator" ∧ Fld Z h_ r_48 "java/util/HashMap$HashIterator" "next" "Ljava/util/HashMap$Node;" .null ∧ Exa Z h_ b33 "[I" ∧ Arv Z h_ b33 k33 .int (3 : Int32) [.int y0, .int y1, .int 0] (.int 0) → own_Goes p e below (T_.setTop (mkF m 133 #[vR xa, vR xl, vR xm, vI 2, vR b33, vI 2, vR r_48, vI u2] [])) (own_PostN s (Q_own_jr3 Z xa xl xm xt xk x1 x2 x3 v0 v1 v2 u0 u1 u2 h0 n0) ({ frames := 4, cells := 6, slots := 12, locals := 79 } : Room).cells ({ frames := 4, cells := 6, slots := 12, locals := 79 } : Room).slots) := by
    intro y0 y1 T_ h_ L_ hR ⟨X_, e_, N_, O_, K_, f_0, f_1, f_2, f_3, f_4, f_5, f_6⟩
    have lt_0 : @LT.lt Nat _ xa h_.size := f_0.lt
    have lt_3 : @LT.lt Nat _ r_48 h_.size := f_3.lt
    have lt_5 : @LT.lt Nat _ b33 h_.size := f_5.lt
    have lt_6 : @LT.lt Nat _ b33 h_.size := f_6.lt
    show own_Goes p e below (T_.setTop (mkF m 133 #[vR xa, vR xl, vR xm, vI 2, vR b33, vI 2, vR r_48, vI u2] [])) _
    refine q_aload X_ hx hby d7_133 rfl rfl ?_
    refine k_I X_ hx hby hZ hown (wh hw 136 rfl) (wh hw 137 rfl) (wh hw 138 rfl) (wh hw 139 rfl) (wh hw 140 rfl) (wh hw 141 rfl) (wh hw 142 rfl) (wh hw 143 rfl) (W := 0) (own_hasNext0 l Z a0 hw [] r_48 h_ n0 O_ f_4) (wh hw 144 rfl) (wh hw 119 rfl) e_ f_3  hml (argsL := []) (rest := []) own_pd_4 d7_135 (fun _ T100 L100 X100 hQ100 => ?_)
    obtain ⟨Nc100, e100, rfl⟩ := hQ100
    have N100 := Fr.app N_ Nc100
    refine q_ifYes (pc := 140) X100 hx hby d7_140 (pc' := 185) ((if0 _ _).trans (teq (show ((0 : Int32) = (0 : Int32)) from by decide)).1) (by decide) (by decide) ?_
    refine q_aloadN X100 hx hby d7_185 rfl rfl ?_
    refine q_iloadN X100 hx hby d7_186 rfl ?_
    refine qP X100 hx hby hZ hown (host := "") (Or.inl (wh hw 145 rfl)) Via.refl e100 f_1 f_0 (Or.inr ⟨(wh hw 146 rfl), rfl, hnm⟩) (wh hw 43 rfl) (ty := .int) d7_187 (fun T101 h101 X101 e101 W101 => ?_)
    have O102 := O_.wr W101 (show n0 ≤ xa by omega)
    have sz103 : h101.size = h_.size := Wr.size W101
    have K104 := K_.wr W101 (Or.inl (List.mem_of_getElem? (i := 0) rfl))
    have N101 := Fr.snoc X101 N100 (show n0 ≤ xa by omega)
    have Fw101 := f_1.same W101
    refine q_aloadN X101 hx hby d7_190 rfl rfl ?_
    refine q_aload X101 hx hby d7_191 rfl rfl ?_
    refine q_iload X101 hx hby d7_193 rfl ?_
    have f105 := (f_6.other W101 (nE b33 xa (by omega)))
    have V106 : Arv Z h101 b33 k33 .int (3 : Int32) [.int y0, .int y1] (.int 0) := f105.pad (fun i => (pad_rep [.int y0, .int y1] (.int 0) 1 i).symm)
    refine k_S X101 hx hby hZ hown (wh hw 147 rfl) (wh hw 148 rfl) (W := 1) (own_copyS2 l Z a0 hw [] b33 k33 (3 : Int32) y0 y1 h101 n0 O102 V106 (show ¬ (2 : Int32) = (3 : Int32) by first | assumption | omega | decide) (show (2 : Int32) < (3 : Int32) by first | assumption | omega | decide)) (wh hw 150 rfl) (wh hw 149 rfl) e101  hml (argsL := [.ref b33, .int 2]) (rest := [.ref xa]) own_pd_22 d7_195 (fun _ T107 L107 X107 hQ107 => ?_)
    obtain ⟨h107, e107⟩ : ∃ z, T107.heap = z := ⟨_, rfl⟩
    rw [e107] at hQ107
    obtain ⟨Nc107, Kc107, r_107, rk_107, rfl, c107_0, c107_1⟩ := hQ107
    have N107 := Fr.app N101 Nc107
    have O108 := O102.keep Kc107 all0
    have sz109 : h101.size ≤ h107.size := Kc107.1
    have K110 := Keep.trans K104 Kc107 all0
    have ltc107_0 : @LT.lt Nat _ r_107 h107.size := c107_0.lt
    have f111 := ((f_2.other W101 (Or.inr (slot_ne (Or.inr (wh hw 161 rfl)) (Or.inr (wh hw 146 rfl)) (by decide) (t := (.array .int)) (t' := .int) (by decide) (by decide)))).keep Kc107 nin0)
    have f112 := ((f_0.wr W101).keep Kc107)
    refine qP X107 hx hby hZ hown (host := "") (Or.inl (wh hw 160 rfl)) Via.refl e107 f111 f112 (Or.inr ⟨(wh hw 161 rfl), rfl, hnm⟩) (wh hw 43 rfl) (ty := (.array .int)) d7_198 (fun T113 h113 X113 e113 W113 => ?_)
    have O114 := O108.wr W113 (show n0 ≤ xa by omega)
    have sz115 : h113.size = h107.size := Wr.size W113
    have K116 := K110.wr W113 (Or.inl (List.mem_of_getElem? (i := 0) rfl))
    have N113 := Fr.snoc X113 N107 (show n0 ≤ xa by omega)
    have Fw113 := f111.same W113
    refine q_aloadN X113 hx hby d7_201 rfl rfl ?_
    refine qG X113 hx hby hZ hown (wh hw 160 rfl) e113 Fw113 d7_202 (fun T117 X117 e117 => ?_)
    have f118 := (c107_0.other W113 (nE r_107 xa (by omega)))
    refine k_S X117 hx hby hZ hown (wh hw 162 rfl) (wh hw 163 rfl) (W := 0) (own_sort2 l Z a0 hw [] r_107 rk_107 y0 y1 h113 n0 O114 f118 (show n0 ≤ r_107 by first | assumption | omega | decide)) (wh hw 164 rfl) (wh hw 149 rfl) e117  hml (argsL := [.ref r_107]) (rest := []) own_pd_23 d7_205 (fun _ T119 L119 X119 hQ119 => ?_)
    obtain ⟨h119, e119⟩ : ∃ z, T119.heap = z := ⟨_, rfl⟩
    rw [e119] at hQ119
    obtain ⟨Nc119, Kc119, z0_119, z1_119, rfl, c119_0, c119_1⟩ := hQ119
    have N119 := Fr.app N113 Nc119
    have O120 := O114.keep Kc119 (allS (show n0 ≤ r_107 by omega) all0)
    have sz121 : h113.size ≤ h119.size := Kc119.1
    have K122 := Keep.trans K116 Kc119 (allS (Or.inr (show h0.size ≤ r_107 by omega)) all0)
    have ltc119_0 : @LT.lt Nat _ r_107 h119.size := c119_0.lt
    show own_Goes p e below (T119.setTop (mkF m 208 #[vR xa, vR xl, vR xm, vI 2, vR b33, vI 2, vR r_48, vI u2] [])) _
    refine r_V X119 hx hby hret hlk d7_208 e119 ?_
    have f123 := (Fw113.keep Kc119 (ninS (nE xa r_107 (by omega)) nin0))
    have GA : own_Gains Z h119 xa (own_max (own_max u0 (0 : Int32)) (own_max (own_max u1 (0 : Int32)) (own_max u2 (0 : Int32)))) (own_max (own_min (own_max u0 (0 : Int32)) (own_max u1 (0 : Int32))) (own_min (own_max (own_max u0 (0 : Int32)) (own_max u1 (0 : Int32))) (own_max u2 (0 : Int32)))) (own_min (own_max u0 (0 : Int32)) (own_min (own_max u1 (0 : Int32)) (own_max u2 (0 : Int32)))) := ⟨r_107, rk_107, f123, (Or.inr (Or.inr (Or.inl ⟨_, _, c119_0, own_eqI (by simp only [own_maxI, own_minI, own_i0]; have := own_S2i c119_1; omega), own_eqI (by simp only [own_maxI, own_minI, own_i0]; have := own_S2i c119_1; omega), own_eqI (by simp only [own_maxI, own_minI, own_i0]; have := own_S2i c119_1; omega)⟩)))⟩
    exact ⟨N119, K122, rfl, GA⟩
  have C_3_3 : ∀ (y0 : Int32) (y1 : Int32) (y2 : Int32) (T_ : State) (h_ : Heap) (L_ : List Loc), (y0.toInt = u0.toInt ∧ 1 ≤ u0.toInt ∧ y1.toInt = u1.toInt ∧ 1 ≤ u1.toInt ∧ y2.toInt = u2.toInt ∧ 1 ≤ u2.toInt) → Stand p l e ({ frames := 4, cells := 6, slots := 12, locals := 79 } : Room) s m #[.ref xa, .ref xl, .ref xm] below meth c T_ L_ 5 9 ∧ T_.heap = h_ ∧ Fr n0 L_ ∧ Old Z n0 h_ ∧ Keep h0 h_ [xa, xm] ∧ Exa Z h_ xa "com/example/dolm/dolm/eval/JudgedRanking" ∧ Fld Z h_ xa "com/example/dolm/dolm/eval/JudgedRanking" "relevantCount" "I" (.int 0) ∧ Fld Z h_ xa "com/example/dolm/dolm/eval/JudgedRanking" "judgedGains" "[I" .null ∧ Exa Z h_ r_48 "java/util/HashMap$ValueIterator" ∧ Fld Z h_ r_48 "java/util/HashMap$HashIterator" "next" "Ljava/util/HashMap$Node;" .null ∧ Exa Z h_ b33 "[I" ∧ Arv Z h_ b33 k33 .int (3 : Int32) [.int y0, .int y1, .int y2] (.int 0) → own_Goes p e below (T_.setTop (mkF m 133 #[vR xa, vR xl, vR xm, vI 3, vR b33, vI 3, vR r_48, vI u2] [])) (own_PostN s (Q_own_jr3 Z xa xl xm xt xk x1 x2 x3 v0 v1 v2 u0 u1 u2 h0 n0) ({ frames := 4, cells := 6, slots := 12, locals := 79 } : Room).cells ({ frames := 4, cells := 6, slots := 12, locals := 79 } : Room).slots) := by
    intro y0 y1 y2 T_ h_ L_ hR ⟨X_, e_, N_, O_, K_, f_0, f_1, f_2, f_3, f_4, f_5, f_6⟩
    have lt_0 : @LT.lt Nat _ xa h_.size := f_0.lt
    have lt_3 : @LT.lt Nat _ r_48 h_.size := f_3.lt
    have lt_5 : @LT.lt Nat _ b33 h_.size := f_5.lt
    have lt_6 : @LT.lt Nat _ b33 h_.size := f_6.lt
    show own_Goes p e below (T_.setTop (mkF m 133 #[vR xa, vR xl, vR xm, vI 3, vR b33, vI 3, vR r_48, vI u2] [])) _
    refine q_aload X_ hx hby d7_133 rfl rfl ?_
    refine k_I X_ hx hby hZ hown (wh hw 136 rfl) (wh hw 137 rfl) (wh hw 138 rfl) (wh hw 139 rfl) (wh hw 140 rfl) (wh hw 141 rfl) (wh hw 142 rfl) (wh hw 143 rfl) (W := 0) (own_hasNext0 l Z a0 hw [] r_48 h_ n0 O_ f_4) (wh hw 144 rfl) (wh hw 119 rfl) e_ f_3  hml (argsL := []) (rest := []) own_pd_4 d7_135 (fun _ T124 L124 X124 hQ124 => ?_)
    obtain ⟨Nc124, e124, rfl⟩ := hQ124
    have N124 := Fr.app N_ Nc124
    refine q_ifYes (pc := 140) X124 hx hby d7_140 (pc' := 185) ((if0 _ _).trans (teq (show ((0 : Int32) = (0 : Int32)) from by decide)).1) (by decide) (by decide) ?_
    refine q_aloadN X124 hx hby d7_185 rfl rfl ?_
    refine q_iloadN X124 hx hby d7_186 rfl ?_
    refine qP X124 hx hby hZ hown (host := "") (Or.inl (wh hw 145 rfl)) Via.refl e124 f_1 f_0 (Or.inr ⟨(wh hw 146 rfl), rfl, hnm⟩) (wh hw 43 rfl) (ty := .int) d7_187 (fun T125 h125 X125 e125 W125 => ?_)
    have O126 := O_.wr W125 (show n0 ≤ xa by omega)
    have sz127 : h125.size = h_.size := Wr.size W125
    have K128 := K_.wr W125 (Or.inl (List.mem_of_getElem? (i := 0) rfl))
    have N125 := Fr.snoc X125 N124 (show n0 ≤ xa by omega)
    have Fw125 := f_1.same W125
    refine q_aloadN X125 hx hby d7_190 rfl rfl ?_
    refine q_aload X125 hx hby d7_191 rfl rfl ?_
    refine q_iload X125 hx hby d7_193 rfl ?_
    have f129 := (f_5.wr W125)
    have f130 := (f_6.other W125 (nE b33 xa (by omega)))
    refine k_S X125 hx hby hZ hown (wh hw 147 rfl) (wh hw 148 rfl) (W := 1) (own_copy3 l Z a0 hw [] b33 k33 y0 y1 y2 h125 n0 O126 f129 f130) (wh hw 150 rfl) (wh hw 149 rfl) e125  hml (argsL := [.ref b33, .int 3]) (rest := [.ref xa]) own_pd_22 d7_195 (fun _ T131 L131 X131 hQ131 => ?_)
    obtain ⟨h131, e131⟩ : ∃ z, T131.heap = z := ⟨_, rfl⟩
    rw [e131] at hQ131
    obtain ⟨Nc131, Kc131, r_131, rk_131, rfl, c131_0, c131_1⟩ := hQ131
    have N131 := Fr.app N125 Nc131
    have O132 := O126.keep Kc131 all0
    have sz133 : h125.size ≤ h131.size := Kc131.1
    have K134 := Keep.trans K128 Kc131 all0
    have ltc131_0 : @LT.lt Nat _ r_131 h131.size := c131_0.lt
    have f135 := ((f_2.other W125 (Or.inr (slot_ne (Or.inr (wh hw 161 rfl)) (Or.inr (wh hw 146 rfl)) (by decide) (t := (.array .int)) (t' := .int) (by decide) (by decide)))).keep Kc131 nin0)
    have f136 := ((f_0.wr W125).keep Kc131)
    refine qP X131 hx hby hZ hown (host := "") (Or.inl (wh hw 160 rfl)) Via.refl e131 f135 f136 (Or.inr ⟨(wh hw 161 rfl), rfl, hnm⟩) (wh hw 43 rfl) (ty := (.array .int)) d7_198 (fun T137 h137 X137 e137 W137 => ?_)
    have O138 := O132.wr W137 (show n0 ≤ xa by omega)
    have sz139 : h137.size = h131.size := Wr.size W137
    have K140 := K134.wr W137 (Or.inl (List.mem_of_getElem? (i := 0) rfl))
    have N137 := Fr.snoc X137 N131 (show n0 ≤ xa by omega)
    have Fw137 := f135.same W137
    refine q_aloadN X137 hx hby d7_201 rfl rfl ?_
    refine qG X137 hx hby hZ hown (wh hw 160 rfl) e137 Fw137 d7_202 (fun T141 X141 e141 => ?_)
    have f142 := (c131_0.other W137 (nE r_131 xa (by omega)))
    refine k_S X141 hx hby hZ hown (wh hw 162 rfl) (wh hw 163 rfl) (W := 0) (own_sort3 l Z a0 hw [] r_131 rk_131 y0 y1 y2 h137 n0 O138 f142 (show n0 ≤ r_131 by first | assumption | omega | decide)) (wh hw 164 rfl) (wh hw 149 rfl) e141  hml (argsL := [.ref r_131]) (rest := []) own_pd_23 d7_205 (fun _ T143 L143 X143 hQ143 => ?_)
    obtain ⟨h143, e143⟩ : ∃ z, T143.heap = z := ⟨_, rfl⟩
    rw [e143] at hQ143
    obtain ⟨Nc143, Kc143, z0_143, z1_143, z2_143, rfl, c143_0, c143_1⟩ := hQ143
    have N143 := Fr.app N137 Nc143
    have O144 := O138.keep Kc143 (allS (show n0 ≤ r_131 by omega) all0)
    have sz145 : h137.size ≤ h143.size := Kc143.1
    have K146 := Keep.trans K140 Kc143 (allS (Or.inr (show h0.size ≤ r_131 by omega)) all0)
    have ltc143_0 : @LT.lt Nat _ r_131 h143.size := c143_0.lt
    show own_Goes p e below (T143.setTop (mkF m 208 #[vR xa, vR xl, vR xm, vI 3, vR b33, vI 3, vR r_48, vI u2] [])) _
    refine r_V X143 hx hby hret hlk d7_208 e143 ?_
    have f147 := (Fw137.keep Kc143 (ninS (nE xa r_131 (by omega)) nin0))
    have GA : own_Gains Z h143 xa (own_max (own_max u0 (0 : Int32)) (own_max (own_max u1 (0 : Int32)) (own_max u2 (0 : Int32)))) (own_max (own_min (own_max u0 (0 : Int32)) (own_max u1 (0 : Int32))) (own_min (own_max (own_max u0 (0 : Int32)) (own_max u1 (0 : Int32))) (own_max u2 (0 : Int32)))) (own_min (own_max u0 (0 : Int32)) (own_min (own_max u1 (0 : Int32)) (own_max u2 (0 : Int32)))) := ⟨r_131, rk_131, f147, (Or.inr (Or.inr (Or.inr ⟨_, _, _, c143_0, own_eqI (by simp only [own_maxI, own_minI, own_i0]; have := own_S3i c143_1; omega), own_eqI (by simp only [own_maxI, own_minI, own_i0]; have := own_S3i c143_1; omega), own_eqI (by simp only [own_maxI, own_minI, own_i0]; have := own_S3i c143_1; omega)⟩)))⟩
    exact ⟨N143, K146, rfl, GA⟩
  have C_2_0 : ∀ (T_ : State) (h_ : Heap) (L_ : List Loc), (u0.toInt ≤ 0 ∧ u1.toInt ≤ 0) → Stand p l e ({ frames := 4, cells := 6, slots := 12, locals := 79 } : Room) s m #[.ref xa, .ref xl, .ref xm] below meth c T_ L_ 5 9 ∧ T_.heap = h_ ∧ Fr n0 L_ ∧ Old Z n0 h_ ∧ Keep h0 h_ [xa, xm] ∧ Exa Z h_ xa "com/example/dolm/dolm/eval/JudgedRanking" ∧ Fld Z h_ xa "com/example/dolm/dolm/eval/JudgedRanking" "relevantCount" "I" (.int 0) ∧ Fld Z h_ xa "com/example/dolm/dolm/eval/JudgedRanking" "judgedGains" "[I" .null ∧ Exa Z h_ r_48 "java/util/HashMap$ValueIterator" ∧ Fld Z h_ r_48 "java/util/HashMap$HashIterator" "next" "Ljava/util/HashMap$Node;" (.ref x3) ∧ Fld Z h_ r_48 "java/util/HashMap$HashIterator" "this$0" "Ljava/util/HashMap;" (.ref xm) ∧ Fld Z h_ r_48 "java/util/HashMap$HashIterator" "expectedModCount" "I" (.int 3) ∧ Fld Z h_ r_48 "java/util/HashMap$HashIterator" "current" "Ljava/util/HashMap$Node;" (.ref x2) ∧ Fld Z h_ r_48 "java/util/HashMap$HashIterator" "index" "I" (.int (((2 : Int32) + (1 : Int32)) + (1 : Int32))) ∧ Fld Z h_ xm "java/util/HashMap" "modCount" "I" (.int 3) ∧ Fld Z h_ xm "java/util/HashMap" "table" "[Ljava/util/HashMap$Node;" (.ref xt) ∧ Arv Z h_ xt xk (.object "java/util/HashMap$Node") (16 : Int32) [.null, .ref x1, .ref x2, .ref x3, .null, .null, .null, .null, .null, .null, .null, .null, .null, .null, .null, .null] .null ∧ Fld Z h_ x3 "java/util/HashMap$Node" "value" "Ljava/lang/Object;" (.ref v2) ∧ Fld Z h_ x3 "java/util/HashMap$Node" "next" "Ljava/util/HashMap$Node;" .null ∧ Exa Z h_ v2 "java/lang/Integer" ∧ Fld Z h_ v2 "java/lang/Integer" "value" "I" (.int u2) ∧ Exa Z h_ b33 "[I" ∧ Arv Z h_ b33 k33 .int (3 : Int32) [.int 0, .int 0, .int 0] (.int 0) → own_Goes p e below (T_.setTop (mkF m 133 #[vR xa, vR xl, vR xm, vI 0, vR b33, vI 0, vR r_48, vI u1] [])) (own_PostN s (Q_own_jr3 Z xa xl xm xt xk x1 x2 x3 v0 v1 v2 u0 u1 u2 h0 n0) ({ frames := 4, cells := 6, slots := 12, locals := 79 } : Room).cells ({ frames := 4, cells := 6, slots := 12, locals := 79 } : Room).slots) := by
    intro T_ h_ L_ hR ⟨X_, e_, N_, O_, K_, f_0, f_1, f_2, f_3, f_4, f_5, f_6, f_7, f_8, f_9, f_10, f_11, f_12, f_13, f_14, f_15, f_16, f_17⟩
    have lt_0 : @LT.lt Nat _ xa h_.size := f_0.lt
    have lt_3 : @LT.lt Nat _ r_48 h_.size := f_3.lt
    have lt_11 : @LT.lt Nat _ xt h_.size := f_11.lt
    have lt_14 : @LT.lt Nat _ v2 h_.size := f_14.lt
    have lt_16 : @LT.lt Nat _ b33 h_.size := f_16.lt
    have lt_17 : @LT.lt Nat _ b33 h_.size := f_17.lt
    show own_Goes p e below (T_.setTop (mkF m 133 #[vR xa, vR xl, vR xm, vI 0, vR b33, vI 0, vR r_48, vI u1] [])) _
    refine q_aload X_ hx hby d7_133 rfl rfl ?_
    refine k_I X_ hx hby hZ hown (wh hw 136 rfl) (wh hw 137 rfl) (wh hw 138 rfl) (wh hw 139 rfl) (wh hw 140 rfl) (wh hw 141 rfl) (wh hw 142 rfl) (wh hw 143 rfl) (W := 0) (own_hasNext1 l Z a0 hw [] r_48 x3 h_ n0 O_ f_4) (wh hw 144 rfl) (wh hw 119 rfl) e_ f_3  hml (argsL := []) (rest := []) own_pd_4 d7_135 (fun _ T148 L148 X148 hQ148 => ?_)
    obtain ⟨Nc148, e148, rfl⟩ := hQ148
    have N148 := Fr.app N_ Nc148
    refine q_ifNo X148 hx hby d7_140 ((if0 _ _).trans (feq (show ¬ ((1 : Int32) = (0 : Int32)) from by decide)).1) ?_
    refine q_aload X148 hx hby d7_143 rfl rfl ?_
    refine k_I X148 hx hby hZ hown (wh hw 289 rfl) (wh hw 290 rfl) (wh hw 291 rfl) (wh hw 292 rfl) (wh hw 293 rfl) (wh hw 294 rfl) (wh hw 295 rfl) (wh hw 143 rfl) (W := 0) (own_nextE l Z a0 hw [] r_48 xm (3 : Int32) xt xk (Value.ref x2) (((2 : Int32) + (1 : Int32)) + (1 : Int32)) x3 x1 (Value.ref x2) (Value.ref x3) v2 h_ n0 O_ f_3 (show n0 ≤ r_48 by first | assumption | omega | decide) f_5 f_6 f_4 f_7 f_8 f_9 f_10 f_11 f_13 (show @LT.lt Nat _ xm r_48 by first | assumption | omega | decide) (show @LT.lt Nat _ xt r_48 by first | assumption | omega | decide) (show @LT.lt Nat _ x3 r_48 by first | assumption | omega | decide) f_12 (show ((((2 : Int32) + (1 : Int32)) + (1 : Int32)) = (2 : Int32) ∧ (Value.ref x2) = Value.null ∧ (Value.ref x3) = Value.null) ∨ ((((2 : Int32) + (1 : Int32)) + (1 : Int32)) = (3 : Int32) ∧ (Value.ref x3) = Value.null) ∨ (((2 : Int32) + (1 : Int32)) + (1 : Int32)) = (4 : Int32) from (by first | exact Or.inl ⟨by decide, rfl, rfl⟩ | exact Or.inr (Or.inl ⟨by decide, rfl⟩) | exact Or.inr (Or.inr (by decide)) | assumption))) (wh hw 296 rfl) (wh hw 110 rfl) e148 f_3  hml (argsL := []) (rest := []) own_pd_24 d7_145 (fun _ T149 L149 X149 hQ149 => ?_)
    obtain ⟨h149, e149⟩ : ∃ z, T149.heap = z := ⟨_, rfl⟩
    rw [e149] at hQ149
    obtain ⟨Nc149, Kc149, rfl, c149_0, c149_1, c149_2, c149_3, c149_4⟩ := hQ149
    have N149 := Fr.app N148 Nc149
    have O150 := O_.keep Kc149 (allS (show n0 ≤ r_48 by omega) all0)
    have sz151 : h_.size ≤ h149.size := Kc149.1
    have K152 := Keep.trans K_ Kc149 (allS (Or.inr (show h0.size ≤ r_48 by omega)) all0)
    have f153 := (f_14.keep Kc149)
    obtain ⟨T154, X154, e154, st154⟩ := castY X149 hx hZ hown (wh hw 305 rfl) e149 (Ins.self f153) (g := (mkF m 150 #[vR xa, vR xl, vR xm, vI 0, vR b33, vI 0, vR r_48, vI u1] [.ref v2])) rfl rfl (hb hby d7_150)
    refine gg st154 ?_
    have f155 := (f_15.keep Kc149 (ninS (nE v2 r_48 (by omega)) nin0))
    refine k_V X154 hx hby hZ hown (wh hw 307 rfl) (wh hw 308 rfl) (wh hw 310 rfl) (wh hw 309 rfl) (W := 0) (own_intValue l Z a0 hw [] v2 u2 h149 n0 O150 f155) (wh hw 311 rfl) (wh hw 213 rfl) e154 f153  hml (argsL := []) (rest := []) own_pd_6 d7_153 (fun _ T156 L156 X156 hQ156 => ?_)
    obtain ⟨Nc156, e156, rfl⟩ := hQ156
    have N156 := Fr.app N149 Nc156
    refine q_istore X156 hx hby d7_156 (l' := #[vR xa, vR xl, vR xm, vI 0, vR b33, vI 0, vR r_48, vI u2]) rfl ?_
    refine q_iload X156 hx hby d7_158 rfl ?_
    refine q_iconst X156 hx hby d7_160 ?_
    by_cases hc157 : u2 < (1 : Int32)
    · refine q_icmpYes (pc := 161) X156 hx hby d7_161 (pc' := 167) (tlt hc157).1 (by decide) (by decide) ?_
      refine q_iload X156 hx hby d7_167 rfl ?_
      refine q_ifYes (pc := 169) X156 hx hby d7_169 (pc' := 182) ((if0 _ _).trans (flt (show ¬ ((0 : Int32) < u2) from (own_posF hc157))).2.2.2) (by decide) (by decide) ?_
      refine q_goto (pc := 182) X156 hx hby d7_182 (pc' := 133) (by decide) (by decide) ?_
      show own_Goes p e below (T156.setTop (mkF m 133 #[vR xa, vR xl, vR xm, vI 0, vR b33, vI 0, vR r_48, vI u2] [])) _
      have f158 := (f_0.keep Kc149)
      have f159 := (f_1.keep Kc149 (ninS (nE xa r_48 (by omega)) nin0))
      have f160 := (f_2.keep Kc149 (ninS (nE xa r_48 (by omega)) nin0))
      have f161 := (f_3.keep Kc149)
      have f162 := (f_16.keep Kc149)
      have f163 := (f_17.keep Kc149 (ninS (nE b33 r_48 (by omega)) nin0))
      exact C_3_0 _ _ _ (by have := own_ltI hc157; have := own_i1; omega) ⟨X156, e156, N156, O150, K152, f158, f159, f160, f161, c149_2, f162, f163⟩
    · refine q_icmpNo X156 hx hby d7_161 (flt hc157).1 ?_
      refine gg (fun t k => XS.iinc X156.here hx rfl (hb hby d7_164) rfl (l' := #[vR xa, vR xl, vR xm, vI ((0 : Int32) + (1 : Int32)), vR b33, vI 0, vR r_48, vI u2]) rfl k) ?_
      show own_Goes p e below (T156.setTop (mkF m 167 #[vR xa, vR xl, vR xm, vI ((0 : Int32) + (1 : Int32)), vR b33, vI 0, vR r_48, vI u2] [])) _
      rw [show ((0 : Int32) + (1 : Int32)) = (1 : Int32) from by decide]
      refine q_iload X156 hx hby d7_167 rfl ?_
      refine q_ifNo X156 hx hby d7_169 ((if0 _ _).trans (tlt (show ((0 : Int32) < u2) from (own_posT hc157))).2.2.2) ?_
      refine q_aload X156 hx hby d7_172 rfl rfl ?_
      refine q_iload X156 hx hby d7_174 rfl ?_
      refine q_iload X156 hx hby d7_176 rfl ?_
      have f164 := (f_17.keep Kc149 (ninS (nE b33 r_48 (by omega)) nin0))
      refine q_stI X156 hx hby hZ e156 f164 0 d7_178 (fun T166 h166 X166 e166 W166 V166 => ?_)
      have O167 := O150.wr W166 (show n0 ≤ b33 by omega)
      have sz168 : h166.size = h149.size := Wr.size W166
      have K169 := K152.wr W166 (Or.inr (show h0.size ≤ b33 by omega))
      have N166 := Fr.snoc X166 N156 (show n0 ≤ b33 by omega)
      have V166 : Arv Z h166 b33 k33 .int (3 : Int32) [.int u2, .int 0, .int 0] (.int 0) := V166
      refine gg (fun t k => XS.iinc X166.here hx rfl (hb hby d7_179) rfl (l' := #[vR xa, vR xl, vR xm, vI 1, vR b33, vI ((0 : Int32) + (1 : Int32)), vR r_48, vI u2]) rfl k) ?_
      show own_Goes p e below (T166.setTop (mkF m 182 #[vR xa, vR xl, vR xm, vI 1, vR b33, vI ((0 : Int32) + (1 : Int32)), vR r_48, vI u2] [])) _
      rw [show ((0 : Int32) + (1 : Int32)) = (1 : Int32) from by decide]
      refine q_goto (pc := 182) X166 hx hby d7_182 (pc' := 133) (by decide) (by decide) ?_
      have f170 := ((f_0.keep Kc149).wr W166)
      have f171 := ((f_1.keep Kc149 (ninS (nE xa r_48 (by omega)) nin0)).other W166 (Or.inl (nE xa b33 (by omega))))
      have f172 := ((f_2.keep Kc149 (ninS (nE xa r_48 (by omega)) nin0)).other W166 (Or.inl (nE xa b33 (by omega))))
      have f173 := ((f_3.keep Kc149).wr W166)
      have f174 := (c149_2.other W166 (Or.inl (nE r_48 b33 (by omega))))
      have f175 := ((f_16.keep Kc149).wr W166)
      exact C_3_1 u2 _ _ _ (by have := own_nltI hc157; have := own_i1; omega) ⟨X166, e166, N166, O167, K169, f170, f171, f172, f173, f174, f175, V166⟩
  have C_2_1 : ∀ (y0 : Int32) (T_ : State) (h_ : Heap) (L_ : List Loc), (y0.toInt = u0.toInt ∧ 1 ≤ u0.toInt ∧ u1.toInt ≤ 0) ∨ (y0.toInt = u1.toInt ∧ 1 ≤ u1.toInt ∧ u0.toInt ≤ 0) → Stand p l e ({ frames := 4, cells := 6, slots := 12, locals := 79 } : Room) s m #[.ref xa, .ref xl, .ref xm] below meth c T_ L_ 5 9 ∧ T_.heap = h_ ∧ Fr n0 L_ ∧ Old Z n0 h_ ∧ Keep h0 h_ [xa, xm] ∧ Exa Z h_ xa "com/example/dolm/dolm/eval/JudgedRanking" ∧ Fld Z h_ xa "com/example/dolm/dolm/eval/JudgedRanking" "relevantCount" "I" (.int 0) ∧ Fld Z h_ xa "com/example/dolm/dolm/eval/JudgedRanking" "judgedGains" "[I" .null ∧ Exa Z h_ r_48 "java/util/HashMap$ValueIterator" ∧ Fld Z h_ r_48 "java/util/HashMap$HashIterator" "next" "Ljava/util/HashMap$Node;" (.ref x3) ∧ Fld Z h_ r_48 "java/util/HashMap$HashIterator" "this$0" "Ljava/util/HashMap;" (.ref xm) ∧ Fld Z h_ r_48 "java/util/HashMap$HashIterator" "expectedModCount" "I" (.int 3) ∧ Fld Z h_ r_48 "java/util/HashMap$HashIterator" "current" "Ljava/util/HashMap$Node;" (.ref x2) ∧ Fld Z h_ r_48 "java/util/HashMap$HashIterator" "index" "I" (.int (((2 : Int32) + (1 : Int32)) + (1 : Int32))) ∧ Fld Z h_ xm "java/util/HashMap" "modCount" "I" (.int 3) ∧ Fld Z h_ xm "java/util/HashMap" "table" "[Ljava/util/HashMap$Node;" (.ref xt) ∧ Arv Z h_ xt xk (.object "java/util/HashMap$Node") (16 : Int32) [.null, .ref x1, .ref x2, .ref x3, .null, .null, .null, .null, .null, .null, .null, .null, .null, .null, .null, .null] .null ∧ Fld Z h_ x3 "java/util/HashMap$Node" "value" "Ljava/lang/Object;" (.ref v2) ∧ Fld Z h_ x3 "java/util/HashMap$Node" "next" "Ljava/util/HashMap$Node;" .null ∧ Exa Z h_ v2 "java/lang/Integer" ∧ Fld Z h_ v2 "java/lang/Integer" "value" "I" (.int u2) ∧ Exa Z h_ b33 "[I" ∧ Arv Z h_ b33 k33 .int (3 : Int32) [.int y0, .int 0, .int 0] (.int 0) → own_Goes p e below (T_.setTop (mkF m 133 #[vR xa, vR xl, vR xm, vI 1, vR b33, vI 1, vR r_48, vI u1] [])) (own_PostN s (Q_own_jr3 Z xa xl xm xt xk x1 x2 x3 v0 v1 v2 u0 u1 u2 h0 n0) ({ frames := 4, cells := 6, slots := 12, locals := 79 } : Room).cells ({ frames := 4, cells := 6, slots := 12, locals := 79 } : Room).slots) := by
    intro y0 T_ h_ L_ hR ⟨X_, e_, N_, O_, K_, f_0, f_1, f_2, f_3, f_4, f_5, f_6, f_7, f_8, f_9, f_10, f_11, f_12, f_13, f_14, f_15, f_16, f_17⟩
    have lt_0 : @LT.lt Nat _ xa h_.size := f_0.lt
    have lt_3 : @LT.lt Nat _ r_48 h_.size := f_3.lt
    have lt_11 : @LT.lt Nat _ xt h_.size := f_11.lt
    have lt_14 : @LT.lt Nat _ v2 h_.size := f_14.lt
    have lt_16 : @LT.lt Nat _ b33 h_.size := f_16.lt
    have lt_17 : @LT.lt Nat _ b33 h_.size := f_17.lt
    show own_Goes p e below (T_.setTop (mkF m 133 #[vR xa, vR xl, vR xm, vI 1, vR b33, vI 1, vR r_48, vI u1] [])) _
    refine q_aload X_ hx hby d7_133 rfl rfl ?_
    refine k_I X_ hx hby hZ hown (wh hw 136 rfl) (wh hw 137 rfl) (wh hw 138 rfl) (wh hw 139 rfl) (wh hw 140 rfl) (wh hw 141 rfl) (wh hw 142 rfl) (wh hw 143 rfl) (W := 0) (own_hasNext1 l Z a0 hw [] r_48 x3 h_ n0 O_ f_4) (wh hw 144 rfl) (wh hw 119 rfl) e_ f_3  hml (argsL := []) (rest := []) own_pd_4 d7_135 (fun _ T176 L176 X176 hQ176 => ?_)
    obtain ⟨Nc176, e176, rfl⟩ := hQ176
    have N176 := Fr.app N_ Nc176
    refine q_ifNo X176 hx hby d7_140 ((if0 _ _).trans (feq (show ¬ ((1 : Int32) = (0 : Int32)) from by decide)).1) ?_
    refine q_aload X176 hx hby d7_143 rfl rfl ?_
    refine k_I X176 hx hby hZ hown (wh hw 289 rfl) (wh hw 290 rfl) (wh hw 291 rfl) (wh hw 292 rfl) (wh hw 293 rfl) (wh hw 294 rfl) (wh hw 295 rfl) (wh hw 143 rfl) (W := 0) (own_nextE l Z a0 hw [] r_48 xm (3 : Int32) xt xk (Value.ref x2) (((2 : Int32) + (1 : Int32)) + (1 : Int32)) x3 x1 (Value.ref x2) (Value.ref x3) v2 h_ n0 O_ f_3 (show n0 ≤ r_48 by first | assumption | omega | decide) f_5 f_6 f_4 f_7 f_8 f_9 f_10 f_11 f_13 (show @LT.lt Nat _ xm r_48 by first | assumption | omega | decide) (show @LT.lt Nat _ xt r_48 by first | assumption | omega | decide) (show @LT.lt Nat _ x3 r_48 by first | assumption | omega | decide) f_12 (show ((((2 : Int32) + (1 : Int32)) + (1 : Int32)) = (2 : Int32) ∧ (Value.ref x2) = Value.null ∧ (Value.ref x3) = Value.null) ∨ ((((2 : Int32) + (1 : Int32)) + (1 : Int32)) = (3 : Int32) ∧ (Value.ref x3) = Value.null) ∨ (((2 : Int32) + (1 : Int32)) + (1 : Int32)) = (4 : Int32) from (by first | exact Or.inl ⟨by decide, rfl, rfl⟩ | exact Or.inr (Or.inl ⟨by decide, rfl⟩) | exact Or.inr (Or.inr (by decide)) | assumption))) (wh hw 296 rfl) (wh hw 110 rfl) e176 f_3  hml (argsL := []) (rest := []) own_pd_24 d7_145 (fun _ T177 L177 X177 hQ177 => ?_)
    obtain ⟨h177, e177⟩ : ∃ z, T177.heap = z := ⟨_, rfl⟩
    rw [e177] at hQ177
    obtain ⟨Nc177, Kc177, rfl, c177_0, c177_1, c177_2, c177_3, c177_4⟩ := hQ177
    have N177 := Fr.app N176 Nc177
    have O178 := O_.keep Kc177 (allS (show n0 ≤ r_48 by omega) all0)
    have sz179 : h_.size ≤ h177.size := Kc177.1
    have K180 := Keep.trans K_ Kc177 (allS (Or.inr (show h0.size ≤ r_48 by omega)) all0)
    have f181 := (f_14.keep Kc177)
    obtain ⟨T182, X182, e182, st182⟩ := castY X177 hx hZ hown (wh hw 305 rfl) e177 (Ins.self f181) (g := (mkF m 150 #[vR xa, vR xl, vR xm, vI 1, vR b33, vI 1, vR r_48, vI u1] [.ref v2])) rfl rfl (hb hby d7_150)
    refine gg st182 ?_
    have f183 := (f_15.keep Kc177 (ninS (nE v2 r_48 (by omega)) nin0))
    refine k_V X182 hx hby hZ hown (wh hw 307 rfl) (wh hw 308 rfl) (wh hw 310 rfl) (wh hw 309 rfl) (W := 0) (own_intValue l Z a0 hw [] v2 u2 h177 n0 O178 f183) (wh hw 311 rfl) (wh hw 213 rfl) e182 f181  hml (argsL := []) (rest := []) own_pd_6 d7_153 (fun _ T184 L184 X184 hQ184 => ?_)
    obtain ⟨Nc184, e184, rfl⟩ := hQ184
    have N184 := Fr.app N177 Nc184
    refine q_istore X184 hx hby d7_156 (l' := #[vR xa, vR xl, vR xm, vI 1, vR b33, vI 1, vR r_48, vI u2]) rfl ?_
    refine q_iload X184 hx hby d7_158 rfl ?_
    refine q_iconst X184 hx hby d7_160 ?_
    by_cases hc185 : u2 < (1 : Int32)
    · refine q_icmpYes (pc := 161) X184 hx hby d7_161 (pc' := 167) (tlt hc185).1 (by decide) (by decide) ?_
      refine q_iload X184 hx hby d7_167 rfl ?_
      refine q_ifYes (pc := 169) X184 hx hby d7_169 (pc' := 182) ((if0 _ _).trans (flt (show ¬ ((0 : Int32) < u2) from (own_posF hc185))).2.2.2) (by decide) (by decide) ?_
      refine q_goto (pc := 182) X184 hx hby d7_182 (pc' := 133) (by decide) (by decide) ?_
      show own_Goes p e below (T184.setTop (mkF m 133 #[vR xa, vR xl, vR xm, vI 1, vR b33, vI 1, vR r_48, vI u2] [])) _
      have f186 := (f_0.keep Kc177)
      have f187 := (f_1.keep Kc177 (ninS (nE xa r_48 (by omega)) nin0))
      have f188 := (f_2.keep Kc177 (ninS (nE xa r_48 (by omega)) nin0))
      have f189 := (f_3.keep Kc177)
      have f190 := (f_16.keep Kc177)
      have f191 := (f_17.keep Kc177 (ninS (nE b33 r_48 (by omega)) nin0))
      exact C_3_1 y0 _ _ _ (by have := own_ltI hc185; have := own_i1; omega) ⟨X184, e184, N184, O178, K180, f186, f187, f188, f189, c177_2, f190, f191⟩
    · refine q_icmpNo X184 hx hby d7_161 (flt hc185).1 ?_
      refine gg (fun t k => XS.iinc X184.here hx rfl (hb hby d7_164) rfl (l' := #[vR xa, vR xl, vR xm, vI ((1 : Int32) + (1 : Int32)), vR b33, vI 1, vR r_48, vI u2]) rfl k) ?_
      show own_Goes p e below (T184.setTop (mkF m 167 #[vR xa, vR xl, vR xm, vI ((1 : Int32) + (1 : Int32)), vR b33, vI 1, vR r_48, vI u2] [])) _
      rw [show ((1 : Int32) + (1 : Int32)) = (2 : Int32) from by decide]
      refine q_iload X184 hx hby d7_167 rfl ?_
      refine q_ifNo X184 hx hby d7_169 ((if0 _ _).trans (tlt (show ((0 : Int32) < u2) from (own_posT hc185))).2.2.2) ?_
      refine q_aload X184 hx hby d7_172 rfl rfl ?_
      refine q_iload X184 hx hby d7_174 rfl ?_
      refine q_iload X184 hx hby d7_176 rfl ?_
      have f192 := (f_17.keep Kc177 (ninS (nE b33 r_48 (by omega)) nin0))
      refine q_stI X184 hx hby hZ e184 f192 1 d7_178 (fun T194 h194 X194 e194 W194 V194 => ?_)
      have O195 := O178.wr W194 (show n0 ≤ b33 by omega)
      have sz196 : h194.size = h177.size := Wr.size W194
      have K197 := K180.wr W194 (Or.inr (show h0.size ≤ b33 by omega))
      have N194 := Fr.snoc X194 N184 (show n0 ≤ b33 by omega)
      have V194 : Arv Z h194 b33 k33 .int (3 : Int32) [.int y0, .int u2, .int 0] (.int 0) := V194
      refine gg (fun t k => XS.iinc X194.here hx rfl (hb hby d7_179) rfl (l' := #[vR xa, vR xl, vR xm, vI 2, vR b33, vI ((1 : Int32) + (1 : Int32)), vR r_48, vI u2]) rfl k) ?_
      show own_Goes p e below (T194.setTop (mkF m 182 #[vR xa, vR xl, vR xm, vI 2, vR b33, vI ((1 : Int32) + (1 : Int32)), vR r_48, vI u2] [])) _
      rw [show ((1 : Int32) + (1 : Int32)) = (2 : Int32) from by decide]
      refine q_goto (pc := 182) X194 hx hby d7_182 (pc' := 133) (by decide) (by decide) ?_
      have f198 := ((f_0.keep Kc177).wr W194)
      have f199 := ((f_1.keep Kc177 (ninS (nE xa r_48 (by omega)) nin0)).other W194 (Or.inl (nE xa b33 (by omega))))
      have f200 := ((f_2.keep Kc177 (ninS (nE xa r_48 (by omega)) nin0)).other W194 (Or.inl (nE xa b33 (by omega))))
      have f201 := ((f_3.keep Kc177).wr W194)
      have f202 := (c177_2.other W194 (Or.inl (nE r_48 b33 (by omega))))
      have f203 := ((f_16.keep Kc177).wr W194)
      exact C_3_2 y0 u2 _ _ _ (by have := own_nltI hc185; have := own_i1; omega) ⟨X194, e194, N194, O195, K197, f198, f199, f200, f201, f202, f203, V194⟩
  have C_2_2 : ∀ (y0 : Int32) (y1 : Int32) (T_ : State) (h_ : Heap) (L_ : List Loc), (y0.toInt = u0.toInt ∧ 1 ≤ u0.toInt ∧ y1.toInt = u1.toInt ∧ 1 ≤ u1.toInt) → Stand p l e ({ frames := 4, cells := 6, slots := 12, locals := 79 } : Room) s m #[.ref xa, .ref xl, .ref xm] below meth c T_ L_ 5 9 ∧ T_.heap = h_ ∧ Fr n0 L_ ∧ Old Z n0 h_ ∧ Keep h0 h_ [xa, xm] ∧ Exa Z h_ xa "com/example/dolm/dolm/eval/JudgedRanking" ∧ Fld Z h_ xa "com/example/dolm/dolm/eval/JudgedRanking" "relevantCount" "I" (.int 0) ∧ Fld Z h_ xa "com/example/dolm/dolm/eval/JudgedRanking" "judgedGains" "[I" .null ∧ Exa Z h_ r_48 "java/util/HashMap$ValueIterator" ∧ Fld Z h_ r_48 "java/util/HashMap$HashIterator" "next" "Ljava/util/HashMap$Node;" (.ref x3) ∧ Fld Z h_ r_48 "java/util/HashMap$HashIterator" "this$0" "Ljava/util/HashMap;" (.ref xm) ∧ Fld Z h_ r_48 "java/util/HashMap$HashIterator" "expectedModCount" "I" (.int 3) ∧ Fld Z h_ r_48 "java/util/HashMap$HashIterator" "current" "Ljava/util/HashMap$Node;" (.ref x2) ∧ Fld Z h_ r_48 "java/util/HashMap$HashIterator" "index" "I" (.int (((2 : Int32) + (1 : Int32)) + (1 : Int32))) ∧ Fld Z h_ xm "java/util/HashMap" "modCount" "I" (.int 3) ∧ Fld Z h_ xm "java/util/HashMap" "table" "[Ljava/util/HashMap$Node;" (.ref xt) ∧ Arv Z h_ xt xk (.object "java/util/HashMap$Node") (16 : Int32) [.null, .ref x1, .ref x2, .ref x3, .null, .null, .null, .null, .null, .null, .null, .null, .null, .null, .null, .null] .null ∧ Fld Z h_ x3 "java/util/HashMap$Node" "value" "Ljava/lang/Object;" (.ref v2) ∧ Fld Z h_ x3 "java/util/HashMap$Node" "next" "Ljava/util/HashMap$Node;" .null ∧ Exa Z h_ v2 "java/lang/Integer" ∧ Fld Z h_ v2 "java/lang/Integer" "value" "I" (.int u2) ∧ Exa Z h_ b33 "[I" ∧ Arv Z h_ b33 k33 .int (3 : Int32) [.int y0, .int y1, .int 0] (.int 0) → own_Goes p e below (T_.setTop (mkF m 133 #[vR xa, vR xl, vR xm, vI 2, vR b33, vI 2, vR r_48, vI u1] [])) (own_PostN s (Q_own_jr3 Z xa xl xm xt xk x1 x2 x3 v0 v1 v2 u0 u1 u2 h0 n0) ({ frames := 4, cells := 6, slots := 12, locals := 79 } : Room).cells ({ frames := 4, cells := 6, slots := 12, locals := 79 } : Room).slots) := by
    intro y0 y1 T_ h_ L_ hR ⟨X_, e_, N_, O_, K_, f_0, f_1, f_2, f_3, f_4, f_5, f_6, f_7, f_8, f_9, f_10, f_11, f_12, f_13, f_14, f_15, f_16, f_17⟩
    have lt_0 : @LT.lt Nat _ xa h_.size := f_0.lt
    have lt_3 : @LT.lt Nat _ r_48 h_.size := f_3.lt
    have lt_11 : @LT.lt Nat _ xt h_.size := f_11.lt
    have lt_14 : @LT.lt Nat _ v2 h_.size := f_14.lt
    have lt_16 : @LT.lt Nat _ b33 h_.size := f_16.lt
    have lt_17 : @LT.lt Nat _ b33 h_.size := f_17.lt
    show own_Goes p e below (T_.setTop (mkF m 133 #[vR xa, vR xl, vR xm, vI 2, vR b33, vI 2, vR r_48, vI u1] [])) _
    refine q_aload X_ hx hby d7_133 rfl rfl ?_
    refine k_I X_ hx hby hZ hown (wh hw 136 rfl) (wh hw 137 rfl) (wh hw 138 rfl) (wh hw 139 rfl) (wh hw 140 rfl) (wh hw 141 rfl) (wh hw 142 rfl) (wh hw 143 rfl) (W := 0) (own_hasNext1 l Z a0 hw [] r_48 x3 h_ n0 O_ f_4) (wh hw 144 rfl) (wh hw 119 rfl) e_ f_3  hml (argsL := []) (rest := []) own_pd_4 d7_135 (fun _ T204 L204 X204 hQ204 => ?_)
    obtain ⟨Nc204, e204, rfl⟩ := hQ204
    have N204 := Fr.app N_ Nc204
    refine q_ifNo X204 hx hby d7_140 ((if0 _ _).trans (feq (show ¬ ((1 : Int32) = (0 : Int32)) from by decide)).1) ?_
    refine q_aload X204 hx hby d7_143 rfl rfl ?_
    refine k_I X204 hx hby hZ hown (wh hw 289 rfl) (wh hw 290 rfl) (wh hw 291 rfl) (wh hw 292 rfl) (wh hw 293 rfl) (wh hw 294 rfl) (wh hw 295 rfl) (wh hw 143 rfl) (W := 0) (own_nextE l Z a0 hw [] r_48 xm (3 : Int32) xt xk (Value.ref x2) (((2 : Int32) + (1 : Int32)) + (1 : Int32)) x3 x1 (Value.ref x2) (Value.ref x3) v2 h_ n0 O_ f_3 (show n0 ≤ r_48 by first | assumption | omega | decide) f_5 f_6 f_4 f_7 f_8 f_9 f_10 f_11 f_13 (show @LT.lt Nat _ xm r_48 by first | assumption | omega | decide) (show @LT.lt Nat _ xt r_48 by first | assumption | omega | decide) (show @LT.lt Nat _ x3 r_48 by first | assumption | omega | decide) f_12 (show ((((2 : Int32) + (1 : Int32)) + (1 : Int32)) = (2 : Int32) ∧ (Value.ref x2) = Value.null ∧ (Value.ref x3) = Value.null) ∨ ((((2 : Int32) + (1 : Int32)) + (1 : Int32)) = (3 : Int32) ∧ (Value.ref x3) = Value.null) ∨ (((2 : Int32) + (1 : Int32)) + (1 : Int32)) = (4 : Int32) from (by first | exact Or.inl ⟨by decide, rfl, rfl⟩ | exact Or.inr (Or.inl ⟨by decide, rfl⟩) | exact Or.inr (Or.inr (by decide)) | assumption))) (wh hw 296 rfl) (wh hw 110 rfl) e204 f_3  hml (argsL := []) (rest := []) own_pd_24 d7_145 (fun _ T205 L205 X205 hQ205 => ?_)
    obtain ⟨h205, e205⟩ : ∃ z, T205.heap = z := ⟨_, rfl⟩
    rw [e205] at hQ205
    obtain ⟨Nc205, Kc205, rfl, c205_0, c205_1, c205_2, c205_3, c205_4⟩ := hQ205
    have N205 := Fr.app N204 Nc205
    have O206 := O_.keep Kc205 (allS (show n0 ≤ r_48 by omega) all0)
    have sz207 : h_.size ≤ h205.size := Kc205.1
    have K208 := Keep.trans K_ Kc205 (allS (Or.inr (show h0.size ≤ r_48 by omega)) all0)
    have f209 := (f_14.keep Kc205)
    obtain ⟨T210, X210, e210, st210⟩ := castY X205 hx hZ hown (wh hw 305 rfl) e205 (Ins.self f209) (g := (mkF m 150 #[vR xa, vR xl, vR xm, vI 2, vR b33, vI 2, vR r_48, vI u1] [.ref v2])) rfl rfl (hb hby d7_150)
    refine gg st210 ?_
    have f211 := (f_15.keep Kc205 (ninS (nE v2 r_48 (by omega)) nin0))
    refine k_V X210 hx hby hZ hown (wh hw 307 rfl) (wh hw 308 rfl) (wh hw 310 rfl) (wh hw 309 rfl) (W := 0) (own_intValue l Z a0 hw [] v2 u2 h205 n0 O206 f211) (wh hw 311 rfl) (wh hw 213 rfl) e210 f209  hml (argsL := []) (rest := []) own_pd_6 d7_153 (fun _ T212 L212 X212 hQ212 => ?_)
    obtain ⟨Nc212, e212, rfl⟩ := hQ212
    have N212 := Fr.app N205 Nc212
    refine q_istore X212 hx hby d7_156 (l' := #[vR xa, vR xl, vR xm, vI 2, vR b33, vI 2, vR r_48, vI u2]) rfl ?_
    refine q_iload X212 hx hby d7_158 rfl ?_
    refine q_iconst X212 hx hby d7_160 ?_
    by_cases hc213 : u2 < (1 : Int32)
    · refine q_icmpYes (pc := 161) X212 hx hby d7_161 (pc' := 167) (tlt hc213).1 (by decide) (by decide) ?_
      refine q_iload X212 hx hby d7_167 rfl ?_
      refine q_ifYes (pc := 169) X212 hx hby d7_169 (pc' := 182) ((if0 _ _).trans (flt (show ¬ ((0 : Int32) < u2) from (own_posF hc213))).2.2.2) (by decide) (by decide) ?_
      refine q_goto (pc := 182) X212 hx hby d7_182 (pc' := 133) (by decide) (by decide) ?_
      show own_Goes p e below (T212.setTop (mkF m 133 #[vR xa, vR xl, vR xm, vI 2, vR b33, vI 2, vR r_48, vI u2] [])) _
      have f214 := (f_0.keep Kc205)
      have f215 := (f_1.keep Kc205 (ninS (nE xa r_48 (by omega)) nin0))
      have f216 := (f_2.keep Kc205 (ninS (nE xa r_48 (by omega)) nin0))
      have f217 := (f_3.keep Kc205)
      have f218 := (f_16.keep Kc205)
      have f219 := (f_17.keep Kc205 (ninS (nE b33 r_48 (by omega)) nin0))
      exact C_3_2 y0 y1 _ _ _ (by have := own_ltI hc213; have := own_i1; omega) ⟨X212, e212, N212, O206, K208, f214, f215, f216, f217, c205_2, f218, f219⟩
    · refine q_icmpNo X212 hx hby d7_161 (flt hc213).1 ?_
      refine gg (fun t k => XS.iinc X212.here hx rfl (hb hby d7_164) rfl (l' := #[vR xa, vR xl, vR xm, vI ((2 : Int32) + (1 : Int32)), vR b33, vI 2, vR r_48, vI u2]) rfl k) ?_
      show own_Goes p e below (T212.setTop (mkF m 167 #[vR xa, vR xl, vR xm, vI ((2 : Int32) + (1 : Int32)), vR b33, vI 2, vR r_48, vI u2] [])) _
      rw [show ((2 : Int32) + (1 : Int32)) = (3 : Int32) from by decide]
      refine q_iload X212 hx hby d7_167 rfl ?_
      refine q_ifNo X212 hx hby d7_169 ((if0 _ _).trans (tlt (show ((0 : Int32) < u2) from (own_posT hc213))).2.2.2) ?_
      refine q_aload X212 hx hby d7_172 rfl rfl ?_
      refine q_iload X212 hx hby d7_174 rfl ?_
      refine q_iload X212 hx hby d7_176 rfl ?_
      have f220 := (f_17.keep Kc205 (ninS (nE b33 r_48 (by omega)) nin0))
      refine q_stI X212 hx hby hZ e212 f220 2 d7_178 (fun T222 h222 X222 e222 W222 V222 => ?_)
      have O223 := O206.wr W222 (show n0 ≤ b33 by omega)
      have sz224 : h222.size = h205.size := Wr.size W222
      have K225 := K208.wr W222 (Or.inr (show h0.size ≤ b33 by omega))
      have N222 := Fr.snoc X222 N212 (show n0 ≤ b33 by omega)
      have V222 : Arv Z h222 b33 k33 .int (3 : Int32) [.int y0, .int y1, .int u2] (.int 0) := V222
      refine gg (fun t k => XS.iinc X222.here hx rfl (hb hby d7_179) rfl (l' := #[vR xa, vR xl, vR xm, vI 3, vR b33, vI ((2 : Int32) + (1 : Int32)), vR r_48, vI u2]) rfl k) ?_
      show own_Goes p e below (T222.setTop (mkF m 182 #[vR xa, vR xl, vR xm, vI 3, vR b33, vI ((2 : Int32) + (1 : Int32)), vR r_48, vI u2] [])) _
      rw [show ((2 : Int32) + (1 : Int32)) = (3 : Int32) from by decide]
      refine q_goto (pc := 182) X222 hx hby d7_182 (pc' := 133) (by decide) (by decide) ?_
      have f226 := ((f_0.keep Kc205).wr W222)
      have f227 := ((f_1.keep Kc205 (ninS (nE xa r_48 (by omega)) nin0)).other W222 (Or.inl (nE xa b33 (by omega))))
      have f228 := ((f_2.keep Kc205 (ninS (nE xa r_48 (by omega)) nin0)).other W222 (Or.inl (nE xa b33 (by omega))))
      have f229 := ((f_3.keep Kc205).wr W222)
      have f230 := (c205_2.other W222 (Or.inl (nE r_48 b33 (by omega))))
      have f231 := ((f_16.keep Kc205).wr W222)
      exact C_3_3 y0 y1 u2 _ _ _ (by have := own_nltI hc213; have := own_i1; omega) ⟨X222, e222, N222, O223, K225, f226, f227, f228, f229, f230, f231, V222⟩
  have C_1_0 : ∀ (T_ : State) (h_ : Heap) (L_ : List Loc), (u0.toInt ≤ 0) → Stand p l e ({ frames := 4, cells := 6, slots := 12, locals := 79 } : Room) s m #[.ref xa, .ref xl, .ref xm] below meth c T_ L_ 5 9 ∧ T_.heap = h_ ∧ Fr n0 L_ ∧ Old Z n0 h_ ∧ Keep h0 h_ [xa, xm] ∧ Exa Z h_ xa "com/example/dolm/dolm/eval/JudgedRanking" ∧ Fld Z h_ xa "com/example/dolm/dolm/eval/JudgedRanking" "relevantCount" "I" (.int 0) ∧ Fld Z h_ xa "com/example/dolm/dolm/eval/JudgedRanking" "judgedGains" "[I" .null ∧ Exa Z h_ r_48 "java/util/HashMap$ValueIterator" ∧ Fld Z h_ r_48 "java/util/HashMap$HashIterator" "next" "Ljava/util/HashMap$Node;" (.ref x2) ∧ Fld Z h_ r_48 "java/util/HashMap$HashIterator" "this$0" "Ljava/util/HashMap;" (.ref xm) ∧ Fld Z h_ r_48 "java/util/HashMap$HashIterator" "expectedModCount" "I" (.int 3) ∧ Fld Z h_ r_48 "java/util/HashMap$HashIterator" "current" "Ljava/util/HashMap$Node;" (.ref x1) ∧ Fld Z h_ r_48 "java/util/HashMap$HashIterator" "index" "I" (.int ((2 : Int32) + (1 : Int32))) ∧ Fld Z h_ xm "java/util/HashMap" "modCount" "I" (.int 3) ∧ Fld Z h_ xm "java/util/HashMap" "table" "[Ljava/util/HashMap$Node;" (.ref xt) ∧ Arv Z h_ xt xk (.object "java/util/HashMap$Node") (16 : Int32) [.null, .ref x1, .ref x2, .ref x3, .null, .null, .null, .null, .null, .null, .null, .null, .null, .null, .null, .null] .null ∧ Fld Z h_ x2 "java/util/HashMap$Node" "value" "Ljava/lang/Object;" (.ref v1) ∧ Fld Z h_ x2 "java/util/HashMap$Node" "next" "Ljava/util/HashMap$Node;" .null ∧ Exa Z h_ v1 "java/lang/Integer" ∧ Fld Z h_ v1 "java/lang/Integer" "value" "I" (.int u1) ∧ Fld Z h_ x3 "java/util/HashMap$Node" "value" "Ljava/lang/Object;" (.ref v2) ∧ Fld Z h_ x3 "java/util/HashMap$Node" "next" "Ljava/util/HashMap$Node;" .null ∧ Exa Z h_ v2 "java/lang/Integer" ∧ Fld Z h_ v2 "java/lang/Integer" "value" "I" (.int u2) ∧ Exa Z h_ b33 "[I" ∧ Arv Z h_ b33 k33 .int (3 : Int32) [.int 0, .int 0, .int 0] (.int 0) → own_Goes p e below (T_.setTop (mkF m 133 #[vR xa, vR xl, vR xm, vI 0, vR b33, vI 0, vR r_48, vI u0] [])) (own_PostN s (Q_own_jr3 Z xa xl xm xt xk x1 x2 x3 v0 v1 v2 u0 u1 u2 h0 n0) ({ frames := 4, cells := 6, slots := 12, locals := 79 } : Room).cells ({ frames := 4, cells := 6, slots := 12, locals := 79 } : Room).slots) := by
    intro T_ h_ L_ hR ⟨X_, e_, N_, O_, K_, f_0, f_1, f_2, f_3, f_4, f_5, f_6, f_7, f_8, f_9, f_10, f_11, f_12, f_13, f_14, f_15, f_16, f_17, f_18, f_19, f_20, f_21⟩
    have lt_0 : @LT.lt Nat _ xa h_.size := f_0.lt
    have lt_3 : @LT.lt Nat _ r_48 h_.size := f_3.lt
    have lt_11 : @LT.lt Nat _ xt h_.size := f_11.lt
    have lt_14 : @LT.lt Nat _ v1 h_.size := f_14.lt
    have lt_18 : @LT.lt Nat _ v2 h_.size := f_18.lt
    have lt_20 : @LT.lt Nat _ b33 h_.size := f_20.lt
    have lt_21 : @LT.lt Nat _ b33 h_.size := f_21.lt
    show own_Goes p e below (T_.setTop (mkF m 133 #[vR xa, vR xl, vR xm, vI 0, vR b33, vI 0, vR r_48, vI u0] [])) _
    refine q_aload X_ hx hby d7_133 rfl rfl ?_
    refine k_I X_ hx hby hZ hown (wh hw 136 rfl) (wh hw 137 rfl) (wh hw 138 rfl) (wh hw 139 rfl) (wh hw 140 rfl) (wh hw 141 rfl) (wh hw 142 rfl) (wh hw 143 rfl) (W := 0) (own_hasNext1 l Z a0 hw [] r_48 x2 h_ n0 O_ f_4) (wh hw 144 rfl) (wh hw 119 rfl) e_ f_3  hml (argsL := []) (rest := []) own_pd_4 d7_135 (fun _ T232 L232 X232 hQ232 => ?_)
    obtain ⟨Nc232, e232, rfl⟩ := hQ232
    have N232 := Fr.app N_ Nc232
    refine q_ifNo X232 hx hby d7_140 ((if0 _ _).trans (feq (show ¬ ((1 : Int32) = (0 : Int32)) from by decide)).1) ?_
    refine q_aload X232 hx hby d7_143 rfl rfl ?_
    refine k_I X232 hx hby hZ hown (wh hw 289 rfl) (wh hw 290 rfl) (wh hw 291 rfl) (wh hw 292 rfl) (wh hw 293 rfl) (wh hw 294 rfl) (wh hw 295 rfl) (wh hw 143 rfl) (W := 0) (own_nextF l Z a0 hw [] r_48 xm (3 : Int32) xt xk (Value.ref x1) ((2 : Int32) + (1 : Int32)) x2 x1 (Value.ref x2) (Value.ref x3) x3 v1 h_ n0 O_ f_3 (show n0 ≤ r_48 by first | assumption | omega | decide) f_5 f_6 f_4 f_7 f_8 f_9 f_10 f_11 f_13 (show @LT.lt Nat _ xm r_48 by first | assumption | omega | decide) (show @LT.lt Nat _ xt r_48 by first | assumption | omega | decide) (show @LT.lt Nat _ x2 r_48 by first | assumption | omega | decide) f_12 (show ¬ ((2 : Int32) + (1 : Int32)) < 0 ∧ ((2 : Int32) + (1 : Int32)) < (16 : Int32) ∧ List.getD ([.null, .ref x1, (Value.ref x2), (Value.ref x3), .null, .null, .null, .null, .null, .null, .null, .null, .null, .null, .null, .null] : List Value) ((2 : Int32) + (1 : Int32)).toNatClampNeg .null = .ref x3 from (by first | exact ⟨by decide, by decide, rfl⟩ | assumption))) (wh hw 296 rfl) (wh hw 110 rfl) e232 f_3  hml (argsL := []) (rest := []) own_pd_24 d7_145 (fun _ T233 L233 X233 hQ233 => ?_)
    obtain ⟨h233, e233⟩ : ∃ z, T233.heap = z := ⟨_, rfl⟩
    rw [e233] at hQ233
    obtain ⟨Nc233, Kc233, rfl, c233_0, c233_1, c233_2, c233_3, c233_4⟩ := hQ233
    have N233 := Fr.app N232 Nc233
    have O234 := O_.keep Kc233 (allS (show n0 ≤ r_48 by omega) all0)
    have sz235 : h_.size ≤ h233.size := Kc233.1
    have K236 := Keep.trans K_ Kc233 (allS (Or.inr (show h0.size ≤ r_48 by omega)) all0)
    have f237 := (f_14.keep Kc233)
    obtain ⟨T238, X238, e238, st238⟩ := castY X233 hx hZ hown (wh hw 305 rfl) e233 (Ins.self f237) (g := (mkF m 150 #[vR xa, vR xl, vR xm, vI 0, vR b33, vI 0, vR r_48, vI u0] [.ref v1])) rfl rfl (hb hby d7_150)
    refine gg st238 ?_
    have f239 := (f_15.keep Kc233 (ninS (nE v1 r_48 (by omega)) nin0))
    refine k_V X238 hx hby hZ hown (wh hw 307 rfl) (wh hw 308 rfl) (wh hw 310 rfl) (wh hw 309 rfl) (W := 0) (own_intValue l Z a0 hw [] v1 u1 h233 n0 O234 f239) (wh hw 311 rfl) (wh hw 213 rfl) e238 f237  hml (argsL := []) (rest := []) own_pd_6 d7_153 (fun _ T240 L240 X240 hQ240 => ?_)
    obtain ⟨Nc240, e240, rfl⟩ := hQ240
    have N240 := Fr.app N233 Nc240
    refine q_istore X240 hx hby d7_156 (l' := #[vR xa, vR xl, vR xm, vI 0, vR b33, vI 0, vR r_48, vI u1]) rfl ?_
    refine q_iload X240 hx hby d7_158 rfl ?_
    refine q_iconst X240 hx hby d7_160 ?_
    by_cases hc241 : u1 < (1 : Int32)
    · refine q_icmpYes (pc := 161) X240 hx hby d7_161 (pc' := 167) (tlt hc241).1 (by decide) (by decide) ?_
      refine q_iload X240 hx hby d7_167 rfl ?_
      refine q_ifYes (pc := 169) X240 hx hby d7_169 (pc' := 182) ((if0 _ _).trans (flt (show ¬ ((0 : Int32) < u1) from (own_posF hc241))).2.2.2) (by decide) (by decide) ?_
      refine q_goto (pc := 182) X240 hx hby d7_182 (pc' := 133) (by decide) (by decide) ?_
      show own_Goes p e below (T240.setTop (mkF m 133 #[vR xa, vR xl, vR xm, vI 0, vR b33, vI 0, vR r_48, vI u1] [])) _
      have f242 := (f_0.keep Kc233)
      have f243 := (f_1.keep Kc233 (ninS (nE xa r_48 (by omega)) nin0))
      have f244 := (f_2.keep Kc233 (ninS (nE xa r_48 (by omega)) nin0))
      have f245 := (f_3.keep Kc233)
      have f246 := (f_9.keep Kc233 (ninS (nE xm r_48 (by omega)) nin0))
      have f247 := (f_10.keep Kc233 (ninS (nE xm r_48 (by omega)) nin0))
      have f248 := (f_11.keep Kc233 (ninS (nE xt r_48 (by omega)) nin0))
      have f249 := (f_16.keep Kc233 (ninS (nE x3 r_48 (by omega)) nin0))
      have f250 := (f_17.keep Kc233 (ninS (nE x3 r_48 (by omega)) nin0))
      have f251 := (f_18.keep Kc233)
      have f252 := (f_19.keep Kc233 (ninS (nE v2 r_48 (by omega)) nin0))
      have f253 := (f_20.keep Kc233)
      have f254 := (f_21.keep Kc233 (ninS (nE b33 r_48 (by omega)) nin0))
      exact C_2_0 _ _ _ (by have := own_ltI hc241; have := own_i1; omega) ⟨X240, e240, N240, O234, K236, f242, f243, f244, f245, c233_2, c233_0, c233_1, c233_3, c233_4, f246, f247, f248, f249, f250, f251, f252, f253, f254⟩
    · refine q_icmpNo X240 hx hby d7_161 (flt hc241).1 ?_
      refine gg (fun t k => XS.iinc X240.here hx rfl (hb hby d7_164) rfl (l' := #[vR xa, vR xl, vR xm, vI ((0 : Int32) + (1 : Int32)), vR b33, vI 0, vR r_48, vI u1]) rfl k) ?_
      show own_Goes p e below (T240.setTop (mkF m 167 #[vR xa, vR xl, vR xm, vI ((0 : Int32) + (1 : Int32)), vR b33, vI 0, vR r_48, vI u1] [])) _
      rw [show ((0 : Int32) + (1 : Int32)) = (1 : Int32) from by decide]
      refine q_iload X240 hx hby d7_167 rfl ?_
      refine q_ifNo X240 hx hby d7_169 ((if0 _ _).trans (tlt (show ((0 : Int32) < u1) from (own_posT hc241))).2.2.2) ?_
      refine q_aload X240 hx hby d7_172 rfl rfl ?_
      refine q_iload X240 hx hby d7_174 rfl ?_
      refine q_iload X240 hx hby d7_176 rfl ?_
      have f255 := (f_21.keep Kc233 (ninS (nE b33 r_48 (by omega)) nin0))
      refine q_stI X240 hx hby hZ e240 f255 0 d7_178 (fun T257 h257 X257 e257 W257 V257 => ?_)
      have O258 := O234.wr W257 (show n0 ≤ b33 by omega)
      have sz259 : h257.size = h233.size := Wr.size W257
      have K260 := K236.wr W257 (Or.inr (show h0.size ≤ b33 by omega))
      have N257 := Fr.snoc X257 N240 (show n0 ≤ b33 by omega)
      have V257 : Arv Z h257 b33 k33 .int (3 : Int32) [.int u1, .int 0, .int 0] (.int 0) := V257
      refine gg (fun t k => XS.iinc X257.here hx rfl (hb hby d7_179) rfl (l' := #[vR xa, vR xl, vR xm, vI 1, vR b33, vI ((0 : Int32) + (1 : Int32)), vR r_48, vI u1]) rfl k) ?_
      show own_Goes p e below (T257.setTop (mkF m 182 #[vR xa, vR xl, vR xm, vI 1, vR b33, vI ((0 : Int32) + (1 : Int32)), vR r_48, vI u1] [])) _
      rw [show ((0 : Int32) + (1 : Int32)) = (1 : Int32) from by decide]
      refine q_goto (pc := 182) X257 hx hby d7_182 (pc' := 133) (by decide) (by decide) ?_
      have f261 := ((f_0.keep Kc233).wr W257)
      have f262 := ((f_1.keep Kc233 (ninS (nE xa r_48 (by omega)) nin0)).other W257 (Or.inl (nE xa b33 (by omega))))
      have f263 := ((f_2.keep Kc233 (ninS (nE xa r_48 (by omega)) nin0)).other W257 (Or.inl (nE xa b33 (by omega))))
      have f264 := ((f_3.keep Kc233).wr W257)
      have f265 := (c233_2.other W257 (Or.inl (nE r_48 b33 (by omega))))
      have f266 := (c233_0.other W257 (Or.inl (nE r_48 b33 (by omega))))
      have f267 := (c233_1.other W257 (Or.inl (nE r_48 b33 (by omega))))
      have f268 := (c233_3.other W257 (Or.inl (nE r_48 b33 (by omega))))
      have f269 := (c233_4.other W257 (Or.inl (nE r_48 b33 (by omega))))
      have f270 := ((f_9.keep Kc233 (ninS (nE xm r_48 (by omega)) nin0)).other W257 (Or.inl (nE xm b33 (by omega))))
      have f271 := ((f_10.keep Kc233 (ninS (nE xm r_48 (by omega)) nin0)).other W257 (Or.inl (nE xm b33 (by omega))))
      have f272 := ((f_11.keep Kc233 (ninS (nE xt r_48 (by omega)) nin0)).other W257 (nE xt b33 (by omega)))
      have f273 := ((f_16.keep Kc233 (ninS (nE x3 r_48 (by omega)) nin0)).other W257 (Or.inl (nE x3 b33 (by omega))))
      have f274 := ((f_17.keep Kc233 (ninS (nE x3 r_48 (by omega)) nin0)).other W257 (Or.inl (nE x3 b33 (by omega))))
      have f275 := ((f_18.keep Kc233).wr W257)
      have f276 := ((f_19.keep Kc233 (ninS (nE v2 r_48 (by omega)) nin0)).other W257 (Or.inl (nE v2 b33 (by omega))))
      have f277 := ((f_20.keep Kc233).wr W257)
      exact C_2_1 u1 _ _ _ (by have := own_nltI hc241; have := own_i1; omega) ⟨X257, e257, N257, O258, K260, f261, f262, f263, f264, f265, f266, f267, f268, f269, f270, f271, f272, f273, f274, f275, f276, f277, V257⟩
  have C_1_1 : ∀ (y0 : Int32) (T_ : State) (h_ : Heap) (L_ : List Loc), (y0.toInt = u0.toInt ∧ 1 ≤ u0.toInt) → Stand p l e ({ frames := 4, cells := 6, slots := 12, locals := 79 } : Room) s m #[.ref xa, .ref xl, .ref xm] below meth c T_ L_ 5 9 ∧ T_.heap = h_ ∧ Fr n0 L_ ∧ Old Z n0 h_ ∧ Keep h0 h_ [xa, xm] ∧ Exa Z h_ xa "com/example/dolm/dolm/eval/JudgedRanking" ∧ Fld Z h_ xa "com/example/dolm/dolm/eval/JudgedRanking" "relevantCount" "I" (.int 0) ∧ Fld Z h_ xa "com/example/dolm/dolm/eval/JudgedRanking" "judgedGains" "[I" .null ∧ Exa Z h_ r_48 "java/util/HashMap$ValueIterator" ∧ Fld Z h_ r_48 "java/util/HashMap$HashIterator" "next" "Ljava/util/HashMap$Node;" (.ref x2) ∧ Fld Z h_ r_48 "java/util/HashMap$HashIterator" "this$0" "Ljava/util/HashMap;" (.ref xm) ∧ Fld Z h_ r_48 "java/util/HashMap$HashIterator" "expectedModCount" "I" (.int 3) ∧ Fld Z h_ r_48 "java/util/HashMap$HashIterator" "current" "Ljava/util/HashMap$Node;" (.ref x1) ∧ Fld Z h_ r_48 "java/util/HashMap$HashIterator" "index" "I" (.int ((2 : Int32) + (1 : Int32))) ∧ Fld Z h_ xm "java/util/HashMap" "modCount" "I" (.int 3) ∧ Fld Z h_ xm "java/util/HashMap" "table" "[Ljava/util/HashMap$Node;" (.ref xt) ∧ Arv Z h_ xt xk (.object "java/util/HashMap$Node") (16 : Int32) [.null, .ref x1, .ref x2, .ref x3, .null, .null, .null, .null, .null, .null, .null, .null, .null, .null, .null, .null] .null ∧ Fld Z h_ x2 "java/util/HashMap$Node" "value" "Ljava/lang/Object;" (.ref v1) ∧ Fld Z h_ x2 "java/util/HashMap$Node" "next" "Ljava/util/HashMap$Node;" .null ∧ Exa Z h_ v1 "java/lang/Integer" ∧ Fld Z h_ v1 "java/lang/Integer" "value" "I" (.int u1) ∧ Fld Z h_ x3 "java/util/HashMap$Node" "value" "Ljava/lang/Object;" (.ref v2) ∧ Fld Z h_ x3 "java/util/HashMap$Node" "next" "Ljava/util/HashMap$Node;" .null ∧ Exa Z h_ v2 "java/lang/Integer" ∧ Fld Z h_ v2 "java/lang/Integer" "value" "I" (.int u2) ∧ Exa Z h_ b33 "[I" ∧ Arv Z h_ b33 k33 .int (3 : Int32) [.int y0, .int 0, .int 0] (.int 0) → own_Goes p e below (T_.setTop (mkF m 133 #[vR xa, vR xl, vR xm, vI 1, vR b33, vI 1, vR r_48, vI u0] [])) (own_PostN s (Q_own_jr3 Z xa xl xm xt xk x1 x2 x3 v0 v1 v2 u0 u1 u2 h0 n0) ({ frames := 4, cells := 6, slots := 12, locals := 79 } : Room).cells ({ frames := 4, cells := 6, slots := 12, locals := 79 } : Room).slots) := by
    intro y0 T_ h_ L_ hR ⟨X_, e_, N_, O_, K_, f_0, f_1, f_2, f_3, f_4, f_5, f_6, f_7, f_8, f_9, f_10, f_11, f_12, f_13, f_14, f_15, f_16, f_17, f_18, f_19, f_20, f_21⟩
    have lt_0 : @LT.lt Nat _ xa h_.size := f_0.lt
    have lt_3 : @LT.lt Nat _ r_48 h_.size := f_3.lt
    have lt_11 : @LT.lt Nat _ xt h_.size := f_11.lt
    have lt_14 : @LT.lt Nat _ v1 h_.size := f_14.lt
    have lt_18 : @LT.lt Nat _ v2 h_.size := f_18.lt
    have lt_20 : @LT.lt Nat _ b33 h_.size := f_20.lt
    have lt_21 : @LT.lt Nat _ b33 h_.size := f_21.lt
    show own_Goes p e below (T_.setTop (mkF m 133 #[vR xa, vR xl, vR xm, vI 1, vR b33, vI 1, vR r_48, vI u0] [])) _
    refine q_aload X_ hx hby d7_133 rfl rfl ?_
    refine k_I X_ hx hby hZ hown (wh hw 136 rfl) (wh hw 137 rfl) (wh hw 138 rfl) (wh hw 139 rfl) (wh hw 140 rfl) (wh hw 141 rfl) (wh hw 142 rfl) (wh hw 143 rfl) (W := 0) (own_hasNext1 l Z a0 hw [] r_48 x2 h_ n0 O_ f_4) (wh hw 144 rfl) (wh hw 119 rfl) e_ f_3  hml (argsL := []) (rest := []) own_pd_4 d7_135 (fun _ T278 L278 X278 hQ278 => ?_)
    obtain ⟨Nc278, e278, rfl⟩ := hQ278
    have N278 := Fr.app N_ Nc278
    refine q_ifNo X278 hx hby d7_140 ((if0 _ _).trans (feq (show ¬ ((1 : Int32) = (0 : Int32)) from by decide)).1) ?_
    refine q_aload X278 hx hby d7_143 rfl rfl ?_
    refine k_I X278 hx hby hZ hown (wh hw 289 rfl) (wh hw 290 rfl) (wh hw 291 rfl) (wh hw 292 rfl) (wh hw 293 rfl) (wh hw 294 rfl) (wh hw 295 rfl) (wh hw 143 rfl) (W := 0) (own_nextF l Z a0 hw [] r_48 xm (3 : Int32) xt xk (Value.ref x1) ((2 : Int32) + (1 : Int32)) x2 x1 (Value.ref x2) (Value.ref x3) x3 v1 h_ n0 O_ f_3 (show n0 ≤ r_48 by first | assumption | omega | decide) f_5 f_6 f_4 f_7 f_8 f_9 f_10 f_11 f_13 (show @LT.lt Nat _ xm r_48 by first | assumption | omega | decide) (show @LT.lt Nat _ xt r_48 by first | assumption | omega | decide) (show @LT.lt Nat _ x2 r_48 by first | assumption | omega | decide) f_12 (show ¬ ((2 : Int32) + (1 : Int32)) < 0 ∧ ((2 : Int32) + (1 : Int32)) < (16 : Int32) ∧ List.getD ([.null, .ref x1, (Value.ref x2), (Value.ref x3), .null, .null, .null, .null, .null, .null, .null, .null, .null, .null, .null, .null] : List Value) ((2 : Int32) + (1 : Int32)).toNatClampNeg .null = .ref x3 from (by first | exact ⟨by decide, by decide, rfl⟩ | assumption))) (wh hw 296 rfl) (wh hw 110 rfl) e278 f_3  hml (argsL := []) (rest := []) own_pd_24 d7_145 (fun _ T279 L279 X279 hQ279 => ?_)
    obtain ⟨h279, e279⟩ : ∃ z, T279.heap = z := ⟨_, rfl⟩
    rw [e279] at hQ279
    obtain ⟨Nc279, Kc279, rfl, c279_0, c279_1, c279_2, c279_3, c279_4⟩ := hQ279
    have N279 := Fr.app N278 Nc279
    have O280 := O_.keep Kc279 (allS (show n0 ≤ r_48 by omega) all0)
    have sz281 : h_.size ≤ h279.size := Kc279.1
    have K282 := Keep.trans K_ Kc279 (allS (Or.inr (show h0.size ≤ r_48 by omega)) all0)
    have f283 := (f_14.keep Kc279)
    obtain ⟨T284, X284, e284, st284⟩ := castY X279 hx hZ hown (wh hw 305 rfl) e279 (Ins.self f283) (g := (mkF m 150 #[vR xa, vR xl, vR xm, vI 1, vR b33, vI 1, vR r_48, vI u0] [.ref v1])) rfl rfl (hb hby d7_150)
    refine gg st284 ?_
    have f285 := (f_15.keep Kc279 (ninS (nE v1 r_48 (by omega)) nin0))
    refine k_V X284 hx hby hZ hown (wh hw 307 rfl) (wh hw 308 rfl) (wh hw 310 rfl) (wh hw 309 rfl) (W := 0) (own_intValue l Z a0 hw [] v1 u1 h279 n0 O280 f285) (wh hw 311 rfl) (wh hw 213 rfl) e284 f283  hml (argsL := []) (rest := []) own_pd_6 d7_153 (fun _ T286 L286 X286 hQ286 => ?_)
    obtain ⟨Nc286, e286, rfl⟩ := hQ286
    have N286 := Fr.app N279 Nc286
    refine q_istore X286 hx hby d7_156 (l' := #[vR xa, vR xl, vR xm, vI 1, vR b33, vI 1, vR r_48, vI u1]) rfl ?_
    refine q_iload X286 hx hby d7_158 rfl ?_
    refine q_iconst X286 hx hby d7_160 ?_
    by_cases hc287 : u1 < (1 : Int32)
    · refine q_icmpYes (pc := 161) X286 hx hby d7_161 (pc' := 167) (tlt hc287).1 (by decide) (by decide) ?_
      refine q_iload X286 hx hby d7_167 rfl ?_
      refine q_ifYes (pc := 169) X286 hx hby d7_169 (pc' := 182) ((if0 _ _).trans (flt (show ¬ ((0 : Int32) < u1) from (own_posF hc287))).2.2.2) (by decide) (by decide) ?_
      refine q_goto (pc := 182) X286 hx hby d7_182 (pc' := 133) (by decide) (by decide) ?_
      show own_Goes p e below (T286.setTop (mkF m 133 #[vR xa, vR xl, vR xm, vI 1, vR b33, vI 1, vR r_48, vI u1] [])) _
      have f288 := (f_0.keep Kc279)
      have f289 := (f_1.keep Kc279 (ninS (nE xa r_48 (by omega)) nin0))
      have f290 := (f_2.keep Kc279 (ninS (nE xa r_48 (by omega)) nin0))
      have f291 := (f_3.keep Kc279)
      have f292 := (f_9.keep Kc279 (ninS (nE xm r_48 (by omega)) nin0))
      have f293 := (f_10.keep Kc279 (ninS (nE xm r_48 (by omega)) nin0))
      have f294 := (f_11.keep Kc279 (ninS (nE xt r_48 (by omega)) nin0))
      have f295 := (f_16.keep Kc279 (ninS (nE x3 r_48 (by omega)) nin0))
      have f296 := (f_17.keep Kc279 (ninS (nE x3 r_48 (by omega)) nin0))
      have f297 := (f_18.keep Kc279)
      have f298 := (f_19.keep Kc279 (ninS (nE v2 r_48 (by omega)) nin0))
      have f299 := (f_20.keep Kc279)
      have f300 := (f_21.keep Kc279 (ninS (nE b33 r_48 (by omega)) nin0))
      exact C_2_1 y0 _ _ _ (by have := own_ltI hc287; have := own_i1; omega) ⟨X286, e286, N286, O280, K282, f288, f289, f290, f291, c279_2, c279_0, c279_1, c279_3, c279_4, f292, f293, f294, f295, f296, f297, f298, f299, f300⟩
    · refine q_icmpNo X286 hx hby d7_161 (flt hc287).1 ?_
      refine gg (fun t k => XS.iinc X286.here hx rfl (hb hby d7_164) rfl (l' := #[vR xa, vR xl, vR xm, vI ((1 : Int32) + (1 : Int32)), vR b33, vI 1, vR r_48, vI u1]) rfl k) ?_
      show own_Goes p e below (T286.setTop (mkF m 167 #[vR xa, vR xl, vR xm, vI ((1 : Int32) + (1 : Int32)), vR b33, vI 1, vR r_48, vI u1] [])) _
      rw [show ((1 : Int32) + (1 : Int32)) = (2 : Int32) from by decide]
      refine q_iload X286 hx hby d7_167 rfl ?_
      refine q_ifNo X286 hx hby d7_169 ((if0 _ _).trans (tlt (show ((0 : Int32) < u1) from (own_posT hc287))).2.2.2) ?_
      refine q_aload X286 hx hby d7_172 rfl rfl ?_
      refine q_iload X286 hx hby d7_174 rfl ?_
      refine q_iload X286 hx hby d7_176 rfl ?_
      have f301 := (f_21.keep Kc279 (ninS (nE b33 r_48 (by omega)) nin0))
      refine q_stI X286 hx hby hZ e286 f301 1 d7_178 (fun T303 h303 X303 e303 W303 V303 => ?_)
      have O304 := O280.wr W303 (show n0 ≤ b33 by omega)
      have sz305 : h303.size = h279.size := Wr.size W303
      have K306 := K282.wr W303 (Or.inr (show h0.size ≤ b33 by omega))
      have N303 := Fr.snoc X303 N286 (show n0 ≤ b33 by omega)
      have V303 : Arv Z h303 b33 k33 .int (3 : Int32) [.int y0, .int u1, .int 0] (.int 0) := V303
      refine gg (fun t k => XS.iinc X303.here hx rfl (hb hby d7_179) rfl (l' := #[vR xa, vR xl, vR xm, vI 2, vR b33, vI ((1 : Int32) + (1 : Int32)), vR r_48, vI u1]) rfl k) ?_
      show own_Goes p e below (T303.setTop (mkF m 182 #[vR xa, vR xl, vR xm, vI 2, vR b33, vI ((1 : Int32) + (1 : Int32)), vR r_48, vI u1] [])) _
      rw [show ((1 : Int32) + (1 : Int32)) = (2 : Int32) from by decide]
      refine q_goto (pc := 182) X303 hx hby d7_182 (pc' := 133) (by decide) (by decide) ?_
      have f307 := ((f_0.keep Kc279).wr W303)
      have f308 := ((f_1.keep Kc279 (ninS (nE xa r_48 (by omega)) nin0)).other W303 (Or.inl (nE xa b33 (by omega))))
      have f309 := ((f_2.keep Kc279 (ninS (nE xa r_48 (by omega)) nin0)).other W303 (Or.inl (nE xa b33 (by omega))))
      have f310 := ((f_3.keep Kc279).wr W303)
      have f311 := (c279_2.other W303 (Or.inl (nE r_48 b33 (by omega))))
      have f312 := (c279_0.other W303 (Or.inl (nE r_48 b33 (by omega))))
      have f313 := (c279_1.other W303 (Or.inl (nE r_48 b33 (by omega))))
      have f314 := (c279_3.other W303 (Or.inl (nE r_48 b33 (by omega))))
      have f315 := (c279_4.other W303 (Or.inl (nE r_48 b33 (by omega))))
      have f316 := ((f_9.keep Kc279 (ninS (nE xm r_48 (by omega)) nin0)).other W303 (Or.inl (nE xm b33 (by omega))))
      have f317 := ((f_10.keep Kc279 (ninS (nE xm r_48 (by omega)) nin0)).other W303 (Or.inl (nE xm b33 (by omega))))
      have f318 := ((f_11.keep Kc279 (ninS (nE xt r_48 (by omega)) nin0)).other W303 (nE xt b33 (by omega)))
      have f319 := ((f_16.keep Kc279 (ninS (nE x3 r_48 (by omega)) nin0)).other W303 (Or.inl (nE x3 b33 (by omega))))
      have f320 := ((f_17.keep Kc279 (ninS (nE x3 r_48 (by omega)) nin0)).other W303 (Or.inl (nE x3 b33 (by omega))))
      have f321 := ((f_18.keep Kc279).wr W303)
      have f322 := ((f_19.keep Kc279 (ninS (nE v2 r_48 (by omega)) nin0)).other W303 (Or.inl (nE v2 b33 (by omega))))
      have f323 := ((f_20.keep Kc279).wr W303)
      exact C_2_2 y0 u1 _ _ _ (by have := own_nltI hc287; have := own_i1; omega) ⟨X303, e303, N303, O304, K306, f307, f308, f309, f310, f311, f312, f313, f314, f315, f316, f317, f318, f319, f320, f321, f322, f323, V303⟩
  refine q_aload X48 hx hby d7_133 rfl rfl ?_
  refine k_I X48 hx hby hZ hown (wh hw 136 rfl) (wh hw 137 rfl) (wh hw 138 rfl) (wh hw 139 rfl) (wh hw 140 rfl) (wh hw 141 rfl) (wh hw 142 rfl) (wh hw 143 rfl) (W := 0) (own_hasNext1 l Z a0 hw [] r_48 x1 h48 n0 O49 c48_3) (wh hw 144 rfl) (wh hw 119 rfl) e48 c48_0  hml (argsL := []) (rest := []) own_pd_4 d7_135 (fun _ T324 L324 X324 hQ324 => ?_)
  obtain ⟨Nc324, e324, rfl⟩ := hQ324
  have N324 := Fr.app N48 Nc324
  refine q_ifNo X324 hx hby d7_140 ((if0 _ _).trans (feq (show ¬ ((1 : Int32) = (0 : Int32)) from by decide)).1) ?_
  refine q_aload X324 hx hby d7_143 rfl rfl ?_
  have f325 := (c43_1.keep Kc48 nin0)
  have f326 := (c43_3.keep Kc48 nin0)
  have f327 := (f47.keep Kc48 nin0)
  have f328 := (((((((P22.ext E3).other W9 (Or.inl (nE x1 xa (by omega)))).ext E16).other W22 (Or.inl (nE x1 xa (by omega)))).ext E33).keep Kc43 (ninS (nE x1 xm (by omega)) nin0)).keep Kc48 nin0)
  have f329 := (((((((P21.ext E3).other W9 (Or.inl (nE x1 xa (by omega)))).ext E16).other W22 (Or.inl (nE x1 xa (by omega)))).ext E33).keep Kc43 (ninS (nE x1 xm (by omega)) nin0)).keep Kc48 nin0)
  refine k_I X324 hx hby hZ hown (wh hw 289 rfl) (wh hw 290 rfl) (wh hw 291 rfl) (wh hw 292 rfl) (wh hw 293 rfl) (wh hw 294 rfl) (wh hw 295 rfl) (wh hw 143 rfl) (W := 0) (own_nextF l Z a0 hw [] r_48 xm (3 : Int32) xt xk Value.null (2 : Int32) x1 x1 (Value.ref x2) (Value.ref x3) x2 v0 h48 n0 O49 c48_0 (show n0 ≤ r_48 by first | assumption | omega | decide) c48_1 c48_2 c48_3 c48_4 c48_5 f325 f326 f327 f328 (show @LT.lt Nat _ xm r_48 by first | assumption | omega | decide) (show @LT.lt Nat _ xt r_48 by first | assumption | omega | decide) (show @LT.lt Nat _ x1 r_48 by first | assumption | omega | decide) f329 (show ¬ (2 : Int32) < 0 ∧ (2 : Int32) < (16 : Int32) ∧ List.getD ([.null, .ref x1, (Value.ref x2), (Value.ref x3), .null, .null, .null, .null, .null, .null, .null, .null, .null, .null, .null, .null] : List Value) (2 : Int32).toNatClampNeg .null = .ref x2 from (by first | exact ⟨by decide, by decide, rfl⟩ | assumption))) (wh hw 296 rfl) (wh hw 110 rfl) e324 c48_0  hml (argsL := []) (rest := []) own_pd_24 d7_145 (fun _ T330 L330 X330 hQ330 => ?_)
  obtain ⟨h330, e330⟩ : ∃ z, T330.heap = z := ⟨_, rfl⟩
  rw [e330] at hQ330
  obtain ⟨Nc330, Kc330, rfl, c330_0, c330_1, c330_2, c330_3, c330_4⟩ := hQ330
  have N330 := Fr.app N324 Nc330
  have O331 := O49.keep Kc330 (allS (show n0 ≤ r_48 by omega) all0)
  have sz332 : h48.size ≤ h330.size := Kc330.1
  have K333 := Keep.trans K51 Kc330 (allS (Or.inr (show h0.size ≤ r_48 by omega)) all0)
  have f334 := ((((((((P23.ext E3).wr W9).ext E16).wr W22).ext E33).keep Kc43).keep Kc48).keep Kc330)
  obtain ⟨T335, X335, e335, st335⟩ := castY X330 hx hZ hown (wh hw 305 rfl) e330 (Ins.self f334) (g := (mkF m 150 #[vR xa, vR xl, vR xm, vI 0, vR b33, vI 0, vR r_48, uS] [.ref v0])) rfl rfl (hb hby d7_150)
  refine gg st335 ?_
  have f336 := ((((((((P24.ext E3).other W9 (Or.inl (nE v0 xa (by omega)))).ext E16).other W22 (Or.inl (nE v0 xa (by omega)))).ext E33).keep Kc43 (ninS (nE v0 xm (by omega)) nin0)).keep Kc48 nin0).keep Kc330 (ninS (nE v0 r_48 (by omega)) nin0))
  refine k_V X335 hx hby hZ hown (wh hw 307 rfl) (wh hw 308 rfl) (wh hw 310 rfl) (wh hw 309 rfl) (W := 0) (own_intValue l Z a0 hw [] v0 u0 h330 n0 O331 f336) (wh hw 311 rfl) (wh hw 213 rfl) e335 f334  hml (argsL := []) (rest := []) own_pd_6 d7_153 (fun _ T337 L337 X337 hQ337 => ?_)
  obtain ⟨Nc337, e337, rfl⟩ := hQ337
  have N337 := Fr.app N330 Nc337
  refine q_istore X337 hx hby d7_156 (l' := #[vR xa, vR xl, vR xm, vI 0, vR b33, vI 0, vR r_48, vI u0]) rfl ?_
  refine q_iload X337 hx hby d7_158 rfl ?_
  refine q_iconst X337 hx hby d7_160 ?_
  by_cases hc338 : u0 < (1 : Int32)
  · refine q_icmpYes (pc := 161) X337 hx hby d7_161 (pc' := 167) (tlt hc338).1 (by decide) (by decide) ?_
    refine q_iload X337 hx hby d7_167 rfl ?_
    refine q_ifYes (pc := 169) X337 hx hby d7_169 (pc' := 182) ((if0 _ _).trans (flt (show ¬ ((0 : Int32) < u0) from (own_posF hc338))).2.2.2) (by decide) (by decide) ?_
    show own_Goes p e below (T337.setTop (mkF m 182 #[vR xa, vR xl, vR xm, vI 0, vR b33, vI 0, vR r_48, vI u0] [])) _
    refine q_goto (pc := 182) X337 hx hby d7_182 (pc' := 133) (by decide) (by decide) ?_
    have f339 := (((((f21.wr W22).ext E33).keep Kc43).keep Kc48).keep Kc330)
    have f340 := ((((((((P3.ext E3).other W9 (Or.inr (slot_ne (Or.inr (wh hw 146 rfl)) (Or.inr (wh hw 62 rfl)) (by decide) (t := .int) (t' := (.array .boolean)) (by decide) (by decide)))).ext E16).other W22 (Or.inr (slot_ne (Or.inr (wh hw 146 rfl)) (Or.inr (wh hw 65 rfl)) (by decide) (t := .int) (t' := (.array .int)) (by decide) (by decide)))).ext E33).keep Kc43 (ninS (nE xa xm (by omega)) nin0)).keep Kc48 nin0).keep Kc330 (ninS (nE xa r_48 (by omega)) nin0))
    have f341 := ((((((((P4.ext E3).other W9 (Or.inr (slot_ne (Or.inr (wh hw 161 rfl)) (Or.inr (wh hw 62 rfl)) (by decide) (t := (.array .int)) (t' := (.array .boolean)) (by decide) (by decide)))).ext E16).other W22 (Or.inr (slot_ne (Or.inr (wh hw 161 rfl)) (Or.inr (wh hw 65 rfl)) (by decide) (t := (.array .int)) (t' := (.array .int)) (by decide) (by decide)))).ext E33).keep Kc43 (ninS (nE xa xm (by omega)) nin0)).keep Kc48 nin0).keep Kc330 (ninS (nE xa r_48 (by omega)) nin0))
    have f342 := (c48_0.keep Kc330)
    have f343 := (f325.keep Kc330 (ninS (nE xm r_48 (by omega)) nin0))
    have f344 := (f326.keep Kc330 (ninS (nE xm r_48 (by omega)) nin0))
    have f345 := (f327.keep Kc330 (ninS (nE xt r_48 (by omega)) nin0))
    have f346 := ((((((((P30.ext E3).other W9 (Or.inl (nE x2 xa (by omega)))).ext E16).other W22 (Or.inl (nE x2 xa (by omega)))).ext E33).keep Kc43 (ninS (nE x2 xm (by omega)) nin0)).keep Kc48 nin0).keep Kc330 (ninS (nE x2 r_48 (by omega)) nin0))
    have f347 := ((((((((P31.ext E3).other W9 (Or.inl (nE x2 xa (by omega)))).ext E16).other W22 (Or.inl (nE x2 xa (by omega)))).ext E33).keep Kc43 (ninS (nE x2 xm (by omega)) nin0)).keep Kc48 nin0).keep Kc330 (ninS (nE x2 r_48 (by omega)) nin0))
    have f348 := ((((((((P32.ext E3).wr W9).ext E16).wr W22).ext E33).keep Kc43).keep Kc48).keep Kc330)
    have f349 := ((((((((P33.ext E3).other W9 (Or.inl (nE v1 xa (by omega)))).ext E16).other W22 (Or.inl (nE v1 xa (by omega)))).ext E33).keep Kc43 (ninS (nE v1 xm (by omega)) nin0)).keep Kc48 nin0).keep Kc330 (ninS (nE v1 r_48 (by omega)) nin0))
    have f350 := ((((((((P39.ext E3).other W9 (Or.inl (nE x3 xa (by omega)))).ext E16).other W22 (Or.inl (nE x3 xa (by omega)))).ext E33).keep Kc43 (ninS (nE x3 xm (by omega)) nin0)).keep Kc48 nin0).keep Kc330 (ninS (nE x3 r_48 (by omega)) nin0))
    have f351 := ((((((((P40.ext E3).other W9 (Or.inl (nE x3 xa (by omega)))).ext E16).other W22 (Or.inl (nE x3 xa (by omega)))).ext E33).keep Kc43 (ninS (nE x3 xm (by omega)) nin0)).keep Kc48 nin0).keep Kc330 (ninS (nE x3 r_48 (by omega)) nin0))
    have f352 := ((((((((P41.ext E3).wr W9).ext E16).wr W22).ext E33).keep Kc43).keep Kc48).keep Kc330)
    have f353 := ((((((((P42.ext E3).other W9 (Or.inl (nE v2 xa (by omega)))).ext E16).other W22 (Or.inl (nE v2 xa (by omega)))).ext E33).keep Kc43 (ninS (nE v2 xm (by omega)) nin0)).keep Kc48 nin0).keep Kc330 (ninS (nE v2 r_48 (by omega)) nin0))
    have f354 := (((Ex33.keep Kc43).keep Kc48).keep Kc330)
    have f355 := (((V33.keep Kc43 (ninS (nE b33 xm (by omega)) nin0)).keep Kc48 nin0).keep Kc330 (ninS (nE b33 r_48 (by omega)) nin0))
    exact C_1_0 _ _ _ (by have := own_ltI hc338; have := own_i1; omega) ⟨X337, e337, N337, O331, K333, f339, f340, f341, f342, c330_2, c330_0, c330_1, c330_3, c330_4, f343, f344, f345, f346, f347, f348, f349, f350, f351, f352, f353, f354, f355⟩
  · refine q_icmpNo X337 hx hby d7_161 (flt hc338).1 ?_
    refine gg (fun t k => XS.iinc X337.here hx rfl (hb hby d7_164) rfl (l' := #[vR xa, vR xl, vR xm, vI ((0 : Int32) + (1 : Int32)), vR b33, vI 0, vR r_48, vI u0]) rfl k) ?_
    show own_Goes p e below (T337.setTop (mkF m 167 #[vR xa, vR xl, vR xm, vI ((0 : Int32) + (1 : Int32)), vR b33, vI 0, vR r_48, vI u0] [])) _
    rw [show ((0 : Int32) + (1 : Int32)) = (1 : Int32) from by decide]
    refine q_iload X337 hx hby d7_167 rfl ?_
    refine q_ifNo X337 hx hby d7_169 ((if0 _ _).trans (tlt (show ((0 : Int32) < u0) from (own_posT hc338))).2.2.2) ?_
    refine q_aload X337 hx hby d7_172 rfl rfl ?_
    refine q_iload X337 hx hby d7_174 rfl ?_
    refine q_iload X337 hx hby d7_176 rfl ?_
    have f356 := (((V33.keep Kc43 (ninS (nE b33 xm (by omega)) nin0)).keep Kc48 nin0).keep Kc330 (ninS (nE b33 r_48 (by omega)) nin0))
    refine q_stI X337 hx hby hZ e337 f356 0 d7_178 (fun T358 h358 X358 e358 W358 V358 => ?_)
    have O359 := O331.wr W358 (show n0 ≤ b33 by omega)
    have sz360 : h358.size = h330.size := Wr.size W358
    have K361 := K333.wr W358 (Or.inr (show h0.size ≤ b33 by omega))
    have N358 := Fr.snoc X358 N337 (show n0 ≤ b33 by omega)
    have V358 : Arv Z h358 b33 k33 .int (3 : Int32) [.int u0, .int 0, .int 0] (.int 0) := V358
    refine gg (fun t k => XS.iinc X358.here hx rfl (hb hby d7_179) rfl (l' := #[vR xa, vR xl, vR xm, vI 1, vR b33, vI ((0 : Int32) + (1 : Int32)), vR r_48, vI u0]) rfl k) ?_
    show own_Goes p e below (T358.setTop (mkF m 182 #[vR xa, vR xl, vR xm, vI 1, vR b33, vI ((0 : Int32) + (1 : Int32)), vR r_48, vI u0] [])) _
    rw [show ((0 : Int32) + (1 : Int32)) = (1 : Int32) from by decide]
    refine q_goto (pc := 182) X358 hx hby d7_182 (pc' := 133) (by decide) (by decide) ?_
    have f362 := ((((((f21.wr W22).ext E33).keep Kc43).keep Kc48).keep Kc330).wr W358)
    have f363 := (((((((((P3.ext E3).other W9 (Or.inr (slot_ne (Or.inr (wh hw 146 rfl)) (Or.inr (wh hw 62 rfl)) (by decide) (t := .int) (t' := (.array .boolean)) (by decide) (by decide)))).ext E16).other W22 (Or.inr (slot_ne (Or.inr (wh hw 146 rfl)) (Or.inr (wh hw 65 rfl)) (by decide) (t := .int) (t' := (.array .int)) (by decide) (by decide)))).ext E33).keep Kc43 (ninS (nE xa xm (by omega)) nin0)).keep Kc48 nin0).keep Kc330 (ninS (nE xa r_48 (by omega)) nin0)).other W358 (Or.inl (nE xa b33 (by omega))))
    have f364 := (((((((((P4.ext E3).other W9 (Or.inr (slot_ne (Or.inr (wh hw 161 rfl)) (Or.inr (wh hw 62 rfl)) (by decide) (t := (.array .int)) (t' := (.array .boolean)) (by decide) (by decide)))).ext E16).other W22 (Or.inr (slot_ne (Or.inr (wh hw 161 rfl)) (Or.inr (wh hw 65 rfl)) (by decide) (t := (.array .int)) (t' := (.array .int)) (by decide) (by decide)))).ext E33).keep Kc43 (ninS (nE xa xm (by omega)) nin0)).keep Kc48 nin0).keep Kc330 (ninS (nE xa r_48 (by omega)) nin0)).other W358 (Or.inl (nE xa b33 (by omega))))
    have f365 := ((c48_0.keep Kc330).wr W358)
    have f366 := (c330_2.other W358 (Or.inl (nE r_48 b33 (by omega))))
    have f367 := (c330_0.other W358 (Or.inl (nE r_48 b33 (by omega))))
    have f368 := (c330_1.other W358 (Or.inl (nE r_48 b33 (by omega))))
    have f369 := (c330_3.other W358 (Or.inl (nE r_48 b33 (by omega))))
    have f370 := (c330_4.other W358 (Or.inl (nE r_48 b33 (by omega))))
    have f371 := ((f325.keep Kc330 (ninS (nE xm r_48 (by omega)) nin0)).other W358 (Or.inl (nE xm b33 (by omega))))
    have f372 := ((f326.keep Kc330 (ninS (nE xm r_48 (by omega)) nin0)).other W358 (Or.inl (nE xm b33 (by omega))))
    have f373 := ((f327.keep Kc330 (ninS (nE xt r_48 (by omega)) nin0)).other W358 (nE xt b33 (by omega)))
    have f374 := (((((((((P30.ext E3).other W9 (Or.inl (nE x2 xa (by omega)))).ext E16).other W22 (Or.inl (nE x2 xa (by omega)))).ext E33).keep Kc43 (ninS (nE x2 xm (by omega)) nin0)).keep Kc48 nin0).keep Kc330 (ninS (nE x2 r_48 (by omega)) nin0)).other W358 (Or.inl (nE x2 b33 (by omega))))
    have f375 := (((((((((P31.ext E3).other W9 (Or.inl (nE x2 xa (by omega)))).ext E16).other W22 (Or.inl (nE x2 xa (by omega)))).ext E33).keep Kc43 (ninS (nE x2 xm (by omega)) nin0)).keep Kc48 nin0).keep Kc330 (ninS (nE x2 r_48 (by omega)) nin0)).other W358 (Or.inl (nE x2 b33 (by omega))))
    have f376 := (((((((((P32.ext E3).wr W9).ext E16).wr W22).ext E33).keep Kc43).keep Kc48).keep Kc330).wr W358)
    have f377 := (((((((((P33.ext E3).other W9 (Or.inl (nE v1 xa (by omega)))).ext E16).other W22 (Or.inl (nE v1 xa (by omega)))).ext E33).keep Kc43 (ninS (nE v1 xm (by omega)) nin0)).keep Kc48 nin0).keep Kc330 (ninS (nE v1 r_48 (by omega)) nin0)).other W358 (Or.inl (nE v1 b33 (by omega))))
    have f378 := (((((((((P39.ext E3).other W9 (Or.inl (nE x3 xa (by omega)))).ext E16).other W22 (Or.inl (nE x3 xa (by omega)))).ext E33).keep Kc43 (ninS (nE x3 xm (by omega)) nin0)).keep Kc48 nin0).keep Kc330 (ninS (nE x3 r_48 (by omega)) nin0)).other W358 (Or.inl (nE x3 b33 (by omega))))
    have f379 := (((((((((P40.ext E3).other W9 (Or.inl (nE x3 xa (by omega)))).ext E16).other W22 (Or.inl (nE x3 xa (by omega)))).ext E33).keep Kc43 (ninS (nE x3 xm (by omega)) nin0)).keep Kc48 nin0).keep Kc330 (ninS (nE x3 r_48 (by omega)) nin0)).other W358 (Or.inl (nE x3 b33 (by omega))))
    have f380 := (((((((((P41.ext E3).wr W9).ext E16).wr W22).ext E33).keep Kc43).keep Kc48).keep Kc330).wr W358)
    have f381 := (((((((((P42.ext E3).other W9 (Or.inl (nE v2 xa (by omega)))).ext E16).other W22 (Or.inl (nE v2 xa (by omega)))).ext E33).keep Kc43 (ninS (nE v2 xm (by omega)) nin0)).keep Kc48 nin0).keep Kc330 (ninS (nE v2 r_48 (by omega)) nin0)).other W358 (Or.inl (nE v2 b33 (by omega))))
    have f382 := ((((Ex33.keep Kc43).keep Kc48).keep Kc330).wr W358)
    exact C_1_1 u0 _ _ _ (by have := own_nltI hc338; have := own_i1; omega) ⟨X358, e358, N358, O359, K361, f362, f363, f364, f365, f366, f367, f368, f369, f370, f371, f372, f373, f374, f375, f376, f377, f378, f379, f380, f381, f382, V358⟩
theorem own_lt3 {k x : Int32} (h : (3 : Int32) < x) (hk : k.toInt ≤ 3) : k < x := by
  have := own_ltI h
  have e : (3 : Int32).toInt = 3 := by decide
  rw [Int32.lt_iff_toInt_lt]
  omega
theorem own_rank {z : Int32} (h0 : ¬ z < (1 : Int32)) (h1 : ¬ z = (1 : Int32)) (h2 : ¬ z = (2 : Int32)) (h3 : ¬ z = (3 : Int32)) : (3 : Int32) < z := by
  have := own_nltI h0
  have e1 : (1 : Int32).toInt = 1 := by decide
  have e2 : (2 : Int32).toInt = 2 := by decide
  have e3 : (3 : Int32).toInt = 3 := by decide
  rw [← Int32.toInt_inj] at h1 h2 h3
  rw [Int32.lt_iff_toInt_lt]
  omega
theorem own_rkA (x : Int32) : ¬ ((1 : Int32) + (x &&& (7 : Int32))) < (1 : Int32) := by
  have q := c_mask x 7 3 (by decide) (by decide)
  have q2 := c_iadd 1 (x &&& 7)
  have q3 := rng32 ((1 : Int32) + (x &&& 7))
  have e1 : (1 : Int32).toInt = 1 := by decide
  rw [Int32.lt_iff_toInt_lt]
  omega
theorem own_rkB (x : Int32) : ¬ ((1 : Int32) + ((x &&& (2147483647 : Int32)) % (2147483647 : Int32))) < (1 : Int32) := by
  have e : (2147483647 : Int32).toInt = 2147483647 := by decide
  have q := c_and x 2147483647 (by decide)
  have q1 := (c_irem (x &&& 2147483647) 2147483647 2147483647 e).1 q.1
  have q2 := c_iadd 1 ((x &&& 2147483647) % 2147483647)
  have q3 := rng32 ((1 : Int32) + ((x &&& 2147483647) % 2147483647))
  have e1 : (1 : Int32).toInt = 1 := by decide
  rw [Int32.lt_iff_toInt_lt]
  omega
theorem d23_0 : decode B23 0 = .ok (.iload_n 1, 1) := by decide +kernel
theorem d23_1 : decode B23 1 = .ok (.aload_n 0, 1) := by decide +kernel
theorem d23_2 : decode B23 2 = .ok (.getfield 87, 3) := by decide +kernel
theorem d23_5 : decode B23 5 = .ok (.arraylength, 1) := by decide +kernel
theorem d23_6 : decode B23 6 = .ok (.if_icmp .gt 18, 3) := by decide +kernel
theorem d23_24 : decode B23 24 = .ok (.iconst 0, 1) := by decide +kernel
theorem d23_25 : decode B23 25 = .ok (.ireturn, 1) := by decide +kernel
theorem d23_9 : decode B23 9 = .ok (.aload_n 0, 1) := by decide +kernel
theorem d23_10 : decode B23 10 = .ok (.getfield 87, 3) := by decide +kernel
theorem d23_13 : decode B23 13 = .ok (.aload_n 0, 1) := by decide +kernel
theorem d23_14 : decode B23 14 = .ok (.getfield 87, 3) := by decide +kernel
theorem d23_17 : decode B23 17 = .ok (.arraylength, 1) := by decide +kernel
theorem d23_18 : decode B23 18 = .ok (.iload_n 1, 1) := by decide +kernel
theorem d23_19 : decode B23 19 = .ok (.isub, 1) := by decide +kernel
theorem d23_20 : decode B23 20 = .ok (.iaload, 1) := by decide +kernel
theorem d23_21 : decode B23 21 = .ok (.goto 4, 3) := by decide +kernel
theorem own_ef_own_ig1 (m : MethodId) (xa : Addr) (xr : Int32) : entryFrame m #[.ref xa, .int xr] 2 = mkF m 0 #[vR xa, vI xr] [] := by first | (simp [entryFrame, mkF, argsToLocals, Value.category]; done) | rfl
def Q_own_ig1 (Z : State) (xa : Addr) (yh : Int32) (ym : Int32) (yl : Int32) (xr : Int32) (h0 : Heap) (n0 : Nat) (v : Option Value) (h : Heap) (L : List Loc) : Prop := Fr n0 L ∧ h = h0 ∧ v = some (.int yh)
theorem own_ig1 (l : Launch) (Z : State) (a0 : Array Value) (hw : ∀ d ∈ tables_1, d.before a0 Z = true) (ws : List Jvm.Cond) (xa : Addr) (yh : Int32) (ym : Int32) (yl : Int32) (xr : Int32) (h0 : Heap) (n0 : Nat) (O0 : Old Z n0 h0) (P0 : own_Gains Z h0 xa yh ym yl) (P1 : xr = (1 : Int32)) : own_Met l Z (⟨"com/example/dolm/dolm/eval/JudgedRanking", "idealGain", "(I)I"⟩ : MethodName) prog_9_method_5_code 2 (some .int) ws ({ frames := 0, cells := 0, slots := 0, locals := 0 } : Room) #[.ref xa, .int xr] h0 (Q_own_ig1 Z xa yh ym yl xr h0 n0) := by
  refine own_mk (plainFor_of_name own_pn_com_example_dolm_dolm_eval_JudgedRanking) O0 ?_
  intro p e s m below meth c s₁ hx hby hml hZ hown hnm hlk hret X0 e0 N0 z0 z1
  refine own_cast (own_ef_own_ig1 m xa xr) ?_
  show own_Goes p e below (s₁.setTop (mkF m 0 #[vR xa, vI xr] [])) _
  subst P1
  obtain ⟨rg, rk, Fg, hg⟩ := P0
  rcases hg with ⟨Vg, q1, q2, q3⟩ | ⟨z0, Vg, q1, q2, q3⟩ | ⟨z0, z1, Vg, q1, q2, q3⟩ | ⟨z0, z1, z2, Vg, q1, q2, q3⟩
  · show own_Goes p e below (s₁.setTop (mkF m 0 #[vR xa, vI 1] [])) _
    refine q_iloadN X0 hx hby d23_0 rfl ?_
    refine q_aloadN X0 hx hby d23_1 rfl rfl ?_
    refine qG X0 hx hby hZ hown (wh hw 160 rfl) e0 Fg d23_2 (fun T1 X1 e1 => ?_)
    refine q_len X1 hx hby hZ e1 Vg d23_5 ?_
    refine q_icmpYes (pc := 6) X1 hx hby d23_6 (pc' := 24) (tlt (show ((0 : Int32) < (1 : Int32)) from by decide)).2.2.1 (by decide) (by decide) ?_
    refine q_iconst X1 hx hby d23_24 ?_
    refine r_I X1 hx hby hret hlk d23_25 e1 ?_
    exact ⟨N0, rfl, (by rw [q1] <;> rfl)⟩
  · show own_Goes p e below (s₁.setTop (mkF m 0 #[vR xa, vI 1] [])) _
    refine q_iloadN X0 hx hby d23_0 rfl ?_
    refine q_aloadN X0 hx hby d23_1 rfl rfl ?_
    refine qG X0 hx hby hZ hown (wh hw 160 rfl) e0 Fg d23_2 (fun T3 X3 e3 => ?_)
    refine q_len X3 hx hby hZ e3 Vg d23_5 ?_
    refine q_icmpNo X3 hx hby d23_6 (flt (show ¬ ((1 : Int32) < (1 : Int32)) from by decide)).2.2.1 ?_
    refine q_aloadN X3 hx hby d23_9 rfl rfl ?_
    refine qG X3 hx hby hZ hown (wh hw 160 rfl) e3 Fg d23_10 (fun T5 X5 e5 => ?_)
    refine q_aloadN X5 hx hby d23_13 rfl rfl ?_
    refine qG X5 hx hby hZ hown (wh hw 160 rfl) e5 Fg d23_14 (fun T6 X6 e6 => ?_)
    refine q_len X6 hx hby hZ e6 Vg d23_17 ?_
    refine q_iloadN X6 hx hby d23_18 rfl ?_
    refine q_isub X6 hx hby d23_19 ?_
    show own_Goes p e below (T6.setTop (mkF m 20 #[vR xa, vI 1] [(.int ((1 : Int32) - (1 : Int32))), .ref rg])) _
    rw [show ((1 : Int32) - (1 : Int32)) = (0 : Int32) from by decide]
    refine q_iaload X6 hx hby hZ e6 Vg d23_20 (.int z0) ?_
    refine q_goto (pc := 21) X6 hx hby d23_21 (pc' := 25) (by decide) (by decide) ?_
    refine r_I X6 hx hby hret hlk d23_25 e6 ?_
    exact ⟨N0, rfl, (by rw [q1] <;> rfl)⟩
  · show own_Goes p e below (s₁.setTop (mkF m 0 #[vR xa, vI 1] [])) _
    refine q_iloadN X0 hx hby d23_0 rfl ?_
    refine q_aloadN X0 hx hby d23_1 rfl rfl ?_
    refine qG X0 hx hby hZ hown (wh hw 160 rfl) e0 Fg d23_2 (fun T9 X9 e9 => ?_)
    refine q_len X9 hx hby hZ e9 Vg d23_5 ?_
    refine q_icmpNo X9 hx hby d23_6 (flt (show ¬ ((2 : Int32) < (1 : Int32)) from by decide)).2.2.1 ?_
    refine q_aloadN X9 hx hby d23_9 rfl rfl ?_
    refine qG X9 hx hby hZ hown (wh hw 160 rfl) e9 Fg d23_10 (fun T11 X11 e11 => ?_)
    refine q_aloadN X11 hx hby d23_13 rfl rfl ?_
    refine qG X11 hx hby hZ hown (wh hw 160 rfl) e11 Fg d23_14 (fun T12 X12 e12 => ?_)
    refine q_len X12 hx hby hZ e12 Vg d23_17 ?_
    refine q_iloadN X12 hx hby d23_18 rfl ?_
    refine q_isub X12 hx hby d23_19 ?_
    show own_Goes p e below (T12.setTop (mkF m 20 #[vR xa, vI 1] [(.int ((2 : Int32) - (1 : Int32))), .ref rg])) _
    rw [show ((2 : Int32) - (1 : Int32)) = (1 : Int32) from by decide]
    refine q_iaload X12 hx hby hZ e12 Vg d23_20 (.int z1) ?_
    refine q_goto (pc := 21) X12 hx hby d23_21 (pc' := 25) (by decide) (by decide) ?_
    refine r_I X12 hx hby hret hlk d23_25 e12 ?_
    exact ⟨N0, rfl, (by rw [q1] <;> rfl)⟩
  · show own_Goes p e below (s₁.setTop (mkF m 0 #[vR xa, vI 1] [])) _
    refine q_iloadN X0 hx hby d23_0 rfl ?_
    refine q_aloadN X0 hx hby d23_1 rfl rfl ?_
    refine qG X0 hx hby hZ hown (wh hw 160 rfl) e0 Fg d23_2 (fun T15 X15 e15 => ?_)
    refine q_len X15 hx hby hZ e15 Vg d23_5 ?_
    refine q_icmpNo X15 hx hby d23_6 (flt (show ¬ ((3 : Int32) < (1 : Int32)) from by decide)).2.2.1 ?_
    refine q_aloadN X15 hx hby d23_9 rfl rfl ?_
    refine qG X15 hx hby hZ hown (wh hw 160 rfl) e15 Fg d23_10 (fun T17 X17 e17 => ?_)
    refine q_aloadN X17 hx hby d23_13 rfl rfl ?_
    refine qG X17 hx hby hZ hown (wh hw 160 rfl) e17 Fg d23_14 (fun T18 X18 e18 => ?_)
    refine q_len X18 hx hby hZ e18 Vg d23_17 ?_
    refine q_iloadN X18 hx hby d23_18 rfl ?_
    refine q_isub X18 hx hby d23_19 ?_
    show own_Goes p e below (T18.setTop (mkF m 20 #[vR xa, vI 1] [(.int ((3 : Int32) - (1 : Int32))), .ref rg])) _
    rw [show ((3 : Int32) - (1 : Int32)) = (2 : Int32) from by decide]
    refine q_iaload X18 hx hby hZ e18 Vg d23_20 (.int z2) ?_
    refine q_goto (pc := 21) X18 hx hby d23_21 (pc' := 25) (by decide) (by decide) ?_
    refine r_I X18 hx hby hret hlk d23_25 e18 ?_
    exact ⟨N0, rfl, (by rw [q1] <;> rfl)⟩
theorem own_ef_own_ig2 (m : MethodId) (xa : Addr) (xr : Int32) : entryFrame m #[.ref xa, .int xr] 2 = mkF m 0 #[vR xa, vI xr] [] := by first | (simp [entryFrame, mkF, argsToLocals, Value.category]; done) | rfl
def Q_own_ig2 (Z : State) (xa : Addr) (yh : Int32) (ym : Int32) (yl : Int32) (xr : Int32) (h0 : Heap) (n0 : Nat) (v : Option Value) (h : Heap) (L : List Loc) : Prop := Fr n0 L ∧ h = h0 ∧ v = some (.int ym)
theorem own_ig2 (l : Launch) (Z : State) (a0 : Array Value) (hw : ∀ d ∈ tables_1, d.before a0 Z = true) (ws : List Jvm.Cond) (xa : Addr) (yh : Int32) (ym : Int32) (yl : Int32) (xr : Int32) (h0 : Heap) (n0 : Nat) (O0 : Old Z n0 h0) (P0 : own_Gains Z h0 xa yh ym yl) (P1 : xr = (2 : Int32)) : own_Met l Z (⟨"com/example/dolm/dolm/eval/JudgedRanking", "idealGain", "(I)I"⟩ : MethodName) prog_9_method_5_code 2 (some .int) ws ({ frames := 0, cells := 0, slots := 0, locals := 0 } : Room) #[.ref xa, .int xr] h0 (Q_own_ig2 Z xa yh ym yl xr h0 n0) := by
  refine own_mk (plainFor_of_name own_pn_com_example_dolm_dolm_eval_JudgedRanking) O0 ?_
  intro p e s m below meth c s₁ hx hby hml hZ hown hnm hlk hret X0 e0 N0 z0 z1
  refine own_cast (own_ef_own_ig2 m xa xr) ?_
  show own_Goes p e below (s₁.setTop (mkF m 0 #[vR xa, vI xr] [])) _
  subst P1
  obtain ⟨rg, rk, Fg, hg⟩ := P0
  rcases hg with ⟨Vg, q1, q2, q3⟩ | ⟨z0, Vg, q1, q2, q3⟩ | ⟨z0, z1, Vg, q1, q2, q3⟩ | ⟨z0, z1, z2, Vg, q1, q2, q3⟩
  · show own_Goes p e below (s₁.setTop (mkF m 0 #[vR xa, vI 2] [])) _
    refine q_iloadN X0 hx hby d23_0 rfl ?_
    refine q_aloadN X0 hx hby d23_1 rfl rfl ?_
    refine qG X0 hx hby hZ hown (wh hw 160 rfl) e0 Fg d23_2 (fun T1 X1 e1 => ?_)
    refine q_len X1 hx hby hZ e1 Vg d23_5 ?_
    refine q_icmpYes (pc := 6) X1 hx hby d23_6 (pc' := 24) (tlt (show ((0 : Int32) < (2 : Int32)) from by decide)).2.2.1 (by decide) (by decide) ?_
    refine q_iconst X1 hx hby d23_24 ?_
    refine r_I X1 hx hby hret hlk d23_25 e1 ?_
    exact ⟨N0, rfl, (by rw [q2] <;> rfl)⟩
  · show own_Goes p e below (s₁.setTop (mkF m 0 #[vR xa, vI 2] [])) _
    refine q_iloadN X0 hx hby d23_0 rfl ?_
    refine q_aloadN X0 hx hby d23_1 rfl rfl ?_
    refine qG X0 hx hby hZ hown (wh hw 160 rfl) e0 Fg d23_2 (fun T3 X3 e3 => ?_)
    refine q_len X3 hx hby hZ e3 Vg d23_5 ?_
    refine q_icmpYes (pc := 6) X3 hx hby d23_6 (pc' := 24) (tlt (show ((1 : Int32) < (2 : Int32)) from by decide)).2.2.1 (by decide) (by decide) ?_
    refine q_iconst X3 hx hby d23_24 ?_
    refine r_I X3 hx hby hret hlk d23_25 e3 ?_
    exact ⟨N0, rfl, (by rw [q2] <;> rfl)⟩
  · show own_Goes p e below (s₁.setTop (mkF m 0 #[vR xa, vI 2] [])) _
    refine q_iloadN X0 hx hby d23_0 rfl ?_
    refine q_aloadN X0 hx hby d23_1 rfl rfl ?_
    refine qG X0 hx hby hZ hown (wh hw 160 rfl) e0 Fg d23_2 (fun T5 X5 e5 => ?_)
    refine q_len X5 hx hby hZ e5 Vg d23_5 ?_
    refine q_icmpNo X5 hx hby d23_6 (flt (show ¬ ((2 : Int32) < (2 : Int32)) from by decide)).2.2.1 ?_
    refine q_aloadN X5 hx hby d23_9 rfl rfl ?_
    refine qG X5 hx hby hZ hown (wh hw 160 rfl) e5 Fg d23_10 (fun T7 X7 e7 => ?_)
    refine q_aloadN X7 hx hby d23_13 rfl rfl ?_
    refine qG X7 hx hby hZ hown (wh hw 160 rfl) e7 Fg d23_14 (fun T8 X8 e8 => ?_)
    refine q_len X8 hx hby hZ e8 Vg d23_17 ?_
    refine q_iloadN X8 hx hby d23_18 rfl ?_
    refine q_isub X8 hx hby d23_19 ?_
    show own_Goes p e below (T8.setTop (mkF m 20 #[vR xa, vI 2] [(.int ((2 : Int32) - (2 : Int32))), .ref rg])) _
    rw [show ((2 : Int32) - (2 : Int32)) = (0 : Int32) from by decide]
    refine q_iaload X8 hx hby hZ e8 Vg d23_20 (.int z0) ?_
    refine q_goto (pc := 21) X8 hx hby d23_21 (pc' := 25) (by decide) (by decide) ?_
    refine r_I X8 hx hby hret hlk d23_25 e8 ?_
    exact ⟨N0, rfl, (by rw [q2] <;> rfl)⟩
  · show own_Goes p e below (s₁.setTop (mkF m 0 #[vR xa, vI 2] [])) _
    refine q_iloadN X0 hx hby d23_0 rfl ?_
    refine q_aloadN X0 hx hby d23_1 rfl rfl ?_
    refine qG X0 hx hby hZ hown (wh hw 160 rfl) e0 Fg d23_2 (fun T11 X11 e11 => ?_)
    refine q_len X11 hx hby hZ e11 Vg d23_5 ?_
    refine q_icmpNo X11 hx hby d23_6 (flt (show ¬ ((3 : Int32) < (2 : Int32)) from by decide)).2.2.1 ?_
    refine q_aloadN X11 hx hby d23_9 rfl rfl ?_
    refine qG X11 hx hby hZ hown (wh hw 160 rfl) e11 Fg d23_10 (fun T13 X13 e13 => ?_)
    refine q_aloadN X13 hx hby d23_13 rfl rfl ?_
    refine qG X13 hx hby hZ hown (wh hw 160 rfl) e13 Fg d23_14 (fun T14 X14 e14 => ?_)
    refine q_len X14 hx hby hZ e14 Vg d23_17 ?_
    refine q_iloadN X14 hx hby d23_18 rfl ?_
    refine q_isub X14 hx hby d23_19 ?_
    show own_Goes p e below (T14.setTop (mkF m 20 #[vR xa, vI 2] [(.int ((3 : Int32) - (2 : Int32))), .ref rg])) _
    rw [show ((3 : Int32) - (2 : Int32)) = (1 : Int32) from by decide]
    refine q_iaload X14 hx hby hZ e14 Vg d23_20 (.int z1) ?_
    refine q_goto (pc := 21) X14 hx hby d23_21 (pc' := 25) (by decide) (by decide) ?_
    refine r_I X14 hx hby hret hlk d23_25 e14 ?_
    exact ⟨N0, rfl, (by rw [q2] <;> rfl)⟩
theorem own_ef_own_ig3 (m : MethodId) (xa : Addr) (xr : Int32) : entryFrame m #[.ref xa, .int xr] 2 = mkF m 0 #[vR xa, vI xr] [] := by first | (simp [entryFrame, mkF, argsToLocals, Value.category]; done) | rfl
def Q_own_ig3 (Z : State) (xa : Addr) (yh : Int32) (ym : Int32) (yl : Int32) (xr : Int32) (h0 : Heap) (n0 : Nat) (v : Option Value) (h : Heap) (L : List Loc) : Prop := Fr n0 L ∧ h = h0 ∧ v = some (.int yl)
theorem own_ig3 (l : Launch) (Z : State) (a0 : Array Value) (hw : ∀ d ∈ tables_1, d.before a0 Z = true) (ws : List Jvm.Cond) (xa : Addr) (yh : Int32) (ym : Int32) (yl : Int32) (xr : Int32) (h0 : Heap) (n0 : Nat) (O0 : Old Z n0 h0) (P0 : own_Gains Z h0 xa yh ym yl) (P1 : xr = (3 : Int32)) : own_Met l Z (⟨"com/example/dolm/dolm/eval/JudgedRanking", "idealGain", "(I)I"⟩ : MethodName) prog_9_method_5_code 2 (some .int) ws ({ frames := 0, cells := 0, slots := 0, locals := 0 } : Room) #[.ref xa, .int xr] h0 (Q_own_ig3 Z xa yh ym yl xr h0 n0) := by
  refine own_mk (plainFor_of_name own_pn_com_example_dolm_dolm_eval_JudgedRanking) O0 ?_
  intro p e s m below meth c s₁ hx hby hml hZ hown hnm hlk hret X0 e0 N0 z0 z1
  refine own_cast (own_ef_own_ig3 m xa xr) ?_
  show own_Goes p e below (s₁.setTop (mkF m 0 #[vR xa, vI xr] [])) _
  subst P1
  obtain ⟨rg, rk, Fg, hg⟩ := P0
  rcases hg with ⟨Vg, q1, q2, q3⟩ | ⟨z0, Vg, q1, q2, q3⟩ | ⟨z0, z1, Vg, q1, q2, q3⟩ | ⟨z0, z1, z2, Vg, q1, q2, q3⟩
  · show own_Goes p e below (s₁.setTop (mkF m 0 #[vR xa, vI 3] [])) _
    refine q_iloadN X0 hx hby d23_0 rfl ?_
    refine q_aloadN X0 hx hby d23_1 rfl rfl ?_
    refine qG X0 hx hby hZ hown (wh hw 160 rfl) e0 Fg d23_2 (fun T1 X1 e1 => ?_)
    refine q_len X1 hx hby hZ e1 Vg d23_5 ?_
    refine q_icmpYes (pc := 6) X1 hx hby d23_6 (pc' := 24) (tlt (show ((0 : Int32) < (3 : Int32)) from by decide)).2.2.1 (by decide) (by decide) ?_
    refine q_iconst X1 hx hby d23_24 ?_
    refine r_I X1 hx hby hret hlk d23_25 e1 ?_
    exact ⟨N0, rfl, (by rw [q3] <;> rfl)⟩
  · show own_Goes p e below (s₁.setTop (mkF m 0 #[vR xa, vI 3] [])) _
    refine q_iloadN X0 hx hby d23_0 rfl ?_
    refine q_aloadN X0 hx hby d23_1 rfl rfl ?_
    refine qG X0 hx hby hZ hown (wh hw 160 rfl) e0 Fg d23_2 (fun T3 X3 e3 => ?_)
    refine q_len X3 hx hby hZ e3 Vg d23_5 ?_
    refine q_icmpYes (pc := 6) X3 hx hby d23_6 (pc' := 24) (tlt (show ((1 : Int32) < (3 : Int32)) from by decide)).2.2.1 (by decide) (by decide) ?_
    refine q_iconst X3 hx hby d23_24 ?_
    refine r_I X3 hx hby hret hlk d23_25 e3 ?_
    exact ⟨N0, rfl, (by rw [q3] <;> rfl)⟩
  · show own_Goes p e below (s₁.setTop (mkF m 0 #[vR xa, vI 3] [])) _
    refine q_iloadN X0 hx hby d23_0 rfl ?_
    refine q_aloadN X0 hx hby d23_1 rfl rfl ?_
    refine qG X0 hx hby hZ hown (wh hw 160 rfl) e0 Fg d23_2 (fun T5 X5 e5 => ?_)
    refine q_len X5 hx hby hZ e5 Vg d23_5 ?_
    refine q_icmpYes (pc := 6) X5 hx hby d23_6 (pc' := 24) (tlt (show ((2 : Int32) < (3 : Int32)) from by decide)).2.2.1 (by decide) (by decide) ?_
    refine q_iconst X5 hx hby d23_24 ?_
    refine r_I X5 hx hby hret hlk d23_25 e5 ?_
    exact ⟨N0, rfl, (by rw [q3] <;> rfl)⟩
  · show own_Goes p e below (s₁.setTop (mkF m 0 #[vR xa, vI 3] [])) _
    refine q_iloadN X0 hx hby d23_0 rfl ?_
    refine q_aloadN X0 hx hby d23_1 rfl rfl ?_
    refine qG X0 hx hby hZ hown (wh hw 160 rfl) e0 Fg d23_2 (fun T7 X7 e7 => ?_)
    refine q_len X7 hx hby hZ e7 Vg d23_5 ?_
    refine q_icmpNo X7 hx hby d23_6 (flt (show ¬ ((3 : Int32) < (3 : Int32)) from by decide)).2.2.1 ?_
    refine q_aloadN X7 hx hby d23_9 rfl rfl ?_
    refine qG X7 hx hby hZ hown (wh hw 160 rfl) e7 Fg d23_10 (fun T9 X9 e9 => ?_)
    refine q_aloadN X9 hx hby d23_13 rfl rfl ?_
    refine qG X9 hx hby hZ hown (wh hw 160 rfl) e9 Fg d23_14 (fun T10 X10 e10 => ?_)
    refine q_len X10 hx hby hZ e10 Vg d23_17 ?_
    refine q_iloadN X10 hx hby d23_18 rfl ?_
    refine q_isub X10 hx hby d23_19 ?_
    show own_Goes p e below (T10.setTop (mkF m 20 #[vR xa, vI 3] [(.int ((3 : Int32) - (3 : Int32))), .ref rg])) _
    rw [show ((3 : Int32) - (3 : Int32)) = (0 : Int32) from by decide]
    refine q_iaload X10 hx hby hZ e10 Vg d23_20 (.int z0) ?_
    refine q_goto (pc := 21) X10 hx hby d23_21 (pc' := 25) (by decide) (by decide) ?_
    refine r_I X10 hx hby hret hlk d23_25 e10 ?_
    exact ⟨N0, rfl, (by rw [q3] <;> rfl)⟩
theorem own_ef_own_ig4 (m : MethodId) (xa : Addr) (xr : Int32) : entryFrame m #[.ref xa, .int xr] 2 = mkF m 0 #[vR xa, vI xr] [] := by first | (simp [entryFrame, mkF, argsToLocals, Value.category]; done) | rfl
def Q_own_ig4 (Z : State) (xa : Addr) (yh : Int32) (ym : Int32) (yl : Int32) (xr : Int32) (h0 : Heap) (n0 : Nat) (v : Option Value) (h : Heap) (L : List Loc) : Prop := Fr n0 L ∧ h = h0 ∧ v = some (.int 0)
theorem own_ig4 (l : Launch) (Z : State) (a0 : Array Value) (hw : ∀ d ∈ tables_1, d.before a0 Z = true) (ws : List Jvm.Cond) (xa : Addr) (yh : Int32) (ym : Int32) (yl : Int32) (xr : Int32) (h0 : Heap) (n0 : Nat) (O0 : Old Z n0 h0) (P0 : own_Gains Z h0 xa yh ym yl) (P1 : (3 : Int32) < xr) : own_Met l Z (⟨"com/example/dolm/dolm/eval/JudgedRanking", "idealGain", "(I)I"⟩ : MethodName) prog_9_method_5_code 2 (some .int) ws ({ frames := 0, cells := 0, slots := 0, locals := 0 } : Room) #[.ref xa, .int xr] h0 (Q_own_ig4 Z xa yh ym yl xr h0 n0) := by
  refine own_mk (plainFor_of_name own_pn_com_example_dolm_dolm_eval_JudgedRanking) O0 ?_
  intro p e s m below meth c s₁ hx hby hml hZ hown hnm hlk hret X0 e0 N0 z0 z1
  refine own_cast (own_ef_own_ig4 m xa xr) ?_
  show own_Goes p e below (s₁.setTop (mkF m 0 #[vR xa, vI xr] [])) _
  obtain ⟨rg, rk, Fg, hg⟩ := P0
  rcases hg with ⟨Vg, q1, q2, q3⟩ | ⟨z0, Vg, q1, q2, q3⟩ | ⟨z0, z1, Vg, q1, q2, q3⟩ | ⟨z0, z1, z2, Vg, q1, q2, q3⟩
  · show own_Goes p e below (s₁.setTop (mkF m 0 #[vR xa, vI xr] [])) _
    refine q_iloadN X0 hx hby d23_0 rfl ?_
    refine q_aloadN X0 hx hby d23_1 rfl rfl ?_
    refine qG X0 hx hby hZ hown (wh hw 160 rfl) e0 Fg d23_2 (fun T1 X1 e1 => ?_)
    refine q_len X1 hx hby hZ e1 Vg d23_5 ?_
    refine q_icmpYes (pc := 6) X1 hx hby d23_6 (pc' := 24) (tlt (show ((0 : Int32) < xr) from (own_lt3 P1 (by decide)))).2.2.1 (by decide) (by decide) ?_
    refine q_iconst X1 hx hby d23_24 ?_
    refine r_I X1 hx hby hret hlk d23_25 e1 ?_
    exact ⟨N0, rfl, rfl⟩
  · show own_Goes p e below (s₁.setTop (mkF m 0 #[vR xa, vI xr] [])) _
    refine q_iloadN X0 hx hby d23_0 rfl ?_
    refine q_aloadN X0 hx hby d23_1 rfl rfl ?_
    refine qG X0 hx hby hZ hown (wh hw 160 rfl) e0 Fg d23_2 (fun T3 X3 e3 => ?_)
    refine q_len X3 hx hby hZ e3 Vg d23_5 ?_
    refine q_icmpYes (pc := 6) X3 hx hby d23_6 (pc' := 24) (tlt (show ((1 : Int32) < xr) from (own_lt3 P1 (by decide)))).2.2.1 (by decide) (by decide) ?_
    refine q_iconst X3 hx hby d23_24 ?_
    refine r_I X3 hx hby hret hlk d23_25 e3 ?_
    exact ⟨N0, rfl, rfl⟩
  · show own_Goes p e below (s₁.setTop (mkF m 0 #[vR xa, vI xr] [])) _
    refine q_iloadN X0 hx hby d23_0 rfl ?_
    refine q_aloadN X0 hx hby d23_1 rfl rfl ?_
    refine qG X0 hx hby hZ hown (wh hw 160 rfl) e0 Fg d23_2 (fun T5 X5 e5 => ?_)
    refine q_len X5 hx hby hZ e5 Vg d23_5 ?_
    refine q_icmpYes (pc := 6) X5 hx hby d23_6 (pc' := 24) (tlt (show ((2 : Int32) < xr) from (own_lt3 P1 (by decide)))).2.2.1 (by decide) (by decide) ?_
    refine q_iconst X5 hx hby d23_24 ?_
    refine r_I X5 hx hby hret hlk d23_25 e5 ?_
    exact ⟨N0, rfl, rfl⟩
  · show own_Goes p e below (s₁.setTop (mkF m 0 #[vR xa, vI xr] [])) _
    refine q_iloadN X0 hx hby d23_0 rfl ?_
    refine q_aloadN X0 hx hby d23_1 rfl rfl ?_
    refine qG X0 hx hby hZ hown (wh hw 160 rfl) e0 Fg d23_2 (fun T7 X7 e7 => ?_)
    refine q_len X7 hx hby hZ e7 Vg d23_5 ?_
    refine q_icmpYes (pc := 6) X7 hx hby d23_6 (pc' := 24) (tlt (show ((3 : Int32) < xr) from (own_lt3 P1 (by decide)))).2.2.1 (by decide) (by decide) ?_
    refine q_iconst X7 hx hby d23_24 ?_
    refine r_I X7 hx hby hret hlk d23_25 e7 ?_
    exact ⟨N0, rfl, rfl⟩
theorem own_and3 (x : Int32) : (x &&& (3 : Int32)) = (0 : Int32) ∨ (x &&& (3 : Int32)) = (1 : Int32) ∨ (x &&& (3 : Int32)) = (2 : Int32) ∨ (x &&& (3 : Int32)) = (3 : Int32) := by
  have q := c_mask x 3 2 (by decide) (by decide)
  have r : 0 ≤ (x &&& (3 : Int32)).toInt ∧ (x &&& (3 : Int32)).toInt < 4 := by omega
  simp only [← Int32.toInt_inj, show (0 : Int32).toInt = 0 from by decide, show (1 : Int32).toInt = 1 from by decide, show (2 : Int32).toInt = 2 from by decide, show (3 : Int32).toInt = 3 from by decide]
  omega
theorem own_pd_25 : parseMethodDescriptor "(I)I" = some ⟨[.int], some .int⟩ := by decide +kernel
theorem own_pd_26 : parseMethodDescriptor "(Ljava/util/List;Ljava/util/Map;)V" = some ⟨[(.object "java/util/List"), (.object "java/util/Map")], none⟩ := by decide +kernel
theorem own_pd_27 : parseMethodDescriptor "(C)Ljava/lang/String;" = some ⟨[.char], some (.object "java/lang/String")⟩ := by decide +kernel
theorem own_pd_28 : parseMethodDescriptor "(I)Ljava/lang/Integer;" = some ⟨[.int], some (.object "java/lang/Integer")⟩ := by decide +kernel
theorem own_pd_29 : parseMethodDescriptor "(Ljava/lang/Object;Ljava/lang/Object;)Ljava/lang/Object;" = some ⟨[(.object "java/lang/Object"), (.object "java/lang/Object")], some (.object "java/lang/Object")⟩ := by decide +kernel
theorem own_pn_com_example_dolm_dolm_eval_JudgedRankingIdealGainPinLaw : plainName "com/example/dolm/dolm/eval/JudgedRankingIdealGainPinLaw" = true := by first | (simp [plainName, overriddenIn]; done) | decide +kernel
theorem own_ef_rm0 (m : MethodId) (x0 : Int32) (x1 : Int32) (x2 : Int32) (x3 : Int32) (x4 : Int32) : entryFrame m #[.int x0, .int x1, .int x2, .int x3, .int x4] maxLocals = mkF m 0 #[vI x0, vI x1, vI x2, vI x3, vI x4, uS, uS, uS, uS, uS, uS, uS, uS, uS, uS, uS, uS] [] := by first | (simp [entryFrame, mkF, argsToLocals, Value.category, maxLocals]; done) | rfl
def Q_rm0 (Z : State) (x0 : Int32) (x1 : Int32) (x2 : Int32) (x3 : Int32) (x4 : Int32) (gwD : Addr) (gz : Int32) (gwc : Addr) (gcl : Cell) (h0 : Heap) (n0 : Nat) (v : Option Value) (h : Heap) (L : List Loc) : Prop := Fr n0 L ∧ True ∧ v = some (.int 1)
theorem rm0 (l : Launch) (Z : State) (a0 : Array Value) (hw : ∀ d ∈ tables_1, d.before a0 Z = true) (ws : List Jvm.Cond) (x0 : Int32) (x1 : Int32) (x2 : Int32) (x3 : Int32) (x4 : Int32) (h0 : Heap) (n0 : Nat) (O0 : Old Z n0 h0) (gwD : Addr) (gz : Int32) (gwc : Addr) (gcl : Cell) (G : GG Z gwD gz gwc gcl) :
    MetFree l x (head1 (Jvm.Cond.code x code maxLocals ret :: ws) room_1) (fun as_ U_ => as_ = #[.int x0, .int x1, .int x2, .int x3, .int x4] ∧ Z.Warmed39 U_.vm ∧ U_.heap = h0) (fun _ _ _ _ _ => True) (fun _ U_ o_ U2_ => ∃ v_ L_, o_ = .returned v_ ∧ Q_rm0 Z x0 x1 x2 x3 x4 gwD gz gwc gcl h0 n0 v_ U2_.heap L_ ∧ FrameEnd U_ o_ U2_ L_ room_1.cells room_1.slots) := by
  refine MetFree.of_bodySF (plainFor_of_name own_pn_com_example_dolm_dolm_eval_JudgedRankingIdealGainPinLaw) hisR ?_
  intro p e s m args below meth c s₁ Bd hml0 hP hK
  obtain ⟨rfl, hZ, hh⟩ := hP
  have hx := Bd.exec
  have hby := Bd.bytes
  have hml : c.maxLocals = 17 := hml0
  have hown : s.vm.findClass "com/example/dolm/dolm/eval/JudgedRankingIdealGainPinLaw" = some m.cls := findClass_of_methodNamed Bd.named
  have hnm := (name_of_methodNamed Bd.named Bd.method).1
  have hlk : meth.locks = false := Bd.notSynchronized
  have hret := Bd.returns
  have X0 : Stand p l e room_1 s m #[.int x0, .int x1, .int x2, .int x3, .int x4] below meth c s₁ [] 0 0 := Stand.of_body Bd
  have e0 : s₁.heap = h0 := by rw [← hh, Bd.state]; rfl
  have N0 := Fr.nil n0
  have z0 : Z.heap.size = n0 := O0.1
  have z1 : n0 ≤ h0.size := z0 ▸ O0.2.1
  show own_Goes p e below (s₁.setTop (entryFrame m #[.int x0, .int x1, .int x2, .int x3, .int x4] maxLocals)) (own_PostN s (Q_rm0 Z x0 x1 x2 x3 x4 gwD gz gwc gcl h0 n0) room_1.cells room_1.slots)
  refine own_cast (own_ef_rm0 m x0 x1 x2 x3 x4) ?_
  show own_Goes p e below (s₁.setTop (mkF m 0 #[vI x0, vI x1, vI x2, vI x3, vI x4, uS, uS, uS, uS, uS, uS, uS, uS, uS, uS, uS, uS] [])) _
  obtain ⟨G0, G1, G2, G3, G4, G5, G6⟩ := id G
  have ltG1 : @LT.lt Nat _ gwD Z.heap.size := G1.lt
  refine q_iloadN X0 hx hby at_0 rfl ?_
  refine q_iconst X0 hx hby at_1 ?_
  refine q_iand X0 hx hby at_2 ?_
  have TL : ∀ (nn_ rz_ va_ vb_ vc_ : Int32) (la_ lm_ xj_ : Addr) (T_ : State) (h_ : Heap) (L_ : List Loc) (ce_ sl_ : Nat), ce_ ≤ room_1.cells → sl_ ≤ room_1.slots → ¬ rz_ < (1 : Int32) → Stand p l e room_1 s m #[.int x0, .int x1, .int x2, .int x3, .int x4] below meth c T_ L_ ce_ sl_ → T_.heap = h_ → Fr n0 L_ → Old Z n0 h_ → Exa Z h_ xj_ "com/example/dolm/dolm/eval/JudgedRanking" → own_Gains Z h_ xj_ (own_max va_ (own_max vb_ vc_)) (own_max (own_min va_ vb_) (own_min (own_max va_ vb_) vc_)) (own_min va_ (own_min vb_ vc_)) → own_Goes p e below (T_.setTop (mkF m 183 #[vI x0, vI x1, vI x2, vI x3, vI x4, vI nn_, vR la_, vR lm_, vI rz_, vR xj_, vI va_, vI vb_, vI vc_, uS, uS, uS, uS] [])) (own_PostN s (Q_rm0 Z x0 x1 x2 x3 x4 gwD gz gwc gcl h0 n0) room_1.cells room_1.slots) := by
    intro nn_ rz_ va_ vb_ vc_ la_ lm_ xj_ T_ h_ L_ ce_ sl_ hc_ hs_ hr_ X_ e_ N_ O_ ex_ gg_
    show own_Goes p e below (T_.setTop (mkF m 183 #[vI x0, vI x1, vI x2, vI x3, vI x4, vI nn_, vR la_, vR lm_, vI rz_, vR xj_, vI va_, vI vb_, vI vc_, uS, uS, uS, uS] [])) _
    refine q_iload X_ hx hby at_183 rfl ?_
    refine q_iload X_ hx hby at_185 rfl ?_
    refine q_iload X_ hx hby at_187 rfl ?_
    refine k_S X_ hx hby hZ hown (wh hw 175 rfl) (wh hw 176 rfl) (W := 1) (own_maxC l Z a0 hw [] vb_ vc_ h_ n0 O_) (wh hw 178 rfl) (wh hw 177 rfl) e_  hml (argsL := [.int vb_, .int vc_]) (rest := [.int va_]) own_pd_15 at_189 (hc := hc_) (hs := hs_) (fun _ T1 L1 X1 hQ1 => ?_)
    obtain ⟨Nc1, e1, rfl⟩ := hQ1
    have N1 := Fr.app N_ Nc1
    refine k_S X1 hx hby hZ hown (wh hw 175 rfl) (wh hw 176 rfl) (W := 0) (own_maxC l Z a0 hw [] va_ (own_max vb_ vc_) h_ n0 O_) (wh hw 178 rfl) (wh hw 177 rfl) e1  hml (argsL := [.int va_, (.int (own_max vb_ vc_))]) (rest := []) own_pd_15 at_192 (hc := hc_) (hs := hs_) (fun _ T2 L2 X2 hQ2 => ?_)
    obtain ⟨Nc2, e2, rfl⟩ := hQ2
    have N2 := Fr.app N1 Nc2
    refine q_istore X2 hx hby at_195 (l' := #[vI x0, vI x1, vI x2, vI x3, vI x4, vI nn_, vR la_, vR lm_, vI rz_, vR xj_, vI va_, vI vb_, vI vc_, vI (own_max va_ (own_max vb_ vc_)), uS, uS, uS]) rfl ?_
    refine q_iload X2 hx hby at_197 rfl ?_
    refine q_iload X2 hx hby at_199 rfl ?_
    refine q_iload X2 hx hby at_201 rfl ?_
    refine k_S X2 hx hby hZ hown (wh hw 179 rfl) (wh hw 180 rfl) (W := 1) (own_minC l Z a0 hw [] vb_ vc_ h_ n0 O_) (wh hw 181 rfl) (wh hw 177 rfl) e2  hml (argsL := [.int vb_, .int vc_]) (rest := [.int va_]) own_pd_15 at_203 (hc := hc_) (hs := hs_) (fun _ T3 L3 X3 hQ3 => ?_)
    obtain ⟨Nc3, e3, rfl⟩ := hQ3
    have N3 := Fr.app N2 Nc3
    refine k_S X3 hx hby hZ hown (wh hw 179 rfl) (wh hw 180 rfl) (W := 0) (own_minC l Z a0 hw [] va_ (own_min vb_ vc_) h_ n0 O_) (wh hw 181 rfl) (wh hw 177 rfl) e3  hml (argsL := [.int va_, (.int (own_min vb_ vc_))]) (rest := []) own_pd_15 at_206 (hc := hc_) (hs := hs_) (fun _ T4 L4 X4 hQ4 => ?_)
    obtain ⟨Nc4, e4, rfl⟩ := hQ4
    have N4 := Fr.app N3 Nc4
    refine q_istore X4 hx hby at_209 (l' := #[vI x0, vI x1, vI x2, vI x3, vI x4, vI nn_, vR la_, vR lm_, vI rz_, vR xj_, vI va_, vI vb_, vI vc_, vI (own_max va_ (own_max vb_ vc_)), vI (own_min va_ (own_min vb_ vc_)), uS, uS]) rfl ?_
    refine q_iload X4 hx hby at_211 rfl ?_
    refine q_iload X4 hx hby at_213 rfl ?_
    show own_Goes p e below (T4.setTop (mkF m 215 #[vI x0, vI x1, vI x2, vI x3, vI x4, vI nn_, vR la_, vR lm_, vI rz_, vR xj_, vI va_, vI vb_, vI vc_, vI (own_max va_ (own_max vb_ vc_)), vI (own_min va_ (own_min vb_ vc_)), uS, uS] [.int vb_, .int va_])) _
    refine k_S X4 hx hby hZ hown (wh hw 179 rfl) (wh hw 180 rfl) (W := 0) (own_minC l Z a0 hw [] va_ vb_ h_ n0 O_) (wh hw 181 rfl) (wh hw 177 rfl) e4  hml (argsL := [.int va_, .int vb_]) (rest := []) own_pd_15 at_215 (hc := hc_) (hs := hs_) (fun _ T5 L5 X5 hQ5 => ?_)
    obtain ⟨Nc5, e5, rfl⟩ := hQ5
    have N5 := Fr.app N4 Nc5
    refine q_iload X5 hx hby at_218 rfl ?_
    refine q_iload X5 hx hby at_220 rfl ?_
    refine k_S X5 hx hby hZ hown (wh hw 175 rfl) (wh hw 176 rfl) (W := 1) (own_maxC l Z a0 hw [] va_ vb_ h_ n0 O_) (wh hw 178 rfl) (wh hw 177 rfl) e5  hml (argsL := [.int va_, .int vb_]) (rest := [(.int (own_min va_ vb_))]) own_pd_15 at_222 (hc := hc_) (hs := hs_) (fun _ T6 L6 X6 hQ6 => ?_)
    obtain ⟨Nc6, e6, rfl⟩ := hQ6
    have N6 := Fr.app N5 Nc6
    refine q_iload X6 hx hby at_225 rfl ?_
    refine k_S X6 hx hby hZ hown (wh hw 179 rfl) (wh hw 180 rfl) (W := 1) (own_minC l Z a0 hw [] (own_max va_ vb_) vc_ h_ n0 O_) (wh hw 181 rfl) (wh hw 177 rfl) e6  hml (argsL := [(.int (own_max va_ vb_)), .int vc_]) (rest := [(.int (own_min va_ vb_))]) own_pd_15 at_227 (hc := hc_) (hs := hs_) (fun _ T7 L7 X7 hQ7 => ?_)
    obtain ⟨Nc7, e7, rfl⟩ := hQ7
    have N7 := Fr.app N6 Nc7
    refine k_S X7 hx hby hZ hown (wh hw 175 rfl) (wh hw 176 rfl) (W := 0) (own_maxC l Z a0 hw [] (own_min va_ vb_) (own_min (own_max va_ vb_) vc_) h_ n0 O_) (wh hw 178 rfl) (wh hw 177 rfl) e7  hml (argsL := [(.int (own_min va_ vb_)), (.int (own_min (own_max va_ vb_) vc_))]) (rest := []) own_pd_15 at_230 (hc := hc_) (hs := hs_) (fun _ T8 L8 X8 hQ8 => ?_)
    obtain ⟨Nc8, e8, rfl⟩ := hQ8
    have N8 := Fr.app N7 Nc8
    refine q_istore X8 hx hby at_233 (l' := #[vI x0, vI x1, vI x2, vI x3, vI x4, vI nn_, vR la_, vR lm_, vI rz_, vR xj_, vI va_, vI vb_, vI vc_, vI (own_max va_ (own_max vb_ vc_)), vI (own_min va_ (own_min vb_ vc_)), vI (own_max (own_min va_ vb_) (own_min (own_max va_ vb_) vc_)), uS]) rfl ?_
    refine q_iload X8 hx hby at_235 rfl ?_
    refine q_iconst X8 hx hby at_237 ?_
    by_cases hc9 : rz_ = (1 : Int32)
    · refine q_icmpNo X8 hx hby at_238 (teq hc9).2 ?_
      refine q_iload X8 hx hby at_241 rfl ?_
      refine q_istore X8 hx hby at_243 (l' := #[vI x0, vI x1, vI x2, vI x3, vI x4, vI nn_, vR la_, vR lm_, vI rz_, vR xj_, vI va_, vI vb_, vI vc_, vI (own_max va_ (own_max vb_ vc_)), vI (own_min va_ (own_min vb_ vc_)), vI (own_max (own_min va_ vb_) (own_min (own_max va_ vb_) vc_)), vI (own_max va_ (own_max vb_ vc_))]) rfl ?_
      refine q_goto (pc := 245) X8 hx hby at_245 (pc' := 277) (by decide) (by decide) ?_
      show own_Goes p e below (T8.setTop (mkF m 277 #[vI x0, vI x1, vI x2, vI x3, vI x4, vI nn_, vR la_, vR lm_, vI rz_, vR xj_, vI va_, vI vb_, vI vc_, vI (own_max va_ (own_max vb_ vc_)), vI (own_min va_ (own_min vb_ vc_)), vI (own_max (own_min va_ vb_) (own_min (own_max va_ vb_) vc_)), vI (own_max va_ (own_max vb_ vc_))] [])) _
      refine q_aload X8 hx hby at_277 rfl rfl ?_
      refine q_iload X8 hx hby at_279 rfl ?_
      refine k_V X8 hx hby hZ hown (wh hw 182 rfl) (wh hw 183 rfl) (wh hw 185 rfl) (wh hw 184 rfl) (W := 0) (own_ig1 l Z a0 hw [] xj_ (own_max va_ (own_max vb_ vc_)) (own_max (own_min va_ vb_) (own_min (own_max va_ vb_) vc_)) (own_min va_ (own_min vb_ vc_)) rz_ h_ n0 O_ gg_ (show rz_ = (1 : Int32) by first | assumption | omega | decide)) (wh hw 186 rfl) (wh hw 44 rfl) e8 ex_  hml (argsL := [.int rz_]) (rest := []) own_pd_25 at_281 (hc := hc_) (hs := hs_) (fun _ T10 L10 X10 hQ10 => ?_)
      obtain ⟨Nc10, e10, rfl⟩ := hQ10
      have N10 := Fr.app N8 Nc10
      refine q_iload X10 hx hby at_284 rfl ?_
      refine q_icmpNo X10 hx hby at_286 (teq (rfl : (own_max va_ (own_max vb_ vc_)) = (own_max va_ (own_max vb_ vc_)))).2 ?_
      refine q_iconst X10 hx hby at_289 ?_
      refine q_goto (pc := 290) X10 hx hby at_290 (pc' := 294) (by decide) (by decide) ?_
      refine r_Z X10 hx hby hret hlk at_294 e10 ?_ (hk := hc_) (hs := hs_)
      exact ⟨N10, trivial, rfl⟩
    · refine q_icmpYes (pc := 238) X8 hx hby at_238 (pc' := 248) (feq hc9).2 (by decide) (by decide) ?_
      refine q_iload X8 hx hby at_248 rfl ?_
      refine q_iconst X8 hx hby at_250 ?_
      by_cases hc11 : rz_ = (2 : Int32)
      · refine q_icmpNo X8 hx hby at_251 (teq hc11).2 ?_
        refine q_iload X8 hx hby at_254 rfl ?_
        refine q_istore X8 hx hby at_256 (l' := #[vI x0, vI x1, vI x2, vI x3, vI x4, vI nn_, vR la_, vR lm_, vI rz_, vR xj_, vI va_, vI vb_, vI vc_, vI (own_max va_ (own_max vb_ vc_)), vI (own_min va_ (own_min vb_ vc_)), vI (own_max (own_min va_ vb_) (own_min (own_max va_ vb_) vc_)), vI (own_max (own_min va_ vb_) (own_min (own_max va_ vb_) vc_))]) rfl ?_
        refine q_goto (pc := 258) X8 hx hby at_258 (pc' := 277) (by decide) (by decide) ?_
        show own_Goes p e below (T8.setTop (mkF m 277 #[vI x0, vI x1, vI x2, vI x3, vI x4, vI nn_, vR la_, vR lm_, vI rz_, vR xj_, vI va_, vI vb_, vI vc_, vI (own_max va_ (own_max vb_ vc_)), vI (own_min va_ (own_min vb_ vc_)), vI (own_max (own_min va_ vb_) (own_min (own_max va_ vb_) vc_)), vI (own_max (own_min va_ vb_) (own_min (own_max va_ vb_) vc_))] [])) _
        refine q_aload X8 hx hby at_277 rfl rfl ?_
        refine q_iload X8 hx hby at_279 rfl ?_
        refine k_V X8 hx hby hZ hown (wh hw 182 rfl) (wh hw 183 rfl) (wh hw 185 rfl) (wh hw 184 rfl) (W := 0) (own_ig2 l Z a0 hw [] xj_ (own_max va_ (own_max vb_ vc_)) (own_max (own_min va_ vb_) (own_min (own_max va_ vb_) vc_)) (own_min va_ (own_min vb_ vc_)) rz_ h_ n0 O_ gg_ (show rz_ = (2 : Int32) by first | assumption | omega | decide)) (wh hw 186 rfl) (wh hw 44 rfl) e8 ex_  hml (argsL := [.int rz_]) (rest := []) own_pd_25 at_281 (hc := hc_) (hs := hs_) (fun _ T12 L12 X12 hQ12 => ?_)
        obtain ⟨Nc12, e12, rfl⟩ := hQ12
        have N12 := Fr.app N8 Nc12
        refine q_iload X12 hx hby at_284 rfl ?_
        refine q_icmpNo X12 hx hby at_286 (teq (rfl : (own_max (own_min va_ vb_) (own_min (own_max va_ vb_) vc_)) = (own_max (own_min va_ vb_) (own_min (own_max va_ vb_) vc_)))).2 ?_
        refine q_iconst X12 hx hby at_289 ?_
        refine q_goto (pc := 290) X12 hx hby at_290 (pc' := 294) (by decide) (by decide) ?_
        refine r_Z X12 hx hby hret hlk at_294 e12 ?_ (hk := hc_) (hs := hs_)
        exact ⟨N12, trivial, rfl⟩
      · refine q_icmpYes (pc := 251) X8 hx hby at_251 (pc' := 261) (feq hc11).2 (by decide) (by decide) ?_
        refine q_iload X8 hx hby at_261 rfl ?_
        refine q_iconst X8 hx hby at_263 ?_
        by_cases hc13 : rz_ = (3 : Int32)
        · refine q_icmpNo X8 hx hby at_264 (teq hc13).2 ?_
          refine q_iload X8 hx hby at_267 rfl ?_
          refine q_istore X8 hx hby at_269 (l' := #[vI x0, vI x1, vI x2, vI x3, vI x4, vI nn_, vR la_, vR lm_, vI rz_, vR xj_, vI va_, vI vb_, vI vc_, vI (own_max va_ (own_max vb_ vc_)), vI (own_min va_ (own_min vb_ vc_)), vI (own_max (own_min va_ vb_) (own_min (own_max va_ vb_) vc_)), vI (own_min va_ (own_min vb_ vc_))]) rfl ?_
          refine q_goto (pc := 271) X8 hx hby at_271 (pc' := 277) (by decide) (by decide) ?_
          show own_Goes p e below (T8.setTop (mkF m 277 #[vI x0, vI x1, vI x2, vI x3, vI x4, vI nn_, vR la_, vR lm_, vI rz_, vR xj_, vI va_, vI vb_, vI vc_, vI (own_max va_ (own_max vb_ vc_)), vI (own_min va_ (own_min vb_ vc_)), vI (own_max (own_min va_ vb_) (own_min (own_max va_ vb_) vc_)), vI (own_min va_ (own_min vb_ vc_))] [])) _
          refine q_aload X8 hx hby at_277 rfl rfl ?_
          refine q_iload X8 hx hby at_279 rfl ?_
          refine k_V X8 hx hby hZ hown (wh hw 182 rfl) (wh hw 183 rfl) (wh hw 185 rfl) (wh hw 184 rfl) (W := 0) (own_ig3 l Z a0 hw [] xj_ (own_max va_ (own_max vb_ vc_)) (own_max (own_min va_ vb_) (own_min (own_max va_ vb_) vc_)) (own_min va_ (own_min vb_ vc_)) rz_ h_ n0 O_ gg_ (show rz_ = (3 : Int32) by first | assumption | omega | decide)) (wh hw 186 rfl) (wh hw 44 rfl) e8 ex_  hml (argsL := [.int rz_]) (rest := []) own_pd_25 at_281 (hc := hc_) (hs := hs_) (fun _ T14 L14 X14 hQ14 => ?_)
          obtain ⟨Nc14, e14, rfl⟩ := hQ14
          have N14 := Fr.app N8 Nc14
          refine q_iload X14 hx hby at_284 rfl ?_
          refine q_icmpNo X14 hx hby at_286 (teq (rfl : (own_min va_ (own_min vb_ vc_)) = (own_min va_ (own_min vb_ vc_)))).2 ?_
          refine q_iconst X14 hx hby at_289 ?_
          refine q_goto (pc := 290) X14 hx hby at_290 (pc' := 294) (by decide) (by decide) ?_
          refine r_Z X14 hx hby hret hlk at_294 e14 ?_ (hk := hc_) (hs := hs_)
          exact ⟨N14, trivial, rfl⟩
        · refine q_icmpYes (pc := 264) X8 hx hby at_264 (pc' := 274) (feq hc13).2 (by decide) (by decide) ?_
          refine q_iconst X8 hx hby at_274 ?_
          refine q_istore X8 hx hby at_275 (l' := #[vI x0, vI x1, vI x2, vI x3, vI x4, vI nn_, vR la_, vR lm_, vI rz_, vR xj_, vI va_, vI vb_, vI vc_, vI (own_max va_ (own_max vb_ vc_)), vI (own_min va_ (own_min vb_ vc_)), vI (own_max (own_min va_ vb_) (own_min (own_max va_ vb_) vc_)), vI 0]) rfl ?_
          refine q_aload X8 hx hby at_277 rfl rfl ?_
          refine q_iload X8 hx hby at_279 rfl ?_
          refine k_V X8 hx hby hZ hown (wh hw 182 rfl) (wh hw 183 rfl) (wh hw 185 rfl) (wh hw 184 rfl) (W := 0) (own_ig4 l Z a0 hw [] xj_ (own_max va_ (own_max vb_ vc_)) (own_max (own_min va_ vb_) (own_min (own_max va_ vb_) vc_)) (own_min va_ (own_min vb_ vc_)) rz_ h_ n0 O_ gg_ (show (3 : Int32) < rz_ from (own_rank hr_ hc9 hc11 hc13))) (wh hw 186 rfl) (wh hw 44 rfl) e8 ex_  hml (argsL := [.int rz_]) (rest := []) own_pd_25 at_281 (hc := hc_) (hs := hs_) (fun _ T15 L15 X15 hQ15 => ?_)
          obtain ⟨Nc15, e15, rfl⟩ := hQ15
          have N15 := Fr.app N8 Nc15
          refine q_iload X15 hx hby at_284 rfl ?_
          show own_Goes p e below (T15.setTop (mkF m 286 #[vI x0, vI x1, vI x2, vI x3, vI x4, vI nn_, vR la_, vR lm_, vI rz_, vR xj_, vI va_, vI vb_, vI vc_, vI (own_max va_ (own_max vb_ vc_)), vI (own_min va_ (own_min vb_ vc_)), vI (own_max (own_min va_ vb_) (own_min (own_max va_ vb_) vc_)), vI 0] [.int 0, .int 0])) _
          refine q_icmpNo X15 hx hby at_286 (teq (show ((0 : Int32) = (0 : Int32)) from by decide)).2 ?_
          refine q_iconst X15 hx hby at_289 ?_
          refine q_goto (pc := 290) X15 hx hby at_290 (pc' := 294) (by decide) (by decide) ?_
          refine r_Z X15 hx hby hret hlk at_294 e15 ?_ (hk := hc_) (hs := hs_)
          exact ⟨N15, trivial, rfl⟩
  show own_Goes p e below (s₁.setTop (mkF m 3 #[vI x0, vI x1, vI x2, vI x3, vI x4, uS, uS, uS, uS, uS, uS, uS, uS, uS, uS, uS, uS] [(.int (x0 &&& (3 : Int32)))])) _
  rcases own_and3 x0 with hl16 | hl17 | hl18 | hl19
  · rw [hl16]
    show own_Goes p e below (s₁.setTop (mkF m 3 #[vI x0, vI x1, vI x2, vI x3, vI x4, uS, uS, uS, uS, uS, uS, uS, uS, uS, uS, uS, uS] [.int 0])) _
    refine q_istore X0 hx hby at_3 (l' := #[vI x0, vI x1, vI x2, vI x3, vI x4, vI 0, uS, uS, uS, uS, uS, uS, uS, uS, uS, uS, uS]) rfl ?_
    obtain ⟨T20, h20, X20, e20, E20, A20, D20, -, st20⟩ := newO X0 hx hZ hown (wh hw 0 rfl) (wh hw 1 rfl) (wh hw 2 rfl) e0 (g := (mkF m 5 #[vI x0, vI x1, vI x2, vI x3, vI x4, vI 0, uS, uS, uS, uS, uS, uS, uS, uS, uS, uS, uS] [])) rfl (hb hby at_5) (by decide) (by decide)
    obtain ⟨b20, g20⟩ : ∃ z, z = h0.size := ⟨_, rfl⟩
    rw [← g20] at A20 D20 st20
    refine gg st20 ?_
    have O21 := O0.ext E20
    have sz22 : h0.size ≤ h20.size := E20.1
    have l20 : @LT.lt Nat _ b20 h20.size := A20.lt
    have F20_modCount : Fld Z h20 b20 "java/util/AbstractList" "modCount" "I" (.int 0) := D20 (Or.inl (wh hw 22 rfl)) (ty := .int) (by decide)
    have F20_elementData : Fld Z h20 b20 "java/util/ArrayList" "elementData" "[Ljava/lang/Object;" .null := D20 (Or.inl (wh hw 25 rfl)) (ty := (.array (.object "java/lang/Object"))) (by decide)
    have F20_size : Fld Z h20 b20 "java/util/ArrayList" "size" "I" (.int 0) := D20 (Or.inl (wh hw 59 rfl)) (ty := .int) (by decide)
    refine q_dup X20 hx hby at_8 rfl ?_
    refine k_N X20 hx hby hZ hown (wh hw 3 rfl) (wh hw 4 rfl) (W := 1) (own_alInit l Z a0 hw [] b20 h20 n0 O21 gwD gz gwc gcl G A20 F20_modCount (show n0 ≤ b20 by first | assumption | omega | decide) F20_elementData F20_size) (wh hw 5 rfl) (wh hw 2 rfl) e20  hml (argsL := []) (rest := [.ref b20]) own_pd_0 at_9 (fun _ T23 L23 X23 hQ23 => ?_)
    obtain ⟨h23, e23⟩ : ∃ z, T23.heap = z := ⟨_, rfl⟩
    rw [e23] at hQ23
    obtain ⟨Nc23, Kc23, rfl, c23_0⟩ := hQ23
    have N23 := Fr.app N0 Nc23
    have O24 := O21.keep Kc23 (allS (show n0 ≤ b20 by omega) all0)
    have sz25 : h20.size ≤ h23.size := Kc23.1
    refine q_astore X23 hx hby at_12 rfl (l' := #[vI x0, vI x1, vI x2, vI x3, vI x4, vI 0, vR b20, uS, uS, uS, uS, uS, uS, uS, uS, uS, uS]) rfl ?_
    obtain ⟨T26, h26, X26, e26, E26, A26, D26, -, st26⟩ := newO X23 hx hZ hown (wh hw 26 rfl) (wh hw 27 rfl) (wh hw 28 rfl) e23 (g := (mkF m 14 #[vI x0, vI x1, vI x2, vI x3, vI x4, vI 0, vR b20, uS, uS, uS, uS, uS, uS, uS, uS, uS, uS] [])) rfl (hb hby at_14) (by decide) (by decide)
    obtain ⟨b26, g26⟩ : ∃ z, z = h23.size := ⟨_, rfl⟩
    rw [← g26] at A26 D26 st26
    refine gg st26 ?_
    have O27 := O24.ext E26
    have sz28 : h23.size ≤ h26.size := E26.1
    have l26 : @LT.lt Nat _ b26 h26.size := A26.lt
    have F26_loadFactor : Fld Z h26 b26 "java/util/HashMap" "loadFactor" "F" (.float (0 : UInt32)) := D26 (Or.inr (wh hw 41 rfl)) (ty := .float) (by decide)
    have F26_size : Fld Z h26 b26 "java/util/HashMap" "size" "I" (.int 0) := D26 (Or.inl (wh hw 76 rfl)) (ty := .int) (by decide)
    have F26_values : Fld Z h26 b26 "java/util/AbstractMap" "values" "Ljava/util/Collection;" .null := D26 (Or.inl (wh hw 87 rfl)) (ty := (.object "java/util/Collection")) (by decide)
    have F26_modCount : Fld Z h26 b26 "java/util/HashMap" "modCount" "I" (.int 0) := D26 (Or.inl (wh hw 125 rfl)) (ty := .int) (by decide)
    have F26_table : Fld Z h26 b26 "java/util/HashMap" "table" "[Ljava/util/HashMap$Node;" .null := D26 (Or.inl (wh hw 129 rfl)) (ty := (.array (.object "java/util/HashMap$Node"))) (by decide)
    have F26_threshold : Fld Z h26 b26 "java/util/HashMap" "threshold" "I" (.int 0) := D26 (Or.inl (wh hw 259 rfl)) (ty := .int) (by decide)
    refine q_dup X26 hx hby at_17 rfl ?_
    refine k_N X26 hx hby hZ hown (wh hw 29 rfl) (wh hw 30 rfl) (W := 1) (own_hmInit l Z a0 hw [] b26 h26 n0 O27 A26 F26_loadFactor (show n0 ≤ b26 by first | assumption | omega | decide) F26_size F26_modCount F26_threshold F26_table F26_values) (wh hw 31 rfl) (wh hw 28 rfl) e26  hml (argsL := []) (rest := [.ref b26]) own_pd_0 at_18 (fun _ T29 L29 X29 hQ29 => ?_)
    obtain ⟨h29, e29⟩ : ∃ z, T29.heap = z := ⟨_, rfl⟩
    rw [e29] at hQ29
    obtain ⟨Nc29, Kc29, rfl, c29_0, c29_1, c29_2, c29_3, c29_4⟩ := hQ29
    have N29 := Fr.app N23 Nc29
    have O30 := O27.keep Kc29 (allS (show n0 ≤ b26 by omega) all0)
    have sz31 : h26.size ≤ h29.size := Kc29.1
    refine q_astore X29 hx hby at_21 rfl (l' := #[vI x0, vI x1, vI x2, vI x3, vI x4, vI 0, vR b20, vR b26, uS, uS, uS, uS, uS, uS, uS, uS, uS]) rfl ?_
    refine q_iload X29 hx hby at_23 rfl ?_
    refine q_iconst X29 hx hby at_25 ?_
    refine q_icmpYes (pc := 26) X29 hx hby at_26 (pc' := 46) (tlt (show ((0 : Int32) < (1 : Int32)) from by decide)).1 (by decide) (by decide) ?_
    refine q_iload X29 hx hby at_46 rfl ?_
    refine q_iconst X29 hx hby at_48 ?_
    show own_Goes p e below (T29.setTop (mkF m 49 #[vI x0, vI x1, vI x2, vI x3, vI x4, vI 0, vR b20, vR b26, uS, uS, uS, uS, uS, uS, uS, uS, uS] [.int 2, .int 0])) _
    refine q_icmpYes (pc := 49) X29 hx hby at_49 (pc' := 69) (tlt (show ((0 : Int32) < (2 : Int32)) from by decide)).1 (by decide) (by decide) ?_
    refine q_iload X29 hx hby at_69 rfl ?_
    refine q_iconst X29 hx hby at_71 ?_
    refine q_icmpYes (pc := 72) X29 hx hby at_72 (pc' := 92) (tlt (show ((0 : Int32) < (3 : Int32)) from by decide)).1 (by decide) (by decide) ?_
    refine q_iload X29 hx hby at_92 rfl ?_
    have Jz32 : ∀ z32 : Int32, ¬ z32 < (1 : Int32) → own_Goes p e below (T29.setTop (mkF m 117 #[vI x0, vI x1, vI x2, vI x3, vI x4, vI 0, vR b20, vR b26, uS, uS, uS, uS, uS, uS, uS, uS, uS] [.int z32])) (own_PostN s (Q_rm0 Z x0 x1 x2 x3 x4 gwD gz gwc gcl h0 n0) room_1.cells room_1.slots) := by
      intro z32 hrz32
      show own_Goes p e below (T29.setTop (mkF m 117 #[vI x0, vI x1, vI x2, vI x3, vI x4, vI 0, vR b20, vR b26, uS, uS, uS, uS, uS, uS, uS, uS, uS] [.int z32])) _
      refine q_istore X29 hx hby at_117 (l' := #[vI x0, vI x1, vI x2, vI x3, vI x4, vI 0, vR b20, vR b26, vI z32, uS, uS, uS, uS, uS, uS, uS, uS]) rfl ?_
      obtain ⟨T33, h33, X33, e33, E33, A33, D33, -, st33⟩ := newO X29 hx hZ hown (wh hw 42 rfl) (wh hw 43 rfl) (wh hw 44 rfl) e29 (g := (mkF m 119 #[vI x0, vI x1, vI x2, vI x3, vI x4, vI 0, vR b20, vR b26, vI z32, uS, uS, uS, uS, uS, uS, uS, uS] [])) rfl (hb hby at_119) (by decide) (by decide)
      obtain ⟨b33, g33⟩ : ∃ z, z = h29.size := ⟨_, rfl⟩
      rw [← g33] at A33 D33 st33
      refine gg st33 ?_
      have O34 := O30.ext E33
      have sz35 : h29.size ≤ h33.size := E33.1
      have l33 : @LT.lt Nat _ b33 h33.size := A33.lt
      have F33_relevant : Fld Z h33 b33 "com/example/dolm/dolm/eval/JudgedRanking" "relevant" "[Z" .null := D33 (Or.inr (wh hw 62 rfl)) (ty := (.array .boolean)) (by decide)
      have F33_gains : Fld Z h33 b33 "com/example/dolm/dolm/eval/JudgedRanking" "gains" "[I" .null := D33 (Or.inr (wh hw 65 rfl)) (ty := (.array .int)) (by decide)
      have F33_relevantCount : Fld Z h33 b33 "com/example/dolm/dolm/eval/JudgedRanking" "relevantCount" "I" (.int 0) := D33 (Or.inr (wh hw 146 rfl)) (ty := .int) (by decide)
      have F33_judgedGains : Fld Z h33 b33 "com/example/dolm/dolm/eval/JudgedRanking" "judgedGains" "[I" .null := D33 (Or.inr (wh hw 161 rfl)) (ty := (.array .int)) (by decide)
      refine q_dup X33 hx hby at_122 rfl ?_
      refine q_aload X33 hx hby at_123 rfl rfl ?_
      refine q_aload X33 hx hby at_125 rfl rfl ?_
      have f36 := ((((A20.keep Kc23).ext E26).keep Kc29).ext E33)
      have f37 := (((c23_0.ext E26).keep Kc29 (ninS (nE b20 b26 (by omega)) nin0)).ext E33)
      have f38 := ((A26.keep Kc29).ext E33)
      have f39 := (c29_0.ext E33)
      have f40 := (c29_1.ext E33)
      have f41 := (c29_2.ext E33)
      have f42 := (c29_3.ext E33)
      have f43 := (c29_4.ext E33)
      refine k_N X33 hx hby hZ hown (wh hw 45 rfl) (wh hw 46 rfl) (W := 1) (own_jr0 l Z a0 hw [] b33 b20 b26 h33 n0 O34 A33 F33_relevant F33_gains F33_relevantCount F33_judgedGains (show n0 ≤ b33 by first | assumption | omega | decide) (show n0 ≤ b26 by first | assumption | omega | decide) f36 f37 f38 f39 f40 f41 f42 f43 (show @LT.lt Nat _ b26 b33 by first | assumption | omega | decide) (show @LT.lt Nat _ b20 b26 by first | assumption | omega | decide)) (wh hw 47 rfl) (wh hw 44 rfl) e33  hml (argsL := [.ref b20, .ref b26]) (rest := [.ref b33]) own_pd_26 at_127 (fun _ T44 L44 X44 hQ44 => ?_)
      obtain ⟨h44, e44⟩ : ∃ z, T44.heap = z := ⟨_, rfl⟩
      rw [e44] at hQ44
      obtain ⟨Nc44, Kc44, rfl, c44_0⟩ := hQ44
      have N44 := Fr.app N29 Nc44
      have O45 := O34.keep Kc44 (allS (show n0 ≤ b33 by omega) (allS (show n0 ≤ b26 by omega) all0))
      have sz46 : h33.size ≤ h44.size := Kc44.1
      refine q_astore X44 hx hby at_130 rfl (l' := #[vI x0, vI x1, vI x2, vI x3, vI x4, vI 0, vR b20, vR b26, vI z32, vR b33, uS, uS, uS, uS, uS, uS, uS]) rfl ?_
      refine q_iload X44 hx hby at_132 rfl ?_
      refine q_iconst X44 hx hby at_134 ?_
      refine q_icmpYes (pc := 135) X44 hx hby at_135 (pc' := 146) (tlt (show ((0 : Int32) < (1 : Int32)) from by decide)).1 (by decide) (by decide) ?_
      refine q_iconst X44 hx hby at_146 ?_
      refine q_istore X44 hx hby at_147 (l' := #[vI x0, vI x1, vI x2, vI x3, vI x4, vI 0, vR b20, vR b26, vI z32, vR b33, vI 0, uS, uS, uS, uS, uS, uS]) rfl ?_
      refine q_iload X44 hx hby at_149 rfl ?_
      refine q_iconst X44 hx hby at_151 ?_
      show own_Goes p e below (T44.setTop (mkF m 152 #[vI x0, vI x1, vI x2, vI x3, vI x4, vI 0, vR b20, vR b26, vI z32, vR b33, vI 0, uS, uS, uS, uS, uS, uS] [.int 2, .int 0])) _
      refine q_icmpYes (pc := 152) X44 hx hby at_152 (pc' := 163) (tlt (show ((0 : Int32) < (2 : Int32)) from by decide)).1 (by decide) (by decide) ?_
      refine q_iconst X44 hx hby at_163 ?_
      refine q_istore X44 hx hby at_164 (l' := #[vI x0, vI x1, vI x2, vI x3, vI x4, vI 0, vR b20, vR b26, vI z32, vR b33, vI 0, vI 0, uS, uS, uS, uS, uS]) rfl ?_
      refine q_iload X44 hx hby at_166 rfl ?_
      refine q_iconst X44 hx hby at_168 ?_
      refine q_icmpYes (pc := 169) X44 hx hby at_169 (pc' := 180) (tlt (show ((0 : Int32) < (3 : Int32)) from by decide)).1 (by decide) (by decide) ?_
      refine q_iconst X44 hx hby at_180 ?_
      refine q_istore X44 hx hby at_181 (l' := #[vI x0, vI x1, vI x2, vI x3, vI x4, vI 0, vR b20, vR b26, vI z32, vR b33, vI 0, vI 0, vI 0, uS, uS, uS, uS]) rfl ?_
      have f47 := (A33.keep Kc44)
      exact TL (0 : Int32) z32 (0 : Int32) (0 : Int32) (0 : Int32) b20 b26 b33 _ _ _ _ _ (by decide) (by decide) hrz32 X44 e44 N44 O45 f47 c44_0
    by_cases hc48 : x4 < (0 : Int32)
    · refine q_ifYes (pc := 94) X29 hx hby at_94 (pc' := 107) ((if0 _ _).trans (tlt hc48).1) (by decide) (by decide) ?_
      refine q_iconst X29 hx hby at_107 ?_
      refine q_iload X29 hx hby at_108 rfl ?_
      refine gg (fun t k => Jvm.Stand.ldcI X29 hx hown (mv hZ (wh hw 314 rfl)) rfl (hb hby at_110) k) ?_
      refine q_iand X29 hx hby at_112 ?_
      refine gg (fun t k => Jvm.Stand.ldcI X29 hx hown (mv hZ (wh hw 314 rfl)) rfl (hb hby at_113) k) ?_
      show own_Goes p e below (T29.setTop (mkF m 115 #[vI x0, vI x1, vI x2, vI x3, vI x4, vI 0, vR b20, vR b26, uS, uS, uS, uS, uS, uS, uS, uS, uS] [.int 2147483647, (.int (x4 &&& (2147483647 : Int32))), .int 1])) _
      refine gg (fun t k => iremM X29 hx rfl (hb hby at_115) rfl (by decide) k) ?_
      refine q_iadd X29 hx hby at_116 ?_
      exact Jz32 ((1 : Int32) + ((x4 &&& (2147483647 : Int32)) % (2147483647 : Int32))) (own_rkB _)
    · refine q_ifNo X29 hx hby at_94 ((if0 _ _).trans (flt hc48).1) ?_
      refine q_iconst X29 hx hby at_97 ?_
      refine q_iload X29 hx hby at_98 rfl ?_
      refine q_bipush X29 hx hby at_100 ?_
      refine q_iand X29 hx hby at_102 ?_
      refine q_iadd X29 hx hby at_103 ?_
      refine q_goto (pc := 104) X29 hx hby at_104 (pc' := 117) (by decide) (by decide) ?_
      exact Jz32 ((1 : Int32) + (x4 &&& (7 : Int32))) (own_rkA _)
  · rw [hl17]
    show own_Goes p e below (s₁.setTop (mkF m 3 #[vI x0, vI x1, vI x2, vI x3, vI x4, uS, uS, uS, uS, uS, uS, uS, uS, uS, uS, uS, uS] [.int 1])) _
    refine q_istore X0 hx hby at_3 (l' := #[vI x0, vI x1, vI x2, vI x3, vI x4, vI 1, uS, uS, uS, uS, uS, uS, uS, uS, uS, uS, uS]) rfl ?_
    obtain ⟨T49, h49, X49, e49, E49, A49, D49, -, st49⟩ := newO X0 hx hZ hown (wh hw 0 rfl) (wh hw 1 rfl) (wh hw 2 rfl) e0 (g := (mkF m 5 #[vI x0, vI x1, vI x2, vI x3, vI x4, vI 1, uS, uS, uS, uS, uS, uS, uS, uS, uS, uS, uS] [])) rfl (hb hby at_5) (by decide) (by decide)
    obtain ⟨b49, g49⟩ : ∃ z, z = h0.size := ⟨_, rfl⟩
    rw [← g49] at A49 D49 st49
    refine gg st49 ?_
    have O50 := O0.ext E49
    have sz51 : h0.size ≤ h49.size := E49.1
    have l49 : @LT.lt Nat _ b49 h49.size := A49.lt
    have F49_modCount : Fld Z h49 b49 "java/util/AbstractList" "modCount" "I" (.int 0) := D49 (Or.inl (wh hw 22 rfl)) (ty := .int) (by decide)
    have F49_elementData : Fld Z h49 b49 "java/util/ArrayList" "elementData" "[Ljava/lang/Object;" .null := D49 (Or.inl (wh hw 25 rfl)) (ty := (.array (.object "java/lang/Object"))) (by decide)
    have F49_size : Fld Z h49 b49 "java/util/ArrayList" "size" "I" (.int 0) := D49 (Or.inl (wh hw 59 rfl)) (ty := .int) (by decide)
    refine q_dup X49 hx hby at_8 rfl ?_
    refine k_N X49 hx hby hZ hown (wh hw 3 rfl) (wh hw 4 rfl) (W := 1) (own_alInit l Z a0 hw [] b49 h49 n0 O50 gwD gz gwc gcl G A49 F49_modCount (show n0 ≤ b49 by first | assumption | omega | decide) F49_elementData F49_size) (wh hw 5 rfl) (wh hw 2 rfl) e49  hml (argsL := []) (rest := [.ref b49]) own_pd_0 at_9 (fun _ T52 L52 X52 hQ52 => ?_)
    obtain ⟨h52, e52⟩ : ∃ z, T52.heap = z := ⟨_, rfl⟩
    rw [e52] at hQ52
    obtain ⟨Nc52, Kc52, rfl, c52_0⟩ := hQ52
    have N52 := Fr.app N0 Nc52
    have O53 := O50.keep Kc52 (allS (show n0 ≤ b49 by omega) all0)
    have sz54 : h49.size ≤ h52.size := Kc52.1
    refine q_astore X52 hx hby at_12 rfl (l' := #[vI x0, vI x1, vI x2, vI x3, vI x4, vI 1, vR b49, uS, uS, uS, uS, uS, uS, uS, uS, uS, uS]) rfl ?_
    obtain ⟨T55, h55, X55, e55, E55, A55, D55, -, st55⟩ := newO X52 hx hZ hown (wh hw 26 rfl) (wh hw 27 rfl) (wh hw 28 rfl) e52 (g := (mkF m 14 #[vI x0, vI x1, vI x2, vI x3, vI x4, vI 1, vR b49, uS, uS, uS, uS, uS, uS, uS, uS, uS, uS] [])) rfl (hb hby at_14) (by decide) (by decide)
    obtain ⟨b55, g55⟩ : ∃ z, z = h52.size := ⟨_, rfl⟩
    rw [← g55] at A55 D55 st55
    refine gg st55 ?_
    have O56 := O53.ext E55
    have sz57 : h52.size ≤ h55.size := E55.1
    have l55 : @LT.lt Nat _ b55 h55.size := A55.lt
    have F55_loadFactor : Fld Z h55 b55 "java/util/HashMap" "loadFactor" "F" (.float (0 : UInt32)) := D55 (Or.inr (wh hw 41 rfl)) (ty := .float) (by decide)
    have F55_size : Fld Z h55 b55 "java/util/HashMap" "size" "I" (.int 0) := D55 (Or.inl (wh hw 76 rfl)) (ty := .int) (by decide)
    have F55_values : Fld Z h55 b55 "java/util/AbstractMap" "values" "Ljava/util/Collection;" .null := D55 (Or.inl (wh hw 87 rfl)) (ty := (.object "java/util/Collection")) (by decide)
    have F55_modCount : Fld Z h55 b55 "java/util/HashMap" "modCount" "I" (.int 0) := D55 (Or.inl (wh hw 125 rfl)) (ty := .int) (by decide)
    have F55_table : Fld Z h55 b55 "java/util/HashMap" "table" "[Ljava/util/HashMap$Node;" .null := D55 (Or.inl (wh hw 129 rfl)) (ty := (.array (.object "java/util/HashMap$Node"))) (by decide)
    have F55_threshold : Fld Z h55 b55 "java/util/HashMap" "threshold" "I" (.int 0) := D55 (Or.inl (wh hw 259 rfl)) (ty := .int) (by decide)
    refine q_dup X55 hx hby at_17 rfl ?_
    refine k_N X55 hx hby hZ hown (wh hw 29 rfl) (wh hw 30 rfl) (W := 1) (own_hmInit l Z a0 hw [] b55 h55 n0 O56 A55 F55_loadFactor (show n0 ≤ b55 by first | assumption | omega | decide) F55_size F55_modCount F55_threshold F55_table F55_values) (wh hw 31 rfl) (wh hw 28 rfl) e55  hml (argsL := []) (rest := [.ref b55]) own_pd_0 at_18 (fun _ T58 L58 X58 hQ58 => ?_)
    obtain ⟨h58, e58⟩ : ∃ z, T58.heap = z := ⟨_, rfl⟩
    rw [e58] at hQ58
    obtain ⟨Nc58, Kc58, rfl, c58_0, c58_1, c58_2, c58_3, c58_4⟩ := hQ58
    have N58 := Fr.app N52 Nc58
    have O59 := O56.keep Kc58 (allS (show n0 ≤ b55 by omega) all0)
    have sz60 : h55.size ≤ h58.size := Kc58.1
    refine q_astore X58 hx hby at_21 rfl (l' := #[vI x0, vI x1, vI x2, vI x3, vI x4, vI 1, vR b49, vR b55, uS, uS, uS, uS, uS, uS, uS, uS, uS]) rfl ?_
    refine q_iload X58 hx hby at_23 rfl ?_
    refine q_iconst X58 hx hby at_25 ?_
    refine q_icmpNo X58 hx hby at_26 (flt (show ¬ ((1 : Int32) < (1 : Int32)) from by decide)).1 ?_
    refine q_aload X58 hx hby at_29 rfl rfl ?_
    refine q_bipush X58 hx hby at_31 ?_
    show own_Goes p e below (T58.setTop (mkF m 33 #[vI x0, vI x1, vI x2, vI x3, vI x4, vI 1, vR b49, vR b55, uS, uS, uS, uS, uS, uS, uS, uS, uS] [.int 97, .ref b55])) _
    refine k_S X58 hx hby hZ hown (wh hw 187 rfl) (wh hw 188 rfl) (W := 1) (own_vOf l Z a0 hw [] (97 : Int32) h58 n0 O59 gwD gz gwc gcl G (show own_chr (97 : Int32) from (by first | assumption | exact own_chr97 | exact own_chr98 | exact own_chr99))) (wh hw 190 rfl) (wh hw 189 rfl) e58  hml (argsL := [.int 97]) (rest := [.ref b55]) own_pd_27 at_33 (fun _ T61 L61 X61 hQ61 => ?_)
    obtain ⟨h61, e61⟩ : ∃ z, T61.heap = z := ⟨_, rfl⟩
    rw [e61] at hQ61
    obtain ⟨Nc61, Kc61, r_61, rb_61, rk_61, rfl, c61_0, c61_1, c61_2, c61_3, c61_4, c61_5, c61_6, c61_7⟩ := hQ61
    have N61 := Fr.app N58 Nc61
    have O62 := O59.keep Kc61 all0
    have sz63 : h58.size ≤ h61.size := Kc61.1
    have ltc61_0 : @LT.lt Nat _ r_61 h61.size := c61_0.lt
    have ltc61_5 : @LT.lt Nat _ rb_61 h61.size := c61_5.lt
    refine q_iloadN X61 hx hby at_36 rfl ?_
    refine k_S X61 hx hby hZ hown (wh hw 211 rfl) (wh hw 212 rfl) (W := 2) (own_intValueOf l Z a0 hw [] x1 h61 n0 O62 gwD gz gwc gcl G) (wh hw 214 rfl) (wh hw 213 rfl) e61  hml (argsL := [.int x1]) (rest := [.ref r_61, .ref b55]) own_pd_28 at_37 (fun _ T64 L64 X64 hQ64 => ?_)
    obtain ⟨h64, e64⟩ : ∃ z, T64.heap = z := ⟨_, rfl⟩
    rw [e64] at hQ64
    obtain ⟨Nc64, Kc64, r_64, rfl, c64_0, c64_1, c64_2⟩ := hQ64
    have N64 := Fr.app N61 Nc64
    have O65 := O62.keep Kc64 all0
    have sz66 : h61.size ≤ h64.size := Kc64.1
    have ltc64_0 : @LT.lt Nat _ r_64 h64.size := c64_0.lt
    have f67 := (((A55.keep Kc58).keep Kc61).keep Kc64)
    have f68 := ((c58_0.keep Kc61 nin0).keep Kc64 nin0)
    have f69 := ((c58_1.keep Kc61 nin0).keep Kc64 nin0)
    have f70 := ((c58_2.keep Kc61 nin0).keep Kc64 nin0)
    have f71 := ((c58_3.keep Kc61 nin0).keep Kc64 nin0)
    have f72 := ((c58_4.keep Kc61 nin0).keep Kc64 nin0)
    have f73 := (c61_0.keep Kc64)
    have f74 := (c61_1.keep Kc64 nin0)
    have f75 := (c61_2.keep Kc64 nin0)
    have f76 := (c61_3.keep Kc64 nin0)
    have f77 := (c61_4.keep Kc64 nin0)
    have f78 := (c61_5.keep Kc64 nin0)
    refine k_I X64 hx hby hZ hown (wh hw 218 rfl) (wh hw 219 rfl) (wh hw 220 rfl) (wh hw 221 rfl) (wh hw 222 rfl) (wh hw 223 rfl) (wh hw 224 rfl) (wh hw 73 rfl) (W := 0) (own_put0 l Z a0 hw [] b55 r_61 rb_61 rk_61 r_64 h64 n0 O65 gwD gz gwc gcl G f67 (show n0 ≤ b55 by first | assumption | omega | decide) f68 f69 f70 f71 f72 f73 f74 f75 f76 f77 f78 (show n0 ≤ r_61 by first | assumption | omega | decide) (show @LT.lt Nat _ b55 r_61 by first | assumption | omega | decide) (show @LT.lt Nat _ r_61 rb_61 by first | assumption | omega | decide)) (wh hw 225 rfl) (wh hw 28 rfl) e64 f67  hml (argsL := [.ref r_61, .ref r_64]) (rest := []) own_pd_29 at_40 (fun _ T79 L79 X79 hQ79 => ?_)
    obtain ⟨h79, e79⟩ : ∃ z, T79.heap = z := ⟨_, rfl⟩
    rw [e79] at hQ79
    obtain ⟨Nc79, Kc79, rt_79, rk_79, r_79, rfl, c79_0, c79_1, c79_2, c79_3, c79_4, c79_5, c79_6, c79_7, c79_8, c79_9, c79_10, c79_11⟩ := hQ79
    have N79 := Fr.app N64 Nc79
    have O80 := O65.keep Kc79 (allS (show n0 ≤ b55 by omega) (allS (show n0 ≤ r_61 by omega) all0))
    have sz81 : h64.size ≤ h79.size := Kc79.1
    have ltc79_5 : @LT.lt Nat _ rt_79 h79.size := c79_5.lt
    have ltc79_6 : @LT.lt Nat _ r_79 h79.size := c79_6.lt
    refine gg (fun t k => XS.pop X79.here hx rfl (hb hby at_45) rfl rfl k) ?_
    refine q_iload X79 hx hby at_46 rfl ?_
    refine q_iconst X79 hx hby at_48 ?_
    refine q_icmpYes (pc := 49) X79 hx hby at_49 (pc' := 69) (tlt (show ((1 : Int32) < (2 : Int32)) from by decide)).1 (by decide) (by decide) ?_
    refine q_iload X79 hx hby at_69 rfl ?_
    refine q_iconst X79 hx hby at_71 ?_
    refine q_icmpYes (pc := 72) X79 hx hby at_72 (pc' := 92) (tlt (show ((1 : Int32) < (3 : Int32)) from by decide)).1 (by decide) (by decide) ?_
    refine q_iload X79 hx hby at_92 rfl ?_
    have Jz82 : ∀ z82 : Int32, ¬ z82 < (1 : Int32) → own_Goes p e below (T79.setTop (mkF m 117 #[vI x0, vI x1, vI x2, vI x3, vI x4, vI 1, vR b49, vR b55, uS, uS, uS, uS, uS, uS, uS, uS, uS] [.int z82])) (own_PostN s (Q_rm0 Z x0 x1 x2 x3 x4 gwD gz gwc gcl h0 n0) room_1.cells room_1.slots) := by
      intro z82 hrz82
      show own_Goes p e below (T79.setTop (mkF m 117 #[vI x0, vI x1, vI x2, vI x3, vI x4, vI 1, vR b49, vR b55, uS, uS, uS, uS, uS, uS, uS, uS, uS] [.int z82])) _
      refine q_istore X79 hx hby at_117 (l' := #[vI x0, vI x1, vI x2, vI x3, vI x4, vI 1, vR b49, vR b55, vI z82, uS, uS, uS, uS, uS, uS, uS, uS]) rfl ?_
      obtain ⟨T83, h83, X83, e83, E83, A83, D83, -, st83⟩ := newO X79 hx hZ hown (wh hw 42 rfl) (wh hw 43 rfl) (wh hw 44 rfl) e79 (g := (mkF m 119 #[vI x0, vI x1, vI x2, vI x3, vI x4, vI 1, vR b49, vR b55, vI z82, uS, uS, uS, uS, uS, uS, uS, uS] [])) rfl (hb hby at_119) (by decide) (by decide)
      obtain ⟨b83, g83⟩ : ∃ z, z = h79.size := ⟨_, rfl⟩
      rw [← g83] at A83 D83 st83
      refine gg st83 ?_
      have O84 := O80.ext E83
      have sz85 : h79.size ≤ h83.size := E83.1
      have l83 : @LT.lt Nat _ b83 h83.size := A83.lt
      have F83_relevant : Fld Z h83 b83 "com/example/dolm/dolm/eval/JudgedRanking" "relevant" "[Z" .null := D83 (Or.inr (wh hw 62 rfl)) (ty := (.array .boolean)) (by decide)
      have F83_gains : Fld Z h83 b83 "com/example/dolm/dolm/eval/JudgedRanking" "gains" "[I" .null := D83 (Or.inr (wh hw 65 rfl)) (ty := (.array .int)) (by decide)
      have F83_relevantCount : Fld Z h83 b83 "com/example/dolm/dolm/eval/JudgedRanking" "relevantCount" "I" (.int 0) := D83 (Or.inr (wh hw 146 rfl)) (ty := .int) (by decide)
      have F83_judgedGains : Fld Z h83 b83 "com/example/dolm/dolm/eval/JudgedRanking" "judgedGains" "[I" .null := D83 (Or.inr (wh hw 161 rfl)) (ty := (.array .int)) (by decide)
      refine q_dup X83 hx hby at_122 rfl ?_
      refine q_aload X83 hx hby at_123 rfl rfl ?_
      refine q_aload X83 hx hby at_125 rfl rfl ?_
      have f86 := (((((((A49.keep Kc52).ext E55).keep Kc58).keep Kc61).keep Kc64).keep Kc79).ext E83)
      have f87 := ((((((c52_0.ext E55).keep Kc58 (ninS (nE b49 b55 (by omega)) nin0)).keep Kc61 nin0).keep Kc64 nin0).keep Kc79 (ninS (nE b49 b55 (by omega)) (ninS (nE b49 r_61 (by omega)) nin0))).ext E83)
      have f88 := ((f67.keep Kc79).ext E83)
      have f89 := (c79_0.ext E83)
      have f90 := (c79_1.ext E83)
      have f91 := (c79_2.ext E83)
      have f92 := (c79_3.ext E83)
      have f93 := (c79_4.ext E83)
      have f94 := (c79_5.ext E83)
      have f95 := (c79_6.ext E83)
      have f96 := (c79_7.ext E83)
      have f97 := (c79_8.ext E83)
      have f98 := ((c64_0.keep Kc79).ext E83)
      have f99 := ((c64_1.keep Kc79 (ninS (nE r_64 b55 (by omega)) (ninS (nE r_64 r_61 (by omega)) nin0))).ext E83)
      refine k_N X83 hx hby hZ hown (wh hw 45 rfl) (wh hw 46 rfl) (W := 1) (own_jr1 l Z a0 hw [] b83 b49 b55 rt_79 rk_79 r_79 r_64 x1 h83 n0 O84 A83 F83_relevant F83_gains F83_relevantCount F83_judgedGains (show n0 ≤ b83 by first | assumption | omega | decide) (show n0 ≤ b55 by first | assumption | omega | decide) f86 f87 f88 f89 f90 f91 f92 f93 (show @LT.lt Nat _ b55 b83 by first | assumption | omega | decide) (show @LT.lt Nat _ b49 b55 by first | assumption | omega | decide) f94 (show @LT.lt Nat _ b55 rt_79 by first | assumption | omega | decide) (show @LT.lt Nat _ rt_79 b83 by first | assumption | omega | decide) f95 f96 f97 f98 f99 (show @LT.lt Nat _ rt_79 r_79 by first | assumption | omega | decide) (show @LT.lt Nat _ r_79 b83 by first | assumption | omega | decide) (show (@LT.lt Nat _ r_64 n0 ∨ @LT.lt Nat _ b55 r_64) by first | assumption | omega | decide) (show @LT.lt Nat _ r_64 b83 by first | assumption | omega | decide)) (wh hw 47 rfl) (wh hw 44 rfl) e83  hml (argsL := [.ref b49, .ref b55]) (rest := [.ref b83]) own_pd_26 at_127 (fun _ T100 L100 X100 hQ100 => ?_)
      obtain ⟨h100, e100⟩ : ∃ z, T100.heap = z := ⟨_, rfl⟩
      rw [e100] at hQ100
      obtain ⟨Nc100, Kc100, rfl, c100_0⟩ := hQ100
      have N100 := Fr.app N79 Nc100
      have O101 := O84.keep Kc100 (allS (show n0 ≤ b83 by omega) (allS (show n0 ≤ b55 by omega) all0))
      have sz102 : h83.size ≤ h100.size := Kc100.1
      refine q_astore X100 hx hby at_130 rfl (l' := #[vI x0, vI x1, vI x2, vI x3, vI x4, vI 1, vR b49, vR b55, vI z82, vR b83, uS, uS, uS, uS, uS, uS, uS]) rfl ?_
      refine q_iload X100 hx hby at_132 rfl ?_
      refine q_iconst X100 hx hby at_134 ?_
      refine q_icmpNo X100 hx hby at_135 (flt (show ¬ ((1 : Int32) < (1 : Int32)) from by decide)).1 ?_
      refine q_iloadN X100 hx hby at_138 rfl ?_
      refine q_iconst X100 hx hby at_139 ?_
      refine k_S X100 hx hby hZ hown (wh hw 175 rfl) (wh hw 176 rfl) (W := 0) (own_maxC l Z a0 hw [] x1 (0 : Int32) h100 n0 O101) (wh hw 178 rfl) (wh hw 177 rfl) e100  hml (argsL := [.int x1, .int 0]) (rest := []) own_pd_15 at_140 (fun _ T103 L103 X103 hQ103 => ?_)
      obtain ⟨Nc103, e103, rfl⟩ := hQ103
      have N103 := Fr.app N100 Nc103
      refine q_goto (pc := 143) X103 hx hby at_143 (pc' := 147) (by decide) (by decide) ?_
      show own_Goes p e below (T103.setTop (mkF m 147 #[vI x0, vI x1, vI x2, vI x3, vI x4, vI 1, vR b49, vR b55, vI z82, vR b83, uS, uS, uS, uS, uS, uS, uS] [(.int (own_max x1 (0 : Int32)))])) _
      refine q_istore X103 hx hby at_147 (l' := #[vI x0, vI x1, vI x2, vI x3, vI x4, vI 1, vR b49, vR b55, vI z82, vR b83, vI (own_max x1 (0 : Int32)), uS, uS, uS, uS, uS, uS]) rfl ?_
      refine q_iload X103 hx hby at_149 rfl ?_
      refine q_iconst X103 hx hby at_151 ?_
      refine q_icmpYes (pc := 152) X103 hx hby at_152 (pc' := 163) (tlt (show ((1 : Int32) < (2 : Int32)) from by decide)).1 (by decide) (by decide) ?_
      refine q_iconst X103 hx hby at_163 ?_
      refine q_istore X103 hx hby at_164 (l' := #[vI x0, vI x1, vI x2, vI x3, vI x4, vI 1, vR b49, vR b55, vI z82, vR b83, vI (own_max x1 (0 : Int32)), vI 0, uS, uS, uS, uS, uS]) rfl ?_
      refine q_iload X103 hx hby at_166 rfl ?_
      refine q_iconst X103 hx hby at_168 ?_
      refine q_icmpYes (pc := 169) X103 hx hby at_169 (pc' := 180) (tlt (show ((1 : Int32) < (3 : Int32)) from by decide)).1 (by decide) (by decide) ?_
      refine q_iconst X103 hx hby at_180 ?_
      refine q_istore X103 hx hby at_181 (l' := #[vI x0, vI x1, vI x2, vI x3, vI x4, vI 1, vR b49, vR b55, vI z82, vR b83, vI (own_max x1 (0 : Int32)), vI 0, vI 0, uS, uS, uS, uS]) rfl ?_
      have f104 := (A83.keep Kc100)
      exact TL (1 : Int32) z82 (own_max x1 (0 : Int32)) (0 : Int32) (0 : Int32) b49 b55 b83 _ _ _ _ _ (by decide) (by decide) hrz82 X103 e103 N103 O101 f104 c100_0
    by_cases hc105 : x4 < (0 : Int32)
    · refine q_ifYes (pc := 94) X79 hx hby at_94 (pc' := 107) ((if0 _ _).trans (tlt hc105).1) (by decide) (by decide) ?_
      refine q_iconst X79 hx hby at_107 ?_
      refine q_iload X79 hx hby at_108 rfl ?_
      show own_Goes p e below (T79.setTop (mkF m 110 #[vI x0, vI x1, vI x2, vI x3, vI x4, vI 1, vR b49, vR b55, uS, uS, uS, uS, uS, uS, uS, uS, uS] [.int x4, .int 1])) _
      refine gg (fun t k => Jvm.Stand.ldcI X79 hx hown (mv hZ (wh hw 314 rfl)) rfl (hb hby at_110) k) ?_
      refine q_iand X79 hx hby at_112 ?_
      refine gg (fun t k => Jvm.Stand.ldcI X79 hx hown (mv hZ (wh hw 314 rfl)) rfl (hb hby at_113) k) ?_
      refine gg (fun t k => iremM X79 hx rfl (hb hby at_115) rfl (by decide) k) ?_
      refine q_iadd X79 hx hby at_116 ?_
      exact Jz82 ((1 : Int32) + ((x4 &&& (2147483647 : Int32)) % (2147483647 : Int32))) (own_rkB _)
    · refine q_ifNo X79 hx hby at_94 ((if0 _ _).trans (flt hc105).1) ?_
      refine q_iconst X79 hx hby at_97 ?_
      refine q_iload X79 hx hby at_98 rfl ?_
      refine q_bipush X79 hx hby at_100 ?_
      refine q_iand X79 hx hby at_102 ?_
      refine q_iadd X79 hx hby at_103 ?_
      refine q_goto (pc := 104) X79 hx hby at_104 (pc' := 117) (by decide) (by decide) ?_
      exact Jz82 ((1 : Int32) + (x4 &&& (7 : Int32))) (own_rkA _)
  · rw [hl18]
    show own_Goes p e below (s₁.setTop (mkF m 3 #[vI x0, vI x1, vI x2, vI x3, vI x4, uS, uS, uS, uS, uS, uS, uS, uS, uS, uS, uS, uS] [.int 2])) _
    refine q_istore X0 hx hby at_3 (l' := #[vI x0, vI x1, vI x2, vI x3, vI x4, vI 2, uS, uS, uS, uS, uS, uS, uS, uS, uS, uS, uS]) rfl ?_
    obtain ⟨T106, h106, X106, e106, E106, A106, D106, -, st106⟩ := newO X0 hx hZ hown (wh hw 0 rfl) (wh hw 1 rfl) (wh hw 2 rfl) e0 (g := (mkF m 5 #[vI x0, vI x1, vI x2, vI x3, vI x4, vI 2, uS, uS, uS, uS, uS, uS, uS, uS, uS, uS, uS] [])) rfl (hb hby at_5) (by decide) (by decide)
    obtain ⟨b106, g106⟩ : ∃ z, z = h0.size := ⟨_, rfl⟩
    rw [← g106] at A106 D106 st106
    refine gg st106 ?_
    have O107 := O0.ext E106
    have sz108 : h0.size ≤ h106.size := E106.1
    have l106 : @LT.lt Nat _ b106 h106.size := A106.lt
    have F106_modCount : Fld Z h106 b106 "java/util/AbstractList" "modCount" "I" (.int 0) := D106 (Or.inl (wh hw 22 rfl)) (ty := .int) (by decide)
    have F106_elementData : Fld Z h106 b106 "java/util/ArrayList" "elementData" "[Ljava/lang/Object;" .null := D106 (Or.inl (wh hw 25 rfl)) (ty := (.array (.object "java/lang/Object"))) (by decide)
    have F106_size : Fld Z h106 b106 "java/util/ArrayList" "size" "I" (.int 0) := D106 (Or.inl (wh hw 59 rfl)) (ty := .int) (by decide)
    refine q_dup X106 hx hby at_8 rfl ?_
    refine k_N X106 hx hby hZ hown (wh hw 3 rfl) (wh hw 4 rfl) (W := 1) (own_alInit l Z a0 hw [] b106 h106 n0 O107 gwD gz gwc gcl G A106 F106_modCount (show n0 ≤ b106 by first | assumption | omega | decide) F106_elementData F106_size) (wh hw 5 rfl) (wh hw 2 rfl) e106  hml (argsL := []) (rest := [.ref b106]) own_pd_0 at_9 (fun _ T109 L109 X109 hQ109 => ?_)
    obtain ⟨h109, e109⟩ : ∃ z, T109.heap = z := ⟨_, rfl⟩
    rw [e109] at hQ109
    obtain ⟨Nc109, Kc109, rfl, c109_0⟩ := hQ109
    have N109 := Fr.app N0 Nc109
    have O110 := O107.keep Kc109 (allS (show n0 ≤ b106 by omega) all0)
    have sz111 : h106.size ≤ h109.size := Kc109.1
    refine q_astore X109 hx hby at_12 rfl (l' := #[vI x0, vI x1, vI x2, vI x3, vI x4, vI 2, vR b106, uS, uS, uS, uS, uS, uS, uS, uS, uS, uS]) rfl ?_
    obtain ⟨T112, h112, X112, e112, E112, A112, D112, -, st112⟩ := newO X109 hx hZ hown (wh hw 26 rfl) (wh hw 27 rfl) (wh hw 28 rfl) e109 (g := (mkF m 14 #[vI x0, vI x1, vI x2, vI x3, vI x4, vI 2, vR b106, uS, uS, uS, uS, uS, uS, uS, uS, uS, uS] [])) rfl (hb hby at_14) (by decide) (by decide)
    obtain ⟨b112, g112⟩ : ∃ z, z = h109.size := ⟨_, rfl⟩
    rw [← g112] at A112 D112 st112
    refine gg st112 ?_
    have O113 := O110.ext E112
    have sz114 : h109.size ≤ h112.size := E112.1
    have l112 : @LT.lt Nat _ b112 h112.size := A112.lt
    have F112_loadFactor : Fld Z h112 b112 "java/util/HashMap" "loadFactor" "F" (.float (0 : UInt32)) := D112 (Or.inr (wh hw 41 rfl)) (ty := .float) (by decide)
    have F112_size : Fld Z h112 b112 "java/util/HashMap" "size" "I" (.int 0) := D112 (Or.inl (wh hw 76 rfl)) (ty := .int) (by decide)
    have F112_values : Fld Z h112 b112 "java/util/AbstractMap" "values" "Ljava/util/Collection;" .null := D112 (Or.inl (wh hw 87 rfl)) (ty := (.object "java/util/Collection")) (by decide)
    have F112_modCount : Fld Z h112 b112 "java/util/HashMap" "modCount" "I" (.int 0) := D112 (Or.inl (wh hw 125 rfl)) (ty := .int) (by decide)
    have F112_table : Fld Z h112 b112 "java/util/HashMap" "table" "[Ljava/util/HashMap$Node;" .null := D112 (Or.inl (wh hw 129 rfl)) (ty := (.array (.object "java/util/HashMap$Node"))) (by decide)
    have F112_threshold : Fld Z h112 b112 "java/util/HashMap" "threshold" "I" (.int 0) := D112 (Or.inl (wh hw 259 rfl)) (ty := .int) (by decide)
    refine q_dup X112 hx hby at_17 rfl ?_
    refine k_N X112 hx hby hZ hown (wh hw 29 rfl) (wh hw 30 rfl) (W := 1) (own_hmInit l Z a0 hw [] b112 h112 n0 O113 A112 F112_loadFactor (show n0 ≤ b112 by first | assumption | omega | decide) F112_size F112_modCount F112_threshold F112_table F112_values) (wh hw 31 rfl) (wh hw 28 rfl) e112  hml (argsL := []) (rest := [.ref b112]) own_pd_0 at_18 (fun _ T115 L115 X115 hQ115 => ?_)
    obtain ⟨h115, e115⟩ : ∃ z, T115.heap = z := ⟨_, rfl⟩
    rw [e115] at hQ115
    obtain ⟨Nc115, Kc115, rfl, c115_0, c115_1, c115_2, c115_3, c115_4⟩ := hQ115
    have N115 := Fr.app N109 Nc115
    have O116 := O113.keep Kc115 (allS (show n0 ≤ b112 by omega) all0)
    have sz117 : h112.size ≤ h115.size := Kc115.1
    refine q_astore X115 hx hby at_21 rfl (l' := #[vI x0, vI x1, vI x2, vI x3, vI x4, vI 2, vR b106, vR b112, uS, uS, uS, uS, uS, uS, uS, uS, uS]) rfl ?_
    refine q_iload X115 hx hby at_23 rfl ?_
    refine q_iconst X115 hx hby at_25 ?_
    refine q_icmpNo X115 hx hby at_26 (flt (show ¬ ((2 : Int32) < (1 : Int32)) from by decide)).1 ?_
    refine q_aload X115 hx hby at_29 rfl rfl ?_
    refine q_bipush X115 hx hby at_31 ?_
    show own_Goes p e below (T115.setTop (mkF m 33 #[vI x0, vI x1, vI x2, vI x3, vI x4, vI 2, vR b106, vR b112, uS, uS, uS, uS, uS, uS, uS, uS, uS] [.int 97, .ref b112])) _
    refine k_S X115 hx hby hZ hown (wh hw 187 rfl) (wh hw 188 rfl) (W := 1) (own_vOf l Z a0 hw [] (97 : Int32) h115 n0 O116 gwD gz gwc gcl G (show own_chr (97 : Int32) from (by first | assumption | exact own_chr97 | exact own_chr98 | exact own_chr99))) (wh hw 190 rfl) (wh hw 189 rfl) e115  hml (argsL := [.int 97]) (rest := [.ref b112]) own_pd_27 at_33 (fun _ T118 L118 X118 hQ118 => ?_)
    obtain ⟨h118, e118⟩ : ∃ z, T118.heap = z := ⟨_, rfl⟩
    rw [e118] at hQ118
    obtain ⟨Nc118, Kc118, r_118, rb_118, rk_118, rfl, c118_0, c118_1, c118_2, c118_3, c118_4, c118_5, c118_6, c118_7⟩ := hQ118
    have N118 := Fr.app N115 Nc118
    have O119 := O116.keep Kc118 all0
    have sz120 : h115.size ≤ h118.size := Kc118.1
    have ltc118_0 : @LT.lt Nat _ r_118 h118.size := c118_0.lt
    have ltc118_5 : @LT.lt Nat _ rb_118 h118.size := c118_5.lt
    refine q_iloadN X118 hx hby at_36 rfl ?_
    refine k_S X118 hx hby hZ hown (wh hw 211 rfl) (wh hw 212 rfl) (W := 2) (own_intValueOf l Z a0 hw [] x1 h118 n0 O119 gwD gz gwc gcl G) (wh hw 214 rfl) (wh hw 213 rfl) e118  hml (argsL := [.int x1]) (rest := [.ref r_118, .ref b112]) own_pd_28 at_37 (fun _ T121 L121 X121 hQ121 => ?_)
    obtain ⟨h121, e121⟩ : ∃ z, T121.heap = z := ⟨_, rfl⟩
    rw [e121] at hQ121
    obtain ⟨Nc121, Kc121, r_121, rfl, c121_0, c121_1, c121_2⟩ := hQ121
    have N121 := Fr.app N118 Nc121
    have O122 := O119.keep Kc121 all0
    have sz123 : h118.size ≤ h121.size := Kc121.1
    have ltc121_0 : @LT.lt Nat _ r_121 h121.size := c121_0.lt
    have f124 := (((A112.keep Kc115).keep Kc118).keep Kc121)
    have f125 := ((c115_0.keep Kc118 nin0).keep Kc121 nin0)
    have f126 := ((c115_1.keep Kc118 nin0).keep Kc121 nin0)
    have f127 := ((c115_2.keep Kc118 nin0).keep Kc121 nin0)
    have f128 := ((c115_3.keep Kc118 nin0).keep Kc121 nin0)
    have f129 := ((c115_4.keep Kc118 nin0).keep Kc121 nin0)
    have f130 := (c118_0.keep Kc121)
    have f131 := (c118_1.keep Kc121 nin0)
    have f132 := (c118_2.keep Kc121 nin0)
    have f133 := (c118_3.keep Kc121 nin0)
    have f134 := (c118_4.keep Kc121 nin0)
    have f135 := (c118_5.keep Kc121 nin0)
    refine k_I X121 hx hby hZ hown (wh hw 218 rfl) (wh hw 219 rfl) (wh hw 220 rfl) (wh hw 221 rfl) (wh hw 222 rfl) (wh hw 223 rfl) (wh hw 224 rfl) (wh hw 73 rfl) (W := 0) (own_put0 l Z a0 hw [] b112 r_118 rb_118 rk_118 r_121 h121 n0 O122 gwD gz gwc gcl G f124 (show n0 ≤ b112 by first | assumption | omega | decide) f125 f126 f127 f128 f129 f130 f131 f132 f133 f134 f135 (show n0 ≤ r_118 by first | assumption | omega | decide) (show @LT.lt Nat _ b112 r_118 by first | assumption | omega | decide) (show @LT.lt Nat _ r_118 rb_118 by first | assumption | omega | decide)) (wh hw 225 rfl) (wh hw 28 rfl) e121 f124  hml (argsL := [.ref r_118, .ref r_121]) (rest := []) own_pd_29 at_40 (fun _ T136 L136 X136 hQ136 => ?_)
    obtain ⟨h136, e136⟩ : ∃ z, T136.heap = z := ⟨_, rfl⟩
    rw [e136] at hQ136
    obtain ⟨Nc136, Kc136, rt_136, rk_136, r_136, rfl, c136_0, c136_1, c136_2, c136_3, c136_4, c136_5, c136_6, c136_7, c136_8, c136_9, c136_10, c136_11⟩ := hQ136
    have N136 := Fr.app N121 Nc136
    have O137 := O122.keep Kc136 (allS (show n0 ≤ b112 by omega) (allS (show n0 ≤ r_118 by omega) all0))
    have sz138 : h121.size ≤ h136.size := Kc136.1
    have ltc136_5 : @LT.lt Nat _ rt_136 h136.size := c136_5.lt
    have ltc136_6 : @LT.lt Nat _ r_136 h136.size := c136_6.lt
    refine gg (fun t k => XS.pop X136.here hx rfl (hb hby at_45) rfl rfl k) ?_
    refine q_iload X136 hx hby at_46 rfl ?_
    refine q_iconst X136 hx hby at_48 ?_
    refine q_icmpNo X136 hx hby at_49 (flt (show ¬ ((2 : Int32) < (2 : Int32)) from by decide)).1 ?_
    refine q_aload X136 hx hby at_52 rfl rfl ?_
    refine q_bipush X136 hx hby at_54 ?_
    refine k_S X136 hx hby hZ hown (wh hw 187 rfl) (wh hw 188 rfl) (W := 1) (own_vOf l Z a0 hw [] (98 : Int32) h136 n0 O137 gwD gz gwc gcl G (show own_chr (98 : Int32) from (by first | assumption | exact own_chr97 | exact own_chr98 | exact own_chr99))) (wh hw 190 rfl) (wh hw 189 rfl) e136  hml (argsL := [.int 98]) (rest := [.ref b112]) own_pd_27 at_56 (fun _ T139 L139 X139 hQ139 => ?_)
    obtain ⟨h139, e139⟩ : ∃ z, T139.heap = z := ⟨_, rfl⟩
    rw [e139] at hQ139
    obtain ⟨Nc139, Kc139, r_139, rb_139, rk_139, rfl, c139_0, c139_1, c139_2, c139_3, c139_4, c139_5, c139_6, c139_7⟩ := hQ139
    have N139 := Fr.app N136 Nc139
    have O140 := O137.keep Kc139 all0
    have sz141 : h136.size ≤ h139.size := Kc139.1
    have ltc139_0 : @LT.lt Nat _ r_139 h139.size := c139_0.lt
    have ltc139_5 : @LT.lt Nat _ rb_139 h139.size := c139_5.lt
    refine q_iloadN X139 hx hby at_59 rfl ?_
    refine k_S X139 hx hby hZ hown (wh hw 211 rfl) (wh hw 212 rfl) (W := 2) (own_intValueOf l Z a0 hw [] x2 h139 n0 O140 gwD gz gwc gcl G) (wh hw 214 rfl) (wh hw 213 rfl) e139  hml (argsL := [.int x2]) (rest := [.ref r_139, .ref b112]) own_pd_28 at_60 (fun _ T142 L142 X142 hQ142 => ?_)
    obtain ⟨h142, e142⟩ : ∃ z, T142.heap = z := ⟨_, rfl⟩
    rw [e142] at hQ142
    obtain ⟨Nc142, Kc142, r_142, rfl, c142_0, c142_1, c142_2⟩ := hQ142
    have N142 := Fr.app N139 Nc142
    have O143 := O140.keep Kc142 all0
    have sz144 : h139.size ≤ h142.size := Kc142.1
    have ltc142_0 : @LT.lt Nat _ r_142 h142.size := c142_0.lt
    have f145 := (((f124.keep Kc136).keep Kc139).keep Kc142)
    have f146 := ((c136_0.keep Kc139 nin0).keep Kc142 nin0)
    have f147 := ((c136_1.keep Kc139 nin0).keep Kc142 nin0)
    have f148 := ((c136_2.keep Kc139 nin0).keep Kc142 nin0)
    have f149 := ((c136_3.keep Kc139 nin0).keep Kc142 nin0)
    have f150 := ((c136_4.keep Kc139 nin0).keep Kc142 nin0)
    have f151 := ((c136_5.keep Kc139 nin0).keep Kc142 nin0)
    have f152 := (c139_0.keep Kc142)
    have f153 := (c139_1.keep Kc142 nin0)
    have f154 := (c139_2.keep Kc142 nin0)
    have f155 := (c139_3.keep Kc142 nin0)
    have f156 := (c139_4.keep Kc142 nin0)
    have f157 := (c139_5.keep Kc142 nin0)
    refine k_I X142 hx hby hZ hown (wh hw 218 rfl) (wh hw 219 rfl) (wh hw 220 rfl) (wh hw 221 rfl) (wh hw 222 rfl) (wh hw 223 rfl) (wh hw 224 rfl) (wh hw 73 rfl) (W := 0) (own_put1 l Z a0 hw [] b112 rt_136 rk_136 r_136 r_139 rb_139 rk_139 r_142 h142 n0 O143 gwD gz gwc gcl G f145 (show n0 ≤ b112 by first | assumption | omega | decide) (show n0 ≤ rt_136 by first | assumption | omega | decide) (show @LT.lt Nat _ b112 rt_136 by first | assumption | omega | decide) f146 f147 f148 f149 f150 f151 (show Ovr Z rk_136 "java/util/HashMap$Node" by first | assumption | omega | decide) f152 f153 f154 f155 f156 f157 (show n0 ≤ r_139 by first | assumption | omega | decide) (show @LT.lt Nat _ rt_136 r_139 by first | assumption | omega | decide) (show @LT.lt Nat _ r_139 rb_139 by first | assumption | omega | decide)) (wh hw 225 rfl) (wh hw 28 rfl) e142 f145  hml (argsL := [.ref r_139, .ref r_142]) (rest := []) own_pd_29 at_63 (fun _ T158 L158 X158 hQ158 => ?_)
    obtain ⟨h158, e158⟩ : ∃ z, T158.heap = z := ⟨_, rfl⟩
    rw [e158] at hQ158
    obtain ⟨Nc158, Kc158, r_158, rfl, c158_0, c158_1, c158_2, c158_3, c158_4, c158_5, c158_6, c158_7, c158_8, c158_9⟩ := hQ158
    have N158 := Fr.app N142 Nc158
    have O159 := O143.keep Kc158 (allS (show n0 ≤ b112 by omega) (allS (show n0 ≤ rt_136 by omega) (allS (show n0 ≤ r_139 by omega) all0)))
    have sz160 : h142.size ≤ h158.size := Kc158.1
    have ltc158_5 : @LT.lt Nat _ rt_136 h158.size := c158_5.lt
    have ltc158_6 : @LT.lt Nat _ r_158 h158.size := c158_6.lt
    show own_Goes p e below (T158.setTop (mkF m 68 #[vI x0, vI x1, vI x2, vI x3, vI x4, vI 2, vR b106, vR b112, uS, uS, uS, uS, uS, uS, uS, uS, uS] [.null])) _
    refine gg (fun t k => XS.pop X158.here hx rfl (hb hby at_68) rfl rfl k) ?_
    refine q_iload X158 hx hby at_69 rfl ?_
    refine q_iconst X158 hx hby at_71 ?_
    refine q_icmpYes (pc := 72) X158 hx hby at_72 (pc' := 92) (tlt (show ((2 : Int32) < (3 : Int32)) from by decide)).1 (by decide) (by decide) ?_
    refine q_iload X158 hx hby at_92 rfl ?_
    have Jz161 : ∀ z161 : Int32, ¬ z161 < (1 : Int32) → own_Goes p e below (T158.setTop (mkF m 117 #[vI x0, vI x1, vI x2, vI x3, vI x4, vI 2, vR b106, vR b112, uS, uS, uS, uS, uS, uS, uS, uS, uS] [.int z161])) (own_PostN s (Q_rm0 Z x0 x1 x2 x3 x4 gwD gz gwc gcl h0 n0) room_1.cells room_1.slots) := by
      intro z161 hrz161
      show own_Goes p e below (T158.setTop (mkF m 117 #[vI x0, vI x1, vI x2, vI x3, vI x4, vI 2, vR b106, vR b112, uS, uS, uS, uS, uS, uS, uS, uS, uS] [.int z161])) _
      refine q_istore X158 hx hby at_117 (l' := #[vI x0, vI x1, vI x2, vI x3, vI x4, vI 2, vR b106, vR b112, vI z161, uS, uS, uS, uS, uS, uS, uS, uS]) rfl ?_
      obtain ⟨T162, h162, X162, e162, E162, A162, D162, -, st162⟩ := newO X158 hx hZ hown (wh hw 42 rfl) (wh hw 43 rfl) (wh hw 44 rfl) e158 (g := (mkF m 119 #[vI x0, vI x1, vI x2, vI x3, vI x4, vI 2, vR b106, vR b112, vI z161, uS, uS, uS, uS, uS, uS, uS, uS] [])) rfl (hb hby at_119) (by decide) (by decide)
      obtain ⟨b162, g162⟩ : ∃ z, z = h158.size := ⟨_, rfl⟩
      rw [← g162] at A162 D162 st162
      refine gg st162 ?_
      have O163 := O159.ext E162
      have sz164 : h158.size ≤ h162.size := E162.1
      have l162 : @LT.lt Nat _ b162 h162.size := A162.lt
      have F162_relevant : Fld Z h162 b162 "com/example/dolm/dolm/eval/JudgedRanking" "relevant" "[Z" .null := D162 (Or.inr (wh hw 62 rfl)) (ty := (.array .boolean)) (by decide)
      have F162_gains : Fld Z h162 b162 "com/example/dolm/dolm/eval/JudgedRanking" "gains" "[I" .null := D162 (Or.inr (wh hw 65 rfl)) (ty := (.array .int)) (by decide)
      have F162_relevantCount : Fld Z h162 b162 "com/example/dolm/dolm/eval/JudgedRanking" "relevantCount" "I" (.int 0) := D162 (Or.inr (wh hw 146 rfl)) (ty := .int) (by decide)
      have F162_judgedGains : Fld Z h162 b162 "com/example/dolm/dolm/eval/JudgedRanking" "judgedGains" "[I" .null := D162 (Or.inr (wh hw 161 rfl)) (ty := (.array .int)) (by decide)
      refine q_dup X162 hx hby at_122 rfl ?_
      refine q_aload X162 hx hby at_123 rfl rfl ?_
      refine q_aload X162 hx hby at_125 rfl rfl ?_
      have f165 := ((((((((((A106.keep Kc109).ext E112).keep Kc115).keep Kc118).keep Kc121).keep Kc136).keep Kc139).keep Kc142).keep Kc158).ext E162)
      have f166 := (((((((((c109_0.ext E112).keep Kc115 (ninS (nE b106 b112 (by omega)) nin0)).keep Kc118 nin0).keep Kc121 nin0).keep Kc136 (ninS (nE b106 b112 (by omega)) (ninS (nE b106 r_118 (by omega)) nin0))).keep Kc139 nin0).keep Kc142 nin0).keep Kc158 (ninS (nE b106 b112 (by omega)) (ninS (nE b106 rt_136 (by omega)) (ninS (nE b106 r_139 (by omega)) nin0)))).ext E162)
      have f167 := ((f145.keep Kc158).ext E162)
      have f168 := (c158_0.ext E162)
      have f169 := (c158_1.ext E162)
      have f170 := (c158_2.ext E162)
      have f171 := (c158_3.ext E162)
      have f172 := (c158_4.ext E162)
      have f173 := (c158_5.ext E162)
      have f174 := ((((c136_6.keep Kc139).keep Kc142).keep Kc158).ext E162)
      have f175 := ((((c136_7.keep Kc139 nin0).keep Kc142 nin0).keep Kc158 (ninS (nE r_136 b112 (by omega)) (ninS (nE r_136 rt_136 (by omega)) (ninS (nE r_136 r_139 (by omega)) nin0)))).ext E162)
      have f176 := ((((c136_8.keep Kc139 nin0).keep Kc142 nin0).keep Kc158 (ninS (nE r_136 b112 (by omega)) (ninS (nE r_136 rt_136 (by omega)) (ninS (nE r_136 r_139 (by omega)) nin0)))).ext E162)
      have f177 := (((((c121_0.keep Kc136).keep Kc139).keep Kc142).keep Kc158).ext E162)
      have f178 := (((((c121_1.keep Kc136 (ninS (nE r_121 b112 (by omega)) (ninS (nE r_121 r_118 (by omega)) nin0))).keep Kc139 nin0).keep Kc142 nin0).keep Kc158 (ninS (nE r_121 b112 (by omega)) (ninS (nE r_121 rt_136 (by omega)) (ninS (nE r_121 r_139 (by omega)) nin0)))).ext E162)
      have f179 := (c158_6.ext E162)
      have f180 := (c158_7.ext E162)
      have f181 := (c158_8.ext E162)
      have f182 := ((c142_0.keep Kc158).ext E162)
      have f183 := ((c142_1.keep Kc158 (ninS (nE r_142 b112 (by omega)) (ninS (nE r_142 rt_136 (by omega)) (ninS (nE r_142 r_139 (by omega)) nin0)))).ext E162)
      refine k_N X162 hx hby hZ hown (wh hw 45 rfl) (wh hw 46 rfl) (W := 1) (own_jr2 l Z a0 hw [] b162 b106 b112 rt_136 rk_136 r_136 r_158 r_121 r_142 x1 x2 h162 n0 O163 A162 F162_relevant F162_gains F162_relevantCount F162_judgedGains (show n0 ≤ b162 by first | assumption | omega | decide) (show n0 ≤ b112 by first | assumption | omega | decide) f165 f166 f167 f168 f169 f170 f171 f172 (show @LT.lt Nat _ b112 b162 by first | assumption | omega | decide) (show @LT.lt Nat _ b106 b112 by first | assumption | omega | decide) f173 (show @LT.lt Nat _ b112 rt_136 by first | assumption | omega | decide) (show @LT.lt Nat _ rt_136 b162 by first | assumption | omega | decide) f174 f175 f176 f177 f178 (show @LT.lt Nat _ rt_136 r_136 by first | assumption | omega | decide) (show @LT.lt Nat _ r_136 b162 by first | assumption | omega | decide) (show (@LT.lt Nat _ r_121 n0 ∨ @LT.lt Nat _ b112 r_121) by first | assumption | omega | decide) (show @LT.lt Nat _ r_121 b162 by first | assumption | omega | decide) f179 f180 f181 f182 f183 (show @LT.lt Nat _ rt_136 r_158 by first | assumption | omega | decide) (show @LT.lt Nat _ r_158 b162 by first | assumption | omega | decide) (show (@LT.lt Nat _ r_142 n0 ∨ @LT.lt Nat _ b112 r_142) by first | assumption | omega | decide) (show @LT.lt Nat _ r_142 b162 by first | assumption | omega | decide)) (wh hw 47 rfl) (wh hw 44 rfl) e162  hml (argsL := [.ref b106, .ref b112]) (rest := [.ref b162]) own_pd_26 at_127 (fun _ T184 L184 X184 hQ184 => ?_)
      obtain ⟨h184, e184⟩ : ∃ z, T184.heap = z := ⟨_, rfl⟩
      rw [e184] at hQ184
      obtain ⟨Nc184, Kc184, rfl, c184_0⟩ := hQ184
      have N184 := Fr.app N158 Nc184
      have O185 := O163.keep Kc184 (allS (show n0 ≤ b162 by omega) (allS (show n0 ≤ b112 by omega) all0))
      have sz186 : h162.size ≤ h184.size := Kc184.1
      refine q_astore X184 hx hby at_130 rfl (l' := #[vI x0, vI x1, vI x2, vI x3, vI x4, vI 2, vR b106, vR b112, vI z161, vR b162, uS, uS, uS, uS, uS, uS, uS]) rfl ?_
      refine q_iload X184 hx hby at_132 rfl ?_
      refine q_iconst X184 hx hby at_134 ?_
      refine q_icmpNo X184 hx hby at_135 (flt (show ¬ ((2 : Int32) < (1 : Int32)) from by decide)).1 ?_
      refine q_iloadN X184 hx hby at_138 rfl ?_
      refine q_iconst X184 hx hby at_139 ?_
      refine k_S X184 hx hby hZ hown (wh hw 175 rfl) (wh hw 176 rfl) (W := 0) (own_maxC l Z a0 hw [] x1 (0 : Int32) h184 n0 O185) (wh hw 178 rfl) (wh hw 177 rfl) e184  hml (argsL := [.int x1, .int 0]) (rest := []) own_pd_15 at_140 (fun _ T187 L187 X187 hQ187 => ?_)
      obtain ⟨Nc187, e187, rfl⟩ := hQ187
      have N187 := Fr.app N184 Nc187
      refine q_goto (pc := 143) X187 hx hby at_143 (pc' := 147) (by decide) (by decide) ?_
      show own_Goes p e below (T187.setTop (mkF m 147 #[vI x0, vI x1, vI x2, vI x3, vI x4, vI 2, vR b106, vR b112, vI z161, vR b162, uS, uS, uS, uS, uS, uS, uS] [(.int (own_max x1 (0 : Int32)))])) _
      refine q_istore X187 hx hby at_147 (l' := #[vI x0, vI x1, vI x2, vI x3, vI x4, vI 2, vR b106, vR b112, vI z161, vR b162, vI (own_max x1 (0 : Int32)), uS, uS, uS, uS, uS, uS]) rfl ?_
      refine q_iload X187 hx hby at_149 rfl ?_
      refine q_iconst X187 hx hby at_151 ?_
      refine q_icmpNo X187 hx hby at_152 (flt (show ¬ ((2 : Int32) < (2 : Int32)) from by decide)).1 ?_
      refine q_iloadN X187 hx hby at_155 rfl ?_
      refine q_iconst X187 hx hby at_156 ?_
      refine k_S X187 hx hby hZ hown (wh hw 175 rfl) (wh hw 176 rfl) (W := 0) (own_maxC l Z a0 hw [] x2 (0 : Int32) h184 n0 O185) (wh hw 178 rfl) (wh hw 177 rfl) e187  hml (argsL := [.int x2, .int 0]) (rest := []) own_pd_15 at_157 (fun _ T188 L188 X188 hQ188 => ?_)
      obtain ⟨Nc188, e188, rfl⟩ := hQ188
      have N188 := Fr.app N187 Nc188
      refine q_goto (pc := 160) X188 hx hby at_160 (pc' := 164) (by decide) (by decide) ?_
      refine q_istore X188 hx hby at_164 (l' := #[vI x0, vI x1, vI x2, vI x3, vI x4, vI 2, vR b106, vR b112, vI z161, vR b162, vI (own_max x1 (0 : Int32)), vI (own_max x2 (0 : Int32)), uS, uS, uS, uS, uS]) rfl ?_
      refine q_iload X188 hx hby at_166 rfl ?_
      refine q_iconst X188 hx hby at_168 ?_
      refine q_icmpYes (pc := 169) X188 hx hby at_169 (pc' := 180) (tlt (show ((2 : Int32) < (3 : Int32)) from by decide)).1 (by decide) (by decide) ?_
      refine q_iconst X188 hx hby at_180 ?_
      refine q_istore X188 hx hby at_181 (l' := #[vI x0, vI x1, vI x2, vI x3, vI x4, vI 2, vR b106, vR b112, vI z161, vR b162, vI (own_max x1 (0 : Int32)), vI (own_max x2 (0 : Int32)), vI 0, uS, uS, uS, uS]) rfl ?_
      show own_Goes p e below (T188.setTop (mkF m 183 #[vI x0, vI x1, vI x2, vI x3, vI x4, vI 2, vR b106, vR b112, vI z161, vR b162, vI (own_max x1 (0 : Int32)), vI (own_max x2 (0 : Int32)), vI 0, uS, uS, uS, uS] [])) _
      have f189 := (A162.keep Kc184)
      exact TL (2 : Int32) z161 (own_max x1 (0 : Int32)) (own_max x2 (0 : Int32)) (0 : Int32) b106 b112 b162 _ _ _ _ _ (by decide) (by decide) hrz161 X188 e188 N188 O185 f189 c184_0
    by_cases hc190 : x4 < (0 : Int32)
    · refine q_ifYes (pc := 94) X158 hx hby at_94 (pc' := 107) ((if0 _ _).trans (tlt hc190).1) (by decide) (by decide) ?_
      refine q_iconst X158 hx hby at_107 ?_
      refine q_iload X158 hx hby at_108 rfl ?_
      refine gg (fun t k => Jvm.Stand.ldcI X158 hx hown (mv hZ (wh hw 314 rfl)) rfl (hb hby at_110) k) ?_
      refine q_iand X158 hx hby at_112 ?_
      refine gg (fun t k => Jvm.Stand.ldcI X158 hx hown (mv hZ (wh hw 314 rfl)) rfl (hb hby at_113) k) ?_
      refine gg (fun t k => iremM X158 hx rfl (hb hby at_115) rfl (by decide) k) ?_
      refine q_iadd X158 hx hby at_116 ?_
      exact Jz161 ((1 : Int32) + ((x4 &&& (2147483647 : Int32)) % (2147483647 : Int32))) (own_rkB _)
    · refine q_ifNo X158 hx hby at_94 ((if0 _ _).trans (flt hc190).1) ?_
      refine q_iconst X158 hx hby at_97 ?_
      refine q_iload X158 hx hby at_98 rfl ?_
      refine q_bipush X158 hx hby at_100 ?_
      refine q_iand X158 hx hby at_102 ?_
      refine q_iadd X158 hx hby at_103 ?_
      show own_Goes p e below (T158.setTop (mkF m 104 #[vI x0, vI x1, vI x2, vI x3, vI x4, vI 2, vR b106, vR b112, uS, uS, uS, uS, uS, uS, uS, uS, uS] [(.int ((1 : Int32) + (x4 &&& (7 : Int32))))])) _
      refine q_goto (pc := 104) X158 hx hby at_104 (pc' := 117) (by decide) (by decide) ?_
      exact Jz161 ((1 : Int32) + (x4 &&& (7 : Int32))) (own_rkA _)
  · rw [hl19]
    show own_Goes p e below (s₁.setTop (mkF m 3 #[vI x0, vI x1, vI x2, vI x3, vI x4, uS, uS, uS, uS, uS, uS, uS, uS, uS, uS, uS, uS] [.int 3])) _
    refine q_istore X0 hx hby at_3 (l' := #[vI x0, vI x1, vI x2, vI x3, vI x4, vI 3, uS, uS, uS, uS, uS, uS, uS, uS, uS, uS, uS]) rfl ?_
    obtain ⟨T191, h191, X191, e191, E191, A191, D191, -, st191⟩ := newO X0 hx hZ hown (wh hw 0 rfl) (wh hw 1 rfl) (wh hw 2 rfl) e0 (g := (mkF m 5 #[vI x0, vI x1, vI x2, vI x3, vI x4, vI 3, uS, uS, uS, uS, uS, uS, uS, uS, uS, uS, uS] [])) rfl (hb hby at_5) (by decide) (by decide)
    obtain ⟨b191, g191⟩ : ∃ z, z = h0.size := ⟨_, rfl⟩
    rw [← g191] at A191 D191 st191
    refine gg st191 ?_
    have O192 := O0.ext E191
    have sz193 : h0.size ≤ h191.size := E191.1
    have l191 : @LT.lt Nat _ b191 h191.size := A191.lt
    have F191_modCount : Fld Z h191 b191 "java/util/AbstractList" "modCount" "I" (.int 0) := D191 (Or.inl (wh hw 22 rfl)) (ty := .int) (by decide)
    have F191_elementData : Fld Z h191 b191 "java/util/ArrayList" "elementData" "[Ljava/lang/Object;" .null := D191 (Or.inl (wh hw 25 rfl)) (ty := (.array (.object "java/lang/Object"))) (by decide)
    have F191_size : Fld Z h191 b191 "java/util/ArrayList" "size" "I" (.int 0) := D191 (Or.inl (wh hw 59 rfl)) (ty := .int) (by decide)
    refine q_dup X191 hx hby at_8 rfl ?_
    refine k_N X191 hx hby hZ hown (wh hw 3 rfl) (wh hw 4 rfl) (W := 1) (own_alInit l Z a0 hw [] b191 h191 n0 O192 gwD gz gwc gcl G A191 F191_modCount (show n0 ≤ b191 by first | assumption | omega | decide) F191_elementData F191_size) (wh hw 5 rfl) (wh hw 2 rfl) e191  hml (argsL := []) (rest := [.ref b191]) own_pd_0 at_9 (fun _ T194 L194 X194 hQ194 => ?_)
    obtain ⟨h194, e194⟩ : ∃ z, T194.heap = z := ⟨_, rfl⟩
    rw [e194] at hQ194
    obtain ⟨Nc194, Kc194, rfl, c194_0⟩ := hQ194
    have N194 := Fr.app N0 Nc194
    have O195 := O192.keep Kc194 (allS (show n0 ≤ b191 by omega) all0)
    have sz196 : h191.size ≤ h194.size := Kc194.1
    refine q_astore X194 hx hby at_12 rfl (l' := #[vI x0, vI x1, vI x2, vI x3, vI x4, vI 3, vR b191, uS, uS, uS, uS, uS, uS, uS, uS, uS, uS]) rfl ?_
    obtain ⟨T197, h197, X197, e197, E197, A197, D197, -, st197⟩ := newO X194 hx hZ hown (wh hw 26 rfl) (wh hw 27 rfl) (wh hw 28 rfl) e194 (g := (mkF m 14 #[vI x0, vI x1, vI x2, vI x3, vI x4, vI 3, vR b191, uS, uS, uS, uS, uS, uS, uS, uS, uS, uS] [])) rfl (hb hby at_14) (by decide) (by decide)
    obtain ⟨b197, g197⟩ : ∃ z, z = h194.size := ⟨_, rfl⟩
    rw [← g197] at A197 D197 st197
    refine gg st197 ?_
    have O198 := O195.ext E197
    have sz199 : h194.size ≤ h197.size := E197.1
    have l197 : @LT.lt Nat _ b197 h197.size := A197.lt
    have F197_loadFactor : Fld Z h197 b197 "java/util/HashMap" "loadFactor" "F" (.float (0 : UInt32)) := D197 (Or.inr (wh hw 41 rfl)) (ty := .float) (by decide)
    have F197_size : Fld Z h197 b197 "java/util/HashMap" "size" "I" (.int 0) := D197 (Or.inl (wh hw 76 rfl)) (ty := .int) (by decide)
    have F197_values : Fld Z h197 b197 "java/util/AbstractMap" "values" "Ljava/util/Collection;" .null := D197 (Or.inl (wh hw 87 rfl)) (ty := (.object "java/util/Collection")) (by decide)
    have F197_modCount : Fld Z h197 b197 "java/util/HashMap" "modCount" "I" (.int 0) := D197 (Or.inl (wh hw 125 rfl)) (ty := .int) (by decide)
    have F197_table : Fld Z h197 b197 "java/util/HashMap" "table" "[Ljava/util/HashMap$Node;" .null := D197 (Or.inl (wh hw 129 rfl)) (ty := (.array (.object "java/util/HashMap$Node"))) (by decide)
    have F197_threshold : Fld Z h197 b197 "java/util/HashMap" "threshold" "I" (.int 0) := D197 (Or.inl (wh hw 259 rfl)) (ty := .int) (by decide)
    refine q_dup X197 hx hby at_17 rfl ?_
    refine k_N X197 hx hby hZ hown (wh hw 29 rfl) (wh hw 30 rfl) (W := 1) (own_hmInit l Z a0 hw [] b197 h197 n0 O198 A197 F197_loadFactor (show n0 ≤ b197 by first | assumption | omega | decide) F197_size F197_modCount F197_threshold F197_table F197_values) (wh hw 31 rfl) (wh hw 28 rfl) e197  hml (argsL := []) (rest := [.ref b197]) own_pd_0 at_18 (fun _ T200 L200 X200 hQ200 => ?_)
    obtain ⟨h200, e200⟩ : ∃ z, T200.heap = z := ⟨_, rfl⟩
    rw [e200] at hQ200
    obtain ⟨Nc200, Kc200, rfl, c200_0, c200_1, c200_2, c200_3, c200_4⟩ := hQ200
    have N200 := Fr.app N194 Nc200
    have O201 := O198.keep Kc200 (allS (show n0 ≤ b197 by omega) all0)
    have sz202 : h197.size ≤ h200.size := Kc200.1
    refine q_astore X200 hx hby at_21 rfl (l' := #[vI x0, vI x1, vI x2, vI x3, vI x4, vI 3, vR b191, vR b197, uS, uS, uS, uS, uS, uS, uS, uS, uS]) rfl ?_
    refine q_iload X200 hx hby at_23 rfl ?_
    refine q_iconst X200 hx hby at_25 ?_
    refine q_icmpNo X200 hx hby at_26 (flt (show ¬ ((3 : Int32) < (1 : Int32)) from by decide)).1 ?_
    refine q_aload X200 hx hby at_29 rfl rfl ?_
    refine q_bipush X200 hx hby at_31 ?_
    show own_Goes p e below (T200.setTop (mkF m 33 #[vI x0, vI x1, vI x2, vI x3, vI x4, vI 3, vR b191, vR b197, uS, uS, uS, uS, uS, uS, uS, uS, uS] [.int 97, .ref b197])) _
    refine k_S X200 hx hby hZ hown (wh hw 187 rfl) (wh hw 188 rfl) (W := 1) (own_vOf l Z a0 hw [] (97 : Int32) h200 n0 O201 gwD gz gwc gcl G (show own_chr (97 : Int32) from (by first | assumption | exact own_chr97 | exact own_chr98 | exact own_chr99))) (wh hw 190 rfl) (wh hw 189 rfl) e200  hml (argsL := [.int 97]) (rest := [.ref b197]) own_pd_27 at_33 (fun _ T203 L203 X203 hQ203 => ?_)
    obtain ⟨h203, e203⟩ : ∃ z, T203.heap = z := ⟨_, rfl⟩
    rw [e203] at hQ203
    obtain ⟨Nc203, Kc203, r_203, rb_203, rk_203, rfl, c203_0, c203_1, c203_2, c203_3, c203_4, c203_5, c203_6, c203_7⟩ := hQ203
    have N203 := Fr.app N200 Nc203
    have O204 := O201.keep Kc203 all0
    have sz205 : h200.size ≤ h203.size := Kc203.1
    have ltc203_0 : @LT.lt Nat _ r_203 h203.size := c203_0.lt
    have ltc203_5 : @LT.lt Nat _ rb_203 h203.size := c203_5.lt
    refine q_iloadN X203 hx hby at_36 rfl ?_
    refine k_S X203 hx hby hZ hown (wh hw 211 rfl) (wh hw 212 rfl) (W := 2) (own_intValueOf l Z a0 hw [] x1 h203 n0 O204 gwD gz gwc gcl G) (wh hw 214 rfl) (wh hw 213 rfl) e203  hml (argsL := [.int x1]) (rest := [.ref r_203, .ref b197]) own_pd_28 at_37 (fun _ T206 L206 X206 hQ206 => ?_)
    obtain ⟨h206, e206⟩ : ∃ z, T206.heap = z := ⟨_, rfl⟩
    rw [e206] at hQ206
    obtain ⟨Nc206, Kc206, r_206, rfl, c206_0, c206_1, c206_2⟩ := hQ206
    have N206 := Fr.app N203 Nc206
    have O207 := O204.keep Kc206 all0
    have sz208 : h203.size ≤ h206.size := Kc206.1
    have ltc206_0 : @LT.lt Nat _ r_206 h206.size := c206_0.lt
    have f209 := (((A197.keep Kc200).keep Kc203).keep Kc206)
    have f210 := ((c200_0.keep Kc203 nin0).keep Kc206 nin0)
    have f211 := ((c200_1.keep Kc203 nin0).keep Kc206 nin0)
    have f212 := ((c200_2.keep Kc203 nin0).keep Kc206 nin0)
    have f213 := ((c200_3.keep Kc203 nin0).keep Kc206 nin0)
    have f214 := ((c200_4.keep Kc203 nin0).keep Kc206 nin0)
    have f215 := (c203_0.keep Kc206)
    have f216 := (c203_1.keep Kc206 nin0)
    have f217 := (c203_2.keep Kc206 nin0)
    have f218 := (c203_3.keep Kc206 nin0)
    have f219 := (c203_4.keep Kc206 nin0)
    have f220 := (c203_5.keep Kc206 nin0)
    refine k_I X206 hx hby hZ hown (wh hw 218 rfl) (wh hw 219 rfl) (wh hw 220 rfl) (wh hw 221 rfl) (wh hw 222 rfl) (wh hw 223 rfl) (wh hw 224 rfl) (wh hw 73 rfl) (W := 0) (own_put0 l Z a0 hw [] b197 r_203 rb_203 rk_203 r_206 h206 n0 O207 gwD gz gwc gcl G f209 (show n0 ≤ b197 by first | assumption | omega | decide) f210 f211 f212 f213 f214 f215 f216 f217 f218 f219 f220 (show n0 ≤ r_203 by first | assumption | omega | decide) (show @LT.lt Nat _ b197 r_203 by first | assumption | omega | decide) (show @LT.lt Nat _ r_203 rb_203 by first | assumption | omega | decide)) (wh hw 225 rfl) (wh hw 28 rfl) e206 f209  hml (argsL := [.ref r_203, .ref r_206]) (rest := []) own_pd_29 at_40 (fun _ T221 L221 X221 hQ221 => ?_)
    obtain ⟨h221, e221⟩ : ∃ z, T221.heap = z := ⟨_, rfl⟩
    rw [e221] at hQ221
    obtain ⟨Nc221, Kc221, rt_221, rk_221, r_221, rfl, c221_0, c221_1, c221_2, c221_3, c221_4, c221_5, c221_6, c221_7, c221_8, c221_9, c221_10, c221_11⟩ := hQ221
    have N221 := Fr.app N206 Nc221
    have O222 := O207.keep Kc221 (allS (show n0 ≤ b197 by omega) (allS (show n0 ≤ r_203 by omega) all0))
    have sz223 : h206.size ≤ h221.size := Kc221.1
    have ltc221_5 : @LT.lt Nat _ rt_221 h221.size := c221_5.lt
    have ltc221_6 : @LT.lt Nat _ r_221 h221.size := c221_6.lt
    refine gg (fun t k => XS.pop X221.here hx rfl (hb hby at_45) rfl rfl k) ?_
    refine q_iload X221 hx hby at_46 rfl ?_
    refine q_iconst X221 hx hby at_48 ?_
    refine q_icmpNo X221 hx hby at_49 (flt (show ¬ ((3 : Int32) < (2 : Int32)) from by decide)).1 ?_
    refine q_aload X221 hx hby at_52 rfl rfl ?_
    refine q_bipush X221 hx hby at_54 ?_
    refine k_S X221 hx hby hZ hown (wh hw 187 rfl) (wh hw 188 rfl) (W := 1) (own_vOf l Z a0 hw [] (98 : Int32) h221 n0 O222 gwD gz gwc gcl G (show own_chr (98 : Int32) from (by first | assumption | exact own_chr97 | exact own_chr98 | exact own_chr99))) (wh hw 190 rfl) (wh hw 189 rfl) e221  hml (argsL := [.int 98]) (rest := [.ref b197]) own_pd_27 at_56 (fun _ T224 L224 X224 hQ224 => ?_)
    obtain ⟨h224, e224⟩ : ∃ z, T224.heap = z := ⟨_, rfl⟩
    rw [e224] at hQ224
    obtain ⟨Nc224, Kc224, r_224, rb_224, rk_224, rfl, c224_0, c224_1, c224_2, c224_3, c224_4, c224_5, c224_6, c224_7⟩ := hQ224
    have N224 := Fr.app N221 Nc224
    have O225 := O222.keep Kc224 all0
    have sz226 : h221.size ≤ h224.size := Kc224.1
    have ltc224_0 : @LT.lt Nat _ r_224 h224.size := c224_0.lt
    have ltc224_5 : @LT.lt Nat _ rb_224 h224.size := c224_5.lt
    refine q_iloadN X224 hx hby at_59 rfl ?_
    refine k_S X224 hx hby hZ hown (wh hw 211 rfl) (wh hw 212 rfl) (W := 2) (own_intValueOf l Z a0 hw [] x2 h224 n0 O225 gwD gz gwc gcl G) (wh hw 214 rfl) (wh hw 213 rfl) e224  hml (argsL := [.int x2]) (rest := [.ref r_224, .ref b197]) own_pd_28 at_60 (fun _ T227 L227 X227 hQ227 => ?_)
    obtain ⟨h227, e227⟩ : ∃ z, T227.heap = z := ⟨_, rfl⟩
    rw [e227] at hQ227
    obtain ⟨Nc227, Kc227, r_227, rfl, c227_0, c227_1, c227_2⟩ := hQ227
    have N227 := Fr.app N224 Nc227
    have O228 := O225.keep Kc227 all0
    have sz229 : h224.size ≤ h227.size := Kc227.1
    have ltc227_0 : @LT.lt Nat _ r_227 h227.size := c227_0.lt
    have f230 := (((f209.keep Kc221).keep Kc224).keep Kc227)
    have f231 := ((c221_0.keep Kc224 nin0).keep Kc227 nin0)
    have f232 := ((c221_1.keep Kc224 nin0).keep Kc227 nin0)
    have f233 := ((c221_2.keep Kc224 nin0).keep Kc227 nin0)
    have f234 := ((c221_3.keep Kc224 nin0).keep Kc227 nin0)
    have f235 := ((c221_4.keep Kc224 nin0).keep Kc227 nin0)
    have f236 := ((c221_5.keep Kc224 nin0).keep Kc227 nin0)
    have f237 := (c224_0.keep Kc227)
    have f238 := (c224_1.keep Kc227 nin0)
    have f239 := (c224_2.keep Kc227 nin0)
    have f240 := (c224_3.keep Kc227 nin0)
    have f241 := (c224_4.keep Kc227 nin0)
    have f242 := (c224_5.keep Kc227 nin0)
    refine k_I X227 hx hby hZ hown (wh hw 218 rfl) (wh hw 219 rfl) (wh hw 220 rfl) (wh hw 221 rfl) (wh hw 222 rfl) (wh hw 223 rfl) (wh hw 224 rfl) (wh hw 73 rfl) (W := 0) (own_put1 l Z a0 hw [] b197 rt_221 rk_221 r_221 r_224 rb_224 rk_224 r_227 h227 n0 O228 gwD gz gwc gcl G f230 (show n0 ≤ b197 by first | assumption | omega | decide) (show n0 ≤ rt_221 by first | assumption | omega | decide) (show @LT.lt Nat _ b197 rt_221 by first | assumption | omega | decide) f231 f232 f233 f234 f235 f236 (show Ovr Z rk_221 "java/util/HashMap$Node" by first | assumption | omega | decide) f237 f238 f239 f240 f241 f242 (show n0 ≤ r_224 by first | assumption | omega | decide) (show @LT.lt Nat _ rt_221 r_224 by first | assumption | omega | decide) (show @LT.lt Nat _ r_224 rb_224 by first | assumption | omega | decide)) (wh hw 225 rfl) (wh hw 28 rfl) e227 f230  hml (argsL := [.ref r_224, .ref r_227]) (rest := []) own_pd_29 at_63 (fun _ T243 L243 X243 hQ243 => ?_)
    obtain ⟨h243, e243⟩ : ∃ z, T243.heap = z := ⟨_, rfl⟩
    rw [e243] at hQ243
    obtain ⟨Nc243, Kc243, r_243, rfl, c243_0, c243_1, c243_2, c243_3, c243_4, c243_5, c243_6, c243_7, c243_8, c243_9⟩ := hQ243
    have N243 := Fr.app N227 Nc243
    have O244 := O228.keep Kc243 (allS (show n0 ≤ b197 by omega) (allS (show n0 ≤ rt_221 by omega) (allS (show n0 ≤ r_224 by omega) all0)))
    have sz245 : h227.size ≤ h243.size := Kc243.1
    have ltc243_5 : @LT.lt Nat _ rt_221 h243.size := c243_5.lt
    have ltc243_6 : @LT.lt Nat _ r_243 h243.size := c243_6.lt
    show own_Goes p e below (T243.setTop (mkF m 68 #[vI x0, vI x1, vI x2, vI x3, vI x4, vI 3, vR b191, vR b197, uS, uS, uS, uS, uS, uS, uS, uS, uS] [.null])) _
    refine gg (fun t k => XS.pop X243.here hx rfl (hb hby at_68) rfl rfl k) ?_
    refine q_iload X243 hx hby at_69 rfl ?_
    refine q_iconst X243 hx hby at_71 ?_
    refine q_icmpNo X243 hx hby at_72 (flt (show ¬ ((3 : Int32) < (3 : Int32)) from by decide)).1 ?_
    refine q_aload X243 hx hby at_75 rfl rfl ?_
    refine q_bipush X243 hx hby at_77 ?_
    refine k_S X243 hx hby hZ hown (wh hw 187 rfl) (wh hw 188 rfl) (W := 1) (own_vOf l Z a0 hw [] (99 : Int32) h243 n0 O244 gwD gz gwc gcl G (show own_chr (99 : Int32) from (by first | assumption | exact own_chr97 | exact own_chr98 | exact own_chr99))) (wh hw 190 rfl) (wh hw 189 rfl) e243  hml (argsL := [.int 99]) (rest := [.ref b197]) own_pd_27 at_79 (fun _ T246 L246 X246 hQ246 => ?_)
    obtain ⟨h246, e246⟩ : ∃ z, T246.heap = z := ⟨_, rfl⟩
    rw [e246] at hQ246
    obtain ⟨Nc246, Kc246, r_246, rb_246, rk_246, rfl, c246_0, c246_1, c246_2, c246_3, c246_4, c246_5, c246_6, c246_7⟩ := hQ246
    have N246 := Fr.app N243 Nc246
    have O247 := O244.keep Kc246 all0
    have sz248 : h243.size ≤ h246.size := Kc246.1
    have ltc246_0 : @LT.lt Nat _ r_246 h246.size := c246_0.lt
    have ltc246_5 : @LT.lt Nat _ rb_246 h246.size := c246_5.lt
    refine q_iloadN X246 hx hby at_82 rfl ?_
    refine k_S X246 hx hby hZ hown (wh hw 211 rfl) (wh hw 212 rfl) (W := 2) (own_intValueOf l Z a0 hw [] x3 h246 n0 O247 gwD gz gwc gcl G) (wh hw 214 rfl) (wh hw 213 rfl) e246  hml (argsL := [.int x3]) (rest := [.ref r_246, .ref b197]) own_pd_28 at_83 (fun _ T249 L249 X249 hQ249 => ?_)
    obtain ⟨h249, e249⟩ : ∃ z, T249.heap = z := ⟨_, rfl⟩
    rw [e249] at hQ249
    obtain ⟨Nc249, Kc249, r_249, rfl, c249_0, c249_1, c249_2⟩ := hQ249
    have N249 := Fr.app N246 Nc249
    have O250 := O247.keep Kc249 all0
    have sz251 : h246.size ≤ h249.size := Kc249.1
    have ltc249_0 : @LT.lt Nat _ r_249 h249.size := c249_0.lt
    have f252 := (((f230.keep Kc243).keep Kc246).keep Kc249)
    have f253 := ((c243_0.keep Kc246 nin0).keep Kc249 nin0)
    have f254 := ((c243_1.keep Kc246 nin0).keep Kc249 nin0)
    have f255 := ((c243_2.keep Kc246 nin0).keep Kc249 nin0)
    have f256 := ((c243_3.keep Kc246 nin0).keep Kc249 nin0)
    have f257 := ((c243_4.keep Kc246 nin0).keep Kc249 nin0)
    have f258 := ((c243_5.keep Kc246 nin0).keep Kc249 nin0)
    have f259 := (c246_0.keep Kc249)
    have f260 := (c246_1.keep Kc249 nin0)
    have f261 := (c246_2.keep Kc249 nin0)
    have f262 := (c246_3.keep Kc249 nin0)
    have f263 := (c246_4.keep Kc249 nin0)
    have f264 := (c246_5.keep Kc249 nin0)
    refine k_I X249 hx hby hZ hown (wh hw 218 rfl) (wh hw 219 rfl) (wh hw 220 rfl) (wh hw 221 rfl) (wh hw 222 rfl) (wh hw 223 rfl) (wh hw 224 rfl) (wh hw 73 rfl) (W := 0) (own_put2 l Z a0 hw [] b197 rt_221 rk_221 r_221 r_243 r_246 rb_246 rk_246 r_249 h249 n0 O250 gwD gz gwc gcl G f252 (show n0 ≤ b197 by first | assumption | omega | decide) (show n0 ≤ rt_221 by first | assumption | omega | decide) (show @LT.lt Nat _ b197 rt_221 by first | assumption | omega | decide) f253 f254 f255 f256 f257 f258 (show Ovr Z rk_221 "java/util/HashMap$Node" by first | assumption | omega | decide) f259 f260 f261 f262 f263 f264 (show n0 ≤ r_246 by first | assumption | omega | decide) (show @LT.lt Nat _ rt_221 r_246 by first | assumption | omega | decide) (show @LT.lt Nat _ r_246 rb_246 by first | assumption | omega | decide)) (wh hw 225 rfl) (wh hw 28 rfl) e249 f252  hml (argsL := [.ref r_246, .ref r_249]) (rest := []) own_pd_29 at_86 (fun _ T265 L265 X265 hQ265 => ?_)
    obtain ⟨h265, e265⟩ : ∃ z, T265.heap = z := ⟨_, rfl⟩
    rw [e265] at hQ265
    obtain ⟨Nc265, Kc265, r_265, rfl, c265_0, c265_1, c265_2, c265_3, c265_4, c265_5, c265_6, c265_7, c265_8, c265_9⟩ := hQ265
    have N265 := Fr.app N249 Nc265
    have O266 := O250.keep Kc265 (allS (show n0 ≤ b197 by omega) (allS (show n0 ≤ rt_221 by omega) (allS (show n0 ≤ r_246 by omega) all0)))
    have sz267 : h249.size ≤ h265.size := Kc265.1
    have ltc265_5 : @LT.lt Nat _ rt_221 h265.size := c265_5.lt
    have ltc265_6 : @LT.lt Nat _ r_265 h265.size := c265_6.lt
    refine gg (fun t k => XS.pop X265.here hx rfl (hb hby at_91) rfl rfl k) ?_
    refine q_iload X265 hx hby at_92 rfl ?_
    have Jz268 : ∀ z268 : Int32, ¬ z268 < (1 : Int32) → own_Goes p e below (T265.setTop (mkF m 117 #[vI x0, vI x1, vI x2, vI x3, vI x4, vI 3, vR b191, vR b197, uS, uS, uS, uS, uS, uS, uS, uS, uS] [.int z268])) (own_PostN s (Q_rm0 Z x0 x1 x2 x3 x4 gwD gz gwc gcl h0 n0) room_1.cells room_1.slots) := by
      intro z268 hrz268
      show own_Goes p e below (T265.setTop (mkF m 117 #[vI x0, vI x1, vI x2, vI x3, vI x4, vI 3, vR b191, vR b197, uS, uS, uS, uS, uS, uS, uS, uS, uS] [.int z268])) _
      refine q_istore X265 hx hby at_117 (l' := #[vI x0, vI x1, vI x2, vI x3, vI x4, vI 3, vR b191, vR b197, vI z268, uS, uS, uS, uS, uS, uS, uS, uS]) rfl ?_
      obtain ⟨T269, h269, X269, e269, E269, A269, D269, -, st269⟩ := newO X265 hx hZ hown (wh hw 42 rfl) (wh hw 43 rfl) (wh hw 44 rfl) e265 (g := (mkF m 119 #[vI x0, vI x1, vI x2, vI x3, vI x4, vI 3, vR b191, vR b197, vI z268, uS, uS, uS, uS, uS, uS, uS, uS] [])) rfl (hb hby at_119) (by decide) (by decide)
      obtain ⟨b269, g269⟩ : ∃ z, z = h265.size := ⟨_, rfl⟩
      rw [← g269] at A269 D269 st269
      refine gg st269 ?_
      have O270 := O266.ext E269
      have sz271 : h265.size ≤ h269.size := E269.1
      have l269 : @LT.lt Nat _ b269 h269.size := A269.lt
      have F269_relevant : Fld Z h269 b269 "com/example/dolm/dolm/eval/JudgedRanking" "relevant" "[Z" .null := D269 (Or.inr (wh hw 62 rfl)) (ty := (.array .boolean)) (by decide)
      have F269_gains : Fld Z h269 b269 "com/example/dolm/dolm/eval/JudgedRanking" "gains" "[I" .null := D269 (Or.inr (wh hw 65 rfl)) (ty := (.array .int)) (by decide)
      have F269_relevantCount : Fld Z h269 b269 "com/example/dolm/dolm/eval/JudgedRanking" "relevantCount" "I" (.int 0) := D269 (Or.inr (wh hw 146 rfl)) (ty := .int) (by decide)
      have F269_judgedGains : Fld Z h269 b269 "com/example/dolm/dolm/eval/JudgedRanking" "judgedGains" "[I" .null := D269 (Or.inr (wh hw 161 rfl)) (ty := (.array .int)) (by decide)
      refine q_dup X269 hx hby at_122 rfl ?_
      refine q_aload X269 hx hby at_123 rfl rfl ?_
      refine q_aload X269 hx hby at_125 rfl rfl ?_
      have f272 := (((((((((((((A191.keep Kc194).ext E197).keep Kc200).keep Kc203).keep Kc206).keep Kc221).keep Kc224).keep Kc227).keep Kc243).keep Kc246).keep Kc249).keep Kc265).ext E269)
      have f273 := ((((((((((((c194_0.ext E197).keep Kc200 (ninS (nE b191 b197 (by omega)) nin0)).keep Kc203 nin0).keep Kc206 nin0).keep Kc221 (ninS (nE b191 b197 (by omega)) (ninS (nE b191 r_203 (by omega)) nin0))).keep Kc224 nin0).keep Kc227 nin0).keep Kc243 (ninS (nE b191 b197 (by omega)) (ninS (nE b191 rt_221 (by omega)) (ninS (nE b191 r_224 (by omega)) nin0)))).keep Kc246 nin0).keep Kc249 nin0).keep Kc265 (ninS (nE b191 b197 (by omega)) (ninS (nE b191 rt_221 (by omega)) (ninS (nE b191 r_246 (by omega)) nin0)))).ext E269)
      have f274 := ((f252.keep Kc265).ext E269)
      have f275 := (c265_0.ext E269)
      have f276 := (c265_1.ext E269)
      have f277 := (c265_2.ext E269)
      have f278 := (c265_3.ext E269)
      have f279 := (c265_4.ext E269)
      have f280 := (c265_5.ext E269)
      have f281 := (((((((c221_6.keep Kc224).keep Kc227).keep Kc243).keep Kc246).keep Kc249).keep Kc265).ext E269)
      have f282 := (((((((c221_7.keep Kc224 nin0).keep Kc227 nin0).keep Kc243 (ninS (nE r_221 b197 (by omega)) (ninS (nE r_221 rt_221 (by omega)) (ninS (nE r_221 r_224 (by omega)) nin0)))).keep Kc246 nin0).keep Kc249 nin0).keep Kc265 (ninS (nE r_221 b197 (by omega)) (ninS (nE r_221 rt_221 (by omega)) (ninS (nE r_221 r_246 (by omega)) nin0)))).ext E269)
      have f283 := (((((((c221_8.keep Kc224 nin0).keep Kc227 nin0).keep Kc243 (ninS (nE r_221 b197 (by omega)) (ninS (nE r_221 rt_221 (by omega)) (ninS (nE r_221 r_224 (by omega)) nin0)))).keep Kc246 nin0).keep Kc249 nin0).keep Kc265 (ninS (nE r_221 b197 (by omega)) (ninS (nE r_221 rt_221 (by omega)) (ninS (nE r_221 r_246 (by omega)) nin0)))).ext E269)
      have f284 := ((((((((c206_0.keep Kc221).keep Kc224).keep Kc227).keep Kc243).keep Kc246).keep Kc249).keep Kc265).ext E269)
      have f285 := ((((((((c206_1.keep Kc221 (ninS (nE r_206 b197 (by omega)) (ninS (nE r_206 r_203 (by omega)) nin0))).keep Kc224 nin0).keep Kc227 nin0).keep Kc243 (ninS (nE r_206 b197 (by omega)) (ninS (nE r_206 rt_221 (by omega)) (ninS (nE r_206 r_224 (by omega)) nin0)))).keep Kc246 nin0).keep Kc249 nin0).keep Kc265 (ninS (nE r_206 b197 (by omega)) (ninS (nE r_206 rt_221 (by omega)) (ninS (nE r_206 r_246 (by omega)) nin0)))).ext E269)
      have f286 := ((((c243_6.keep Kc246).keep Kc249).keep Kc265).ext E269)
      have f287 := ((((c243_7.keep Kc246 nin0).keep Kc249 nin0).keep Kc265 (ninS (nE r_243 b197 (by omega)) (ninS (nE r_243 rt_221 (by omega)) (ninS (nE r_243 r_246 (by omega)) nin0)))).ext E269)
      have f288 := ((((c243_8.keep Kc246 nin0).keep Kc249 nin0).keep Kc265 (ninS (nE r_243 b197 (by omega)) (ninS (nE r_243 rt_221 (by omega)) (ninS (nE r_243 r_246 (by omega)) nin0)))).ext E269)
      have f289 := (((((c227_0.keep Kc243).keep Kc246).keep Kc249).keep Kc265).ext E269)
      have f290 := (((((c227_1.keep Kc243 (ninS (nE r_227 b197 (by omega)) (ninS (nE r_227 rt_221 (by omega)) (ninS (nE r_227 r_224 (by omega)) nin0)))).keep Kc246 nin0).keep Kc249 nin0).keep Kc265 (ninS (nE r_227 b197 (by omega)) (ninS (nE r_227 rt_221 (by omega)) (ninS (nE r_227 r_246 (by omega)) nin0)))).ext E269)
      have f291 := (c265_6.ext E269)
      have f292 := (c265_7.ext E269)
      have f293 := (c265_8.ext E269)
      have f294 := ((c249_0.keep Kc265).ext E269)
      have f295 := ((c249_1.keep Kc265 (ninS (nE r_249 b197 (by omega)) (ninS (nE r_249 rt_221 (by omega)) (ninS (nE r_249 r_246 (by omega)) nin0)))).ext E269)
      refine k_N X269 hx hby hZ hown (wh hw 45 rfl) (wh hw 46 rfl) (W := 1) (own_jr3 l Z a0 hw [] b269 b191 b197 rt_221 rk_221 r_221 r_243 r_265 r_206 r_227 r_249 x1 x2 x3 h269 n0 O270 A269 F269_relevant F269_gains F269_relevantCount F269_judgedGains (show n0 ≤ b269 by first | assumption | omega | decide) (show n0 ≤ b197 by first | assumption | omega | decide) f272 f273 f274 f275 f276 f277 f278 f279 (show @LT.lt Nat _ b197 b269 by first | assumption | omega | decide) (show @LT.lt Nat _ b191 b197 by first | assumption | omega | decide) f280 (show @LT.lt Nat _ b197 rt_221 by first | assumption | omega | decide) (show @LT.lt Nat _ rt_221 b269 by first | assumption | omega | decide) f281 f282 f283 f284 f285 (show @LT.lt Nat _ rt_221 r_221 by first | assumption | omega | decide) (show @LT.lt Nat _ r_221 b269 by first | assumption | omega | decide) (show (@LT.lt Nat _ r_206 n0 ∨ @LT.lt Nat _ b197 r_206) by first | assumption | omega | decide) (show @LT.lt Nat _ r_206 b269 by first | assumption | omega | decide) f286 f287 f288 f289 f290 (show @LT.lt Nat _ rt_221 r_243 by first | assumption | omega | decide) (show @LT.lt Nat _ r_243 b269 by first | assumption | omega | decide) (show (@LT.lt Nat _ r_227 n0 ∨ @LT.lt Nat _ b197 r_227) by first | assumption | omega | decide) (show @LT.lt Nat _ r_227 b269 by first | assumption | omega | decide) f291 f292 f293 f294 f295 (show @LT.lt Nat _ rt_221 r_265 by first | assumption | omega | decide) (show @LT.lt Nat _ r_265 b269 by first | assumption | omega | decide) (show (@LT.lt Nat _ r_249 n0 ∨ @LT.lt Nat _ b197 r_249) by first | assumption | omega | decide) (show @LT.lt Nat _ r_249 b269 by first | assumption | omega | decide)) (wh hw 47 rfl) (wh hw 44 rfl) e269  hml (argsL := [.ref b191, .ref b197]) (rest := [.ref b269]) own_pd_26 at_127 (fun _ T296 L296 X296 hQ296 => ?_)
      obtain ⟨h296, e296⟩ : ∃ z, T296.heap = z := ⟨_, rfl⟩
      rw [e296] at hQ296
      obtain ⟨Nc296, Kc296, rfl, c296_0⟩ := hQ296
      have N296 := Fr.app N265 Nc296
      have O297 := O270.keep Kc296 (allS (show n0 ≤ b269 by omega) (allS (show n0 ≤ b197 by omega) all0))
      have sz298 : h269.size ≤ h296.size := Kc296.1
      refine q_astore X296 hx hby at_130 rfl (l' := #[vI x0, vI x1, vI x2, vI x3, vI x4, vI 3, vR b191, vR b197, vI z268, vR b269, uS, uS, uS, uS, uS, uS, uS]) rfl ?_
      refine q_iload X296 hx hby at_132 rfl ?_
      refine q_iconst X296 hx hby at_134 ?_
      refine q_icmpNo X296 hx hby at_135 (flt (show ¬ ((3 : Int32) < (1 : Int32)) from by decide)).1 ?_
      refine q_iloadN X296 hx hby at_138 rfl ?_
      refine q_iconst X296 hx hby at_139 ?_
      refine k_S X296 hx hby hZ hown (wh hw 175 rfl) (wh hw 176 rfl) (W := 0) (own_maxC l Z a0 hw [] x1 (0 : Int32) h296 n0 O297) (wh hw 178 rfl) (wh hw 177 rfl) e296  hml (argsL := [.int x1, .int 0]) (rest := []) own_pd_15 at_140 (fun _ T299 L299 X299 hQ299 => ?_)
      obtain ⟨Nc299, e299, rfl⟩ := hQ299
      have N299 := Fr.app N296 Nc299
      refine q_goto (pc := 143) X299 hx hby at_143 (pc' := 147) (by decide) (by decide) ?_
      show own_Goes p e below (T299.setTop (mkF m 147 #[vI x0, vI x1, vI x2, vI x3, vI x4, vI 3, vR b191, vR b197, vI z268, vR b269, uS, uS, uS, uS, uS, uS, uS] [(.int (own_max x1 (0 : Int32)))])) _
      refine q_istore X299 hx hby at_147 (l' := #[vI x0, vI x1, vI x2, vI x3, vI x4, vI 3, vR b191, vR b197, vI z268, vR b269, vI (own_max x1 (0 : Int32)), uS, uS, uS, uS, uS, uS]) rfl ?_
      refine q_iload X299 hx hby at_149 rfl ?_
      refine q_iconst X299 hx hby at_151 ?_
      refine q_icmpNo X299 hx hby at_152 (flt (show ¬ ((3 : Int32) < (2 : Int32)) from by decide)).1 ?_
      refine q_iloadN X299 hx hby at_155 rfl ?_
      refine q_iconst X299 hx hby at_156 ?_
      refine k_S X299 hx hby hZ hown (wh hw 175 rfl) (wh hw 176 rfl) (W := 0) (own_maxC l Z a0 hw [] x2 (0 : Int32) h296 n0 O297) (wh hw 178 rfl) (wh hw 177 rfl) e299  hml (argsL := [.int x2, .int 0]) (rest := []) own_pd_15 at_157 (fun _ T300 L300 X300 hQ300 => ?_)
      obtain ⟨Nc300, e300, rfl⟩ := hQ300
      have N300 := Fr.app N299 Nc300
      refine q_goto (pc := 160) X300 hx hby at_160 (pc' := 164) (by decide) (by decide) ?_
      refine q_istore X300 hx hby at_164 (l' := #[vI x0, vI x1, vI x2, vI x3, vI x4, vI 3, vR b191, vR b197, vI z268, vR b269, vI (own_max x1 (0 : Int32)), vI (own_max x2 (0 : Int32)), uS, uS, uS, uS, uS]) rfl ?_
      refine q_iload X300 hx hby at_166 rfl ?_
      refine q_iconst X300 hx hby at_168 ?_
      refine q_icmpNo X300 hx hby at_169 (flt (show ¬ ((3 : Int32) < (3 : Int32)) from by decide)).1 ?_
      refine q_iloadN X300 hx hby at_172 rfl ?_
      refine q_iconst X300 hx hby at_173 ?_
      show own_Goes p e below (T300.setTop (mkF m 174 #[vI x0, vI x1, vI x2, vI x3, vI x4, vI 3, vR b191, vR b197, vI z268, vR b269, vI (own_max x1 (0 : Int32)), vI (own_max x2 (0 : Int32)), uS, uS, uS, uS, uS] [.int 0, .int x3])) _
      refine k_S X300 hx hby hZ hown (wh hw 175 rfl) (wh hw 176 rfl) (W := 0) (own_maxC l Z a0 hw [] x3 (0 : Int32) h296 n0 O297) (wh hw 178 rfl) (wh hw 177 rfl) e300  hml (argsL := [.int x3, .int 0]) (rest := []) own_pd_15 at_174 (fun _ T301 L301 X301 hQ301 => ?_)
      obtain ⟨Nc301, e301, rfl⟩ := hQ301
      have N301 := Fr.app N300 Nc301
      refine q_goto (pc := 177) X301 hx hby at_177 (pc' := 181) (by decide) (by decide) ?_
      refine q_istore X301 hx hby at_181 (l' := #[vI x0, vI x1, vI x2, vI x3, vI x4, vI 3, vR b191, vR b197, vI z268, vR b269, vI (own_max x1 (0 : Int32)), vI (own_max x2 (0 : Int32)), vI (own_max x3 (0 : Int32)), uS, uS, uS, uS]) rfl ?_
      have f302 := (A269.keep Kc296)
      exact TL (3 : Int32) z268 (own_max x1 (0 : Int32)) (own_max x2 (0 : Int32)) (own_max x3 (0 : Int32)) b191 b197 b269 _ _ _ _ _ (by decide) (by decide) hrz268 X301 e301 N301 O297 f302 c296_0
    by_cases hc303 : x4 < (0 : Int32)
    · refine q_ifYes (pc := 94) X265 hx hby at_94 (pc' := 107) ((if0 _ _).trans (tlt hc303).1) (by decide) (by decide) ?_
      refine q_iconst X265 hx hby at_107 ?_
      refine q_iload X265 hx hby at_108 rfl ?_
      refine gg (fun t k => Jvm.Stand.ldcI X265 hx hown (mv hZ (wh hw 314 rfl)) rfl (hb hby at_110) k) ?_
      refine q_iand X265 hx hby at_112 ?_
      refine gg (fun t k => Jvm.Stand.ldcI X265 hx hown (mv hZ (wh hw 314 rfl)) rfl (hb hby at_113) k) ?_
      refine gg (fun t k => iremM X265 hx rfl (hb hby at_115) rfl (by decide) k) ?_
      refine q_iadd X265 hx hby at_116 ?_
      exact Jz268 ((1 : Int32) + ((x4 &&& (2147483647 : Int32)) % (2147483647 : Int32))) (own_rkB _)
    · refine q_ifNo X265 hx hby at_94 ((if0 _ _).trans (flt hc303).1) ?_
      refine q_iconst X265 hx hby at_97 ?_
      refine q_iload X265 hx hby at_98 rfl ?_
      show own_Goes p e below (T265.setTop (mkF m 100 #[vI x0, vI x1, vI x2, vI x3, vI x4, vI 3, vR b191, vR b197, uS, uS, uS, uS, uS, uS, uS, uS, uS] [.int x4, .int 1])) _
      refine q_bipush X265 hx hby at_100 ?_
      refine q_iand X265 hx hby at_102 ?_
      refine q_iadd X265 hx hby at_103 ?_
      refine q_goto (pc := 104) X265 hx hby at_104 (pc' := 117) (by decide) (by decide) ?_
      exact Jz268 ((1 : Int32) + (x4 &&& (7 : Int32))) (own_rkA _)
theorem comes_1 {Post : Tables → Env → Array Value → State → Outcome → State → Prop} (hpost : ∀ tb e args s v u, (limb_1_1.after args s (.returned v) u = true ∧ limb_1_2.after args s (.returned v) u = true ∧ True) → FrameEnd s (.returned v) u (Jvm.fieldLocs frame_1_writes args s ++ Jvm.arrayLocs frame_1_arrays args s ++ Jvm.staticLocs frame_1_statics s) 56 256 → Post tb e args s (.returned v) u) :
    ArmFor flags0 classFile x code maxLocals ret World_1 tables_1 room_1 Calls_1 rest_1 Pre_1 Post := by
  intro l hfl _ _ p e ha hc hk s m args below hf hA hF happ hP
  obtain ⟨hcalls, hrest, hpre⟩ := hP
  obtain ⟨-, -, -, hnamed, -, -, -, hat⟩ := (Spec.applies_iff hf).mp happ
  obtain ⟨hg, hn⟩ := and_e (Cond.before_iff.mp (show (Jvm.Cond.and given_1 narrow_1).before args s = true from hpre))
  obtain ⟨hg_1, hg_2⟩ := and_e hg
  obtain ⟨hg_3, hg_4⟩ := and_e hg_2
  obtain ⟨hg_5, hg_6⟩ := and_e hg_4
  obtain ⟨hg_7, hg_8⟩ := and_e hg_6
  obtain ⟨hg_9, hg_10⟩ := and_e hg_8
  obtain ⟨w0, w1, w2, w3, w4, rfl⟩ : ∃ w0 w1 w2 w3 w4 : Value, args = #[w0, w1, w2, w3, w4] := by
    have hs : args.size = 5 := by simpa [Cond.value, given_1] using hg_1
    obtain ⟨L⟩ := args
    match L, hs with
    | [w0, w1, w2, w3, w4], _ => exact ⟨w0, w1, w2, w3, w4, rfl⟩
  have hw := fun d (hd : d ∈ tables_1) => atoms_spec (ws := Jvm.Cond.code x code maxLocals ret :: tables_1) hat d (List.mem_cons_of_mem _ hd)
  have hfit : Fit s := fun {y c} hc i hi => by
    obtain ⟨ha, rfl⟩ := Array.getElem?_eq_some_iff.mp hc
    have q := List.all_eq_true.mp ((Array.all_eq_true_iff_forall_mem.mp hF) _ (Array.getElem_mem ha)) i (List.mem_range.mpr hi)
    simpa [Array.getElem?_eq_getElem hi] using q
  obtain ⟨hsets, hown0⟩ := atoms_of _ (rest_1_c_eq ▸ (show rest_1_c.before _ s = true from hrest))
  have hr0 := Cond.before_iff.mp hown0
  obtain ⟨i0, ei0⟩ := is_v hg_3
  obtain rfl : w0 = (.int i0) := Option.some.inj ei0
  obtain ⟨i1, ei1⟩ := is_v hg_5
  obtain rfl : w1 = (.int i1) := Option.some.inj ei1
  obtain ⟨i2, ei2⟩ := is_v hg_7
  obtain rfl : w2 = (.int i2) := Option.some.inj ei2
  obtain ⟨i3, ei3⟩ := is_v hg_9
  obtain rfl : w3 = (.int i3) := Option.some.inj ei3
  obtain ⟨i4, ei4⟩ := is_v hg_10
  obtain rfl : w4 = (.int i4) := Option.some.inj ei4
  obtain ⟨gz, ez⟩ := is_v (Cond.before_iff.mp (hsets _ (List.mem_of_getElem? (i := 10) rfl)))
  have sz_ := Sta.start ez (Or.inl (hsets _ (List.mem_of_getElem? (i := 9) rfl)))
  have nz_ : ¬ gz = (0 : Int32) := gotF (Cond.eq_ints ez (Term.int_eval _)) (not_v (Cond.before_iff.mp (hsets _ (List.mem_of_getElem? (i := 11) rfl))))
  have hCv : ∀ k, k ∈ jdkStatics_1 → k.value _ s none s [] = some true := fun k hk => Cond.before_iff.mp (hsets k hk)
  have eHi : (Term.static "java/lang/Integer$IntegerCache" "high" "I").eval _ s none [] s = some (.int 127) := eqv_i (Term.int_eval _) (hCv _ (List.mem_of_getElem? (i := 21) rfl))
  have sHi := Sta.start eHi (Or.inl (hsets _ (List.mem_of_getElem? (i := 19) rfl)))
  obtain ⟨gwc, eCa⟩ := exa_v (hCv _ (List.mem_of_getElem? (i := 23) rfl))
  have sCa := Sta.start eCa (Or.inr ⟨(wh hw 216 rfl), (hsets _ (List.mem_of_getElem? (i := 20) rfl))⟩)
  obtain ⟨gcl, aCa⟩ := Arr.start eCa (hCv _ (List.mem_of_getElem? (i := 22) rfl))
  have lCa := eqv_i (Term.int_eval _) (hCv _ (List.mem_of_getElem? (i := 24) rfl))
  have bCa : Bxs s gwc gcl "java/lang/Integer" "I" (256 : Int32) (fun j => .int (j - 128)) := own_bxs eCa aCa lCa (hCv _ (List.mem_of_getElem? (i := 25) rfl))
  obtain ⟨gwD, eD⟩ := exa_v (hCv _ (List.mem_of_getElem? (i := 7) rfl))
  have sD := Sta.start eD (Or.inr ⟨(wh hw 2 rfl), (hsets _ (List.mem_of_getElem? (i := 2) rfl))⟩)
  have xD := Exa.start eD (hCv _ (List.mem_of_getElem? (i := 7) rfl))
  obtain ⟨n, o, h1, h2, h3, _, L, rfl, ⟨N, -, rfl⟩, hq⟩ := rm0 l s _ hw tables_1 i0 i1 i2 i3 i4 s.heap s.heap.size (Old.start s) gwD gz gwc gcl ⟨sD, xD, sz_, nz_, sHi, sCa, bCa⟩ p e ha hc hk s m _ below hf ((Spec.applies_iff_loose hf).mp happ).1 ⟨rfl, State.Warmed39.refl s, rfl⟩ trivial
  refine ⟨n, _, h1, h2, h3, hpost _ _ _ _ _ _ ⟨Cond.after_iff.mpr rfl, Cond.after_iff.mpr (eq_i res_at (Term.int_eval (1)) rfl), trivial⟩ ⟨hq.1, hq.2.1, (hq.2.2.sift fun y hy => Or.inr (N y hy)).mono (by decide) (by decide)⟩⟩
theorem main_1_1 : Claimed_1_1 := comes_1 fun _ _ _ _ _ _ h hF => ⟨h.1, hF⟩
theorem main_1_2 : Claimed_1_2 := comes_1 fun _ _ _ _ _ _ h hF => ⟨h.2.1, hF⟩
end Jvm.Pilot.@@N@@
namespace Jvm.Pilot.@@N@@
open Jvm Jvm.ClassFile Sem Op Lib Jvm.Free Jvm.Stand Jvm.Pilot.@@N@@.Jvm.D
/-! MADE BY PROGRAM (witnessworld.py) out of the Statement's table words and the real class files: 46 classes; the members and pool entries that the words name. The judged class is class 1, her method 1. -/
namespace start1
open Jvm.ClassFile
def u (s : String) : CpInfo := .utf8 (stringToUtf16 s)
/-- a pool by its gaps: so many unusable entries, then the entry; so many at the end -/
def gap : Nat → List CpInfo → List CpInfo
  | 0, r => r
  | n + 1, r => .unusable :: gap n r
def poolList (es : List (Nat × CpInfo)) (last : Nat) : List CpInfo := es.foldr (fun e r => gap e.1 (e.2 :: r)) (gap last [])
def pool (es : List (Nat × CpInfo)) (last : Nat) : Array CpInfo := ⟨poolList es last⟩
def fileOf (pool : Array CpInfo) (this : Nat) (attrs : Array Attribute := #[]) (ms : Array MethodInfo := #[]) (fl : Nat := 33) (sup : Nat := 0) (ifs : Array Nat := #[]) (fds : Array FieldInfo := #[]) : ClassFile where
  minorVersion := 0
  majorVersion := 65
  constantPool := pool
  accessFlags := fl
  thisClass := this
  superClass := sup
  interfaces := ifs
  fields := fds
  methods := ms
  attributes := attrs
def plain (name : String) (sup : Option ClassId) : Class where
  name := name
  kind := .ordinary
  loader := none
  accessFlags := 33
  super := sup
  interfaces := #[]
  cf := none
  fields := #[]
  methods := #[]
  instanceTypes := #[]
  staticTypes := #[]
  resolved := #[]
  callSites := []
  init := .initialized
  statics := none
  mirror := none

def pool0 : Array CpInfo := pool [(5, u "<init>"), (0, u "()V"), (1, .class_ 10), (1, u "java/lang/Object"), (16, u "hashCode"), (0, u "()I"), (67, u "clone"), (0, u "()Ljava/lang/Object;")] 26

def k0c0 : Code := { maxStack := 0, maxLocals := 1, code := object_method_1_code, exceptionTable := #[], attributes := #[] }
def k0m0 : Method := { name := "<init>", desc := "()V", sig := { parameters := [], returnType := none }, accessFlags := 1, code := some k0c0 }
def k0m1 : Method := { name := "hashCode", desc := "()I", sig := { parameters := [], returnType := some .int }, accessFlags := 257, code := none }
def k0m2 : Method := { name := "clone", desc := "()Ljava/lang/Object;", sig := { parameters := [], returnType := some (.object "java/lang/Object") }, accessFlags := 260, code := none }
/-- java/lang/Object -/
def k0 : Class := { plain "java/lang/Object" none with
  accessFlags := 33
  interfaces := #[]
  cf := some (fileOf pool0 8 #[] #[{ accessFlags := 1, nameIndex := 5, descriptorIndex := 6, attributes := #[] }, { accessFlags := 257, nameIndex := 27, descriptorIndex := 28, attributes := #[] }, { accessFlags := 260, nameIndex := 96, descriptorIndex := 97, attributes := #[] }] 33 0 #[] #[])
  fields := #[]
  methods := #[k0m0, k0m1, k0m2]
  instanceTypes := #[]
  staticTypes := #[]
  resolved := Array.replicate 124 none
  statics := none }

def pool1 : Array CpInfo := pool [(2, .class_ 4), (0, .nameAndType 5 6), (0, u "java/lang/Object"), (0, u "<init>"), (0, u "()V"), (0, .class_ 8), (0, u "java/util/ArrayList"), (0, .methodref 7 3), (0, .class_ 11), (0, u "java/util/HashMap"), (0, .methodref 10 3), (0, .methodref 14 15), (0, .class_ 16), (0, .nameAndType 17 18), (0, u "java/lang/String"), (0, u "valueOf"), (0, u "(C)Ljava/lang/String;"), (0, .methodref 20 21), (0, .class_ 22), (0, .nameAndType 17 23), (0, u "java/lang/Integer"), (0, u "(I)Ljava/lang/Integer;"), (0, .interfaceMethodref 25 26), (0, .class_ 27), (0, .nameAndType 28 29), (0, u "java/util/Map"), (0, u "put"), (0, u "(Ljava/lang/Object;Ljava/lang/Object;)Ljava/lang/Object;"), (0, .integer 2147483647), (0, .class_ 32), (0, u "com/example/dolm/dolm/eval/JudgedRanking"), (0, .methodref 31 34), (0, .nameAndType 5 35), (0, u "(Ljava/util/List;Ljava/util/Map;)V"), (0, .methodref 37 38), (0, .class_ 39), (0, .nameAndType 40 41), (0, u "java/lang/Math"), (0, u "max"), (0, u "(II)I"), (0, .methodref 37 43), (0, .nameAndType 44 41), (0, u "min"), (0, .methodref 31 46), (0, .nameAndType 47 48), (0, u "idealGain"), (0, u "(I)I"), (0, .class_ 50), (0, u "com/example/dolm/dolm/eval/JudgedRankingIdealGainPinLaw"), (2, u "law"), (0, u "(IIIII)Z")] 5

def k1m0 : Method := { name := "<init>", desc := "()V", sig := { parameters := [], returnType := none }, accessFlags := 1, code := none }
def k1c1 : Code := { maxStack := 4, maxLocals := 17, code := code, exceptionTable := #[], attributes := #[] }
def k1m1 : Method := { name := "law", desc := "(IIIII)Z", sig := { parameters := [.int, .int, .int, .int, .int], returnType := some .boolean }, accessFlags := 9, code := some k1c1 }
/-- com/example/dolm/dolm/eval/JudgedRankingIdealGainPinLaw -/
def k1 : Class := { plain "com/example/dolm/dolm/eval/JudgedRankingIdealGainPinLaw" (some 0) with
  accessFlags := 49
  interfaces := #[]
  cf := some (fileOf pool1 49 #[] #[{ accessFlags := 1, nameIndex := 5, descriptorIndex := 6, attributes := #[] }, { accessFlags := 9, nameIndex := 53, descriptorIndex := 54, attributes := #[] }] 49 2 #[] #[])
  fields := #[]
  methods := #[k1m0, k1m1]
  instanceTypes := #[]
  staticTypes := #[]
  resolved := Array.replicate 60 none
  statics := none }

def pool2 : Array CpInfo := pool [(8, .class_ 10), (1, u "java/lang/Iterable"), (24, .class_ 36), (0, u "java/lang/Object")] 25

/-- java/lang/Iterable -/
def k2 : Class := { plain "java/lang/Iterable" (some 0) with
  accessFlags := 1537
  interfaces := #[]
  cf := some (fileOf pool2 8 #[] #[] 1537 35 #[] #[])
  fields := #[]
  methods := #[]
  instanceTypes := #[]
  staticTypes := #[]
  resolved := Array.replicate 62 none
  statics := none }

def pool3 : Array CpInfo := pool [(10, .class_ 12), (1, u "java/util/Collection"), (10, u "iterator"), (0, u "()Ljava/util/Iterator;"), (35, .class_ 61), (0, u "java/lang/Object"), (0, .class_ 63), (0, u "java/lang/Iterable")] 51

def k3m0 : Method := { name := "iterator", desc := "()Ljava/util/Iterator;", sig := { parameters := [], returnType := some (.object "java/util/Iterator") }, accessFlags := 1025, code := none }
/-- java/util/Collection -/
def k3 : Class := { plain "java/util/Collection" (some 0) with
  accessFlags := 1537
  interfaces := #[2]
  cf := some (fileOf pool3 10 #[] #[{ accessFlags := 1025, nameIndex := 23, descriptorIndex := 24, attributes := #[] }] 1537 60 #[62] #[])
  fields := #[]
  methods := #[k3m0]
  instanceTypes := #[]
  staticTypes := #[]
  resolved := Array.replicate 115 none
  statics := none }

def pool4 : Array CpInfo := pool [(1, .methodref 2 3), (0, .class_ 4), (0, .nameAndType 5 6), (0, u "java/lang/Object"), (0, u "<init>"), (0, u "()V"), (1, .class_ 10), (1, u "java/util/AbstractCollection"), (66, .class_ 78), (0, u "java/util/Collection")] 81

def k4c0 : Code := { maxStack := 1, maxLocals := 1, code := jdk_22_method_1_code, exceptionTable := #[], attributes := #[] }
def k4m0 : Method := { name := "<init>", desc := "()V", sig := { parameters := [], returnType := none }, accessFlags := 4, code := some k4c0 }
/-- java/util/AbstractCollection -/
def k4 : Class := { plain "java/util/AbstractCollection" (some 0) with
  accessFlags := 1057
  interfaces := #[3]
  cf := some (fileOf pool4 8 #[] #[{ accessFlags := 4, nameIndex := 5, descriptorIndex := 6, attributes := #[] }] 1057 2 #[77] #[])
  fields := #[]
  methods := #[k4m0]
  instanceTypes := #[]
  staticTypes := #[]
  resolved := Array.replicate 160 none
  statics := none }

def pool5 : Array CpInfo := pool [(8, .class_ 10), (1, u "java/util/SequencedCollection"), (15, .class_ 27), (0, u "java/lang/Object"), (0, .class_ 29), (0, u "java/util/Collection")] 27

/-- java/util/SequencedCollection -/
def k5 : Class := { plain "java/util/SequencedCollection" (some 0) with
  accessFlags := 1537
  interfaces := #[3]
  cf := some (fileOf pool5 8 #[] #[] 1537 26 #[28] #[])
  fields := #[]
  methods := #[]
  instanceTypes := #[]
  staticTypes := #[]
  resolved := Array.replicate 57 none
  statics := none }

def pool6 : Array CpInfo := pool [(8, .class_ 10), (1, u "java/util/List"), (68, u "size"), (0, u "()I"), (22, .class_ 104), (0, u "java/lang/Object"), (15, .class_ 121), (0, u "java/util/SequencedCollection")] 129

def k6m0 : Method := { name := "size", desc := "()I", sig := { parameters := [], returnType := some .int }, accessFlags := 1025, code := none }
/-- java/util/List -/
def k6 : Class := { plain "java/util/List" (some 0) with
  accessFlags := 1537
  interfaces := #[5]
  cf := some (fileOf pool6 8 #[] #[{ accessFlags := 1025, nameIndex := 79, descriptorIndex := 80, attributes := #[] }] 1537 103 #[120] #[])
  fields := #[]
  methods := #[k6m0]
  instanceTypes := #[]
  staticTypes := #[]
  resolved := Array.replicate 251 none
  statics := none }

def pool7 : Array CpInfo := pool [(1, .methodref 2 3), (0, .class_ 4), (0, .nameAndType 5 6), (0, u "java/util/AbstractCollection"), (0, u "<init>"), (0, u "()V"), (0, .fieldref 8 9), (0, .class_ 10), (0, .nameAndType 11 12), (0, u "java/util/AbstractList"), (0, u "modCount"), (0, u "I"), (64, .class_ 78), (0, u "java/util/AbstractList$Itr"), (3, .class_ 83), (0, u "java/util/AbstractList$ListItr"), (9, .class_ 94), (0, u "java/util/AbstractList$RandomAccessSubList"), (3, .class_ 99), (0, u "java/util/AbstractList$SubList"), (33, .class_ 134), (0, u "java/util/List"), (73, .class_ 209), (0, u "java/util/AbstractList$SubList$1"), (0, .class_ 211), (0, u "java/util/AbstractList$RandomAccessSpliterator")] 6

def k7c0 : Code := { maxStack := 2, maxLocals := 1, code := jdk_39_method_1_code, exceptionTable := #[], attributes := #[] }
def k7m0 : Method := { name := "<init>", desc := "()V", sig := { parameters := [], returnType := none }, accessFlags := 4, code := some k7c0 }
/-- java/util/AbstractList -/
def k7 : Class := { plain "java/util/AbstractList" (some 4) with
  accessFlags := 1057
  interfaces := #[6]
  cf := some (fileOf pool7 8 #[.nestMembers #[93, 98, 208, 210, 82, 77]] #[{ accessFlags := 4, nameIndex := 5, descriptorIndex := 6, attributes := #[] }] 1057 2 #[133] #[{ accessFlags := 132, nameIndex := 11, descriptorIndex := 12, attributes := #[] }])
  fields := #[{ name := "modCount", type := .int, accessFlags := 132, slot := 0, constantValue := 0 }]
  methods := #[k7m0]
  instanceTypes := #[.int]
  staticTypes := #[]
  resolved := Array.replicate 218 none
  statics := none }

def pool8 : Array CpInfo := pool [(1, .class_ 2), (0, u "java/util/RandomAccess"), (0, .class_ 4), (0, u "java/lang/Object")] 2

/-- java/util/RandomAccess -/
def k8 : Class := { plain "java/util/RandomAccess" (some 0) with
  accessFlags := 1537
  interfaces := #[]
  cf := some (fileOf pool8 1 #[] #[] 1537 3 #[] #[])
  fields := #[]
  methods := #[]
  instanceTypes := #[]
  staticTypes := #[]
  resolved := Array.replicate 7 none
  statics := none }

def pool9 : Array CpInfo := pool [(1, .class_ 2), (0, u "java/lang/Cloneable"), (0, .class_ 4), (0, u "java/lang/Object")] 2

/-- java/lang/Cloneable -/
def k9 : Class := { plain "java/lang/Cloneable" (some 0) with
  accessFlags := 1537
  interfaces := #[]
  cf := some (fileOf pool9 1 #[] #[] 1537 3 #[] #[])
  fields := #[]
  methods := #[]
  instanceTypes := #[]
  staticTypes := #[]
  resolved := Array.replicate 7 none
  statics := none }

def pool10 : Array CpInfo := pool [(1, .class_ 2), (0, u "java/io/Serializable"), (0, .class_ 4), (0, u "java/lang/Object")] 2

/-- java/io/Serializable -/
def k10 : Class := { plain "java/io/Serializable" (some 0) with
  accessFlags := 1537
  interfaces := #[]
  cf := some (fileOf pool10 1 #[] #[] 1537 3 #[] #[])
  fields := #[]
  methods := #[]
  instanceTypes := #[]
  staticTypes := #[]
  resolved := Array.replicate 7 none
  statics := none }

def pool11 : Array CpInfo := pool [(1, .methodref 2 3), (0, .class_ 4), (0, .nameAndType 5 6), (0, u "java/util/AbstractList"), (0, u "<init>"), (0, u "()V"), (2, .fieldref 10 11), (0, .class_ 12), (0, .nameAndType 13 14), (0, u "java/util/ArrayList"), (0, u "elementData"), (0, u "[Ljava/lang/Object;"), (2, u "EMPTY_ELEMENTDATA"), (21, .fieldref 10 40), (0, .nameAndType 41 14), (0, u "DEFAULTCAPACITY_EMPTY_ELEMENTDATA"), (6, .fieldref 10 49), (0, .nameAndType 50 51), (0, u "size"), (0, u "I"), (96, .class_ 149), (0, u "java/util/List"), (36, u "()I"), (75, .class_ 263), (0, u "java/util/ArrayList$ListItr"), (3, .class_ 268), (0, u "java/util/ArrayList$Itr"), (7, .class_ 277), (0, u "java/util/ArrayList$SubList"), (12, .class_ 291), (0, u "java/util/ArrayList$ArrayListSpliterator"), (37, .class_ 330), (0, u "java/util/RandomAccess"), (0, .class_ 332), (0, u "java/lang/Cloneable"), (0, .class_ 334), (0, u "java/io/Serializable"), (0, u "serialVersionUID"), (0, u "J"), (3, u "DEFAULT_CAPACITY"), (159, .class_ 501), (0, u "java/util/ArrayList$SubList$2"), (0, .class_ 503), (0, u "java/util/ArrayList$SubList$1")] 5

def k11c0 : Code := { maxStack := 2, maxLocals := 1, code := jdk_38_method_2_code, exceptionTable := #[], attributes := #[] }
def k11m0 : Method := { name := "<init>", desc := "()V", sig := { parameters := [], returnType := none }, accessFlags := 1, code := some k11c0 }
def k11c1 : Code := { maxStack := 1, maxLocals := 1, code := jdk_38_method_8_code, exceptionTable := #[], attributes := #[] }
def k11m1 : Method := { name := "size", desc := "()I", sig := { parameters := [], returnType := some .int }, accessFlags := 1, code := some k11c1 }
/-- java/util/ArrayList -/
def k11 : Class := { plain "java/util/ArrayList" (some 7) with
  accessFlags := 33
  interfaces := #[6, 8, 9, 10]
  cf := some (fileOf pool11 10 #[.nestMembers #[290, 276, 500, 502, 262, 267]] #[{ accessFlags := 1, nameIndex := 5, descriptorIndex := 6, attributes := #[] }, { accessFlags := 1, nameIndex := 50, descriptorIndex := 186, attributes := #[] }] 33 2 #[148, 329, 331, 333] #[{ accessFlags := 26, nameIndex := 335, descriptorIndex := 336, attributes := #[] }, { accessFlags := 26, nameIndex := 340, descriptorIndex := 51, attributes := #[] }, { accessFlags := 26, nameIndex := 17, descriptorIndex := 14, attributes := #[] }, { accessFlags := 26, nameIndex := 41, descriptorIndex := 14, attributes := #[] }, { accessFlags := 128, nameIndex := 13, descriptorIndex := 14, attributes := #[] }, { accessFlags := 2, nameIndex := 50, descriptorIndex := 51, attributes := #[] }])
  fields := #[{ name := "serialVersionUID", type := .long, accessFlags := 26, slot := 0, constantValue := 0 }, { name := "DEFAULT_CAPACITY", type := .int, accessFlags := 26, slot := 1, constantValue := 0 }, { name := "EMPTY_ELEMENTDATA", type := (.array (.object "java/lang/Object")), accessFlags := 26, slot := 2, constantValue := 0 }, { name := "DEFAULTCAPACITY_EMPTY_ELEMENTDATA", type := (.array (.object "java/lang/Object")), accessFlags := 26, slot := 3, constantValue := 0 }, { name := "elementData", type := (.array (.object "java/lang/Object")), accessFlags := 128, slot := 1, constantValue := 0 }, { name := "size", type := .int, accessFlags := 2, slot := 2, constantValue := 0 }]
  methods := #[k11m0, k11m1]
  instanceTypes := #[.int, (.array (.object "java/lang/Object")), .int]
  staticTypes := #[.long, .int, (.array (.object "java/lang/Object")), (.array (.object "java/lang/Object"))]
  resolved := Array.replicate 509 none
  statics := some 0 }

def pool12 : Array CpInfo := pool [(2, .class_ 4), (1, u "java/util/Map"), (31, .class_ 37), (0, u "java/util/Map$Entry"), (25, u "(Ljava/lang/Object;Ljava/lang/Object;)Ljava/lang/Object;"), (5, u "put"), (23, .class_ 94), (0, u "java/lang/Object"), (25, u "size"), (0, u "()I"), (11, u "values"), (0, u "()Ljava/util/Collection;")] 128

def k12m0 : Method := { name := "size", desc := "()I", sig := { parameters := [], returnType := some .int }, accessFlags := 1025, code := none }
def k12m1 : Method := { name := "put", desc := "(Ljava/lang/Object;Ljava/lang/Object;)Ljava/lang/Object;", sig := { parameters := [(.object "java/lang/Object"), (.object "java/lang/Object")], returnType := some (.object "java/lang/Object") }, accessFlags := 1025, code := none }
def k12m2 : Method := { name := "values", desc := "()Ljava/util/Collection;", sig := { parameters := [], returnType := some (.object "java/util/Collection") }, accessFlags := 1025, code := none }
/-- java/util/Map -/
def k12 : Class := { plain "java/util/Map" (some 0) with
  accessFlags := 1537
  interfaces := #[]
  cf := some (fileOf pool12 2 #[.nestMembers #[36]] #[{ accessFlags := 1025, nameIndex := 120, descriptorIndex := 121, attributes := #[] }, { accessFlags := 1025, nameIndex := 69, descriptorIndex := 63, attributes := #[] }, { accessFlags := 1025, nameIndex := 133, descriptorIndex := 134, attributes := #[] }] 1537 93 #[] #[])
  fields := #[]
  methods := #[k12m0, k12m1, k12m2]
  instanceTypes := #[]
  staticTypes := #[]
  resolved := Array.replicate 263 none
  statics := none }

def pool13 : Array CpInfo := pool [(1, .methodref 2 3), (0, .class_ 4), (0, .nameAndType 5 6), (0, u "java/lang/Object"), (0, u "<init>"), (0, u "()V"), (1, .class_ 10), (1, u "java/util/AbstractMap"), (42, .class_ 54), (0, u "java/util/Map"), (9, u "keySet"), (0, u "Ljava/util/Set;"), (0, .class_ 67), (0, u "java/util/AbstractMap$1"), (5, u "values"), (0, u "Ljava/util/Collection;"), (0, .class_ 76), (0, u "java/util/AbstractMap$2"), (104, .class_ 182), (0, u "java/util/AbstractMap$ViewCollection"), (0, .class_ 184), (0, u "java/util/AbstractMap$SimpleImmutableEntry"), (0, .class_ 186), (0, u "java/util/AbstractMap$SimpleEntry"), (0, .class_ 188), (0, u "java/util/AbstractMap$2$1"), (0, .class_ 190), (0, u "java/util/AbstractMap$1$1")] 5

def k13c0 : Code := { maxStack := 1, maxLocals := 1, code := jdk_71_method_1_code, exceptionTable := #[], attributes := #[] }
def k13m0 : Method := { name := "<init>", desc := "()V", sig := { parameters := [], returnType := none }, accessFlags := 4, code := some k13c0 }
/-- java/util/AbstractMap -/
def k13 : Class := { plain "java/util/AbstractMap" (some 0) with
  accessFlags := 1057
  interfaces := #[12]
  cf := some (fileOf pool13 8 #[.nestMembers #[181, 183, 185, 75, 187, 66, 189]] #[{ accessFlags := 4, nameIndex := 5, descriptorIndex := 6, attributes := #[] }] 1057 2 #[53] #[{ accessFlags := 128, nameIndex := 64, descriptorIndex := 65, attributes := #[] }, { accessFlags := 128, nameIndex := 73, descriptorIndex := 74, attributes := #[] }])
  fields := #[{ name := "keySet", type := (.object "java/util/Set"), accessFlags := 128, slot := 0, constantValue := 0 }, { name := "values", type := (.object "java/util/Collection"), accessFlags := 128, slot := 1, constantValue := 0 }]
  methods := #[k13m0]
  instanceTypes := #[(.object "java/util/Set"), (.object "java/util/Collection")]
  staticTypes := #[]
  resolved := Array.replicate 196 none
  statics := none }

def pool14 : Array CpInfo := pool [(1, .methodref 2 3), (0, .class_ 4), (0, .nameAndType 5 6), (0, u "java/lang/Object"), (0, u "hashCode"), (0, u "()I"), (26, u "(Ljava/lang/Object;)I"), (6, .class_ 41), (0, u "java/util/HashMap"), (1, .methodref 44 45), (0, .class_ 46), (0, .nameAndType 47 48), (0, u "java/util/AbstractMap"), (0, u "<init>"), (0, u "()V"), (32, .fieldref 40 82), (0, .nameAndType 83 84), (0, u "loadFactor"), (0, u "F"), (3, .fieldref 40 89), (0, .nameAndType 90 91), (0, u "threshold"), (0, u "I"), (0, .float 1061158912), (8, .class_ 103), (1, u "java/util/Map"), (0, u "size"), (0, .fieldref 40 106), (0, .nameAndType 107 108), (0, u "table"), (0, u "[Ljava/util/HashMap$Node;"), (8, .methodref 40 118), (0, .nameAndType 119 120), (0, u "resize"), (0, u "()[Ljava/util/HashMap$Node;"), (2, u "entrySet"), (25, .methodref 40 150), (0, .nameAndType 151 33), (0, u "hash"), (0, .methodref 40 153), (0, .nameAndType 154 155), (0, u "putVal"), (0, u "(ILjava/lang/Object;Ljava/lang/Object;ZZ)Ljava/lang/Object;"), (0, .fieldref 40 157), (0, .nameAndType 104 91), (5, .class_ 165), (1, u "java/util/HashMap$Node"), (14, .class_ 181), (0, u "java/util/HashMap$TreeNode"), (4, .methodref 40 187), (0, .nameAndType 188 189), (0, u "newNode"), (0, u "(ILjava/lang/Object;Ljava/lang/Object;Ljava/util/HashMap$Node;)Ljava/util/HashMap$Node;"), (12, .fieldref 40 203), (0, .nameAndType 204 91), (0, u "modCount"), (0, .methodref 40 206), (0, .nameAndType 207 208), (0, u "afterNodeInsertion"), (0, u "(Z)V"), (33, u "Ljava/util/Set;"), (0, .class_ 244), (0, u "java/util/HashMap$KeySet"), (1, .nameAndType 47 247), (0, u "(Ljava/util/HashMap;)V"), (11, .fieldref 40 260), (0, .nameAndType 261 262), (0, u "values"), (0, u "Ljava/util/Collection;"), (0, .class_ 264), (0, u "java/util/HashMap$Values"), (0, .methodref 263 246), (2, .class_ 269), (0, u "java/util/HashMap$EntrySet"), (17, u "(Ljava/lang/Object;Ljava/lang/Object;)Ljava/lang/Object;"), (58, .class_ 348), (1, u "java/util/HashMap$UnsafeHolder"), (26, .methodref 163 376), (0, .nameAndType 47 377), (0, u "(ILjava/lang/Object;Ljava/lang/Object;Ljava/util/HashMap$Node;)V"), (14, .class_ 393), (0, u "java/lang/Cloneable"), (0, .class_ 395), (0, u "java/io/Serializable"), (0, u "serialVersionUID"), (0, u "J"), (3, u "DEFAULT_INITIAL_CAPACITY"), (1, u "MAXIMUM_CAPACITY"), (0, u "DEFAULT_LOAD_FACTOR"), (0, u "TREEIFY_THRESHOLD"), (1, u "UNTREEIFY_THRESHOLD"), (1, u "MIN_TREEIFY_CAPACITY"), (60, u "put"), (45, u "()Ljava/util/Collection;"), (79, .class_ 597), (0, u "java/util/HashMap$EntrySpliterator"), (0, .class_ 599), (0, u "java/util/HashMap$ValueSpliterator"), (0, .class_ 601), (0, u "java/util/HashMap$KeySpliterator"), (0, .class_ 603), (0, u "java/util/HashMap$HashMapSpliterator"), (0, .class_ 605), (0, u "java/util/HashMap$EntryIterator"), (0, .class_ 607), (0, u "java/util/HashMap$ValueIterator"), (0, .class_ 609), (0, u "java/util/HashMap$KeyIterator"), (0, .class_ 611), (0, u "java/util/HashMap$HashIterator")] 17

def k14c0 : Code := { maxStack := 3, maxLocals := 2, code := jdk_69_method_1_code, exceptionTable := #[], attributes := #[] }
def k14m0 : Method := { name := "hash", desc := "(Ljava/lang/Object;)I", sig := { parameters := [(.object "java/lang/Object")], returnType := some .int }, accessFlags := 24, code := some k14c0 }
def k14c1 : Code := { maxStack := 2, maxLocals := 1, code := jdk_69_method_7_code, exceptionTable := #[], attributes := #[] }
def k14m1 : Method := { name := "<init>", desc := "()V", sig := { parameters := [], returnType := none }, accessFlags := 1, code := some k14c1 }
def k14c2 : Code := { maxStack := 1, maxLocals := 1, code := jdk_69_method_10_code, exceptionTable := #[], attributes := #[] }
def k14m2 : Method := { name := "size", desc := "()I", sig := { parameters := [], returnType := some .int }, accessFlags := 1, code := some k14c2 }
def k14c3 : Code := { maxStack := 6, maxLocals := 3, code := jdk_69_method_15_code, exceptionTable := #[], attributes := #[] }
def k14m3 : Method := { name := "put", desc := "(Ljava/lang/Object;Ljava/lang/Object;)Ljava/lang/Object;", sig := { parameters := [(.object "java/lang/Object"), (.object "java/lang/Object")], returnType := some (.object "java/lang/Object") }, accessFlags := 1, code := some k14c3 }
def k14c4 : Code := { maxStack := 7, maxLocals := 13, code := jdk_69_method_16_code, exceptionTable := #[], attributes := #[] }
def k14m4 : Method := { name := "putVal", desc := "(ILjava/lang/Object;Ljava/lang/Object;ZZ)Ljava/lang/Object;", sig := { parameters := [.int, (.object "java/lang/Object"), (.object "java/lang/Object"), .boolean, .boolean], returnType := some (.object "java/lang/Object") }, accessFlags := 16, code := some k14c4 }
def k14c5 : Code := { maxStack := 5, maxLocals := 14, code := jdk_69_method_17_code, exceptionTable := #[], attributes := #[] }
def k14m5 : Method := { name := "resize", desc := "()[Ljava/util/HashMap$Node;", sig := { parameters := [], returnType := some (.array (.object "java/util/HashMap$Node")) }, accessFlags := 16, code := some k14c5 }
def k14c6 : Code := { maxStack := 3, maxLocals := 2, code := jdk_69_method_28_code, exceptionTable := #[], attributes := #[] }
def k14m6 : Method := { name := "values", desc := "()Ljava/util/Collection;", sig := { parameters := [], returnType := some (.object "java/util/Collection") }, accessFlags := 1, code := some k14c6 }
def k14c7 : Code := { maxStack := 6, maxLocals := 5, code := jdk_69_method_46_code, exceptionTable := #[], attributes := #[] }
def k14m7 : Method := { name := "newNode", desc := "(ILjava/lang/Object;Ljava/lang/Object;Ljava/util/HashMap$Node;)Ljava/util/HashMap$Node;", sig := { parameters := [.int, (.object "java/lang/Object"), (.object "java/lang/Object"), (.object "java/util/HashMap$Node")], returnType := some (.object "java/util/HashMap$Node") }, accessFlags := 0, code := some k14c7 }
def k14c8 : Code := { maxStack := 0, maxLocals := 2, code := jdk_69_method_52_code, exceptionTable := #[], attributes := #[] }
def k14m8 : Method := { name := "afterNodeInsertion", desc := "(Z)V", sig := { parameters := [.boolean], returnType := none }, accessFlags := 0, code := some k14c8 }
/-- java/util/HashMap -/
def k14 : Class := { plain "java/util/HashMap" (some 13) with
  accessFlags := 33
  interfaces := #[12, 9, 10]
  cf := some (fileOf pool14 40 #[.nestMembers #[180, 596, 598, 600, 602, 604, 606, 608, 610, 346, 268, 263, 243, 163]] #[{ accessFlags := 24, nameIndex := 151, descriptorIndex := 33, attributes := #[] }, { accessFlags := 1, nameIndex := 47, descriptorIndex := 48, attributes := #[] }, { accessFlags := 1, nameIndex := 104, descriptorIndex := 6, attributes := #[] }, { accessFlags := 1, nameIndex := 470, descriptorIndex := 287, attributes := #[] }, { accessFlags := 16, nameIndex := 154, descriptorIndex := 155, attributes := #[] }, { accessFlags := 16, nameIndex := 119, descriptorIndex := 120, attributes := #[] }, { accessFlags := 1, nameIndex := 261, descriptorIndex := 516, attributes := #[] }, { accessFlags := 0, nameIndex := 188, descriptorIndex := 189, attributes := #[] }, { accessFlags := 0, nameIndex := 207, descriptorIndex := 208, attributes := #[] }] 33 44 #[101, 392, 394] #[{ accessFlags := 26, nameIndex := 396, descriptorIndex := 397, attributes := #[] }, { accessFlags := 24, nameIndex := 401, descriptorIndex := 91, attributes := #[] }, { accessFlags := 24, nameIndex := 403, descriptorIndex := 91, attributes := #[] }, { accessFlags := 24, nameIndex := 404, descriptorIndex := 84, attributes := #[] }, { accessFlags := 24, nameIndex := 405, descriptorIndex := 91, attributes := #[] }, { accessFlags := 24, nameIndex := 407, descriptorIndex := 91, attributes := #[] }, { accessFlags := 24, nameIndex := 409, descriptorIndex := 91, attributes := #[] }, { accessFlags := 128, nameIndex := 107, descriptorIndex := 108, attributes := #[] }, { accessFlags := 128, nameIndex := 123, descriptorIndex := 242, attributes := #[] }, { accessFlags := 128, nameIndex := 104, descriptorIndex := 91, attributes := #[] }, { accessFlags := 128, nameIndex := 204, descriptorIndex := 91, attributes := #[] }, { accessFlags := 0, nameIndex := 90, descriptorIndex := 91, attributes := #[] }, { accessFlags := 16, nameIndex := 83, descriptorIndex := 84, attributes := #[] }])
  fields := #[{ name := "serialVersionUID", type := .long, accessFlags := 26, slot := 0, constantValue := 0 }, { name := "DEFAULT_INITIAL_CAPACITY", type := .int, accessFlags := 24, slot := 1, constantValue := 0 }, { name := "MAXIMUM_CAPACITY", type := .int, accessFlags := 24, slot := 2, constantValue := 0 }, { name := "DEFAULT_LOAD_FACTOR", type := .float, accessFlags := 24, slot := 3, constantValue := 0 }, { name := "TREEIFY_THRESHOLD", type := .int, accessFlags := 24, slot := 4, constantValue := 0 }, { name := "UNTREEIFY_THRESHOLD", type := .int, accessFlags := 24, slot := 5, constantValue := 0 }, { name := "MIN_TREEIFY_CAPACITY", type := .int, accessFlags := 24, slot := 6, constantValue := 0 }, { name := "table", type := (.array (.object "java/util/HashMap$Node")), accessFlags := 128, slot := 2, constantValue := 0 }, { name := "entrySet", type := (.object "java/util/Set"), accessFlags := 128, slot := 3, constantValue := 0 }, { name := "size", type := .int, accessFlags := 128, slot := 4, constantValue := 0 }, { name := "modCount", type := .int, accessFlags := 128, slot := 5, constantValue := 0 }, { name := "threshold", type := .int, accessFlags := 0, slot := 6, constantValue := 0 }, { name := "loadFactor", type := .float, accessFlags := 16, slot := 7, constantValue := 0 }]
  methods := #[k14m0, k14m1, k14m2, k14m3, k14m4, k14m5, k14m6, k14m7, k14m8]
  instanceTypes := #[(.object "java/util/Set"), (.object "java/util/Collection"), (.array (.object "java/util/HashMap$Node")), (.object "java/util/Set"), .int, .int, .int, .float]
  staticTypes := #[.long, .int, .int, .float, .int, .int, .int]
  resolved := Array.replicate 629 none
  statics := none }

def pool15 : Array CpInfo := pool [(1, .methodref 2 3), (0, .class_ 4), (0, .nameAndType 5 6), (0, u "java/lang/Object"), (0, u "<init>"), (0, u "()V"), (0, .interfaceMethodref 8 9), (0, .class_ 10), (0, .nameAndType 11 12), (0, u "java/util/List"), (0, u "size"), (0, u "()I"), (0, .fieldref 14 15), (0, .class_ 16), (0, .nameAndType 17 18), (0, u "com/example/dolm/dolm/eval/JudgedRanking"), (0, u "relevant"), (0, u "[Z"), (0, .fieldref 14 20), (0, .nameAndType 21 22), (0, u "gains"), (0, u "[I"), (10, .methodref 34 35), (0, .class_ 36), (0, .nameAndType 37 38), (0, u "java/lang/Integer"), (0, u "valueOf"), (0, u "(I)Ljava/lang/Integer;"), (1, .class_ 42), (1, u "java/util/Map"), (2, .methodref 34 46), (0, .nameAndType 47 12), (0, u "intValue"), (2, .methodref 51 52), (0, .class_ 53), (0, .nameAndType 54 55), (0, u "java/lang/Math"), (0, u "max"), (0, u "(II)I"), (0, .interfaceMethodref 40 9), (0, .interfaceMethodref 40 58), (0, .nameAndType 59 60), (0, u "values"), (0, u "()Ljava/util/Collection;"), (0, .interfaceMethodref 62 63), (0, .class_ 64), (0, .nameAndType 65 66), (0, u "java/util/Collection"), (0, u "iterator"), (0, u "()Ljava/util/Iterator;"), (0, .interfaceMethodref 68 69), (0, .class_ 70), (0, .nameAndType 71 72), (0, u "java/util/Iterator"), (0, u "hasNext"), (0, u "()Z"), (0, .interfaceMethodref 68 74), (0, .nameAndType 75 76), (0, u "next"), (0, u "()Ljava/lang/Object;"), (0, .fieldref 14 78), (0, .nameAndType 79 80), (0, u "relevantCount"), (0, u "I"), (0, .methodref 82 83), (0, .class_ 84), (0, .nameAndType 85 86), (0, u "java/util/Arrays"), (0, u "copyOf"), (0, u "([II)[I"), (0, .fieldref 14 88), (0, .nameAndType 89 22), (0, u "judgedGains"), (0, .methodref 82 91), (0, .nameAndType 92 93), (0, u "sort"), (0, u "([I)V"), (3, u "(Ljava/util/List;Ljava/util/Map;)V"), (10, u "(I)I"), (0, u "idealGain")] 5

def k15c0 : Code := { maxStack := 4, maxLocals := 8, code := prog_9_method_1_code, exceptionTable := #[], attributes := #[] }
def k15m0 : Method := { name := "<init>", desc := "(Ljava/util/List;Ljava/util/Map;)V", sig := { parameters := [(.object "java/util/List"), (.object "java/util/Map")], returnType := none }, accessFlags := 0, code := some k15c0 }
def k15c1 : Code := { maxStack := 3, maxLocals := 2, code := prog_9_method_5_code, exceptionTable := #[], attributes := #[] }
def k15m1 : Method := { name := "idealGain", desc := "(I)I", sig := { parameters := [.int], returnType := some .int }, accessFlags := 0, code := some k15c1 }
/-- com/example/dolm/dolm/eval/JudgedRanking -/
def k15 : Class := { plain "com/example/dolm/dolm/eval/JudgedRanking" (some 0) with
  accessFlags := 48
  interfaces := #[]
  cf := some (fileOf pool15 14 #[] #[{ accessFlags := 0, nameIndex := 5, descriptorIndex := 97, attributes := #[] }, { accessFlags := 0, nameIndex := 109, descriptorIndex := 108, attributes := #[] }] 48 2 #[] #[{ accessFlags := 18, nameIndex := 17, descriptorIndex := 18, attributes := #[] }, { accessFlags := 18, nameIndex := 21, descriptorIndex := 22, attributes := #[] }, { accessFlags := 18, nameIndex := 79, descriptorIndex := 80, attributes := #[] }, { accessFlags := 18, nameIndex := 89, descriptorIndex := 22, attributes := #[] }])
  fields := #[{ name := "relevant", type := (.array .boolean), accessFlags := 18, slot := 0, constantValue := 0 }, { name := "gains", type := (.array .int), accessFlags := 18, slot := 1, constantValue := 0 }, { name := "relevantCount", type := .int, accessFlags := 18, slot := 2, constantValue := 0 }, { name := "judgedGains", type := (.array .int), accessFlags := 18, slot := 3, constantValue := 0 }]
  methods := #[k15m0, k15m1]
  instanceTypes := #[(.array .boolean), (.array .int), .int, (.array .int)]
  staticTypes := #[]
  resolved := Array.replicate 115 none
  statics := none }

def pool16 : Array CpInfo := pool [(1, .fieldref 2 3), (0, .class_ 4), (0, .nameAndType 5 6), (0, u "java/util/HashMap$Values"), (0, u "this$0"), (0, u "Ljava/util/HashMap;"), (0, .methodref 8 9), (0, .class_ 10), (0, .nameAndType 11 12), (0, u "java/util/AbstractCollection"), (0, u "<init>"), (0, u "()V"), (1, .class_ 16), (1, u "java/util/HashMap"), (5, .class_ 23), (0, u "java/util/HashMap$ValueIterator"), (0, .methodref 22 25), (0, .nameAndType 11 26), (0, u "(Ljava/util/HashMap;)V"), (56, u "iterator"), (0, u "()Ljava/util/Iterator;")] 35

def k16c0 : Code := { maxStack := 2, maxLocals := 2, code := jdk_2571_method_1_code, exceptionTable := #[], attributes := #[] }
def k16m0 : Method := { name := "<init>", desc := "(Ljava/util/HashMap;)V", sig := { parameters := [(.object "java/util/HashMap")], returnType := none }, accessFlags := 0, code := some k16c0 }
def k16c1 : Code := { maxStack := 3, maxLocals := 1, code := jdk_2571_method_4_code, exceptionTable := #[], attributes := #[] }
def k16m1 : Method := { name := "iterator", desc := "()Ljava/util/Iterator;", sig := { parameters := [], returnType := some (.object "java/util/Iterator") }, accessFlags := 17, code := some k16c1 }
/-- java/util/HashMap$Values -/
def k16 : Class := { plain "java/util/HashMap$Values" (some 4) with
  accessFlags := 48
  interfaces := #[]
  cf := some (fileOf pool16 2 #[.nestHost 14] #[{ accessFlags := 0, nameIndex := 11, descriptorIndex := 26, attributes := #[] }, { accessFlags := 17, nameIndex := 83, descriptorIndex := 84, attributes := #[] }] 48 8 #[] #[{ accessFlags := 4112, nameIndex := 5, descriptorIndex := 6, attributes := #[] }])
  fields := #[{ name := "this$0", type := (.object "java/util/HashMap"), accessFlags := 4112, slot := 0, constantValue := 0 }]
  methods := #[k16m0, k16m1]
  instanceTypes := #[(.object "java/util/HashMap")]
  staticTypes := #[]
  resolved := Array.replicate 120 none
  statics := none }

def pool17 : Array CpInfo := pool [(1, .fieldref 2 3), (0, .class_ 4), (0, .nameAndType 5 6), (0, u "java/util/HashMap$HashIterator"), (0, u "this$0"), (0, u "Ljava/util/HashMap;"), (0, .methodref 8 9), (0, .class_ 10), (0, .nameAndType 11 12), (0, u "java/lang/Object"), (0, u "<init>"), (0, u "()V"), (0, .fieldref 14 15), (0, .class_ 16), (0, .nameAndType 17 18), (0, u "java/util/HashMap"), (0, u "modCount"), (0, u "I"), (0, .fieldref 2 20), (0, .nameAndType 21 18), (0, u "expectedModCount"), (0, .fieldref 14 23), (0, .nameAndType 24 25), (0, u "table"), (0, u "[Ljava/util/HashMap$Node;"), (0, .fieldref 2 27), (0, .nameAndType 28 29), (0, u "next"), (0, u "Ljava/util/HashMap$Node;"), (0, .fieldref 2 31), (0, .nameAndType 32 29), (0, u "current"), (0, .fieldref 2 34), (0, .nameAndType 35 18), (0, u "index"), (0, .fieldref 14 37), (0, .nameAndType 38 18), (0, u "size"), (6, .fieldref 46 27), (0, .class_ 47), (0, u "java/util/HashMap$Node"), (16, u "(Ljava/util/HashMap;)V"), (12, u "hasNext"), (0, u "()Z"), (0, u "nextNode"), (0, u "()Ljava/util/HashMap$Node;")] 10

def k17c0 : Code := { maxStack := 6, maxLocals := 3, code := jdk_99_method_1_code, exceptionTable := #[], attributes := #[] }
def k17m0 : Method := { name := "<init>", desc := "(Ljava/util/HashMap;)V", sig := { parameters := [(.object "java/util/HashMap")], returnType := none }, accessFlags := 0, code := some k17c0 }
def k17c1 : Code := { maxStack := 1, maxLocals := 1, code := jdk_99_method_2_code, exceptionTable := #[], attributes := #[] }
def k17m1 : Method := { name := "hasNext", desc := "()Z", sig := { parameters := [], returnType := some .boolean }, accessFlags := 17, code := some k17c1 }
def k17c2 : Code := { maxStack := 6, maxLocals := 3, code := jdk_99_method_3_code, exceptionTable := #[], attributes := #[] }
def k17m2 : Method := { name := "nextNode", desc := "()Ljava/util/HashMap$Node;", sig := { parameters := [], returnType := some (.object "java/util/HashMap$Node") }, accessFlags := 16, code := some k17c2 }
/-- java/util/HashMap$HashIterator -/
def k17 : Class := { plain "java/util/HashMap$HashIterator" (some 0) with
  accessFlags := 1056
  interfaces := #[]
  cf := some (fileOf pool17 2 #[.nestHost 14] #[{ accessFlags := 0, nameIndex := 11, descriptorIndex := 64, attributes := #[] }, { accessFlags := 17, nameIndex := 77, descriptorIndex := 78, attributes := #[] }, { accessFlags := 16, nameIndex := 79, descriptorIndex := 80, attributes := #[] }] 1056 8 #[] #[{ accessFlags := 0, nameIndex := 28, descriptorIndex := 29, attributes := #[] }, { accessFlags := 0, nameIndex := 32, descriptorIndex := 29, attributes := #[] }, { accessFlags := 0, nameIndex := 21, descriptorIndex := 18, attributes := #[] }, { accessFlags := 0, nameIndex := 35, descriptorIndex := 18, attributes := #[] }, { accessFlags := 4112, nameIndex := 5, descriptorIndex := 6, attributes := #[] }])
  fields := #[{ name := "next", type := (.object "java/util/HashMap$Node"), accessFlags := 0, slot := 0, constantValue := 0 }, { name := "current", type := (.object "java/util/HashMap$Node"), accessFlags := 0, slot := 1, constantValue := 0 }, { name := "expectedModCount", type := .int, accessFlags := 0, slot := 2, constantValue := 0 }, { name := "index", type := .int, accessFlags := 0, slot := 3, constantValue := 0 }, { name := "this$0", type := (.object "java/util/HashMap"), accessFlags := 4112, slot := 4, constantValue := 0 }]
  methods := #[k17m0, k17m1, k17m2]
  instanceTypes := #[(.object "java/util/HashMap$Node"), (.object "java/util/HashMap$Node"), .int, .int, (.object "java/util/HashMap")]
  staticTypes := #[]
  resolved := Array.replicate 91 none
  statics := none }

def pool18 : Array CpInfo := pool [(16, .class_ 18), (1, u "java/util/Iterator"), (0, u "hasNext"), (0, u "()Z"), (2, u "next"), (0, u "()Ljava/lang/Object;"), (6, .class_ 32), (0, u "java/lang/Object")] 20

def k18m0 : Method := { name := "hasNext", desc := "()Z", sig := { parameters := [], returnType := some .boolean }, accessFlags := 1025, code := none }
def k18m1 : Method := { name := "next", desc := "()Ljava/lang/Object;", sig := { parameters := [], returnType := some (.object "java/lang/Object") }, accessFlags := 1025, code := none }
/-- java/util/Iterator -/
def k18 : Class := { plain "java/util/Iterator" (some 0) with
  accessFlags := 1537
  interfaces := #[]
  cf := some (fileOf pool18 16 #[] #[{ accessFlags := 1025, nameIndex := 19, descriptorIndex := 20, attributes := #[] }, { accessFlags := 1025, nameIndex := 23, descriptorIndex := 24, attributes := #[] }] 1537 31 #[] #[])
  fields := #[]
  methods := #[k18m0, k18m1]
  instanceTypes := #[]
  staticTypes := #[]
  resolved := Array.replicate 53 none
  statics := none }

def pool19 : Array CpInfo := pool [(1, .methodref 2 3), (0, .class_ 4), (0, .nameAndType 5 6), (0, u "java/util/HashMap$HashIterator"), (0, u "<init>"), (0, u "(Ljava/util/HashMap;)V"), (0, .methodref 8 9), (0, .class_ 10), (0, .nameAndType 11 12), (0, u "java/util/HashMap$ValueIterator"), (0, u "nextNode"), (0, u "()Ljava/util/HashMap$Node;"), (0, .fieldref 14 15), (0, .class_ 16), (0, .nameAndType 17 18), (0, u "java/util/HashMap$Node"), (0, u "value"), (0, u "Ljava/lang/Object;"), (0, .class_ 20), (0, u "java/util/Iterator"), (10, u "next"), (0, u "()Ljava/lang/Object;"), (6, .class_ 40), (0, u "java/util/HashMap")] 4

def k19c0 : Code := { maxStack := 2, maxLocals := 2, code := jdk_2569_method_1_code, exceptionTable := #[], attributes := #[] }
def k19m0 : Method := { name := "<init>", desc := "(Ljava/util/HashMap;)V", sig := { parameters := [(.object "java/util/HashMap")], returnType := none }, accessFlags := 0, code := some k19c0 }
def k19c1 : Code := { maxStack := 1, maxLocals := 1, code := jdk_2569_method_2_code, exceptionTable := #[], attributes := #[] }
def k19m1 : Method := { name := "next", desc := "()Ljava/lang/Object;", sig := { parameters := [], returnType := some (.object "java/lang/Object") }, accessFlags := 17, code := some k19c1 }
/-- java/util/HashMap$ValueIterator -/
def k19 : Class := { plain "java/util/HashMap$ValueIterator" (some 17) with
  accessFlags := 48
  interfaces := #[18]
  cf := some (fileOf pool19 8 #[.nestHost 39] #[{ accessFlags := 0, nameIndex := 5, descriptorIndex := 6, attributes := #[] }, { accessFlags := 17, nameIndex := 31, descriptorIndex := 32, attributes := #[] }] 48 2 #[19] #[])
  fields := #[]
  methods := #[k19m0, k19m1]
  instanceTypes := #[(.object "java/util/HashMap$Node"), (.object "java/util/HashMap$Node"), .int, .int, (.object "java/util/HashMap")]
  staticTypes := #[]
  resolved := Array.replicate 45 none
  statics := none }

def pool20 : Array CpInfo := pool [(2, .class_ 4), (1, u "java/lang/Object"), (0, u "<init>"), (0, u "()V"), (0, .methodref 8 9), (0, .class_ 10), (0, .nameAndType 11 12), (0, u "java/util/DualPivotQuicksort"), (0, u "sort"), (0, u "([IIII)V"), (1, .class_ 16), (1, u "java/util/Arrays"), (57, .class_ 76), (1, u "java/util/Arrays$NaturalOrder"), (32, u "()Ljava/lang/Object;"), (3, .class_ 115), (1, u "java/util/Arrays$LegacyMergeSort"), (1, u "Z"), (10, .nameAndType 129 109), (0, u "clone"), (20, .methodref 151 152), (0, .class_ 153), (0, .nameAndType 154 155), (0, u "java/lang/System"), (0, u "arraycopy"), (0, u "(Ljava/lang/Object;ILjava/lang/Object;II)V"), (146, u "copyOf"), (1, .methodref 305 306), (0, .class_ 307), (0, .nameAndType 308 309), (0, u "java/lang/Math"), (0, u "min"), (0, u "(II)I"), (6, .methodref 317 128), (0, .class_ 318), (0, u "[I"), (56, .class_ 376), (0, u "java/util/Arrays$ArrayList"), (68, u "$assertionsDisabled"), (269, u "MIN_ARRAY_SORT_GRAN"), (0, u "I"), (2, u "INSERTIONSORT_THRESHOLD"), (6, u "([I)V"), (144, u "([II)[I"), (103, .class_ 976), (0, u "java/util/Arrays$ArrayItr")] 52

def k20m0 : Method := { name := "<init>", desc := "()V", sig := { parameters := [], returnType := none }, accessFlags := 2, code := none }
def k20c1 : Code := { maxStack := 4, maxLocals := 1, code := jdk_65_method_2_code, exceptionTable := #[], attributes := #[] }
def k20m1 : Method := { name := "sort", desc := "([I)V", sig := { parameters := [(.array .int)], returnType := none }, accessFlags := 9, code := some k20c1 }
def k20c2 : Code := { maxStack := 6, maxLocals := 3, code := jdk_65_method_123_code, exceptionTable := #[], attributes := #[] }
def k20m2 : Method := { name := "copyOf", desc := "([II)[I", sig := { parameters := [(.array .int), .int], returnType := some (.array .int) }, accessFlags := 9, code := some k20c2 }
/-- java/util/Arrays -/
def k20 : Class := { plain "java/util/Arrays" (some 0) with
  accessFlags := 49
  interfaces := #[]
  cf := some (fileOf pool20 14 #[.nestMembers #[975, 375, 113, 74]] #[{ accessFlags := 2, nameIndex := 5, descriptorIndex := 6, attributes := #[] }, { accessFlags := 9, nameIndex := 11, descriptorIndex := 726, attributes := #[] }, { accessFlags := 9, nameIndex := 302, descriptorIndex := 871, attributes := #[] }] 49 2 #[] #[{ accessFlags := 26, nameIndex := 715, descriptorIndex := 716, attributes := #[] }, { accessFlags := 26, nameIndex := 719, descriptorIndex := 716, attributes := #[] }, { accessFlags := 4120, nameIndex := 445, descriptorIndex := 117, attributes := #[] }])
  fields := #[{ name := "MIN_ARRAY_SORT_GRAN", type := .int, accessFlags := 26, slot := 0, constantValue := 0 }, { name := "INSERTIONSORT_THRESHOLD", type := .int, accessFlags := 26, slot := 1, constantValue := 0 }, { name := "$assertionsDisabled", type := .boolean, accessFlags := 4120, slot := 2, constantValue := 0 }]
  methods := #[k20m0, k20m1, k20m2]
  instanceTypes := #[]
  staticTypes := #[.int, .int, .boolean]
  resolved := Array.replicate 1029 none
  statics := none }

def pool21 : Array CpInfo := pool [(1, .class_ 2), (0, u "java/util/DualPivotQuicksort"), (5, .class_ 10), (1, u "java/lang/Object"), (0, u "<init>"), (0, u "()V"), (4, .class_ 18), (0, u "java/util/DualPivotQuicksort$Sorter"), (7, .methodref 1 27), (0, .nameAndType 28 29), (0, u "sort"), (0, u "(Ljava/util/DualPivotQuicksort$Sorter;[IIII)V"), (3, u "([IIII)V"), (0, .methodref 1 35), (0, .nameAndType 36 37), (0, u "insertionSort"), (0, u "([III)V"), (30, u "I"), (4, .class_ 74), (0, u "java/util/DualPivotQuicksort$RunMerger"), (10, .class_ 86), (0, u "java/util/DualPivotQuicksort$Merger"), (127, u "MAX_MIXED_INSERTION_SORT_SIZE"), (2, u "MAX_INSERTION_SORT_SIZE"), (1, u "MIN_PARALLEL_SORT_SIZE"), (1, u "MIN_TRY_MERGE_SIZE"), (0, u "MIN_FIRST_RUN_SIZE"), (1, u "MIN_FIRST_RUNS_FACTOR"), (1, u "MAX_RUN_CAPACITY"), (1, u "MIN_RUN_COUNT"), (1, u "MIN_PARALLEL_MERGE_PARTS_SIZE"), (0, u "MIN_BYTE_COUNTING_SORT_SIZE"), (1, u "MIN_SHORT_OR_CHAR_COUNTING_SORT_SIZE"), (1, u "DELTA"), (1, u "MAX_RECURSION_DEPTH"), (1, u "NUM_BYTE_VALUES"), (1, u "MAX_BYTE_INDEX"), (0, u "NUM_CHAR_VALUES"), (0, u "NUM_SHORT_VALUES"), (0, u "MAX_SHORT_INDEX")] 86

def k21m0 : Method := { name := "<init>", desc := "()V", sig := { parameters := [], returnType := none }, accessFlags := 2, code := none }
def k21c1 : Code := { maxStack := 9, maxLocals := 7, code := jdk_2529_method_3_code, exceptionTable := #[], attributes := #[] }
def k21m1 : Method := { name := "sort", desc := "([IIII)V", sig := { parameters := [(.array .int), .int, .int, .int], returnType := none }, accessFlags := 8, code := some k21c1 }
def k21c2 : Code := { maxStack := 6, maxLocals := 21, code := jdk_2529_method_4_code, exceptionTable := #[], attributes := #[] }
def k21m2 : Method := { name := "sort", desc := "(Ljava/util/DualPivotQuicksort$Sorter;[IIII)V", sig := { parameters := [(.object "java/util/DualPivotQuicksort$Sorter"), (.array .int), .int, .int, .int], returnType := none }, accessFlags := 8, code := some k21c2 }
def k21c3 : Code := { maxStack := 4, maxLocals := 6, code := jdk_2529_method_6_code, exceptionTable := #[], attributes := #[] }
def k21m3 : Method := { name := "insertionSort", desc := "([III)V", sig := { parameters := [(.array .int), .int, .int], returnType := none }, accessFlags := 10, code := some k21c3 }
/-- java/util/DualPivotQuicksort -/
def k21 : Class := { plain "java/util/DualPivotQuicksort" (some 0) with
  accessFlags := 48
  interfaces := #[]
  cf := some (fileOf pool21 1 #[.nestMembers #[73, 85, 17]] #[{ accessFlags := 2, nameIndex := 11, descriptorIndex := 12, attributes := #[] }, { accessFlags := 8, nameIndex := 28, descriptorIndex := 33, attributes := #[] }, { accessFlags := 8, nameIndex := 28, descriptorIndex := 29, attributes := #[] }, { accessFlags := 10, nameIndex := 36, descriptorIndex := 37, attributes := #[] }] 48 8 #[] #[{ accessFlags := 26, nameIndex := 214, descriptorIndex := 68, attributes := #[] }, { accessFlags := 26, nameIndex := 217, descriptorIndex := 68, attributes := #[] }, { accessFlags := 26, nameIndex := 219, descriptorIndex := 68, attributes := #[] }, { accessFlags := 26, nameIndex := 221, descriptorIndex := 68, attributes := #[] }, { accessFlags := 26, nameIndex := 222, descriptorIndex := 68, attributes := #[] }, { accessFlags := 26, nameIndex := 224, descriptorIndex := 68, attributes := #[] }, { accessFlags := 26, nameIndex := 226, descriptorIndex := 68, attributes := #[] }, { accessFlags := 26, nameIndex := 228, descriptorIndex := 68, attributes := #[] }, { accessFlags := 26, nameIndex := 230, descriptorIndex := 68, attributes := #[] }, { accessFlags := 26, nameIndex := 231, descriptorIndex := 68, attributes := #[] }, { accessFlags := 26, nameIndex := 233, descriptorIndex := 68, attributes := #[] }, { accessFlags := 26, nameIndex := 235, descriptorIndex := 68, attributes := #[] }, { accessFlags := 26, nameIndex := 237, descriptorIndex := 68, attributes := #[] }, { accessFlags := 26, nameIndex := 239, descriptorIndex := 68, attributes := #[] }, { accessFlags := 26, nameIndex := 241, descriptorIndex := 68, attributes := #[] }, { accessFlags := 26, nameIndex := 242, descriptorIndex := 68, attributes := #[] }, { accessFlags := 26, nameIndex := 243, descriptorIndex := 68, attributes := #[] }, { accessFlags := 26, nameIndex := 244, descriptorIndex := 68, attributes := #[] }])
  fields := #[{ name := "MAX_MIXED_INSERTION_SORT_SIZE", type := .int, accessFlags := 26, slot := 0, constantValue := 0 }, { name := "MAX_INSERTION_SORT_SIZE", type := .int, accessFlags := 26, slot := 1, constantValue := 0 }, { name := "MIN_PARALLEL_SORT_SIZE", type := .int, accessFlags := 26, slot := 2, constantValue := 0 }, { name := "MIN_TRY_MERGE_SIZE", type := .int, accessFlags := 26, slot := 3, constantValue := 0 }, { name := "MIN_FIRST_RUN_SIZE", type := .int, accessFlags := 26, slot := 4, constantValue := 0 }, { name := "MIN_FIRST_RUNS_FACTOR", type := .int, accessFlags := 26, slot := 5, constantValue := 0 }, { name := "MAX_RUN_CAPACITY", type := .int, accessFlags := 26, slot := 6, constantValue := 0 }, { name := "MIN_RUN_COUNT", type := .int, accessFlags := 26, slot := 7, constantValue := 0 }, { name := "MIN_PARALLEL_MERGE_PARTS_SIZE", type := .int, accessFlags := 26, slot := 8, constantValue := 0 }, { name := "MIN_BYTE_COUNTING_SORT_SIZE", type := .int, accessFlags := 26, slot := 9, constantValue := 0 }, { name := "MIN_SHORT_OR_CHAR_COUNTING_SORT_SIZE", type := .int, accessFlags := 26, slot := 10, constantValue := 0 }, { name := "DELTA", type := .int, accessFlags := 26, slot := 11, constantValue := 0 }, { name := "MAX_RECURSION_DEPTH", type := .int, accessFlags := 26, slot := 12, constantValue := 0 }, { name := "NUM_BYTE_VALUES", type := .int, accessFlags := 26, slot := 13, constantValue := 0 }, { name := "MAX_BYTE_INDEX", type := .int, accessFlags := 26, slot := 14, constantValue := 0 }, { name := "NUM_CHAR_VALUES", type := .int, accessFlags := 26, slot := 15, constantValue := 0 }, { name := "NUM_SHORT_VALUES", type := .int, accessFlags := 26, slot := 16, constantValue := 0 }, { name := "MAX_SHORT_INDEX", type := .int, accessFlags := 26, slot := 17, constantValue := 0 }]
  methods := #[k21m0, k21m1, k21m2, k21m3]
  instanceTypes := #[]
  staticTypes := #[.int, .int, .int, .int, .int, .int, .int, .int, .int, .int, .int, .int, .int, .int, .int, .int, .int, .int]
  resolved := Array.replicate 331 none
  statics := none }

def pool22 : Array CpInfo := pool [(1, .class_ 2), (0, u "java/lang/Math"), (1, .class_ 6), (1, u "java/lang/Object"), (0, u "<init>"), (0, u "()V"), (89, .class_ 100), (1, u "java/lang/Math$RandomNumberGeneratorHolder"), (71, u "negativeZeroFloatBits"), (0, u "J"), (2, u "negativeZeroDoubleBits"), (21, u "max"), (2, u "min"), (43, u "$assertionsDisabled"), (0, u "Z"), (88, u "(II)I"), (2, u "twoToTheDoubleScaleDown"), (0, u "D"), (4, u "twoToTheDoubleScaleUp"), (9, u "E"), (3, u "PI"), (2, u "TAU"), (2, u "DEGREES_TO_RADIANS"), (0, u "RADIANS_TO_DEGREES")] 94

def k22m0 : Method := { name := "<init>", desc := "()V", sig := { parameters := [], returnType := none }, accessFlags := 2, code := none }
def k22c1 : Code := { maxStack := 2, maxLocals := 2, code := jdk_29_method_65_code, exceptionTable := #[], attributes := #[] }
def k22m1 : Method := { name := "max", desc := "(II)I", sig := { parameters := [.int, .int], returnType := some .int }, accessFlags := 9, code := some k22c1 }
def k22c2 : Code := { maxStack := 2, maxLocals := 2, code := jdk_29_method_69_code, exceptionTable := #[], attributes := #[] }
def k22m2 : Method := { name := "min", desc := "(II)I", sig := { parameters := [.int, .int], returnType := some .int }, accessFlags := 9, code := some k22c2 }
/-- java/lang/Math -/
def k22 : Class := { plain "java/lang/Math" (some 0) with
  accessFlags := 49
  interfaces := #[]
  cf := some (fileOf pool22 1 #[.nestMembers #[98]] #[{ accessFlags := 2, nameIndex := 7, descriptorIndex := 8, attributes := #[] }, { accessFlags := 9, nameIndex := 198, descriptorIndex := 335, attributes := #[] }, { accessFlags := 9, nameIndex := 201, descriptorIndex := 335, attributes := #[] }] 49 4 #[] #[{ accessFlags := 25, nameIndex := 354, descriptorIndex := 339, attributes := #[] }, { accessFlags := 25, nameIndex := 358, descriptorIndex := 339, attributes := #[] }, { accessFlags := 25, nameIndex := 361, descriptorIndex := 339, attributes := #[] }, { accessFlags := 26, nameIndex := 364, descriptorIndex := 339, attributes := #[] }, { accessFlags := 26, nameIndex := 365, descriptorIndex := 339, attributes := #[] }, { accessFlags := 26, nameIndex := 172, descriptorIndex := 173, attributes := #[] }, { accessFlags := 26, nameIndex := 176, descriptorIndex := 173, attributes := #[] }, { accessFlags := 8, nameIndex := 344, descriptorIndex := 339, attributes := #[] }, { accessFlags := 8, nameIndex := 338, descriptorIndex := 339, attributes := #[] }, { accessFlags := 4120, nameIndex := 245, descriptorIndex := 246, attributes := #[] }])
  fields := #[{ name := "E", type := .double, accessFlags := 25, slot := 0, constantValue := 0 }, { name := "PI", type := .double, accessFlags := 25, slot := 1, constantValue := 0 }, { name := "TAU", type := .double, accessFlags := 25, slot := 2, constantValue := 0 }, { name := "DEGREES_TO_RADIANS", type := .double, accessFlags := 26, slot := 3, constantValue := 0 }, { name := "RADIANS_TO_DEGREES", type := .double, accessFlags := 26, slot := 4, constantValue := 0 }, { name := "negativeZeroFloatBits", type := .long, accessFlags := 26, slot := 5, constantValue := 0 }, { name := "negativeZeroDoubleBits", type := .long, accessFlags := 26, slot := 6, constantValue := 0 }, { name := "twoToTheDoubleScaleUp", type := .double, accessFlags := 8, slot := 7, constantValue := 0 }, { name := "twoToTheDoubleScaleDown", type := .double, accessFlags := 8, slot := 8, constantValue := 0 }, { name := "$assertionsDisabled", type := .boolean, accessFlags := 4120, slot := 9, constantValue := 0 }]
  methods := #[k22m0, k22m1, k22m2]
  instanceTypes := #[]
  staticTypes := #[.double, .double, .double, .double, .double, .long, .long, .double, .double, .boolean]
  resolved := Array.replicate 460 none
  statics := none }

def pool23 : Array CpInfo := pool [(1, .class_ 2), (0, u "java/lang/Comparable"), (0, .class_ 4), (0, u "java/lang/Object")] 7

/-- java/lang/Comparable -/
def k23 : Class := { plain "java/lang/Comparable" (some 0) with
  accessFlags := 1537
  interfaces := #[]
  cf := some (fileOf pool23 1 #[] #[] 1537 3 #[] #[])
  fields := #[]
  methods := #[]
  instanceTypes := #[]
  staticTypes := #[]
  resolved := Array.replicate 12 none
  statics := none }

def pool24 : Array CpInfo := pool [(2, .class_ 4), (1, u "java/lang/CharSequence"), (42, .class_ 48), (0, u "java/lang/CharSequence$1CodePointIterator"), (10, .class_ 60), (0, u "java/lang/CharSequence$1CharIterator"), (5, .class_ 67), (0, u "java/lang/Object")] 63

/-- java/lang/CharSequence -/
def k24 : Class := { plain "java/lang/CharSequence" (some 0) with
  accessFlags := 1537
  interfaces := #[]
  cf := some (fileOf pool24 2 #[.nestMembers #[47, 59]] #[] 1537 66 #[] #[])
  fields := #[]
  methods := #[]
  instanceTypes := #[]
  staticTypes := #[]
  resolved := Array.replicate 131 none
  statics := none }

def pool25 : Array CpInfo := pool [(1, .class_ 2), (0, u "java/lang/constant/Constable"), (0, .class_ 4), (0, u "java/lang/Object")] 6

/-- java/lang/constant/Constable -/
def k25 : Class := { plain "java/lang/constant/Constable" (some 0) with
  accessFlags := 1537
  interfaces := #[]
  cf := some (fileOf pool25 1 #[] #[] 1537 3 #[] #[])
  fields := #[]
  methods := #[]
  instanceTypes := #[]
  staticTypes := #[]
  resolved := Array.replicate 11 none
  statics := none }

def pool26 : Array CpInfo := pool [(1, .class_ 2), (0, u "java/lang/constant/ConstantDesc"), (0, .class_ 4), (0, u "java/lang/Object")] 32

/-- java/lang/constant/ConstantDesc -/
def k26 : Class := { plain "java/lang/constant/ConstantDesc" (some 0) with
  accessFlags := 1537
  interfaces := #[]
  cf := some (fileOf pool26 1 #[] #[] 1537 3 #[] #[])
  fields := #[]
  methods := #[]
  instanceTypes := #[]
  staticTypes := #[]
  resolved := Array.replicate 37 none
  statics := none }

def pool27 : Array CpInfo := pool [(1, .methodref 2 3), (0, .class_ 4), (0, .nameAndType 5 6), (0, u "java/lang/Object"), (0, u "<init>"), (0, u "()V"), (2, .fieldref 10 11), (0, .class_ 12), (0, .nameAndType 13 14), (0, u "java/lang/String"), (0, u "value"), (0, u "[B"), (0, .fieldref 10 16), (0, .nameAndType 17 18), (0, u "coder"), (0, u "B"), (0, .fieldref 10 20), (0, .nameAndType 21 22), (0, u "hash"), (0, u "I"), (0, .fieldref 10 24), (0, .nameAndType 25 26), (0, u "hashIsZero"), (0, u "Z"), (11, .fieldref 10 39), (0, .nameAndType 40 26), (0, u "COMPACT_STRINGS"), (12, u "toBytes"), (53, .class_ 109), (1, u "java/lang/StringLatin1"), (32, u "()Z"), (66, .methodref 10 210), (0, .nameAndType 5 211), (0, u "([BB)V"), (122, u "()I"), (34, u "(C)Z"), (122, .methodref 10 493), (0, .nameAndType 494 142), (0, u "isLatin1"), (80, .class_ 576), (0, u "java/lang/CharSequence"), (22, u "CASE_INSENSITIVE_ORDER"), (0, u "Ljava/util/Comparator;"), (27, .methodref 107 629), (0, .nameAndType 630 631), (0, u "hashCode"), (0, u "([B)I"), (150, u "valueOf"), (0, u "(C)Ljava/lang/String;"), (231, .methodref 107 1016), (0, .nameAndType 1017 369), (0, u "canEncode"), (0, .methodref 107 1019), (0, .nameAndType 53 1020), (0, u "(C)[B"), (80, u "serialPersistentFields"), (0, u "[Ljava/io/ObjectStreamField;"), (0, .class_ 1104), (0, u "java/lang/String$CaseInsensitiveComparator"), (1, .class_ 1107), (0, u "java/io/Serializable"), (0, .class_ 1109), (0, u "java/lang/Comparable"), (0, .class_ 1111), (0, u "java/lang/constant/Constable"), (0, .class_ 1113), (0, u "java/lang/constant/ConstantDesc"), (2, u "serialVersionUID"), (0, u "J"), (3, u "REPL"), (0, u "C"), (2, u "LATIN1"), (1, u "UTF16")] 323

def k27m0 : Method := { name := "<init>", desc := "()V", sig := { parameters := [], returnType := none }, accessFlags := 1, code := none }
def k27c1 : Code := { maxStack := 2, maxLocals := 2, code := jdk_42_method_78_code, exceptionTable := #[], attributes := #[] }
def k27m1 : Method := { name := "hashCode", desc := "()I", sig := { parameters := [], returnType := some .int }, accessFlags := 1, code := some k27c1 }
def k27c2 : Code := { maxStack := 4, maxLocals := 1, code := jdk_42_method_139_code, exceptionTable := #[], attributes := #[] }
def k27m2 : Method := { name := "valueOf", desc := "(C)Ljava/lang/String;", sig := { parameters := [.char], returnType := some (.object "java/lang/String") }, accessFlags := 9, code := some k27c2 }
def k27c3 : Code := { maxStack := 2, maxLocals := 3, code := jdk_42_method_151_code, exceptionTable := #[], attributes := #[] }
def k27m3 : Method := { name := "<init>", desc := "([BB)V", sig := { parameters := [(.array .byte), .byte], returnType := none }, accessFlags := 0, code := some k27c3 }
def k27c4 : Code := { maxStack := 1, maxLocals := 1, code := jdk_42_method_154_code, exceptionTable := #[], attributes := #[] }
def k27m4 : Method := { name := "isLatin1", desc := "()Z", sig := { parameters := [], returnType := some .boolean }, accessFlags := 0, code := some k27c4 }
/-- java/lang/String -/
def k27 : Class := { plain "java/lang/String" (some 0) with
  accessFlags := 49
  interfaces := #[10, 23, 24, 25, 26]
  cf := some (fileOf pool27 10 #[.nestMembers #[1103]] #[{ accessFlags := 1, nameIndex := 5, descriptorIndex := 6, attributes := #[] }, { accessFlags := 1, nameIndex := 630, descriptorIndex := 334, attributes := #[] }, { accessFlags := 9, nameIndex := 782, descriptorIndex := 783, attributes := #[] }, { accessFlags := 0, nameIndex := 5, descriptorIndex := 211, attributes := #[] }, { accessFlags := 0, nameIndex := 494, descriptorIndex := 142, attributes := #[] }] 49 2 #[1106, 1108, 575, 1110, 1112] #[{ accessFlags := 18, nameIndex := 13, descriptorIndex := 14, attributes := #[] }, { accessFlags := 18, nameIndex := 17, descriptorIndex := 18, attributes := #[] }, { accessFlags := 2, nameIndex := 21, descriptorIndex := 22, attributes := #[] }, { accessFlags := 2, nameIndex := 25, descriptorIndex := 26, attributes := #[] }, { accessFlags := 26, nameIndex := 1116, descriptorIndex := 1117, attributes := #[] }, { accessFlags := 24, nameIndex := 40, descriptorIndex := 26, attributes := #[] }, { accessFlags := 26, nameIndex := 1101, descriptorIndex := 1102, attributes := #[] }, { accessFlags := 26, nameIndex := 1121, descriptorIndex := 1122, attributes := #[] }, { accessFlags := 25, nameIndex := 599, descriptorIndex := 600, attributes := #[] }, { accessFlags := 24, nameIndex := 1125, descriptorIndex := 18, attributes := #[] }, { accessFlags := 24, nameIndex := 1127, descriptorIndex := 18, attributes := #[] }])
  fields := #[{ name := "value", type := (.array .byte), accessFlags := 18, slot := 0, constantValue := 0 }, { name := "coder", type := .byte, accessFlags := 18, slot := 1, constantValue := 0 }, { name := "hash", type := .int, accessFlags := 2, slot := 2, constantValue := 0 }, { name := "hashIsZero", type := .boolean, accessFlags := 2, slot := 3, constantValue := 0 }, { name := "serialVersionUID", type := .long, accessFlags := 26, slot := 0, constantValue := 0 }, { name := "COMPACT_STRINGS", type := .boolean, accessFlags := 24, slot := 1, constantValue := 0 }, { name := "serialPersistentFields", type := (.array (.object "java/io/ObjectStreamField")), accessFlags := 26, slot := 2, constantValue := 0 }, { name := "REPL", type := .char, accessFlags := 26, slot := 3, constantValue := 0 }, { name := "CASE_INSENSITIVE_ORDER", type := (.object "java/util/Comparator"), accessFlags := 25, slot := 4, constantValue := 0 }, { name := "LATIN1", type := .byte, accessFlags := 24, slot := 5, constantValue := 0 }, { name := "UTF16", type := .byte, accessFlags := 24, slot := 6, constantValue := 0 }]
  methods := #[k27m0, k27m1, k27m2, k27m3, k27m4]
  instanceTypes := #[(.array .byte), .byte, .int, .boolean]
  staticTypes := #[.long, .boolean, (.array (.object "java/io/ObjectStreamField")), .char, (.object "java/util/Comparator"), .byte, .byte]
  resolved := Array.replicate 1451 none
  statics := some 1 }

def pool28 : Array CpInfo := pool [(4, .class_ 6), (1, u "java/lang/Object"), (0, u "<init>"), (0, u "()V"), (5, .class_ 16), (1, u "java/lang/StringLatin1"), (40, u "([B)I"), (32, u "canEncode"), (14, u "(C)Z"), (15, u "$assertionsDisabled"), (0, u "Z"), (98, .class_ 223), (1, u "java/lang/StringLatin1$LinesSpliterator"), (74, u "hashCode"), (81, u "toBytes"), (1, u "(C)[B"), (7, .class_ 391), (0, u "java/lang/StringLatin1$CharsSpliterator")] 3

def k28m0 : Method := { name := "<init>", desc := "()V", sig := { parameters := [], returnType := none }, accessFlags := 0, code := none }
def k28c1 : Code := { maxStack := 2, maxLocals := 1, code := jdk_43_method_3_code, exceptionTable := #[], attributes := #[] }
def k28m1 : Method := { name := "canEncode", desc := "(C)Z", sig := { parameters := [.char], returnType := some .boolean }, accessFlags := 9, code := some k28c1 }
def k28c2 : Code := { maxStack := 5, maxLocals := 1, code := jdk_43_method_21_code, exceptionTable := #[], attributes := #[] }
def k28m2 : Method := { name := "hashCode", desc := "([B)I", sig := { parameters := [(.array .byte)], returnType := some .int }, accessFlags := 9, code := some k28c2 }
def k28c3 : Code := { maxStack := 4, maxLocals := 1, code := jdk_43_method_46_code, exceptionTable := #[], attributes := #[] }
def k28m3 : Method := { name := "toBytes", desc := "(C)[B", sig := { parameters := [.char], returnType := some (.array .byte) }, accessFlags := 9, code := some k28c3 }
/-- java/lang/StringLatin1 -/
def k28 : Class := { plain "java/lang/StringLatin1" (some 0) with
  accessFlags := 48
  interfaces := #[]
  cf := some (fileOf pool28 14 #[.nestMembers #[390, 221]] #[{ accessFlags := 0, nameIndex := 7, descriptorIndex := 8, attributes := #[] }, { accessFlags := 9, nameIndex := 90, descriptorIndex := 105, attributes := #[] }, { accessFlags := 9, nameIndex := 298, descriptorIndex := 57, attributes := #[] }, { accessFlags := 9, nameIndex := 380, descriptorIndex := 382, attributes := #[] }] 48 4 #[] #[{ accessFlags := 4120, nameIndex := 121, descriptorIndex := 122, attributes := #[] }])
  fields := #[{ name := "$assertionsDisabled", type := .boolean, accessFlags := 4120, slot := 0, constantValue := 0 }]
  methods := #[k28m0, k28m1, k28m2, k28m3]
  instanceTypes := #[]
  staticTypes := #[.boolean]
  resolved := Array.replicate 395 none
  statics := none }

def pool29 : Array CpInfo := pool [(1, .methodref 2 3), (0, .class_ 4), (0, .nameAndType 5 6), (0, u "java/lang/Object"), (0, u "<init>"), (0, u "()V"), (1, .class_ 10), (1, u "java/lang/Number"), (2, .class_ 14), (0, u "java/io/Serializable"), (0, u "serialVersionUID"), (0, u "J")] 20

def k29c0 : Code := { maxStack := 1, maxLocals := 1, code := jdk_18_method_1_code, exceptionTable := #[], attributes := #[] }
def k29m0 : Method := { name := "<init>", desc := "()V", sig := { parameters := [], returnType := none }, accessFlags := 1, code := some k29c0 }
/-- java/lang/Number -/
def k29 : Class := { plain "java/lang/Number" (some 0) with
  accessFlags := 1057
  interfaces := #[10]
  cf := some (fileOf pool29 8 #[] #[{ accessFlags := 1, nameIndex := 5, descriptorIndex := 6, attributes := #[] }] 1057 2 #[13] #[{ accessFlags := 26, nameIndex := 15, descriptorIndex := 16, attributes := #[] }])
  fields := #[{ name := "serialVersionUID", type := .long, accessFlags := 26, slot := 0, constantValue := 0 }]
  methods := #[k29m0]
  instanceTypes := #[]
  staticTypes := #[.long]
  resolved := Array.replicate 37 none
  statics := none }

def pool30 : Array CpInfo := pool [(1, .class_ 2), (0, u "java/lang/Integer"), (16, u "digits"), (0, u "[C"), (46, u "<init>"), (17, u "DigitOnes"), (0, u "[B"), (2, u "DigitTens"), (10, .nameAndType 67 101), (0, u "()V"), (19, u "()I"), (65, u "valueOf"), (0, u "(I)Ljava/lang/Integer;"), (0, .class_ 190), (0, u "java/lang/Integer$IntegerCache"), (0, .fieldref 189 192), (0, .nameAndType 193 194), (0, u "high"), (0, u "I"), (0, .fieldref 189 196), (0, .nameAndType 197 198), (0, u "cache"), (0, u "[Ljava/lang/Integer;"), (0, .methodref 1 200), (0, .nameAndType 67 201), (0, u "(I)V"), (0, .methodref 203 100), (0, .class_ 204), (0, u "java/lang/Number"), (0, .fieldref 1 206), (0, .nameAndType 207 194), (0, u "value"), (5, u "intValue"), (88, u "TYPE"), (0, u "Ljava/lang/Class;"), (0, .class_ 305), (0, u "java/lang/Comparable"), (0, .class_ 307), (0, u "java/lang/constant/Constable"), (0, .class_ 309), (0, u "java/lang/constant/ConstantDesc"), (0, u "MIN_VALUE"), (1, u "MAX_VALUE"), (3, u "SIZE"), (1, u "BYTES"), (1, u "serialVersionUID"), (0, u "J")] 131

def k30c0 : Code := { maxStack := 3, maxLocals := 1, code := jdk_33_method_22_code, exceptionTable := #[], attributes := #[] }
def k30m0 : Method := { name := "valueOf", desc := "(I)Ljava/lang/Integer;", sig := { parameters := [.int], returnType := some (.object "java/lang/Integer") }, accessFlags := 9, code := some k30c0 }
def k30c1 : Code := { maxStack := 2, maxLocals := 2, code := jdk_33_method_23_code, exceptionTable := #[], attributes := #[] }
def k30m1 : Method := { name := "<init>", desc := "(I)V", sig := { parameters := [.int], returnType := none }, accessFlags := 1, code := some k30c1 }
def k30c2 : Code := { maxStack := 1, maxLocals := 1, code := jdk_33_method_27_code, exceptionTable := #[], attributes := #[] }
def k30m2 : Method := { name := "intValue", desc := "()I", sig := { parameters := [], returnType := some .int }, accessFlags := 1, code := some k30c2 }
/-- java/lang/Integer -/
def k30 : Class := { plain "java/lang/Integer" (some 29) with
  accessFlags := 49
  interfaces := #[23, 25, 26]
  cf := some (fileOf pool30 1 #[.nestMembers #[189]] #[{ accessFlags := 9, nameIndex := 187, descriptorIndex := 188, attributes := #[] }, { accessFlags := 1, nameIndex := 67, descriptorIndex := 201, attributes := #[] }, { accessFlags := 1, nameIndex := 213, descriptorIndex := 121, attributes := #[] }] 49 203 #[304, 306, 308] #[{ accessFlags := 25, nameIndex := 310, descriptorIndex := 194, attributes := #[] }, { accessFlags := 25, nameIndex := 312, descriptorIndex := 194, attributes := #[] }, { accessFlags := 25, nameIndex := 302, descriptorIndex := 303, attributes := #[] }, { accessFlags := 24, nameIndex := 19, descriptorIndex := 20, attributes := #[] }, { accessFlags := 24, nameIndex := 89, descriptorIndex := 86, attributes := #[] }, { accessFlags := 24, nameIndex := 85, descriptorIndex := 86, attributes := #[] }, { accessFlags := 18, nameIndex := 207, descriptorIndex := 194, attributes := #[] }, { accessFlags := 25, nameIndex := 316, descriptorIndex := 194, attributes := #[] }, { accessFlags := 25, nameIndex := 318, descriptorIndex := 194, attributes := #[] }, { accessFlags := 26, nameIndex := 320, descriptorIndex := 321, attributes := #[] }])
  fields := #[{ name := "MIN_VALUE", type := .int, accessFlags := 25, slot := 0, constantValue := 0 }, { name := "MAX_VALUE", type := .int, accessFlags := 25, slot := 1, constantValue := 0 }, { name := "TYPE", type := (.object "java/lang/Class"), accessFlags := 25, slot := 2, constantValue := 0 }, { name := "digits", type := (.array .char), accessFlags := 24, slot := 3, constantValue := 0 }, { name := "DigitTens", type := (.array .byte), accessFlags := 24, slot := 4, constantValue := 0 }, { name := "DigitOnes", type := (.array .byte), accessFlags := 24, slot := 5, constantValue := 0 }, { name := "value", type := .int, accessFlags := 18, slot := 0, constantValue := 0 }, { name := "SIZE", type := .int, accessFlags := 25, slot := 6, constantValue := 0 }, { name := "BYTES", type := .int, accessFlags := 25, slot := 7, constantValue := 0 }, { name := "serialVersionUID", type := .long, accessFlags := 26, slot := 8, constantValue := 0 }]
  methods := #[k30m0, k30m1, k30m2]
  instanceTypes := #[.int]
  staticTypes := #[.int, .int, (.object "java/lang/Class"), (.array .char), (.array .byte), (.array .byte), .int, .int, .long]
  resolved := Array.replicate 453 none
  statics := none }

def pool31 : Array CpInfo := pool [(2, .class_ 4), (1, u "java/lang/Object"), (0, u "<init>"), (0, u "()V"), (0, .class_ 8), (0, u "java/lang/Integer"), (7, .class_ 18), (1, u "java/lang/Integer$IntegerCache"), (0, u "$assertionsDisabled"), (0, u "Z"), (26, u "high"), (0, u "I"), (8, u "archivedCache"), (0, u "[Ljava/lang/Integer;"), (12, u "cache"), (0, u "low")] 27

def k31m0 : Method := { name := "<init>", desc := "()V", sig := { parameters := [], returnType := none }, accessFlags := 2, code := none }
/-- java/lang/Integer$IntegerCache -/
def k31 : Class := { plain "java/lang/Integer$IntegerCache" (some 0) with
  accessFlags := 48
  interfaces := #[]
  cf := some (fileOf pool31 16 #[.nestHost 7] #[{ accessFlags := 2, nameIndex := 5, descriptorIndex := 6, attributes := #[] }] 48 2 #[] #[{ accessFlags := 24, nameIndex := 72, descriptorIndex := 48, attributes := #[] }, { accessFlags := 24, nameIndex := 47, descriptorIndex := 48, attributes := #[] }, { accessFlags := 24, nameIndex := 71, descriptorIndex := 58, attributes := #[] }, { accessFlags := 8, nameIndex := 57, descriptorIndex := 58, attributes := #[] }, { accessFlags := 4120, nameIndex := 19, descriptorIndex := 20, attributes := #[] }])
  fields := #[{ name := "low", type := .int, accessFlags := 24, slot := 0, constantValue := 0 }, { name := "high", type := .int, accessFlags := 24, slot := 1, constantValue := 0 }, { name := "cache", type := (.array (.object "java/lang/Integer")), accessFlags := 24, slot := 2, constantValue := 0 }, { name := "archivedCache", type := (.array (.object "java/lang/Integer")), accessFlags := 8, slot := 3, constantValue := 0 }, { name := "$assertionsDisabled", type := .boolean, accessFlags := 4120, slot := 4, constantValue := 0 }]
  methods := #[k31m0]
  instanceTypes := #[]
  staticTypes := #[.int, .int, (.array (.object "java/lang/Integer")), (.array (.object "java/lang/Integer")), .boolean]
  resolved := Array.replicate 100 none
  statics := some 2 }

def pool32 : Array CpInfo := pool [(23, .class_ 25), (1, u "java/util/Map$Entry"), (6, .class_ 34), (1, u "java/util/Map"), (34, .class_ 70), (0, u "java/lang/Object")] 107

/-- java/util/Map$Entry -/
def k32 : Class := { plain "java/util/Map$Entry" (some 0) with
  accessFlags := 1537
  interfaces := #[]
  cf := some (fileOf pool32 23 #[.nestHost 32] #[] 1537 69 #[] #[])
  fields := #[]
  methods := #[]
  instanceTypes := #[]
  staticTypes := #[]
  resolved := Array.replicate 178 none
  statics := none }

def pool33 : Array CpInfo := pool [(1, .methodref 2 3), (0, .class_ 4), (0, .nameAndType 5 6), (0, u "java/lang/Object"), (0, u "<init>"), (0, u "()V"), (0, .fieldref 8 9), (0, .class_ 10), (0, .nameAndType 11 12), (0, u "java/util/HashMap$Node"), (0, u "hash"), (0, u "I"), (0, .fieldref 8 14), (0, .nameAndType 15 16), (0, u "key"), (0, u "Ljava/lang/Object;"), (0, .fieldref 8 18), (0, .nameAndType 19 16), (0, u "value"), (0, .fieldref 8 21), (0, .nameAndType 22 23), (0, u "next"), (0, u "Ljava/util/HashMap$Node;"), (22, .class_ 47), (0, u "java/util/Map$Entry"), (15, u "(ILjava/lang/Object;Ljava/lang/Object;Ljava/util/HashMap$Node;)V"), (24, .class_ 89), (0, u "java/util/HashMap")] 5

def k33c0 : Code := { maxStack := 2, maxLocals := 5, code := jdk_70_method_1_code, exceptionTable := #[], attributes := #[] }
def k33m0 : Method := { name := "<init>", desc := "(ILjava/lang/Object;Ljava/lang/Object;Ljava/util/HashMap$Node;)V", sig := { parameters := [.int, (.object "java/lang/Object"), (.object "java/lang/Object"), (.object "java/util/HashMap$Node")], returnType := none }, accessFlags := 0, code := some k33c0 }
/-- java/util/HashMap$Node -/
def k33 : Class := { plain "java/util/HashMap$Node" (some 0) with
  accessFlags := 32
  interfaces := #[32]
  cf := some (fileOf pool33 8 #[.nestHost 88] #[{ accessFlags := 0, nameIndex := 5, descriptorIndex := 63, attributes := #[] }] 32 2 #[46] #[{ accessFlags := 16, nameIndex := 11, descriptorIndex := 12, attributes := #[] }, { accessFlags := 16, nameIndex := 15, descriptorIndex := 16, attributes := #[] }, { accessFlags := 0, nameIndex := 19, descriptorIndex := 16, attributes := #[] }, { accessFlags := 0, nameIndex := 22, descriptorIndex := 23, attributes := #[] }])
  fields := #[{ name := "hash", type := .int, accessFlags := 16, slot := 0, constantValue := 0 }, { name := "key", type := (.object "java/lang/Object"), accessFlags := 16, slot := 1, constantValue := 0 }, { name := "value", type := (.object "java/lang/Object"), accessFlags := 0, slot := 2, constantValue := 0 }, { name := "next", type := (.object "java/util/HashMap$Node"), accessFlags := 0, slot := 3, constantValue := 0 }]
  methods := #[k33m0]
  instanceTypes := #[.int, (.object "java/lang/Object"), (.object "java/lang/Object"), (.object "java/util/HashMap$Node")]
  staticTypes := #[]
  resolved := Array.replicate 95 none
  statics := none }

def pool34 : Array CpInfo := pool [(2, .class_ 4), (1, u "java/lang/Object"), (0, u "<init>"), (0, u "()V"), (1, .class_ 10), (1, u "java/lang/System"), (0, u "allowSecurityManager"), (0, u "I"), (16, u "cons"), (0, u "Ljava/io/Console;"), (77, .class_ 110), (1, u "java/lang/System$CallersHolder"), (43, u "initialErrStream"), (0, u "Ljava/io/PrintStream;"), (19, u "security"), (0, u "Ljava/lang/SecurityManager;"), (31, .class_ 209), (0, u "java/lang/System$1"), (7, u "props"), (0, u "Ljava/util/Properties;"), (2, u "lineSeparator"), (0, u "Ljava/lang/String;"), (96, .class_ 321), (1, u "java/lang/System$LoggerFinder"), (5, .class_ 328), (0, u "java/lang/System$Logger"), (67, u "err"), (2, u "out"), (91, u "notSupportedJnuEncoding"), (15, u "in"), (17, u "initialIn"), (0, u "Ljava/io/InputStream;"), (35, u "bootLayer"), (0, u "Ljava/lang/ModuleLayer;"), (99, .class_ 664), (0, u "java/lang/System$2"), (9, u "NEVER"), (2, u "MAYBE"), (49, u "arraycopy"), (0, u "(Ljava/lang/Object;ILjava/lang/Object;II)V"), (72, .class_ 802), (0, u "java/lang/System$Logger$Level")] 31

def k34m0 : Method := { name := "<init>", desc := "()V", sig := { parameters := [], returnType := none }, accessFlags := 2, code := none }
def k34m1 : Method := { name := "arraycopy", desc := "(Ljava/lang/Object;ILjava/lang/Object;II)V", sig := { parameters := [(.object "java/lang/Object"), .int, (.object "java/lang/Object"), .int, .int], returnType := none }, accessFlags := 265, code := none }
/-- java/lang/System -/
def k34 : Class := { plain "java/lang/System" (some 0) with
  accessFlags := 49
  interfaces := #[]
  cf := some (fileOf pool34 8 #[.nestMembers #[319, 327, 801, 108, 663, 208]] #[{ accessFlags := 2, nameIndex := 5, descriptorIndex := 6, attributes := #[] }, { accessFlags := 265, nameIndex := 727, descriptorIndex := 728, attributes := #[] }] 49 2 #[] #[{ accessFlags := 25, nameIndex := 507, descriptorIndex := 526, attributes := #[] }, { accessFlags := 25, nameIndex := 399, descriptorIndex := 155, attributes := #[] }, { accessFlags := 25, nameIndex := 396, descriptorIndex := 155, attributes := #[] }, { accessFlags := 10, nameIndex := 525, descriptorIndex := 526, attributes := #[] }, { accessFlags := 26, nameIndex := 674, descriptorIndex := 12, attributes := #[] }, { accessFlags := 26, nameIndex := 677, descriptorIndex := 12, attributes := #[] }, { accessFlags := 10, nameIndex := 11, descriptorIndex := 12, attributes := #[] }, { accessFlags := 74, nameIndex := 175, descriptorIndex := 176, attributes := #[] }, { accessFlags := 10, nameIndex := 491, descriptorIndex := 222, attributes := #[] }, { accessFlags := 74, nameIndex := 29, descriptorIndex := 30, attributes := #[] }, { accessFlags := 74, nameIndex := 154, descriptorIndex := 155, attributes := #[] }, { accessFlags := 10, nameIndex := 217, descriptorIndex := 218, attributes := #[] }, { accessFlags := 10, nameIndex := 221, descriptorIndex := 222, attributes := #[] }, { accessFlags := 8, nameIndex := 562, descriptorIndex := 563, attributes := #[] }])
  fields := #[{ name := "in", type := (.object "java/io/InputStream"), accessFlags := 25, slot := 0, constantValue := 0 }, { name := "out", type := (.object "java/io/PrintStream"), accessFlags := 25, slot := 1, constantValue := 0 }, { name := "err", type := (.object "java/io/PrintStream"), accessFlags := 25, slot := 2, constantValue := 0 }, { name := "initialIn", type := (.object "java/io/InputStream"), accessFlags := 10, slot := 3, constantValue := 0 }, { name := "NEVER", type := .int, accessFlags := 26, slot := 4, constantValue := 0 }, { name := "MAYBE", type := .int, accessFlags := 26, slot := 5, constantValue := 0 }, { name := "allowSecurityManager", type := .int, accessFlags := 10, slot := 6, constantValue := 0 }, { name := "security", type := (.object "java/lang/SecurityManager"), accessFlags := 74, slot := 7, constantValue := 0 }, { name := "notSupportedJnuEncoding", type := (.object "java/lang/String"), accessFlags := 10, slot := 8, constantValue := 0 }, { name := "cons", type := (.object "java/io/Console"), accessFlags := 74, slot := 9, constantValue := 0 }, { name := "initialErrStream", type := (.object "java/io/PrintStream"), accessFlags := 74, slot := 10, constantValue := 0 }, { name := "props", type := (.object "java/util/Properties"), accessFlags := 10, slot := 11, constantValue := 0 }, { name := "lineSeparator", type := (.object "java/lang/String"), accessFlags := 10, slot := 12, constantValue := 0 }, { name := "bootLayer", type := (.object "java/lang/ModuleLayer"), accessFlags := 8, slot := 13, constantValue := 0 }]
  methods := #[k34m0, k34m1]
  instanceTypes := #[]
  staticTypes := #[(.object "java/io/InputStream"), (.object "java/io/PrintStream"), (.object "java/io/PrintStream"), (.object "java/io/InputStream"), .int, .int, .int, (.object "java/lang/SecurityManager"), (.object "java/lang/String"), (.object "java/io/Console"), (.object "java/io/PrintStream"), (.object "java/util/Properties"), (.object "java/lang/String"), (.object "java/lang/ModuleLayer")]
  resolved := Array.replicate 834 none
  statics := none }

def pool35 : Array CpInfo := pool [(2, .class_ 4), (1, u "java/lang/Object"), (0, u "<init>"), (0, u "()V"), (17, .class_ 26), (1, u "jdk/internal/util/Preconditions"), (28, .class_ 56), (0, u "jdk/internal/util/Preconditions$4"), (57, .class_ 115), (0, u "jdk/internal/util/Preconditions$1"), (7, u "SIOOBE_FORMATTER"), (0, u "Ljava/util/function/BiFunction;"), (0, .class_ 126), (0, u "jdk/internal/util/Preconditions$2"), (3, u "AIOOBE_FORMATTER"), (0, .class_ 132), (0, u "jdk/internal/util/Preconditions$3"), (3, u "IOOBE_FORMATTER")] 57

def k35m0 : Method := { name := "<init>", desc := "()V", sig := { parameters := [], returnType := none }, accessFlags := 1, code := none }
/-- jdk/internal/util/Preconditions -/
def k35 : Class := { plain "jdk/internal/util/Preconditions" (some 0) with
  accessFlags := 33
  interfaces := #[]
  cf := some (fileOf pool35 24 #[.nestMembers #[55, 131, 125, 114]] #[{ accessFlags := 1, nameIndex := 5, descriptorIndex := 6, attributes := #[] }] 33 2 #[] #[{ accessFlags := 25, nameIndex := 123, descriptorIndex := 124, attributes := #[] }, { accessFlags := 25, nameIndex := 130, descriptorIndex := 124, attributes := #[] }, { accessFlags := 25, nameIndex := 136, descriptorIndex := 124, attributes := #[] }])
  fields := #[{ name := "SIOOBE_FORMATTER", type := (.object "java/util/function/BiFunction"), accessFlags := 25, slot := 0, constantValue := 0 }, { name := "AIOOBE_FORMATTER", type := (.object "java/util/function/BiFunction"), accessFlags := 25, slot := 1, constantValue := 0 }, { name := "IOOBE_FORMATTER", type := (.object "java/util/function/BiFunction"), accessFlags := 25, slot := 2, constantValue := 0 }]
  methods := #[k35m0]
  instanceTypes := #[]
  staticTypes := #[(.object "java/util/function/BiFunction"), (.object "java/util/function/BiFunction"), (.object "java/util/function/BiFunction")]
  resolved := Array.replicate 194 none
  statics := some 3 }

def pool36 : Array CpInfo := pool [(9, u "<init>"), (6, .class_ 18), (1, u "java/lang/Object"), (0, u "()V"), (1, .class_ 23), (1, u "jdk/internal/util/ArraysSupport"), (0, u "LOG2_ARRAY_LONG_INDEX_SCALE"), (0, u "I"), (2, u "U"), (0, u "Ljdk/internal/misc/Unsafe;"), (8, u "BIG_ENDIAN"), (0, u "Z"), (8, u "LOG2_BYTE_BIT_SIZE"), (4, u "LOG2_ARRAY_INT_INDEX_SCALE"), (54, u "JLA"), (0, u "Ljdk/internal/access/JavaLangAccess;"), (11, u "LOG2_ARRAY_BOOLEAN_INDEX_SCALE"), (9, u "LOG2_ARRAY_BYTE_INDEX_SCALE"), (5, u "LOG2_ARRAY_CHAR_INDEX_SCALE"), (5, u "LOG2_ARRAY_SHORT_INDEX_SCALE"), (18, u "LOG2_ARRAY_FLOAT_INDEX_SCALE"), (24, u "LOG2_ARRAY_DOUBLE_INDEX_SCALE"), (89, u "T_BOOLEAN"), (2, u "T_CHAR"), (1, u "T_FLOAT"), (1, u "T_DOUBLE"), (1, u "T_BYTE"), (1, u "T_SHORT"), (1, u "T_INT"), (1, u "T_LONG"), (1, u "SOFT_MAX_ARRAY_LENGTH")] 83

def k36m0 : Method := { name := "<init>", desc := "()V", sig := { parameters := [], returnType := none }, accessFlags := 2, code := none }
/-- jdk/internal/util/ArraysSupport -/
def k36 : Class := { plain "jdk/internal/util/ArraysSupport" (some 0) with
  accessFlags := 33
  interfaces := #[]
  cf := some (fileOf pool36 21 #[] #[{ accessFlags := 2, nameIndex := 9, descriptorIndex := 19, attributes := #[] }] 33 16 #[] #[{ accessFlags := 24, nameIndex := 28, descriptorIndex := 29, attributes := #[] }, { accessFlags := 26, nameIndex := 38, descriptorIndex := 39, attributes := #[] }, { accessFlags := 25, nameIndex := 121, descriptorIndex := 25, attributes := #[] }, { accessFlags := 25, nameIndex := 131, descriptorIndex := 25, attributes := #[] }, { accessFlags := 25, nameIndex := 137, descriptorIndex := 25, attributes := #[] }, { accessFlags := 25, nameIndex := 143, descriptorIndex := 25, attributes := #[] }, { accessFlags := 25, nameIndex := 53, descriptorIndex := 25, attributes := #[] }, { accessFlags := 25, nameIndex := 24, descriptorIndex := 25, attributes := #[] }, { accessFlags := 25, nameIndex := 162, descriptorIndex := 25, attributes := #[] }, { accessFlags := 25, nameIndex := 187, descriptorIndex := 25, attributes := #[] }, { accessFlags := 26, nameIndex := 48, descriptorIndex := 25, attributes := #[] }, { accessFlags := 25, nameIndex := 277, descriptorIndex := 25, attributes := #[] }, { accessFlags := 25, nameIndex := 280, descriptorIndex := 25, attributes := #[] }, { accessFlags := 25, nameIndex := 282, descriptorIndex := 25, attributes := #[] }, { accessFlags := 25, nameIndex := 284, descriptorIndex := 25, attributes := #[] }, { accessFlags := 25, nameIndex := 286, descriptorIndex := 25, attributes := #[] }, { accessFlags := 25, nameIndex := 288, descriptorIndex := 25, attributes := #[] }, { accessFlags := 25, nameIndex := 290, descriptorIndex := 25, attributes := #[] }, { accessFlags := 25, nameIndex := 292, descriptorIndex := 25, attributes := #[] }, { accessFlags := 26, nameIndex := 108, descriptorIndex := 109, attributes := #[] }, { accessFlags := 25, nameIndex := 294, descriptorIndex := 25, attributes := #[] }])
  fields := #[{ name := "U", type := (.object "jdk/internal/misc/Unsafe"), accessFlags := 24, slot := 0, constantValue := 0 }, { name := "BIG_ENDIAN", type := .boolean, accessFlags := 26, slot := 1, constantValue := 0 }, { name := "LOG2_ARRAY_BOOLEAN_INDEX_SCALE", type := .int, accessFlags := 25, slot := 2, constantValue := 0 }, { name := "LOG2_ARRAY_BYTE_INDEX_SCALE", type := .int, accessFlags := 25, slot := 3, constantValue := 0 }, { name := "LOG2_ARRAY_CHAR_INDEX_SCALE", type := .int, accessFlags := 25, slot := 4, constantValue := 0 }, { name := "LOG2_ARRAY_SHORT_INDEX_SCALE", type := .int, accessFlags := 25, slot := 5, constantValue := 0 }, { name := "LOG2_ARRAY_INT_INDEX_SCALE", type := .int, accessFlags := 25, slot := 6, constantValue := 0 }, { name := "LOG2_ARRAY_LONG_INDEX_SCALE", type := .int, accessFlags := 25, slot := 7, constantValue := 0 }, { name := "LOG2_ARRAY_FLOAT_INDEX_SCALE", type := .int, accessFlags := 25, slot := 8, constantValue := 0 }, { name := "LOG2_ARRAY_DOUBLE_INDEX_SCALE", type := .int, accessFlags := 25, slot := 9, constantValue := 0 }, { name := "LOG2_BYTE_BIT_SIZE", type := .int, accessFlags := 26, slot := 10, constantValue := 0 }, { name := "T_BOOLEAN", type := .int, accessFlags := 25, slot := 11, constantValue := 0 }, { name := "T_CHAR", type := .int, accessFlags := 25, slot := 12, constantValue := 0 }, { name := "T_FLOAT", type := .int, accessFlags := 25, slot := 13, constantValue := 0 }, { name := "T_DOUBLE", type := .int, accessFlags := 25, slot := 14, constantValue := 0 }, { name := "T_BYTE", type := .int, accessFlags := 25, slot := 15, constantValue := 0 }, { name := "T_SHORT", type := .int, accessFlags := 25, slot := 16, constantValue := 0 }, { name := "T_INT", type := .int, accessFlags := 25, slot := 17, constantValue := 0 }, { name := "T_LONG", type := .int, accessFlags := 25, slot := 18, constantValue := 0 }, { name := "JLA", type := (.object "jdk/internal/access/JavaLangAccess"), accessFlags := 26, slot := 19, constantValue := 0 }, { name := "SOFT_MAX_ARRAY_LENGTH", type := .int, accessFlags := 25, slot := 20, constantValue := 0 }]
  methods := #[k36m0]
  instanceTypes := #[]
  staticTypes := #[(.object "jdk/internal/misc/Unsafe"), .boolean, .int, .int, .int, .int, .int, .int, .int, .int, .int, .int, .int, .int, .int, .int, .int, .int, .int, (.object "jdk/internal/access/JavaLangAccess"), .int]
  resolved := Array.replicate 378 none
  statics := none }

/-- the primitive boolean -/
def k37 : Class := { plain "boolean" none with kind := .primitive 'Z', accessFlags := 0x411 }
/-- [Z -/
def k38 : Class := { plain "[Z" (some 0) with kind := .array 37 .boolean, interfaces := #[9, 10], accessFlags := 1041 }

/-- the primitive byte -/
def k39 : Class := { plain "byte" none with kind := .primitive 'B', accessFlags := 0x411 }
/-- [B -/
def k40 : Class := { plain "[B" (some 0) with kind := .array 39 .byte, interfaces := #[9, 10], accessFlags := 1041 }

/-- the primitive int -/
def k41 : Class := { plain "int" none with kind := .primitive 'I', accessFlags := 0x411 }
/-- [I -/
def k42 : Class := { plain "[I" (some 0) with kind := .array 41 .int, interfaces := #[9, 10], accessFlags := 1041 }

/-- [Ljava/lang/Integer; -/
def k43 : Class := { plain "[Ljava/lang/Integer;" (some 0) with kind := .array 30 (.object "java/lang/Integer"), interfaces := #[9, 10], accessFlags := 1041 }

/-- [Ljava/lang/Object; -/
def k44 : Class := { plain "[Ljava/lang/Object;" (some 0) with kind := .array 0 (.object "java/lang/Object"), interfaces := #[9, 10], accessFlags := 1041 }

/-- [Ljava/util/HashMap$Node; -/
def k45 : Class := { plain "[Ljava/util/HashMap$Node;" (some 0) with kind := .array 33 (.object "java/util/HashMap$Node"), interfaces := #[9, 10], accessFlags := 1041 }

def heap : Heap := #[{ cls := 11, slots := #[.long 0, .int 0, .ref 261, .ref 262], vm := .statics 11 },
  { cls := 27, slots := #[.long 0, .int 1, .null, .int 0, .null, .int 0, .int 0], vm := .statics 27 },
  { cls := 31, slots := #[.int 0, .int 127, .ref 4, .null, .int 0], vm := .statics 31 },
  { cls := 35, slots := #[.null, .null, .null], vm := .statics 35 },
  { cls := 43, slots := #[.ref 5, .ref 6, .ref 7, .ref 8, .ref 9, .ref 10, .ref 11, .ref 12, .ref 13, .ref 14, .ref 15, .ref 16, .ref 17, .ref 18, .ref 19, .ref 20, .ref 21, .ref 22, .ref 23, .ref 24, .ref 25, .ref 26, .ref 27, .ref 28, .ref 29, .ref 30, .ref 31, .ref 32, .ref 33, .ref 34, .ref 35, .ref 36, .ref 37, .ref 38, .ref 39, .ref 40, .ref 41, .ref 42, .ref 43, .ref 44, .ref 45, .ref 46, .ref 47, .ref 48, .ref 49, .ref 50, .ref 51, .ref 52, .ref 53, .ref 54, .ref 55, .ref 56, .ref 57, .ref 58, .ref 59, .ref 60, .ref 61, .ref 62, .ref 63, .ref 64, .ref 65, .ref 66, .ref 67, .ref 68, .ref 69, .ref 70, .ref 71, .ref 72, .ref 73, .ref 74, .ref 75, .ref 76, .ref 77, .ref 78, .ref 79, .ref 80, .ref 81, .ref 82, .ref 83, .ref 84, .ref 85, .ref 86, .ref 87, .ref 88, .ref 89, .ref 90, .ref 91, .ref 92, .ref 93, .ref 94, .ref 95, .ref 96, .ref 97, .ref 98, .ref 99, .ref 100, .ref 101, .ref 102, .ref 103, .ref 104, .ref 105, .ref 106, .ref 107, .ref 108, .ref 109, .ref 110, .ref 111, .ref 112, .ref 113, .ref 114, .ref 115, .ref 116, .ref 117, .ref 118, .ref 119, .ref 120, .ref 121, .ref 122, .ref 123, .ref 124, .ref 125, .ref 126, .ref 127, .ref 128, .ref 129, .ref 130, .ref 131, .ref 132, .ref 133, .ref 134, .ref 135, .ref 136, .ref 137, .ref 138, .ref 139, .ref 140, .ref 141, .ref 142, .ref 143, .ref 144, .ref 145, .ref 146, .ref 147, .ref 148, .ref 149, .ref 150, .ref 151, .ref 152, .ref 153, .ref 154, .ref 155, .ref 156, .ref 157, .ref 158, .ref 159, .ref 160, .ref 161, .ref 162, .ref 163, .ref 164, .ref 165, .ref 166, .ref 167, .ref 168, .ref 169, .ref 170, .ref 171, .ref 172, .ref 173, .ref 174, .ref 175, .ref 176, .ref 177, .ref 178, .ref 179, .ref 180, .ref 181, .ref 182, .ref 183, .ref 184, .ref 185, .ref 186, .ref 187, .ref 188, .ref 189, .ref 190, .ref 191, .ref 192, .ref 193, .ref 194, .ref 195, .ref 196, .ref 197, .ref 198, .ref 199, .ref 200, .ref 201, .ref 202, .ref 203, .ref 204, .ref 205, .ref 206, .ref 207, .ref 208, .ref 209, .ref 210, .ref 211, .ref 212, .ref 213, .ref 214, .ref 215, .ref 216, .ref 217, .ref 218, .ref 219, .ref 220, .ref 221, .ref 222, .ref 223, .ref 224, .ref 225, .ref 226, .ref 227, .ref 228, .ref 229, .ref 230, .ref 231, .ref 232, .ref 233, .ref 234, .ref 235, .ref 236, .ref 237, .ref 238, .ref 239, .ref 240, .ref 241, .ref 242, .ref 243, .ref 244, .ref 245, .ref 246, .ref 247, .ref 248, .ref 249, .ref 250, .ref 251, .ref 252, .ref 253, .ref 254, .ref 255, .ref 256, .ref 257, .ref 258, .ref 259, .ref 260], vm := .none },
  { cls := 30, slots := #[.int (-128)], vm := .none },
  { cls := 30, slots := #[.int (-127)], vm := .none },
  { cls := 30, slots := #[.int (-126)], vm := .none },
  { cls := 30, slots := #[.int (-125)], vm := .none },
  { cls := 30, slots := #[.int (-124)], vm := .none },
  { cls := 30, slots := #[.int (-123)], vm := .none },
  { cls := 30, slots := #[.int (-122)], vm := .none },
  { cls := 30, slots := #[.int (-121)], vm := .none },
  { cls := 30, slots := #[.int (-120)], vm := .none },
  { cls := 30, slots := #[.int (-119)], vm := .none },
  { cls := 30, slots := #[.int (-118)], vm := .none },
  { cls := 30, slots := #[.int (-117)], vm := .none },
  { cls := 30, slots := #[.int (-116)], vm := .none },
  { cls := 30, slots := #[.int (-115)], vm := .none },
  { cls := 30, slots := #[.int (-114)], vm := .none },
  { cls := 30, slots := #[.int (-113)], vm := .none },
  { cls := 30, slots := #[.int (-112)], vm := .none },
  { cls := 30, slots := #[.int (-111)], vm := .none },
  { cls := 30, slots := #[.int (-110)], vm := .none },
  { cls := 30, slots := #[.int (-109)], vm := .none },
  { cls := 30, slots := #[.int (-108)], vm := .none },
  { cls := 30, slots := #[.int (-107)], vm := .none },
  { cls := 30, slots := #[.int (-106)], vm := .none },
  { cls := 30, slots := #[.int (-105)], vm := .none },
  { cls := 30, slots := #[.int (-104)], vm := .none },
  { cls := 30, slots := #[.int (-103)], vm := .none },
  { cls := 30, slots := #[.int (-102)], vm := .none },
  { cls := 30, slots := #[.int (-101)], vm := .none },
  { cls := 30, slots := #[.int (-100)], vm := .none },
  { cls := 30, slots := #[.int (-99)], vm := .none },
  { cls := 30, slots := #[.int (-98)], vm := .none },
  { cls := 30, slots := #[.int (-97)], vm := .none },
  { cls := 30, slots := #[.int (-96)], vm := .none },
  { cls := 30, slots := #[.int (-95)], vm := .none },
  { cls := 30, slots := #[.int (-94)], vm := .none },
  { cls := 30, slots := #[.int (-93)], vm := .none },
  { cls := 30, slots := #[.int (-92)], vm := .none },
  { cls := 30, slots := #[.int (-91)], vm := .none },
  { cls := 30, slots := #[.int (-90)], vm := .none },
  { cls := 30, slots := #[.int (-89)], vm := .none },
  { cls := 30, slots := #[.int (-88)], vm := .none },
  { cls := 30, slots := #[.int (-87)], vm := .none },
  { cls := 30, slots := #[.int (-86)], vm := .none },
  { cls := 30, slots := #[.int (-85)], vm := .none },
  { cls := 30, slots := #[.int (-84)], vm := .none },
  { cls := 30, slots := #[.int (-83)], vm := .none },
  { cls := 30, slots := #[.int (-82)], vm := .none },
  { cls := 30, slots := #[.int (-81)], vm := .none },
  { cls := 30, slots := #[.int (-80)], vm := .none },
  { cls := 30, slots := #[.int (-79)], vm := .none },
  { cls := 30, slots := #[.int (-78)], vm := .none },
  { cls := 30, slots := #[.int (-77)], vm := .none },
  { cls := 30, slots := #[.int (-76)], vm := .none },
  { cls := 30, slots := #[.int (-75)], vm := .none },
  { cls := 30, slots := #[.int (-74)], vm := .none },
  { cls := 30, slots := #[.int (-73)], vm := .none },
  { cls := 30, slots := #[.int (-72)], vm := .none },
  { cls := 30, slots := #[.int (-71)], vm := .none },
  { cls := 30, slots := #[.int (-70)], vm := .none },
  { cls := 30, slots := #[.int (-69)], vm := .none },
  { cls := 30, slots := #[.int (-68)], vm := .none },
  { cls := 30, slots := #[.int (-67)], vm := .none },
  { cls := 30, slots := #[.int (-66)], vm := .none },
  { cls := 30, slots := #[.int (-65)], vm := .none },
  { cls := 30, slots := #[.int (-64)], vm := .none },
  { cls := 30, slots := #[.int (-63)], vm := .none },
  { cls := 30, slots := #[.int (-62)], vm := .none },
  { cls := 30, slots := #[.int (-61)], vm := .none },
  { cls := 30, slots := #[.int (-60)], vm := .none },
  { cls := 30, slots := #[.int (-59)], vm := .none },
  { cls := 30, slots := #[.int (-58)], vm := .none },
  { cls := 30, slots := #[.int (-57)], vm := .none },
  { cls := 30, slots := #[.int (-56)], vm := .none },
  { cls := 30, slots := #[.int (-55)], vm := .none },
  { cls := 30, slots := #[.int (-54)], vm := .none },
  { cls := 30, slots := #[.int (-53)], vm := .none },
  { cls := 30, slots := #[.int (-52)], vm := .none },
  { cls := 30, slots := #[.int (-51)], vm := .none },
  { cls := 30, slots := #[.int (-50)], vm := .none },
  { cls := 30, slots := #[.int (-49)], vm := .none },
  { cls := 30, slots := #[.int (-48)], vm := .none },
  { cls := 30, slots := #[.int (-47)], vm := .none },
  { cls := 30, slots := #[.int (-46)], vm := .none },
  { cls := 30, slots := #[.int (-45)], vm := .none },
  { cls := 30, slots := #[.int (-44)], vm := .none },
  { cls := 30, slots := #[.int (-43)], vm := .none },
  { cls := 30, slots := #[.int (-42)], vm := .none },
  { cls := 30, slots := #[.int (-41)], vm := .none },
  { cls := 30, slots := #[.int (-40)], vm := .none },
  { cls := 30, slots := #[.int (-39)], vm := .none },
  { cls := 30, slots := #[.int (-38)], vm := .none },
  { cls := 30, slots := #[.int (-37)], vm := .none },
  { cls := 30, slots := #[.int (-36)], vm := .none },
  { cls := 30, slots := #[.int (-35)], vm := .none },
  { cls := 30, slots := #[.int (-34)], vm := .none },
  { cls := 30, slots := #[.int (-33)], vm := .none },
  { cls := 30, slots := #[.int (-32)], vm := .none },
  { cls := 30, slots := #[.int (-31)], vm := .none },
  { cls := 30, slots := #[.int (-30)], vm := .none },
  { cls := 30, slots := #[.int (-29)], vm := .none },
  { cls := 30, slots := #[.int (-28)], vm := .none },
  { cls := 30, slots := #[.int (-27)], vm := .none },
  { cls := 30, slots := #[.int (-26)], vm := .none },
  { cls := 30, slots := #[.int (-25)], vm := .none },
  { cls := 30, slots := #[.int (-24)], vm := .none },
  { cls := 30, slots := #[.int (-23)], vm := .none },
  { cls := 30, slots := #[.int (-22)], vm := .none },
  { cls := 30, slots := #[.int (-21)], vm := .none },
  { cls := 30, slots := #[.int (-20)], vm := .none },
  { cls := 30, slots := #[.int (-19)], vm := .none },
  { cls := 30, slots := #[.int (-18)], vm := .none },
  { cls := 30, slots := #[.int (-17)], vm := .none },
  { cls := 30, slots := #[.int (-16)], vm := .none },
  { cls := 30, slots := #[.int (-15)], vm := .none },
  { cls := 30, slots := #[.int (-14)], vm := .none },
  { cls := 30, slots := #[.int (-13)], vm := .none },
  { cls := 30, slots := #[.int (-12)], vm := .none },
  { cls := 30, slots := #[.int (-11)], vm := .none },
  { cls := 30, slots := #[.int (-10)], vm := .none },
  { cls := 30, slots := #[.int (-9)], vm := .none },
  { cls := 30, slots := #[.int (-8)], vm := .none },
  { cls := 30, slots := #[.int (-7)], vm := .none },
  { cls := 30, slots := #[.int (-6)], vm := .none },
  { cls := 30, slots := #[.int (-5)], vm := .none },
  { cls := 30, slots := #[.int (-4)], vm := .none },
  { cls := 30, slots := #[.int (-3)], vm := .none },
  { cls := 30, slots := #[.int (-2)], vm := .none },
  { cls := 30, slots := #[.int (-1)], vm := .none },
  { cls := 30, slots := #[.int (0)], vm := .none },
  { cls := 30, slots := #[.int (1)], vm := .none },
  { cls := 30, slots := #[.int (2)], vm := .none },
  { cls := 30, slots := #[.int (3)], vm := .none },
  { cls := 30, slots := #[.int (4)], vm := .none },
  { cls := 30, slots := #[.int (5)], vm := .none },
  { cls := 30, slots := #[.int (6)], vm := .none },
  { cls := 30, slots := #[.int (7)], vm := .none },
  { cls := 30, slots := #[.int (8)], vm := .none },
  { cls := 30, slots := #[.int (9)], vm := .none },
  { cls := 30, slots := #[.int (10)], vm := .none },
  { cls := 30, slots := #[.int (11)], vm := .none },
  { cls := 30, slots := #[.int (12)], vm := .none },
  { cls := 30, slots := #[.int (13)], vm := .none },
  { cls := 30, slots := #[.int (14)], vm := .none },
  { cls := 30, slots := #[.int (15)], vm := .none },
  { cls := 30, slots := #[.int (16)], vm := .none },
  { cls := 30, slots := #[.int (17)], vm := .none },
  { cls := 30, slots := #[.int (18)], vm := .none },
  { cls := 30, slots := #[.int (19)], vm := .none },
  { cls := 30, slots := #[.int (20)], vm := .none },
  { cls := 30, slots := #[.int (21)], vm := .none },
  { cls := 30, slots := #[.int (22)], vm := .none },
  { cls := 30, slots := #[.int (23)], vm := .none },
  { cls := 30, slots := #[.int (24)], vm := .none },
  { cls := 30, slots := #[.int (25)], vm := .none },
  { cls := 30, slots := #[.int (26)], vm := .none },
  { cls := 30, slots := #[.int (27)], vm := .none },
  { cls := 30, slots := #[.int (28)], vm := .none },
  { cls := 30, slots := #[.int (29)], vm := .none },
  { cls := 30, slots := #[.int (30)], vm := .none },
  { cls := 30, slots := #[.int (31)], vm := .none },
  { cls := 30, slots := #[.int (32)], vm := .none },
  { cls := 30, slots := #[.int (33)], vm := .none },
  { cls := 30, slots := #[.int (34)], vm := .none },
  { cls := 30, slots := #[.int (35)], vm := .none },
  { cls := 30, slots := #[.int (36)], vm := .none },
  { cls := 30, slots := #[.int (37)], vm := .none },
  { cls := 30, slots := #[.int (38)], vm := .none },
  { cls := 30, slots := #[.int (39)], vm := .none },
  { cls := 30, slots := #[.int (40)], vm := .none },
  { cls := 30, slots := #[.int (41)], vm := .none },
  { cls := 30, slots := #[.int (42)], vm := .none },
  { cls := 30, slots := #[.int (43)], vm := .none },
  { cls := 30, slots := #[.int (44)], vm := .none },
  { cls := 30, slots := #[.int (45)], vm := .none },
  { cls := 30, slots := #[.int (46)], vm := .none },
  { cls := 30, slots := #[.int (47)], vm := .none },
  { cls := 30, slots := #[.int (48)], vm := .none },
  { cls := 30, slots := #[.int (49)], vm := .none },
  { cls := 30, slots := #[.int (50)], vm := .none },
  { cls := 30, slots := #[.int (51)], vm := .none },
  { cls := 30, slots := #[.int (52)], vm := .none },
  { cls := 30, slots := #[.int (53)], vm := .none },
  { cls := 30, slots := #[.int (54)], vm := .none },
  { cls := 30, slots := #[.int (55)], vm := .none },
  { cls := 30, slots := #[.int (56)], vm := .none },
  { cls := 30, slots := #[.int (57)], vm := .none },
  { cls := 30, slots := #[.int (58)], vm := .none },
  { cls := 30, slots := #[.int (59)], vm := .none },
  { cls := 30, slots := #[.int (60)], vm := .none },
  { cls := 30, slots := #[.int (61)], vm := .none },
  { cls := 30, slots := #[.int (62)], vm := .none },
  { cls := 30, slots := #[.int (63)], vm := .none },
  { cls := 30, slots := #[.int (64)], vm := .none },
  { cls := 30, slots := #[.int (65)], vm := .none },
  { cls := 30, slots := #[.int (66)], vm := .none },
  { cls := 30, slots := #[.int (67)], vm := .none },
  { cls := 30, slots := #[.int (68)], vm := .none },
  { cls := 30, slots := #[.int (69)], vm := .none },
  { cls := 30, slots := #[.int (70)], vm := .none },
  { cls := 30, slots := #[.int (71)], vm := .none },
  { cls := 30, slots := #[.int (72)], vm := .none },
  { cls := 30, slots := #[.int (73)], vm := .none },
  { cls := 30, slots := #[.int (74)], vm := .none },
  { cls := 30, slots := #[.int (75)], vm := .none },
  { cls := 30, slots := #[.int (76)], vm := .none },
  { cls := 30, slots := #[.int (77)], vm := .none },
  { cls := 30, slots := #[.int (78)], vm := .none },
  { cls := 30, slots := #[.int (79)], vm := .none },
  { cls := 30, slots := #[.int (80)], vm := .none },
  { cls := 30, slots := #[.int (81)], vm := .none },
  { cls := 30, slots := #[.int (82)], vm := .none },
  { cls := 30, slots := #[.int (83)], vm := .none },
  { cls := 30, slots := #[.int (84)], vm := .none },
  { cls := 30, slots := #[.int (85)], vm := .none },
  { cls := 30, slots := #[.int (86)], vm := .none },
  { cls := 30, slots := #[.int (87)], vm := .none },
  { cls := 30, slots := #[.int (88)], vm := .none },
  { cls := 30, slots := #[.int (89)], vm := .none },
  { cls := 30, slots := #[.int (90)], vm := .none },
  { cls := 30, slots := #[.int (91)], vm := .none },
  { cls := 30, slots := #[.int (92)], vm := .none },
  { cls := 30, slots := #[.int (93)], vm := .none },
  { cls := 30, slots := #[.int (94)], vm := .none },
  { cls := 30, slots := #[.int (95)], vm := .none },
  { cls := 30, slots := #[.int (96)], vm := .none },
  { cls := 30, slots := #[.int (97)], vm := .none },
  { cls := 30, slots := #[.int (98)], vm := .none },
  { cls := 30, slots := #[.int (99)], vm := .none },
  { cls := 30, slots := #[.int (100)], vm := .none },
  { cls := 30, slots := #[.int (101)], vm := .none },
  { cls := 30, slots := #[.int (102)], vm := .none },
  { cls := 30, slots := #[.int (103)], vm := .none },
  { cls := 30, slots := #[.int (104)], vm := .none },
  { cls := 30, slots := #[.int (105)], vm := .none },
  { cls := 30, slots := #[.int (106)], vm := .none },
  { cls := 30, slots := #[.int (107)], vm := .none },
  { cls := 30, slots := #[.int (108)], vm := .none },
  { cls := 30, slots := #[.int (109)], vm := .none },
  { cls := 30, slots := #[.int (110)], vm := .none },
  { cls := 30, slots := #[.int (111)], vm := .none },
  { cls := 30, slots := #[.int (112)], vm := .none },
  { cls := 30, slots := #[.int (113)], vm := .none },
  { cls := 30, slots := #[.int (114)], vm := .none },
  { cls := 30, slots := #[.int (115)], vm := .none },
  { cls := 30, slots := #[.int (116)], vm := .none },
  { cls := 30, slots := #[.int (117)], vm := .none },
  { cls := 30, slots := #[.int (118)], vm := .none },
  { cls := 30, slots := #[.int (119)], vm := .none },
  { cls := 30, slots := #[.int (120)], vm := .none },
  { cls := 30, slots := #[.int (121)], vm := .none },
  { cls := 30, slots := #[.int (122)], vm := .none },
  { cls := 30, slots := #[.int (123)], vm := .none },
  { cls := 30, slots := #[.int (124)], vm := .none },
  { cls := 30, slots := #[.int (125)], vm := .none },
  { cls := 30, slots := #[.int (126)], vm := .none },
  { cls := 30, slots := #[.int (127)], vm := .none },
  { cls := 44, slots := #[], vm := .none },
  { cls := 44, slots := #[], vm := .none }]
def classes : Array Class := #[k0, k1, k2, k3, k4, k5, k6, k7, k8, k9, k10, k11, k12, k13, k14, k15, k16, k17, k18, k19, k20, k21, k22, k23, k24, k25, k26, k27, k28, k29, k30, k31, k32, k33, k34, k35, k36, k37, k38, k39, k40, k41, k42, k43, k44, k45]
def interned : List (Array UInt16 × Addr) := []
def slotsUsed : Nat := 531
def theMethod : MethodId := ⟨1, 1⟩
def args0 : Array Value := #[.int 7, .int 1, .int 2, .int 0, .int 3]
def aboutOver (below : List Frame) : State where
  vm := { classes := classes, interned := interned.toArray }
  heap := heap
  slotsUsed := slotsUsed
  threads := #[{ frames := .invoking theMethod args0 :: below }]
def below0 : List Frame := [.native { method := ⟨0, 0⟩, args := #[] }]
def about1 : State := aboutOver below0
def p0 : Program := .bare "" "" ""
def e0 : Env := launch0.env 0 0 0
theorem w_frames : about1.frames = Frame.invoking theMethod args0 :: below0 := rfl
set_option maxRecDepth 65536 in
theorem w_args : argsFit about1.vm theMethod args0 = true := by decide +kernel
set_option maxRecDepth 65536 in
theorem w_heap : heapFits about1 = true := by decide +kernel
set_option maxRecDepth 65536 in
theorem w_runnable : about1.curStatus? = some .runnable := by decide +kernel
set_option maxRecDepth 65536 in
theorem w_alone : about1.alone = true := by decide +kernel
set_option maxRecDepth 65536 in
theorem w_named : about1.methodNamed? x = some theMethod := by decide +kernel
set_option maxRecDepth 65536 in
theorem w_hears : about1.hears theMethod below0 = true := by decide +kernel
set_option maxRecDepth 65536 in
theorem w_ripe : about1.ripe theMethod args0 below0 = true := by decide +kernel
theorem w_running : about1.status = .running := rfl
set_option maxRecDepth 65536 in
theorem w_room : about1.hasRoom e0.platform room_1 = true :=
  launch0.hasRoom_least _ room_1 (by decide +kernel) (by decide +kernel) (by decide +kernel) (by decide +kernel) (by decide +kernel) (by decide +kernel)
theorem allAtoms_all (ts : List Jvm.Cond) (a : Array Jvm.Value) (st : Jvm.State) : (allAtoms ts).before a st = ts.all (fun c => c.before a st) := by
  induction ts with
  | nil => rfl
  | cons c t ih =>
    show (Jvm.Cond.and c (allAtoms t)).before a st = _
    rw [Jvm.Cond.before_and, ih, List.all_cons]
def words1 : List Jvm.Cond := Jvm.Cond.code x code maxLocals ret :: tables_1
/-- a 'code' word, met by the world's own term for the bytes: nothing is compared byte by byte -/
theorem code_word {y : MethodName} {bytes : ByteArray} {mx : Nat} {rt : Option FieldType} {a : Array Value} {s : State} {m : MethodId} {meth : Method} {c : Code} (h1 : s.methodNamed? y = some m) (h2 : s.vm.method? m = some meth) (h3 : meth.code = some c) (h4 : c.code = bytes)
    (h5 : (c.maxLocals == mx && c.exceptionTable.isEmpty && decide (c.maxStack ≤ mostOperands) && decide (meth.sig.returnType = rt) && !meth.locks && decide (parseMethodDescriptor y.desc = some meth.sig)) = true) : (Jvm.Cond.code y bytes mx rt).before a s = true := by
  simp only [Bool.and_eq_true, beq_iff_eq, Bool.not_eq_true', decide_eq_true_eq] at h5
  obtain ⟨⟨⟨⟨⟨g1, g2⟩, g3⟩, g4⟩, g5⟩, g6⟩ := h5
  simp [Cond.before, Cond.holds, Cond.value, h1, h2, h3, h4, g1, g2, g3, g4, g5, g6]
def isCode : Jvm.Cond → Bool
  | .code _ _ _ _ => true
  | _ => false
theorem all_split {L : List Jvm.Cond} {P : Jvm.Cond → Bool} (h1 : L.all (fun c => isCode c || P c) = true) (h2 : ∀ c ∈ L.filter isCode, P c = true) : L.all P = true := by
  refine List.all_eq_true.mpr fun c hc => ?_
  have h := List.all_eq_true.mp h1 c hc
  rcases Bool.eq_false_or_eq_true (isCode c) with hi | hi
  · exact h2 c (List.mem_filter.mpr ⟨hc, hi⟩)
  · simpa [hi] using h
set_option maxRecDepth 65536 in
theorem w_c0 : (Jvm.Cond.code x code maxLocals ret).before args0 about1 = true := code_word (m := ⟨1, 1⟩) (meth := k1m1) (c := k1c1) (by decide +kernel) rfl rfl rfl (by decide +kernel)
set_option maxRecDepth 65536 in
theorem w_c1 : (Jvm.Cond.code ({ cls := "java/util/ArrayList", name := "<init>", desc := "()V" } : Jvm.MethodName) jdk_38_method_2_code (1 : Nat) (Option.none : Option Jvm.ClassFile.FieldType)).before args0 about1 = true := code_word (m := ⟨11, 0⟩) (meth := k11m0) (c := k11c0) (by decide +kernel) rfl rfl rfl (by decide +kernel)
set_option maxRecDepth 65536 in
theorem w_c2 : (Jvm.Cond.code ({ cls := "java/util/AbstractList", name := "<init>", desc := "()V" } : Jvm.MethodName) jdk_39_method_1_code (1 : Nat) (Option.none : Option Jvm.ClassFile.FieldType)).before args0 about1 = true := code_word (m := ⟨7, 0⟩) (meth := k7m0) (c := k7c0) (by decide +kernel) rfl rfl rfl (by decide +kernel)
set_option maxRecDepth 65536 in
theorem w_c3 : (Jvm.Cond.code ({ cls := "java/util/AbstractCollection", name := "<init>", desc := "()V" } : Jvm.MethodName) jdk_22_method_1_code (1 : Nat) (Option.none : Option Jvm.ClassFile.FieldType)).before args0 about1 = true := code_word (m := ⟨4, 0⟩) (meth := k4m0) (c := k4c0) (by decide +kernel) rfl rfl rfl (by decide +kernel)
set_option maxRecDepth 65536 in
theorem w_c4 : (Jvm.Cond.code ({ cls := "java/lang/Object", name := "<init>", desc := "()V" } : Jvm.MethodName) object_method_1_code (1 : Nat) (Option.none : Option Jvm.ClassFile.FieldType)).before args0 about1 = true := code_word (m := ⟨0, 0⟩) (meth := k0m0) (c := k0c0) (by decide +kernel) rfl rfl rfl (by decide +kernel)
set_option maxRecDepth 65536 in
theorem w_c5 : (Jvm.Cond.code ({ cls := "java/util/HashMap", name := "<init>", desc := "()V" } : Jvm.MethodName) jdk_69_method_7_code (1 : Nat) (Option.none : Option Jvm.ClassFile.FieldType)).before args0 about1 = true := code_word (m := ⟨14, 1⟩) (meth := k14m1) (c := k14c1) (by decide +kernel) rfl rfl rfl (by decide +kernel)
set_option maxRecDepth 65536 in
theorem w_c6 : (Jvm.Cond.code ({ cls := "java/util/AbstractMap", name := "<init>", desc := "()V" } : Jvm.MethodName) jdk_71_method_1_code (1 : Nat) (Option.none : Option Jvm.ClassFile.FieldType)).before args0 about1 = true := code_word (m := ⟨13, 0⟩) (meth := k13m0) (c := k13c0) (by decide +kernel) rfl rfl rfl (by decide +kernel)
set_option maxRecDepth 65536 in
theorem w_c7 : (Jvm.Cond.code ({ cls := "com/example/dolm/dolm/eval/JudgedRanking", name := "<init>", desc := "(Ljava/util/List;Ljava/util/Map;)V" } : Jvm.MethodName) prog_9_method_1_code (8 : Nat) (Option.none : Option Jvm.ClassFile.FieldType)).before args0 about1 = true := code_word (m := ⟨15, 0⟩) (meth := k15m0) (c := k15c0) (by decide +kernel) rfl rfl rfl (by decide +kernel)
set_option maxRecDepth 65536 in
theorem w_c8 : (Jvm.Cond.code ({ cls := "java/util/ArrayList", name := "size", desc := "()I" } : Jvm.MethodName) jdk_38_method_8_code (1 : Nat) (Option.some Jvm.ClassFile.FieldType.int)).before args0 about1 = true := code_word (m := ⟨11, 1⟩) (meth := k11m1) (c := k11c1) (by decide +kernel) rfl rfl rfl (by decide +kernel)
set_option maxRecDepth 65536 in
theorem w_c9 : (Jvm.Cond.code ({ cls := "java/util/HashMap", name := "size", desc := "()I" } : Jvm.MethodName) jdk_69_method_10_code (1 : Nat) (Option.some Jvm.ClassFile.FieldType.int)).before args0 about1 = true := code_word (m := ⟨14, 2⟩) (meth := k14m2) (c := k14c2) (by decide +kernel) rfl rfl rfl (by decide +kernel)
set_option maxRecDepth 65536 in
theorem w_c10 : (Jvm.Cond.code ({ cls := "java/util/HashMap", name := "values", desc := "()Ljava/util/Collection;" } : Jvm.MethodName) jdk_69_method_28_code (2 : Nat) (Option.some (Jvm.ClassFile.FieldType.object "java/util/Collection"))).before args0 about1 = true := code_word (m := ⟨14, 6⟩) (meth := k14m6) (c := k14c6) (by decide +kernel) rfl rfl rfl (by decide +kernel)
set_option maxRecDepth 65536 in
theorem w_c11 : (Jvm.Cond.code ({ cls := "java/util/HashMap$Values", name := "<init>", desc := "(Ljava/util/HashMap;)V" } : Jvm.MethodName) jdk_2571_method_1_code (2 : Nat) (Option.none : Option Jvm.ClassFile.FieldType)).before args0 about1 = true := code_word (m := ⟨16, 0⟩) (meth := k16m0) (c := k16c0) (by decide +kernel) rfl rfl rfl (by decide +kernel)
set_option maxRecDepth 65536 in
theorem w_c12 : (Jvm.Cond.code ({ cls := "java/util/HashMap$Values", name := "iterator", desc := "()Ljava/util/Iterator;" } : Jvm.MethodName) jdk_2571_method_4_code (1 : Nat) (Option.some (Jvm.ClassFile.FieldType.object "java/util/Iterator"))).before args0 about1 = true := code_word (m := ⟨16, 1⟩) (meth := k16m1) (c := k16c1) (by decide +kernel) rfl rfl rfl (by decide +kernel)
set_option maxRecDepth 65536 in
theorem w_c13 : (Jvm.Cond.code ({ cls := "java/util/HashMap$ValueIterator", name := "<init>", desc := "(Ljava/util/HashMap;)V" } : Jvm.MethodName) jdk_2569_method_1_code (2 : Nat) (Option.none : Option Jvm.ClassFile.FieldType)).before args0 about1 = true := code_word (m := ⟨19, 0⟩) (meth := k19m0) (c := k19c0) (by decide +kernel) rfl rfl rfl (by decide +kernel)
set_option maxRecDepth 65536 in
theorem w_c14 : (Jvm.Cond.code ({ cls := "java/util/HashMap$HashIterator", name := "<init>", desc := "(Ljava/util/HashMap;)V" } : Jvm.MethodName) jdk_99_method_1_code (3 : Nat) (Option.none : Option Jvm.ClassFile.FieldType)).before args0 about1 = true := code_word (m := ⟨17, 0⟩) (meth := k17m0) (c := k17c0) (by decide +kernel) rfl rfl rfl (by decide +kernel)
set_option maxRecDepth 65536 in
theorem w_c15 : (Jvm.Cond.code ({ cls := "java/util/HashMap$HashIterator", name := "hasNext", desc := "()Z" } : Jvm.MethodName) jdk_99_method_2_code (1 : Nat) (Option.some Jvm.ClassFile.FieldType.boolean)).before args0 about1 = true := code_word (m := ⟨17, 1⟩) (meth := k17m1) (c := k17c1) (by decide +kernel) rfl rfl rfl (by decide +kernel)
set_option maxRecDepth 65536 in
theorem w_c16 : (Jvm.Cond.code ({ cls := "java/util/Arrays", name := "copyOf", desc := "([II)[I" } : Jvm.MethodName) jdk_65_method_123_code (3 : Nat) (Option.some (Jvm.ClassFile.FieldType.array Jvm.ClassFile.FieldType.int))).before args0 about1 = true := code_word (m := ⟨20, 2⟩) (meth := k20m2) (c := k20c2) (by decide +kernel) rfl rfl rfl (by decide +kernel)
set_option maxRecDepth 65536 in
theorem w_c17 : (Jvm.Cond.code ({ cls := "java/util/Arrays", name := "sort", desc := "([I)V" } : Jvm.MethodName) jdk_65_method_2_code (1 : Nat) (Option.none : Option Jvm.ClassFile.FieldType)).before args0 about1 = true := code_word (m := ⟨20, 1⟩) (meth := k20m1) (c := k20c1) (by decide +kernel) rfl rfl rfl (by decide +kernel)
set_option maxRecDepth 65536 in
theorem w_c18 : (Jvm.Cond.code ({ cls := "java/util/DualPivotQuicksort", name := "sort", desc := "([IIII)V" } : Jvm.MethodName) jdk_2529_method_3_code (7 : Nat) (Option.none : Option Jvm.ClassFile.FieldType)).before args0 about1 = true := code_word (m := ⟨21, 1⟩) (meth := k21m1) (c := k21c1) (by decide +kernel) rfl rfl rfl (by decide +kernel)
set_option maxRecDepth 65536 in
theorem w_c19 : (Jvm.Cond.code ({ cls := "java/util/DualPivotQuicksort", name := "sort", desc := "(Ljava/util/DualPivotQuicksort$Sorter;[IIII)V" } : Jvm.MethodName) jdk_2529_method_4_code (21 : Nat) (Option.none : Option Jvm.ClassFile.FieldType)).before args0 about1 = true := code_word (m := ⟨21, 2⟩) (meth := k21m2) (c := k21c2) (by decide +kernel) rfl rfl rfl (by decide +kernel)
set_option maxRecDepth 65536 in
theorem w_c20 : (Jvm.Cond.code ({ cls := "java/util/DualPivotQuicksort", name := "insertionSort", desc := "([III)V" } : Jvm.MethodName) jdk_2529_method_6_code (6 : Nat) (Option.none : Option Jvm.ClassFile.FieldType)).before args0 about1 = true := code_word (m := ⟨21, 3⟩) (meth := k21m3) (c := k21c3) (by decide +kernel) rfl rfl rfl (by decide +kernel)
set_option maxRecDepth 65536 in
theorem w_c21 : (Jvm.Cond.code ({ cls := "java/lang/Math", name := "max", desc := "(II)I" } : Jvm.MethodName) jdk_29_method_65_code (2 : Nat) (Option.some Jvm.ClassFile.FieldType.int)).before args0 about1 = true := code_word (m := ⟨22, 1⟩) (meth := k22m1) (c := k22c1) (by decide +kernel) rfl rfl rfl (by decide +kernel)
set_option maxRecDepth 65536 in
theorem w_c22 : (Jvm.Cond.code ({ cls := "java/lang/Math", name := "min", desc := "(II)I" } : Jvm.MethodName) jdk_29_method_69_code (2 : Nat) (Option.some Jvm.ClassFile.FieldType.int)).before args0 about1 = true := code_word (m := ⟨22, 2⟩) (meth := k22m2) (c := k22c2) (by decide +kernel) rfl rfl rfl (by decide +kernel)
set_option maxRecDepth 65536 in
theorem w_c23 : (Jvm.Cond.code ({ cls := "com/example/dolm/dolm/eval/JudgedRanking", name := "idealGain", desc := "(I)I" } : Jvm.MethodName) prog_9_method_5_code (2 : Nat) (Option.some Jvm.ClassFile.FieldType.int)).before args0 about1 = true := code_word (m := ⟨15, 1⟩) (meth := k15m1) (c := k15c1) (by decide +kernel) rfl rfl rfl (by decide +kernel)
set_option maxRecDepth 65536 in
theorem w_c24 : (Jvm.Cond.code ({ cls := "java/lang/String", name := "valueOf", desc := "(C)Ljava/lang/String;" } : Jvm.MethodName) jdk_42_method_139_code (1 : Nat) (Option.some (Jvm.ClassFile.FieldType.object "java/lang/String"))).before args0 about1 = true := code_word (m := ⟨27, 2⟩) (meth := k27m2) (c := k27c2) (by decide +kernel) rfl rfl rfl (by decide +kernel)
set_option maxRecDepth 65536 in
theorem w_c25 : (Jvm.Cond.code ({ cls := "java/lang/StringLatin1", name := "canEncode", desc := "(C)Z" } : Jvm.MethodName) jdk_43_method_3_code (1 : Nat) (Option.some Jvm.ClassFile.FieldType.boolean)).before args0 about1 = true := code_word (m := ⟨28, 1⟩) (meth := k28m1) (c := k28c1) (by decide +kernel) rfl rfl rfl (by decide +kernel)
set_option maxRecDepth 65536 in
theorem w_c26 : (Jvm.Cond.code ({ cls := "java/lang/StringLatin1", name := "toBytes", desc := "(C)[B" } : Jvm.MethodName) jdk_43_method_46_code (1 : Nat) (Option.some (Jvm.ClassFile.FieldType.array Jvm.ClassFile.FieldType.byte))).before args0 about1 = true := code_word (m := ⟨28, 3⟩) (meth := k28m3) (c := k28c3) (by decide +kernel) rfl rfl rfl (by decide +kernel)
set_option maxRecDepth 65536 in
theorem w_c27 : (Jvm.Cond.code ({ cls := "java/lang/String", name := "<init>", desc := "([BB)V" } : Jvm.MethodName) jdk_42_method_151_code (3 : Nat) (Option.none : Option Jvm.ClassFile.FieldType)).before args0 about1 = true := code_word (m := ⟨27, 3⟩) (meth := k27m3) (c := k27c3) (by decide +kernel) rfl rfl rfl (by decide +kernel)
set_option maxRecDepth 65536 in
theorem w_c28 : (Jvm.Cond.code ({ cls := "java/lang/Integer", name := "valueOf", desc := "(I)Ljava/lang/Integer;" } : Jvm.MethodName) jdk_33_method_22_code (1 : Nat) (Option.some (Jvm.ClassFile.FieldType.object "java/lang/Integer"))).before args0 about1 = true := code_word (m := ⟨30, 0⟩) (meth := k30m0) (c := k30c0) (by decide +kernel) rfl rfl rfl (by decide +kernel)
set_option maxRecDepth 65536 in
theorem w_c29 : (Jvm.Cond.code ({ cls := "java/util/HashMap", name := "put", desc := "(Ljava/lang/Object;Ljava/lang/Object;)Ljava/lang/Object;" } : Jvm.MethodName) jdk_69_method_15_code (3 : Nat) (Option.some (Jvm.ClassFile.FieldType.object "java/lang/Object"))).before args0 about1 = true := code_word (m := ⟨14, 3⟩) (meth := k14m3) (c := k14c3) (by decide +kernel) rfl rfl rfl (by decide +kernel)
set_option maxRecDepth 65536 in
theorem w_c30 : (Jvm.Cond.code ({ cls := "java/util/HashMap", name := "hash", desc := "(Ljava/lang/Object;)I" } : Jvm.MethodName) jdk_69_method_1_code (2 : Nat) (Option.some Jvm.ClassFile.FieldType.int)).before args0 about1 = true := code_word (m := ⟨14, 0⟩) (meth := k14m0) (c := k14c0) (by decide +kernel) rfl rfl rfl (by decide +kernel)
set_option maxRecDepth 65536 in
theorem w_c31 : (Jvm.Cond.code ({ cls := "java/lang/String", name := "hashCode", desc := "()I" } : Jvm.MethodName) jdk_42_method_78_code (2 : Nat) (Option.some Jvm.ClassFile.FieldType.int)).before args0 about1 = true := code_word (m := ⟨27, 1⟩) (meth := k27m1) (c := k27c1) (by decide +kernel) rfl rfl rfl (by decide +kernel)
set_option maxRecDepth 65536 in
theorem w_c32 : (Jvm.Cond.code ({ cls := "java/lang/String", name := "isLatin1", desc := "()Z" } : Jvm.MethodName) jdk_42_method_154_code (1 : Nat) (Option.some Jvm.ClassFile.FieldType.boolean)).before args0 about1 = true := code_word (m := ⟨27, 4⟩) (meth := k27m4) (c := k27c4) (by decide +kernel) rfl rfl rfl (by decide +kernel)
set_option maxRecDepth 65536 in
theorem w_c33 : (Jvm.Cond.code ({ cls := "java/lang/StringLatin1", name := "hashCode", desc := "([B)I" } : Jvm.MethodName) jdk_43_method_21_code (1 : Nat) (Option.some Jvm.ClassFile.FieldType.int)).before args0 about1 = true := code_word (m := ⟨28, 2⟩) (meth := k28m2) (c := k28c2) (by decide +kernel) rfl rfl rfl (by decide +kernel)
set_option maxRecDepth 65536 in
theorem w_c34 : (Jvm.Cond.code ({ cls := "java/util/HashMap", name := "putVal", desc := "(ILjava/lang/Object;Ljava/lang/Object;ZZ)Ljava/lang/Object;" } : Jvm.MethodName) jdk_69_method_16_code (13 : Nat) (Option.some (Jvm.ClassFile.FieldType.object "java/lang/Object"))).before args0 about1 = true := code_word (m := ⟨14, 4⟩) (meth := k14m4) (c := k14c4) (by decide +kernel) rfl rfl rfl (by decide +kernel)
set_option maxRecDepth 65536 in
theorem w_c35 : (Jvm.Cond.code ({ cls := "java/util/HashMap", name := "resize", desc := "()[Ljava/util/HashMap$Node;" } : Jvm.MethodName) jdk_69_method_17_code (14 : Nat) (Option.some (Jvm.ClassFile.FieldType.array (Jvm.ClassFile.FieldType.object "java/util/HashMap$Node")))).before args0 about1 = true := code_word (m := ⟨14, 5⟩) (meth := k14m5) (c := k14c5) (by decide +kernel) rfl rfl rfl (by decide +kernel)
set_option maxRecDepth 65536 in
theorem w_c36 : (Jvm.Cond.code ({ cls := "java/util/HashMap", name := "newNode", desc := "(ILjava/lang/Object;Ljava/lang/Object;Ljava/util/HashMap$Node;)Ljava/util/HashMap$Node;" } : Jvm.MethodName) jdk_69_method_46_code (5 : Nat) (Option.some (Jvm.ClassFile.FieldType.object "java/util/HashMap$Node"))).before args0 about1 = true := code_word (m := ⟨14, 7⟩) (meth := k14m7) (c := k14c7) (by decide +kernel) rfl rfl rfl (by decide +kernel)
set_option maxRecDepth 65536 in
theorem w_c37 : (Jvm.Cond.code ({ cls := "java/util/HashMap$Node", name := "<init>", desc := "(ILjava/lang/Object;Ljava/lang/Object;Ljava/util/HashMap$Node;)V" } : Jvm.MethodName) jdk_70_method_1_code (5 : Nat) (Option.none : Option Jvm.ClassFile.FieldType)).before args0 about1 = true := code_word (m := ⟨33, 0⟩) (meth := k33m0) (c := k33c0) (by decide +kernel) rfl rfl rfl (by decide +kernel)
set_option maxRecDepth 65536 in
theorem w_c38 : (Jvm.Cond.code ({ cls := "java/util/HashMap", name := "afterNodeInsertion", desc := "(Z)V" } : Jvm.MethodName) jdk_69_method_52_code (2 : Nat) (Option.none : Option Jvm.ClassFile.FieldType)).before args0 about1 = true := code_word (m := ⟨14, 8⟩) (meth := k14m8) (c := k14c8) (by decide +kernel) rfl rfl rfl (by decide +kernel)
set_option maxRecDepth 65536 in
theorem w_c39 : (Jvm.Cond.code ({ cls := "java/util/HashMap$ValueIterator", name := "next", desc := "()Ljava/lang/Object;" } : Jvm.MethodName) jdk_2569_method_2_code (1 : Nat) (Option.some (Jvm.ClassFile.FieldType.object "java/lang/Object"))).before args0 about1 = true := code_word (m := ⟨19, 1⟩) (meth := k19m1) (c := k19c1) (by decide +kernel) rfl rfl rfl (by decide +kernel)
set_option maxRecDepth 65536 in
theorem w_c40 : (Jvm.Cond.code ({ cls := "java/util/HashMap$HashIterator", name := "nextNode", desc := "()Ljava/util/HashMap$Node;" } : Jvm.MethodName) jdk_99_method_3_code (3 : Nat) (Option.some (Jvm.ClassFile.FieldType.object "java/util/HashMap$Node"))).before args0 about1 = true := code_word (m := ⟨17, 2⟩) (meth := k17m2) (c := k17c2) (by decide +kernel) rfl rfl rfl (by decide +kernel)
set_option maxRecDepth 65536 in
theorem w_c41 : (Jvm.Cond.code ({ cls := "java/lang/Integer", name := "intValue", desc := "()I" } : Jvm.MethodName) jdk_33_method_27_code (1 : Nat) (Option.some Jvm.ClassFile.FieldType.int)).before args0 about1 = true := code_word (m := ⟨30, 2⟩) (meth := k30m2) (c := k30c2) (by decide +kernel) rfl rfl rfl (by decide +kernel)
set_option maxRecDepth 65536 in
theorem w_c42 : (Jvm.Cond.code ({ cls := "java/lang/Integer", name := "<init>", desc := "(I)V" } : Jvm.MethodName) jdk_33_method_23_code (2 : Nat) (Option.none : Option Jvm.ClassFile.FieldType)).before args0 about1 = true := code_word (m := ⟨30, 1⟩) (meth := k30m1) (c := k30c1) (by decide +kernel) rfl rfl rfl (by decide +kernel)
set_option maxRecDepth 65536 in
theorem w_c43 : (Jvm.Cond.code ({ cls := "java/lang/Number", name := "<init>", desc := "()V" } : Jvm.MethodName) jdk_18_method_1_code (1 : Nat) (Option.none : Option Jvm.ClassFile.FieldType)).before args0 about1 = true := code_word (m := ⟨29, 0⟩) (meth := k29m0) (c := k29c0) (by decide +kernel) rfl rfl rfl (by decide +kernel)
def codes1 : List Jvm.Cond := [Jvm.Cond.code x code maxLocals ret, Jvm.Cond.code ({ cls := "java/util/ArrayList", name := "<init>", desc := "()V" } : Jvm.MethodName) jdk_38_method_2_code (1 : Nat) (Option.none : Option Jvm.ClassFile.FieldType), Jvm.Cond.code ({ cls := "java/util/AbstractList", name := "<init>", desc := "()V" } : Jvm.MethodName) jdk_39_method_1_code (1 : Nat) (Option.none : Option Jvm.ClassFile.FieldType), Jvm.Cond.code ({ cls := "java/util/AbstractCollection", name := "<init>", desc := "()V" } : Jvm.MethodName) jdk_22_method_1_code (1 : Nat) (Option.none : Option Jvm.ClassFile.FieldType), Jvm.Cond.code ({ cls := "java/lang/Object", name := "<init>", desc := "()V" } : Jvm.MethodName) object_method_1_code (1 : Nat) (Option.none : Option Jvm.ClassFile.FieldType), Jvm.Cond.code ({ cls := "java/util/HashMap", name := "<init>", desc := "()V" } : Jvm.MethodName) jdk_69_method_7_code (1 : Nat) (Option.none : Option Jvm.ClassFile.FieldType), Jvm.Cond.code ({ cls := "java/util/AbstractMap", name := "<init>", desc := "()V" } : Jvm.MethodName) jdk_71_method_1_code (1 : Nat) (Option.none : Option Jvm.ClassFile.FieldType), Jvm.Cond.code ({ cls := "com/example/dolm/dolm/eval/JudgedRanking", name := "<init>", desc := "(Ljava/util/List;Ljava/util/Map;)V" } : Jvm.MethodName) prog_9_method_1_code (8 : Nat) (Option.none : Option Jvm.ClassFile.FieldType), Jvm.Cond.code ({ cls := "java/util/ArrayList", name := "size", desc := "()I" } : Jvm.MethodName) jdk_38_method_8_code (1 : Nat) (Option.some Jvm.ClassFile.FieldType.int), Jvm.Cond.code ({ cls := "java/util/HashMap", name := "size", desc := "()I" } : Jvm.MethodName) jdk_69_method_10_code (1 : Nat) (Option.some Jvm.ClassFile.FieldType.int), Jvm.Cond.code ({ cls := "java/util/HashMap", name := "values", desc := "()Ljava/util/Collection;" } : Jvm.MethodName) jdk_69_method_28_code (2 : Nat) (Option.some (Jvm.ClassFile.FieldType.object "java/util/Collection")), Jvm.Cond.code ({ cls := "java/util/HashMap$Values", name := "<init>", desc := "(Ljava/util/HashMap;)V" } : Jvm.MethodName) jdk_2571_method_1_code (2 : Nat) (Option.none : Option Jvm.ClassFile.FieldType), Jvm.Cond.code ({ cls := "java/util/HashMap$Values", name := "iterator", desc := "()Ljava/util/Iterator;" } : Jvm.MethodName) jdk_2571_method_4_code (1 : Nat) (Option.some (Jvm.ClassFile.FieldType.object "java/util/Iterator")), Jvm.Cond.code ({ cls := "java/util/HashMap$ValueIterator", name := "<init>", desc := "(Ljava/util/HashMap;)V" } : Jvm.MethodName) jdk_2569_method_1_code (2 : Nat) (Option.none : Option Jvm.ClassFile.FieldType), Jvm.Cond.code ({ cls := "java/util/HashMap$HashIterator", name := "<init>", desc := "(Ljava/util/HashMap;)V" } : Jvm.MethodName) jdk_99_method_1_code (3 : Nat) (Option.none : Option Jvm.ClassFile.FieldType), Jvm.Cond.code ({ cls := "java/util/HashMap$HashIterator", name := "hasNext", desc := "()Z" } : Jvm.MethodName) jdk_99_method_2_code (1 : Nat) (Option.some Jvm.ClassFile.FieldType.boolean), Jvm.Cond.code ({ cls := "java/util/Arrays", name := "copyOf", desc := "([II)[I" } : Jvm.MethodName) jdk_65_method_123_code (3 : Nat) (Option.some (Jvm.ClassFile.FieldType.array Jvm.ClassFile.FieldType.int)), Jvm.Cond.code ({ cls := "java/util/Arrays", name := "sort", desc := "([I)V" } : Jvm.MethodName) jdk_65_method_2_code (1 : Nat) (Option.none : Option Jvm.ClassFile.FieldType), Jvm.Cond.code ({ cls := "java/util/DualPivotQuicksort", name := "sort", desc := "([IIII)V" } : Jvm.MethodName) jdk_2529_method_3_code (7 : Nat) (Option.none : Option Jvm.ClassFile.FieldType), Jvm.Cond.code ({ cls := "java/util/DualPivotQuicksort", name := "sort", desc := "(Ljava/util/DualPivotQuicksort$Sorter;[IIII)V" } : Jvm.MethodName) jdk_2529_method_4_code (21 : Nat) (Option.none : Option Jvm.ClassFile.FieldType), Jvm.Cond.code ({ cls := "java/util/DualPivotQuicksort", name := "insertionSort", desc := "([III)V" } : Jvm.MethodName) jdk_2529_method_6_code (6 : Nat) (Option.none : Option Jvm.ClassFile.FieldType), Jvm.Cond.code ({ cls := "java/lang/Math", name := "max", desc := "(II)I" } : Jvm.MethodName) jdk_29_method_65_code (2 : Nat) (Option.some Jvm.ClassFile.FieldType.int), Jvm.Cond.code ({ cls := "java/lang/Math", name := "min", desc := "(II)I" } : Jvm.MethodName) jdk_29_method_69_code (2 : Nat) (Option.some Jvm.ClassFile.FieldType.int), Jvm.Cond.code ({ cls := "com/example/dolm/dolm/eval/JudgedRanking", name := "idealGain", desc := "(I)I" } : Jvm.MethodName) prog_9_method_5_code (2 : Nat) (Option.some Jvm.ClassFile.FieldType.int), Jvm.Cond.code ({ cls := "java/lang/String", name := "valueOf", desc := "(C)Ljava/lang/String;" } : Jvm.MethodName) jdk_42_method_139_code (1 : Nat) (Option.some (Jvm.ClassFile.FieldType.object "java/lang/String")), Jvm.Cond.code ({ cls := "java/lang/StringLatin1", name := "canEncode", desc := "(C)Z" } : Jvm.MethodName) jdk_43_method_3_code (1 : Nat) (Option.some Jvm.ClassFile.FieldType.boolean), Jvm.Cond.code ({ cls := "java/lang/StringLatin1", name := "toBytes", desc := "(C)[B" } : Jvm.MethodName) jdk_43_method_46_code (1 : Nat) (Option.some (Jvm.ClassFile.FieldType.array Jvm.ClassFile.FieldType.byte)), Jvm.Cond.code ({ cls := "java/lang/String", name := "<init>", desc := "([BB)V" } : Jvm.MethodName) jdk_42_method_151_code (3 : Nat) (Option.none : Option Jvm.ClassFile.FieldType), Jvm.Cond.code ({ cls := "java/lang/Integer", name := "valueOf", desc := "(I)Ljava/lang/Integer;" } : Jvm.MethodName) jdk_33_method_22_code (1 : Nat) (Option.some (Jvm.ClassFile.FieldType.object "java/lang/Integer")), Jvm.Cond.code ({ cls := "java/util/HashMap", name := "put", desc := "(Ljava/lang/Object;Ljava/lang/Object;)Ljava/lang/Object;" } : Jvm.MethodName) jdk_69_method_15_code (3 : Nat) (Option.some (Jvm.ClassFile.FieldType.object "java/lang/Object")), Jvm.Cond.code ({ cls := "java/util/HashMap", name := "hash", desc := "(Ljava/lang/Object;)I" } : Jvm.MethodName) jdk_69_method_1_code (2 : Nat) (Option.some Jvm.ClassFile.FieldType.int), Jvm.Cond.code ({ cls := "java/lang/String", name := "hashCode", desc := "()I" } : Jvm.MethodName) jdk_42_method_78_code (2 : Nat) (Option.some Jvm.ClassFile.FieldType.int), Jvm.Cond.code ({ cls := "java/lang/String", name := "isLatin1", desc := "()Z" } : Jvm.MethodName) jdk_42_method_154_code (1 : Nat) (Option.some Jvm.ClassFile.FieldType.boolean), Jvm.Cond.code ({ cls := "java/lang/StringLatin1", name := "hashCode", desc := "([B)I" } : Jvm.MethodName) jdk_43_method_21_code (1 : Nat) (Option.some Jvm.ClassFile.FieldType.int), Jvm.Cond.code ({ cls := "java/util/HashMap", name := "putVal", desc := "(ILjava/lang/Object;Ljava/lang/Object;ZZ)Ljava/lang/Object;" } : Jvm.MethodName) jdk_69_method_16_code (13 : Nat) (Option.some (Jvm.ClassFile.FieldType.object "java/lang/Object")), Jvm.Cond.code ({ cls := "java/util/HashMap", name := "resize", desc := "()[Ljava/util/HashMap$Node;" } : Jvm.MethodName) jdk_69_method_17_code (14 : Nat) (Option.some (Jvm.ClassFile.FieldType.array (Jvm.ClassFile.FieldType.object "java/util/HashMap$Node"))), Jvm.Cond.code ({ cls := "java/util/HashMap", name := "newNode", desc := "(ILjava/lang/Object;Ljava/lang/Object;Ljava/util/HashMap$Node;)Ljava/util/HashMap$Node;" } : Jvm.MethodName) jdk_69_method_46_code (5 : Nat) (Option.some (Jvm.ClassFile.FieldType.object "java/util/HashMap$Node")), Jvm.Cond.code ({ cls := "java/util/HashMap$Node", name := "<init>", desc := "(ILjava/lang/Object;Ljava/lang/Object;Ljava/util/HashMap$Node;)V" } : Jvm.MethodName) jdk_70_method_1_code (5 : Nat) (Option.none : Option Jvm.ClassFile.FieldType), Jvm.Cond.code ({ cls := "java/util/HashMap", name := "afterNodeInsertion", desc := "(Z)V" } : Jvm.MethodName) jdk_69_method_52_code (2 : Nat) (Option.none : Option Jvm.ClassFile.FieldType), Jvm.Cond.code ({ cls := "java/util/HashMap$ValueIterator", name := "next", desc := "()Ljava/lang/Object;" } : Jvm.MethodName) jdk_2569_method_2_code (1 : Nat) (Option.some (Jvm.ClassFile.FieldType.object "java/lang/Object")), Jvm.Cond.code ({ cls := "java/util/HashMap$HashIterator", name := "nextNode", desc := "()Ljava/util/HashMap$Node;" } : Jvm.MethodName) jdk_99_method_3_code (3 : Nat) (Option.some (Jvm.ClassFile.FieldType.object "java/util/HashMap$Node")), Jvm.Cond.code ({ cls := "java/lang/Integer", name := "intValue", desc := "()I" } : Jvm.MethodName) jdk_33_method_27_code (1 : Nat) (Option.some Jvm.ClassFile.FieldType.int), Jvm.Cond.code ({ cls := "java/lang/Integer", name := "<init>", desc := "(I)V" } : Jvm.MethodName) jdk_33_method_23_code (2 : Nat) (Option.none : Option Jvm.ClassFile.FieldType), Jvm.Cond.code ({ cls := "java/lang/Number", name := "<init>", desc := "()V" } : Jvm.MethodName) jdk_18_method_1_code (1 : Nat) (Option.none : Option Jvm.ClassFile.FieldType)]
set_option maxRecDepth 65536 in
theorem codes_eq : words1.filter isCode = codes1 := rfl
theorem w_codes : ∀ c ∈ words1.filter isCode, c.before args0 about1 = true := by
  rw [codes_eq]
  intro c hc
  simp only [codes1, List.mem_cons, List.not_mem_nil, or_false] at hc
  rcases hc with rfl | rfl | rfl | rfl | rfl | rfl | rfl | rfl | rfl | rfl | rfl | rfl | rfl | rfl | rfl | rfl | rfl | rfl | rfl | rfl | rfl | rfl | rfl | rfl | rfl | rfl | rfl | rfl | rfl | rfl | rfl | rfl | rfl | rfl | rfl | rfl | rfl | rfl | rfl | rfl | rfl | rfl | rfl | rfl
  · exact w_c0
  · exact w_c1
  · exact w_c2
  · exact w_c3
  · exact w_c4
  · exact w_c5
  · exact w_c6
  · exact w_c7
  · exact w_c8
  · exact w_c9
  · exact w_c10
  · exact w_c11
  · exact w_c12
  · exact w_c13
  · exact w_c14
  · exact w_c15
  · exact w_c16
  · exact w_c17
  · exact w_c18
  · exact w_c19
  · exact w_c20
  · exact w_c21
  · exact w_c22
  · exact w_c23
  · exact w_c24
  · exact w_c25
  · exact w_c26
  · exact w_c27
  · exact w_c28
  · exact w_c29
  · exact w_c30
  · exact w_c31
  · exact w_c32
  · exact w_c33
  · exact w_c34
  · exact w_c35
  · exact w_c36
  · exact w_c37
  · exact w_c38
  · exact w_c39
  · exact w_c40
  · exact w_c41
  · exact w_c42
  · exact w_c43
set_option maxRecDepth 65536 in
theorem w_t1 : (words1.take 24).all (fun c => isCode c || c.before args0 about1) = true := by decide +kernel
set_option maxRecDepth 65536 in
theorem w_t2 : ((words1.drop 24).take 24).all (fun c => isCode c || c.before args0 about1) = true := by decide +kernel
set_option maxRecDepth 65536 in
theorem w_t3 : (((words1.drop 24).drop 24).take 24).all (fun c => isCode c || c.before args0 about1) = true := by decide +kernel
set_option maxRecDepth 65536 in
theorem w_t4 : ((((words1.drop 24).drop 24).drop 24).take 24).all (fun c => isCode c || c.before args0 about1) = true := by decide +kernel
set_option maxRecDepth 65536 in
theorem w_t5 : (((((words1.drop 24).drop 24).drop 24).drop 24).take 24).all (fun c => isCode c || c.before args0 about1) = true := by decide +kernel
set_option maxRecDepth 65536 in
theorem w_t6 : ((((((words1.drop 24).drop 24).drop 24).drop 24).drop 24).take 24).all (fun c => isCode c || c.before args0 about1) = true := by decide +kernel
set_option maxRecDepth 65536 in
theorem w_t7 : (((((((words1.drop 24).drop 24).drop 24).drop 24).drop 24).drop 24).take 24).all (fun c => isCode c || c.before args0 about1) = true := by decide +kernel
set_option maxRecDepth 65536 in
theorem w_t8 : ((((((((words1.drop 24).drop 24).drop 24).drop 24).drop 24).drop 24).drop 24).take 24).all (fun c => isCode c || c.before args0 about1) = true := by decide +kernel
set_option maxRecDepth 65536 in
theorem w_t9 : (((((((((words1.drop 24).drop 24).drop 24).drop 24).drop 24).drop 24).drop 24).drop 24).take 24).all (fun c => isCode c || c.before args0 about1) = true := by decide +kernel
set_option maxRecDepth 65536 in
theorem w_t10 : ((((((((((words1.drop 24).drop 24).drop 24).drop 24).drop 24).drop 24).drop 24).drop 24).drop 24).take 24).all (fun c => isCode c || c.before args0 about1) = true := by decide +kernel
set_option maxRecDepth 65536 in
theorem w_t11 : (((((((((((words1.drop 24).drop 24).drop 24).drop 24).drop 24).drop 24).drop 24).drop 24).drop 24).drop 24).take 24).all (fun c => isCode c || c.before args0 about1) = true := by decide +kernel
set_option maxRecDepth 65536 in
theorem w_t12 : ((((((((((((words1.drop 24).drop 24).drop 24).drop 24).drop 24).drop 24).drop 24).drop 24).drop 24).drop 24).drop 24).take 24).all (fun c => isCode c || c.before args0 about1) = true := by decide +kernel
set_option maxRecDepth 65536 in
theorem w_t13 : (((((((((((((words1.drop 24).drop 24).drop 24).drop 24).drop 24).drop 24).drop 24).drop 24).drop 24).drop 24).drop 24).drop 24).take 24).all (fun c => isCode c || c.before args0 about1) = true := by decide +kernel
set_option maxRecDepth 65536 in
theorem w_t14 : (((((((((((((words1.drop 24).drop 24).drop 24).drop 24).drop 24).drop 24).drop 24).drop 24).drop 24).drop 24).drop 24).drop 24).drop 24).all (fun c => isCode c || c.before args0 about1) = true := by decide +kernel
theorem w_tables : (allAtoms (Jvm.Cond.code x code maxLocals ret :: tables_1)).before args0 about1 = true := by
  rw [allAtoms_all]
  show words1.all (fun c => c.before args0 about1) = true
  refine all_split ?_ w_codes
  rw [← List.take_append_drop 24 words1, List.all_append, w_t1, ← List.take_append_drop 24 (words1.drop 24), List.all_append, w_t2, ← List.take_append_drop 24 ((words1.drop 24).drop 24), List.all_append, w_t3, ← List.take_append_drop 24 (((words1.drop 24).drop 24).drop 24), List.all_append, w_t4, ← List.take_append_drop 24 ((((words1.drop 24).drop 24).drop 24).drop 24), List.all_append, w_t5, ← List.take_append_drop 24 (((((words1.drop 24).drop 24).drop 24).drop 24).drop 24), List.all_append, w_t6, ← List.take_append_drop 24 ((((((words1.drop 24).drop 24).drop 24).drop 24).drop 24).drop 24), List.all_append, w_t7, ← List.take_append_drop 24 (((((((words1.drop 24).drop 24).drop 24).drop 24).drop 24).drop 24).drop 24), List.all_append, w_t8, ← List.take_append_drop 24 ((((((((words1.drop 24).drop 24).drop 24).drop 24).drop 24).drop 24).drop 24).drop 24), List.all_append, w_t9, ← List.take_append_drop 24 (((((((((words1.drop 24).drop 24).drop 24).drop 24).drop 24).drop 24).drop 24).drop 24).drop 24), List.all_append, w_t10, ← List.take_append_drop 24 ((((((((((words1.drop 24).drop 24).drop 24).drop 24).drop 24).drop 24).drop 24).drop 24).drop 24).drop 24), List.all_append, w_t11, ← List.take_append_drop 24 (((((((((((words1.drop 24).drop 24).drop 24).drop 24).drop 24).drop 24).drop 24).drop 24).drop 24).drop 24).drop 24), List.all_append, w_t12, ← List.take_append_drop 24 ((((((((((((words1.drop 24).drop 24).drop 24).drop 24).drop 24).drop 24).drop 24).drop 24).drop 24).drop 24).drop 24).drop 24), List.all_append, w_t13, w_t14]
  rfl
set_option maxRecDepth 65536 in
theorem w_rest : rest_1_c.before args0 about1 = true := by decide +kernel
set_option maxRecDepth 65536 in
theorem w_case : (Jvm.Cond.and given_1 narrow_1).before args0 about1 = true := by decide +kernel
theorem w_applies : (headSpec (Jvm.Cond.code x code maxLocals ret :: tables_1) room_1).applies x e0.platform about1 = true :=
  (Spec.applies_iff w_frames).mpr ⟨w_running, w_runnable, w_alone, w_named, w_hears, w_ripe, w_room, w_tables⟩
theorem atStart : AtStart classFile x code maxLocals ret World_1 tables_1 room_1 Calls_1 rest_1 Pre_1 launch0 p0 e0 about1 theMethod args0 below0 :=
  ⟨lists_1, trivial, launch0.admits_env _ _ _, launch0.least_env, fairChoices_fair.cas, fairChoices_fair.clock, w_frames, w_args, w_heap, w_applies, trivial, w_rest, w_case⟩
end start1
theorem witness_1 : WitnessClaimed_1 := ⟨start1.p0, start1.e0, start1.about1, start1.theMethod, start1.args0, start1.below0, start1.atStart⟩
end Jvm.Pilot.@@N@@
