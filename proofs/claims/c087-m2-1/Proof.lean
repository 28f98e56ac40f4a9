import JvmDerived
import JvmDerived.Pilot.@@N@@Statement
import JvmDerived.Pilot.@@N@@Code
set_option linter.unusedVariables false
set_option linter.unusedSimpArgs false
set_option maxRecDepth 65536
set_option maxHeartbeats 40000000
namespace Jvm.Pilot.@@N@@
open Jvm Jvm.ClassFile Sem Op Lib Jvm.Free Jvm.Stand Jvm.LawKit Jvm.RoadKit Bundle Jvm.Pilot.@@N@@.Jvm.D
section OwnKit
variable {p : Program} {l : Launch} {e : Env} {R : Room} {s : State} {m : MethodId} {args : Array Value} {below : List Frame} {meth : Method} {c : Code} {T : State} {locs : List Loc} {cells slots : Nat}
abbrev vI (x : Int32) : Slot := .val (.int x)
abbrev vR (x : Addr) : Slot := .val (.ref x)
abbrev vN : Slot := .val .null
abbrev uS : Slot := .unset
def own_Goes (p : Program) (e : Env) (below : List Frame) (U : State) (Q : Outcome → State → Prop) : Prop := ∃ (t : State) (o : Outcome), Steps p.tables e below U t ∧ t.status = .running ∧ Ended t below o ∧ Q o t
theorem gg {U U' : State} {Q : Outcome → State → Prop} (k : ∀ t, Steps p.tables e below U' t → Steps p.tables e below U t) (h : own_Goes p e below U' Q) : own_Goes p e below U Q := by
  obtain ⟨t, o, h1, h2⟩ := h
  exact ⟨t, o, k t h1, h2⟩
theorem own_goS {U U' : State} {Q : Outcome → State → Prop} (k : Steps p.tables e below U U') (h : own_Goes p e below U' Q) : own_Goes p e below U Q := gg (fun t h => k.trans h) h
theorem own_cast {g g' : JFrame} {Q : Outcome → State → Prop} (q : g = g') (h : own_Goes p e below (T.setTop g') Q) : own_Goes p e below (T.setTop g) Q := q ▸ h
def own_PostN (s : State) (Qc : Option Value → Heap → List Loc → Prop) (k n : Nat) : Outcome → State → Prop := fun o t => ∃ v L, o = .returned v ∧ Qc v t.heap L ∧ FrameEnd s o t L k n
def own_PostW (s : State) (Qc : Option Value → Heap → List Loc → Prop) (k n : Nat) : Outcome → State → Prop := fun o t => ∃ v L, o = .returned v ∧ Qc v t.heap L ∧ ReturnedEndW s o t L k n
theorem own_endN (X : Stand p l e R s m args below meth c T locs cells slots) {v : Option Value} (hv : meth.sig.returnType = none → v = none) (hlocks : meth.locks = false) {Qc : Option Value → Heap → List Loc → Prop} {k n : Nat} (hk : cells ≤ k) (hn : slots ≤ n) (hQ : Qc v T.heap locs) {U : State}
    (st : ∀ fs, (∀ (f : JFrame) (acts : List Action), f.method = m → f.locked = none → f.entered = [] → (doReturn e (T.setTop f) acts v).1 = T.setFrames fs) → Steps p.tables e below U (T.setFrames fs)) : own_Goes p e below U (own_PostN s Qc k n) := by
  obtain ⟨fs, hr, hrun, hended, hW, hsame⟩ := X.leave hv hlocks
  exact ⟨_, _, st fs hr, hrun, hended, _, _, rfl, hQ, ⟨_, rfl⟩, hW, hsame.mono hk hn⟩
theorem own_endW {vm0 : Vm} (X : Stand p l e R (s.setVm vm0) m args below meth c T locs cells slots) {q : Nat} (hS : s.Since vm0 q) (hq : q ≤ T.heap.size) {v : Option Value} (hv : meth.sig.returnType = none → v = none) (hlocks : meth.locks = false) {Qc : Option Value → Heap → List Loc → Prop} {k n : Nat} (hk : cells ≤ k) (hn : slots ≤ n) (hQ : Qc v T.heap locs) {U : State}
    (st : ∀ fs, (∀ (f : JFrame) (acts : List Action), f.method = m → f.locked = none → f.entered = [] → (doReturn e (T.setTop f) acts v).1 = T.setFrames fs) → Steps p.tables e below U (T.setFrames fs)) : own_Goes p e below U (own_PostW s Qc k n) := by
  obtain ⟨fs, hr, hrun, hended, h1, h2, h3, h4⟩ := X.leaveW hS hq hv hlocks
  exact ⟨_, _, st fs hr, hrun, hended, _, _, rfl, hQ, h1, h2, h3, h4.mono hk hn⟩
def own_PostH (Z : State) (EL : List (String × Nat)) (s : State) (Qc : Option Value → Heap → List Loc → Prop) (k n : Nat) : Outcome → State → Prop := fun o t => ∃ v L, o = .returned v ∧ Qc v t.heap L ∧ CHr Z EL s.vm s.heap t.vm t.heap ∧ ReturnedEndW s o t L k n
theorem own_endH {Z : State} {a0 : Array Value} {EL : List (String × Nat)} {h0 h : Heap} {vm0 : Vm} (X : Stand p l e R (s.setVm vm0) m args below meth c T locs cells slots) {q : Nat} (hS : s.Since vm0 q) (hq : q ≤ T.heap.size) (eT : T.heap = h) (hh : s.heap = h0) (CR : CHr Z EL s.vm h0 vm0 h) (hZ : Z.Warmed39 vm0) (w : EW Z a0 EL) {v : Option Value} (hv : meth.sig.returnType = none → v = none) (hlocks : meth.locks = false) {Qc : Option Value → Heap → List Loc → Prop} {k n : Nat} (hk : cells ≤ k) (hn : slots ≤ n) (hQ : Qc v T.heap locs) {U : State}
    (st : ∀ fs, (∀ (f : JFrame) (acts : List Action), f.method = m → f.locked = none → f.entered = [] → (doReturn e (T.setTop f) acts v).1 = T.setFrames fs) → Steps p.tables e below U (T.setFrames fs)) : own_Goes p e below U (own_PostH Z EL s Qc k n) := by
  obtain ⟨fs, hr, hrun, hended, h1, h2, h3, h4⟩ := X.leaveW hS hq hv hlocks
  subst eT hh
  exact ⟨_, _, st fs hr, hrun, hended, _, _, rfl, hQ, (CHr.trans CR (CHv.at X hZ w CR.1) : CHr Z EL s.vm s.heap T.vm T.heap), h1, h2, h3, h4.mono hk hn⟩
theorem own_neor {x a b : Nat} (h : x ≠ a ∧ x ≠ b) : (x < a ∨ a < x) ∧ (x < b ∨ b < x) := ⟨Nat.lt_or_gt_of_ne h.1, Nat.lt_or_gt_of_ne h.2⟩
theorem own_safeNull {Z : State} {EL : List (String × Nat)} {vm : Vm} {h : Heap} {x : Addr} (hal : Z.vm.Alike vm) (E : Exa Z h x "java/lang/String") (F : Fld Z h x "java/lang/String" "value" "[B" .null) : Safe Z EL vm h x := fun B => by
  obtain ⟨pp, -, u, a, -, q, -, FF, rfl | rfl⟩ := B
  · have ha := FF.ha
    obtain ⟨cS, ⟨⟨-, -, -, ⟨c1, k1, i1, f1, -⟩, -, -, -, v1, -⟩, -⟩, -⟩ := FF
    obtain ⟨cell, cf, k, i, f, h1, h2, -, -, -, -, h7⟩ := F
    cases (show h[q.sa]? = some q.sC from ha).symm.trans h1
    obtain ⟨k3, e3, -⟩ := State.fieldFound?_setVm (s := Z) hal h2
    have e4 := (show (Wst Z vm h).fieldFound? "java/lang/String" "value" "[B" = _ from e3).symm.trans f1
    simp only [Option.some.injEq, Prod.mk.injEq] at e4
    rw [← e4.2.2.2, h7] at v1
    cases v1
  · have hd := FF.hd
    obtain ⟨cS, ⟨⟨-, -, -, -, -, -, -, -, -, -, ⟨-, kB, hkB, compB, hkindB⟩, -⟩, -, -⟩, ⟨kS, g1, g2, -⟩, hB, -⟩ := FF
    obtain ⟨cell, k, e1, e2, e3, -, -⟩ := E
    cases (show h[q.sd]? = some q.SA from hd).symm.trans e1
    have e2' : vm.findClass "java/lang/String" = some q.SA.cls := by rw [hal.findClass]; exact e2
    obtain ⟨ka, qa, na⟩ := Vm.findClass_spec e2'
    obtain ⟨kb, qb, nb⟩ := Vm.findClass_spec (show vm.findClass "[B" = some q.SA.cls from hB)
    cases qa.symm.trans qb
    exact absurd (na.symm.trans nb) (by decide)
theorem own_mvM {Z s : State} {a0 args : Array Value} {own host : String} {y : MethodName} {index : Nat} (hZ : Z.Warmed39 s.vm) (w : (Cond.methodLinkNest own index y host).before a0 Z = true) : (Cond.methodLinkNest own index y host).before args s = true := (Cond.methodLinkNest_wide hZ w :)
theorem own_nf {args : Array Value} {s : State} {C : String} {w z y : MethodName} (hsel : (Cond.selects C w z).before args s = true) (hc : z.cls = y.cls) : NotFace s y := fun r0 h0 => by
  obtain ⟨c2, r2, m2, q1, q2, q3, q4, kP, hkP, hkPi⟩ := Cond.selects_spec hsel
  have e1 := findClass_of_methodNamed h0
  have e2 := findClass_of_methodNamed q3
  rw [hc, e1] at e2
  have e3 := Option.some.inj e2
  exact ⟨kP, by rw [e3]; exact hkP, hkPi⟩
theorem own_ne {a b : Nat} (h : a < b ∨ b < a) : a ≠ b := by omega
theorem own_NSroot {Z : State} {a0 : Array Value} {O K : String} {n : Nat} (w : (Cond.noSuperclass O).before a0 Z = true) (wk : (Cond.instantiable K n).before a0 Z = true) (hn : O ≠ K) : NS Z O K := by
  obtain ⟨c, k, h1, h2, h3, -, -⟩ := Cond.noSuperclass_spec w
  obtain ⟨t, kt, g1, -⟩ := Cond.instantiable_spec wk
  have ne := ids_ne h1 g1 hn
  refine ⟨c, t, h1, g1, fun fuel => ?_⟩
  cases fuel with
  | zero => rfl
  | succ f => simp [Vm.isSubclassAux, ne, h2, h3]
theorem own_NSno {Z : State} {a0 : Array Value} {C S K : String} {m : Nat} (w : (Cond.superclass C S).before a0 Z = true) (wk : (Cond.instantiable K m).before a0 Z = true) (n : NS Z C K) (hn : C ≠ K) : ∃ c t, Z.vm.findClass C = some c ∧ Z.vm.findClass K = some t ∧ Z.vm.assignable c t = false := by
  obtain ⟨c, t, h0, g0, n3⟩ := n
  obtain ⟨p, k, kp, h1, h2, h3, h4, h5, -, h7⟩ := Cond.superclass_spec h0 w
  obtain ⟨t', k', g1, g2, g5, g7, -⟩ := Cond.instantiable_spec wk
  cases g0.symm.trans g1
  have g8 : k'.isInterface = false := (Bool.or_eq_false_iff.mp g7).1
  have ne := ids_ne h0 g0 hn
  refine ⟨c, t, h0, g0, ?_⟩
  show Z.vm.assignableAux (255 + 1) c t = false
  simp [Vm.assignableAux, ne, h2, g2, h5, g5, g8, Vm.isSubclass, n3]
theorem own_fitsR {v : Value} {t : FieldType} (h : v.isRef = true) (ht : t.isReference = true) : fits t v = true := by
  cases v <;> cases t <;> simp_all [Value.isRef, fits, FieldType.isReference]
theorem own_narR {v : Value} {t : FieldType} (h : v.isRef = true) (ht : t.isReference = true) : narrow t v = v := by
  cases v <;> cases t <;> simp_all [Value.isRef, narrow, FieldType.isReference]
end OwnKit
theorem nE (a b : Nat) (h : a < b ∨ b < a) : a ≠ b := own_ne h
abbrev B3 : ByteArray := jdk_22_method_1_code
abbrev B6 : ByteArray := jdk_71_method_1_code
abbrev B2 : ByteArray := jdk_39_method_1_code
abbrev B1 : ByteArray := jdk_38_method_2_code
abbrev B23 : ByteArray := jdk_38_method_8_code
abbrev B5 : ByteArray := jdk_69_method_7_code
abbrev B43 : ByteArray := jdk_29_method_69_code
abbrev B8 : ByteArray := jdk_43_method_3_code
abbrev B10 : ByteArray := jdk_42_method_151_code
abbrev B15 : ByteArray := jdk_42_method_154_code
abbrev B9 : ByteArray := jdk_43_method_46_code
abbrev B7 : ByteArray := jdk_42_method_139_code
abbrev B16 : ByteArray := jdk_43_method_21_code
abbrev B14 : ByteArray := jdk_42_method_78_code
abbrev B13 : ByteArray := jdk_69_method_1_code
abbrev B20 : ByteArray := jdk_70_method_1_code
abbrev B19 : ByteArray := jdk_69_method_46_code
abbrev B21 : ByteArray := jdk_69_method_52_code
abbrev B18 : ByteArray := jdk_69_method_17_code
abbrev B17 : ByteArray := jdk_69_method_16_code
abbrev B12 : ByteArray := jdk_69_method_15_code
abbrev B24 : ByteArray := jdk_69_method_10_code
abbrev B26 : ByteArray := jdk_2571_method_1_code
abbrev B25 : ByteArray := jdk_69_method_28_code
abbrev B29 : ByteArray := jdk_99_method_1_code
abbrev B28 : ByteArray := jdk_2569_method_1_code
abbrev B27 : ByteArray := jdk_2571_method_4_code
abbrev B30 : ByteArray := jdk_99_method_2_code
abbrev B32 : ByteArray := jdk_99_method_3_code
abbrev B31 : ByteArray := jdk_2569_method_2_code
abbrev B34 : ByteArray := jdk_65_method_123_code
abbrev B38 : ByteArray := jdk_2529_method_6_code
abbrev B37 : ByteArray := jdk_2529_method_4_code
abbrev B36 : ByteArray := jdk_2529_method_3_code
abbrev B35 : ByteArray := jdk_65_method_2_code
abbrev B42 : ByteArray := jdk_18_method_1_code
abbrev B41 : ByteArray := jdk_33_method_23_code
abbrev B11 : ByteArray := jdk_33_method_22_code
abbrev B33 : ByteArray := jdk_33_method_27_code
abbrev B22 : ByteArray := prog_9_method_1_code
abbrev B39 : ByteArray := prog_9_method_7_code
abbrev B40 : ByteArray := method_2_code
theorem own_sta {s : State} {args : Array Value} {C n d K : String} (h : (Cond.exactly (Term.static C n d) K).value args s none s [] = some true) (w1 : (Cond.initialized C).before args s = true) (w2 : (Cond.laysStatic C n d).before args s = true) : ∃ w, Sta s s.heap C n d (.ref w) ∧ Exa s s.heap w K := by
  obtain ⟨w, ev⟩ := exa_v h
  exact ⟨w, Sta.start ev (Or.inr ⟨w1, w2⟩), Exa.start ev h⟩
theorem wh {Z : State} {a0 : Array Value} (hw : ∀ d ∈ tables_1, d.before a0 Z = true) (i : Nat) {d : Jvm.Cond} (q : tables_1[i]? = some d) : d.before a0 Z = true := hw _ (List.mem_of_getElem? q)
abbrev own_Met (l : Launch) (Z : State) (y : MethodName) (bts : ByteArray) (ml : Nat) (RT : Option FieldType) (ws : List Jvm.Cond) (ROOM : Room) (A : Array Value) (h0 : Heap) (Q : Option Value → Heap → List Loc → Prop) : Prop := MetFree l y (head1 (Jvm.Cond.code y bts ml RT :: ws) ROOM) (fun as_ U_ => as_ = A ∧ Z.Warmed39 U_.vm ∧ U_.heap = h0) (fun _ _ _ _ _ => True) (fun _ U_ o_ U2_ => ∃ v_ L_, o_ = .returned v_ ∧ Q v_ U2_.heap L_ ∧ FrameEnd U_ o_ U2_ L_ ROOM.cells ROOM.slots)
theorem own_mk {l : Launch} {Z : State} {y : MethodName} {bts : ByteArray} {ml : Nat} {RT : Option FieldType} {ws : List Jvm.Cond} {ROOM : Room} {A : Array Value} {h0 : Heap} {n0 : Nat} {Q : Option Value → Heap → List Loc → Prop} (pl : plainFor y = true) (O0 : Old Z n0 h0)
    (H : ∀ (p : Program) (e : Env) (s : State) (m : MethodId) (below : List Frame) (meth : Method) (c : Code) (s₁ : State), p.tables.exec = Jvm.exec → c.code = bts → c.maxLocals = ml → Z.Warmed39 s.vm → s.vm.findClass y.cls = some m.cls → meth.name = y.name → meth.locks = false → meth.sig.returnType = RT → Stand p l e ROOM s m A below meth c s₁ [] 0 0 → s₁.heap = h0 → Fr n0 [] → Z.heap.size = n0 → n0 ≤ h0.size → own_Goes p e below (s₁.setTop (entryFrame m A ml)) (own_PostN s Q ROOM.cells ROOM.slots)) : own_Met l Z y bts ml RT ws ROOM A h0 Q := by
  refine MetFree.of_bodySF pl hisR ?_
  intro p e s m args below meth c s₁ Bd hml0 hP hK
  obtain ⟨rfl, hZ, hh⟩ := hP
  exact H p e s m below meth c s₁ Bd.exec Bd.bytes hml0 hZ (findClass_of_methodNamed Bd.named) (name_of_methodNamed Bd.named Bd.method).1 Bd.notSynchronized Bd.returns (Stand.of_body Bd) (by rw [← hh, Bd.state]; rfl) (Fr.nil n0) O0.1 (O0.1 ▸ O0.2.1)
section OwnKit2
variable {p : Program} {l : Launch} {e : Env} {R : Room} {s : State} {m : MethodId} {args : Array Value} {below : List Frame} {meth : Method} {c : Code} {T : State} {locs : List Loc} {cells slots : Nat}
theorem own_cI {Z : State} {a0 : Array Value} {h : Heap} {own : String} {index : Nat} {count : Nat} {C : String} {xi y : MethodName} (X : Stand p l e R s m args below meth c T locs cells slots) (hx : p.tables.exec = Jvm.exec) (hZ : Z.Warmed39 s.vm) (hown : s.vm.findClass own = some m.cls)
    (w1 : (Cond.methodLink own index xi).before a0 Z = true) (w2 : (Cond.declares xi).before a0 Z = true) (w3 : (Cond.interfaceMethod xi.cls xi.cls xi.name xi.desc).before a0 Z = true) (w4 : (Cond.selects C xi y).before a0 Z = true) (w5 : (Cond.instanceMethod y).before a0 Z = true) (w6 : (Cond.publicMethod y).before a0 Z = true) (w7 : (Cond.unhidden C xi.name xi.desc).before a0 Z = true) (w8 : (Cond.castable C xi.cls).before a0 Z = true) (hxi : xi.cls ≠ "java/lang/invoke/MethodHandle" ∧ xi.cls ≠ "java/lang/invoke/VarHandle") {bts : ByteArray} {maxL W ml : Nat} {ret : Option FieldType} {rm : Room} {as' : Array Value} {Q : Option Value → Heap → List Loc → Prop} (M : own_Met l Z y bts maxL ret [] rm as' h Q) (wc : (Cond.code y bts maxL ret).before a0 Z = true) (wz : (Cond.initialized (MethodName.cls y)).before a0 Z = true) (hf : rm.frames + 1 ≤ R.frames) (hl : W + (maxL + 11) + rm.locals ≤ R.locals) (eT : T.heap = h) {b : Addr} (E : Exa Z h b C) {g : JFrame} (hg : g.method = m) (hml : c.maxLocals = ml) (hsz : g.locals.size = ml) {argsL rest : List Value} {ps : List FieldType} {r : Option FieldType} (hd : parseMethodDescriptor (MethodName.desc xi) = some ⟨ps, r⟩) (hl2 : argsL.length = ps.length) (hstack : g.stack = argsL.reverse ++ .ref b :: rest) (hmr : g.monitorRoom = 0) (hW : (rest.map fun v => v.category).sum = W) (hdg : decode c.code g.pc = .ok (.invokeinterface index count, 5)) (ha : (.ref b :: argsL).toArray = as') (hc : cells + rm.cells ≤ R.cells) (hs : slots + rm.slots ≤ R.slots) :
    ∃ v T' L', Stand p l e R s m args below meth c T' (locs ++ L') (cells + rm.cells) (slots + rm.slots) ∧ Q v T'.heap L' ∧ ∀ P, own_Goes p e below (T'.setTop { g with pc := g.pc + 5, stack := v.toList ++ rest }) P → own_Goes p e below (T.setTop g) P := by
  obtain ⟨cB, kB, qa, qb, qc⟩ := isOf hZ eT E
  obtain ⟨v, _, ⟨T', L', k', n'⟩, -, X', ⟨Lc, hQ, l', y', z'⟩, st⟩ := X.interfaceBack hx hown (mvT hZ w1) (mvT hZ w2) (mvT hZ w3 (by simp [Cond.onTables, Cond.keepsFace, Cond.keeps, Cond.steady, Cond.faceAtom, hxi.1, hxi.2])) (mvT hZ w4) (mvT hZ w5) (mvT hZ w6) (mvT hZ w7) (mvT hZ w8) hxi (backOf (W := W) M hZ wc wz hf hl) qa qb qc hg (by rw [hml]; exact hsz) (Steps.refl _) (argsL := argsL) (rest := rest) (lenOf hd hl2) hstack (by rw [hmr, hW]; omega) hdg (fun _ _ => ⟨ha, eT, hc, hs⟩)
  dsimp only [Pt.U, Pt.locs, Pt.cells, Pt.slots] at X' l' y' z' st hQ
  subst l' y' z'
  exact ⟨v, T', Lc, X', hQ, fun _ h => own_goS st h⟩
theorem own_cV {Z : State} {a0 : Array Value} {h : Heap} {own : String} {index : Nat} {C : String} {y : MethodName} (X : Stand p l e R s m args below meth c T locs cells slots) (hx : p.tables.exec = Jvm.exec) (hZ : Z.Warmed39 s.vm) (hown : s.vm.findClass own = some m.cls)
    (w1 : (Cond.methodLink own index y).before a0 Z = true) (w2 : (Cond.declares y).before a0 Z = true) (w4 : (Cond.selects C y y).before a0 Z = true) (w5 : (Cond.instanceMethod y).before a0 Z = true) (hxi : y.cls ≠ "java/lang/invoke/MethodHandle" ∧ y.cls ≠ "java/lang/invoke/VarHandle") {bts : ByteArray} {maxL W ml : Nat} {ret : Option FieldType} {rm : Room} {as' : Array Value} {Q : Option Value → Heap → List Loc → Prop} (M : own_Met l Z y bts maxL ret [] rm as' h Q) (wc : (Cond.code y bts maxL ret).before a0 Z = true) (wz : (Cond.initialized (MethodName.cls y)).before a0 Z = true) (hf : rm.frames + 1 ≤ R.frames) (hl : W + (maxL + 11) + rm.locals ≤ R.locals) (eT : T.heap = h) {b : Addr} (E : Exa Z h b C) {g : JFrame} (hg : g.method = m) (hml : c.maxLocals = ml) (hsz : g.locals.size = ml) {argsL rest : List Value} {ps : List FieldType} {r : Option FieldType} (hd : parseMethodDescriptor (MethodName.desc y) = some ⟨ps, r⟩) (hl2 : argsL.length = ps.length) (hstack : g.stack = argsL.reverse ++ .ref b :: rest) (hmr : g.monitorRoom = 0) (hW : (rest.map fun v => v.category).sum = W) (hdg : decode c.code g.pc = .ok (.invokevirtual index, 3)) (ha : (.ref b :: argsL).toArray = as') (hc : cells + rm.cells ≤ R.cells) (hs : slots + rm.slots ≤ R.slots) :
    ∃ v T' L', Stand p l e R s m args below meth c T' (locs ++ L') (cells + rm.cells) (slots + rm.slots) ∧ Q v T'.heap L' ∧ ∀ P, own_Goes p e below (T'.setTop { g with pc := g.pc + 3, stack := v.toList ++ rest }) P → own_Goes p e below (T.setTop g) P := by
  obtain ⟨cB, kB, qa, qb, qc⟩ := isOf hZ eT E
  obtain ⟨v, _, ⟨T', L', k', n'⟩, -, X', ⟨Lc, hQ, l', y', z'⟩, st⟩ := X.virtualBack hx hown (mvT hZ w1) (mvT hZ w2) (notFace_of_selects (args := #[]) (mvT hZ w4)) (mvT hZ w4) (mvT hZ w5) hxi (backOf (W := W) M hZ wc wz hf hl) qa qc hg (by rw [hml]; exact hsz) (Steps.refl _) (argsL := argsL) (rest := rest) (lenOf hd hl2) hstack (by rw [hmr, hW]; omega) hdg (fun _ _ => ⟨ha, eT, hc, hs⟩)
  dsimp only [Pt.U, Pt.locs, Pt.cells, Pt.slots] at X' l' y' z' st hQ
  subst l' y' z'
  exact ⟨v, T', Lc, X', hQ, fun _ h => own_goS st h⟩
theorem own_cVn {Z : State} {a0 : Array Value} {h : Heap} {own : String} {index : Nat} {C C2 : String} {y z w2_ z2 : MethodName} (X : Stand p l e R s m args below meth c T locs cells slots) (hx : p.tables.exec = Jvm.exec) (hZ : Z.Warmed39 s.vm) (hown : s.vm.findClass own = some m.cls)
    (w1 : (Cond.methodLink own index y).before a0 Z = true) (w2 : (Cond.declares y).before a0 Z = true) (w3 : (Cond.selects C2 w2_ z2).before a0 Z = true) (w3c : z2.cls = y.cls) (w4 : (Cond.selects C y z).before a0 Z = true) (w5 : (Cond.instanceMethod z).before a0 Z = true) (hxi : y.cls ≠ "java/lang/invoke/MethodHandle" ∧ y.cls ≠ "java/lang/invoke/VarHandle") {bts : ByteArray} {maxL W ml : Nat} {ret : Option FieldType} {rm : Room} {as' : Array Value} {Q : Option Value → Heap → List Loc → Prop} (M : own_Met l Z z bts maxL ret [] rm as' h Q) (wc : (Cond.code z bts maxL ret).before a0 Z = true) (wz : (Cond.initialized (MethodName.cls z)).before a0 Z = true) (hf : rm.frames + 1 ≤ R.frames) (hl : W + (maxL + 11) + rm.locals ≤ R.locals) (eT : T.heap = h) {b : Addr} (E : Exa Z h b C) {g : JFrame} (hg : g.method = m) (hml : c.maxLocals = ml) (hsz : g.locals.size = ml) {argsL rest : List Value} {ps : List FieldType} {r : Option FieldType} (hd : parseMethodDescriptor (MethodName.desc y) = some ⟨ps, r⟩) (hl2 : argsL.length = ps.length) (hstack : g.stack = argsL.reverse ++ .ref b :: rest) (hmr : g.monitorRoom = 0) (hW : (rest.map fun v => v.category).sum = W) (hdg : decode c.code g.pc = .ok (.invokevirtual index, 3)) (ha : (.ref b :: argsL).toArray = as') (hc : cells + rm.cells ≤ R.cells) (hs : slots + rm.slots ≤ R.slots) :
    ∃ v T' L', Stand p l e R s m args below meth c T' (locs ++ L') (cells + rm.cells) (slots + rm.slots) ∧ Q v T'.heap L' ∧ ∀ P, own_Goes p e below (T'.setTop { g with pc := g.pc + 3, stack := v.toList ++ rest }) P → own_Goes p e below (T.setTop g) P := by
  obtain ⟨cB, kB, qa, qb, qc⟩ := isOf hZ eT E
  obtain ⟨v, _, ⟨T', L', k', n'⟩, -, X', ⟨Lc, hQ, l', y', z'⟩, st⟩ := X.virtualBack hx hown (mvT hZ w1) (mvT hZ w2) (own_nf (args := #[]) (mvT hZ w3) w3c) (mvT hZ w4) (mvT hZ w5) hxi (backOf (W := W) M hZ wc wz hf hl) qa qc hg (by rw [hml]; exact hsz) (Steps.refl _) (argsL := argsL) (rest := rest) (lenOf hd hl2) hstack (by rw [hmr, hW]; omega) hdg (fun _ _ => ⟨ha, eT, hc, hs⟩)
  dsimp only [Pt.U, Pt.locs, Pt.cells, Pt.slots] at X' l' y' z' st hQ
  subst l' y' z'
  exact ⟨v, T', Lc, X', hQ, fun _ h => own_goS st h⟩
theorem own_cVU {Z : State} {a0 : Array Value} {h : Heap} {own : String} {index : Nat} {C owner : String} {y z : MethodName} (X : Stand p l e R s m args below meth c T locs cells slots) (hx : p.tables.exec = Jvm.exec) (hZ : Z.Warmed39 s.vm) (hown : s.vm.findClass own = some m.cls)
    (w1 : (Cond.methodLink own index y).before a0 Z = true) (w2 : (Cond.sameMethod y.cls owner y.name y.desc).before a0 Z = true) (w3 : (Cond.declares ⟨owner, y.name, y.desc⟩).before a0 Z = true) (w4 : (Cond.selects C y z).before a0 Z = true) (w5 : (Cond.instanceMethod z).before a0 Z = true) (hxi : owner ≠ "java/lang/invoke/MethodHandle" ∧ owner ≠ "java/lang/invoke/VarHandle") {bts : ByteArray} {maxL W ml : Nat} {ret : Option FieldType} {rm : Room} {as' : Array Value} {Q : Option Value → Heap → List Loc → Prop} (M : own_Met l Z z bts maxL ret [] rm as' h Q) (wc : (Cond.code z bts maxL ret).before a0 Z = true) (wz : (Cond.initialized (MethodName.cls z)).before a0 Z = true) (hf : rm.frames + 1 ≤ R.frames) (hl : W + (maxL + 11) + rm.locals ≤ R.locals) (eT : T.heap = h) {b : Addr} (E : Exa Z h b C) {g : JFrame} (hg : g.method = m) (hml : c.maxLocals = ml) (hsz : g.locals.size = ml) {argsL rest : List Value} {ps : List FieldType} {r : Option FieldType} (hd : parseMethodDescriptor (MethodName.desc y) = some ⟨ps, r⟩) (hl2 : argsL.length = ps.length) (hstack : g.stack = argsL.reverse ++ .ref b :: rest) (hmr : g.monitorRoom = 0) (hW : (rest.map fun v => v.category).sum = W) (hdg : decode c.code g.pc = .ok (.invokevirtual index, 3)) (ha : (.ref b :: argsL).toArray = as') (hc : cells + rm.cells ≤ R.cells) (hs : slots + rm.slots ≤ R.slots) :
    ∃ v T' L', Stand p l e R s m args below meth c T' (locs ++ L') (cells + rm.cells) (slots + rm.slots) ∧ Q v T'.heap L' ∧ ∀ P, own_Goes p e below (T'.setTop { g with pc := g.pc + 3, stack := v.toList ++ rest }) P → own_Goes p e below (T.setTop g) P := by
  obtain ⟨cB, kB, qa, qb, qc⟩ := isOf hZ eT E
  obtain ⟨v, _, ⟨T', L', k', n'⟩, -, X', ⟨Lc, hQ, l', y', z'⟩, st⟩ := X.virtualBackUp hx hown (mvT hZ w1) (mvT hZ w2) (mvT hZ w3) hxi (mvT hZ w4) (mvT hZ w5) (backOf (W := W) M hZ wc wz hf hl) qa qc hg (by rw [hml]; exact hsz) (Steps.refl _) (argsL := argsL) (rest := rest) (lenOf hd hl2) hstack (by rw [hmr, hW]; omega) hdg (fun _ _ => ⟨ha, eT, hc, hs⟩)
  dsimp only [Pt.U, Pt.locs, Pt.cells, Pt.slots] at X' l' y' z' st hQ
  subst l' y' z'
  exact ⟨v, T', Lc, X', hQ, fun _ h => own_goS st h⟩
theorem own_cN {Z : State} {a0 : Array Value} {h : Heap} {own : String} {index : Nat} {y : MethodName} (X : Stand p l e R s m args below meth c T locs cells slots) (hx : p.tables.exec = Jvm.exec) (hZ : Z.Warmed39 s.vm) (hown : s.vm.findClass own = some m.cls)
    (w1 : (Cond.methodLink own index y).before a0 Z = true) (w5 : (Cond.instanceMethod y).before a0 Z = true) (hy1 : y.name = "<init>") (hxi : y.cls ≠ "java/lang/invoke/MethodHandle" ∧ y.cls ≠ "java/lang/invoke/VarHandle") {bts : ByteArray} {maxL W ml : Nat} {rm : Room} {as' : Array Value} {Q : Option Value → Heap → List Loc → Prop} (M : own_Met l Z y bts maxL none [] rm as' h Q) (wc : (Cond.code y bts maxL none).before a0 Z = true) (wz : (Cond.initialized (MethodName.cls y)).before a0 Z = true) (hf : rm.frames + 1 ≤ R.frames) (hl : W + (maxL + 11) + rm.locals ≤ R.locals) (eT : T.heap = h) {b : Addr} {g : JFrame} (hg : g.method = m) (hml : c.maxLocals = ml) (hsz : g.locals.size = ml) {argsL rest : List Value} {ps : List FieldType} {r : Option FieldType} (hd : parseMethodDescriptor (MethodName.desc y) = some ⟨ps, r⟩) (hl2 : argsL.length = ps.length) (hstack : g.stack = argsL.reverse ++ .ref b :: rest) (hmr : g.monitorRoom = 0) (hW : (rest.map fun v => v.category).sum = W) (hdg : decode c.code g.pc = .ok (.invokespecial index, 3)) (ha : (.ref b :: argsL).toArray = as') (hc : cells + rm.cells ≤ R.cells) (hs : slots + rm.slots ≤ R.slots) :
    ∃ v T' L', Stand p l e R s m args below meth c T' (locs ++ L') (cells + rm.cells) (slots + rm.slots) ∧ Q v T'.heap L' ∧ ∀ P, own_Goes p e below (T'.setTop { g with pc := g.pc + 3, stack := v.toList ++ rest }) P → own_Goes p e below (T.setTop g) P := by
  obtain ⟨v, _, ⟨T', L', k', n'⟩, -, X', ⟨Lc, hQ, l', y', z'⟩, st⟩ := X.specialBack hx hy1 hown (mvT hZ w1) (mvT hZ w5) (mvT hZ wc) hxi (backOf (W := W) M hZ wc wz hf hl) hg (by rw [hml]; exact hsz) (Steps.refl _) (a := b) (argsL := argsL) (rest := rest) (lenOf hd hl2) hstack (by rw [hmr, hW]; omega) hdg (fun _ _ => ⟨ha, eT, hc, hs⟩)
  dsimp only [Pt.U, Pt.locs, Pt.cells, Pt.slots] at X' l' y' z' st hQ
  subst l' y' z'
  exact ⟨v, T', Lc, X', hQ, fun _ h => own_goS st h⟩
theorem own_cS {Z : State} {a0 : Array Value} {h : Heap} {own : String} {index : Nat} {y : MethodName} (X : Stand p l e R s m args below meth c T locs cells slots) (hx : p.tables.exec = Jvm.exec) (hZ : Z.Warmed39 s.vm) (hown : s.vm.findClass own = some m.cls)
    (w1 : (Cond.methodLink own index y).before a0 Z = true) (w5 : (Cond.static y).before a0 Z = true) (hxi : y.cls ≠ "java/lang/invoke/MethodHandle" ∧ y.cls ≠ "java/lang/invoke/VarHandle") {bts : ByteArray} {maxL W ml : Nat} {ret : Option FieldType} {rm : Room} {as' : Array Value} {Q : Option Value → Heap → List Loc → Prop} (M : own_Met l Z y bts maxL ret [] rm as' h Q) (wc : (Cond.code y bts maxL ret).before a0 Z = true) (wz : (Cond.initialized (MethodName.cls y)).before a0 Z = true) (hf : rm.frames + 1 ≤ R.frames) (hl : W + (maxL + 11) + rm.locals ≤ R.locals) (eT : T.heap = h) {g : JFrame} (hg : g.method = m) (hml : c.maxLocals = ml) (hsz : g.locals.size = ml) {argsL rest : List Value} {ps : List FieldType} {r : Option FieldType} (hd : parseMethodDescriptor (MethodName.desc y) = some ⟨ps, r⟩) (hl2 : argsL.length = ps.length) (hstack : g.stack = argsL.reverse ++ rest) (hmr : g.monitorRoom = 0) (hW : (rest.map fun v => v.category).sum = W) (hdg : decode c.code g.pc = .ok (.invokestatic index, 3)) (ha : argsL.toArray = as') (hc : cells + rm.cells ≤ R.cells) (hs : slots + rm.slots ≤ R.slots) :
    ∃ v T' L', Stand p l e R s m args below meth c T' (locs ++ L') (cells + rm.cells) (slots + rm.slots) ∧ Q v T'.heap L' ∧ ∀ P, own_Goes p e below (T'.setTop { g with pc := g.pc + 3, stack := v.toList ++ rest }) P → own_Goes p e below (T.setTop g) P := by
  obtain ⟨v, _, ⟨T', L', k', n'⟩, -, X', ⟨Lc, hQ, l', y', z'⟩, st⟩ := Jvm.LawKit.callS X hx hown (mvT hZ w1) (mvT hZ w5) (mvT hZ wz) (mvT hZ wc) hxi (backOf (W := W) M hZ wc wz hf hl) hg (by rw [hml]; exact hsz) (argsL := argsL) (rest := rest) (lenOf hd hl2) hstack (by rw [hmr, hW]; omega) hdg (fun _ _ => ⟨ha, eT, hc, hs⟩)
  dsimp only [Pt.U, Pt.locs, Pt.cells, Pt.slots] at X' l' y' z' st hQ
  subst l' y' z'
  exact ⟨v, T', Lc, X', hQ, fun _ h => gg st h⟩
theorem q_aloadN {bts : ByteArray} {pc : Nat} {Ls : Array Slot} {P : Outcome → State → Prop} {S : List Value} {k : Fin 4} {v : Value} (X : Stand p l e R s m args below meth c T locs cells slots) (hx : p.tables.exec = Jvm.exec) (hby : c.code = bts) (d : decode bts pc = .ok (.aload_n k, 1)) (h1 : Ls[k.val]? = some (.val v)) (h2 : v.isRef = true) (K : own_Goes p e below (T.setTop (mkF m (pc + 1) Ls (v :: S))) P) : own_Goes p e below (T.setTop (mkF m pc Ls S)) P := gg (fun t k => XS.aloadN X.here hx rfl (hb hby d) h1 h2 k) K
theorem q_aload {bts : ByteArray} {pc : Nat} {Ls : Array Slot} {P : Outcome → State → Prop} {S : List Value} {k : Nat} {v : Value} (X : Stand p l e R s m args below meth c T locs cells slots) (hx : p.tables.exec = Jvm.exec) (hby : c.code = bts) (d : decode bts pc = .ok (.aload k, 2)) (h1 : Ls[k]? = some (.val v)) (h2 : v.isRef = true) (K : own_Goes p e below (T.setTop (mkF m (pc + 2) Ls (v :: S))) P) : own_Goes p e below (T.setTop (mkF m pc Ls S)) P := gg (fun t k => XS.aload X.here hx rfl (hb hby d) h1 h2 k) K
theorem q_iloadN {bts : ByteArray} {pc : Nat} {Ls : Array Slot} {P : Outcome → State → Prop} {S : List Value} {k : Fin 4} {v : Int32} (X : Stand p l e R s m args below meth c T locs cells slots) (hx : p.tables.exec = Jvm.exec) (hby : c.code = bts) (d : decode bts pc = .ok (.iload_n k, 1)) (h1 : Ls[k.val]? = some (vI v)) (K : own_Goes p e below (T.setTop (mkF m (pc + 1) Ls (.int v :: S))) P) : own_Goes p e below (T.setTop (mkF m pc Ls S)) P := gg (fun t k => XS.iloadN X.here hx rfl (hb hby d) h1 k) K
theorem q_iload {bts : ByteArray} {pc : Nat} {Ls : Array Slot} {P : Outcome → State → Prop} {S : List Value} {k : Nat} {v : Int32} (X : Stand p l e R s m args below meth c T locs cells slots) (hx : p.tables.exec = Jvm.exec) (hby : c.code = bts) (d : decode bts pc = .ok (.iload k, 2)) (h1 : Ls[k]? = some (vI v)) (K : own_Goes p e below (T.setTop (mkF m (pc + 2) Ls (.int v :: S))) P) : own_Goes p e below (T.setTop (mkF m pc Ls S)) P := gg (fun t k => XS.iload X.here hx rfl (hb hby d) h1 k) K
theorem q_iconst {bts : ByteArray} {pc : Nat} {Ls : Array Slot} {P : Outcome → State → Prop} {S : List Value} {i : Int} (X : Stand p l e R s m args below meth c T locs cells slots) (hx : p.tables.exec = Jvm.exec) (hby : c.code = bts) (d : decode bts pc = .ok (.iconst i, 1)) (K : own_Goes p e below (T.setTop (mkF m (pc + 1) Ls (.int (Int32.ofInt i) :: S))) P) : own_Goes p e below (T.setTop (mkF m pc Ls S)) P := gg (fun t k => XS.iconst X.here hx rfl (hb hby d) k) K
theorem q_bipush {bts : ByteArray} {pc : Nat} {Ls : Array Slot} {P : Outcome → State → Prop} {S : List Value} {i : Int} (X : Stand p l e R s m args below meth c T locs cells slots) (hx : p.tables.exec = Jvm.exec) (hby : c.code = bts) (d : decode bts pc = .ok (.bipush i, 2)) (K : own_Goes p e below (T.setTop (mkF m (pc + 2) Ls (.int (Int8.ofInt i).toInt32 :: S))) P) : own_Goes p e below (T.setTop (mkF m pc Ls S)) P := gg (fun t k => XS.bipush X.here hx rfl (hb hby d) k) K
theorem q_sipush {bts : ByteArray} {pc : Nat} {Ls : Array Slot} {P : Outcome → State → Prop} {S : List Value} {i : Int} (X : Stand p l e R s m args below meth c T locs cells slots) (hx : p.tables.exec = Jvm.exec) (hby : c.code = bts) (d : decode bts pc = .ok (.sipush i, 3)) (K : own_Goes p e below (T.setTop (mkF m (pc + 3) Ls (.int (Int16.ofInt i).toInt32 :: S))) P) : own_Goes p e below (T.setTop (mkF m pc Ls S)) P := gg (fun t k => XS.sipush X.here hx rfl (hb hby d) k) K
theorem q_aconstNull {bts : ByteArray} {pc : Nat} {Ls : Array Slot} {P : Outcome → State → Prop} {S : List Value}  (X : Stand p l e R s m args below meth c T locs cells slots) (hx : p.tables.exec = Jvm.exec) (hby : c.code = bts) (d : decode bts pc = .ok (.aconst_null, 1)) (K : own_Goes p e below (T.setTop (mkF m (pc + 1) Ls (.null :: S))) P) : own_Goes p e below (T.setTop (mkF m pc Ls S)) P := gg (fun t k => XS.aconstNull X.here hx rfl (hb hby d) k) K
theorem q_iadd {bts : ByteArray} {pc : Nat} {Ls : Array Slot} {P : Outcome → State → Prop} {S : List Value} {x y : Int32} (X : Stand p l e R s m args below meth c T locs cells slots) (hx : p.tables.exec = Jvm.exec) (hby : c.code = bts) (d : decode bts pc = .ok (.iadd, 1)) (K : own_Goes p e below (T.setTop (mkF m (pc + 1) Ls (.int (x + y) :: S))) P) : own_Goes p e below (T.setTop (mkF m pc Ls (.int y :: .int x :: S))) P := gg (fun t k => XS.iadd X.here hx rfl (hb hby d) rfl k) K
theorem q_isub {bts : ByteArray} {pc : Nat} {Ls : Array Slot} {P : Outcome → State → Prop} {S : List Value} {x y : Int32} (X : Stand p l e R s m args below meth c T locs cells slots) (hx : p.tables.exec = Jvm.exec) (hby : c.code = bts) (d : decode bts pc = .ok (.isub, 1)) (K : own_Goes p e below (T.setTop (mkF m (pc + 1) Ls (.int (x - y) :: S))) P) : own_Goes p e below (T.setTop (mkF m pc Ls (.int y :: .int x :: S))) P := gg (fun t k => XS.isub X.here hx rfl (hb hby d) rfl k) K
theorem q_iand {bts : ByteArray} {pc : Nat} {Ls : Array Slot} {P : Outcome → State → Prop} {S : List Value} {x y : Int32} (X : Stand p l e R s m args below meth c T locs cells slots) (hx : p.tables.exec = Jvm.exec) (hby : c.code = bts) (d : decode bts pc = .ok (.iand, 1)) (K : own_Goes p e below (T.setTop (mkF m (pc + 1) Ls (.int (x &&& y) :: S))) P) : own_Goes p e below (T.setTop (mkF m pc Ls (.int y :: .int x :: S))) P := gg (fun t k => XS.iand X.here hx rfl (hb hby d) rfl k) K
theorem q_imul {bts : ByteArray} {pc : Nat} {Ls : Array Slot} {P : Outcome → State → Prop} {S : List Value} {x y : Int32} (X : Stand p l e R s m args below meth c T locs cells slots) (hx : p.tables.exec = Jvm.exec) (hby : c.code = bts) (d : decode bts pc = .ok (.imul, 1)) (K : own_Goes p e below (T.setTop (mkF m (pc + 1) Ls (.int (x * y) :: S))) P) : own_Goes p e below (T.setTop (mkF m pc Ls (.int y :: .int x :: S))) P := gg (fun t k => XS.imul X.here hx rfl (hb hby d) rfl k) K
theorem q_dup {bts : ByteArray} {pc : Nat} {Ls : Array Slot} {P : Outcome → State → Prop} {S : List Value} {x : Value} (X : Stand p l e R s m args below meth c T locs cells slots) (hx : p.tables.exec = Jvm.exec) (hby : c.code = bts) (d : decode bts pc = .ok (.dup, 1)) (h1 : x.category = 1) (K : own_Goes p e below (T.setTop (mkF m (pc + 1) Ls (x :: x :: S))) P) : own_Goes p e below (T.setTop (mkF m pc Ls (x :: S))) P := gg (fun t k => XS.dup X.here hx rfl (hb hby d) rfl h1 k) K
theorem q_istoreN {bts : ByteArray} {pc : Nat} {Ls : Array Slot} {P : Outcome → State → Prop} {S : List Value} {k : Fin 4} {x : Int32} {l' : Array Slot} (X : Stand p l e R s m args below meth c T locs cells slots) (hx : p.tables.exec = Jvm.exec) (hby : c.code = bts) (d : decode bts pc = .ok (.istore_n k, 1)) (h1 : storeLocals Ls k.val (.int x) = some l') (K : own_Goes p e below (T.setTop (mkF m (pc + 1) l' S)) P) : own_Goes p e below (T.setTop (mkF m pc Ls (.int x :: S))) P := gg (fun t k => XS.istoreN X.here hx rfl (hb hby d) rfl h1 k) K
theorem q_istore {bts : ByteArray} {pc : Nat} {Ls : Array Slot} {P : Outcome → State → Prop} {S : List Value} {k : Nat} {x : Int32} {l' : Array Slot} (X : Stand p l e R s m args below meth c T locs cells slots) (hx : p.tables.exec = Jvm.exec) (hby : c.code = bts) (d : decode bts pc = .ok (.istore k, 2)) (h1 : storeLocals Ls k (.int x) = some l') (K : own_Goes p e below (T.setTop (mkF m (pc + 2) l' S)) P) : own_Goes p e below (T.setTop (mkF m pc Ls (.int x :: S))) P := gg (fun t k => XS.istore X.here hx rfl (hb hby d) rfl h1 k) K
theorem q_astoreN {bts : ByteArray} {pc : Nat} {Ls : Array Slot} {P : Outcome → State → Prop} {S : List Value} {k : Fin 4} {x : Value} {l' : Array Slot} (X : Stand p l e R s m args below meth c T locs cells slots) (hx : p.tables.exec = Jvm.exec) (hby : c.code = bts) (d : decode bts pc = .ok (.astore_n k, 1)) (h2 : x.isRef = true) (h1 : storeLocals Ls k.val x = some l') (K : own_Goes p e below (T.setTop (mkF m (pc + 1) l' S)) P) : own_Goes p e below (T.setTop (mkF m pc Ls (x :: S))) P := gg (fun t k => XS.astoreN X.here hx rfl (hb hby d) rfl h2 h1 k) K
theorem q_astore {bts : ByteArray} {pc : Nat} {Ls : Array Slot} {P : Outcome → State → Prop} {S : List Value} {k : Nat} {x : Value} {l' : Array Slot} (X : Stand p l e R s m args below meth c T locs cells slots) (hx : p.tables.exec = Jvm.exec) (hby : c.code = bts) (d : decode bts pc = .ok (.astore k, 2)) (h2 : x.isRef = true) (h1 : storeLocals Ls k x = some l') (K : own_Goes p e below (T.setTop (mkF m (pc + 2) l' S)) P) : own_Goes p e below (T.setTop (mkF m pc Ls (x :: S))) P := gg (fun t k => XS.astore X.here hx rfl (hb hby d) rfl h2 h1 k) K
theorem q_goto {bts : ByteArray} {pc : Nat} {Ls : Array Slot} {P : Outcome → State → Prop} {S : List Value} {o : Int} {pc' : Nat} (X : Stand p l e R s m args below meth c T locs cells slots) (hx : p.tables.exec = Jvm.exec) (hby : c.code = bts) (d : decode bts pc = .ok (.goto o, 3)) (ho : 0 ≤ (pc : Int) + o) (hp : ((pc : Int) + o).toNat = pc') (K : own_Goes p e below (T.setTop (mkF m pc' Ls S)) P) : own_Goes p e below (T.setTop (mkF m pc Ls S)) P := gg (fun t k => XS.goto X.here hx rfl rfl (hb hby d) ho hp k) K
theorem q_ifYes {bts : ByteArray} {pc : Nat} {Ls : Array Slot} {P : Outcome → State → Prop} {S : List Value} {cd : ClassFile.Cond} {x : Int32} {o : Int} {pc' : Nat} (X : Stand p l e R s m args below meth c T locs cells slots) (hx : p.tables.exec = Jvm.exec) (hby : c.code = bts) (d : decode bts pc = .ok (.ifCond cd o, 3)) (h1 : ifCond.holds cd x = true) (ho : 0 ≤ (pc : Int) + o) (hp : ((pc : Int) + o).toNat = pc') (K : own_Goes p e below (T.setTop (mkF m pc' Ls S)) P) : own_Goes p e below (T.setTop (mkF m pc Ls (.int x :: S))) P := gg (fun t k => XS.ifYes X.here hx rfl rfl (hb hby d) rfl h1 ho hp k) K
theorem q_ifNo {bts : ByteArray} {pc : Nat} {Ls : Array Slot} {P : Outcome → State → Prop} {S : List Value} {cd : ClassFile.Cond} {x : Int32} {o : Int} (X : Stand p l e R s m args below meth c T locs cells slots) (hx : p.tables.exec = Jvm.exec) (hby : c.code = bts) (d : decode bts pc = .ok (.ifCond cd o, 3)) (h1 : ifCond.holds cd x = false) (K : own_Goes p e below (T.setTop (mkF m (pc + 3) Ls S)) P) : own_Goes p e below (T.setTop (mkF m pc Ls (.int x :: S))) P := gg (fun t k => XS.ifNo X.here hx rfl (hb hby d) rfl h1 k) K
theorem q_icmpYes {bts : ByteArray} {pc : Nat} {Ls : Array Slot} {P : Outcome → State → Prop} {S : List Value} {cd : ClassFile.Cond} {x y : Int32} {o : Int} {pc' : Nat} (X : Stand p l e R s m args below meth c T locs cells slots) (hx : p.tables.exec = Jvm.exec) (hby : c.code = bts) (d : decode bts pc = .ok (.if_icmp cd o, 3)) (h1 : if_icmp.holds cd x y = true) (ho : 0 ≤ (pc : Int) + o) (hp : ((pc : Int) + o).toNat = pc') (K : own_Goes p e below (T.setTop (mkF m pc' Ls S)) P) : own_Goes p e below (T.setTop (mkF m pc Ls (.int y :: .int x :: S))) P := gg (fun t k => XS.icmpYes X.here hx rfl rfl (hb hby d) rfl h1 ho hp k) K
theorem q_icmpNo {bts : ByteArray} {pc : Nat} {Ls : Array Slot} {P : Outcome → State → Prop} {S : List Value} {cd : ClassFile.Cond} {x y : Int32} {o : Int} (X : Stand p l e R s m args below meth c T locs cells slots) (hx : p.tables.exec = Jvm.exec) (hby : c.code = bts) (d : decode bts pc = .ok (.if_icmp cd o, 3)) (h1 : if_icmp.holds cd x y = false) (K : own_Goes p e below (T.setTop (mkF m (pc + 3) Ls S)) P) : own_Goes p e below (T.setTop (mkF m pc Ls (.int y :: .int x :: S))) P := gg (fun t k => XS.icmpNo X.here hx rfl (hb hby d) rfl h1 k) K
theorem q_ifnullYes {bts : ByteArray} {pc : Nat} {Ls : Array Slot} {P : Outcome → State → Prop} {S : List Value} {o : Int} {pc' : Nat} (X : Stand p l e R s m args below meth c T locs cells slots) (hx : p.tables.exec = Jvm.exec) (hby : c.code = bts) (d : decode bts pc = .ok (.ifnull o, 3)) (ho : 0 ≤ (pc : Int) + o) (hp : ((pc : Int) + o).toNat = pc') (K : own_Goes p e below (T.setTop (mkF m pc' Ls S)) P) : own_Goes p e below (T.setTop (mkF m pc Ls (.null :: S))) P := gg (fun t k => XS.ifnullYes X.here hx rfl rfl (hb hby d) rfl ho hp k) K
theorem q_ifnullNo {bts : ByteArray} {pc : Nat} {Ls : Array Slot} {P : Outcome → State → Prop} {S : List Value} {o : Int} {b : Addr} (X : Stand p l e R s m args below meth c T locs cells slots) (hx : p.tables.exec = Jvm.exec) (hby : c.code = bts) (d : decode bts pc = .ok (.ifnull o, 3)) (K : own_Goes p e below (T.setTop (mkF m (pc + 3) Ls S)) P) : own_Goes p e below (T.setTop (mkF m pc Ls (.ref b :: S))) P := gg (fun t k => XS.ifnullNo X.here hx rfl (hb hby d) rfl k) K
theorem k_I {bt0 : ByteArray} {pc : Nat} {Ls : Array Slot} {S : List Value} {P : Outcome → State → Prop} {Z : State} {a0 : Array Value} {h : Heap} {own : String} {index : Nat} {count : Nat} {C : String} {xi y : MethodName} (X : Stand p l e R s m args below meth c T locs cells slots) (hx : p.tables.exec = Jvm.exec) (hby : c.code = bt0) (hZ : Z.Warmed39 s.vm) (hown : s.vm.findClass own = some m.cls) (w1 : (Cond.methodLink own index xi).before a0 Z = true) (w2 : (Cond.declares xi).before a0 Z = true) (w3 : (Cond.interfaceMethod xi.cls xi.cls xi.name xi.desc).before a0 Z = true) (w4 : (Cond.selects C xi y).before a0 Z = true) (w5 : (Cond.instanceMethod y).before a0 Z = true) (w6 : (Cond.publicMethod y).before a0 Z = true) (w7 : (Cond.unhidden C xi.name xi.desc).before a0 Z = true) (w8 : (Cond.castable C xi.cls).before a0 Z = true) {bts : ByteArray} {maxL W ml : Nat} {ret : Option FieldType} {rm : Room} {as' : Array Value} {Q : Option Value → Heap → List Loc → Prop} (M : own_Met l Z y bts maxL ret [] rm as' h Q) (wc : (Cond.code y bts maxL ret).before a0 Z = true) (wz : (Cond.initialized (MethodName.cls y)).before a0 Z = true) (eT : T.heap = h) {b : Addr} (E : Exa Z h b C) (hml : c.maxLocals = ml) {argsL rest : List Value} {ps : List FieldType} {r : Option FieldType} (hd : parseMethodDescriptor (MethodName.desc xi) = some ⟨ps, r⟩) (d : decode bt0 pc = .ok (.invokeinterface index count, 5)) (K : ∀ (v : Option Value) (T' : State) (L' : List Loc), Stand p l e R s m args below meth c T' (locs ++ L') (cells + rm.cells) (slots + rm.slots) → Q v T'.heap L' → own_Goes p e below (T'.setTop (mkF m (pc + 5) Ls (v.toList ++ rest))) P) (hxi : xi.cls ≠ "java/lang/invoke/MethodHandle" ∧ xi.cls ≠ "java/lang/invoke/VarHandle" := by decide) (hf : rm.frames + 1 ≤ R.frames := by decide) (hl : W + (maxL + 11) + rm.locals ≤ R.locals := by decide) (hg : (mkF m pc Ls S).method = m := by rfl) (hsz : (mkF m pc Ls S).locals.size = ml := by rfl) (hl2 : argsL.length = ps.length := by rfl) (hstack : (mkF m pc Ls S).stack = argsL.reverse ++ .ref b :: rest := by rfl) (hmr : (mkF m pc Ls S).monitorRoom = 0 := by rfl) (hW : (rest.map fun v => v.category).sum = W := by rfl) (ha : (.ref b :: argsL).toArray = as' := by rfl) (hc : cells + rm.cells ≤ R.cells := by decide) (hs : slots + rm.slots ≤ R.slots := by decide) : own_Goes p e below (T.setTop (mkF m pc Ls S)) P := by
  obtain ⟨v, T', L', X', hQ, st⟩ := own_cI X hx hZ hown w1 w2 w3 w4 w5 w6 w7 w8 hxi M wc wz hf hl eT E (g := (mkF m pc Ls S)) hg hml hsz hd hl2 hstack hmr hW (hb hby d) ha hc hs
  exact st _ (K v T' L' X' hQ)
theorem k_V {bt0 : ByteArray} {pc : Nat} {Ls : Array Slot} {S : List Value} {P : Outcome → State → Prop} {Z : State} {a0 : Array Value} {h : Heap} {own : String} {index : Nat} {C : String} {y : MethodName} (X : Stand p l e R s m args below meth c T locs cells slots) (hx : p.tables.exec = Jvm.exec) (hby : c.code = bt0) (hZ : Z.Warmed39 s.vm) (hown : s.vm.findClass own = some m.cls) (w1 : (Cond.methodLink own index y).before a0 Z = true) (w2 : (Cond.declares y).before a0 Z = true) (w4 : (Cond.selects C y y).before a0 Z = true) (w5 : (Cond.instanceMethod y).before a0 Z = true) {bts : ByteArray} {maxL W ml : Nat} {ret : Option FieldType} {rm : Room} {as' : Array Value} {Q : Option Value → Heap → List Loc → Prop} (M : own_Met l Z y bts maxL ret [] rm as' h Q) (wc : (Cond.code y bts maxL ret).before a0 Z = true) (wz : (Cond.initialized (MethodName.cls y)).before a0 Z = true) (eT : T.heap = h) {b : Addr} (E : Exa Z h b C) (hml : c.maxLocals = ml) {argsL rest : List Value} {ps : List FieldType} {r : Option FieldType} (hd : parseMethodDescriptor (MethodName.desc y) = some ⟨ps, r⟩) (d : decode bt0 pc = .ok (.invokevirtual index, 3)) (K : ∀ (v : Option Value) (T' : State) (L' : List Loc), Stand p l e R s m args below meth c T' (locs ++ L') (cells + rm.cells) (slots + rm.slots) → Q v T'.heap L' → own_Goes p e below (T'.setTop (mkF m (pc + 3) Ls (v.toList ++ rest))) P) (hxi : y.cls ≠ "java/lang/invoke/MethodHandle" ∧ y.cls ≠ "java/lang/invoke/VarHandle" := by decide) (hf : rm.frames + 1 ≤ R.frames := by decide) (hl : W + (maxL + 11) + rm.locals ≤ R.locals := by decide) (hg : (mkF m pc Ls S).method = m := by rfl) (hsz : (mkF m pc Ls S).locals.size = ml := by rfl) (hl2 : argsL.length = ps.length := by rfl) (hstack : (mkF m pc Ls S).stack = argsL.reverse ++ .ref b :: rest := by rfl) (hmr : (mkF m pc Ls S).monitorRoom = 0 := by rfl) (hW : (rest.map fun v => v.category).sum = W := by rfl) (ha : (.ref b :: argsL).toArray = as' := by rfl) (hc : cells + rm.cells ≤ R.cells := by decide) (hs : slots + rm.slots ≤ R.slots := by decide) : own_Goes p e below (T.setTop (mkF m pc Ls S)) P := by
  obtain ⟨v, T', L', X', hQ, st⟩ := own_cV X hx hZ hown w1 w2 w4 w5 hxi M wc wz hf hl eT E (g := (mkF m pc Ls S)) hg hml hsz hd hl2 hstack hmr hW (hb hby d) ha hc hs
  exact st _ (K v T' L' X' hQ)
theorem k_Vn {bt0 : ByteArray} {pc : Nat} {Ls : Array Slot} {S : List Value} {P : Outcome → State → Prop} {Z : State} {a0 : Array Value} {h : Heap} {own : String} {index : Nat} {C C2 : String} {y z w2_ z2 : MethodName} (X : Stand p l e R s m args below meth c T locs cells slots) (hx : p.tables.exec = Jvm.exec) (hby : c.code = bt0) (hZ : Z.Warmed39 s.vm) (hown : s.vm.findClass own = some m.cls) (w1 : (Cond.methodLink own index y).before a0 Z = true) (w2 : (Cond.declares y).before a0 Z = true) (w3 : (Cond.selects C2 w2_ z2).before a0 Z = true) (w4 : (Cond.selects C y z).before a0 Z = true) (w5 : (Cond.instanceMethod z).before a0 Z = true) {bts : ByteArray} {maxL W ml : Nat} {ret : Option FieldType} {rm : Room} {as' : Array Value} {Q : Option Value → Heap → List Loc → Prop} (M : own_Met l Z z bts maxL ret [] rm as' h Q) (wc : (Cond.code z bts maxL ret).before a0 Z = true) (wz : (Cond.initialized (MethodName.cls z)).before a0 Z = true) (eT : T.heap = h) {b : Addr} (E : Exa Z h b C) (hml : c.maxLocals = ml) {argsL rest : List Value} {ps : List FieldType} {r : Option FieldType} (hd : parseMethodDescriptor (MethodName.desc y) = some ⟨ps, r⟩) (d : decode bt0 pc = .ok (.invokevirtual index, 3)) (K : ∀ (v : Option Value) (T' : State) (L' : List Loc), Stand p l e R s m args below meth c T' (locs ++ L') (cells + rm.cells) (slots + rm.slots) → Q v T'.heap L' → own_Goes p e below (T'.setTop (mkF m (pc + 3) Ls (v.toList ++ rest))) P) (w3c : z2.cls = y.cls := by rfl) (hxi : y.cls ≠ "java/lang/invoke/MethodHandle" ∧ y.cls ≠ "java/lang/invoke/VarHandle" := by decide) (hf : rm.frames + 1 ≤ R.frames := by decide) (hl : W + (maxL + 11) + rm.locals ≤ R.locals := by decide) (hg : (mkF m pc Ls S).method = m := by rfl) (hsz : (mkF m pc Ls S).locals.size = ml := by rfl) (hl2 : argsL.length = ps.length := by rfl) (hstack : (mkF m pc Ls S).stack = argsL.reverse ++ .ref b :: rest := by rfl) (hmr : (mkF m pc Ls S).monitorRoom = 0 := by rfl) (hW : (rest.map fun v => v.category).sum = W := by rfl) (ha : (.ref b :: argsL).toArray = as' := by rfl) (hc : cells + rm.cells ≤ R.cells := by decide) (hs : slots + rm.slots ≤ R.slots := by decide) : own_Goes p e below (T.setTop (mkF m pc Ls S)) P := by
  obtain ⟨v, T', L', X', hQ, st⟩ := own_cVn X hx hZ hown w1 w2 w3 w3c w4 w5 hxi M wc wz hf hl eT E (g := (mkF m pc Ls S)) hg hml hsz hd hl2 hstack hmr hW (hb hby d) ha hc hs
  exact st _ (K v T' L' X' hQ)
theorem k_VU {bt0 : ByteArray} {pc : Nat} {Ls : Array Slot} {S : List Value} {P : Outcome → State → Prop} {Z : State} {a0 : Array Value} {h : Heap} {own : String} {index : Nat} {C owner : String} {y z : MethodName} (X : Stand p l e R s m args below meth c T locs cells slots) (hx : p.tables.exec = Jvm.exec) (hby : c.code = bt0) (hZ : Z.Warmed39 s.vm) (hown : s.vm.findClass own = some m.cls) (w1 : (Cond.methodLink own index y).before a0 Z = true) (w2 : (Cond.sameMethod y.cls owner y.name y.desc).before a0 Z = true) (w3 : (Cond.declares ⟨owner, y.name, y.desc⟩).before a0 Z = true) (w4 : (Cond.selects C y z).before a0 Z = true) (w5 : (Cond.instanceMethod z).before a0 Z = true) {bts : ByteArray} {maxL W ml : Nat} {ret : Option FieldType} {rm : Room} {as' : Array Value} {Q : Option Value → Heap → List Loc → Prop} (M : own_Met l Z z bts maxL ret [] rm as' h Q) (wc : (Cond.code z bts maxL ret).before a0 Z = true) (wz : (Cond.initialized (MethodName.cls z)).before a0 Z = true) (eT : T.heap = h) {b : Addr} (E : Exa Z h b C) (hml : c.maxLocals = ml) {argsL rest : List Value} {ps : List FieldType} {r : Option FieldType} (hd : parseMethodDescriptor (MethodName.desc y) = some ⟨ps, r⟩) (d : decode bt0 pc = .ok (.invokevirtual index, 3)) (K : ∀ (v : Option Value) (T' : State) (L' : List Loc), Stand p l e R s m args below meth c T' (locs ++ L') (cells + rm.cells) (slots + rm.slots) → Q v T'.heap L' → own_Goes p e below (T'.setTop (mkF m (pc + 3) Ls (v.toList ++ rest))) P) (hxi : owner ≠ "java/lang/invoke/MethodHandle" ∧ owner ≠ "java/lang/invoke/VarHandle" := by decide) (hf : rm.frames + 1 ≤ R.frames := by decide) (hl : W + (maxL + 11) + rm.locals ≤ R.locals := by decide) (hg : (mkF m pc Ls S).method = m := by rfl) (hsz : (mkF m pc Ls S).locals.size = ml := by rfl) (hl2 : argsL.length = ps.length := by rfl) (hstack : (mkF m pc Ls S).stack = argsL.reverse ++ .ref b :: rest := by rfl) (hmr : (mkF m pc Ls S).monitorRoom = 0 := by rfl) (hW : (rest.map fun v => v.category).sum = W := by rfl) (ha : (.ref b :: argsL).toArray = as' := by rfl) (hc : cells + rm.cells ≤ R.cells := by decide) (hs : slots + rm.slots ≤ R.slots := by decide) : own_Goes p e below (T.setTop (mkF m pc Ls S)) P := by
  obtain ⟨v, T', L', X', hQ, st⟩ := own_cVU X hx hZ hown w1 w2 w3 w4 w5 hxi M wc wz hf hl eT E (g := (mkF m pc Ls S)) hg hml hsz hd hl2 hstack hmr hW (hb hby d) ha hc hs
  exact st _ (K v T' L' X' hQ)
theorem k_N {bt0 : ByteArray} {pc : Nat} {Ls : Array Slot} {S : List Value} {P : Outcome → State → Prop} {Z : State} {a0 : Array Value} {h : Heap} {own : String} {index : Nat} {y : MethodName} (X : Stand p l e R s m args below meth c T locs cells slots) (hx : p.tables.exec = Jvm.exec) (hby : c.code = bt0) (hZ : Z.Warmed39 s.vm) (hown : s.vm.findClass own = some m.cls) (w1 : (Cond.methodLink own index y).before a0 Z = true) (w5 : (Cond.instanceMethod y).before a0 Z = true) {bts : ByteArray} {maxL W ml : Nat} {rm : Room} {as' : Array Value} {Q : Option Value → Heap → List Loc → Prop} (M : own_Met l Z y bts maxL none [] rm as' h Q) (wc : (Cond.code y bts maxL none).before a0 Z = true) (wz : (Cond.initialized (MethodName.cls y)).before a0 Z = true) (eT : T.heap = h) {b : Addr} (hml : c.maxLocals = ml) {argsL rest : List Value} {ps : List FieldType} {r : Option FieldType} (hd : parseMethodDescriptor (MethodName.desc y) = some ⟨ps, r⟩) (d : decode bt0 pc = .ok (.invokespecial index, 3)) (K : ∀ (v : Option Value) (T' : State) (L' : List Loc), Stand p l e R s m args below meth c T' (locs ++ L') (cells + rm.cells) (slots + rm.slots) → Q v T'.heap L' → own_Goes p e below (T'.setTop (mkF m (pc + 3) Ls (v.toList ++ rest))) P) (hy1 : y.name = "<init>" := by rfl) (hxi : y.cls ≠ "java/lang/invoke/MethodHandle" ∧ y.cls ≠ "java/lang/invoke/VarHandle" := by decide) (hf : rm.frames + 1 ≤ R.frames := by decide) (hl : W + (maxL + 11) + rm.locals ≤ R.locals := by decide) (hg : (mkF m pc Ls S).method = m := by rfl) (hsz : (mkF m pc Ls S).locals.size = ml := by rfl) (hl2 : argsL.length = ps.length := by rfl) (hstack : (mkF m pc Ls S).stack = argsL.reverse ++ .ref b :: rest := by rfl) (hmr : (mkF m pc Ls S).monitorRoom = 0 := by rfl) (hW : (rest.map fun v => v.category).sum = W := by rfl) (ha : (.ref b :: argsL).toArray = as' := by rfl) (hc : cells + rm.cells ≤ R.cells := by decide) (hs : slots + rm.slots ≤ R.slots := by decide) : own_Goes p e below (T.setTop (mkF m pc Ls S)) P := by
  obtain ⟨v, T', L', X', hQ, st⟩ := own_cN X hx hZ hown w1 w5 hy1 hxi M wc wz hf hl eT (g := (mkF m pc Ls S)) hg hml hsz hd hl2 hstack hmr hW (hb hby d) ha hc hs
  exact st _ (K v T' L' X' hQ)
theorem k_S {bt0 : ByteArray} {pc : Nat} {Ls : Array Slot} {S : List Value} {P : Outcome → State → Prop} {Z : State} {a0 : Array Value} {h : Heap} {own : String} {index : Nat} {y : MethodName} (X : Stand p l e R s m args below meth c T locs cells slots) (hx : p.tables.exec = Jvm.exec) (hby : c.code = bt0) (hZ : Z.Warmed39 s.vm) (hown : s.vm.findClass own = some m.cls) (w1 : (Cond.methodLink own index y).before a0 Z = true) (w5 : (Cond.static y).before a0 Z = true) {bts : ByteArray} {maxL W ml : Nat} {ret : Option FieldType} {rm : Room} {as' : Array Value} {Q : Option Value → Heap → List Loc → Prop} (M : own_Met l Z y bts maxL ret [] rm as' h Q) (wc : (Cond.code y bts maxL ret).before a0 Z = true) (wz : (Cond.initialized (MethodName.cls y)).before a0 Z = true) (eT : T.heap = h) (hml : c.maxLocals = ml) {argsL rest : List Value} {ps : List FieldType} {r : Option FieldType} (hd : parseMethodDescriptor (MethodName.desc y) = some ⟨ps, r⟩) (d : decode bt0 pc = .ok (.invokestatic index, 3)) (K : ∀ (v : Option Value) (T' : State) (L' : List Loc), Stand p l e R s m args below meth c T' (locs ++ L') (cells + rm.cells) (slots + rm.slots) → Q v T'.heap L' → own_Goes p e below (T'.setTop (mkF m (pc + 3) Ls (v.toList ++ rest))) P) (hxi : y.cls ≠ "java/lang/invoke/MethodHandle" ∧ y.cls ≠ "java/lang/invoke/VarHandle" := by decide) (hf : rm.frames + 1 ≤ R.frames := by decide) (hl : W + (maxL + 11) + rm.locals ≤ R.locals := by decide) (hg : (mkF m pc Ls S).method = m := by rfl) (hsz : (mkF m pc Ls S).locals.size = ml := by rfl) (hl2 : argsL.length = ps.length := by rfl) (hstack : (mkF m pc Ls S).stack = argsL.reverse ++ rest := by rfl) (hmr : (mkF m pc Ls S).monitorRoom = 0 := by rfl) (hW : (rest.map fun v => v.category).sum = W := by rfl) (ha : argsL.toArray = as' := by rfl) (hc : cells + rm.cells ≤ R.cells := by decide) (hs : slots + rm.slots ≤ R.slots := by decide) : own_Goes p e below (T.setTop (mkF m pc Ls S)) P := by
  obtain ⟨v, T', L', X', hQ, st⟩ := own_cS X hx hZ hown w1 w5 hxi M wc wz hf hl eT (g := (mkF m pc Ls S)) hg hml hsz hd hl2 hstack hmr hW (hb hby d) ha hc hs
  exact st _ (K v T' L' X' hQ)
theorem qF {bts : ByteArray} {pc : Nat} {Ls : Array Slot} {S : List Value} {P : Outcome → State → Prop} {Z : State} {h : Heap} {a0 : Array Value} {own R0 O n d_ host : String} {index : Nat} {a : Addr} {v : Value} (X : Stand p l e R s m args below meth c T locs cells slots) (hx : p.tables.exec = Jvm.exec) (hby : c.code = bts) (hZ : Z.Warmed39 s.vm) (hown : s.vm.findClass own = some m.cls) (w : (Cond.fieldLink own index R0 n d_).before a0 Z = true ∨ (Cond.fieldLinkNest own index R0 n d_ host).before a0 Z = true) (via : Via Z R0 O n d_) (eT : T.heap = h) (F : Fld Z h a O n d_ v) (d : decode bts pc = .ok (.getfield index, 3)) (K : ∀ T', Stand p l e R s m args below meth c T' locs cells slots → T'.heap = h → own_Goes p e below (T'.setTop (mkF m (pc + 3) Ls (v :: S))) P) : own_Goes p e below (T.setTop (mkF m pc Ls (.ref a :: S))) P := by
  obtain ⟨T', X', e', st⟩ := getF X hx hZ hown w via eT F (g := mkF m pc Ls (.ref a :: S)) rfl rfl (hb hby d)
  exact gg st (K T' X' e')
theorem qG {bts : ByteArray} {pc : Nat} {Ls : Array Slot} {S : List Value} {P : Outcome → State → Prop} {Z : State} {h : Heap} {a0 : Array Value} {own R0 n d_ : String} {index : Nat} {a : Addr} {v : Value} (X : Stand p l e R s m args below meth c T locs cells slots) (hx : p.tables.exec = Jvm.exec) (hby : c.code = bts) (hZ : Z.Warmed39 s.vm) (hown : s.vm.findClass own = some m.cls) (w : (Cond.fieldLink own index R0 n d_).before a0 Z = true) (eT : T.heap = h) (F : Fld Z h a R0 n d_ v) (d : decode bts pc = .ok (.getfield index, 3)) (K : ∀ T', Stand p l e R s m args below meth c T' locs cells slots → T'.heap = h → own_Goes p e below (T'.setTop (mkF m (pc + 3) Ls (v :: S))) P) : own_Goes p e below (T.setTop (mkF m pc Ls (.ref a :: S))) P := qF (host := "") X hx hby hZ hown (Or.inl w) Via.refl eT F d K
theorem qS {bts : ByteArray} {pc : Nat} {Ls : Array Slot} {S : List Value} {P : Outcome → State → Prop} {Z : State} {h : Heap} {a0 : Array Value} {own R0 O n d_ host : String} {index : Nat} {v : Value} (X : Stand p l e R s m args below meth c T locs cells slots) (hx : p.tables.exec = Jvm.exec) (hby : c.code = bts) (hZ : Z.Warmed39 s.vm) (hown : s.vm.findClass own = some m.cls) (w : (Cond.fieldLink own index R0 n d_).before a0 Z = true ∨ (Cond.fieldLinkNest own index R0 n d_ host).before a0 Z = true) (via : Via Z R0 O n d_) (eT : T.heap = h) (F : Sta Z h O n d_ v) (d : decode bts pc = .ok (.getstatic index, 3)) (K : ∀ T', Stand p l e R s m args below meth c T' locs cells slots → T'.heap = h → own_Goes p e below (T'.setTop (mkF m (pc + 3) Ls (v :: S))) P) : own_Goes p e below (T.setTop (mkF m pc Ls S)) P := by
  obtain ⟨T', X', e', st⟩ := getS2 X hx hZ hown w via eT F (g := mkF m pc Ls S) rfl (hb hby d)
  exact gg st (K T' X' e')
theorem qP {bts : ByteArray} {pc : Nat} {Ls : Array Slot} {S : List Value} {P : Outcome → State → Prop} {Z : State} {h : Heap} {a0 : Array Value} {own R0 O n d_ host : String} {index : Nat} {C : String} {kk : Nat} {ty : FieldType} {a : Addr} {v old : Value} (X : Stand p l e R s m args below meth c T locs cells slots) (hx : p.tables.exec = Jvm.exec) (hby : c.code = bts) (hZ : Z.Warmed39 s.vm) (hown : s.vm.findClass own = some m.cls) (w : (Cond.fieldLink own index R0 n d_).before a0 Z = true ∨ (Cond.fieldLinkNest own index R0 n d_ host).before a0 Z = true) (via : Via Z R0 O n d_) (eT : T.heap = h) (F : Fld Z h a O n d_ old) (E : Exa Z h a C) (LW : (Cond.lays C O n d_).before a0 Z = true ∨ ((Cond.laysFinal C O n d_).before a0 Z = true ∧ own = O ∧ meth.name = "<init>")) (wi : (Cond.instantiable C kk).before a0 Z = true) (d : decode bts pc = .ok (.putfield index, 3)) (K : ∀ T' h', Stand p l e R s m args below meth c T' (locs ++ [⟨a, Jvm.RoadKit.slotOf Z O n d_⟩]) cells slots → T'.heap = h' → Wr h h' a (Jvm.RoadKit.slotOf Z O n d_) v → own_Goes p e below (T'.setTop (mkF m (pc + 3) Ls S)) P) (hty : parseFieldDescriptor d_ = some ty := by decide) (hn : narrow ty v = v := by rfl) (hf : fits ty v = true := by rfl) : own_Goes p e below (T.setTop (mkF m pc Ls (v :: .ref a :: S))) P := by
  obtain ⟨T', h', X', e', W', st⟩ := putF X hx hZ hown w via eT F E LW wi hty hn hf (g := mkF m pc Ls (v :: .ref a :: S)) rfl rfl (hb hby d)
  exact gg st (K T' h' X' e' W')
theorem q_caload {bts : ByteArray} {pc : Nat} {Ls : Array Slot} {S : List Value} {P : Outcome → State → Prop} {Z : State} {h : Heap} {a : Addr} {k : ClassId} {n j : Int32} {vs : List Value} {dv : Value} (X : Stand p l e R s m args below meth c T locs cells slots) (hx : p.tables.exec = Jvm.exec) (hby : c.code = bts) (hZ : Z.Warmed39 s.vm) (eT : T.heap = h) (V : Arv Z h a k .char n vs dv) (d : decode bts pc = .ok (.caload, 1)) (v : Value) (K : own_Goes p e below (T.setTop (mkF m (pc + 1) Ls (v :: S))) P) (hj : ¬ j < 0 := by decide) (hn : j < n := by decide) (hv : vs.getD j.toNatClampNeg dv = v := by rfl) : own_Goes p e below (T.setTop (mkF m pc Ls (.int j :: .ref a :: S))) P := by
  obtain ⟨cl, Ar, q, Sz, Ng, Hs, Gs⟩ := V
  have inb : ¬ (j < 0 ∨ cl.slots.size ≤ j.toNatClampNeg) := inb_of Sz ⟨hj, hn⟩
  have at_ : cl.slots[j.toNatClampNeg]? = some v := Hs.at inb hv
  exact gg (fun t k => X.caload hx (j := j) (v := v) (by rw [eT]; exact Ar.1) (State.isArrayOf_alike hZ.alike Ar.2.1) Ar.2.2 inb at_ (g := mkF m pc Ls (.int j :: .ref a :: S)) rfl rfl (hb hby d) _ k) K
theorem q_iaload {bts : ByteArray} {pc : Nat} {Ls : Array Slot} {S : List Value} {P : Outcome → State → Prop} {Z : State} {h : Heap} {a : Addr} {k : ClassId} {n j : Int32} {vs : List Value} {dv : Value} (X : Stand p l e R s m args below meth c T locs cells slots) (hx : p.tables.exec = Jvm.exec) (hby : c.code = bts) (hZ : Z.Warmed39 s.vm) (eT : T.heap = h) (V : Arv Z h a k .int n vs dv) (d : decode bts pc = .ok (.iaload, 1)) (v : Value) (K : own_Goes p e below (T.setTop (mkF m (pc + 1) Ls (v :: S))) P) (hj : ¬ j < 0 := by decide) (hn : j < n := by decide) (hv : vs.getD j.toNatClampNeg dv = v := by rfl) : own_Goes p e below (T.setTop (mkF m pc Ls (.int j :: .ref a :: S))) P := by
  obtain ⟨cl, Ar, q, Sz, Ng, Hs, Gs⟩ := V
  have inb : ¬ (j < 0 ∨ cl.slots.size ≤ j.toNatClampNeg) := inb_of Sz ⟨hj, hn⟩
  have at_ : cl.slots[j.toNatClampNeg]? = some v := Hs.at inb hv
  exact gg (fun t k => X.iaload hx (j := j) (v := v) (by rw [eT]; exact Ar.1) (State.isArrayOf_alike hZ.alike Ar.2.1) Ar.2.2 inb at_ (g := mkF m pc Ls (.int j :: .ref a :: S)) rfl rfl (hb hby d) _ k) K
theorem q_saload {bts : ByteArray} {pc : Nat} {Ls : Array Slot} {S : List Value} {P : Outcome → State → Prop} {Z : State} {h : Heap} {a : Addr} {k : ClassId} {n j : Int32} {vs : List Value} {dv : Value} (X : Stand p l e R s m args below meth c T locs cells slots) (hx : p.tables.exec = Jvm.exec) (hby : c.code = bts) (hZ : Z.Warmed39 s.vm) (eT : T.heap = h) (V : Arv Z h a k .short n vs dv) (d : decode bts pc = .ok (.saload, 1)) (v : Value) (K : own_Goes p e below (T.setTop (mkF m (pc + 1) Ls (v :: S))) P) (hj : ¬ j < 0 := by decide) (hn : j < n := by decide) (hv : vs.getD j.toNatClampNeg dv = v := by rfl) : own_Goes p e below (T.setTop (mkF m pc Ls (.int j :: .ref a :: S))) P := by
  obtain ⟨cl, Ar, q, Sz, Ng, Hs, Gs⟩ := V
  have inb : ¬ (j < 0 ∨ cl.slots.size ≤ j.toNatClampNeg) := inb_of Sz ⟨hj, hn⟩
  have at_ : cl.slots[j.toNatClampNeg]? = some v := Hs.at inb hv
  exact gg (fun t k => X.saload hx (j := j) (v := v) (by rw [eT]; exact Ar.1) (State.isArrayOf_alike hZ.alike Ar.2.1) Ar.2.2 inb at_ (g := mkF m pc Ls (.int j :: .ref a :: S)) rfl rfl (hb hby d) _ k) K
theorem q_laload {bts : ByteArray} {pc : Nat} {Ls : Array Slot} {S : List Value} {P : Outcome → State → Prop} {Z : State} {h : Heap} {a : Addr} {k : ClassId} {n j : Int32} {vs : List Value} {dv : Value} (X : Stand p l e R s m args below meth c T locs cells slots) (hx : p.tables.exec = Jvm.exec) (hby : c.code = bts) (hZ : Z.Warmed39 s.vm) (eT : T.heap = h) (V : Arv Z h a k .long n vs dv) (d : decode bts pc = .ok (.laload, 1)) (v : Value) (K : own_Goes p e below (T.setTop (mkF m (pc + 1) Ls (v :: S))) P) (hj : ¬ j < 0 := by decide) (hn : j < n := by decide) (hv : vs.getD j.toNatClampNeg dv = v := by rfl) : own_Goes p e below (T.setTop (mkF m pc Ls (.int j :: .ref a :: S))) P := by
  obtain ⟨cl, Ar, q, Sz, Ng, Hs, Gs⟩ := V
  have inb : ¬ (j < 0 ∨ cl.slots.size ≤ j.toNatClampNeg) := inb_of Sz ⟨hj, hn⟩
  have at_ : cl.slots[j.toNatClampNeg]? = some v := Hs.at inb hv
  exact gg (fun t k => X.laload hx (j := j) (v := v) (by rw [eT]; exact Ar.1) (State.isArrayOf_alike hZ.alike Ar.2.1) Ar.2.2 inb at_ (g := mkF m pc Ls (.int j :: .ref a :: S)) rfl rfl (hb hby d) _ k) K
theorem q_baloadBytes {bts : ByteArray} {pc : Nat} {Ls : Array Slot} {S : List Value} {P : Outcome → State → Prop} {Z : State} {h : Heap} {a : Addr} {k : ClassId} {n j : Int32} {vs : List Value} {dv : Value} (X : Stand p l e R s m args below meth c T locs cells slots) (hx : p.tables.exec = Jvm.exec) (hby : c.code = bts) (hZ : Z.Warmed39 s.vm) (eT : T.heap = h) (V : Arv Z h a k .byte n vs dv) (d : decode bts pc = .ok (.baload, 1)) (v : Value) (K : own_Goes p e below (T.setTop (mkF m (pc + 1) Ls (v :: S))) P) (hj : ¬ j < 0 := by decide) (hn : j < n := by decide) (hv : vs.getD j.toNatClampNeg dv = v := by rfl) : own_Goes p e below (T.setTop (mkF m pc Ls (.int j :: .ref a :: S))) P := by
  obtain ⟨cl, Ar, q, Sz, Ng, Hs, Gs⟩ := V
  have inb : ¬ (j < 0 ∨ cl.slots.size ≤ j.toNatClampNeg) := inb_of Sz ⟨hj, hn⟩
  have at_ : cl.slots[j.toNatClampNeg]? = some v := Hs.at inb hv
  exact gg (fun t k => X.baloadBytes hx (j := j) (v := v) (by rw [eT]; exact Ar.1) (State.isArrayOf_alike hZ.alike Ar.2.1) Ar.2.2 inb at_ (g := mkF m pc Ls (.int j :: .ref a :: S)) rfl rfl (hb hby d) _ k) K
theorem q_aaload {bts : ByteArray} {pc : Nat} {Ls : Array Slot} {S : List Value} {P : Outcome → State → Prop} {Z : State} {h : Heap} {a : Addr} {k : ClassId} {n j : Int32} {vs : List Value} {dv : Value} {ty : FieldType} (X : Stand p l e R s m args below meth c T locs cells slots) (hx : p.tables.exec = Jvm.exec) (hby : c.code = bts) (hZ : Z.Warmed39 s.vm) (eT : T.heap = h) (V : Arv Z h a k ty n vs dv) (d : decode bts pc = .ok (.aaload, 1)) (v : Value) (K : own_Goes p e below (T.setTop (mkF m (pc + 1) Ls (v :: S))) P) (hty : ty.isReference = true := by rfl) (hj : ¬ j < 0 := by decide) (hn : j < n := by decide) (hv : vs.getD j.toNatClampNeg dv = v := by rfl) : own_Goes p e below (T.setTop (mkF m pc Ls (.int j :: .ref a :: S))) P := by
  obtain ⟨cl, Ar, q, Sz, Ng, Hs, Gs⟩ := V
  have inb : ¬ (j < 0 ∨ cl.slots.size ≤ j.toNatClampNeg) := inb_of Sz ⟨hj, hn⟩
  have at_ : cl.slots[j.toNatClampNeg]? = some v := Hs.at inb hv
  exact gg (fun t k => X.aaload hx (j := j) (v := v) (by rw [eT]; exact Ar.1) (State.isArrayOf_alike hZ.alike Ar.2.1) hty Ar.2.2 inb at_ (g := mkF m pc Ls (.int j :: .ref a :: S)) rfl rfl (hb hby d) _ k) K
theorem q_len {bts : ByteArray} {pc : Nat} {Ls : Array Slot} {S : List Value} {P : Outcome → State → Prop} {Z : State} {h : Heap} {a : Addr} {k : ClassId} {n : Int32} {vs : List Value} {dv : Value} {ty : FieldType} (X : Stand p l e R s m args below meth c T locs cells slots) (hx : p.tables.exec = Jvm.exec) (hby : c.code = bts) (hZ : Z.Warmed39 s.vm) (eT : T.heap = h) (V : Arv Z h a k ty n vs dv) (d : decode bts pc = .ok (.arraylength, 1)) (K : own_Goes p e below (T.setTop (mkF m (pc + 1) Ls (.int n :: S))) P) : own_Goes p e below (T.setTop (mkF m pc Ls (.ref a :: S))) P := by
  obtain ⟨cl, Ar, q, Sz, Ng, Hs, Gs⟩ := V
  refine gg (fun t k => X.arraylength hx (by rw [eT]; exact Ar.1) (State.isArrayOf_alike hZ.alike Ar.2.1) (g := mkF m pc Ls (.ref a :: S)) rfl rfl (hb hby d) _ k) ?_
  rw [len_of Sz Ng]
  exact K
theorem q_stB {bts : ByteArray} {pc : Nat} {Ls : Array Slot} {S : List Value} {P : Outcome → State → Prop} {Z : State} {h : Heap} {a : Addr} {k : ClassId} {n j x : Int32} {vs : List Value} {dv : Value} (X : Stand p l e R s m args below meth c T locs cells slots) (hx : p.tables.exec = Jvm.exec) (hby : c.code = bts) (hZ : Z.Warmed39 s.vm) (eT : T.heap = h) (V : Arv Z h a k .byte n vs dv) (i : Nat) (d : decode bts pc = .ok (.bastore, 1)) (K : ∀ T' h', Stand p l e R s m args below meth c T' (locs ++ [⟨a, j.toNatClampNeg⟩]) cells slots → T'.heap = h' → Wr h h' a j.toNatClampNeg (.int (nar .byte x)) → Arv Z h' a k .byte n (vs.set i (.int (nar .byte x))) dv → own_Goes p e below (T'.setTop (mkF m (pc + 1) Ls S)) P) (hj : ¬ j < 0 := by decide) (hn : j < n := by decide) (hi : j.toNatClampNeg = i := by rfl) (hl : i < vs.length := by exact Nat.le_of_ble_eq_true rfl) : own_Goes p e below (T.setTop (mkF m pc Ls (.int x :: .int j :: .ref a :: S))) P := by
  obtain ⟨cl, Ar, q, Sz, Ng, Hs, Gs⟩ := V
  have inb : ¬ (j < 0 ∨ cl.slots.size ≤ j.toNatClampNeg) := inb_of Sz ⟨hj, hn⟩
  obtain ⟨T', h', X', e', W', st⟩ := stB X hx hZ eT Ar (j := j) inb (g := mkF m pc Ls (.int x :: .int j :: .ref a :: S)) rfl rfl (hb hby d)
  exact gg st (K T' h' X' e' W' (Arv.set Ar q Sz Ng Hs Gs (fits_nar_byte _) W' i hi hl))
theorem q_stC {bts : ByteArray} {pc : Nat} {Ls : Array Slot} {S : List Value} {P : Outcome → State → Prop} {Z : State} {h : Heap} {a : Addr} {k : ClassId} {n j x : Int32} {vs : List Value} {dv : Value} (X : Stand p l e R s m args below meth c T locs cells slots) (hx : p.tables.exec = Jvm.exec) (hby : c.code = bts) (hZ : Z.Warmed39 s.vm) (eT : T.heap = h) (V : Arv Z h a k .char n vs dv) (i : Nat) (d : decode bts pc = .ok (.castore, 1)) (K : ∀ T' h', Stand p l e R s m args below meth c T' (locs ++ [⟨a, j.toNatClampNeg⟩]) cells slots → T'.heap = h' → Wr h h' a j.toNatClampNeg (.int (nar .char x)) → Arv Z h' a k .char n (vs.set i (.int (nar .char x))) dv → own_Goes p e below (T'.setTop (mkF m (pc + 1) Ls S)) P) (hj : ¬ j < 0 := by decide) (hn : j < n := by decide) (hi : j.toNatClampNeg = i := by rfl) (hl : i < vs.length := by exact Nat.le_of_ble_eq_true rfl) : own_Goes p e below (T.setTop (mkF m pc Ls (.int x :: .int j :: .ref a :: S))) P := by
  obtain ⟨cl, Ar, q, Sz, Ng, Hs, Gs⟩ := V
  have inb : ¬ (j < 0 ∨ cl.slots.size ≤ j.toNatClampNeg) := inb_of Sz ⟨hj, hn⟩
  obtain ⟨T', h', X', e', W', st⟩ := stC X hx hZ eT Ar (j := j) inb (g := mkF m pc Ls (.int x :: .int j :: .ref a :: S)) rfl rfl (hb hby d)
  exact gg st (K T' h' X' e' W' (Arv.set Ar q Sz Ng Hs Gs (fits_nar_char _) W' i hi hl))
theorem q_stI {bts : ByteArray} {pc : Nat} {Ls : Array Slot} {S : List Value} {P : Outcome → State → Prop} {Z : State} {h : Heap} {a : Addr} {k : ClassId} {n j x : Int32} {vs : List Value} {dv : Value} (X : Stand p l e R s m args below meth c T locs cells slots) (hx : p.tables.exec = Jvm.exec) (hby : c.code = bts) (hZ : Z.Warmed39 s.vm) (eT : T.heap = h) (V : Arv Z h a k .int n vs dv) (i : Nat) (d : decode bts pc = .ok (.iastore, 1)) (K : ∀ T' h', Stand p l e R s m args below meth c T' (locs ++ [⟨a, j.toNatClampNeg⟩]) cells slots → T'.heap = h' → Wr h h' a j.toNatClampNeg (.int (x)) → Arv Z h' a k .int n (vs.set i (.int (x))) dv → own_Goes p e below (T'.setTop (mkF m (pc + 1) Ls S)) P) (hj : ¬ j < 0 := by decide) (hn : j < n := by decide) (hi : j.toNatClampNeg = i := by rfl) (hl : i < vs.length := by exact Nat.le_of_ble_eq_true rfl) : own_Goes p e below (T.setTop (mkF m pc Ls (.int x :: .int j :: .ref a :: S))) P := by
  obtain ⟨cl, Ar, q, Sz, Ng, Hs, Gs⟩ := V
  have inb : ¬ (j < 0 ∨ cl.slots.size ≤ j.toNatClampNeg) := inb_of Sz ⟨hj, hn⟩
  obtain ⟨T', h', X', e', W', st⟩ := stI X hx hZ eT Ar (j := j) inb (g := mkF m pc Ls (.int x :: .int j :: .ref a :: S)) rfl rfl (hb hby d)
  exact gg st (K T' h' X' e' W' (Arv.set Ar q Sz Ng Hs Gs rfl W' i hi hl))
theorem r_I {bts : ByteArray} {pc : Nat} {Ls : Array Slot} {S : List Value} {h : Heap} {Qc : Option Value → Heap → List Loc → Prop} {k n : Nat} {z : Int32} (X : Stand p l e R s m args below meth c T locs cells slots) (hx : p.tables.exec = Jvm.exec) (hby : c.code = bts) (hret : meth.sig.returnType = some .int) (hlk : meth.locks = false) (d : decode bts pc = .ok (.ireturn, 1)) (eT : T.heap = h) (hQ : Qc (some (.int z)) h locs) (hn : narrow .int (.int z) = .int z := by rfl) (hk : cells ≤ k := by decide) (hs : slots ≤ n := by decide) : own_Goes p e below (T.setTop (mkF m pc Ls (.int z :: S))) (own_PostN s Qc k n) := by
  subst eT
  exact own_endN X (v := some (.int z)) (fun h => by rw [hret] at h; cases h) hlk hk hs hQ (fun fs hr => retOut X hx hret hn (Or.inl ⟨rfl, Or.inl rfl, _, rfl⟩) (hb hby d) hr)
theorem r_Z {bts : ByteArray} {pc : Nat} {Ls : Array Slot} {S : List Value} {h : Heap} {Qc : Option Value → Heap → List Loc → Prop} {k n : Nat} {z : Int32} (X : Stand p l e R s m args below meth c T locs cells slots) (hx : p.tables.exec = Jvm.exec) (hby : c.code = bts) (hret : meth.sig.returnType = some .boolean) (hlk : meth.locks = false) (d : decode bts pc = .ok (.ireturn, 1)) (eT : T.heap = h) (hQ : Qc (some (.int z)) h locs) (hn : narrow .boolean (.int z) = .int z := by rfl) (hk : cells ≤ k := by decide) (hs : slots ≤ n := by decide) : own_Goes p e below (T.setTop (mkF m pc Ls (.int z :: S))) (own_PostN s Qc k n) := by
  subst eT
  exact own_endN X (v := some (.int z)) (fun h => by rw [hret] at h; cases h) hlk hk hs hQ (fun fs hr => retOut X hx hret hn (Or.inl ⟨rfl, Or.inr (Or.inl rfl), _, rfl⟩) (hb hby d) hr)
theorem r_B {bts : ByteArray} {pc : Nat} {Ls : Array Slot} {S : List Value} {h : Heap} {Qc : Option Value → Heap → List Loc → Prop} {k n : Nat} {z : Int32} (X : Stand p l e R s m args below meth c T locs cells slots) (hx : p.tables.exec = Jvm.exec) (hby : c.code = bts) (hret : meth.sig.returnType = some .byte) (hlk : meth.locks = false) (d : decode bts pc = .ok (.ireturn, 1)) (eT : T.heap = h) (hQ : Qc (some (.int z)) h locs) (hn : narrow .byte (.int z) = .int z := by rfl) (hk : cells ≤ k := by decide) (hs : slots ≤ n := by decide) : own_Goes p e below (T.setTop (mkF m pc Ls (.int z :: S))) (own_PostN s Qc k n) := by
  subst eT
  exact own_endN X (v := some (.int z)) (fun h => by rw [hret] at h; cases h) hlk hk hs hQ (fun fs hr => retOut X hx hret hn (Or.inl ⟨rfl, Or.inr (Or.inr (Or.inl rfl)), _, rfl⟩) (hb hby d) hr)
theorem r_C {bts : ByteArray} {pc : Nat} {Ls : Array Slot} {S : List Value} {h : Heap} {Qc : Option Value → Heap → List Loc → Prop} {k n : Nat} {z : Int32} (X : Stand p l e R s m args below meth c T locs cells slots) (hx : p.tables.exec = Jvm.exec) (hby : c.code = bts) (hret : meth.sig.returnType = some .char) (hlk : meth.locks = false) (d : decode bts pc = .ok (.ireturn, 1)) (eT : T.heap = h) (hQ : Qc (some (.int z)) h locs) (hn : narrow .char (.int z) = .int z := by rfl) (hk : cells ≤ k := by decide) (hs : slots ≤ n := by decide) : own_Goes p e below (T.setTop (mkF m pc Ls (.int z :: S))) (own_PostN s Qc k n) := by
  subst eT
  exact own_endN X (v := some (.int z)) (fun h => by rw [hret] at h; cases h) hlk hk hs hQ (fun fs hr => retOut X hx hret hn (Or.inl ⟨rfl, Or.inr (Or.inr (Or.inr (Or.inl rfl))), _, rfl⟩) (hb hby d) hr)
theorem r_S {bts : ByteArray} {pc : Nat} {Ls : Array Slot} {S : List Value} {h : Heap} {Qc : Option Value → Heap → List Loc → Prop} {k n : Nat} {z : Int32} (X : Stand p l e R s m args below meth c T locs cells slots) (hx : p.tables.exec = Jvm.exec) (hby : c.code = bts) (hret : meth.sig.returnType = some .short) (hlk : meth.locks = false) (d : decode bts pc = .ok (.ireturn, 1)) (eT : T.heap = h) (hQ : Qc (some (.int z)) h locs) (hn : narrow .short (.int z) = .int z := by rfl) (hk : cells ≤ k := by decide) (hs : slots ≤ n := by decide) : own_Goes p e below (T.setTop (mkF m pc Ls (.int z :: S))) (own_PostN s Qc k n) := by
  subst eT
  exact own_endN X (v := some (.int z)) (fun h => by rw [hret] at h; cases h) hlk hk hs hQ (fun fs hr => retOut X hx hret hn (Or.inl ⟨rfl, Or.inr (Or.inr (Or.inr (Or.inr (rfl)))), _, rfl⟩) (hb hby d) hr)
theorem r_R {bts : ByteArray} {pc : Nat} {Ls : Array Slot} {S : List Value} {h : Heap} {Qc : Option Value → Heap → List Loc → Prop} {k n : Nat} {w : Value} {t : FieldType} (X : Stand p l e R s m args below meth c T locs cells slots) (hx : p.tables.exec = Jvm.exec) (hby : c.code = bts) (hret : meth.sig.returnType = some t) (hlk : meth.locks = false) (d : decode bts pc = .ok (.areturn, 1)) (eT : T.heap = h) (hQ : Qc (some w) h locs) (hn : narrow t w = w := by rfl) (ht : t.isReference = true := by rfl) (hw : w.isRef = true := by rfl) (hk : cells ≤ k := by decide) (hs : slots ≤ n := by decide) : own_Goes p e below (T.setTop (mkF m pc Ls (w :: S))) (own_PostN s Qc k n) := by
  subst eT
  exact own_endN X (v := some w) (fun h => by rw [hret] at h; cases h) hlk hk hs hQ (fun fs hr => retOut X hx hret hn (Or.inr (Or.inr (Or.inr (Or.inr ⟨rfl, ht, hw⟩)))) (hb hby d) hr)
theorem r_V {bts : ByteArray} {pc : Nat} {Ls : Array Slot} {h : Heap} {Qc : Option Value → Heap → List Loc → Prop} {k n : Nat} (X : Stand p l e R s m args below meth c T locs cells slots) (hx : p.tables.exec = Jvm.exec) (hby : c.code = bts) (hret : meth.sig.returnType = none) (hlk : meth.locks = false) (d : decode bts pc = .ok (.return_, 1)) (eT : T.heap = h) (hQ : Qc none h locs) (hk : cells ≤ k := by decide) (hs : slots ≤ n := by decide) : own_Goes p e below (T.setTop (mkF m pc Ls [])) (own_PostN s Qc k n) := by
  subst eT
  exact own_endN X (v := none) (fun _ => rfl) hlk hk hs hQ (fun fs hr => X.returnOut hx hret (hb hby d) hr)
end OwnKit2
def GG (Z : State) (gwD : Addr) (gz : Int32) (gwc : Addr) (gcl : Cell) : Prop := Sta Z Z.heap "java/util/ArrayList" "DEFAULTCAPACITY_EMPTY_ELEMENTDATA" "[Ljava/lang/Object;" (.ref gwD) ∧ Exa Z Z.heap gwD "[Ljava/lang/Object;" ∧ Sta Z Z.heap "java/lang/String" "COMPACT_STRINGS" "Z" (.int gz) ∧ ¬ gz = (0 : Int32) ∧ Sta Z Z.heap "java/lang/Integer$IntegerCache" "high" "I" (.int 127) ∧ Sta Z Z.heap "java/lang/Integer$IntegerCache" "cache" "[Ljava/lang/Integer;" (.ref gwc) ∧ Bxs Z gwc gcl "java/lang/Integer" "I" (256 : Int32) (fun j => .int (j - 128))
theorem own_len {s : State} {args : Array Value} {t : Term} {w : Addr} {cl : Cell} {ty : FieldType} {n : Int32} (ev : t.eval args s none [] s = some (.ref w)) (A : Arr s s.heap w cl ty) (l : (Term.length t).eval args s none [] s = some (.int n)) : cl.slots.size.toInt32 = n ∧ cl.slots.size < 2 ^ 31 := by
  have ha : s.arrayAt? w = some cl := A.fin (Vm.Alike.refl _)
  by_cases hl : cl.slots.size < 2 ^ 31
  · exact ⟨Value.int.inj (Option.some.inj ((len_f ev ha hl).symm.trans l)), hl⟩
  · simp [Term.eval, ev, ha, hl] at l
theorem own_sub {s : State} {args : Array Value} {t : Term} {idx : List Nat} {j n : Int32} (e : t.eval args s none idx s = some (.int j)) : (Term.sub t (.int n)).eval args s none idx s = some (.int (j - n)) := by
  simp [Term.eval, e]
theorem own_fldNull {s : State} {args : Array Value} {t : Term} {C n d : String} {w : Addr} (ev : t.eval args s none [] s = some (.ref w)) (h : (Cond.eq (Term.field t C n d) .null).value args s none s [] = some true) : Fld s s.heap w C n d .null := Fld.start ((fld_at ev).symm.trans (null_v h))

theorem own_bxs {s : State} {args : Array Value} {gwc : Addr} {gcl : Cell} (eCa : (Term.static "java/lang/Integer$IntegerCache" "cache" "[Ljava/lang/Integer;").eval args s none [] s = some (.ref gwc)) (aCa : Arr s s.heap gwc gcl (.object "java/lang/Integer")) (lCa : (Term.length (Term.static "java/lang/Integer$IntegerCache" "cache" "[Ljava/lang/Integer;")).eval args s none [] s = some (.int 256))
    (h : (Jvm.Cond.all (Term.static "java/lang/Integer$IntegerCache" "cache" "[Ljava/lang/Integer;") (.and (.exactly (.elem (Term.static "java/lang/Integer$IntegerCache" "cache" "[Ljava/lang/Integer;") (.index 0)) "java/lang/Integer") (.eq (.field (.elem (Term.static "java/lang/Integer$IntegerCache" "cache" "[Ljava/lang/Integer;") (.index 0)) "java/lang/Integer" "value" "I") (.sub (.index 0) (.int 128))))).value args s none s [] = some true) :
    Bxs s gwc gcl "java/lang/Integer" "I" (256 : Int32) (fun j => .int (j - 128)) := by
  have hl : gcl.slots.size.toInt32 = (256 : Int32) ∧ gcl.slots.size < 2 ^ 31 := own_len eCa aCa lCa
  refine Bxs.start (F := .sub (.index 0) (.int 128)) (fun idx => eCa) aCa hl.2 hl.1 (by decide) h (fun X j nn q => ?_)
  exact eqv_i (own_sub (idx_at nn)) q

def own_max (a b : Int32) : Int32 := if a < b then b else a
def own_min (a b : Int32) : Int32 := if b < a then b else a
theorem own_maxT {a b : Int32} (h : a < b) : own_max a b = b := if_pos h
theorem own_maxF {a b : Int32} (h : ¬ a < b) : own_max a b = a := if_neg h
theorem own_minT {a b : Int32} (h : b < a) : own_min a b = b := if_pos h
theorem own_minF {a b : Int32} (h : ¬ b < a) : own_min a b = a := if_neg h
theorem own_maxI (a b : Int32) : (own_max a b).toInt = max a.toInt b.toInt := by
  by_cases h : a < b
  · rw [own_maxT h]; rw [Int32.lt_iff_toInt_lt] at h; omega
  · rw [own_maxF h]; rw [Int32.lt_iff_toInt_lt] at h; omega
theorem own_minI (a b : Int32) : (own_min a b).toInt = min a.toInt b.toInt := by
  by_cases h : b < a
  · rw [own_minT h]; rw [Int32.lt_iff_toInt_lt] at h; omega
  · rw [own_minF h]; rw [Int32.lt_iff_toInt_lt] at h; omega
theorem own_ltI {a b : Int32} (h : a < b) : a.toInt < b.toInt := Int32.lt_iff_toInt_lt.mp h
theorem own_nltI {a b : Int32} (h : ¬ a < b) : b.toInt ≤ a.toInt := by rw [Int32.lt_iff_toInt_lt] at h; omega
theorem own_eqI {a b : Int32} (h : a.toInt = b.toInt) : a = b := Int32.toInt_inj.mp h
theorem own_i0 : (0 : Int32).toInt = 0 := by decide
theorem own_i1 : (1 : Int32).toInt = 1 := by decide
def own_S3 (x0 x1 x2 y0 y1 y2 : Int32) : Prop := y0.toInt ≤ y1.toInt ∧ y1.toInt ≤ y2.toInt ∧ y0.toInt = min x0.toInt (min x1.toInt x2.toInt) ∧ y2.toInt = max x0.toInt (max x1.toInt x2.toInt) ∧ y0.toInt + y1.toInt + y2.toInt = x0.toInt + x1.toInt + x2.toInt
def own_S2 (x0 x1 y0 y1 : Int32) : Prop := y0.toInt = min x0.toInt x1.toInt ∧ y1.toInt = max x0.toInt x1.toInt
theorem own_S3i {x0 x1 x2 y0 y1 y2 : Int32} (h : own_S3 x0 x1 x2 y0 y1 y2) : y0.toInt ≤ y1.toInt ∧ y1.toInt ≤ y2.toInt ∧ y0.toInt = min x0.toInt (min x1.toInt x2.toInt) ∧ y2.toInt = max x0.toInt (max x1.toInt x2.toInt) ∧ y0.toInt + y1.toInt + y2.toInt = x0.toInt + x1.toInt + x2.toInt := h
theorem own_S2i {x0 x1 y0 y1 : Int32} (h : own_S2 x0 x1 y0 y1) : y0.toInt = min x0.toInt x1.toInt ∧ y1.toInt = max x0.toInt x1.toInt := h

theorem d3_0 : decode B3 0 = .ok (.aload_n 0, 1) := by decide +kernel
theorem d3_1 : decode B3 1 = .ok (.invokespecial 1, 3) := by decide +kernel
theorem d3_4 : decode B3 4 = .ok (.return_, 1) := by decide +kernel
theorem own_pn_java_util_AbstractCollection : plainName "java/util/AbstractCollection" = true := by first | (simp [plainName, overriddenIn]; done) | decide +kernel
theorem own_ef_own_acInit (m : MethodId) (xa : Addr) : entryFrame m #[.ref xa] 1 = mkF m 0 #[vR xa] [] := by first | (simp [entryFrame, mkF, argsToLocals, Value.category]; done) | rfl
def Q_own_acInit (Z : State) (xa : Addr) (h0 : Heap) (n0 : Nat) (v : Option Value) (h : Heap) (L : List Loc) : Prop := Fr n0 L ∧ h = h0 ∧ v = none
theorem own_acInit (l : Launch) (Z : State) (a0 : Array Value) (hw : ∀ d ∈ tables_1, d.before a0 Z = true) (ws : List Jvm.Cond) (xa : Addr) (h0 : Heap) (n0 : Nat) (O0 : Old Z n0 h0) : own_Met l Z (⟨"java/util/AbstractCollection", "<init>", "()V"⟩ : MethodName) jdk_22_method_1_code 1 none ws ({ frames := 1, cells := 0, slots := 0, locals := 12 } : Room) #[.ref xa] h0 (Q_own_acInit Z xa h0 n0) := by
  refine own_mk (plainFor_of_name own_pn_java_util_AbstractCollection) O0 ?_
  intro p e s m below meth c s₁ hx hby hml hZ hown hnm hlk hret X0 e0 N0 z0 z1
  refine own_cast (own_ef_own_acInit m xa) ?_
  show own_Goes p e below (s₁.setTop (mkF m 0 #[vR xa] [])) _
  refine q_aloadN X0 hx hby d3_0 rfl rfl ?_
  obtain ⟨T1, X1, e1, st1⟩ := initO X0 hx hZ hown (wh hw 18 rfl) (wh hw 19 rfl) (wh hw 20 rfl) e0 (g := (mkF m 1 #[vR xa] [.ref xa])) rfl (by rw [hml]; rfl) rfl (hb hby d3_1) (by decide) (W := 0) (by show 2 * 0 + _ ≤ _; exact Nat.le_of_eq rfl) (by decide)
  refine gg st1 ?_
  refine r_V X1 hx hby hret hlk d3_4 e1 ?_
  exact ⟨N0, rfl, rfl⟩
theorem d6_0 : decode B6 0 = .ok (.aload_n 0, 1) := by decide +kernel
theorem d6_1 : decode B6 1 = .ok (.invokespecial 1, 3) := by decide +kernel
theorem d6_4 : decode B6 4 = .ok (.return_, 1) := by decide +kernel
theorem own_pn_java_util_AbstractMap : plainName "java/util/AbstractMap" = true := by first | (simp [plainName, overriddenIn]; done) | decide +kernel
theorem own_ef_own_amInit (m : MethodId) (xa : Addr) : entryFrame m #[.ref xa] 1 = mkF m 0 #[vR xa] [] := by first | (simp [entryFrame, mkF, argsToLocals, Value.category]; done) | rfl
def Q_own_amInit (Z : State) (xa : Addr) (h0 : Heap) (n0 : Nat) (v : Option Value) (h : Heap) (L : List Loc) : Prop := Fr n0 L ∧ h = h0 ∧ v = none
theorem own_amInit (l : Launch) (Z : State) (a0 : Array Value) (hw : ∀ d ∈ tables_1, d.before a0 Z = true) (ws : List Jvm.Cond) (xa : Addr) (h0 : Heap) (n0 : Nat) (O0 : Old Z n0 h0) : own_Met l Z (⟨"java/util/AbstractMap", "<init>", "()V"⟩ : MethodName) jdk_71_method_1_code 1 none ws ({ frames := 1, cells := 0, slots := 0, locals := 12 } : Room) #[.ref xa] h0 (Q_own_amInit Z xa h0 n0) := by
  refine own_mk (plainFor_of_name own_pn_java_util_AbstractMap) O0 ?_
  intro p e s m below meth c s₁ hx hby hml hZ hown hnm hlk hret X0 e0 N0 z0 z1
  refine own_cast (own_ef_own_amInit m xa) ?_
  show own_Goes p e below (s₁.setTop (mkF m 0 #[vR xa] [])) _
  refine q_aloadN X0 hx hby d6_0 rfl rfl ?_
  obtain ⟨T1, X1, e1, st1⟩ := initO X0 hx hZ hown (wh hw 38 rfl) (wh hw 19 rfl) (wh hw 20 rfl) e0 (g := (mkF m 1 #[vR xa] [.ref xa])) rfl (by rw [hml]; rfl) rfl (hb hby d6_1) (by decide) (W := 0) (by show 2 * 0 + _ ≤ _; exact Nat.le_of_eq rfl) (by decide)
  refine gg st1 ?_
  refine r_V X1 hx hby hret hlk d6_4 e1 ?_
  exact ⟨N0, rfl, rfl⟩
theorem d2_0 : decode B2 0 = .ok (.aload_n 0, 1) := by decide +kernel
theorem d2_1 : decode B2 1 = .ok (.invokespecial 1, 3) := by decide +kernel
theorem own_pd_0 : parseMethodDescriptor "()V" = some ⟨[], none⟩ := by decide +kernel
theorem d2_4 : decode B2 4 = .ok (.aload_n 0, 1) := by decide +kernel
theorem d2_5 : decode B2 5 = .ok (.iconst 0, 1) := by decide +kernel
theorem d2_6 : decode B2 6 = .ok (.putfield 7, 3) := by decide +kernel
theorem d2_9 : decode B2 9 = .ok (.return_, 1) := by decide +kernel
theorem own_pn_java_util_AbstractList : plainName "java/util/AbstractList" = true := by first | (simp [plainName, overriddenIn]; done) | decide +kernel
theorem own_ef_own_alsInit (m : MethodId) (xa : Addr) : entryFrame m #[.ref xa] 1 = mkF m 0 #[vR xa] [] := by first | (simp [entryFrame, mkF, argsToLocals, Value.category]; done) | rfl
def Q_own_alsInit (Z : State) (xa : Addr) (h0 : Heap) (n0 : Nat) (v : Option Value) (h : Heap) (L : List Loc) : Prop := Fr n0 L ∧ Keep h0 h [xa] ∧ v = none ∧ Fld Z h xa "java/util/ArrayList" "elementData" "[Ljava/lang/Object;" .null ∧ Fld Z h xa "java/util/ArrayList" "size" "I" (.int 0)
theorem own_alsInit (l : Launch) (Z : State) (a0 : Array Value) (hw : ∀ d ∈ tables_1, d.before a0 Z = true) (ws : List Jvm.Cond) (xa : Addr) (h0 : Heap) (n0 : Nat) (O0 : Old Z n0 h0) (P0 : Exa Z h0 xa "java/util/ArrayList") (P1 : Fld Z h0 xa "java/util/AbstractList" "modCount" "I" (.int 0)) (P2 : n0 ≤ xa) (P3 : Fld Z h0 xa "java/util/ArrayList" "elementData" "[Ljava/lang/Object;" .null) (P4 : Fld Z h0 xa "java/util/ArrayList" "size" "I" (.int 0)) : own_Met l Z (⟨"java/util/AbstractList", "<init>", "()V"⟩ : MethodName) jdk_39_method_1_code 1 none ws ({ frames := 2, cells := 0, slots := 0, locals := 24 } : Room) #[.ref xa] h0 (Q_own_alsInit Z xa h0 n0) := by
  refine own_mk (plainFor_of_name own_pn_java_util_AbstractList) O0 ?_
  intro p e s m below meth c s₁ hx hby hml hZ hown hnm hlk hret X0 e0 N0 z0 z1
  have K0 : Keep h0 h0 [xa] := Keep.refl _ _
  refine own_cast (own_ef_own_alsInit m xa) ?_
  show own_Goes p e below (s₁.setTop (mkF m 0 #[vR xa] [])) _
  have ltP0 : @LT.lt Nat _ xa h0.size := P0.lt
  refine q_aloadN X0 hx hby d2_0 rfl rfl ?_
  refine k_N X0 hx hby hZ hown (wh hw 12 rfl) (wh hw 13 rfl) (W := 0) (own_acInit l Z a0 hw [] xa h0 n0 O0) (wh hw 17 rfl) (wh hw 16 rfl) e0  hml (argsL := []) (rest := []) own_pd_0 d2_1 (fun _ T1 L1 X1 hQ1 => ?_)
  obtain ⟨Nc1, e1, rfl⟩ := hQ1
  have N1 := Fr.app N0 Nc1
  refine q_aloadN X1 hx hby d2_4 rfl rfl ?_
  refine q_iconst X1 hx hby d2_5 ?_
  refine qP X1 hx hby hZ hown (host := "") (Or.inl (wh hw 21 rfl)) Via.refl e1 P1 P0 (Or.inl (wh hw 22 rfl)) (wh hw 1 rfl) (ty := .int) d2_6 (fun T2 h2 X2 e2 W2 => ?_)
  have O3 := O0.wr W2 (show n0 ≤ xa by omega)
  have sz4 : h2.size = h0.size := Wr.size W2
  have K5 := K0.wr W2 (Or.inl (List.mem_of_getElem? (i := 0) rfl))
  have N2 := Fr.snoc X2 N1 (show n0 ≤ xa by omega)
  have Fw2 := P1.same W2
  refine r_V X2 hx hby hret hlk d2_9 e2 ?_
  have f6 := (P3.other W2 (Or.inr (slot_ne (Or.inl (wh hw 25 rfl)) (Or.inl (wh hw 22 rfl)) (by decide) (t := (.array (.object "java/lang/Object"))) (t' := .int) (by decide) (by decide))))
  have f7 := (P4.other W2 (Or.inr (slot_ne (Or.inl (wh hw 165 rfl)) (Or.inl (wh hw 22 rfl)) (by decide) (t := .int) (t' := .int) (by decide) (by decide))))
  exact ⟨N2, K5, rfl, f6, f7⟩
theorem d1_0 : decode B1 0 = .ok (.aload_n 0, 1) := by decide +kernel
theorem d1_1 : decode B1 1 = .ok (.invokespecial 1, 3) := by decide +kernel
theorem d1_4 : decode B1 4 = .ok (.aload_n 0, 1) := by decide +kernel
theorem d1_5 : decode B1 5 = .ok (.getstatic 39, 3) := by decide +kernel
theorem d1_8 : decode B1 8 = .ok (.putfield 9, 3) := by decide +kernel
theorem d1_11 : decode B1 11 = .ok (.return_, 1) := by decide +kernel
theorem own_pn_java_util_ArrayList : plainName "java/util/ArrayList" = true := by first | (simp [plainName, overriddenIn]; done) | decide +kernel
theorem own_ef_own_alInit (m : MethodId) (xa : Addr) : entryFrame m #[.ref xa] 1 = mkF m 0 #[vR xa] [] := by first | (simp [entryFrame, mkF, argsToLocals, Value.category]; done) | rfl
def Q_own_alInit (Z : State) (xa : Addr) (gwD : Addr) (gz : Int32) (gwc : Addr) (gcl : Cell) (h0 : Heap) (n0 : Nat) (v : Option Value) (h : Heap) (L : List Loc) : Prop := Fr n0 L ∧ Keep h0 h [xa] ∧ v = none ∧ Fld Z h xa "java/util/ArrayList" "size" "I" (.int 0)
theorem own_alInit (l : Launch) (Z : State) (a0 : Array Value) (hw : ∀ d ∈ tables_1, d.before a0 Z = true) (ws : List Jvm.Cond) (xa : Addr) (h0 : Heap) (n0 : Nat) (O0 : Old Z n0 h0) (gwD : Addr) (gz : Int32) (gwc : Addr) (gcl : Cell) (G : GG Z gwD gz gwc gcl) (P0 : Exa Z h0 xa "java/util/ArrayList") (P1 : Fld Z h0 xa "java/util/AbstractList" "modCount" "I" (.int 0)) (P2 : n0 ≤ xa) (P3 : Fld Z h0 xa "java/util/ArrayList" "elementData" "[Ljava/lang/Object;" .null) (P4 : Fld Z h0 xa "java/util/ArrayList" "size" "I" (.int 0)) : own_Met l Z (⟨"java/util/ArrayList", "<init>", "()V"⟩ : MethodName) jdk_38_method_2_code 1 none ws ({ frames := 3, cells := 0, slots := 0, locals := 36 } : Room) #[.ref xa] h0 (Q_own_alInit Z xa gwD gz gwc gcl h0 n0) := by
  refine own_mk (plainFor_of_name own_pn_java_util_ArrayList) O0 ?_
  intro p e s m below meth c s₁ hx hby hml hZ hown hnm hlk hret X0 e0 N0 z0 z1
  have K0 : Keep h0 h0 [xa] := Keep.refl _ _
  refine own_cast (own_ef_own_alInit m xa) ?_
  show own_Goes p e below (s₁.setTop (mkF m 0 #[vR xa] [])) _
  obtain ⟨G0, G1, G2, G3, G4, G5, G6⟩ := id G
  have ltG1 : @LT.lt Nat _ gwD Z.heap.size := G1.lt
  have ltP0 : @LT.lt Nat _ xa h0.size := P0.lt
  refine q_aloadN X0 hx hby d1_0 rfl rfl ?_
  refine k_N X0 hx hby hZ hown (wh hw 6 rfl) (wh hw 7 rfl) (W := 0) (own_alsInit l Z a0 hw [] xa h0 n0 O0 P0 P1 (show n0 ≤ xa by first | assumption | omega | decide) P3 P4) (wh hw 11 rfl) (wh hw 10 rfl) e0  hml (argsL := []) (rest := []) own_pd_0 d1_1 (fun _ T1 L1 X1 hQ1 => ?_)
  obtain ⟨h1, e1⟩ : ∃ z, T1.heap = z := ⟨_, rfl⟩
  rw [e1] at hQ1
  obtain ⟨Nc1, Kc1, rfl, c1_0, c1_1⟩ := hQ1
  have N1 := Fr.app N0 Nc1
  have O2 := O0.keep Kc1 (allS (show n0 ≤ xa by omega) all0)
  have sz3 : h0.size ≤ h1.size := Kc1.1
  have K4 := Keep.trans K0 Kc1 (allS (Or.inl (List.mem_of_getElem? (i := 0) rfl)) all0)
  refine q_aloadN X1 hx hby d1_4 rfl rfl ?_
  have q5 := G0.ext O2.2
  refine qS X1 hx hby hZ hown (host := "") (Or.inl (wh hw 23 rfl)) Via.refl e1 q5 d1_5 (fun T6 X6 e6 => ?_)
  have f7 := (P0.keep Kc1)
  refine qP X6 hx hby hZ hown (host := "") (Or.inl (wh hw 24 rfl)) Via.refl e6 c1_0 f7 (Or.inl (wh hw 25 rfl)) (wh hw 1 rfl) (ty := (.array (.object "java/lang/Object"))) d1_8 (fun T8 h8 X8 e8 W8 => ?_)
  have O9 := O2.wr W8 (show n0 ≤ xa by omega)
  have sz10 : h8.size = h1.size := Wr.size W8
  have K11 := K4.wr W8 (Or.inl (List.mem_of_getElem? (i := 0) rfl))
  have N8 := Fr.snoc X8 N1 (show n0 ≤ xa by omega)
  have Fw8 := c1_0.same W8
  refine r_V X8 hx hby hret hlk d1_11 e8 ?_
  have f12 := (c1_1.other W8 (Or.inr (slot_ne (Or.inl (wh hw 165 rfl)) (Or.inl (wh hw 25 rfl)) (by decide) (t := .int) (t' := (.array (.object "java/lang/Object"))) (by decide) (by decide))))
  exact ⟨N8, K11, rfl, f12⟩
theorem d23_0 : decode B23 0 = .ok (.aload_n 0, 1) := by decide +kernel
theorem d23_1 : decode B23 1 = .ok (.getfield 48, 3) := by decide +kernel
theorem d23_4 : decode B23 4 = .ok (.ireturn, 1) := by decide +kernel
theorem own_ef_own_alSize (m : MethodId) (xa : Addr) : entryFrame m #[.ref xa] 1 = mkF m 0 #[vR xa] [] := by first | (simp [entryFrame, mkF, argsToLocals, Value.category]; done) | rfl
def Q_own_alSize (Z : State) (xa : Addr) (h0 : Heap) (n0 : Nat) (v : Option Value) (h : Heap) (L : List Loc) : Prop := Fr n0 L ∧ h = h0 ∧ v = some (.int 0)
theorem own_alSize (l : Launch) (Z : State) (a0 : Array Value) (hw : ∀ d ∈ tables_1, d.before a0 Z = true) (ws : List Jvm.Cond) (xa : Addr) (h0 : Heap) (n0 : Nat) (O0 : Old Z n0 h0) (P0 : Fld Z h0 xa "java/util/ArrayList" "size" "I" (.int 0)) : own_Met l Z (⟨"java/util/ArrayList", "size", "()I"⟩ : MethodName) jdk_38_method_8_code 1 (some .int) ws ({ frames := 0, cells := 0, slots := 0, locals := 0 } : Room) #[.ref xa] h0 (Q_own_alSize Z xa h0 n0) := by
  refine own_mk (plainFor_of_name own_pn_java_util_ArrayList) O0 ?_
  intro p e s m below meth c s₁ hx hby hml hZ hown hnm hlk hret X0 e0 N0 z0 z1
  refine own_cast (own_ef_own_alSize m xa) ?_
  show own_Goes p e below (s₁.setTop (mkF m 0 #[vR xa] [])) _
  refine q_aloadN X0 hx hby d23_0 rfl rfl ?_
  refine qG X0 hx hby hZ hown (wh hw 164 rfl) e0 P0 d23_1 (fun T1 X1 e1 => ?_)
  refine r_I X1 hx hby hret hlk d23_4 e1 ?_
  exact ⟨N0, rfl, rfl⟩
theorem d5_0 : decode B5 0 = .ok (.aload_n 0, 1) := by decide +kernel
theorem d5_1 : decode B5 1 = .ok (.invokespecial 43, 3) := by decide +kernel
theorem d5_4 : decode B5 4 = .ok (.aload_n 0, 1) := by decide +kernel
theorem d5_5 : decode B5 5 = .ok (.ldc 92, 2) := by decide +kernel
theorem d5_7 : decode B5 7 = .ok (.putfield 81, 3) := by decide +kernel
theorem d5_10 : decode B5 10 = .ok (.return_, 1) := by decide +kernel
theorem own_pn_java_util_HashMap : plainName "java/util/HashMap" = true := by first | (simp [plainName, overriddenIn]; done) | decide +kernel
theorem own_ef_own_hmInit (m : MethodId) (xm : Addr) : entryFrame m #[.ref xm] 1 = mkF m 0 #[vR xm] [] := by first | (simp [entryFrame, mkF, argsToLocals, Value.category]; done) | rfl
def Q_own_hmInit (Z : State) (xm : Addr) (h0 : Heap) (n0 : Nat) (v : Option Value) (h : Heap) (L : List Loc) : Prop := Fr n0 L ∧ Keep h0 h [xm] ∧ v = none ∧ Fld Z h xm "java/util/HashMap" "size" "I" (.int 0) ∧ Fld Z h xm "java/util/HashMap" "modCount" "I" (.int 0) ∧ Fld Z h xm "java/util/HashMap" "threshold" "I" (.int 0) ∧ Fld Z h xm "java/util/HashMap" "table" "[Ljava/util/HashMap$Node;" .null ∧ Fld Z h xm "java/util/AbstractMap" "values" "Ljava/util/Collection;" .null
theorem own_hmInit (l : Launch) (Z : State) (a0 : Array Value) (hw : ∀ d ∈ tables_1, d.before a0 Z = true) (ws : List Jvm.Cond) (xm : Addr) (h0 : Heap) (n0 : Nat) (O0 : Old Z n0 h0) (P0 : Exa Z h0 xm "java/util/HashMap") (P1 : Fld Z h0 xm "java/util/HashMap" "loadFactor" "F" (.float (0 : UInt32))) (P2 : n0 ≤ xm) (P3 : Fld Z h0 xm "java/util/HashMap" "size" "I" (.int 0)) (P4 : Fld Z h0 xm "java/util/HashMap" "modCount" "I" (.int 0)) (P5 : Fld Z h0 xm "java/util/HashMap" "threshold" "I" (.int 0)) (P6 : Fld Z h0 xm "java/util/HashMap" "table" "[Ljava/util/HashMap$Node;" .null) (P7 : Fld Z h0 xm "java/util/AbstractMap" "values" "Ljava/util/Collection;" .null) : own_Met l Z (⟨"java/util/HashMap", "<init>", "()V"⟩ : MethodName) jdk_69_method_7_code 1 none ws ({ frames := 2, cells := 0, slots := 0, locals := 24 } : Room) #[.ref xm] h0 (Q_own_hmInit Z xm h0 n0) := by
  refine own_mk (plainFor_of_name own_pn_java_util_HashMap) O0 ?_
  intro p e s m below meth c s₁ hx hby hml hZ hown hnm hlk hret X0 e0 N0 z0 z1
  have K0 : Keep h0 h0 [xm] := Keep.refl _ _
  refine own_cast (own_ef_own_hmInit m xm) ?_
  show own_Goes p e below (s₁.setTop (mkF m 0 #[vR xm] [])) _
  have ltP0 : @LT.lt Nat _ xm h0.size := P0.lt
  refine q_aloadN X0 hx hby d5_0 rfl rfl ?_
  refine k_N X0 hx hby hZ hown (wh hw 32 rfl) (wh hw 33 rfl) (W := 0) (own_amInit l Z a0 hw [] xm h0 n0 O0) (wh hw 37 rfl) (wh hw 36 rfl) e0  hml (argsL := []) (rest := []) own_pd_0 d5_1 (fun _ T1 L1 X1 hQ1 => ?_)
  obtain ⟨Nc1, e1, rfl⟩ := hQ1
  have N1 := Fr.app N0 Nc1
  refine q_aloadN X1 hx hby d5_4 rfl rfl ?_
  refine gg (fun t k => X1.ldcFloatC hx hown (mv hZ (wh hw 39 rfl)) (g := (mkF m 5 #[vR xm] [.ref xm])) rfl (hb hby d5_5) _ k) ?_
  refine qP X1 hx hby hZ hown (host := "") (Or.inl (wh hw 40 rfl)) Via.refl e1 P1 P0 (Or.inr ⟨(wh hw 41 rfl), rfl, hnm⟩) (wh hw 27 rfl) (ty := .float) d5_7 (fun T2 h2 X2 e2 W2 => ?_)
  have O3 := O0.wr W2 (show n0 ≤ xm by omega)
  have sz4 : h2.size = h0.size := Wr.size W2
  have K5 := K0.wr W2 (Or.inl (List.mem_of_getElem? (i := 0) rfl))
  have N2 := Fr.snoc X2 N1 (show n0 ≤ xm by omega)
  have Fw2 := P1.same W2
  refine r_V X2 hx hby hret hlk d5_10 e2 ?_
  have f6 := (P3.other W2 (Or.inr (slot_ne (Or.inl (wh hw 142 rfl)) (Or.inr (wh hw 41 rfl)) (by decide) (t := .int) (t' := .float) (by decide) (by decide))))
  have f7 := (P4.other W2 (Or.inr (slot_ne (Or.inl (wh hw 140 rfl)) (Or.inr (wh hw 41 rfl)) (by decide) (t := .int) (t' := .float) (by decide) (by decide))))
  have f8 := (P5.other W2 (Or.inr (slot_ne (Or.inl (wh hw 116 rfl)) (Or.inr (wh hw 41 rfl)) (by decide) (t := .int) (t' := .float) (by decide) (by decide))))
  have f9 := (P6.other W2 (Or.inr (slot_ne (Or.inl (wh hw 109 rfl)) (Or.inr (wh hw 41 rfl)) (by decide) (t := (.array (.object "java/util/HashMap$Node"))) (t' := .float) (by decide) (by decide))))
  have f10 := (P7.other W2 (Or.inr (slot_ne (Or.inl (wh hw 190 rfl)) (Or.inr (wh hw 41 rfl)) (by decide) (t := (.object "java/util/Collection")) (t' := .float) (by decide) (by decide))))
  exact ⟨N2, K5, rfl, f6, f7, f8, f9, f10⟩
theorem d43_0 : decode B43 0 = .ok (.iload_n 0, 1) := by decide +kernel
theorem d43_1 : decode B43 1 = .ok (.iload_n 1, 1) := by decide +kernel
theorem d43_2 : decode B43 2 = .ok (.if_icmp .gt 7, 3) := by decide +kernel
theorem d43_9 : decode B43 9 = .ok (.iload_n 1, 1) := by decide +kernel
theorem d43_10 : decode B43 10 = .ok (.ireturn, 1) := by decide +kernel
theorem own_ef_own_minR (m : MethodId) (xi : Int32) (xj : Int32) : entryFrame m #[.int xi, .int xj] 2 = mkF m 0 #[vI xi, vI xj] [] := by first | (simp [entryFrame, mkF, argsToLocals, Value.category]; done) | rfl
def Q_own_minR (Z : State) (xi : Int32) (xj : Int32) (h0 : Heap) (n0 : Nat) (v : Option Value) (h : Heap) (L : List Loc) : Prop := Fr n0 L ∧ h = h0 ∧ v = some (.int xj)
theorem own_minR (l : Launch) (Z : State) (a0 : Array Value) (hw : ∀ d ∈ tables_1, d.before a0 Z = true) (ws : List Jvm.Cond) (xi : Int32) (xj : Int32) (h0 : Heap) (n0 : Nat) (O0 : Old Z n0 h0) (P0 : xj < xi) : own_Met l Z (⟨"java/lang/Math", "min", "(II)I"⟩ : MethodName) jdk_29_method_69_code 2 (some .int) ws ({ frames := 0, cells := 0, slots := 0, locals := 0 } : Room) #[.int xi, .int xj] h0 (Q_own_minR Z xi xj h0 n0) := by
  refine own_mk (Jvm.Free.JP.mathPlain rfl (by decide +kernel)) O0 ?_
  intro p e s m below meth c s₁ hx hby hml hZ hown hnm hlk hret X0 e0 N0 z0 z1
  refine own_cast (own_ef_own_minR m xi xj) ?_
  show own_Goes p e below (s₁.setTop (mkF m 0 #[vI xi, vI xj] [])) _
  refine q_iloadN X0 hx hby d43_0 rfl ?_
  refine q_iloadN X0 hx hby d43_1 rfl ?_
  refine q_icmpYes (pc := 2) X0 hx hby d43_2 (pc' := 9) (tlt (show (xj < xi) from P0)).2.2.1 (by decide) (by decide) ?_
  refine q_iloadN X0 hx hby d43_9 rfl ?_
  refine r_I X0 hx hby hret hlk d43_10 e0 ?_
  exact ⟨N0, rfl, rfl⟩
theorem d43_5 : decode B43 5 = .ok (.iload_n 0, 1) := by decide +kernel
theorem d43_6 : decode B43 6 = .ok (.goto 4, 3) := by decide +kernel
theorem own_ef_own_minC (m : MethodId) (xi : Int32) (xj : Int32) : entryFrame m #[.int xi, .int xj] 2 = mkF m 0 #[vI xi, vI xj] [] := by first | (simp [entryFrame, mkF, argsToLocals, Value.category]; done) | rfl
def Q_own_minC (Z : State) (xi : Int32) (xj : Int32) (h0 : Heap) (n0 : Nat) (v : Option Value) (h : Heap) (L : List Loc) : Prop := Fr n0 L ∧ h = h0 ∧ v = some (.int (own_min xi xj))
theorem own_minC (l : Launch) (Z : State) (a0 : Array Value) (hw : ∀ d ∈ tables_1, d.before a0 Z = true) (ws : List Jvm.Cond) (xi : Int32) (xj : Int32) (h0 : Heap) (n0 : Nat) (O0 : Old Z n0 h0) : own_Met l Z (⟨"java/lang/Math", "min", "(II)I"⟩ : MethodName) jdk_29_method_69_code 2 (some .int) ws ({ frames := 0, cells := 0, slots := 0, locals := 0 } : Room) #[.int xi, .int xj] h0 (Q_own_minC Z xi xj h0 n0) := by
  refine own_mk (Jvm.Free.JP.mathPlain rfl (by decide +kernel)) O0 ?_
  intro p e s m below meth c s₁ hx hby hml hZ hown hnm hlk hret X0 e0 N0 z0 z1
  refine own_cast (own_ef_own_minC m xi xj) ?_
  show own_Goes p e below (s₁.setTop (mkF m 0 #[vI xi, vI xj] [])) _
  refine q_iloadN X0 hx hby d43_0 rfl ?_
  refine q_iloadN X0 hx hby d43_1 rfl ?_
  by_cases hc1 : xj < xi
  · refine q_icmpYes (pc := 2) X0 hx hby d43_2 (pc' := 9) (tlt hc1).2.2.1 (by decide) (by decide) ?_
    refine q_iloadN X0 hx hby d43_9 rfl ?_
    refine r_I X0 hx hby hret hlk d43_10 e0 ?_
    exact ⟨N0, rfl, (by rw [own_minT hc1] <;> rfl)⟩
  · refine q_icmpNo X0 hx hby d43_2 (flt hc1).2.2.1 ?_
    refine q_iloadN X0 hx hby d43_5 rfl ?_
    refine q_goto (pc := 6) X0 hx hby d43_6 (pc' := 10) (by decide) (by decide) ?_
    refine r_I X0 hx hby hret hlk d43_10 e0 ?_
    exact ⟨N0, rfl, (by rw [own_minF hc1] <;> rfl)⟩
theorem d8_0 : decode B8 0 = .ok (.iload_n 0, 1) := by decide +kernel
theorem d8_1 : decode B8 1 = .ok (.sipush 255, 3) := by decide +kernel
theorem d8_4 : decode B8 4 = .ok (.if_icmp .gt 7, 3) := by decide +kernel
theorem d8_7 : decode B8 7 = .ok (.iconst 1, 1) := by decide +kernel
theorem d8_8 : decode B8 8 = .ok (.goto 4, 3) := by decide +kernel
theorem d8_12 : decode B8 12 = .ok (.ireturn, 1) := by decide +kernel
theorem own_pn_java_lang_StringLatin1 : plainName "java/lang/StringLatin1" = true := by first | (simp [plainName, overriddenIn]; done) | decide +kernel
theorem own_ef_own_canEnc (m : MethodId) (xi : Int32) : entryFrame m #[.int xi] 1 = mkF m 0 #[vI xi] [] := by first | (simp [entryFrame, mkF, argsToLocals, Value.category]; done) | rfl
def Q_own_canEnc (Z : State) (xi : Int32) (h0 : Heap) (n0 : Nat) (v : Option Value) (h : Heap) (L : List Loc) : Prop := Fr n0 L ∧ h = h0 ∧ v = some (.int 1)
theorem own_canEnc (l : Launch) (Z : State) (a0 : Array Value) (hw : ∀ d ∈ tables_1, d.before a0 Z = true) (ws : List Jvm.Cond) (xi : Int32) (h0 : Heap) (n0 : Nat) (O0 : Old Z n0 h0) (P0 : ¬ (255 : Int32) < xi) : own_Met l Z (⟨"java/lang/StringLatin1", "canEncode", "(C)Z"⟩ : MethodName) jdk_43_method_3_code 1 (some .boolean) ws ({ frames := 0, cells := 0, slots := 0, locals := 0 } : Room) #[.int xi] h0 (Q_own_canEnc Z xi h0 n0) := by
  refine own_mk (plainFor_of_name own_pn_java_lang_StringLatin1) O0 ?_
  intro p e s m below meth c s₁ hx hby hml hZ hown hnm hlk hret X0 e0 N0 z0 z1
  refine own_cast (own_ef_own_canEnc m xi) ?_
  show own_Goes p e below (s₁.setTop (mkF m 0 #[vI xi] [])) _
  refine q_iloadN X0 hx hby d8_0 rfl ?_
  refine q_sipush X0 hx hby d8_1 ?_
  refine q_icmpNo X0 hx hby d8_4 (flt (show ¬ ((255 : Int32) < xi) from P0)).2.2.1 ?_
  refine q_iconst X0 hx hby d8_7 ?_
  refine q_goto (pc := 8) X0 hx hby d8_8 (pc' := 12) (by decide) (by decide) ?_
  refine r_Z X0 hx hby hret hlk d8_12 e0 ?_
  exact ⟨N0, rfl, rfl⟩
theorem d10_0 : decode B10 0 = .ok (.aload_n 0, 1) := by decide +kernel
theorem d10_1 : decode B10 1 = .ok (.invokespecial 1, 3) := by decide +kernel
theorem d10_4 : decode B10 4 = .ok (.aload_n 0, 1) := by decide +kernel
theorem d10_5 : decode B10 5 = .ok (.aload_n 1, 1) := by decide +kernel
theorem d10_6 : decode B10 6 = .ok (.putfield 9, 3) := by decide +kernel
theorem d10_9 : decode B10 9 = .ok (.aload_n 0, 1) := by decide +kernel
theorem d10_10 : decode B10 10 = .ok (.iload_n 2, 1) := by decide +kernel
theorem d10_11 : decode B10 11 = .ok (.putfield 15, 3) := by decide +kernel
theorem d10_14 : decode B10 14 = .ok (.return_, 1) := by decide +kernel
theorem own_pn_java_lang_String : plainName "java/lang/String" = true := by first | (simp [plainName, overriddenIn]; done) | decide +kernel
theorem own_ef_own_strInit (m : MethodId) (xa : Addr) (xb : Addr) : entryFrame m #[.ref xa, .ref xb, .int 0] 3 = mkF m 0 #[vR xa, vR xb, vI 0] [] := by first | (simp [entryFrame, mkF, argsToLocals, Value.category]; done) | rfl
def Q_own_strInit (Z : State) (xa : Addr) (xb : Addr) (h0 : Heap) (n0 : Nat) (v : Option Value) (h : Heap) (L : List Loc) : Prop := Fr n0 L ∧ Keep h0 h [xa] ∧ v = none ∧ Fld Z h xa "java/lang/String" "value" "[B" (.ref xb) ∧ Fld Z h xa "java/lang/String" "coder" "B" (.int 0) ∧ Fld Z h xa "java/lang/String" "hash" "I" (.int 0) ∧ Fld Z h xa "java/lang/String" "hashIsZero" "Z" (.int 0)
theorem own_strInit (l : Launch) (Z : State) (a0 : Array Value) (hw : ∀ d ∈ tables_1, d.before a0 Z = true) (ws : List Jvm.Cond) (xa : Addr) (xb : Addr) (h0 : Heap) (n0 : Nat) (O0 : Old Z n0 h0) (P0 : Exa Z h0 xa "java/lang/String") (P1 : n0 ≤ xa) (P2 : Fld Z h0 xa "java/lang/String" "value" "[B" .null) (P3 : Fld Z h0 xa "java/lang/String" "coder" "B" (.int 0)) (P4 : Fld Z h0 xa "java/lang/String" "hash" "I" (.int 0)) (P5 : Fld Z h0 xa "java/lang/String" "hashIsZero" "Z" (.int 0)) : own_Met l Z (⟨"java/lang/String", "<init>", "([BB)V"⟩ : MethodName) jdk_42_method_151_code 3 none ws ({ frames := 1, cells := 0, slots := 0, locals := 12 } : Room) #[.ref xa, .ref xb, .int 0] h0 (Q_own_strInit Z xa xb h0 n0) := by
  refine own_mk (plainFor_of_name own_pn_java_lang_String) O0 ?_
  intro p e s m below meth c s₁ hx hby hml hZ hown hnm hlk hret X0 e0 N0 z0 z1
  have K0 : Keep h0 h0 [xa] := Keep.refl _ _
  refine own_cast (own_ef_own_strInit m xa xb) ?_
  show own_Goes p e below (s₁.setTop (mkF m 0 #[vR xa, vR xb, vI 0] [])) _
  have ltP0 : @LT.lt Nat _ xa h0.size := P0.lt
  refine q_aloadN X0 hx hby d10_0 rfl rfl ?_
  obtain ⟨T1, X1, e1, st1⟩ := initO X0 hx hZ hown (wh hw 61 rfl) (wh hw 19 rfl) (wh hw 20 rfl) e0 (g := (mkF m 1 #[vR xa, vR xb, vI 0] [.ref xa])) rfl (by rw [hml]; rfl) rfl (hb hby d10_1) (by decide) (W := 0) (by show 2 * 0 + _ ≤ _; exact Nat.le_of_eq rfl) (by decide)
  refine gg st1 ?_
  refine q_aloadN X1 hx hby d10_4 rfl rfl ?_
  refine q_aloadN X1 hx hby d10_5 rfl rfl ?_
  refine qP X1 hx hby hZ hown (host := "") (Or.inl (wh hw 62 rfl)) Via.refl e1 P2 P0 (Or.inr ⟨(wh hw 63 rfl), rfl, hnm⟩) (wh hw 52 rfl) (ty := (.array .byte)) d10_6 (fun T2 h2 X2 e2 W2 => ?_)
  have O3 := O0.wr W2 (show n0 ≤ xa by omega)
  have sz4 : h2.size = h0.size := Wr.size W2
  have K5 := K0.wr W2 (Or.inl (List.mem_of_getElem? (i := 0) rfl))
  have N2 := Fr.snoc X2 N0 (show n0 ≤ xa by omega)
  have Fw2 := P2.same W2
  refine q_aloadN X2 hx hby d10_9 rfl rfl ?_
  refine q_iloadN X2 hx hby d10_10 rfl ?_
  have f6 := (P3.other W2 (Or.inr (slot_ne (Or.inr (wh hw 65 rfl)) (Or.inr (wh hw 63 rfl)) (by decide) (t := .byte) (t' := (.array .byte)) (by decide) (by decide))))
  have f7 := (P0.wr W2)
  obtain ⟨T8, h8, X8, e8, W8, st8⟩ := putFN X2 hx hZ hown (wh hw 64 rfl) Via.refl e2 f6 f7 (Or.inr ⟨(wh hw 65 rfl), rfl, hnm⟩) (wh hw 52 rfl) (ty := .byte) (v' := (.int 0)) (by decide) rfl rfl (g := (mkF m 11 #[vR xa, vR xb, vI 0] [.int 0, .ref xa])) rfl rfl (hb hby d10_11)
  refine gg st8 ?_
  have O9 := O3.wr W8 (show n0 ≤ xa by omega)
  have sz10 : h8.size = h2.size := Wr.size W8
  have K11 := K5.wr W8 (Or.inl (List.mem_of_getElem? (i := 0) rfl))
  have N8 := Fr.snoc X8 N2 (show n0 ≤ xa by omega)
  have Fw8 := f6.same W8
  refine r_V X8 hx hby hret hlk d10_14 e8 ?_
  have f12 := (Fw2.other W8 (Or.inr (slot_ne (Or.inr (wh hw 63 rfl)) (Or.inr (wh hw 65 rfl)) (by decide) (t := (.array .byte)) (t' := .byte) (by decide) (by decide))))
  have f13 := ((P4.other W2 (Or.inr (slot_ne (Or.inl (wh hw 92 rfl)) (Or.inr (wh hw 63 rfl)) (by decide) (t := .int) (t' := (.array .byte)) (by decide) (by decide)))).other W8 (Or.inr (slot_ne (Or.inl (wh hw 92 rfl)) (Or.inr (wh hw 65 rfl)) (by decide) (t := .int) (t' := .byte) (by decide) (by decide))))
  have f14 := ((P5.other W2 (Or.inr (slot_ne (Or.inl (wh hw 94 rfl)) (Or.inr (wh hw 63 rfl)) (by decide) (t := .boolean) (t' := (.array .byte)) (by decide) (by decide)))).other W8 (Or.inr (slot_ne (Or.inl (wh hw 94 rfl)) (Or.inr (wh hw 65 rfl)) (by decide) (t := .boolean) (t' := .byte) (by decide) (by decide))))
  exact ⟨N8, K11, rfl, f12, Fw8, f13, f14⟩
theorem d15_0 : decode B15 0 = .ok (.getstatic 38, 3) := by decide +kernel
theorem d15_3 : decode B15 3 = .ok (.ifCond .eq 14, 3) := by decide +kernel
theorem d15_6 : decode B15 6 = .ok (.aload_n 0, 1) := by decide +kernel
theorem d15_7 : decode B15 7 = .ok (.getfield 15, 3) := by decide +kernel
theorem d15_10 : decode B15 10 = .ok (.ifCond .ne 7, 3) := by decide +kernel
theorem d15_13 : decode B15 13 = .ok (.iconst 1, 1) := by decide +kernel
theorem d15_14 : decode B15 14 = .ok (.goto 4, 3) := by decide +kernel
theorem d15_18 : decode B15 18 = .ok (.ireturn, 1) := by decide +kernel
theorem own_ef_own_isLat (m : MethodId) (xa : Addr) : entryFrame m #[.ref xa] 1 = mkF m 0 #[vR xa] [] := by first | (simp [entryFrame, mkF, argsToLocals, Value.category]; done) | rfl
def Q_own_isLat (Z : State) (xa : Addr) (gwD : Addr) (gz : Int32) (gwc : Addr) (gcl : Cell) (h0 : Heap) (n0 : Nat) (v : Option Value) (h : Heap) (L : List Loc) : Prop := Fr n0 L ∧ h = h0 ∧ v = some (.int 1)
theorem own_isLat (l : Launch) (Z : State) (a0 : Array Value) (hw : ∀ d ∈ tables_1, d.before a0 Z = true) (ws : List Jvm.Cond) (xa : Addr) (h0 : Heap) (n0 : Nat) (O0 : Old Z n0 h0) (gwD : Addr) (gz : Int32) (gwc : Addr) (gcl : Cell) (G : GG Z gwD gz gwc gcl) (P0 : Fld Z h0 xa "java/lang/String" "coder" "B" (.int 0)) : own_Met l Z (⟨"java/lang/String", "isLatin1", "()Z"⟩ : MethodName) jdk_42_method_154_code 1 (some .boolean) ws ({ frames := 0, cells := 0, slots := 0, locals := 0 } : Room) #[.ref xa] h0 (Q_own_isLat Z xa gwD gz gwc gcl h0 n0) := by
  refine own_mk (plainFor_of_name own_pn_java_lang_String) O0 ?_
  intro p e s m below meth c s₁ hx hby hml hZ hown hnm hlk hret X0 e0 N0 z0 z1
  refine own_cast (own_ef_own_isLat m xa) ?_
  show own_Goes p e below (s₁.setTop (mkF m 0 #[vR xa] [])) _
  obtain ⟨G0, G1, G2, G3, G4, G5, G6⟩ := id G
  have ltG1 : @LT.lt Nat _ gwD Z.heap.size := G1.lt
  have q1 := G2.ext O0.2
  refine qS X0 hx hby hZ hown (host := "") (Or.inl (wh hw 46 rfl)) Via.refl e0 q1 d15_0 (fun T2 X2 e2 => ?_)
  refine q_ifNo X2 hx hby d15_3 ((if0 _ _).trans (feq (show ¬ (gz = (0 : Int32)) from G3)).1) ?_
  refine q_aloadN X2 hx hby d15_6 rfl rfl ?_
  refine qG X2 hx hby hZ hown (wh hw 64 rfl) e2 P0 d15_7 (fun T3 X3 e3 => ?_)
  refine q_ifNo X3 hx hby d15_10 ((if0 _ _).trans (teq (show ((0 : Int32) = (0 : Int32)) from by decide)).2) ?_
  refine q_iconst X3 hx hby d15_13 ?_
  refine q_goto (pc := 14) X3 hx hby d15_14 (pc' := 18) (by decide) (by decide) ?_
  refine r_Z X3 hx hby hret hlk d15_18 e3 ?_
  exact ⟨N0, rfl, rfl⟩
def own_chr (x : Int32) : Prop := x.toInt8.toInt32 = x ∧ (x &&& (255 : Int32)) = x ∧ ¬ x = 0 ∧ (x ^^^ ((x.toUInt32 >>> ((16 : Int32) &&& 31).toUInt32).toInt32)) = x ∧ ¬ (255 : Int32) < x
theorem own_chr97 : own_chr 97 := by unfold own_chr; decide
theorem own_chr98 : own_chr 98 := by unfold own_chr; decide
theorem own_chr99 : own_chr 99 := by unfold own_chr; decide

theorem d9_0 : decode B9 0 = .ok (.iconst 1, 1) := by decide +kernel
theorem d9_1 : decode B9 1 = .ok (.newarray .byte, 2) := by decide +kernel
theorem d9_3 : decode B9 3 = .ok (.dup, 1) := by decide +kernel
theorem d9_4 : decode B9 4 = .ok (.iconst 0, 1) := by decide +kernel
theorem d9_5 : decode B9 5 = .ok (.iload_n 0, 1) := by decide +kernel
theorem d9_6 : decode B9 6 = .ok (.i2b, 1) := by decide +kernel
theorem d9_7 : decode B9 7 = .ok (.bastore, 1) := by decide +kernel
theorem d9_8 : decode B9 8 = .ok (.areturn, 1) := by decide +kernel
theorem own_ef_own_toB (m : MethodId) (xi : Int32) : entryFrame m #[.int xi] 1 = mkF m 0 #[vI xi] [] := by first | (simp [entryFrame, mkF, argsToLocals, Value.category]; done) | rfl
def Q_own_toB (Z : State) (xi : Int32) (h0 : Heap) (n0 : Nat) (v : Option Value) (h : Heap) (L : List Loc) : Prop := Fr n0 L ∧ Keep h0 h [] ∧ ∃ (r : Addr), ∃ (rk : ClassId), v = some (.ref r) ∧ Arv Z h r rk .byte (1 : Int32) [.int xi] (.int 0) ∧ h0.size ≤ r
theorem own_toB (l : Launch) (Z : State) (a0 : Array Value) (hw : ∀ d ∈ tables_1, d.before a0 Z = true) (ws : List Jvm.Cond) (xi : Int32) (h0 : Heap) (n0 : Nat) (O0 : Old Z n0 h0) (P0 : own_chr xi) : own_Met l Z (⟨"java/lang/StringLatin1", "toBytes", "(C)[B"⟩ : MethodName) jdk_43_method_46_code 1 (some (.array .byte)) ws ({ frames := 0, cells := 1, slots := 1, locals := 0 } : Room) #[.int xi] h0 (Q_own_toB Z xi h0 n0) := by
  refine own_mk (plainFor_of_name own_pn_java_lang_StringLatin1) O0 ?_
  intro p e s m below meth c s₁ hx hby hml hZ hown hnm hlk hret X0 e0 N0 z0 z1
  have K0 : Keep h0 h0 [] := Keep.refl _ _
  refine own_cast (own_ef_own_toB m xi) ?_
  show own_Goes p e below (s₁.setTop (mkF m 0 #[vI xi] [])) _
  refine q_iconst X0 hx hby d9_0 ?_
  obtain ⟨T1, h1, k1, X1, e1, E1, A1, st1⟩ := newP X0 hx hZ (wh hw 56 rfl) e0 (g := (mkF m 1 #[vI xi] [.int 1])) rfl (hb hby d9_1) rfl (by decide) (cap := 1) (by decide) (by decide) (by decide) (by decide)
  obtain ⟨b1, g1⟩ : ∃ z, z = h0.size := ⟨_, rfl⟩
  rw [← g1] at A1 st1
  refine gg st1 ?_
  have O2 := O0.ext E1
  have sz3 : h0.size ≤ h1.size := E1.1
  have K4 := K0.ext E1
  have l1 : @LT.lt Nat _ b1 h1.size := A1.lt
  have V1 : Arv Z h1 b1 k1 .byte (1 : Int32) [.int 0] (.int 0) := (Arv.new A1 (by decide)).pad (pad_rep [] (.int 0) 1)
  refine q_dup X1 hx hby d9_3 rfl ?_
  refine q_iconst X1 hx hby d9_4 ?_
  refine q_iloadN X1 hx hby d9_5 rfl ?_
  refine gg (fun t k => XS.i2b X1.here hx rfl (hb hby d9_6) rfl k) ?_
  show own_Goes p e below (T1.setTop (mkF m 7 #[vI xi] [(.int (xi.toInt8.toInt32)), .int 0, .ref b1, .ref b1])) _
  rw [show (xi.toInt8.toInt32) = xi from P0.1]
  refine q_stB X1 hx hby hZ e1 V1 0 d9_7 (fun T6 h6 X6 e6 W6 V6 => ?_)
  have O7 := O2.wr W6 (show n0 ≤ b1 by omega)
  have sz8 : h6.size = h1.size := Wr.size W6
  have K9 := K4.wr W6 (Or.inr (show h0.size ≤ b1 by omega))
  have N6 := Fr.snoc X6 N0 (show n0 ≤ b1 by omega)
  have V6 : Arv Z h6 b1 k1 .byte (1 : Int32) [(.int (xi.toInt8.toInt32))] (.int 0) := V6
  rw [show (xi.toInt8.toInt32) = xi from P0.1] at V6
  refine r_R X6 hx hby hret hlk d9_8 e6 ?_
  exact ⟨N6, K9, b1, k1, rfl, V6, (show h0.size ≤ b1 by first | assumption | omega | decide)⟩
theorem d7_0 : decode B7 0 = .ok (.getstatic 38, 3) := by decide +kernel
theorem d7_3 : decode B7 3 = .ok (.ifCond .eq 23, 3) := by decide +kernel
theorem d7_6 : decode B7 6 = .ok (.iload_n 0, 1) := by decide +kernel
theorem d7_7 : decode B7 7 = .ok (.invokestatic 1015, 3) := by decide +kernel
theorem own_pd_1 : parseMethodDescriptor "(C)Z" = some ⟨[.char], some .boolean⟩ := by decide +kernel
theorem d7_10 : decode B7 10 = .ok (.ifCond .eq 16, 3) := by decide +kernel
theorem d7_13 : decode B7 13 = .ok (.new 10, 3) := by decide +kernel
theorem d7_16 : decode B7 16 = .ok (.dup, 1) := by decide +kernel
theorem d7_17 : decode B7 17 = .ok (.iload_n 0, 1) := by decide +kernel
theorem d7_18 : decode B7 18 = .ok (.invokestatic 1018, 3) := by decide +kernel
theorem own_pd_2 : parseMethodDescriptor "(C)[B" = some ⟨[.char], some (.array .byte)⟩ := by decide +kernel
theorem d7_21 : decode B7 21 = .ok (.iconst 0, 1) := by decide +kernel
theorem d7_22 : decode B7 22 = .ok (.invokespecial 209, 3) := by decide +kernel
theorem own_pd_3 : parseMethodDescriptor "([BB)V" = some ⟨[(.array .byte), .byte], none⟩ := by decide +kernel
theorem d7_25 : decode B7 25 = .ok (.areturn, 1) := by decide +kernel
theorem own_ef_own_vOf (m : MethodId) (xi : Int32) : entryFrame m #[.int xi] 1 = mkF m 0 #[vI xi] [] := by first | (simp [entryFrame, mkF, argsToLocals, Value.category]; done) | rfl
def Q_own_vOf (Z : State) (xi : Int32) (gwD : Addr) (gz : Int32) (gwc : Addr) (gcl : Cell) (h0 : Heap) (n0 : Nat) (v : Option Value) (h : Heap) (L : List Loc) : Prop := Fr n0 L ∧ Keep h0 h [] ∧ ∃ (r : Addr), ∃ (rb : Addr), ∃ (rk : ClassId), v = some (.ref r) ∧ Exa Z h r "java/lang/String" ∧ Fld Z h r "java/lang/String" "value" "[B" (.ref rb) ∧ Fld Z h r "java/lang/String" "coder" "B" (.int 0) ∧ Fld Z h r "java/lang/String" "hash" "I" (.int 0) ∧ Fld Z h r "java/lang/String" "hashIsZero" "Z" (.int 0) ∧ Arv Z h rb rk .byte (1 : Int32) [.int xi] (.int 0) ∧ h0.size ≤ r ∧ @LT.lt Nat _ r rb
theorem own_vOf (l : Launch) (Z : State) (a0 : Array Value) (hw : ∀ d ∈ tables_1, d.before a0 Z = true) (ws : List Jvm.Cond) (xi : Int32) (h0 : Heap) (n0 : Nat) (O0 : Old Z n0 h0) (gwD : Addr) (gz : Int32) (gwc : Addr) (gcl : Cell) (G : GG Z gwD gz gwc gcl) (P0 : own_chr xi) : own_Met l Z (⟨"java/lang/String", "valueOf", "(C)Ljava/lang/String;"⟩ : MethodName) jdk_42_method_139_code 1 (some (.object "java/lang/String")) ws ({ frames := 2, cells := 2, slots := 5, locals := 27 } : Room) #[.int xi] h0 (Q_own_vOf Z xi gwD gz gwc gcl h0 n0) := by
  refine own_mk (plainFor_of_name own_pn_java_lang_String) O0 ?_
  intro p e s m below meth c s₁ hx hby hml hZ hown hnm hlk hret X0 e0 N0 z0 z1
  have K0 : Keep h0 h0 [] := Keep.refl _ _
  refine own_cast (own_ef_own_vOf m xi) ?_
  show own_Goes p e below (s₁.setTop (mkF m 0 #[vI xi] [])) _
  obtain ⟨G0, G1, G2, G3, G4, G5, G6⟩ := id G
  have ltG1 : @LT.lt Nat _ gwD Z.heap.size := G1.lt
  have Pc := P0.2.2.2.2
  have q1 := G2.ext O0.2
  refine qS X0 hx hby hZ hown (host := "") (Or.inl (wh hw 46 rfl)) Via.refl e0 q1 d7_0 (fun T2 X2 e2 => ?_)
  refine q_ifNo X2 hx hby d7_3 ((if0 _ _).trans (feq (show ¬ (gz = (0 : Int32)) from G3)).1) ?_
  refine q_iloadN X2 hx hby d7_6 rfl ?_
  refine k_S X2 hx hby hZ hown (wh hw 47 rfl) (wh hw 48 rfl) (W := 0) (own_canEnc l Z a0 hw [] xi h0 n0 O0 (show ¬ (255 : Int32) < xi by first | assumption | omega | decide)) (wh hw 50 rfl) (wh hw 49 rfl) e2  hml (argsL := [.int xi]) (rest := []) own_pd_1 d7_7 (fun _ T3 L3 X3 hQ3 => ?_)
  obtain ⟨Nc3, e3, rfl⟩ := hQ3
  have N3 := Fr.app N0 Nc3
  refine q_ifNo X3 hx hby d7_10 ((if0 _ _).trans (feq (show ¬ ((1 : Int32) = (0 : Int32)) from by decide)).1) ?_
  obtain ⟨T4, h4, X4, e4, E4, A4, D4, -, st4⟩ := newO X3 hx hZ hown (wh hw 51 rfl) (wh hw 52 rfl) (wh hw 44 rfl) e3 (g := (mkF m 13 #[vI xi] [])) rfl (hb hby d7_13) (by decide) (by decide)
  obtain ⟨b4, g4⟩ : ∃ z, z = h0.size := ⟨_, rfl⟩
  rw [← g4] at A4 D4 st4
  refine gg st4 ?_
  have O5 := O0.ext E4
  have sz6 : h0.size ≤ h4.size := E4.1
  have K7 := K0.ext E4
  have l4 : @LT.lt Nat _ b4 h4.size := A4.lt
  have F4_value : Fld Z h4 b4 "java/lang/String" "value" "[B" .null := D4 (Or.inr (wh hw 63 rfl)) (ty := (.array .byte)) (by decide)
  have F4_coder : Fld Z h4 b4 "java/lang/String" "coder" "B" (.int 0) := D4 (Or.inr (wh hw 65 rfl)) (ty := .byte) (by decide)
  have F4_hash : Fld Z h4 b4 "java/lang/String" "hash" "I" (.int 0) := D4 (Or.inl (wh hw 92 rfl)) (ty := .int) (by decide)
  have F4_hashIsZero : Fld Z h4 b4 "java/lang/String" "hashIsZero" "Z" (.int 0) := D4 (Or.inl (wh hw 94 rfl)) (ty := .boolean) (by decide)
  refine q_dup X4 hx hby d7_16 rfl ?_
  refine q_iloadN X4 hx hby d7_17 rfl ?_
  refine k_S X4 hx hby hZ hown (wh hw 53 rfl) (wh hw 54 rfl) (W := 2) (own_toB l Z a0 hw [] xi h4 n0 O5 (show own_chr xi from (by first | assumption | exact own_chr97 | exact own_chr98 | exact own_chr99))) (wh hw 55 rfl) (wh hw 49 rfl) e4  hml (argsL := [.int xi]) (rest := [.ref b4, .ref b4]) own_pd_2 d7_18 (fun _ T8 L8 X8 hQ8 => ?_)
  obtain ⟨h8, e8⟩ : ∃ z, T8.heap = z := ⟨_, rfl⟩
  rw [e8] at hQ8
  obtain ⟨Nc8, Kc8, r_8, rk_8, rfl, c8_0, c8_1⟩ := hQ8
  have N8 := Fr.app N3 Nc8
  have O9 := O5.keep Kc8 all0
  have sz10 : h4.size ≤ h8.size := Kc8.1
  have K11 := Keep.trans K7 Kc8 all0
  have ltc8_0 : @LT.lt Nat _ r_8 h8.size := c8_0.lt
  refine q_iconst X8 hx hby d7_21 ?_
  have f12 := (A4.keep Kc8)
  have f13 := (F4_value.keep Kc8 nin0)
  have f14 := (F4_coder.keep Kc8 nin0)
  have f15 := (F4_hash.keep Kc8 nin0)
  have f16 := (F4_hashIsZero.keep Kc8 nin0)
  refine k_N X8 hx hby hZ hown (wh hw 57 rfl) (wh hw 58 rfl) (W := 1) (own_strInit l Z a0 hw [] b4 r_8 h8 n0 O9 f12 (show n0 ≤ b4 by first | assumption | omega | decide) f13 f14 f15 f16) (wh hw 60 rfl) (wh hw 44 rfl) e8  hml (argsL := [.ref r_8, .int 0]) (rest := [.ref b4]) own_pd_3 d7_22 (fun _ T17 L17 X17 hQ17 => ?_)
  obtain ⟨h17, e17⟩ : ∃ z, T17.heap = z := ⟨_, rfl⟩
  rw [e17] at hQ17
  obtain ⟨Nc17, Kc17, rfl, c17_0, c17_1, c17_2, c17_3⟩ := hQ17
  have N17 := Fr.app N8 Nc17
  have O18 := O9.keep Kc17 (allS (show n0 ≤ b4 by omega) all0)
  have sz19 : h8.size ≤ h17.size := Kc17.1
  have K20 := Keep.trans K11 Kc17 (allS (Or.inr (show h0.size ≤ b4 by omega)) all0)
  refine r_R X17 hx hby hret hlk d7_25 e17 ?_
  have f21 := (f12.keep Kc17)
  have f22 := (c8_0.keep Kc17 (ninS (nE r_8 b4 (by omega)) nin0))
  exact ⟨N17, K20, b4, r_8, rk_8, rfl, f21, c17_0, c17_1, c17_2, c17_3, f22, (show h0.size ≤ b4 by first | assumption | omega | decide), (show @LT.lt Nat _ b4 r_8 by first | assumption | omega | decide)⟩
theorem d16_0 : decode B16 0 = .ok (.aload_n 0, 1) := by decide +kernel
theorem d16_1 : decode B16 1 = .ok (.arraylength, 1) := by decide +kernel
theorem d16_2 : decode B16 2 = .ok (.lookupswitch 40 #[(0, 26), (1, 30)], 26) := by decide +kernel
theorem d16_32 : decode B16 32 = .ok (.aload_n 0, 1) := by decide +kernel
theorem d16_33 : decode B16 33 = .ok (.iconst 0, 1) := by decide +kernel
theorem d16_34 : decode B16 34 = .ok (.baload, 1) := by decide +kernel
theorem d16_35 : decode B16 35 = .ok (.sipush 255, 3) := by decide +kernel
theorem d16_38 : decode B16 38 = .ok (.iand, 1) := by decide +kernel
theorem d16_39 : decode B16 39 = .ok (.goto 12, 3) := by decide +kernel
theorem d16_51 : decode B16 51 = .ok (.ireturn, 1) := by decide +kernel
theorem own_ef_own_lHash (m : MethodId) (xb : Addr) : entryFrame m #[.ref xb] 1 = mkF m 0 #[vR xb] [] := by first | (simp [entryFrame, mkF, argsToLocals, Value.category]; done) | rfl
def Q_own_lHash (Z : State) (xi : Int32) (xb : Addr) (xk : ClassId) (h0 : Heap) (n0 : Nat) (v : Option Value) (h : Heap) (L : List Loc) : Prop := Fr n0 L ∧ h = h0 ∧ v = some (.int xi)
theorem own_lHash (l : Launch) (Z : State) (a0 : Array Value) (hw : ∀ d ∈ tables_1, d.before a0 Z = true) (ws : List Jvm.Cond) (xi : Int32) (xb : Addr) (xk : ClassId) (h0 : Heap) (n0 : Nat) (O0 : Old Z n0 h0) (P0 : own_chr xi) (P1 : Arv Z h0 xb xk .byte (1 : Int32) [.int xi] (.int 0)) : own_Met l Z (⟨"java/lang/StringLatin1", "hashCode", "([B)I"⟩ : MethodName) jdk_43_method_21_code 1 (some .int) ws ({ frames := 0, cells := 0, slots := 0, locals := 0 } : Room) #[.ref xb] h0 (Q_own_lHash Z xi xb xk h0 n0) := by
  refine own_mk (plainFor_of_name own_pn_java_lang_StringLatin1) O0 ?_
  intro p e s m below meth c s₁ hx hby hml hZ hown hnm hlk hret X0 e0 N0 z0 z1
  refine own_cast (own_ef_own_lHash m xb) ?_
  show own_Goes p e below (s₁.setTop (mkF m 0 #[vR xb] [])) _
  have ltP1 : @LT.lt Nat _ xb h0.size := P1.lt
  refine q_aloadN X0 hx hby d16_0 rfl rfl ?_
  refine q_len X0 hx hby hZ e0 P1 d16_1 ?_
  refine gg (fun t k => X0.lookupswitchHit hx (g := (mkF m 2 #[vR xb] [.int 1])) rfl rfl (hb hby d16_2) (by decide) (a := 1) (off := 30) (by decide) (show (0 : Int) ≤ ((2 : Nat) : Int) + 30 by decide) _ k) ?_
  refine q_aloadN X0 hx hby d16_32 rfl rfl ?_
  refine q_iconst X0 hx hby d16_33 ?_
  refine q_baloadBytes X0 hx hby hZ e0 P1 d16_34 (.int xi) ?_
  refine q_sipush X0 hx hby d16_35 ?_
  refine q_iand X0 hx hby d16_38 ?_
  show own_Goes p e below (s₁.setTop (mkF m 39 #[vR xb] [(.int (xi &&& (255 : Int32)))])) _
  rw [show (xi &&& (255 : Int32)) = xi from P0.2.1]
  refine q_goto (pc := 39) X0 hx hby d16_39 (pc' := 51) (by decide) (by decide) ?_
  refine r_I X0 hx hby hret hlk d16_51 e0 ?_
  exact ⟨N0, rfl, rfl⟩
theorem d14_0 : decode B14 0 = .ok (.aload_n 0, 1) := by decide +kernel
theorem d14_1 : decode B14 1 = .ok (.getfield 19, 3) := by decide +kernel
theorem d14_4 : decode B14 4 = .ok (.istore_n 1, 1) := by decide +kernel
theorem d14_5 : decode B14 5 = .ok (.iload_n 1, 1) := by decide +kernel
theorem d14_6 : decode B14 6 = .ok (.ifCond .ne 52, 3) := by decide +kernel
theorem d14_9 : decode B14 9 = .ok (.aload_n 0, 1) := by decide +kernel
theorem d14_10 : decode B14 10 = .ok (.getfield 23, 3) := by decide +kernel
theorem d14_13 : decode B14 13 = .ok (.ifCond .ne 45, 3) := by decide +kernel
theorem d14_16 : decode B14 16 = .ok (.aload_n 0, 1) := by decide +kernel
theorem d14_17 : decode B14 17 = .ok (.invokevirtual 492, 3) := by decide +kernel
theorem own_pd_4 : parseMethodDescriptor "()Z" = some ⟨[], some .boolean⟩ := by decide +kernel
theorem d14_20 : decode B14 20 = .ok (.ifCond .eq 13, 3) := by decide +kernel
theorem d14_23 : decode B14 23 = .ok (.aload_n 0, 1) := by decide +kernel
theorem d14_24 : decode B14 24 = .ok (.getfield 9, 3) := by decide +kernel
theorem d14_27 : decode B14 27 = .ok (.invokestatic 628, 3) := by decide +kernel
theorem own_pd_5 : parseMethodDescriptor "([B)I" = some ⟨[(.array .byte)], some .int⟩ := by decide +kernel
theorem d14_30 : decode B14 30 = .ok (.goto 10, 3) := by decide +kernel
theorem d14_40 : decode B14 40 = .ok (.istore_n 1, 1) := by decide +kernel
theorem d14_41 : decode B14 41 = .ok (.iload_n 1, 1) := by decide +kernel
theorem d14_42 : decode B14 42 = .ok (.ifCond .ne 11, 3) := by decide +kernel
theorem d14_53 : decode B14 53 = .ok (.aload_n 0, 1) := by decide +kernel
theorem d14_54 : decode B14 54 = .ok (.iload_n 1, 1) := by decide +kernel
theorem d14_55 : decode B14 55 = .ok (.putfield 19, 3) := by decide +kernel
theorem d14_58 : decode B14 58 = .ok (.iload_n 1, 1) := by decide +kernel
theorem d14_59 : decode B14 59 = .ok (.ireturn, 1) := by decide +kernel
theorem own_ef_own_sHash (m : MethodId) (xa : Addr) : entryFrame m #[.ref xa] 2 = mkF m 0 #[vR xa, uS] [] := by first | (simp [entryFrame, mkF, argsToLocals, Value.category]; done) | rfl
def Q_own_sHash (Z : State) (xi : Int32) (xa : Addr) (xb : Addr) (xk : ClassId) (gwD : Addr) (gz : Int32) (gwc : Addr) (gcl : Cell) (h0 : Heap) (n0 : Nat) (v : Option Value) (h : Heap) (L : List Loc) : Prop := Fr n0 L ∧ Keep h0 h [xa] ∧ v = some (.int xi)
theorem own_sHash (l : Launch) (Z : State) (a0 : Array Value) (hw : ∀ d ∈ tables_1, d.before a0 Z = true) (ws : List Jvm.Cond) (xi : Int32) (xa : Addr) (xb : Addr) (xk : ClassId) (h0 : Heap) (n0 : Nat) (O0 : Old Z n0 h0) (gwD : Addr) (gz : Int32) (gwc : Addr) (gcl : Cell) (G : GG Z gwD gz gwc gcl) (P0 : own_chr xi) (P1 : Exa Z h0 xa "java/lang/String") (P2 : Fld Z h0 xa "java/lang/String" "value" "[B" (.ref xb)) (P3 : Fld Z h0 xa "java/lang/String" "coder" "B" (.int 0)) (P4 : Fld Z h0 xa "java/lang/String" "hash" "I" (.int 0)) (P5 : Fld Z h0 xa "java/lang/String" "hashIsZero" "Z" (.int 0)) (P6 : Arv Z h0 xb xk .byte (1 : Int32) [.int xi] (.int 0)) (P7 : n0 ≤ xa) : own_Met l Z (⟨"java/lang/String", "hashCode", "()I"⟩ : MethodName) jdk_42_method_78_code 2 (some .int) ws ({ frames := 1, cells := 0, slots := 0, locals := 12 } : Room) #[.ref xa] h0 (Q_own_sHash Z xi xa xb xk gwD gz gwc gcl h0 n0) := by
  refine own_mk (plainFor_of_name own_pn_java_lang_String) O0 ?_
  intro p e s m below meth c s₁ hx hby hml hZ hown hnm hlk hret X0 e0 N0 z0 z1
  have K0 : Keep h0 h0 [xa] := Keep.refl _ _
  refine own_cast (own_ef_own_sHash m xa) ?_
  show own_Goes p e below (s₁.setTop (mkF m 0 #[vR xa, uS] [])) _
  obtain ⟨G0, G1, G2, G3, G4, G5, G6⟩ := id G
  have ltG1 : @LT.lt Nat _ gwD Z.heap.size := G1.lt
  have ltP1 : @LT.lt Nat _ xa h0.size := P1.lt
  have ltP6 : @LT.lt Nat _ xb h0.size := P6.lt
  refine q_aloadN X0 hx hby d14_0 rfl rfl ?_
  refine qG X0 hx hby hZ hown (wh hw 91 rfl) e0 P4 d14_1 (fun T1 X1 e1 => ?_)
  refine q_istoreN X1 hx hby d14_4 (l' := #[vR xa, vI 0]) rfl ?_
  refine q_iloadN X1 hx hby d14_5 rfl ?_
  refine q_ifNo X1 hx hby d14_6 ((if0 _ _).trans (teq (show ((0 : Int32) = (0 : Int32)) from by decide)).2) ?_
  refine q_aloadN X1 hx hby d14_9 rfl rfl ?_
  refine qG X1 hx hby hZ hown (wh hw 93 rfl) e1 P5 d14_10 (fun T2 X2 e2 => ?_)
  refine q_ifNo X2 hx hby d14_13 ((if0 _ _).trans (teq (show ((0 : Int32) = (0 : Int32)) from by decide)).2) ?_
  refine q_aloadN X2 hx hby d14_16 rfl rfl ?_
  refine k_V X2 hx hby hZ hown (wh hw 95 rfl) (wh hw 96 rfl) (wh hw 98 rfl) (wh hw 97 rfl) (W := 0) (own_isLat l Z a0 hw [] xa h0 n0 O0 gwD gz gwc gcl G P3) (wh hw 99 rfl) (wh hw 44 rfl) e2 P1  hml (argsL := []) (rest := []) own_pd_4 d14_17 (fun _ T3 L3 X3 hQ3 => ?_)
  obtain ⟨Nc3, e3, rfl⟩ := hQ3
  have N3 := Fr.app N0 Nc3
  refine q_ifNo X3 hx hby d14_20 ((if0 _ _).trans (feq (show ¬ ((1 : Int32) = (0 : Int32)) from by decide)).1) ?_
  refine q_aloadN X3 hx hby d14_23 rfl rfl ?_
  refine qG X3 hx hby hZ hown (wh hw 62 rfl) e3 P2 d14_24 (fun T4 X4 e4 => ?_)
  refine k_S X4 hx hby hZ hown (wh hw 100 rfl) (wh hw 101 rfl) (W := 0) (own_lHash l Z a0 hw [] xi xb xk h0 n0 O0 (show own_chr xi from (by first | assumption | exact own_chr97 | exact own_chr98 | exact own_chr99)) P6) (wh hw 102 rfl) (wh hw 49 rfl) e4  hml (argsL := [.ref xb]) (rest := []) own_pd_5 d14_27 (fun _ T5 L5 X5 hQ5 => ?_)
  obtain ⟨Nc5, e5, rfl⟩ := hQ5
  have N5 := Fr.app N3 Nc5
  show own_Goes p e below (T5.setTop (mkF m 30 #[vR xa, vI 0] [.int xi])) _
  refine q_goto (pc := 30) X5 hx hby d14_30 (pc' := 40) (by decide) (by decide) ?_
  refine q_istoreN X5 hx hby d14_40 (l' := #[vR xa, vI xi]) rfl ?_
  refine q_iloadN X5 hx hby d14_41 rfl ?_
  refine q_ifYes (pc := 42) X5 hx hby d14_42 (pc' := 53) ((if0 _ _).trans (feq (show ¬ (xi = (0 : Int32)) from P0.2.2.1)).2) (by decide) (by decide) ?_
  refine q_aloadN X5 hx hby d14_53 rfl rfl ?_
  refine q_iloadN X5 hx hby d14_54 rfl ?_
  refine qP X5 hx hby hZ hown (host := "") (Or.inl (wh hw 91 rfl)) Via.refl e5 P4 P1 (Or.inl (wh hw 92 rfl)) (wh hw 52 rfl) (ty := .int) d14_55 (fun T6 h6 X6 e6 W6 => ?_)
  have O7 := O0.wr W6 (show n0 ≤ xa by omega)
  have sz8 : h6.size = h0.size := Wr.size W6
  have K9 := K0.wr W6 (Or.inl (List.mem_of_getElem? (i := 0) rfl))
  have N6 := Fr.snoc X6 N5 (show n0 ≤ xa by omega)
  have Fw6 := P4.same W6
  refine q_iloadN X6 hx hby d14_58 rfl ?_
  refine r_I X6 hx hby hret hlk d14_59 e6 ?_
  exact ⟨N6, K9, rfl⟩
theorem d13_0 : decode B13 0 = .ok (.aload_n 0, 1) := by decide +kernel
theorem d13_1 : decode B13 1 = .ok (.ifnonnull 7, 3) := by decide +kernel
theorem d13_8 : decode B13 8 = .ok (.aload_n 0, 1) := by decide +kernel
theorem d13_9 : decode B13 9 = .ok (.invokevirtual 1, 3) := by decide +kernel
theorem own_pd_6 : parseMethodDescriptor "()I" = some ⟨[], some .int⟩ := by decide +kernel
theorem d13_12 : decode B13 12 = .ok (.dup, 1) := by decide +kernel
theorem d13_13 : decode B13 13 = .ok (.istore_n 1, 1) := by decide +kernel
theorem d13_14 : decode B13 14 = .ok (.iload_n 1, 1) := by decide +kernel
theorem d13_15 : decode B13 15 = .ok (.bipush 16, 2) := by decide +kernel
theorem d13_17 : decode B13 17 = .ok (.iushr, 1) := by decide +kernel
theorem d13_18 : decode B13 18 = .ok (.ixor, 1) := by decide +kernel
theorem d13_19 : decode B13 19 = .ok (.ireturn, 1) := by decide +kernel
theorem own_ef_own_hash (m : MethodId) (xa : Addr) : entryFrame m #[.ref xa] 2 = mkF m 0 #[vR xa, uS] [] := by first | (simp [entryFrame, mkF, argsToLocals, Value.category]; done) | rfl
def Q_own_hash (Z : State) (xi : Int32) (xa : Addr) (xb : Addr) (xk : ClassId) (gwD : Addr) (gz : Int32) (gwc : Addr) (gcl : Cell) (h0 : Heap) (n0 : Nat) (v : Option Value) (h : Heap) (L : List Loc) : Prop := Fr n0 L ∧ Keep h0 h [xa] ∧ v = some (.int xi)
theorem own_hash (l : Launch) (Z : State) (a0 : Array Value) (hw : ∀ d ∈ tables_1, d.before a0 Z = true) (ws : List Jvm.Cond) (xi : Int32) (xa : Addr) (xb : Addr) (xk : ClassId) (h0 : Heap) (n0 : Nat) (O0 : Old Z n0 h0) (gwD : Addr) (gz : Int32) (gwc : Addr) (gcl : Cell) (G : GG Z gwD gz gwc gcl) (P0 : own_chr xi) (P1 : Exa Z h0 xa "java/lang/String") (P2 : Fld Z h0 xa "java/lang/String" "value" "[B" (.ref xb)) (P3 : Fld Z h0 xa "java/lang/String" "coder" "B" (.int 0)) (P4 : Fld Z h0 xa "java/lang/String" "hash" "I" (.int 0)) (P5 : Fld Z h0 xa "java/lang/String" "hashIsZero" "Z" (.int 0)) (P6 : Arv Z h0 xb xk .byte (1 : Int32) [.int xi] (.int 0)) (P7 : n0 ≤ xa) : own_Met l Z (⟨"java/util/HashMap", "hash", "(Ljava/lang/Object;)I"⟩ : MethodName) jdk_69_method_1_code 2 (some .int) ws ({ frames := 2, cells := 0, slots := 0, locals := 25 } : Room) #[.ref xa] h0 (Q_own_hash Z xi xa xb xk gwD gz gwc gcl h0 n0) := by
  refine own_mk (plainFor_of_name own_pn_java_util_HashMap) O0 ?_
  intro p e s m below meth c s₁ hx hby hml hZ hown hnm hlk hret X0 e0 N0 z0 z1
  have K0 : Keep h0 h0 [xa] := Keep.refl _ _
  refine own_cast (own_ef_own_hash m xa) ?_
  show own_Goes p e below (s₁.setTop (mkF m 0 #[vR xa, uS] [])) _
  obtain ⟨G0, G1, G2, G3, G4, G5, G6⟩ := id G
  have ltG1 : @LT.lt Nat _ gwD Z.heap.size := G1.lt
  have ltP1 : @LT.lt Nat _ xa h0.size := P1.lt
  have ltP6 : @LT.lt Nat _ xb h0.size := P6.lt
  refine q_aloadN X0 hx hby d13_0 rfl rfl ?_
  refine gg (fun t k => XS.ifnonnullYes X0.here hx rfl (pc0 := 1) (pc' := 8) rfl (hb hby d13_1) rfl (by decide) (by decide) k) ?_
  refine q_aloadN X0 hx hby d13_8 rfl rfl ?_
  refine k_Vn X0 hx hby hZ hown (wh hw 85 rfl) (wh hw 86 rfl) (wh hw 282 rfl) (wh hw 88 rfl) (wh hw 89 rfl) (W := 0) (own_sHash l Z a0 hw [] xi xa xb xk h0 n0 O0 gwD gz gwc gcl G (show own_chr xi from (by first | assumption | exact own_chr97 | exact own_chr98 | exact own_chr99)) P1 P2 P3 P4 P5 P6 (show n0 ≤ xa by first | assumption | omega | decide)) (wh hw 90 rfl) (wh hw 44 rfl) e0 P1  hml (argsL := []) (rest := []) own_pd_6 d13_9 (fun _ T1 L1 X1 hQ1 => ?_)
  obtain ⟨h1, e1⟩ : ∃ z, T1.heap = z := ⟨_, rfl⟩
  rw [e1] at hQ1
  obtain ⟨Nc1, Kc1, rfl⟩ := hQ1
  have N1 := Fr.app N0 Nc1
  have O2 := O0.keep Kc1 (allS (show n0 ≤ xa by omega) all0)
  have sz3 : h0.size ≤ h1.size := Kc1.1
  have K4 := Keep.trans K0 Kc1 (allS (Or.inl (List.mem_of_getElem? (i := 0) rfl)) all0)
  refine q_dup X1 hx hby d13_12 rfl ?_
  refine q_istoreN X1 hx hby d13_13 (l' := #[vR xa, vI xi]) rfl ?_
  refine q_iloadN X1 hx hby d13_14 rfl ?_
  refine q_bipush X1 hx hby d13_15 ?_
  refine gg (fun t k => XS.iushr X1.here hx rfl (hb hby d13_17) rfl k) ?_
  refine gg (fun t k => XS.ixor X1.here hx rfl (hb hby d13_18) rfl k) ?_
  show own_Goes p e below (T1.setTop (mkF m 19 #[vR xa, vI xi] [(.int (xi ^^^ ((xi.toUInt32 >>> ((16 : Int32) &&& 31).toUInt32).toInt32)))])) _
  rw [show (xi ^^^ ((xi.toUInt32 >>> ((16 : Int32) &&& 31).toUInt32).toInt32)) = xi from P0.2.2.2.1]
  refine r_I X1 hx hby hret hlk d13_19 e1 ?_
  exact ⟨N1, K4, rfl⟩
theorem d20_0 : decode B20 0 = .ok (.aload_n 0, 1) := by decide +kernel
theorem d20_1 : decode B20 1 = .ok (.invokespecial 1, 3) := by decide +kernel
theorem d20_4 : decode B20 4 = .ok (.aload_n 0, 1) := by decide +kernel
theorem d20_5 : decode B20 5 = .ok (.iload_n 1, 1) := by decide +kernel
theorem d20_6 : decode B20 6 = .ok (.putfield 7, 3) := by decide +kernel
theorem d20_9 : decode B20 9 = .ok (.aload_n 0, 1) := by decide +kernel
theorem d20_10 : decode B20 10 = .ok (.aload_n 2, 1) := by decide +kernel
theorem d20_11 : decode B20 11 = .ok (.putfield 13, 3) := by decide +kernel
theorem d20_14 : decode B20 14 = .ok (.aload_n 0, 1) := by decide +kernel
theorem d20_15 : decode B20 15 = .ok (.aload_n 3, 1) := by decide +kernel
theorem d20_16 : decode B20 16 = .ok (.putfield 17, 3) := by decide +kernel
theorem d20_19 : decode B20 19 = .ok (.aload_n 0, 1) := by decide +kernel
theorem d20_20 : decode B20 20 = .ok (.aload 4, 2) := by decide +kernel
theorem d20_22 : decode B20 22 = .ok (.putfield 20, 3) := by decide +kernel
theorem d20_25 : decode B20 25 = .ok (.return_, 1) := by decide +kernel
theorem own_pn_java_util_HashMap_Node : plainName "java/util/HashMap$Node" = true := by first | (simp [plainName, overriddenIn]; done) | decide +kernel
theorem own_ef_own_ndInit (m : MethodId) (xa : Addr) (xi : Int32) (xy : Addr) (xv : Addr) : entryFrame m #[.ref xa, .int xi, .ref xy, .ref xv, .null] 5 = mkF m 0 #[vR xa, vI xi, vR xy, vR xv, vN] [] := by first | (simp [entryFrame, mkF, argsToLocals, Value.category]; done) | rfl
def Q_own_ndInit (Z : State) (xa : Addr) (xi : Int32) (xy : Addr) (xv : Addr) (h0 : Heap) (n0 : Nat) (v : Option Value) (h : Heap) (L : List Loc) : Prop := Fr n0 L ∧ Keep h0 h [xa] ∧ v = none ∧ Fld Z h xa "java/util/HashMap$Node" "value" "Ljava/lang/Object;" (.ref xv) ∧ Fld Z h xa "java/util/HashMap$Node" "next" "Ljava/util/HashMap$Node;" .null
theorem own_ndInit (l : Launch) (Z : State) (a0 : Array Value) (hw : ∀ d ∈ tables_1, d.before a0 Z = true) (ws : List Jvm.Cond) (xa : Addr) (xi : Int32) (xy : Addr) (xv : Addr) (h0 : Heap) (n0 : Nat) (O0 : Old Z n0 h0) (P0 : Exa Z h0 xa "java/util/HashMap$Node") (P1 : Fld Z h0 xa "java/util/HashMap$Node" "hash" "I" (.int 0)) (P2 : Fld Z h0 xa "java/util/HashMap$Node" "key" "Ljava/lang/Object;" .null) (P3 : Fld Z h0 xa "java/util/HashMap$Node" "value" "Ljava/lang/Object;" .null) (P4 : Fld Z h0 xa "java/util/HashMap$Node" "next" "Ljava/util/HashMap$Node;" .null) (P5 : n0 ≤ xa) : own_Met l Z (⟨"java/util/HashMap$Node", "<init>", "(ILjava/lang/Object;Ljava/lang/Object;Ljava/util/HashMap$Node;)V"⟩ : MethodName) jdk_70_method_1_code 5 none ws ({ frames := 1, cells := 0, slots := 0, locals := 12 } : Room) #[.ref xa, .int xi, .ref xy, .ref xv, .null] h0 (Q_own_ndInit Z xa xi xy xv h0 n0) := by
  refine own_mk (plainFor_of_name own_pn_java_util_HashMap_Node) O0 ?_
  intro p e s m below meth c s₁ hx hby hml hZ hown hnm hlk hret X0 e0 N0 z0 z1
  have K0 : Keep h0 h0 [xa] := Keep.refl _ _
  refine own_cast (own_ef_own_ndInit m xa xi xy xv) ?_
  show own_Goes p e below (s₁.setTop (mkF m 0 #[vR xa, vI xi, vR xy, vR xv, vN] [])) _
  have ltP0 : @LT.lt Nat _ xa h0.size := P0.lt
  refine q_aloadN X0 hx hby d20_0 rfl rfl ?_
  obtain ⟨T1, X1, e1, st1⟩ := initO X0 hx hZ hown (wh hw 130 rfl) (wh hw 19 rfl) (wh hw 20 rfl) e0 (g := (mkF m 1 #[vR xa, vI xi, vR xy, vR xv, vN] [.ref xa])) rfl (by rw [hml]; rfl) rfl (hb hby d20_1) (by decide) (W := 0) (by show 2 * 0 + _ ≤ _; exact Nat.le_of_eq rfl) (by decide)
  refine gg st1 ?_
  refine q_aloadN X1 hx hby d20_4 rfl rfl ?_
  refine q_iloadN X1 hx hby d20_5 rfl ?_
  refine qP X1 hx hby hZ hown (host := "") (Or.inl (wh hw 131 rfl)) Via.refl e1 P1 P0 (Or.inr ⟨(wh hw 132 rfl), rfl, hnm⟩) (wh hw 124 rfl) (ty := .int) d20_6 (fun T2 h2 X2 e2 W2 => ?_)
  have O3 := O0.wr W2 (show n0 ≤ xa by omega)
  have sz4 : h2.size = h0.size := Wr.size W2
  have K5 := K0.wr W2 (Or.inl (List.mem_of_getElem? (i := 0) rfl))
  have N2 := Fr.snoc X2 N0 (show n0 ≤ xa by omega)
  have Fw2 := P1.same W2
  refine q_aloadN X2 hx hby d20_9 rfl rfl ?_
  refine q_aloadN X2 hx hby d20_10 rfl rfl ?_
  have f6 := (P2.other W2 (Or.inr (slot_ne (Or.inr (wh hw 134 rfl)) (Or.inr (wh hw 132 rfl)) (by decide) (t := (.object "java/lang/Object")) (t' := .int) (by decide) (by decide))))
  have f7 := (P0.wr W2)
  refine qP X2 hx hby hZ hown (host := "") (Or.inl (wh hw 133 rfl)) Via.refl e2 f6 f7 (Or.inr ⟨(wh hw 134 rfl), rfl, hnm⟩) (wh hw 124 rfl) (ty := (.object "java/lang/Object")) d20_11 (fun T8 h8 X8 e8 W8 => ?_)
  have O9 := O3.wr W8 (show n0 ≤ xa by omega)
  have sz10 : h8.size = h2.size := Wr.size W8
  have K11 := K5.wr W8 (Or.inl (List.mem_of_getElem? (i := 0) rfl))
  have N8 := Fr.snoc X8 N2 (show n0 ≤ xa by omega)
  have Fw8 := f6.same W8
  refine q_aloadN X8 hx hby d20_14 rfl rfl ?_
  refine q_aloadN X8 hx hby d20_15 rfl rfl ?_
  have f12 := ((P3.other W2 (Or.inr (slot_ne (Or.inl (wh hw 136 rfl)) (Or.inr (wh hw 132 rfl)) (by decide) (t := (.object "java/lang/Object")) (t' := .int) (by decide) (by decide)))).other W8 (Or.inr (slot_ne (Or.inl (wh hw 136 rfl)) (Or.inr (wh hw 134 rfl)) (by decide) (t := (.object "java/lang/Object")) (t' := (.object "java/lang/Object")) (by decide) (by decide))))
  have f13 := (f7.wr W8)
  refine qP X8 hx hby hZ hown (host := "") (Or.inl (wh hw 135 rfl)) Via.refl e8 f12 f13 (Or.inl (wh hw 136 rfl)) (wh hw 124 rfl) (ty := (.object "java/lang/Object")) d20_16 (fun T14 h14 X14 e14 W14 => ?_)
  have O15 := O9.wr W14 (show n0 ≤ xa by omega)
  have sz16 : h14.size = h8.size := Wr.size W14
  have K17 := K11.wr W14 (Or.inl (List.mem_of_getElem? (i := 0) rfl))
  have N14 := Fr.snoc X14 N8 (show n0 ≤ xa by omega)
  have Fw14 := f12.same W14
  refine q_aloadN X14 hx hby d20_19 rfl rfl ?_
  refine q_aload X14 hx hby d20_20 rfl rfl ?_
  have f18 := (((P4.other W2 (Or.inr (slot_ne (Or.inl (wh hw 138 rfl)) (Or.inr (wh hw 132 rfl)) (by decide) (t := (.object "java/util/HashMap$Node")) (t' := .int) (by decide) (by decide)))).other W8 (Or.inr (slot_ne (Or.inl (wh hw 138 rfl)) (Or.inr (wh hw 134 rfl)) (by decide) (t := (.object "java/util/HashMap$Node")) (t' := (.object "java/lang/Object")) (by decide) (by decide)))).other W14 (Or.inr (slot_ne (Or.inl (wh hw 138 rfl)) (Or.inl (wh hw 136 rfl)) (by decide) (t := (.object "java/util/HashMap$Node")) (t' := (.object "java/lang/Object")) (by decide) (by decide))))
  have f19 := (f13.wr W14)
  refine qP X14 hx hby hZ hown (host := "") (Or.inl (wh hw 137 rfl)) Via.refl e14 f18 f19 (Or.inl (wh hw 138 rfl)) (wh hw 124 rfl) (ty := (.object "java/util/HashMap$Node")) d20_22 (fun T20 h20 X20 e20 W20 => ?_)
  have O21 := O15.wr W20 (show n0 ≤ xa by omega)
  have sz22 : h20.size = h14.size := Wr.size W20
  have K23 := K17.wr W20 (Or.inl (List.mem_of_getElem? (i := 0) rfl))
  have N20 := Fr.snoc X20 N14 (show n0 ≤ xa by omega)
  have Fw20 := f18.same W20
  show own_Goes p e below (T20.setTop (mkF m 25 #[vR xa, vI xi, vR xy, vR xv, vN] [])) _
  refine r_V X20 hx hby hret hlk d20_25 e20 ?_
  have f24 := (Fw14.other W20 (Or.inr (slot_ne (Or.inl (wh hw 136 rfl)) (Or.inl (wh hw 138 rfl)) (by decide) (t := (.object "java/lang/Object")) (t' := (.object "java/util/HashMap$Node")) (by decide) (by decide))))
  exact ⟨N20, K23, rfl, f24, Fw20⟩
theorem d19_0 : decode B19 0 = .ok (.new 163, 3) := by decide +kernel
theorem d19_3 : decode B19 3 = .ok (.dup, 1) := by decide +kernel
theorem d19_4 : decode B19 4 = .ok (.iload_n 1, 1) := by decide +kernel
theorem d19_5 : decode B19 5 = .ok (.aload_n 2, 1) := by decide +kernel
theorem d19_6 : decode B19 6 = .ok (.aload_n 3, 1) := by decide +kernel
theorem d19_7 : decode B19 7 = .ok (.aload 4, 2) := by decide +kernel
theorem d19_9 : decode B19 9 = .ok (.invokespecial 375, 3) := by decide +kernel
theorem own_pd_7 : parseMethodDescriptor "(ILjava/lang/Object;Ljava/lang/Object;Ljava/util/HashMap$Node;)V" = some ⟨[.int, (.object "java/lang/Object"), (.object "java/lang/Object"), (.object "java/util/HashMap$Node")], none⟩ := by decide +kernel
theorem d19_12 : decode B19 12 = .ok (.areturn, 1) := by decide +kernel
theorem own_ef_own_newNode (m : MethodId) (xm : Addr) (xi : Int32) (xy : Addr) (xv : Addr) : entryFrame m #[.ref xm, .int xi, .ref xy, .ref xv, .null] 5 = mkF m 0 #[vR xm, vI xi, vR xy, vR xv, vN] [] := by first | (simp [entryFrame, mkF, argsToLocals, Value.category]; done) | rfl
def Q_own_newNode (Z : State) (xm : Addr) (xi : Int32) (xy : Addr) (xv : Addr) (h0 : Heap) (n0 : Nat) (v : Option Value) (h : Heap) (L : List Loc) : Prop := Fr n0 L ∧ Keep h0 h [] ∧ ∃ (r : Addr), v = some (.ref r) ∧ Exa Z h r "java/util/HashMap$Node" ∧ Fld Z h r "java/util/HashMap$Node" "value" "Ljava/lang/Object;" (.ref xv) ∧ Fld Z h r "java/util/HashMap$Node" "next" "Ljava/util/HashMap$Node;" .null ∧ h0.size ≤ r
theorem own_newNode (l : Launch) (Z : State) (a0 : Array Value) (hw : ∀ d ∈ tables_1, d.before a0 Z = true) (ws : List Jvm.Cond) (xm : Addr) (xi : Int32) (xy : Addr) (xv : Addr) (h0 : Heap) (n0 : Nat) (O0 : Old Z n0 h0) : own_Met l Z (⟨"java/util/HashMap", "newNode", "(ILjava/lang/Object;Ljava/lang/Object;Ljava/util/HashMap$Node;)Ljava/util/HashMap$Node;"⟩ : MethodName) jdk_69_method_46_code 5 (some (.object "java/util/HashMap$Node")) ws ({ frames := 2, cells := 1, slots := 4, locals := 29 } : Room) #[.ref xm, .int xi, .ref xy, .ref xv, .null] h0 (Q_own_newNode Z xm xi xy xv h0 n0) := by
  refine own_mk (plainFor_of_name own_pn_java_util_HashMap) O0 ?_
  intro p e s m below meth c s₁ hx hby hml hZ hown hnm hlk hret X0 e0 N0 z0 z1
  have K0 : Keep h0 h0 [] := Keep.refl _ _
  refine own_cast (own_ef_own_newNode m xm xi xy xv) ?_
  show own_Goes p e below (s₁.setTop (mkF m 0 #[vR xm, vI xi, vR xy, vR xv, vN] [])) _
  obtain ⟨T1, h1, X1, e1, E1, A1, D1, -, st1⟩ := newO X0 hx hZ hown (wh hw 117 rfl) (wh hw 124 rfl) (wh hw 125 rfl) e0 (g := (mkF m 0 #[vR xm, vI xi, vR xy, vR xv, vN] [])) rfl (hb hby d19_0) (by decide) (by decide)
  obtain ⟨b1, g1⟩ : ∃ z, z = h0.size := ⟨_, rfl⟩
  rw [← g1] at A1 D1 st1
  refine gg st1 ?_
  have O2 := O0.ext E1
  have sz3 : h0.size ≤ h1.size := E1.1
  have K4 := K0.ext E1
  have l1 : @LT.lt Nat _ b1 h1.size := A1.lt
  have F1_hash : Fld Z h1 b1 "java/util/HashMap$Node" "hash" "I" (.int 0) := D1 (Or.inr (wh hw 132 rfl)) (ty := .int) (by decide)
  have F1_key : Fld Z h1 b1 "java/util/HashMap$Node" "key" "Ljava/lang/Object;" .null := D1 (Or.inr (wh hw 134 rfl)) (ty := (.object "java/lang/Object")) (by decide)
  have F1_value : Fld Z h1 b1 "java/util/HashMap$Node" "value" "Ljava/lang/Object;" .null := D1 (Or.inl (wh hw 136 rfl)) (ty := (.object "java/lang/Object")) (by decide)
  have F1_next : Fld Z h1 b1 "java/util/HashMap$Node" "next" "Ljava/util/HashMap$Node;" .null := D1 (Or.inl (wh hw 138 rfl)) (ty := (.object "java/util/HashMap$Node")) (by decide)
  refine q_dup X1 hx hby d19_3 rfl ?_
  refine q_iloadN X1 hx hby d19_4 rfl ?_
  refine q_aloadN X1 hx hby d19_5 rfl rfl ?_
  refine q_aloadN X1 hx hby d19_6 rfl rfl ?_
  refine q_aload X1 hx hby d19_7 rfl rfl ?_
  refine k_N X1 hx hby hZ hown (wh hw 126 rfl) (wh hw 127 rfl) (W := 1) (own_ndInit l Z a0 hw [] b1 xi xy xv h1 n0 O2 A1 F1_hash F1_key F1_value F1_next (show n0 ≤ b1 by first | assumption | omega | decide)) (wh hw 129 rfl) (wh hw 125 rfl) e1  hml (argsL := [.int xi, .ref xy, .ref xv, .null]) (rest := [.ref b1]) own_pd_7 d19_9 (fun _ T5 L5 X5 hQ5 => ?_)
  obtain ⟨h5, e5⟩ : ∃ z, T5.heap = z := ⟨_, rfl⟩
  rw [e5] at hQ5
  obtain ⟨Nc5, Kc5, rfl, c5_0, c5_1⟩ := hQ5
  have N5 := Fr.app N0 Nc5
  have O6 := O2.keep Kc5 (allS (show n0 ≤ b1 by omega) all0)
  have sz7 : h1.size ≤ h5.size := Kc5.1
  have K8 := Keep.trans K4 Kc5 (allS (Or.inr (show h0.size ≤ b1 by omega)) all0)
  refine r_R X5 hx hby hret hlk d19_12 e5 ?_
  have f9 := (A1.keep Kc5)
  exact ⟨N5, K8, b1, rfl, f9, c5_0, c5_1, (show h0.size ≤ b1 by first | assumption | omega | decide)⟩
theorem d21_0 : decode B21 0 = .ok (.return_, 1) := by decide +kernel
theorem own_ef_own_after (m : MethodId) (xm : Addr) : entryFrame m #[.ref xm, .int 1] 2 = mkF m 0 #[vR xm, vI 1] [] := by first | (simp [entryFrame, mkF, argsToLocals, Value.category]; done) | rfl
def Q_own_after (Z : State) (xm : Addr) (h0 : Heap) (n0 : Nat) (v : Option Value) (h : Heap) (L : List Loc) : Prop := Fr n0 L ∧ h = h0 ∧ v = none
theorem own_after (l : Launch) (Z : State) (a0 : Array Value) (hw : ∀ d ∈ tables_1, d.before a0 Z = true) (ws : List Jvm.Cond) (xm : Addr) (h0 : Heap) (n0 : Nat) (O0 : Old Z n0 h0) : own_Met l Z (⟨"java/util/HashMap", "afterNodeInsertion", "(Z)V"⟩ : MethodName) jdk_69_method_52_code 2 none ws ({ frames := 0, cells := 0, slots := 0, locals := 0 } : Room) #[.ref xm, .int 1] h0 (Q_own_after Z xm h0 n0) := by
  refine own_mk (plainFor_of_name own_pn_java_util_HashMap) O0 ?_
  intro p e s m below meth c s₁ hx hby hml hZ hown hnm hlk hret X0 e0 N0 z0 z1
  refine own_cast (own_ef_own_after m xm) ?_
  show own_Goes p e below (s₁.setTop (mkF m 0 #[vR xm, vI 1] [])) _
  refine r_V X0 hx hby hret hlk d21_0 e0 ?_
  exact ⟨N0, rfl, rfl⟩
theorem d18_0 : decode B18 0 = .ok (.aload_n 0, 1) := by decide +kernel
theorem d18_1 : decode B18 1 = .ok (.getfield 105, 3) := by decide +kernel
theorem d18_4 : decode B18 4 = .ok (.astore_n 1, 1) := by decide +kernel
theorem d18_5 : decode B18 5 = .ok (.aload_n 1, 1) := by decide +kernel
theorem d18_6 : decode B18 6 = .ok (.ifnonnull 7, 3) := by decide +kernel
theorem d18_9 : decode B18 9 = .ok (.iconst 0, 1) := by decide +kernel
theorem d18_10 : decode B18 10 = .ok (.goto 5, 3) := by decide +kernel
theorem d18_15 : decode B18 15 = .ok (.istore_n 2, 1) := by decide +kernel
theorem d18_16 : decode B18 16 = .ok (.aload_n 0, 1) := by decide +kernel
theorem d18_17 : decode B18 17 = .ok (.getfield 88, 3) := by decide +kernel
theorem d18_20 : decode B18 20 = .ok (.istore_n 3, 1) := by decide +kernel
theorem d18_21 : decode B18 21 = .ok (.iconst 0, 1) := by decide +kernel
theorem d18_22 : decode B18 22 = .ok (.istore 5, 2) := by decide +kernel
theorem d18_24 : decode B18 24 = .ok (.iload_n 2, 1) := by decide +kernel
theorem d18_25 : decode B18 25 = .ok (.ifCond .le 42, 3) := by decide +kernel
theorem d18_67 : decode B18 67 = .ok (.iload_n 3, 1) := by decide +kernel
theorem d18_68 : decode B18 68 = .ok (.ifCond .le 9, 3) := by decide +kernel
theorem d18_77 : decode B18 77 = .ok (.bipush 16, 2) := by decide +kernel
theorem d18_79 : decode B18 79 = .ok (.istore 4, 2) := by decide +kernel
theorem d18_81 : decode B18 81 = .ok (.bipush 12, 2) := by decide +kernel
theorem d18_83 : decode B18 83 = .ok (.istore 5, 2) := by decide +kernel
theorem d18_85 : decode B18 85 = .ok (.iload 5, 2) := by decide +kernel
theorem d18_87 : decode B18 87 = .ok (.ifCond .ne 38, 3) := by decide +kernel
theorem d18_125 : decode B18 125 = .ok (.aload_n 0, 1) := by decide +kernel
theorem d18_126 : decode B18 126 = .ok (.iload 5, 2) := by decide +kernel
theorem d18_128 : decode B18 128 = .ok (.putfield 88, 3) := by decide +kernel
theorem d18_131 : decode B18 131 = .ok (.iload 4, 2) := by decide +kernel
theorem d18_133 : decode B18 133 = .ok (.anewarray 163, 3) := by decide +kernel
theorem d18_136 : decode B18 136 = .ok (.astore 6, 2) := by decide +kernel
theorem d18_138 : decode B18 138 = .ok (.aload_n 0, 1) := by decide +kernel
theorem d18_139 : decode B18 139 = .ok (.aload 6, 2) := by decide +kernel
theorem d18_141 : decode B18 141 = .ok (.putfield 105, 3) := by decide +kernel
theorem d18_144 : decode B18 144 = .ok (.aload_n 1, 1) := by decide +kernel
theorem d18_145 : decode B18 145 = .ok (.ifnull 208, 3) := by decide +kernel
theorem d18_353 : decode B18 353 = .ok (.aload 6, 2) := by decide +kernel
theorem d18_355 : decode B18 355 = .ok (.areturn, 1) := by decide +kernel
theorem own_ef_own_resize (m : MethodId) (xm : Addr) : entryFrame m #[.ref xm] 14 = mkF m 0 #[vR xm, uS, uS, uS, uS, uS, uS, uS, uS, uS, uS, uS, uS, uS] [] := by first | (simp [entryFrame, mkF, argsToLocals, Value.category]; done) | rfl
def Q_own_resize (Z : State) (xm : Addr) (h0 : Heap) (n0 : Nat) (v : Option Value) (h : Heap) (L : List Loc) : Prop := Fr n0 L ∧ Keep h0 h [xm] ∧ ∃ (r : Addr), ∃ (rk : ClassId), v = some (.ref r) ∧ Fld Z h xm "java/util/HashMap" "size" "I" (.int 0) ∧ Fld Z h xm "java/util/HashMap" "modCount" "I" (.int 0) ∧ Fld Z h xm "java/util/HashMap" "threshold" "I" (.int 12) ∧ Fld Z h xm "java/util/HashMap" "table" "[Ljava/util/HashMap$Node;" (.ref r) ∧ Fld Z h xm "java/util/AbstractMap" "values" "Ljava/util/Collection;" .null ∧ Arv Z h r rk (.object "java/util/HashMap$Node") (16 : Int32) [.null, .null, .null, .null, .null, .null, .null, .null, .null, .null, .null, .null, .null, .null, .null, .null] .null ∧ h0.size ≤ r ∧ Ovr Z rk "java/util/HashMap$Node"
theorem own_resize (l : Launch) (Z : State) (a0 : Array Value) (hw : ∀ d ∈ tables_1, d.before a0 Z = true) (ws : List Jvm.Cond) (xm : Addr) (h0 : Heap) (n0 : Nat) (O0 : Old Z n0 h0) (P0 : Exa Z h0 xm "java/util/HashMap") (P1 : n0 ≤ xm) (P2 : Fld Z h0 xm "java/util/HashMap" "size" "I" (.int 0)) (P3 : Fld Z h0 xm "java/util/HashMap" "modCount" "I" (.int 0)) (P4 : Fld Z h0 xm "java/util/HashMap" "threshold" "I" (.int 0)) (P5 : Fld Z h0 xm "java/util/HashMap" "table" "[Ljava/util/HashMap$Node;" .null) (P6 : Fld Z h0 xm "java/util/AbstractMap" "values" "Ljava/util/Collection;" .null) : own_Met l Z (⟨"java/util/HashMap", "resize", "()[Ljava/util/HashMap$Node;"⟩ : MethodName) jdk_69_method_17_code 14 (some (.array (.object "java/util/HashMap$Node"))) ws ({ frames := 0, cells := 1, slots := 16, locals := 0 } : Room) #[.ref xm] h0 (Q_own_resize Z xm h0 n0) := by
  refine own_mk (plainFor_of_name own_pn_java_util_HashMap) O0 ?_
  intro p e s m below meth c s₁ hx hby hml hZ hown hnm hlk hret X0 e0 N0 z0 z1
  have K0 : Keep h0 h0 [xm] := Keep.refl _ _
  refine own_cast (own_ef_own_resize m xm) ?_
  show own_Goes p e below (s₁.setTop (mkF m 0 #[vR xm, uS, uS, uS, uS, uS, uS, uS, uS, uS, uS, uS, uS, uS] [])) _
  have ltP0 : @LT.lt Nat _ xm h0.size := P0.lt
  refine q_aloadN X0 hx hby d18_0 rfl rfl ?_
  refine qG X0 hx hby hZ hown (wh hw 108 rfl) e0 P5 d18_1 (fun T1 X1 e1 => ?_)
  refine q_astoreN X1 hx hby d18_4 rfl (l' := #[vR xm, vN, uS, uS, uS, uS, uS, uS, uS, uS, uS, uS, uS, uS]) rfl ?_
  refine q_aloadN X1 hx hby d18_5 rfl rfl ?_
  refine gg (fun t k => XS.ifnonnullNo X1.here hx rfl (hb hby d18_6) rfl k) ?_
  refine q_iconst X1 hx hby d18_9 ?_
  refine q_goto (pc := 10) X1 hx hby d18_10 (pc' := 15) (by decide) (by decide) ?_
  refine q_istoreN X1 hx hby d18_15 (l' := #[vR xm, vN, vI 0, uS, uS, uS, uS, uS, uS, uS, uS, uS, uS, uS]) rfl ?_
  refine q_aloadN X1 hx hby d18_16 rfl rfl ?_
  refine qG X1 hx hby hZ hown (wh hw 115 rfl) e1 P4 d18_17 (fun T2 X2 e2 => ?_)
  refine q_istoreN X2 hx hby d18_20 (l' := #[vR xm, vN, vI 0, vI 0, uS, uS, uS, uS, uS, uS, uS, uS, uS, uS]) rfl ?_
  refine q_iconst X2 hx hby d18_21 ?_
  refine q_istore X2 hx hby d18_22 (l' := #[vR xm, vN, vI 0, vI 0, uS, vI 0, uS, uS, uS, uS, uS, uS, uS, uS]) rfl ?_
  refine q_iloadN X2 hx hby d18_24 rfl ?_
  show own_Goes p e below (T2.setTop (mkF m 25 #[vR xm, vN, vI 0, vI 0, uS, vI 0, uS, uS, uS, uS, uS, uS, uS, uS] [.int 0])) _
  refine q_ifYes (pc := 25) X2 hx hby d18_25 (pc' := 67) ((if0 _ _).trans (flt (show ¬ ((0 : Int32) < (0 : Int32)) from by decide)).2.2.2) (by decide) (by decide) ?_
  refine q_iloadN X2 hx hby d18_67 rfl ?_
  refine q_ifYes (pc := 68) X2 hx hby d18_68 (pc' := 77) ((if0 _ _).trans (flt (show ¬ ((0 : Int32) < (0 : Int32)) from by decide)).2.2.2) (by decide) (by decide) ?_
  refine q_bipush X2 hx hby d18_77 ?_
  refine q_istore X2 hx hby d18_79 (l' := #[vR xm, vN, vI 0, vI 0, vI 16, vI 0, uS, uS, uS, uS, uS, uS, uS, uS]) rfl ?_
  refine q_bipush X2 hx hby d18_81 ?_
  refine q_istore X2 hx hby d18_83 (l' := #[vR xm, vN, vI 0, vI 0, vI 16, vI 12, uS, uS, uS, uS, uS, uS, uS, uS]) rfl ?_
  refine q_iload X2 hx hby d18_85 rfl ?_
  refine q_ifYes (pc := 87) X2 hx hby d18_87 (pc' := 125) ((if0 _ _).trans (feq (show ¬ ((12 : Int32) = (0 : Int32)) from by decide)).2) (by decide) (by decide) ?_
  refine q_aloadN X2 hx hby d18_125 rfl rfl ?_
  refine q_iload X2 hx hby d18_126 rfl ?_
  refine qP X2 hx hby hZ hown (host := "") (Or.inl (wh hw 115 rfl)) Via.refl e2 P4 P0 (Or.inl (wh hw 116 rfl)) (wh hw 27 rfl) (ty := .int) d18_128 (fun T3 h3 X3 e3 W3 => ?_)
  have O4 := O0.wr W3 (show n0 ≤ xm by omega)
  have sz5 : h3.size = h0.size := Wr.size W3
  have K6 := K0.wr W3 (Or.inl (List.mem_of_getElem? (i := 0) rfl))
  have N3 := Fr.snoc X3 N0 (show n0 ≤ xm by omega)
  have Fw3 := P4.same W3
  refine q_iload X3 hx hby d18_131 rfl ?_
  obtain ⟨T7, h7, k7, X7, e7, E7, A7, Ov7, st7⟩ := newR X3 hx hZ hown (wh hw 117 rfl) (wh hw 118 rfl) e3 (g := (mkF m 133 #[vR xm, vN, vI 0, vI 0, vI 16, vI 12, uS, uS, uS, uS, uS, uS, uS, uS] [.int 16])) rfl (hb hby d18_133) rfl (by decide) (cap := 16) (by decide) (by decide) (by decide) (by decide)
  obtain ⟨b7, g7⟩ : ∃ z, z = h3.size := ⟨_, rfl⟩
  rw [← g7] at A7 st7
  refine gg st7 ?_
  have O8 := O4.ext E7
  have sz9 : h3.size ≤ h7.size := E7.1
  have K10 := K6.ext E7
  have l7 : @LT.lt Nat _ b7 h7.size := A7.lt
  have V7 : Arv Z h7 b7 k7 (.object "java/util/HashMap$Node") (16 : Int32) [.null, .null, .null, .null, .null, .null, .null, .null, .null, .null, .null, .null, .null, .null, .null, .null] .null := (Arv.new A7 (by decide)).pad (pad_rep [] .null 16)
  show own_Goes p e below (T7.setTop (mkF m 136 #[vR xm, vN, vI 0, vI 0, vI 16, vI 12, uS, uS, uS, uS, uS, uS, uS, uS] [.ref b7])) _
  refine q_astore X7 hx hby d18_136 rfl (l' := #[vR xm, vN, vI 0, vI 0, vI 16, vI 12, vR b7, uS, uS, uS, uS, uS, uS, uS]) rfl ?_
  refine q_aloadN X7 hx hby d18_138 rfl rfl ?_
  refine q_aload X7 hx hby d18_139 rfl rfl ?_
  have f11 := ((P5.other W3 (Or.inr (slot_ne (Or.inl (wh hw 109 rfl)) (Or.inl (wh hw 116 rfl)) (by decide) (t := (.array (.object "java/util/HashMap$Node"))) (t' := .int) (by decide) (by decide)))).ext E7)
  have f12 := ((P0.wr W3).ext E7)
  refine qP X7 hx hby hZ hown (host := "") (Or.inl (wh hw 108 rfl)) Via.refl e7 f11 f12 (Or.inl (wh hw 109 rfl)) (wh hw 27 rfl) (ty := (.array (.object "java/util/HashMap$Node"))) d18_141 (fun T13 h13 X13 e13 W13 => ?_)
  have O14 := O8.wr W13 (show n0 ≤ xm by omega)
  have sz15 : h13.size = h7.size := Wr.size W13
  have K16 := K10.wr W13 (Or.inl (List.mem_of_getElem? (i := 0) rfl))
  have N13 := Fr.snoc X13 N3 (show n0 ≤ xm by omega)
  have Fw13 := f11.same W13
  refine q_aloadN X13 hx hby d18_144 rfl rfl ?_
  refine q_ifnullYes (pc := 145) X13 hx hby d18_145 (pc' := 353) (by decide) (by decide) ?_
  refine q_aload X13 hx hby d18_353 rfl rfl ?_
  refine r_R X13 hx hby hret hlk d18_355 e13 ?_
  have f17 := (((P2.other W3 (Or.inr (slot_ne (Or.inl (wh hw 142 rfl)) (Or.inl (wh hw 116 rfl)) (by decide) (t := .int) (t' := .int) (by decide) (by decide)))).ext E7).other W13 (Or.inr (slot_ne (Or.inl (wh hw 142 rfl)) (Or.inl (wh hw 109 rfl)) (by decide) (t := .int) (t' := (.array (.object "java/util/HashMap$Node"))) (by decide) (by decide))))
  have f18 := (((P3.other W3 (Or.inr (slot_ne (Or.inl (wh hw 140 rfl)) (Or.inl (wh hw 116 rfl)) (by decide) (t := .int) (t' := .int) (by decide) (by decide)))).ext E7).other W13 (Or.inr (slot_ne (Or.inl (wh hw 140 rfl)) (Or.inl (wh hw 109 rfl)) (by decide) (t := .int) (t' := (.array (.object "java/util/HashMap$Node"))) (by decide) (by decide))))
  have f19 := ((Fw3.ext E7).other W13 (Or.inr (slot_ne (Or.inl (wh hw 116 rfl)) (Or.inl (wh hw 109 rfl)) (by decide) (t := .int) (t' := (.array (.object "java/util/HashMap$Node"))) (by decide) (by decide))))
  have f20 := (((P6.other W3 (Or.inr (slot_ne (Or.inl (wh hw 190 rfl)) (Or.inl (wh hw 116 rfl)) (by decide) (t := (.object "java/util/Collection")) (t' := .int) (by decide) (by decide)))).ext E7).other W13 (Or.inr (slot_ne (Or.inl (wh hw 190 rfl)) (Or.inl (wh hw 109 rfl)) (by decide) (t := (.object "java/util/Collection")) (t' := (.array (.object "java/util/HashMap$Node"))) (by decide) (by decide))))
  have f21 := (V7.other W13 (nE b7 xm (by omega)))
  exact ⟨N13, K16, b7, k7, rfl, f17, f18, f19, Fw13, f20, f21, (show h0.size ≤ b7 by first | assumption | omega | decide), (show Ovr Z k7 "java/util/HashMap$Node" by first | assumption | omega | decide)⟩
theorem d17_0 : decode B17 0 = .ok (.aload_n 0, 1) := by decide +kernel
theorem d17_1 : decode B17 1 = .ok (.getfield 105, 3) := by decide +kernel
theorem d17_4 : decode B17 4 = .ok (.dup, 1) := by decide +kernel
theorem d17_5 : decode B17 5 = .ok (.astore 6, 2) := by decide +kernel
theorem d17_7 : decode B17 7 = .ok (.ifnull 12, 3) := by decide +kernel
theorem d17_19 : decode B17 19 = .ok (.aload_n 0, 1) := by decide +kernel
theorem d17_20 : decode B17 20 = .ok (.invokevirtual 117, 3) := by decide +kernel
theorem own_pd_8 : parseMethodDescriptor "()[Ljava/util/HashMap$Node;" = some ⟨[], some (.array (.object "java/util/HashMap$Node"))⟩ := by decide +kernel
theorem d17_23 : decode B17 23 = .ok (.dup, 1) := by decide +kernel
theorem d17_24 : decode B17 24 = .ok (.astore 6, 2) := by decide +kernel
theorem d17_26 : decode B17 26 = .ok (.arraylength, 1) := by decide +kernel
theorem d17_27 : decode B17 27 = .ok (.istore 8, 2) := by decide +kernel
theorem d17_29 : decode B17 29 = .ok (.aload 6, 2) := by decide +kernel
theorem d17_31 : decode B17 31 = .ok (.iload 8, 2) := by decide +kernel
theorem d17_33 : decode B17 33 = .ok (.iconst 1, 1) := by decide +kernel
theorem d17_34 : decode B17 34 = .ok (.isub, 1) := by decide +kernel
theorem d17_35 : decode B17 35 = .ok (.iload_n 1, 1) := by decide +kernel
theorem d17_36 : decode B17 36 = .ok (.iand, 1) := by decide +kernel
theorem d17_37 : decode B17 37 = .ok (.dup, 1) := by decide +kernel
theorem d17_38 : decode B17 38 = .ok (.istore 9, 2) := by decide +kernel
theorem d17_40 : decode B17 40 = .ok (.aaload, 1) := by decide +kernel
theorem d17_41 : decode B17 41 = .ok (.dup, 1) := by decide +kernel
theorem d17_42 : decode B17 42 = .ok (.astore 7, 2) := by decide +kernel
theorem d17_44 : decode B17 44 = .ok (.ifnonnull 19, 3) := by decide +kernel
theorem d17_47 : decode B17 47 = .ok (.aload 6, 2) := by decide +kernel
theorem d17_49 : decode B17 49 = .ok (.iload 9, 2) := by decide +kernel
theorem d17_51 : decode B17 51 = .ok (.aload_n 0, 1) := by decide +kernel
theorem d17_52 : decode B17 52 = .ok (.iload_n 1, 1) := by decide +kernel
theorem d17_53 : decode B17 53 = .ok (.aload_n 2, 1) := by decide +kernel
theorem d17_54 : decode B17 54 = .ok (.aload_n 3, 1) := by decide +kernel
theorem d17_55 : decode B17 55 = .ok (.aconst_null, 1) := by decide +kernel
theorem d17_56 : decode B17 56 = .ok (.invokevirtual 186, 3) := by decide +kernel
theorem own_pd_9 : parseMethodDescriptor "(ILjava/lang/Object;Ljava/lang/Object;Ljava/util/HashMap$Node;)Ljava/util/HashMap$Node;" = some ⟨[.int, (.object "java/lang/Object"), (.object "java/lang/Object"), (.object "java/util/HashMap$Node")], some (.object "java/util/HashMap$Node")⟩ := by decide +kernel
theorem d17_59 : decode B17 59 = .ok (.aastore, 1) := by decide +kernel
theorem d17_60 : decode B17 60 = .ok (.goto 199, 3) := by decide +kernel
theorem d17_259 : decode B17 259 = .ok (.aload_n 0, 1) := by decide +kernel
theorem d17_260 : decode B17 260 = .ok (.dup, 1) := by decide +kernel
theorem d17_261 : decode B17 261 = .ok (.getfield 202, 3) := by decide +kernel
theorem d17_264 : decode B17 264 = .ok (.iconst 1, 1) := by decide +kernel
theorem d17_265 : decode B17 265 = .ok (.iadd, 1) := by decide +kernel
theorem d17_266 : decode B17 266 = .ok (.putfield 202, 3) := by decide +kernel
theorem d17_269 : decode B17 269 = .ok (.aload_n 0, 1) := by decide +kernel
theorem d17_270 : decode B17 270 = .ok (.dup, 1) := by decide +kernel
theorem d17_271 : decode B17 271 = .ok (.getfield 156, 3) := by decide +kernel
theorem d17_274 : decode B17 274 = .ok (.iconst 1, 1) := by decide +kernel
theorem d17_275 : decode B17 275 = .ok (.iadd, 1) := by decide +kernel
theorem d17_276 : decode B17 276 = .ok (.dup_x1, 1) := by decide +kernel
theorem d17_277 : decode B17 277 = .ok (.putfield 156, 3) := by decide +kernel
theorem d17_280 : decode B17 280 = .ok (.aload_n 0, 1) := by decide +kernel
theorem d17_281 : decode B17 281 = .ok (.getfield 88, 3) := by decide +kernel
theorem d17_284 : decode B17 284 = .ok (.if_icmp .le 8, 3) := by decide +kernel
theorem d17_292 : decode B17 292 = .ok (.aload_n 0, 1) := by decide +kernel
theorem d17_293 : decode B17 293 = .ok (.iload 5, 2) := by decide +kernel
theorem d17_295 : decode B17 295 = .ok (.invokevirtual 205, 3) := by decide +kernel
theorem own_pd_10 : parseMethodDescriptor "(Z)V" = some ⟨[.boolean], none⟩ := by decide +kernel
theorem d17_298 : decode B17 298 = .ok (.aconst_null, 1) := by decide +kernel
theorem d17_299 : decode B17 299 = .ok (.areturn, 1) := by decide +kernel
theorem own_ef_own_putVal0 (m : MethodId) (xm : Addr) (xy : Addr) (xv : Addr) : entryFrame m #[.ref xm, .int 97, .ref xy, .ref xv, .int 0, .int 1] 13 = mkF m 0 #[vR xm, vI 97, vR xy, vR xv, vI 0, vI 1, uS, uS, uS, uS, uS, uS, uS] [] := by first | (simp [entryFrame, mkF, argsToLocals, Value.category]; done) | rfl
def Q_own_putVal0 (Z : State) (xm : Addr) (xy : Addr) (xv : Addr) (h0 : Heap) (n0 : Nat) (v : Option Value) (h : Heap) (L : List Loc) : Prop := Fr n0 L ∧ Keep h0 h [xm] ∧ ∃ (rt : Addr), ∃ (rk : ClassId), ∃ (r : Addr), v = some .null ∧ Fld Z h xm "java/util/HashMap" "size" "I" (.int 1) ∧ Fld Z h xm "java/util/HashMap" "modCount" "I" (.int 1) ∧ Fld Z h xm "java/util/HashMap" "threshold" "I" (.int 12) ∧ Fld Z h xm "java/util/HashMap" "table" "[Ljava/util/HashMap$Node;" (.ref rt) ∧ Fld Z h xm "java/util/AbstractMap" "values" "Ljava/util/Collection;" .null ∧ Arv Z h rt rk (.object "java/util/HashMap$Node") (16 : Int32) [.null, .ref r, .null, .null, .null, .null, .null, .null, .null, .null, .null, .null, .null, .null, .null, .null] .null ∧ Exa Z h r "java/util/HashMap$Node" ∧ Fld Z h r "java/util/HashMap$Node" "value" "Ljava/lang/Object;" (.ref xv) ∧ Fld Z h r "java/util/HashMap$Node" "next" "Ljava/util/HashMap$Node;" .null ∧ h0.size ≤ rt ∧ @LT.lt Nat _ rt r ∧ Ovr Z rk "java/util/HashMap$Node"
theorem own_putVal0 (l : Launch) (Z : State) (a0 : Array Value) (hw : ∀ d ∈ tables_1, d.before a0 Z = true) (ws : List Jvm.Cond) (xm : Addr) (xy : Addr) (xv : Addr) (h0 : Heap) (n0 : Nat) (O0 : Old Z n0 h0) (P0 : Exa Z h0 xm "java/util/HashMap") (P1 : n0 ≤ xm) (P2 : Fld Z h0 xm "java/util/HashMap" "size" "I" (.int 0)) (P3 : Fld Z h0 xm "java/util/HashMap" "modCount" "I" (.int 0)) (P4 : Fld Z h0 xm "java/util/HashMap" "threshold" "I" (.int 0)) (P5 : Fld Z h0 xm "java/util/HashMap" "table" "[Ljava/util/HashMap$Node;" .null) (P6 : Fld Z h0 xm "java/util/AbstractMap" "values" "Ljava/util/Collection;" .null) : own_Met l Z (⟨"java/util/HashMap", "putVal", "(ILjava/lang/Object;Ljava/lang/Object;ZZ)Ljava/lang/Object;"⟩ : MethodName) jdk_69_method_16_code 13 (some (.object "java/lang/Object")) ws ({ frames := 3, cells := 2, slots := 20, locals := 47 } : Room) #[.ref xm, .int 97, .ref xy, .ref xv, .int 0, .int 1] h0 (Q_own_putVal0 Z xm xy xv h0 n0) := by
  refine own_mk (plainFor_of_name own_pn_java_util_HashMap) O0 ?_
  intro p e s m below meth c s₁ hx hby hml hZ hown hnm hlk hret X0 e0 N0 z0 z1
  have K0 : Keep h0 h0 [xm] := Keep.refl _ _
  refine own_cast (own_ef_own_putVal0 m xm xy xv) ?_
  show own_Goes p e below (s₁.setTop (mkF m 0 #[vR xm, vI 97, vR xy, vR xv, vI 0, vI 1, uS, uS, uS, uS, uS, uS, uS] [])) _
  have ltP0 : @LT.lt Nat _ xm h0.size := P0.lt
  refine q_aloadN X0 hx hby d17_0 rfl rfl ?_
  refine qG X0 hx hby hZ hown (wh hw 108 rfl) e0 P5 d17_1 (fun T1 X1 e1 => ?_)
  refine q_dup X1 hx hby d17_4 rfl ?_
  refine q_astore X1 hx hby d17_5 rfl (l' := #[vR xm, vI 97, vR xy, vR xv, vI 0, vI 1, vN, uS, uS, uS, uS, uS, uS]) rfl ?_
  refine q_ifnullYes (pc := 7) X1 hx hby d17_7 (pc' := 19) (by decide) (by decide) ?_
  refine q_aloadN X1 hx hby d17_19 rfl rfl ?_
  refine k_V X1 hx hby hZ hown (wh hw 110 rfl) (wh hw 111 rfl) (wh hw 113 rfl) (wh hw 112 rfl) (W := 0) (own_resize l Z a0 hw [] xm h0 n0 O0 P0 (show n0 ≤ xm by first | assumption | omega | decide) P2 P3 P4 P5 P6) (wh hw 114 rfl) (wh hw 28 rfl) e1 P0  hml (argsL := []) (rest := []) own_pd_8 d17_20 (fun _ T2 L2 X2 hQ2 => ?_)
  obtain ⟨h2, e2⟩ : ∃ z, T2.heap = z := ⟨_, rfl⟩
  rw [e2] at hQ2
  obtain ⟨Nc2, Kc2, r_2, rk_2, rfl, c2_0, c2_1, c2_2, c2_3, c2_4, c2_5, c2_6, c2_7⟩ := hQ2
  have N2 := Fr.app N0 Nc2
  have O3 := O0.keep Kc2 (allS (show n0 ≤ xm by omega) all0)
  have sz4 : h0.size ≤ h2.size := Kc2.1
  have K5 := Keep.trans K0 Kc2 (allS (Or.inl (List.mem_of_getElem? (i := 0) rfl)) all0)
  have ltc2_5 : @LT.lt Nat _ r_2 h2.size := c2_5.lt
  refine q_dup X2 hx hby d17_23 rfl ?_
  refine q_astore X2 hx hby d17_24 rfl (l' := #[vR xm, vI 97, vR xy, vR xv, vI 0, vI 1, vR r_2, uS, uS, uS, uS, uS, uS]) rfl ?_
  refine q_len X2 hx hby hZ e2 c2_5 d17_26 ?_
  refine q_istore X2 hx hby d17_27 (l' := #[vR xm, vI 97, vR xy, vR xv, vI 0, vI 1, vR r_2, uS, vI 16, uS, uS, uS, uS]) rfl ?_
  refine q_aload X2 hx hby d17_29 rfl rfl ?_
  refine q_iload X2 hx hby d17_31 rfl ?_
  refine q_iconst X2 hx hby d17_33 ?_
  show own_Goes p e below (T2.setTop (mkF m 34 #[vR xm, vI 97, vR xy, vR xv, vI 0, vI 1, vR r_2, uS, vI 16, uS, uS, uS, uS] [.int 1, .int 16, .ref r_2])) _
  refine q_isub X2 hx hby d17_34 ?_
  show own_Goes p e below (T2.setTop (mkF m 35 #[vR xm, vI 97, vR xy, vR xv, vI 0, vI 1, vR r_2, uS, vI 16, uS, uS, uS, uS] [(.int ((16 : Int32) - (1 : Int32))), .ref r_2])) _
  rw [show ((16 : Int32) - (1 : Int32)) = (15 : Int32) from by decide]
  refine q_iloadN X2 hx hby d17_35 rfl ?_
  refine q_iand X2 hx hby d17_36 ?_
  show own_Goes p e below (T2.setTop (mkF m 37 #[vR xm, vI 97, vR xy, vR xv, vI 0, vI 1, vR r_2, uS, vI 16, uS, uS, uS, uS] [(.int ((15 : Int32) &&& (97 : Int32))), .ref r_2])) _
  rw [show ((15 : Int32) &&& (97 : Int32)) = (1 : Int32) from by decide]
  refine q_dup X2 hx hby d17_37 rfl ?_
  refine q_istore X2 hx hby d17_38 (l' := #[vR xm, vI 97, vR xy, vR xv, vI 0, vI 1, vR r_2, uS, vI 16, vI 1, uS, uS, uS]) rfl ?_
  refine q_aaload X2 hx hby hZ e2 c2_5 d17_40 .null ?_
  refine q_dup X2 hx hby d17_41 rfl ?_
  refine q_astore X2 hx hby d17_42 rfl (l' := #[vR xm, vI 97, vR xy, vR xv, vI 0, vI 1, vR r_2, vN, vI 16, vI 1, uS, uS, uS]) rfl ?_
  refine gg (fun t k => XS.ifnonnullNo X2.here hx rfl (hb hby d17_44) rfl k) ?_
  refine q_aload X2 hx hby d17_47 rfl rfl ?_
  refine q_iload X2 hx hby d17_49 rfl ?_
  refine q_aloadN X2 hx hby d17_51 rfl rfl ?_
  refine q_iloadN X2 hx hby d17_52 rfl ?_
  refine q_aloadN X2 hx hby d17_53 rfl rfl ?_
  refine q_aloadN X2 hx hby d17_54 rfl rfl ?_
  refine q_aconstNull X2 hx hby d17_55 ?_
  have f8 := (P0.keep Kc2)
  refine k_V X2 hx hby hZ hown (wh hw 119 rfl) (wh hw 120 rfl) (wh hw 122 rfl) (wh hw 121 rfl) (W := 2) (own_newNode l Z a0 hw [] xm (97 : Int32) xy xv h2 n0 O3) (wh hw 123 rfl) (wh hw 28 rfl) e2 f8  hml (argsL := [.int 97, .ref xy, .ref xv, .null]) (rest := [.int 1, .ref r_2]) own_pd_9 d17_56 (fun _ T9 L9 X9 hQ9 => ?_)
  obtain ⟨h9, e9⟩ : ∃ z, T9.heap = z := ⟨_, rfl⟩
  rw [e9] at hQ9
  obtain ⟨Nc9, Kc9, r_9, rfl, c9_0, c9_1, c9_2, c9_3⟩ := hQ9
  have N9 := Fr.app N2 Nc9
  have O10 := O3.keep Kc9 all0
  have sz11 : h2.size ≤ h9.size := Kc9.1
  have K12 := Keep.trans K5 Kc9 all0
  have ltc9_0 : @LT.lt Nat _ r_9 h9.size := c9_0.lt
  show own_Goes p e below (T9.setTop (mkF m 59 #[vR xm, vI 97, vR xy, vR xv, vI 0, vI 1, vR r_2, vN, vI 16, vI 1, uS, uS, uS] [.ref r_9, .int 1, .ref r_2])) _
  have f13 := (c2_5.keep Kc9 nin0)
  obtain ⟨clu14, Aru14, qu14, Szu14, Ngu14, Hsu14, Gsu14⟩ := id f13
  have inu14 : ¬ ((1 : Int32) < 0 ∨ clu14.slots.size ≤ ((1 : Int32)).toNatClampNeg) := inb_of Szu14 ⟨by decide, by decide⟩
  obtain ⟨T15, h15, X15, e15, W15, st15⟩ := stR X9 hx hZ e9 Aru14 (j := (1 : Int32)) inu14 rfl (Sto.ofV Aru14 qu14 c2_7 (Ins.self c9_0)) (g := (mkF m 59 #[vR xm, vI 97, vR xy, vR xv, vI 0, vI 1, vR r_2, vN, vI 16, vI 1, uS, uS, uS] [.ref r_9, .int 1, .ref r_2])) rfl rfl (hb hby d17_59)
  refine gg st15 ?_
  have V15 := Arv.set Aru14 qu14 Szu14 Ngu14 Hsu14 Gsu14 rfl W15 1 rfl (Nat.le_of_ble_eq_true rfl)
  have O16 := O10.wr W15 (show n0 ≤ r_2 by omega)
  have sz17 : h15.size = h9.size := Wr.size W15
  have K18 := K12.wr W15 (Or.inr (show h0.size ≤ r_2 by omega))
  have N15 := Fr.snoc X15 N9 (show n0 ≤ r_2 by omega)
  have V15 : Arv Z h15 r_2 rk_2 (.object "java/util/HashMap$Node") (16 : Int32) [.null, .ref r_9, .null, .null, .null, .null, .null, .null, .null, .null, .null, .null, .null, .null, .null, .null] .null := V15
  refine q_goto (pc := 60) X15 hx hby d17_60 (pc' := 259) (by decide) (by decide) ?_
  refine q_aloadN X15 hx hby d17_259 rfl rfl ?_
  refine q_dup X15 hx hby d17_260 rfl ?_
  have f19 := ((c2_1.keep Kc9 nin0).other W15 (Or.inl (nE xm r_2 (by omega))))
  refine qG X15 hx hby hZ hown (wh hw 139 rfl) e15 f19 d17_261 (fun T20 X20 e20 => ?_)
  refine q_iconst X20 hx hby d17_264 ?_
  refine q_iadd X20 hx hby d17_265 ?_
  show own_Goes p e below (T20.setTop (mkF m 266 #[vR xm, vI 97, vR xy, vR xv, vI 0, vI 1, vR r_2, vN, vI 16, vI 1, uS, uS, uS] [(.int ((0 : Int32) + (1 : Int32))), .ref xm])) _
  rw [show ((0 : Int32) + (1 : Int32)) = (1 : Int32) from by decide]
  have f21 := ((f8.keep Kc9).wr W15)
  refine qP X20 hx hby hZ hown (host := "") (Or.inl (wh hw 139 rfl)) Via.refl e20 f19 f21 (Or.inl (wh hw 140 rfl)) (wh hw 27 rfl) (ty := .int) d17_266 (fun T22 h22 X22 e22 W22 => ?_)
  have O23 := O16.wr W22 (show n0 ≤ xm by omega)
  have sz24 : h22.size = h15.size := Wr.size W22
  have K25 := K18.wr W22 (Or.inl (List.mem_of_getElem? (i := 0) rfl))
  have N22 := Fr.snoc X22 N15 (show n0 ≤ xm by omega)
  have Fw22 := f19.same W22
  refine q_aloadN X22 hx hby d17_269 rfl rfl ?_
  refine q_dup X22 hx hby d17_270 rfl ?_
  have f26 := (((c2_0.keep Kc9 nin0).other W15 (Or.inl (nE xm r_2 (by omega)))).other W22 (Or.inr (slot_ne (Or.inl (wh hw 142 rfl)) (Or.inl (wh hw 140 rfl)) (by decide) (t := .int) (t' := .int) (by decide) (by decide))))
  refine qG X22 hx hby hZ hown (wh hw 141 rfl) e22 f26 d17_271 (fun T27 X27 e27 => ?_)
  refine q_iconst X27 hx hby d17_274 ?_
  refine q_iadd X27 hx hby d17_275 ?_
  show own_Goes p e below (T27.setTop (mkF m 276 #[vR xm, vI 97, vR xy, vR xv, vI 0, vI 1, vR r_2, vN, vI 16, vI 1, uS, uS, uS] [(.int ((0 : Int32) + (1 : Int32))), .ref xm])) _
  rw [show ((0 : Int32) + (1 : Int32)) = (1 : Int32) from by decide]
  refine gg (fun t k => XS.dupX1 X27.here hx rfl (hb hby d17_276) rfl rfl rfl k) ?_
  have f28 := (f21.wr W22)
  refine qP X27 hx hby hZ hown (host := "") (Or.inl (wh hw 141 rfl)) Via.refl e27 f26 f28 (Or.inl (wh hw 142 rfl)) (wh hw 27 rfl) (ty := .int) d17_277 (fun T29 h29 X29 e29 W29 => ?_)
  have O30 := O23.wr W29 (show n0 ≤ xm by omega)
  have sz31 : h29.size = h22.size := Wr.size W29
  have K32 := K25.wr W29 (Or.inl (List.mem_of_getElem? (i := 0) rfl))
  have N29 := Fr.snoc X29 N22 (show n0 ≤ xm by omega)
  have Fw29 := f26.same W29
  refine q_aloadN X29 hx hby d17_280 rfl rfl ?_
  have f33 := ((((c2_2.keep Kc9 nin0).other W15 (Or.inl (nE xm r_2 (by omega)))).other W22 (Or.inr (slot_ne (Or.inl (wh hw 116 rfl)) (Or.inl (wh hw 140 rfl)) (by decide) (t := .int) (t' := .int) (by decide) (by decide)))).other W29 (Or.inr (slot_ne (Or.inl (wh hw 116 rfl)) (Or.inl (wh hw 142 rfl)) (by decide) (t := .int) (t' := .int) (by decide) (by decide))))
  refine qG X29 hx hby hZ hown (wh hw 115 rfl) e29 f33 d17_281 (fun T34 X34 e34 => ?_)
  refine q_icmpYes (pc := 284) X34 hx hby d17_284 (pc' := 292) (flt (show ¬ ((12 : Int32) < (1 : Int32)) from by decide)).2.2.2 (by decide) (by decide) ?_
  refine q_aloadN X34 hx hby d17_292 rfl rfl ?_
  refine q_iload X34 hx hby d17_293 rfl ?_
  have f35 := (f28.wr W29)
  refine k_V X34 hx hby hZ hown (wh hw 143 rfl) (wh hw 144 rfl) (wh hw 146 rfl) (wh hw 145 rfl) (W := 0) (own_after l Z a0 hw [] xm h29 n0 O30) (wh hw 147 rfl) (wh hw 28 rfl) e34 f35  hml (argsL := [.int 1]) (rest := []) own_pd_10 d17_295 (fun _ T36 L36 X36 hQ36 => ?_)
  obtain ⟨Nc36, e36, rfl⟩ := hQ36
  have N36 := Fr.app N29 Nc36
  refine q_aconstNull X36 hx hby d17_298 ?_
  refine r_R X36 hx hby hret hlk d17_299 e36 ?_
  have f37 := (Fw22.other W29 (Or.inr (slot_ne (Or.inl (wh hw 140 rfl)) (Or.inl (wh hw 142 rfl)) (by decide) (t := .int) (t' := .int) (by decide) (by decide))))
  have f38 := ((((c2_3.keep Kc9 nin0).other W15 (Or.inl (nE xm r_2 (by omega)))).other W22 (Or.inr (slot_ne (Or.inl (wh hw 109 rfl)) (Or.inl (wh hw 140 rfl)) (by decide) (t := (.array (.object "java/util/HashMap$Node"))) (t' := .int) (by decide) (by decide)))).other W29 (Or.inr (slot_ne (Or.inl (wh hw 109 rfl)) (Or.inl (wh hw 142 rfl)) (by decide) (t := (.array (.object "java/util/HashMap$Node"))) (t' := .int) (by decide) (by decide))))
  have f39 := ((((c2_4.keep Kc9 nin0).other W15 (Or.inl (nE xm r_2 (by omega)))).other W22 (Or.inr (slot_ne (Or.inl (wh hw 190 rfl)) (Or.inl (wh hw 140 rfl)) (by decide) (t := (.object "java/util/Collection")) (t' := .int) (by decide) (by decide)))).other W29 (Or.inr (slot_ne (Or.inl (wh hw 190 rfl)) (Or.inl (wh hw 142 rfl)) (by decide) (t := (.object "java/util/Collection")) (t' := .int) (by decide) (by decide))))
  have f40 := ((V15.other W22 (nE r_2 xm (by omega))).other W29 (nE r_2 xm (by omega)))
  have f41 := (((c9_0.wr W15).wr W22).wr W29)
  have f42 := (((c9_1.other W15 (Or.inl (nE r_9 r_2 (by omega)))).other W22 (Or.inl (nE r_9 xm (by omega)))).other W29 (Or.inl (nE r_9 xm (by omega))))
  have f43 := (((c9_2.other W15 (Or.inl (nE r_9 r_2 (by omega)))).other W22 (Or.inl (nE r_9 xm (by omega)))).other W29 (Or.inl (nE r_9 xm (by omega))))
  exact ⟨N36, K32, r_2, rk_2, r_9, rfl, Fw29, f37, f33, f38, f39, f40, f41, f42, f43, (show h0.size ≤ r_2 by first | assumption | omega | decide), (show @LT.lt Nat _ r_2 r_9 by first | assumption | omega | decide), (show Ovr Z rk_2 "java/util/HashMap$Node" by first | assumption | omega | decide)⟩
theorem d12_0 : decode B12 0 = .ok (.aload_n 0, 1) := by decide +kernel
theorem d12_1 : decode B12 1 = .ok (.aload_n 1, 1) := by decide +kernel
theorem d12_2 : decode B12 2 = .ok (.invokestatic 149, 3) := by decide +kernel
theorem own_pd_11 : parseMethodDescriptor "(Ljava/lang/Object;)I" = some ⟨[(.object "java/lang/Object")], some .int⟩ := by decide +kernel
theorem d12_5 : decode B12 5 = .ok (.aload_n 1, 1) := by decide +kernel
theorem d12_6 : decode B12 6 = .ok (.aload_n 2, 1) := by decide +kernel
theorem d12_7 : decode B12 7 = .ok (.iconst 0, 1) := by decide +kernel
theorem d12_8 : decode B12 8 = .ok (.iconst 1, 1) := by decide +kernel
theorem d12_9 : decode B12 9 = .ok (.invokevirtual 152, 3) := by decide +kernel
theorem own_pd_12 : parseMethodDescriptor "(ILjava/lang/Object;Ljava/lang/Object;ZZ)Ljava/lang/Object;" = some ⟨[.int, (.object "java/lang/Object"), (.object "java/lang/Object"), .boolean, .boolean], some (.object "java/lang/Object")⟩ := by decide +kernel
theorem d12_12 : decode B12 12 = .ok (.areturn, 1) := by decide +kernel
theorem own_ef_own_put0 (m : MethodId) (xm : Addr) (xa : Addr) (xv : Addr) : entryFrame m #[.ref xm, .ref xa, .ref xv] 3 = mkF m 0 #[vR xm, vR xa, vR xv] [] := by first | (simp [entryFrame, mkF, argsToLocals, Value.category]; done) | rfl
def Q_own_put0 (Z : State) (xm : Addr) (xa : Addr) (xb : Addr) (xk : ClassId) (xv : Addr) (gwD : Addr) (gz : Int32) (gwc : Addr) (gcl : Cell) (h0 : Heap) (n0 : Nat) (v : Option Value) (h : Heap) (L : List Loc) : Prop := Fr n0 L ∧ Keep h0 h [xm, xa] ∧ ∃ (rt : Addr), ∃ (rk : ClassId), ∃ (r : Addr), v = some .null ∧ Fld Z h xm "java/util/HashMap" "size" "I" (.int 1) ∧ Fld Z h xm "java/util/HashMap" "modCount" "I" (.int 1) ∧ Fld Z h xm "java/util/HashMap" "threshold" "I" (.int 12) ∧ Fld Z h xm "java/util/HashMap" "table" "[Ljava/util/HashMap$Node;" (.ref rt) ∧ Fld Z h xm "java/util/AbstractMap" "values" "Ljava/util/Collection;" .null ∧ Arv Z h rt rk (.object "java/util/HashMap$Node") (16 : Int32) [.null, .ref r, .null, .null, .null, .null, .null, .null, .null, .null, .null, .null, .null, .null, .null, .null] .null ∧ Exa Z h r "java/util/HashMap$Node" ∧ Fld Z h r "java/util/HashMap$Node" "value" "Ljava/lang/Object;" (.ref xv) ∧ Fld Z h r "java/util/HashMap$Node" "next" "Ljava/util/HashMap$Node;" .null ∧ h0.size ≤ rt ∧ @LT.lt Nat _ rt r ∧ Ovr Z rk "java/util/HashMap$Node"
theorem own_put0 (l : Launch) (Z : State) (a0 : Array Value) (hw : ∀ d ∈ tables_1, d.before a0 Z = true) (ws : List Jvm.Cond) (xm : Addr) (xa : Addr) (xb : Addr) (xk : ClassId) (xv : Addr) (h0 : Heap) (n0 : Nat) (O0 : Old Z n0 h0) (gwD : Addr) (gz : Int32) (gwc : Addr) (gcl : Cell) (G : GG Z gwD gz gwc gcl) (P0 : Exa Z h0 xm "java/util/HashMap") (P1 : n0 ≤ xm) (P2 : Fld Z h0 xm "java/util/HashMap" "size" "I" (.int 0)) (P3 : Fld Z h0 xm "java/util/HashMap" "modCount" "I" (.int 0)) (P4 : Fld Z h0 xm "java/util/HashMap" "threshold" "I" (.int 0)) (P5 : Fld Z h0 xm "java/util/HashMap" "table" "[Ljava/util/HashMap$Node;" .null) (P6 : Fld Z h0 xm "java/util/AbstractMap" "values" "Ljava/util/Collection;" .null) (P7 : Exa Z h0 xa "java/lang/String") (P8 : Fld Z h0 xa "java/lang/String" "value" "[B" (.ref xb)) (P9 : Fld Z h0 xa "java/lang/String" "coder" "B" (.int 0)) (P10 : Fld Z h0 xa "java/lang/String" "hash" "I" (.int 0)) (P11 : Fld Z h0 xa "java/lang/String" "hashIsZero" "Z" (.int 0)) (P12 : Arv Z h0 xb xk .byte (1 : Int32) [.int 97] (.int 0)) (P13 : n0 ≤ xa) (P14 : @LT.lt Nat _ xm xa) (P15 : @LT.lt Nat _ xa xb) : own_Met l Z (⟨"java/util/HashMap", "put", "(Ljava/lang/Object;Ljava/lang/Object;)Ljava/lang/Object;"⟩ : MethodName) jdk_69_method_15_code 3 (some (.object "java/lang/Object")) ws ({ frames := 4, cells := 2, slots := 20, locals := 71 } : Room) #[.ref xm, .ref xa, .ref xv] h0 (Q_own_put0 Z xm xa xb xk xv gwD gz gwc gcl h0 n0) := by
  refine own_mk (plainFor_of_name own_pn_java_util_HashMap) O0 ?_
  intro p e s m below meth c s₁ hx hby hml hZ hown hnm hlk hret X0 e0 N0 z0 z1
  have K0 : Keep h0 h0 [xm, xa] := Keep.refl _ _
  refine own_cast (own_ef_own_put0 m xm xa xv) ?_
  show own_Goes p e below (s₁.setTop (mkF m 0 #[vR xm, vR xa, vR xv] [])) _
  obtain ⟨G0, G1, G2, G3, G4, G5, G6⟩ := id G
  have ltG1 : @LT.lt Nat _ gwD Z.heap.size := G1.lt
  have ltP0 : @LT.lt Nat _ xm h0.size := P0.lt
  have ltP7 : @LT.lt Nat _ xa h0.size := P7.lt
  have ltP12 : @LT.lt Nat _ xb h0.size := P12.lt
  refine q_aloadN X0 hx hby d12_0 rfl rfl ?_
  refine q_aloadN X0 hx hby d12_1 rfl rfl ?_
  refine k_S X0 hx hby hZ hown (wh hw 82 rfl) (wh hw 83 rfl) (W := 1) (own_hash l Z a0 hw [] (97 : Int32) xa xb xk h0 n0 O0 gwD gz gwc gcl G (show own_chr (97 : Int32) from (by first | assumption | exact own_chr97 | exact own_chr98 | exact own_chr99)) P7 P8 P9 P10 P11 P12 (show n0 ≤ xa by first | assumption | omega | decide)) (wh hw 84 rfl) (wh hw 28 rfl) e0  hml (argsL := [.ref xa]) (rest := [.ref xm]) own_pd_11 d12_2 (fun _ T1 L1 X1 hQ1 => ?_)
  obtain ⟨h1, e1⟩ : ∃ z, T1.heap = z := ⟨_, rfl⟩
  rw [e1] at hQ1
  obtain ⟨Nc1, Kc1, rfl⟩ := hQ1
  have N1 := Fr.app N0 Nc1
  have O2 := O0.keep Kc1 (allS (show n0 ≤ xa by omega) all0)
  have sz3 : h0.size ≤ h1.size := Kc1.1
  have K4 := Keep.trans K0 Kc1 (allS (Or.inl (List.mem_of_getElem? (i := 1) rfl)) all0)
  refine q_aloadN X1 hx hby d12_5 rfl rfl ?_
  refine q_aloadN X1 hx hby d12_6 rfl rfl ?_
  refine q_iconst X1 hx hby d12_7 ?_
  refine q_iconst X1 hx hby d12_8 ?_
  have f5 := (P0.keep Kc1)
  have f6 := (P2.keep Kc1 (ninS (nE xm xa (by omega)) nin0))
  have f7 := (P3.keep Kc1 (ninS (nE xm xa (by omega)) nin0))
  have f8 := (P4.keep Kc1 (ninS (nE xm xa (by omega)) nin0))
  have f9 := (P5.keep Kc1 (ninS (nE xm xa (by omega)) nin0))
  have f10 := (P6.keep Kc1 (ninS (nE xm xa (by omega)) nin0))
  refine k_V X1 hx hby hZ hown (wh hw 103 rfl) (wh hw 104 rfl) (wh hw 106 rfl) (wh hw 105 rfl) (W := 0) (own_putVal0 l Z a0 hw [] xm xa xv h1 n0 O2 f5 (show n0 ≤ xm by first | assumption | omega | decide) f6 f7 f8 f9 f10) (wh hw 107 rfl) (wh hw 28 rfl) e1 f5  hml (argsL := [.int 97, .ref xa, .ref xv, .int 0, .int 1]) (rest := []) own_pd_12 d12_9 (fun _ T11 L11 X11 hQ11 => ?_)
  obtain ⟨h11, e11⟩ : ∃ z, T11.heap = z := ⟨_, rfl⟩
  rw [e11] at hQ11
  obtain ⟨Nc11, Kc11, rt_11, rk_11, r_11, rfl, c11_0, c11_1, c11_2, c11_3, c11_4, c11_5, c11_6, c11_7, c11_8, c11_9, c11_10, c11_11⟩ := hQ11
  have N11 := Fr.app N1 Nc11
  have O12 := O2.keep Kc11 (allS (show n0 ≤ xm by omega) all0)
  have sz13 : h1.size ≤ h11.size := Kc11.1
  have K14 := Keep.trans K4 Kc11 (allS (Or.inl (List.mem_of_getElem? (i := 0) rfl)) all0)
  have ltc11_5 : @LT.lt Nat _ rt_11 h11.size := c11_5.lt
  have ltc11_6 : @LT.lt Nat _ r_11 h11.size := c11_6.lt
  refine r_R X11 hx hby hret hlk d12_12 e11 ?_
  exact ⟨N11, K14, rt_11, rk_11, r_11, rfl, c11_0, c11_1, c11_2, c11_3, c11_4, c11_5, c11_6, c11_7, c11_8, (show h0.size ≤ rt_11 by first | assumption | omega | decide), (show @LT.lt Nat _ rt_11 r_11 by first | assumption | omega | decide), (show Ovr Z rk_11 "java/util/HashMap$Node" by first | assumption | omega | decide)⟩
theorem d17_10 : decode B17 10 = .ok (.aload 6, 2) := by decide +kernel
theorem d17_12 : decode B17 12 = .ok (.arraylength, 1) := by decide +kernel
theorem d17_13 : decode B17 13 = .ok (.dup, 1) := by decide +kernel
theorem d17_14 : decode B17 14 = .ok (.istore 8, 2) := by decide +kernel
theorem d17_16 : decode B17 16 = .ok (.ifCond .ne 13, 3) := by decide +kernel
theorem own_ef_own_putVal1 (m : MethodId) (xm : Addr) (xy : Addr) (xv : Addr) : entryFrame m #[.ref xm, .int 98, .ref xy, .ref xv, .int 0, .int 1] 13 = mkF m 0 #[vR xm, vI 98, vR xy, vR xv, vI 0, vI 1, uS, uS, uS, uS, uS, uS, uS] [] := by first | (simp [entryFrame, mkF, argsToLocals, Value.category]; done) | rfl
def Q_own_putVal1 (Z : State) (xm : Addr) (xt : Addr) (xq : ClassId) (x1 : Addr) (xy : Addr) (xv : Addr) (h0 : Heap) (n0 : Nat) (v : Option Value) (h : Heap) (L : List Loc) : Prop := Fr n0 L ∧ Keep h0 h [xm, xt] ∧ ∃ (r : Addr), v = some .null ∧ Fld Z h xm "java/util/HashMap" "size" "I" (.int 2) ∧ Fld Z h xm "java/util/HashMap" "modCount" "I" (.int 2) ∧ Fld Z h xm "java/util/HashMap" "threshold" "I" (.int 12) ∧ Fld Z h xm "java/util/HashMap" "table" "[Ljava/util/HashMap$Node;" (.ref xt) ∧ Fld Z h xm "java/util/AbstractMap" "values" "Ljava/util/Collection;" .null ∧ Arv Z h xt xq (.object "java/util/HashMap$Node") (16 : Int32) [.null, .ref x1, .ref r, .null, .null, .null, .null, .null, .null, .null, .null, .null, .null, .null, .null, .null] .null ∧ Exa Z h r "java/util/HashMap$Node" ∧ Fld Z h r "java/util/HashMap$Node" "value" "Ljava/lang/Object;" (.ref xv) ∧ Fld Z h r "java/util/HashMap$Node" "next" "Ljava/util/HashMap$Node;" .null ∧ h0.size ≤ r
theorem own_putVal1 (l : Launch) (Z : State) (a0 : Array Value) (hw : ∀ d ∈ tables_1, d.before a0 Z = true) (ws : List Jvm.Cond) (xm : Addr) (xt : Addr) (xq : ClassId) (x1 : Addr) (xy : Addr) (xv : Addr) (h0 : Heap) (n0 : Nat) (O0 : Old Z n0 h0) (P0 : Exa Z h0 xm "java/util/HashMap") (P1 : n0 ≤ xm) (P2 : n0 ≤ xt) (P3 : @LT.lt Nat _ xm xt) (P4 : Fld Z h0 xm "java/util/HashMap" "size" "I" (.int 1)) (P5 : Fld Z h0 xm "java/util/HashMap" "modCount" "I" (.int 1)) (P6 : Fld Z h0 xm "java/util/HashMap" "threshold" "I" (.int 12)) (P7 : Fld Z h0 xm "java/util/HashMap" "table" "[Ljava/util/HashMap$Node;" (.ref xt)) (P8 : Fld Z h0 xm "java/util/AbstractMap" "values" "Ljava/util/Collection;" .null) (P9 : Arv Z h0 xt xq (.object "java/util/HashMap$Node") (16 : Int32) [.null, .ref x1, .null, .null, .null, .null, .null, .null, .null, .null, .null, .null, .null, .null, .null, .null] .null) (P10 : Ovr Z xq "java/util/HashMap$Node") : own_Met l Z (⟨"java/util/HashMap", "putVal", "(ILjava/lang/Object;Ljava/lang/Object;ZZ)Ljava/lang/Object;"⟩ : MethodName) jdk_69_method_16_code 13 (some (.object "java/lang/Object")) ws ({ frames := 3, cells := 1, slots := 4, locals := 47 } : Room) #[.ref xm, .int 98, .ref xy, .ref xv, .int 0, .int 1] h0 (Q_own_putVal1 Z xm xt xq x1 xy xv h0 n0) := by
  refine own_mk (plainFor_of_name own_pn_java_util_HashMap) O0 ?_
  intro p e s m below meth c s₁ hx hby hml hZ hown hnm hlk hret X0 e0 N0 z0 z1
  have K0 : Keep h0 h0 [xm, xt] := Keep.refl _ _
  refine own_cast (own_ef_own_putVal1 m xm xy xv) ?_
  show own_Goes p e below (s₁.setTop (mkF m 0 #[vR xm, vI 98, vR xy, vR xv, vI 0, vI 1, uS, uS, uS, uS, uS, uS, uS] [])) _
  have ltP0 : @LT.lt Nat _ xm h0.size := P0.lt
  have ltP9 : @LT.lt Nat _ xt h0.size := P9.lt
  refine q_aloadN X0 hx hby d17_0 rfl rfl ?_
  refine qG X0 hx hby hZ hown (wh hw 108 rfl) e0 P7 d17_1 (fun T1 X1 e1 => ?_)
  refine q_dup X1 hx hby d17_4 rfl ?_
  refine q_astore X1 hx hby d17_5 rfl (l' := #[vR xm, vI 98, vR xy, vR xv, vI 0, vI 1, vR xt, uS, uS, uS, uS, uS, uS]) rfl ?_
  refine q_ifnullNo X1 hx hby d17_7 ?_
  refine q_aload X1 hx hby d17_10 rfl rfl ?_
  refine q_len X1 hx hby hZ e1 P9 d17_12 ?_
  refine q_dup X1 hx hby d17_13 rfl ?_
  refine q_istore X1 hx hby d17_14 (l' := #[vR xm, vI 98, vR xy, vR xv, vI 0, vI 1, vR xt, uS, vI 16, uS, uS, uS, uS]) rfl ?_
  refine q_ifYes (pc := 16) X1 hx hby d17_16 (pc' := 29) ((if0 _ _).trans (feq (show ¬ ((16 : Int32) = (0 : Int32)) from by decide)).2) (by decide) (by decide) ?_
  refine q_aload X1 hx hby d17_29 rfl rfl ?_
  refine q_iload X1 hx hby d17_31 rfl ?_
  refine q_iconst X1 hx hby d17_33 ?_
  refine q_isub X1 hx hby d17_34 ?_
  show own_Goes p e below (T1.setTop (mkF m 35 #[vR xm, vI 98, vR xy, vR xv, vI 0, vI 1, vR xt, uS, vI 16, uS, uS, uS, uS] [(.int ((16 : Int32) - (1 : Int32))), .ref xt])) _
  rw [show ((16 : Int32) - (1 : Int32)) = (15 : Int32) from by decide]
  refine q_iloadN X1 hx hby d17_35 rfl ?_
  refine q_iand X1 hx hby d17_36 ?_
  show own_Goes p e below (T1.setTop (mkF m 37 #[vR xm, vI 98, vR xy, vR xv, vI 0, vI 1, vR xt, uS, vI 16, uS, uS, uS, uS] [(.int ((15 : Int32) &&& (98 : Int32))), .ref xt])) _
  rw [show ((15 : Int32) &&& (98 : Int32)) = (2 : Int32) from by decide]
  refine q_dup X1 hx hby d17_37 rfl ?_
  refine q_istore X1 hx hby d17_38 (l' := #[vR xm, vI 98, vR xy, vR xv, vI 0, vI 1, vR xt, uS, vI 16, vI 2, uS, uS, uS]) rfl ?_
  refine q_aaload X1 hx hby hZ e1 P9 d17_40 .null ?_
  refine q_dup X1 hx hby d17_41 rfl ?_
  refine q_astore X1 hx hby d17_42 rfl (l' := #[vR xm, vI 98, vR xy, vR xv, vI 0, vI 1, vR xt, vN, vI 16, vI 2, uS, uS, uS]) rfl ?_
  refine gg (fun t k => XS.ifnonnullNo X1.here hx rfl (hb hby d17_44) rfl k) ?_
  refine q_aload X1 hx hby d17_47 rfl rfl ?_
  refine q_iload X1 hx hby d17_49 rfl ?_
  refine q_aloadN X1 hx hby d17_51 rfl rfl ?_
  refine q_iloadN X1 hx hby d17_52 rfl ?_
  refine q_aloadN X1 hx hby d17_53 rfl rfl ?_
  refine q_aloadN X1 hx hby d17_54 rfl rfl ?_
  refine q_aconstNull X1 hx hby d17_55 ?_
  refine k_V X1 hx hby hZ hown (wh hw 119 rfl) (wh hw 120 rfl) (wh hw 122 rfl) (wh hw 121 rfl) (W := 2) (own_newNode l Z a0 hw [] xm (98 : Int32) xy xv h0 n0 O0) (wh hw 123 rfl) (wh hw 28 rfl) e1 P0  hml (argsL := [.int 98, .ref xy, .ref xv, .null]) (rest := [.int 2, .ref xt]) own_pd_9 d17_56 (fun _ T4 L4 X4 hQ4 => ?_)
  obtain ⟨h4, e4⟩ : ∃ z, T4.heap = z := ⟨_, rfl⟩
  rw [e4] at hQ4
  obtain ⟨Nc4, Kc4, r_4, rfl, c4_0, c4_1, c4_2, c4_3⟩ := hQ4
  have N4 := Fr.app N0 Nc4
  have O5 := O0.keep Kc4 all0
  have sz6 : h0.size ≤ h4.size := Kc4.1
  have K7 := Keep.trans K0 Kc4 all0
  have ltc4_0 : @LT.lt Nat _ r_4 h4.size := c4_0.lt
  show own_Goes p e below (T4.setTop (mkF m 59 #[vR xm, vI 98, vR xy, vR xv, vI 0, vI 1, vR xt, vN, vI 16, vI 2, uS, uS, uS] [.ref r_4, .int 2, .ref xt])) _
  have f8 := (P9.keep Kc4 nin0)
  obtain ⟨clu9, Aru9, qu9, Szu9, Ngu9, Hsu9, Gsu9⟩ := id f8
  have inu9 : ¬ ((2 : Int32) < 0 ∨ clu9.slots.size ≤ ((2 : Int32)).toNatClampNeg) := inb_of Szu9 ⟨by decide, by decide⟩
  obtain ⟨T10, h10, X10, e10, W10, st10⟩ := stR X4 hx hZ e4 Aru9 (j := (2 : Int32)) inu9 rfl (Sto.ofV Aru9 qu9 P10 (Ins.self c4_0)) (g := (mkF m 59 #[vR xm, vI 98, vR xy, vR xv, vI 0, vI 1, vR xt, vN, vI 16, vI 2, uS, uS, uS] [.ref r_4, .int 2, .ref xt])) rfl rfl (hb hby d17_59)
  refine gg st10 ?_
  have V10 := Arv.set Aru9 qu9 Szu9 Ngu9 Hsu9 Gsu9 rfl W10 2 rfl (Nat.le_of_ble_eq_true rfl)
  have O11 := O5.wr W10 (show n0 ≤ xt by omega)
  have sz12 : h10.size = h4.size := Wr.size W10
  have K13 := K7.wr W10 (Or.inl (List.mem_of_getElem? (i := 1) rfl))
  have N10 := Fr.snoc X10 N4 (show n0 ≤ xt by omega)
  have V10 : Arv Z h10 xt xq (.object "java/util/HashMap$Node") (16 : Int32) [.null, .ref x1, .ref r_4, .null, .null, .null, .null, .null, .null, .null, .null, .null, .null, .null, .null, .null] .null := V10
  refine q_goto (pc := 60) X10 hx hby d17_60 (pc' := 259) (by decide) (by decide) ?_
  refine q_aloadN X10 hx hby d17_259 rfl rfl ?_
  refine q_dup X10 hx hby d17_260 rfl ?_
  have f14 := ((P5.keep Kc4 nin0).other W10 (Or.inl (nE xm xt (by omega))))
  refine qG X10 hx hby hZ hown (wh hw 139 rfl) e10 f14 d17_261 (fun T15 X15 e15 => ?_)
  refine q_iconst X15 hx hby d17_264 ?_
  refine q_iadd X15 hx hby d17_265 ?_
  show own_Goes p e below (T15.setTop (mkF m 266 #[vR xm, vI 98, vR xy, vR xv, vI 0, vI 1, vR xt, vN, vI 16, vI 2, uS, uS, uS] [(.int ((1 : Int32) + (1 : Int32))), .ref xm])) _
  rw [show ((1 : Int32) + (1 : Int32)) = (2 : Int32) from by decide]
  have f16 := ((P0.keep Kc4).wr W10)
  refine qP X15 hx hby hZ hown (host := "") (Or.inl (wh hw 139 rfl)) Via.refl e15 f14 f16 (Or.inl (wh hw 140 rfl)) (wh hw 27 rfl) (ty := .int) d17_266 (fun T17 h17 X17 e17 W17 => ?_)
  have O18 := O11.wr W17 (show n0 ≤ xm by omega)
  have sz19 : h17.size = h10.size := Wr.size W17
  have K20 := K13.wr W17 (Or.inl (List.mem_of_getElem? (i := 0) rfl))
  have N17 := Fr.snoc X17 N10 (show n0 ≤ xm by omega)
  have Fw17 := f14.same W17
  refine q_aloadN X17 hx hby d17_269 rfl rfl ?_
  refine q_dup X17 hx hby d17_270 rfl ?_
  have f21 := (((P4.keep Kc4 nin0).other W10 (Or.inl (nE xm xt (by omega)))).other W17 (Or.inr (slot_ne (Or.inl (wh hw 142 rfl)) (Or.inl (wh hw 140 rfl)) (by decide) (t := .int) (t' := .int) (by decide) (by decide))))
  refine qG X17 hx hby hZ hown (wh hw 141 rfl) e17 f21 d17_271 (fun T22 X22 e22 => ?_)
  refine q_iconst X22 hx hby d17_274 ?_
  refine q_iadd X22 hx hby d17_275 ?_
  show own_Goes p e below (T22.setTop (mkF m 276 #[vR xm, vI 98, vR xy, vR xv, vI 0, vI 1, vR xt, vN, vI 16, vI 2, uS, uS, uS] [(.int ((1 : Int32) + (1 : Int32))), .ref xm])) _
  rw [show ((1 : Int32) + (1 : Int32)) = (2 : Int32) from by decide]
  refine gg (fun t k => XS.dupX1 X22.here hx rfl (hb hby d17_276) rfl rfl rfl k) ?_
  have f23 := (f16.wr W17)
  refine qP X22 hx hby hZ hown (host := "") (Or.inl (wh hw 141 rfl)) Via.refl e22 f21 f23 (Or.inl (wh hw 142 rfl)) (wh hw 27 rfl) (ty := .int) d17_277 (fun T24 h24 X24 e24 W24 => ?_)
  have O25 := O18.wr W24 (show n0 ≤ xm by omega)
  have sz26 : h24.size = h17.size := Wr.size W24
  have K27 := K20.wr W24 (Or.inl (List.mem_of_getElem? (i := 0) rfl))
  have N24 := Fr.snoc X24 N17 (show n0 ≤ xm by omega)
  have Fw24 := f21.same W24
  refine q_aloadN X24 hx hby d17_280 rfl rfl ?_
  have f28 := ((((P6.keep Kc4 nin0).other W10 (Or.inl (nE xm xt (by omega)))).other W17 (Or.inr (slot_ne (Or.inl (wh hw 116 rfl)) (Or.inl (wh hw 140 rfl)) (by decide) (t := .int) (t' := .int) (by decide) (by decide)))).other W24 (Or.inr (slot_ne (Or.inl (wh hw 116 rfl)) (Or.inl (wh hw 142 rfl)) (by decide) (t := .int) (t' := .int) (by decide) (by decide))))
  refine qG X24 hx hby hZ hown (wh hw 115 rfl) e24 f28 d17_281 (fun T29 X29 e29 => ?_)
  refine q_icmpYes (pc := 284) X29 hx hby d17_284 (pc' := 292) (flt (show ¬ ((12 : Int32) < (2 : Int32)) from by decide)).2.2.2 (by decide) (by decide) ?_
  refine q_aloadN X29 hx hby d17_292 rfl rfl ?_
  refine q_iload X29 hx hby d17_293 rfl ?_
  have f30 := (f23.wr W24)
  refine k_V X29 hx hby hZ hown (wh hw 143 rfl) (wh hw 144 rfl) (wh hw 146 rfl) (wh hw 145 rfl) (W := 0) (own_after l Z a0 hw [] xm h24 n0 O25) (wh hw 147 rfl) (wh hw 28 rfl) e29 f30  hml (argsL := [.int 1]) (rest := []) own_pd_10 d17_295 (fun _ T31 L31 X31 hQ31 => ?_)
  obtain ⟨Nc31, e31, rfl⟩ := hQ31
  have N31 := Fr.app N24 Nc31
  refine q_aconstNull X31 hx hby d17_298 ?_
  refine r_R X31 hx hby hret hlk d17_299 e31 ?_
  have f32 := (Fw17.other W24 (Or.inr (slot_ne (Or.inl (wh hw 140 rfl)) (Or.inl (wh hw 142 rfl)) (by decide) (t := .int) (t' := .int) (by decide) (by decide))))
  have f33 := ((((P7.keep Kc4 nin0).other W10 (Or.inl (nE xm xt (by omega)))).other W17 (Or.inr (slot_ne (Or.inl (wh hw 109 rfl)) (Or.inl (wh hw 140 rfl)) (by decide) (t := (.array (.object "java/util/HashMap$Node"))) (t' := .int) (by decide) (by decide)))).other W24 (Or.inr (slot_ne (Or.inl (wh hw 109 rfl)) (Or.inl (wh hw 142 rfl)) (by decide) (t := (.array (.object "java/util/HashMap$Node"))) (t' := .int) (by decide) (by decide))))
  have f34 := ((((P8.keep Kc4 nin0).other W10 (Or.inl (nE xm xt (by omega)))).other W17 (Or.inr (slot_ne (Or.inl (wh hw 190 rfl)) (Or.inl (wh hw 140 rfl)) (by decide) (t := (.object "java/util/Collection")) (t' := .int) (by decide) (by decide)))).other W24 (Or.inr (slot_ne (Or.inl (wh hw 190 rfl)) (Or.inl (wh hw 142 rfl)) (by decide) (t := (.object "java/util/Collection")) (t' := .int) (by decide) (by decide))))
  have f35 := ((V10.other W17 (nE xt xm (by omega))).other W24 (nE xt xm (by omega)))
  have f36 := (((c4_0.wr W10).wr W17).wr W24)
  have f37 := (((c4_1.other W10 (Or.inl (nE r_4 xt (by omega)))).other W17 (Or.inl (nE r_4 xm (by omega)))).other W24 (Or.inl (nE r_4 xm (by omega))))
  have f38 := (((c4_2.other W10 (Or.inl (nE r_4 xt (by omega)))).other W17 (Or.inl (nE r_4 xm (by omega)))).other W24 (Or.inl (nE r_4 xm (by omega))))
  exact ⟨N31, K27, r_4, rfl, Fw24, f32, f28, f33, f34, f35, f36, f37, f38, (show h0.size ≤ r_4 by first | assumption | omega | decide)⟩
theorem own_ef_own_put1 (m : MethodId) (xm : Addr) (xa : Addr) (xv : Addr) : entryFrame m #[.ref xm, .ref xa, .ref xv] 3 = mkF m 0 #[vR xm, vR xa, vR xv] [] := by first | (simp [entryFrame, mkF, argsToLocals, Value.category]; done) | rfl
def Q_own_put1 (Z : State) (xm : Addr) (xt : Addr) (xq : ClassId) (x1 : Addr) (xa : Addr) (xb : Addr) (xk : ClassId) (xv : Addr) (gwD : Addr) (gz : Int32) (gwc : Addr) (gcl : Cell) (h0 : Heap) (n0 : Nat) (v : Option Value) (h : Heap) (L : List Loc) : Prop := Fr n0 L ∧ Keep h0 h [xm, xt, xa] ∧ ∃ (r : Addr), v = some .null ∧ Fld Z h xm "java/util/HashMap" "size" "I" (.int 2) ∧ Fld Z h xm "java/util/HashMap" "modCount" "I" (.int 2) ∧ Fld Z h xm "java/util/HashMap" "threshold" "I" (.int 12) ∧ Fld Z h xm "java/util/HashMap" "table" "[Ljava/util/HashMap$Node;" (.ref xt) ∧ Fld Z h xm "java/util/AbstractMap" "values" "Ljava/util/Collection;" .null ∧ Arv Z h xt xq (.object "java/util/HashMap$Node") (16 : Int32) [.null, .ref x1, .ref r, .null, .null, .null, .null, .null, .null, .null, .null, .null, .null, .null, .null, .null] .null ∧ Exa Z h r "java/util/HashMap$Node" ∧ Fld Z h r "java/util/HashMap$Node" "value" "Ljava/lang/Object;" (.ref xv) ∧ Fld Z h r "java/util/HashMap$Node" "next" "Ljava/util/HashMap$Node;" .null ∧ h0.size ≤ r
theorem own_put1 (l : Launch) (Z : State) (a0 : Array Value) (hw : ∀ d ∈ tables_1, d.before a0 Z = true) (ws : List Jvm.Cond) (xm : Addr) (xt : Addr) (xq : ClassId) (x1 : Addr) (xa : Addr) (xb : Addr) (xk : ClassId) (xv : Addr) (h0 : Heap) (n0 : Nat) (O0 : Old Z n0 h0) (gwD : Addr) (gz : Int32) (gwc : Addr) (gcl : Cell) (G : GG Z gwD gz gwc gcl) (P0 : Exa Z h0 xm "java/util/HashMap") (P1 : n0 ≤ xm) (P2 : n0 ≤ xt) (P3 : @LT.lt Nat _ xm xt) (P4 : Fld Z h0 xm "java/util/HashMap" "size" "I" (.int 1)) (P5 : Fld Z h0 xm "java/util/HashMap" "modCount" "I" (.int 1)) (P6 : Fld Z h0 xm "java/util/HashMap" "threshold" "I" (.int 12)) (P7 : Fld Z h0 xm "java/util/HashMap" "table" "[Ljava/util/HashMap$Node;" (.ref xt)) (P8 : Fld Z h0 xm "java/util/AbstractMap" "values" "Ljava/util/Collection;" .null) (P9 : Arv Z h0 xt xq (.object "java/util/HashMap$Node") (16 : Int32) [.null, .ref x1, .null, .null, .null, .null, .null, .null, .null, .null, .null, .null, .null, .null, .null, .null] .null) (P10 : Ovr Z xq "java/util/HashMap$Node") (P11 : Exa Z h0 xa "java/lang/String") (P12 : Fld Z h0 xa "java/lang/String" "value" "[B" (.ref xb)) (P13 : Fld Z h0 xa "java/lang/String" "coder" "B" (.int 0)) (P14 : Fld Z h0 xa "java/lang/String" "hash" "I" (.int 0)) (P15 : Fld Z h0 xa "java/lang/String" "hashIsZero" "Z" (.int 0)) (P16 : Arv Z h0 xb xk .byte (1 : Int32) [.int 98] (.int 0)) (P17 : n0 ≤ xa) (P18 : @LT.lt Nat _ xt xa) (P19 : @LT.lt Nat _ xa xb) : own_Met l Z (⟨"java/util/HashMap", "put", "(Ljava/lang/Object;Ljava/lang/Object;)Ljava/lang/Object;"⟩ : MethodName) jdk_69_method_15_code 3 (some (.object "java/lang/Object")) ws ({ frames := 4, cells := 1, slots := 4, locals := 71 } : Room) #[.ref xm, .ref xa, .ref xv] h0 (Q_own_put1 Z xm xt xq x1 xa xb xk xv gwD gz gwc gcl h0 n0) := by
  refine own_mk (plainFor_of_name own_pn_java_util_HashMap) O0 ?_
  intro p e s m below meth c s₁ hx hby hml hZ hown hnm hlk hret X0 e0 N0 z0 z1
  have K0 : Keep h0 h0 [xm, xt, xa] := Keep.refl _ _
  refine own_cast (own_ef_own_put1 m xm xa xv) ?_
  show own_Goes p e below (s₁.setTop (mkF m 0 #[vR xm, vR xa, vR xv] [])) _
  obtain ⟨G0, G1, G2, G3, G4, G5, G6⟩ := id G
  have ltG1 : @LT.lt Nat _ gwD Z.heap.size := G1.lt
  have ltP0 : @LT.lt Nat _ xm h0.size := P0.lt
  have ltP9 : @LT.lt Nat _ xt h0.size := P9.lt
  have ltP11 : @LT.lt Nat _ xa h0.size := P11.lt
  have ltP16 : @LT.lt Nat _ xb h0.size := P16.lt
  refine q_aloadN X0 hx hby d12_0 rfl rfl ?_
  refine q_aloadN X0 hx hby d12_1 rfl rfl ?_
  refine k_S X0 hx hby hZ hown (wh hw 82 rfl) (wh hw 83 rfl) (W := 1) (own_hash l Z a0 hw [] (98 : Int32) xa xb xk h0 n0 O0 gwD gz gwc gcl G (show own_chr (98 : Int32) from (by first | assumption | exact own_chr97 | exact own_chr98 | exact own_chr99)) P11 P12 P13 P14 P15 P16 (show n0 ≤ xa by first | assumption | omega | decide)) (wh hw 84 rfl) (wh hw 28 rfl) e0  hml (argsL := [.ref xa]) (rest := [.ref xm]) own_pd_11 d12_2 (fun _ T1 L1 X1 hQ1 => ?_)
  obtain ⟨h1, e1⟩ : ∃ z, T1.heap = z := ⟨_, rfl⟩
  rw [e1] at hQ1
  obtain ⟨Nc1, Kc1, rfl⟩ := hQ1
  have N1 := Fr.app N0 Nc1
  have O2 := O0.keep Kc1 (allS (show n0 ≤ xa by omega) all0)
  have sz3 : h0.size ≤ h1.size := Kc1.1
  have K4 := Keep.trans K0 Kc1 (allS (Or.inl (List.mem_of_getElem? (i := 2) rfl)) all0)
  refine q_aloadN X1 hx hby d12_5 rfl rfl ?_
  refine q_aloadN X1 hx hby d12_6 rfl rfl ?_
  refine q_iconst X1 hx hby d12_7 ?_
  refine q_iconst X1 hx hby d12_8 ?_
  have f5 := (P0.keep Kc1)
  have f6 := (P4.keep Kc1 (ninS (nE xm xa (by omega)) nin0))
  have f7 := (P5.keep Kc1 (ninS (nE xm xa (by omega)) nin0))
  have f8 := (P6.keep Kc1 (ninS (nE xm xa (by omega)) nin0))
  have f9 := (P7.keep Kc1 (ninS (nE xm xa (by omega)) nin0))
  have f10 := (P8.keep Kc1 (ninS (nE xm xa (by omega)) nin0))
  have f11 := (P9.keep Kc1 (ninS (nE xt xa (by omega)) nin0))
  refine k_V X1 hx hby hZ hown (wh hw 103 rfl) (wh hw 104 rfl) (wh hw 106 rfl) (wh hw 105 rfl) (W := 0) (own_putVal1 l Z a0 hw [] xm xt xq x1 xa xv h1 n0 O2 f5 (show n0 ≤ xm by first | assumption | omega | decide) (show n0 ≤ xt by first | assumption | omega | decide) (show @LT.lt Nat _ xm xt by first | assumption | omega | decide) f6 f7 f8 f9 f10 f11 (show Ovr Z xq "java/util/HashMap$Node" by first | assumption | omega | decide)) (wh hw 107 rfl) (wh hw 28 rfl) e1 f5  hml (argsL := [.int 98, .ref xa, .ref xv, .int 0, .int 1]) (rest := []) own_pd_12 d12_9 (fun _ T12 L12 X12 hQ12 => ?_)
  obtain ⟨h12, e12⟩ : ∃ z, T12.heap = z := ⟨_, rfl⟩
  rw [e12] at hQ12
  obtain ⟨Nc12, Kc12, r_12, rfl, c12_0, c12_1, c12_2, c12_3, c12_4, c12_5, c12_6, c12_7, c12_8, c12_9⟩ := hQ12
  have N12 := Fr.app N1 Nc12
  have O13 := O2.keep Kc12 (allS (show n0 ≤ xm by omega) (allS (show n0 ≤ xt by omega) all0))
  have sz14 : h1.size ≤ h12.size := Kc12.1
  have K15 := Keep.trans K4 Kc12 (allS (Or.inl (List.mem_of_getElem? (i := 0) rfl)) (allS (Or.inl (List.mem_of_getElem? (i := 1) rfl)) all0))
  have ltc12_5 : @LT.lt Nat _ xt h12.size := c12_5.lt
  have ltc12_6 : @LT.lt Nat _ r_12 h12.size := c12_6.lt
  refine r_R X12 hx hby hret hlk d12_12 e12 ?_
  exact ⟨N12, K15, r_12, rfl, c12_0, c12_1, c12_2, c12_3, c12_4, c12_5, c12_6, c12_7, c12_8, (show h0.size ≤ r_12 by first | assumption | omega | decide)⟩
theorem own_ef_own_putVal2 (m : MethodId) (xm : Addr) (xy : Addr) (xv : Addr) : entryFrame m #[.ref xm, .int 99, .ref xy, .ref xv, .int 0, .int 1] 13 = mkF m 0 #[vR xm, vI 99, vR xy, vR xv, vI 0, vI 1, uS, uS, uS, uS, uS, uS, uS] [] := by first | (simp [entryFrame, mkF, argsToLocals, Value.category]; done) | rfl
def Q_own_putVal2 (Z : State) (xm : Addr) (xt : Addr) (xq : ClassId) (x1 : Addr) (x2 : Addr) (xy : Addr) (xv : Addr) (h0 : Heap) (n0 : Nat) (v : Option Value) (h : Heap) (L : List Loc) : Prop := Fr n0 L ∧ Keep h0 h [xm, xt] ∧ ∃ (r : Addr), v = some .null ∧ Fld Z h xm "java/util/HashMap" "size" "I" (.int 3) ∧ Fld Z h xm "java/util/HashMap" "modCount" "I" (.int 3) ∧ Fld Z h xm "java/util/HashMap" "threshold" "I" (.int 12) ∧ Fld Z h xm "java/util/HashMap" "table" "[Ljava/util/HashMap$Node;" (.ref xt) ∧ Fld Z h xm "java/util/AbstractMap" "values" "Ljava/util/Collection;" .null ∧ Arv Z h xt xq (.object "java/util/HashMap$Node") (16 : Int32) [.null, .ref x1, .ref x2, .ref r, .null, .null, .null, .null, .null, .null, .null, .null, .null, .null, .null, .null] .null ∧ Exa Z h r "java/util/HashMap$Node" ∧ Fld Z h r "java/util/HashMap$Node" "value" "Ljava/lang/Object;" (.ref xv) ∧ Fld Z h r "java/util/HashMap$Node" "next" "Ljava/util/HashMap$Node;" .null ∧ h0.size ≤ r
theorem own_putVal2 (l : Launch) (Z : State) (a0 : Array Value) (hw : ∀ d ∈ tables_1, d.before a0 Z = true) (ws : List Jvm.Cond) (xm : Addr) (xt : Addr) (xq : ClassId) (x1 : Addr) (x2 : Addr) (xy : Addr) (xv : Addr) (h0 : Heap) (n0 : Nat) (O0 : Old Z n0 h0) (P0 : Exa Z h0 xm "java/util/HashMap") (P1 : n0 ≤ xm) (P2 : n0 ≤ xt) (P3 : @LT.lt Nat _ xm xt) (P4 : Fld Z h0 xm "java/util/HashMap" "size" "I" (.int 2)) (P5 : Fld Z h0 xm "java/util/HashMap" "modCount" "I" (.int 2)) (P6 : Fld Z h0 xm "java/util/HashMap" "threshold" "I" (.int 12)) (P7 : Fld Z h0 xm "java/util/HashMap" "table" "[Ljava/util/HashMap$Node;" (.ref xt)) (P8 : Fld Z h0 xm "java/util/AbstractMap" "values" "Ljava/util/Collection;" .null) (P9 : Arv Z h0 xt xq (.object "java/util/HashMap$Node") (16 : Int32) [.null, .ref x1, .ref x2, .null, .null, .null, .null, .null, .null, .null, .null, .null, .null, .null, .null, .null] .null) (P10 : Ovr Z xq "java/util/HashMap$Node") : own_Met l Z (⟨"java/util/HashMap", "putVal", "(ILjava/lang/Object;Ljava/lang/Object;ZZ)Ljava/lang/Object;"⟩ : MethodName) jdk_69_method_16_code 13 (some (.object "java/lang/Object")) ws ({ frames := 3, cells := 1, slots := 4, locals := 47 } : Room) #[.ref xm, .int 99, .ref xy, .ref xv, .int 0, .int 1] h0 (Q_own_putVal2 Z xm xt xq x1 x2 xy xv h0 n0) := by
  refine own_mk (plainFor_of_name own_pn_java_util_HashMap) O0 ?_
  intro p e s m below meth c s₁ hx hby hml hZ hown hnm hlk hret X0 e0 N0 z0 z1
  have K0 : Keep h0 h0 [xm, xt] := Keep.refl _ _
  refine own_cast (own_ef_own_putVal2 m xm xy xv) ?_
  show own_Goes p e below (s₁.setTop (mkF m 0 #[vR xm, vI 99, vR xy, vR xv, vI 0, vI 1, uS, uS, uS, uS, uS, uS, uS] [])) _
  have ltP0 : @LT.lt Nat _ xm h0.size := P0.lt
  have ltP9 : @LT.lt Nat _ xt h0.size := P9.lt
  refine q_aloadN X0 hx hby d17_0 rfl rfl ?_
  refine qG X0 hx hby hZ hown (wh hw 108 rfl) e0 P7 d17_1 (fun T1 X1 e1 => ?_)
  refine q_dup X1 hx hby d17_4 rfl ?_
  refine q_astore X1 hx hby d17_5 rfl (l' := #[vR xm, vI 99, vR xy, vR xv, vI 0, vI 1, vR xt, uS, uS, uS, uS, uS, uS]) rfl ?_
  refine q_ifnullNo X1 hx hby d17_7 ?_
  refine q_aload X1 hx hby d17_10 rfl rfl ?_
  refine q_len X1 hx hby hZ e1 P9 d17_12 ?_
  refine q_dup X1 hx hby d17_13 rfl ?_
  refine q_istore X1 hx hby d17_14 (l' := #[vR xm, vI 99, vR xy, vR xv, vI 0, vI 1, vR xt, uS, vI 16, uS, uS, uS, uS]) rfl ?_
  refine q_ifYes (pc := 16) X1 hx hby d17_16 (pc' := 29) ((if0 _ _).trans (feq (show ¬ ((16 : Int32) = (0 : Int32)) from by decide)).2) (by decide) (by decide) ?_
  refine q_aload X1 hx hby d17_29 rfl rfl ?_
  refine q_iload X1 hx hby d17_31 rfl ?_
  refine q_iconst X1 hx hby d17_33 ?_
  refine q_isub X1 hx hby d17_34 ?_
  show own_Goes p e below (T1.setTop (mkF m 35 #[vR xm, vI 99, vR xy, vR xv, vI 0, vI 1, vR xt, uS, vI 16, uS, uS, uS, uS] [(.int ((16 : Int32) - (1 : Int32))), .ref xt])) _
  rw [show ((16 : Int32) - (1 : Int32)) = (15 : Int32) from by decide]
  refine q_iloadN X1 hx hby d17_35 rfl ?_
  refine q_iand X1 hx hby d17_36 ?_
  show own_Goes p e below (T1.setTop (mkF m 37 #[vR xm, vI 99, vR xy, vR xv, vI 0, vI 1, vR xt, uS, vI 16, uS, uS, uS, uS] [(.int ((15 : Int32) &&& (99 : Int32))), .ref xt])) _
  rw [show ((15 : Int32) &&& (99 : Int32)) = (3 : Int32) from by decide]
  refine q_dup X1 hx hby d17_37 rfl ?_
  refine q_istore X1 hx hby d17_38 (l' := #[vR xm, vI 99, vR xy, vR xv, vI 0, vI 1, vR xt, uS, vI 16, vI 3, uS, uS, uS]) rfl ?_
  refine q_aaload X1 hx hby hZ e1 P9 d17_40 .null ?_
  refine q_dup X1 hx hby d17_41 rfl ?_
  refine q_astore X1 hx hby d17_42 rfl (l' := #[vR xm, vI 99, vR xy, vR xv, vI 0, vI 1, vR xt, vN, vI 16, vI 3, uS, uS, uS]) rfl ?_
  refine gg (fun t k => XS.ifnonnullNo X1.here hx rfl (hb hby d17_44) rfl k) ?_
  refine q_aload X1 hx hby d17_47 rfl rfl ?_
  refine q_iload X1 hx hby d17_49 rfl ?_
  refine q_aloadN X1 hx hby d17_51 rfl rfl ?_
  refine q_iloadN X1 hx hby d17_52 rfl ?_
  refine q_aloadN X1 hx hby d17_53 rfl rfl ?_
  refine q_aloadN X1 hx hby d17_54 rfl rfl ?_
  refine q_aconstNull X1 hx hby d17_55 ?_
  refine k_V X1 hx hby hZ hown (wh hw 119 rfl) (wh hw 120 rfl) (wh hw 122 rfl) (wh hw 121 rfl) (W := 2) (own_newNode l Z a0 hw [] xm (99 : Int32) xy xv h0 n0 O0) (wh hw 123 rfl) (wh hw 28 rfl) e1 P0  hml (argsL := [.int 99, .ref xy, .ref xv, .null]) (rest := [.int 3, .ref xt]) own_pd_9 d17_56 (fun _ T4 L4 X4 hQ4 => ?_)
  obtain ⟨h4, e4⟩ : ∃ z, T4.heap = z := ⟨_, rfl⟩
  rw [e4] at hQ4
  obtain ⟨Nc4, Kc4, r_4, rfl, c4_0, c4_1, c4_2, c4_3⟩ := hQ4
  have N4 := Fr.app N0 Nc4
  have O5 := O0.keep Kc4 all0
  have sz6 : h0.size ≤ h4.size := Kc4.1
  have K7 := Keep.trans K0 Kc4 all0
  have ltc4_0 : @LT.lt Nat _ r_4 h4.size := c4_0.lt
  show own_Goes p e below (T4.setTop (mkF m 59 #[vR xm, vI 99, vR xy, vR xv, vI 0, vI 1, vR xt, vN, vI 16, vI 3, uS, uS, uS] [.ref r_4, .int 3, .ref xt])) _
  have f8 := (P9.keep Kc4 nin0)
  obtain ⟨clu9, Aru9, qu9, Szu9, Ngu9, Hsu9, Gsu9⟩ := id f8
  have inu9 : ¬ ((3 : Int32) < 0 ∨ clu9.slots.size ≤ ((3 : Int32)).toNatClampNeg) := inb_of Szu9 ⟨by decide, by decide⟩
  obtain ⟨T10, h10, X10, e10, W10, st10⟩ := stR X4 hx hZ e4 Aru9 (j := (3 : Int32)) inu9 rfl (Sto.ofV Aru9 qu9 P10 (Ins.self c4_0)) (g := (mkF m 59 #[vR xm, vI 99, vR xy, vR xv, vI 0, vI 1, vR xt, vN, vI 16, vI 3, uS, uS, uS] [.ref r_4, .int 3, .ref xt])) rfl rfl (hb hby d17_59)
  refine gg st10 ?_
  have V10 := Arv.set Aru9 qu9 Szu9 Ngu9 Hsu9 Gsu9 rfl W10 3 rfl (Nat.le_of_ble_eq_true rfl)
  have O11 := O5.wr W10 (show n0 ≤ xt by omega)
  have sz12 : h10.size = h4.size := Wr.size W10
  have K13 := K7.wr W10 (Or.inl (List.mem_of_getElem? (i := 1) rfl))
  have N10 := Fr.snoc X10 N4 (show n0 ≤ xt by omega)
  have V10 : Arv Z h10 xt xq (.object "java/util/HashMap$Node") (16 : Int32) [.null, .ref x1, .ref x2, .ref r_4, .null, .null, .null, .null, .null, .null, .null, .null, .null, .null, .null, .null] .null := V10
  refine q_goto (pc := 60) X10 hx hby d17_60 (pc' := 259) (by decide) (by decide) ?_
  refine q_aloadN X10 hx hby d17_259 rfl rfl ?_
  refine q_dup X10 hx hby d17_260 rfl ?_
  have f14 := ((P5.keep Kc4 nin0).other W10 (Or.inl (nE xm xt (by omega))))
  refine qG X10 hx hby hZ hown (wh hw 139 rfl) e10 f14 d17_261 (fun T15 X15 e15 => ?_)
  refine q_iconst X15 hx hby d17_264 ?_
  refine q_iadd X15 hx hby d17_265 ?_
  show own_Goes p e below (T15.setTop (mkF m 266 #[vR xm, vI 99, vR xy, vR xv, vI 0, vI 1, vR xt, vN, vI 16, vI 3, uS, uS, uS] [(.int ((2 : Int32) + (1 : Int32))), .ref xm])) _
  rw [show ((2 : Int32) + (1 : Int32)) = (3 : Int32) from by decide]
  have f16 := ((P0.keep Kc4).wr W10)
  refine qP X15 hx hby hZ hown (host := "") (Or.inl (wh hw 139 rfl)) Via.refl e15 f14 f16 (Or.inl (wh hw 140 rfl)) (wh hw 27 rfl) (ty := .int) d17_266 (fun T17 h17 X17 e17 W17 => ?_)
  have O18 := O11.wr W17 (show n0 ≤ xm by omega)
  have sz19 : h17.size = h10.size := Wr.size W17
  have K20 := K13.wr W17 (Or.inl (List.mem_of_getElem? (i := 0) rfl))
  have N17 := Fr.snoc X17 N10 (show n0 ≤ xm by omega)
  have Fw17 := f14.same W17
  refine q_aloadN X17 hx hby d17_269 rfl rfl ?_
  refine q_dup X17 hx hby d17_270 rfl ?_
  have f21 := (((P4.keep Kc4 nin0).other W10 (Or.inl (nE xm xt (by omega)))).other W17 (Or.inr (slot_ne (Or.inl (wh hw 142 rfl)) (Or.inl (wh hw 140 rfl)) (by decide) (t := .int) (t' := .int) (by decide) (by decide))))
  refine qG X17 hx hby hZ hown (wh hw 141 rfl) e17 f21 d17_271 (fun T22 X22 e22 => ?_)
  refine q_iconst X22 hx hby d17_274 ?_
  refine q_iadd X22 hx hby d17_275 ?_
  show own_Goes p e below (T22.setTop (mkF m 276 #[vR xm, vI 99, vR xy, vR xv, vI 0, vI 1, vR xt, vN, vI 16, vI 3, uS, uS, uS] [(.int ((2 : Int32) + (1 : Int32))), .ref xm])) _
  rw [show ((2 : Int32) + (1 : Int32)) = (3 : Int32) from by decide]
  refine gg (fun t k => XS.dupX1 X22.here hx rfl (hb hby d17_276) rfl rfl rfl k) ?_
  have f23 := (f16.wr W17)
  refine qP X22 hx hby hZ hown (host := "") (Or.inl (wh hw 141 rfl)) Via.refl e22 f21 f23 (Or.inl (wh hw 142 rfl)) (wh hw 27 rfl) (ty := .int) d17_277 (fun T24 h24 X24 e24 W24 => ?_)
  have O25 := O18.wr W24 (show n0 ≤ xm by omega)
  have sz26 : h24.size = h17.size := Wr.size W24
  have K27 := K20.wr W24 (Or.inl (List.mem_of_getElem? (i := 0) rfl))
  have N24 := Fr.snoc X24 N17 (show n0 ≤ xm by omega)
  have Fw24 := f21.same W24
  refine q_aloadN X24 hx hby d17_280 rfl rfl ?_
  have f28 := ((((P6.keep Kc4 nin0).other W10 (Or.inl (nE xm xt (by omega)))).other W17 (Or.inr (slot_ne (Or.inl (wh hw 116 rfl)) (Or.inl (wh hw 140 rfl)) (by decide) (t := .int) (t' := .int) (by decide) (by decide)))).other W24 (Or.inr (slot_ne (Or.inl (wh hw 116 rfl)) (Or.inl (wh hw 142 rfl)) (by decide) (t := .int) (t' := .int) (by decide) (by decide))))
  refine qG X24 hx hby hZ hown (wh hw 115 rfl) e24 f28 d17_281 (fun T29 X29 e29 => ?_)
  refine q_icmpYes (pc := 284) X29 hx hby d17_284 (pc' := 292) (flt (show ¬ ((12 : Int32) < (3 : Int32)) from by decide)).2.2.2 (by decide) (by decide) ?_
  refine q_aloadN X29 hx hby d17_292 rfl rfl ?_
  refine q_iload X29 hx hby d17_293 rfl ?_
  have f30 := (f23.wr W24)
  refine k_V X29 hx hby hZ hown (wh hw 143 rfl) (wh hw 144 rfl) (wh hw 146 rfl) (wh hw 145 rfl) (W := 0) (own_after l Z a0 hw [] xm h24 n0 O25) (wh hw 147 rfl) (wh hw 28 rfl) e29 f30  hml (argsL := [.int 1]) (rest := []) own_pd_10 d17_295 (fun _ T31 L31 X31 hQ31 => ?_)
  obtain ⟨Nc31, e31, rfl⟩ := hQ31
  have N31 := Fr.app N24 Nc31
  refine q_aconstNull X31 hx hby d17_298 ?_
  refine r_R X31 hx hby hret hlk d17_299 e31 ?_
  have f32 := (Fw17.other W24 (Or.inr (slot_ne (Or.inl (wh hw 140 rfl)) (Or.inl (wh hw 142 rfl)) (by decide) (t := .int) (t' := .int) (by decide) (by decide))))
  have f33 := ((((P7.keep Kc4 nin0).other W10 (Or.inl (nE xm xt (by omega)))).other W17 (Or.inr (slot_ne (Or.inl (wh hw 109 rfl)) (Or.inl (wh hw 140 rfl)) (by decide) (t := (.array (.object "java/util/HashMap$Node"))) (t' := .int) (by decide) (by decide)))).other W24 (Or.inr (slot_ne (Or.inl (wh hw 109 rfl)) (Or.inl (wh hw 142 rfl)) (by decide) (t := (.array (.object "java/util/HashMap$Node"))) (t' := .int) (by decide) (by decide))))
  have f34 := ((((P8.keep Kc4 nin0).other W10 (Or.inl (nE xm xt (by omega)))).other W17 (Or.inr (slot_ne (Or.inl (wh hw 190 rfl)) (Or.inl (wh hw 140 rfl)) (by decide) (t := (.object "java/util/Collection")) (t' := .int) (by decide) (by decide)))).other W24 (Or.inr (slot_ne (Or.inl (wh hw 190 rfl)) (Or.inl (wh hw 142 rfl)) (by decide) (t := (.object "java/util/Collection")) (t' := .int) (by decide) (by decide))))
  have f35 := ((V10.other W17 (nE xt xm (by omega))).other W24 (nE xt xm (by omega)))
  have f36 := (((c4_0.wr W10).wr W17).wr W24)
  have f37 := (((c4_1.other W10 (Or.inl (nE r_4 xt (by omega)))).other W17 (Or.inl (nE r_4 xm (by omega)))).other W24 (Or.inl (nE r_4 xm (by omega))))
  have f38 := (((c4_2.other W10 (Or.inl (nE r_4 xt (by omega)))).other W17 (Or.inl (nE r_4 xm (by omega)))).other W24 (Or.inl (nE r_4 xm (by omega))))
  exact ⟨N31, K27, r_4, rfl, Fw24, f32, f28, f33, f34, f35, f36, f37, f38, (show h0.size ≤ r_4 by first | assumption | omega | decide)⟩
theorem own_ef_own_put2 (m : MethodId) (xm : Addr) (xa : Addr) (xv : Addr) : entryFrame m #[.ref xm, .ref xa, .ref xv] 3 = mkF m 0 #[vR xm, vR xa, vR xv] [] := by first | (simp [entryFrame, mkF, argsToLocals, Value.category]; done) | rfl
def Q_own_put2 (Z : State) (xm : Addr) (xt : Addr) (xq : ClassId) (x1 : Addr) (x2 : Addr) (xa : Addr) (xb : Addr) (xk : ClassId) (xv : Addr) (gwD : Addr) (gz : Int32) (gwc : Addr) (gcl : Cell) (h0 : Heap) (n0 : Nat) (v : Option Value) (h : Heap) (L : List Loc) : Prop := Fr n0 L ∧ Keep h0 h [xm, xt, xa] ∧ ∃ (r : Addr), v = some .null ∧ Fld Z h xm "java/util/HashMap" "size" "I" (.int 3) ∧ Fld Z h xm "java/util/HashMap" "modCount" "I" (.int 3) ∧ Fld Z h xm "java/util/HashMap" "threshold" "I" (.int 12) ∧ Fld Z h xm "java/util/HashMap" "table" "[Ljava/util/HashMap$Node;" (.ref xt) ∧ Fld Z h xm "java/util/AbstractMap" "values" "Ljava/util/Collection;" .null ∧ Arv Z h xt xq (.object "java/util/HashMap$Node") (16 : Int32) [.null, .ref x1, .ref x2, .ref r, .null, .null, .null, .null, .null, .null, .null, .null, .null, .null, .null, .null] .null ∧ Exa Z h r "java/util/HashMap$Node" ∧ Fld Z h r "java/util/HashMap$Node" "value" "Ljava/lang/Object;" (.ref xv) ∧ Fld Z h r "java/util/HashMap$Node" "next" "Ljava/util/HashMap$Node;" .null ∧ h0.size ≤ r
theorem own_put2 (l : Launch) (Z : State) (a0 : Array Value) (hw : ∀ d ∈ tables_1, d.before a0 Z = true) (ws : List Jvm.Cond) (xm : Addr) (xt : Addr) (xq : ClassId) (x1 : Addr) (x2 : Addr) (xa : Addr) (xb : Addr) (xk : ClassId) (xv : Addr) (h0 : Heap) (n0 : Nat) (O0 : Old Z n0 h0) (gwD : Addr) (gz : Int32) (gwc : Addr) (gcl : Cell) (G : GG Z gwD gz gwc gcl) (P0 : Exa Z h0 xm "java/util/HashMap") (P1 : n0 ≤ xm) (P2 : n0 ≤ xt) (P3 : @LT.lt Nat _ xm xt) (P4 : Fld Z h0 xm "java/util/HashMap" "size" "I" (.int 2)) (P5 : Fld Z h0 xm "java/util/HashMap" "modCount" "I" (.int 2)) (P6 : Fld Z h0 xm "java/util/HashMap" "threshold" "I" (.int 12)) (P7 : Fld Z h0 xm "java/util/HashMap" "table" "[Ljava/util/HashMap$Node;" (.ref xt)) (P8 : Fld Z h0 xm "java/util/AbstractMap" "values" "Ljava/util/Collection;" .null) (P9 : Arv Z h0 xt xq (.object "java/util/HashMap$Node") (16 : Int32) [.null, .ref x1, .ref x2, .null, .null, .null, .null, .null, .null, .null, .null, .null, .null, .null, .null, .null] .null) (P10 : Ovr Z xq "java/util/HashMap$Node") (P11 : Exa Z h0 xa "java/lang/String") (P12 : Fld Z h0 xa "java/lang/String" "value" "[B" (.ref xb)) (P13 : Fld Z h0 xa "java/lang/String" "coder" "B" (.int 0)) (P14 : Fld Z h0 xa "java/lang/String" "hash" "I" (.int 0)) (P15 : Fld Z h0 xa "java/lang/String" "hashIsZero" "Z" (.int 0)) (P16 : Arv Z h0 xb xk .byte (1 : Int32) [.int 99] (.int 0)) (P17 : n0 ≤ xa) (P18 : @LT.lt Nat _ xt xa) (P19 : @LT.lt Nat _ xa xb) : own_Met l Z (⟨"java/util/HashMap", "put", "(Ljava/lang/Object;Ljava/lang/Object;)Ljava/lang/Object;"⟩ : MethodName) jdk_69_method_15_code 3 (some (.object "java/lang/Object")) ws ({ frames := 4, cells := 1, slots := 4, locals := 71 } : Room) #[.ref xm, .ref xa, .ref xv] h0 (Q_own_put2 Z xm xt xq x1 x2 xa xb xk xv gwD gz gwc gcl h0 n0) := by
  refine own_mk (plainFor_of_name own_pn_java_util_HashMap) O0 ?_
  intro p e s m below meth c s₁ hx hby hml hZ hown hnm hlk hret X0 e0 N0 z0 z1
  have K0 : Keep h0 h0 [xm, xt, xa] := Keep.refl _ _
  refine own_cast (own_ef_own_put2 m xm xa xv) ?_
  show own_Goes p e below (s₁.setTop (mkF m 0 #[vR xm, vR xa, vR xv] [])) _
  obtain ⟨G0, G1, G2, G3, G4, G5, G6⟩ := id G
  have ltG1 : @LT.lt Nat _ gwD Z.heap.size := G1.lt
  have ltP0 : @LT.lt Nat _ xm h0.size := P0.lt
  have ltP9 : @LT.lt Nat _ xt h0.size := P9.lt
  have ltP11 : @LT.lt Nat _ xa h0.size := P11.lt
  have ltP16 : @LT.lt Nat _ xb h0.size := P16.lt
  refine q_aloadN X0 hx hby d12_0 rfl rfl ?_
  refine q_aloadN X0 hx hby d12_1 rfl rfl ?_
  refine k_S X0 hx hby hZ hown (wh hw 82 rfl) (wh hw 83 rfl) (W := 1) (own_hash l Z a0 hw [] (99 : Int32) xa xb xk h0 n0 O0 gwD gz gwc gcl G (show own_chr (99 : Int32) from (by first | assumption | exact own_chr97 | exact own_chr98 | exact own_chr99)) P11 P12 P13 P14 P15 P16 (show n0 ≤ xa by first | assumption | omega | decide)) (wh hw 84 rfl) (wh hw 28 rfl) e0  hml (argsL := [.ref xa]) (rest := [.ref xm]) own_pd_11 d12_2 (fun _ T1 L1 X1 hQ1 => ?_)
  obtain ⟨h1, e1⟩ : ∃ z, T1.heap = z := ⟨_, rfl⟩
  rw [e1] at hQ1
  obtain ⟨Nc1, Kc1, rfl⟩ := hQ1
  have N1 := Fr.app N0 Nc1
  have O2 := O0.keep Kc1 (allS (show n0 ≤ xa by omega) all0)
  have sz3 : h0.size ≤ h1.size := Kc1.1
  have K4 := Keep.trans K0 Kc1 (allS (Or.inl (List.mem_of_getElem? (i := 2) rfl)) all0)
  refine q_aloadN X1 hx hby d12_5 rfl rfl ?_
  refine q_aloadN X1 hx hby d12_6 rfl rfl ?_
  refine q_iconst X1 hx hby d12_7 ?_
  refine q_iconst X1 hx hby d12_8 ?_
  have f5 := (P0.keep Kc1)
  have f6 := (P4.keep Kc1 (ninS (nE xm xa (by omega)) nin0))
  have f7 := (P5.keep Kc1 (ninS (nE xm xa (by omega)) nin0))
  have f8 := (P6.keep Kc1 (ninS (nE xm xa (by omega)) nin0))
  have f9 := (P7.keep Kc1 (ninS (nE xm xa (by omega)) nin0))
  have f10 := (P8.keep Kc1 (ninS (nE xm xa (by omega)) nin0))
  have f11 := (P9.keep Kc1 (ninS (nE xt xa (by omega)) nin0))
  refine k_V X1 hx hby hZ hown (wh hw 103 rfl) (wh hw 104 rfl) (wh hw 106 rfl) (wh hw 105 rfl) (W := 0) (own_putVal2 l Z a0 hw [] xm xt xq x1 x2 xa xv h1 n0 O2 f5 (show n0 ≤ xm by first | assumption | omega | decide) (show n0 ≤ xt by first | assumption | omega | decide) (show @LT.lt Nat _ xm xt by first | assumption | omega | decide) f6 f7 f8 f9 f10 f11 (show Ovr Z xq "java/util/HashMap$Node" by first | assumption | omega | decide)) (wh hw 107 rfl) (wh hw 28 rfl) e1 f5  hml (argsL := [.int 99, .ref xa, .ref xv, .int 0, .int 1]) (rest := []) own_pd_12 d12_9 (fun _ T12 L12 X12 hQ12 => ?_)
  obtain ⟨h12, e12⟩ : ∃ z, T12.heap = z := ⟨_, rfl⟩
  rw [e12] at hQ12
  obtain ⟨Nc12, Kc12, r_12, rfl, c12_0, c12_1, c12_2, c12_3, c12_4, c12_5, c12_6, c12_7, c12_8, c12_9⟩ := hQ12
  have N12 := Fr.app N1 Nc12
  have O13 := O2.keep Kc12 (allS (show n0 ≤ xm by omega) (allS (show n0 ≤ xt by omega) all0))
  have sz14 : h1.size ≤ h12.size := Kc12.1
  have K15 := Keep.trans K4 Kc12 (allS (Or.inl (List.mem_of_getElem? (i := 0) rfl)) (allS (Or.inl (List.mem_of_getElem? (i := 1) rfl)) all0))
  have ltc12_5 : @LT.lt Nat _ xt h12.size := c12_5.lt
  have ltc12_6 : @LT.lt Nat _ r_12 h12.size := c12_6.lt
  refine r_R X12 hx hby hret hlk d12_12 e12 ?_
  exact ⟨N12, K15, r_12, rfl, c12_0, c12_1, c12_2, c12_3, c12_4, c12_5, c12_6, c12_7, c12_8, (show h0.size ≤ r_12 by first | assumption | omega | decide)⟩
theorem d24_0 : decode B24 0 = .ok (.aload_n 0, 1) := by decide +kernel
theorem d24_1 : decode B24 1 = .ok (.getfield 156, 3) := by decide +kernel
theorem d24_4 : decode B24 4 = .ok (.ireturn, 1) := by decide +kernel
theorem own_ef_own_hmSize (m : MethodId) (xa : Addr) : entryFrame m #[.ref xa] 1 = mkF m 0 #[vR xa] [] := by first | (simp [entryFrame, mkF, argsToLocals, Value.category]; done) | rfl
def Q_own_hmSize (Z : State) (xa : Addr) (xv : Int32) (h0 : Heap) (n0 : Nat) (v : Option Value) (h : Heap) (L : List Loc) : Prop := Fr n0 L ∧ h = h0 ∧ v = some (.int xv)
theorem own_hmSize (l : Launch) (Z : State) (a0 : Array Value) (hw : ∀ d ∈ tables_1, d.before a0 Z = true) (ws : List Jvm.Cond) (xa : Addr) (xv : Int32) (h0 : Heap) (n0 : Nat) (O0 : Old Z n0 h0) (P0 : Fld Z h0 xa "java/util/HashMap" "size" "I" (.int xv)) : own_Met l Z (⟨"java/util/HashMap", "size", "()I"⟩ : MethodName) jdk_69_method_10_code 1 (some .int) ws ({ frames := 0, cells := 0, slots := 0, locals := 0 } : Room) #[.ref xa] h0 (Q_own_hmSize Z xa xv h0 n0) := by
  refine own_mk (plainFor_of_name own_pn_java_util_HashMap) O0 ?_
  intro p e s m below meth c s₁ hx hby hml hZ hown hnm hlk hret X0 e0 N0 z0 z1
  refine own_cast (own_ef_own_hmSize m xa) ?_
  show own_Goes p e below (s₁.setTop (mkF m 0 #[vR xa] [])) _
  refine q_aloadN X0 hx hby d24_0 rfl rfl ?_
  refine qG X0 hx hby hZ hown (wh hw 141 rfl) e0 P0 d24_1 (fun T1 X1 e1 => ?_)
  refine r_I X1 hx hby hret hlk d24_4 e1 ?_
  exact ⟨N0, rfl, rfl⟩
theorem d26_0 : decode B26 0 = .ok (.aload_n 0, 1) := by decide +kernel
theorem d26_1 : decode B26 1 = .ok (.aload_n 1, 1) := by decide +kernel
theorem d26_2 : decode B26 2 = .ok (.putfield 1, 3) := by decide +kernel
theorem d26_5 : decode B26 5 = .ok (.aload_n 0, 1) := by decide +kernel
theorem d26_6 : decode B26 6 = .ok (.invokespecial 7, 3) := by decide +kernel
theorem d26_9 : decode B26 9 = .ok (.return_, 1) := by decide +kernel
theorem own_pn_java_util_HashMap_Values : plainName "java/util/HashMap$Values" = true := by first | (simp [plainName, overriddenIn]; done) | decide +kernel
theorem own_ef_own_vsInit (m : MethodId) (xa : Addr) (xm : Addr) : entryFrame m #[.ref xa, .ref xm] 2 = mkF m 0 #[vR xa, vR xm] [] := by first | (simp [entryFrame, mkF, argsToLocals, Value.category]; done) | rfl
def Q_own_vsInit (Z : State) (xa : Addr) (xm : Addr) (h0 : Heap) (n0 : Nat) (v : Option Value) (h : Heap) (L : List Loc) : Prop := Fr n0 L ∧ Keep h0 h [xa] ∧ v = none ∧ Fld Z h xa "java/util/HashMap$Values" "this$0" "Ljava/util/HashMap;" (.ref xm)
theorem own_vsInit (l : Launch) (Z : State) (a0 : Array Value) (hw : ∀ d ∈ tables_1, d.before a0 Z = true) (ws : List Jvm.Cond) (xa : Addr) (xm : Addr) (h0 : Heap) (n0 : Nat) (O0 : Old Z n0 h0) (P0 : Exa Z h0 xa "java/util/HashMap$Values") (P1 : Fld Z h0 xa "java/util/HashMap$Values" "this$0" "Ljava/util/HashMap;" .null) (P2 : n0 ≤ xa) : own_Met l Z (⟨"java/util/HashMap$Values", "<init>", "(Ljava/util/HashMap;)V"⟩ : MethodName) jdk_2571_method_1_code 2 none ws ({ frames := 2, cells := 0, slots := 0, locals := 24 } : Room) #[.ref xa, .ref xm] h0 (Q_own_vsInit Z xa xm h0 n0) := by
  refine own_mk (plainFor_of_name own_pn_java_util_HashMap_Values) O0 ?_
  intro p e s m below meth c s₁ hx hby hml hZ hown hnm hlk hret X0 e0 N0 z0 z1
  have K0 : Keep h0 h0 [xa] := Keep.refl _ _
  refine own_cast (own_ef_own_vsInit m xa xm) ?_
  show own_Goes p e below (s₁.setTop (mkF m 0 #[vR xa, vR xm] [])) _
  have ltP0 : @LT.lt Nat _ xa h0.size := P0.lt
  refine q_aloadN X0 hx hby d26_0 rfl rfl ?_
  refine q_aloadN X0 hx hby d26_1 rfl rfl ?_
  refine qP X0 hx hby hZ hown (host := "") (Or.inl (wh hw 198 rfl)) Via.refl e0 P1 P0 (Or.inr ⟨(wh hw 199 rfl), rfl, hnm⟩) (wh hw 192 rfl) (ty := (.object "java/util/HashMap")) d26_2 (fun T1 h1 X1 e1 W1 => ?_)
  have O2 := O0.wr W1 (show n0 ≤ xa by omega)
  have sz3 : h1.size = h0.size := Wr.size W1
  have K4 := K0.wr W1 (Or.inl (List.mem_of_getElem? (i := 0) rfl))
  have N1 := Fr.snoc X1 N0 (show n0 ≤ xa by omega)
  have Fw1 := P1.same W1
  refine q_aloadN X1 hx hby d26_5 rfl rfl ?_
  refine k_N X1 hx hby hZ hown (wh hw 200 rfl) (wh hw 13 rfl) (W := 0) (own_acInit l Z a0 hw [] xa h1 n0 O2) (wh hw 17 rfl) (wh hw 16 rfl) e1  hml (argsL := []) (rest := []) own_pd_0 d26_6 (fun _ T5 L5 X5 hQ5 => ?_)
  obtain ⟨Nc5, e5, rfl⟩ := hQ5
  have N5 := Fr.app N1 Nc5
  refine r_V X5 hx hby hret hlk d26_9 e5 ?_
  exact ⟨N5, K4, rfl, Fw1⟩
theorem d25_0 : decode B25 0 = .ok (.aload_n 0, 1) := by decide +kernel
theorem d25_1 : decode B25 1 = .ok (.getfield 259, 3) := by decide +kernel
theorem d25_4 : decode B25 4 = .ok (.astore_n 1, 1) := by decide +kernel
theorem d25_5 : decode B25 5 = .ok (.aload_n 1, 1) := by decide +kernel
theorem d25_6 : decode B25 6 = .ok (.ifnonnull 17, 3) := by decide +kernel
theorem d25_9 : decode B25 9 = .ok (.new 263, 3) := by decide +kernel
theorem d25_12 : decode B25 12 = .ok (.dup, 1) := by decide +kernel
theorem d25_13 : decode B25 13 = .ok (.aload_n 0, 1) := by decide +kernel
theorem d25_14 : decode B25 14 = .ok (.invokespecial 265, 3) := by decide +kernel
theorem own_pd_13 : parseMethodDescriptor "(Ljava/util/HashMap;)V" = some ⟨[(.object "java/util/HashMap")], none⟩ := by decide +kernel
theorem d25_17 : decode B25 17 = .ok (.astore_n 1, 1) := by decide +kernel
theorem d25_18 : decode B25 18 = .ok (.aload_n 0, 1) := by decide +kernel
theorem d25_19 : decode B25 19 = .ok (.aload_n 1, 1) := by decide +kernel
theorem d25_20 : decode B25 20 = .ok (.putfield 259, 3) := by decide +kernel
theorem d25_23 : decode B25 23 = .ok (.aload_n 1, 1) := by decide +kernel
theorem d25_24 : decode B25 24 = .ok (.areturn, 1) := by decide +kernel
theorem own_ef_own_values (m : MethodId) (xm : Addr) : entryFrame m #[.ref xm] 2 = mkF m 0 #[vR xm, uS] [] := by first | (simp [entryFrame, mkF, argsToLocals, Value.category]; done) | rfl
def Q_own_values (Z : State) (xm : Addr) (xs : Int32) (xq : Int32) (xw : Int32) (xt : Value) (h0 : Heap) (n0 : Nat) (v : Option Value) (h : Heap) (L : List Loc) : Prop := Fr n0 L ∧ Keep h0 h [xm] ∧ ∃ (r : Addr), v = some (.ref r) ∧ Fld Z h xm "java/util/HashMap" "size" "I" (.int xs) ∧ Fld Z h xm "java/util/HashMap" "modCount" "I" (.int xq) ∧ Fld Z h xm "java/util/HashMap" "threshold" "I" (.int xw) ∧ Fld Z h xm "java/util/HashMap" "table" "[Ljava/util/HashMap$Node;" xt ∧ Fld Z h xm "java/util/AbstractMap" "values" "Ljava/util/Collection;" (.ref r) ∧ Exa Z h r "java/util/HashMap$Values" ∧ Fld Z h r "java/util/HashMap$Values" "this$0" "Ljava/util/HashMap;" (.ref xm) ∧ h0.size ≤ r
theorem own_values (l : Launch) (Z : State) (a0 : Array Value) (hw : ∀ d ∈ tables_1, d.before a0 Z = true) (ws : List Jvm.Cond) (xm : Addr) (xs : Int32) (xq : Int32) (xw : Int32) (xt : Value) (h0 : Heap) (n0 : Nat) (O0 : Old Z n0 h0) (P0 : Exa Z h0 xm "java/util/HashMap") (P1 : n0 ≤ xm) (P2 : Fld Z h0 xm "java/util/HashMap" "size" "I" (.int xs)) (P3 : Fld Z h0 xm "java/util/HashMap" "modCount" "I" (.int xq)) (P4 : Fld Z h0 xm "java/util/HashMap" "threshold" "I" (.int xw)) (P5 : Fld Z h0 xm "java/util/HashMap" "table" "[Ljava/util/HashMap$Node;" xt) (P6 : Fld Z h0 xm "java/util/AbstractMap" "values" "Ljava/util/Collection;" .null) : own_Met l Z (⟨"java/util/HashMap", "values", "()Ljava/util/Collection;"⟩ : MethodName) jdk_69_method_28_code 2 (some (.object "java/util/Collection")) ws ({ frames := 3, cells := 1, slots := 1, locals := 38 } : Room) #[.ref xm] h0 (Q_own_values Z xm xs xq xw xt h0 n0) := by
  refine own_mk (plainFor_of_name own_pn_java_util_HashMap) O0 ?_
  intro p e s m below meth c s₁ hx hby hml hZ hown hnm hlk hret X0 e0 N0 z0 z1
  have K0 : Keep h0 h0 [xm] := Keep.refl _ _
  refine own_cast (own_ef_own_values m xm) ?_
  show own_Goes p e below (s₁.setTop (mkF m 0 #[vR xm, uS] [])) _
  have ltP0 : @LT.lt Nat _ xm h0.size := P0.lt
  refine q_aloadN X0 hx hby d25_0 rfl rfl ?_
  refine qF X0 hx hby hZ hown (host := "") (Or.inl (wh hw 188 rfl)) (Via.of (wh hw 189 rfl)) e0 P6 d25_1 (fun T1 X1 e1 => ?_)
  refine q_astoreN X1 hx hby d25_4 rfl (l' := #[vR xm, vN]) rfl ?_
  refine q_aloadN X1 hx hby d25_5 rfl rfl ?_
  refine gg (fun t k => XS.ifnonnullNo X1.here hx rfl (hb hby d25_6) rfl k) ?_
  obtain ⟨T2, h2, X2, e2, E2, A2, D2, -, st2⟩ := newO X1 hx hZ hown (wh hw 191 rfl) (wh hw 192 rfl) (wh hw 193 rfl) e1 (g := (mkF m 9 #[vR xm, vN] [])) rfl (hb hby d25_9) (by decide) (by decide)
  obtain ⟨b2, g2⟩ : ∃ z, z = h0.size := ⟨_, rfl⟩
  rw [← g2] at A2 D2 st2
  refine gg st2 ?_
  have O3 := O0.ext E2
  have sz4 : h0.size ≤ h2.size := E2.1
  have K5 := K0.ext E2
  have l2 : @LT.lt Nat _ b2 h2.size := A2.lt
  have F2_this_0 : Fld Z h2 b2 "java/util/HashMap$Values" "this$0" "Ljava/util/HashMap;" .null := D2 (Or.inr (wh hw 199 rfl)) (ty := (.object "java/util/HashMap")) (by decide)
  refine q_dup X2 hx hby d25_12 rfl ?_
  refine q_aloadN X2 hx hby d25_13 rfl rfl ?_
  refine k_N X2 hx hby hZ hown (wh hw 194 rfl) (wh hw 195 rfl) (W := 1) (own_vsInit l Z a0 hw [] b2 xm h2 n0 O3 A2 F2_this_0 (show n0 ≤ b2 by first | assumption | omega | decide)) (wh hw 197 rfl) (wh hw 193 rfl) e2  hml (argsL := [.ref xm]) (rest := [.ref b2]) own_pd_13 d25_14 (fun _ T6 L6 X6 hQ6 => ?_)
  obtain ⟨h6, e6⟩ : ∃ z, T6.heap = z := ⟨_, rfl⟩
  rw [e6] at hQ6
  obtain ⟨Nc6, Kc6, rfl, c6_0⟩ := hQ6
  have N6 := Fr.app N0 Nc6
  have O7 := O3.keep Kc6 (allS (show n0 ≤ b2 by omega) all0)
  have sz8 : h2.size ≤ h6.size := Kc6.1
  have K9 := Keep.trans K5 Kc6 (allS (Or.inr (show h0.size ≤ b2 by omega)) all0)
  refine q_astoreN X6 hx hby d25_17 rfl (l' := #[vR xm, vR b2]) rfl ?_
  refine q_aloadN X6 hx hby d25_18 rfl rfl ?_
  refine q_aloadN X6 hx hby d25_19 rfl rfl ?_
  have f10 := ((P6.ext E2).keep Kc6 (ninS (nE xm b2 (by omega)) nin0))
  have f11 := ((P0.ext E2).keep Kc6)
  refine qP X6 hx hby hZ hown (host := "") (Or.inl (wh hw 188 rfl)) (Via.of (wh hw 189 rfl)) e6 f10 f11 (Or.inl (wh hw 190 rfl)) (wh hw 27 rfl) (ty := (.object "java/util/Collection")) d25_20 (fun T12 h12 X12 e12 W12 => ?_)
  have O13 := O7.wr W12 (show n0 ≤ xm by omega)
  have sz14 : h12.size = h6.size := Wr.size W12
  have K15 := K9.wr W12 (Or.inl (List.mem_of_getElem? (i := 0) rfl))
  have N12 := Fr.snoc X12 N6 (show n0 ≤ xm by omega)
  have Fw12 := f10.same W12
  refine q_aloadN X12 hx hby d25_23 rfl rfl ?_
  show own_Goes p e below (T12.setTop (mkF m 24 #[vR xm, vR b2] [.ref b2])) _
  refine r_R X12 hx hby hret hlk d25_24 e12 ?_
  have f16 := (((P2.ext E2).keep Kc6 (ninS (nE xm b2 (by omega)) nin0)).other W12 (Or.inr (slot_ne (Or.inl (wh hw 142 rfl)) (Or.inl (wh hw 190 rfl)) (by decide) (t := .int) (t' := (.object "java/util/Collection")) (by decide) (by decide))))
  have f17 := (((P3.ext E2).keep Kc6 (ninS (nE xm b2 (by omega)) nin0)).other W12 (Or.inr (slot_ne (Or.inl (wh hw 140 rfl)) (Or.inl (wh hw 190 rfl)) (by decide) (t := .int) (t' := (.object "java/util/Collection")) (by decide) (by decide))))
  have f18 := (((P4.ext E2).keep Kc6 (ninS (nE xm b2 (by omega)) nin0)).other W12 (Or.inr (slot_ne (Or.inl (wh hw 116 rfl)) (Or.inl (wh hw 190 rfl)) (by decide) (t := .int) (t' := (.object "java/util/Collection")) (by decide) (by decide))))
  have f19 := (((P5.ext E2).keep Kc6 (ninS (nE xm b2 (by omega)) nin0)).other W12 (Or.inr (slot_ne (Or.inl (wh hw 109 rfl)) (Or.inl (wh hw 190 rfl)) (by decide) (t := (.array (.object "java/util/HashMap$Node"))) (t' := (.object "java/util/Collection")) (by decide) (by decide))))
  have f20 := ((A2.keep Kc6).wr W12)
  have f21 := (c6_0.other W12 (Or.inl (nE b2 xm (by omega))))
  exact ⟨N12, K15, b2, rfl, f16, f17, f18, f19, Fw12, f20, f21, (show h0.size ≤ b2 by first | assumption | omega | decide)⟩
theorem d29_0 : decode B29 0 = .ok (.aload_n 0, 1) := by decide +kernel
theorem d29_1 : decode B29 1 = .ok (.aload_n 1, 1) := by decide +kernel
theorem d29_2 : decode B29 2 = .ok (.putfield 1, 3) := by decide +kernel
theorem d29_5 : decode B29 5 = .ok (.aload_n 0, 1) := by decide +kernel
theorem d29_6 : decode B29 6 = .ok (.invokespecial 7, 3) := by decide +kernel
theorem d29_9 : decode B29 9 = .ok (.aload_n 0, 1) := by decide +kernel
theorem d29_10 : decode B29 10 = .ok (.aload_n 1, 1) := by decide +kernel
theorem d29_11 : decode B29 11 = .ok (.getfield 13, 3) := by decide +kernel
theorem d29_14 : decode B29 14 = .ok (.putfield 19, 3) := by decide +kernel
theorem d29_17 : decode B29 17 = .ok (.aload_n 1, 1) := by decide +kernel
theorem d29_18 : decode B29 18 = .ok (.getfield 22, 3) := by decide +kernel
theorem d29_21 : decode B29 21 = .ok (.astore_n 2, 1) := by decide +kernel
theorem d29_22 : decode B29 22 = .ok (.aload_n 0, 1) := by decide +kernel
theorem d29_23 : decode B29 23 = .ok (.aload_n 0, 1) := by decide +kernel
theorem d29_24 : decode B29 24 = .ok (.aconst_null, 1) := by decide +kernel
theorem d29_25 : decode B29 25 = .ok (.dup_x1, 1) := by decide +kernel
theorem d29_26 : decode B29 26 = .ok (.putfield 26, 3) := by decide +kernel
theorem d29_29 : decode B29 29 = .ok (.putfield 30, 3) := by decide +kernel
theorem d29_32 : decode B29 32 = .ok (.aload_n 0, 1) := by decide +kernel
theorem d29_33 : decode B29 33 = .ok (.iconst 0, 1) := by decide +kernel
theorem d29_34 : decode B29 34 = .ok (.putfield 33, 3) := by decide +kernel
theorem d29_37 : decode B29 37 = .ok (.aload_n 2, 1) := by decide +kernel
theorem d29_38 : decode B29 38 = .ok (.ifnull 40, 3) := by decide +kernel
theorem d29_78 : decode B29 78 = .ok (.return_, 1) := by decide +kernel
theorem own_pn_java_util_HashMap_HashIterator : plainName "java/util/HashMap$HashIterator" = true := by first | (simp [plainName, overriddenIn]; done) | decide +kernel
theorem own_ef_own_hiInit0 (m : MethodId) (xa : Addr) (xm : Addr) : entryFrame m #[.ref xa, .ref xm] 3 = mkF m 0 #[vR xa, vR xm, uS] [] := by first | (simp [entryFrame, mkF, argsToLocals, Value.category]; done) | rfl
def Q_own_hiInit0 (Z : State) (xa : Addr) (xm : Addr) (xq : Int32) (h0 : Heap) (n0 : Nat) (v : Option Value) (h : Heap) (L : List Loc) : Prop := Fr n0 L ∧ Keep h0 h [xa] ∧ v = none ∧ Fld Z h xa "java/util/HashMap$HashIterator" "this$0" "Ljava/util/HashMap;" (.ref xm) ∧ Fld Z h xa "java/util/HashMap$HashIterator" "expectedModCount" "I" (.int xq) ∧ Fld Z h xa "java/util/HashMap$HashIterator" "next" "Ljava/util/HashMap$Node;" .null ∧ Fld Z h xa "java/util/HashMap$HashIterator" "current" "Ljava/util/HashMap$Node;" .null ∧ Fld Z h xa "java/util/HashMap$HashIterator" "index" "I" (.int 0)
theorem own_hiInit0 (l : Launch) (Z : State) (a0 : Array Value) (hw : ∀ d ∈ tables_1, d.before a0 Z = true) (ws : List Jvm.Cond) (xa : Addr) (xm : Addr) (xq : Int32) (h0 : Heap) (n0 : Nat) (O0 : Old Z n0 h0) (P0 : Exa Z h0 xa "java/util/HashMap$ValueIterator") (P1 : n0 ≤ xa) (P2 : Fld Z h0 xa "java/util/HashMap$HashIterator" "this$0" "Ljava/util/HashMap;" .null) (P3 : Fld Z h0 xa "java/util/HashMap$HashIterator" "expectedModCount" "I" (.int 0)) (P4 : Fld Z h0 xa "java/util/HashMap$HashIterator" "next" "Ljava/util/HashMap$Node;" .null) (P5 : Fld Z h0 xa "java/util/HashMap$HashIterator" "current" "Ljava/util/HashMap$Node;" .null) (P6 : Fld Z h0 xa "java/util/HashMap$HashIterator" "index" "I" (.int 0)) (P7 : Fld Z h0 xm "java/util/HashMap" "size" "I" (.int 0)) (P8 : Fld Z h0 xm "java/util/HashMap" "modCount" "I" (.int xq)) (P9 : Fld Z h0 xm "java/util/HashMap" "table" "[Ljava/util/HashMap$Node;" .null) (P10 : @LT.lt Nat _ xm xa) : own_Met l Z (⟨"java/util/HashMap$HashIterator", "<init>", "(Ljava/util/HashMap;)V"⟩ : MethodName) jdk_99_method_1_code 3 none ws ({ frames := 1, cells := 0, slots := 0, locals := 12 } : Room) #[.ref xa, .ref xm] h0 (Q_own_hiInit0 Z xa xm xq h0 n0) := by
  refine own_mk (plainFor_of_name own_pn_java_util_HashMap_HashIterator) O0 ?_
  intro p e s m below meth c s₁ hx hby hml hZ hown hnm hlk hret X0 e0 N0 z0 z1
  have K0 : Keep h0 h0 [xa] := Keep.refl _ _
  refine own_cast (own_ef_own_hiInit0 m xa xm) ?_
  show own_Goes p e below (s₁.setTop (mkF m 0 #[vR xa, vR xm, uS] [])) _
  have ltP0 : @LT.lt Nat _ xa h0.size := P0.lt
  refine q_aloadN X0 hx hby d29_0 rfl rfl ?_
  refine q_aloadN X0 hx hby d29_1 rfl rfl ?_
  refine qP X0 hx hby hZ hown (host := "") (Or.inl (wh hw 224 rfl)) Via.refl e0 P2 P0 (Or.inr ⟨(wh hw 225 rfl), rfl, hnm⟩) (wh hw 212 rfl) (ty := (.object "java/util/HashMap")) d29_2 (fun T1 h1 X1 e1 W1 => ?_)
  have O2 := O0.wr W1 (show n0 ≤ xa by omega)
  have sz3 : h1.size = h0.size := Wr.size W1
  have K4 := K0.wr W1 (Or.inl (List.mem_of_getElem? (i := 0) rfl))
  have N1 := Fr.snoc X1 N0 (show n0 ≤ xa by omega)
  have Fw1 := P2.same W1
  refine q_aloadN X1 hx hby d29_5 rfl rfl ?_
  obtain ⟨T5, X5, e5, st5⟩ := initO X1 hx hZ hown (wh hw 226 rfl) (wh hw 19 rfl) (wh hw 20 rfl) e1 (g := (mkF m 6 #[vR xa, vR xm, uS] [.ref xa])) rfl (by rw [hml]; rfl) rfl (hb hby d29_6) (by decide) (W := 0) (by show 2 * 0 + _ ≤ _; exact Nat.le_of_eq rfl) (by decide)
  refine gg st5 ?_
  refine q_aloadN X5 hx hby d29_9 rfl rfl ?_
  refine q_aloadN X5 hx hby d29_10 rfl rfl ?_
  have f6 := (P8.other W1 (Or.inl (nE xm xa (by omega))))
  refine qG X5 hx hby hZ hown (wh hw 227 rfl) e5 f6 d29_11 (fun T7 X7 e7 => ?_)
  have f8 := (P3.other W1 (Or.inr (slot_ne (Or.inl (wh hw 229 rfl)) (Or.inr (wh hw 225 rfl)) (by decide) (t := .int) (t' := (.object "java/util/HashMap")) (by decide) (by decide))))
  have f9 := (P0.wr W1)
  refine qP X7 hx hby hZ hown (host := "") (Or.inl (wh hw 228 rfl)) Via.refl e7 f8 f9 (Or.inl (wh hw 229 rfl)) (wh hw 212 rfl) (ty := .int) d29_14 (fun T10 h10 X10 e10 W10 => ?_)
  have O11 := O2.wr W10 (show n0 ≤ xa by omega)
  have sz12 : h10.size = h1.size := Wr.size W10
  have K13 := K4.wr W10 (Or.inl (List.mem_of_getElem? (i := 0) rfl))
  have N10 := Fr.snoc X10 N1 (show n0 ≤ xa by omega)
  have Fw10 := f8.same W10
  refine q_aloadN X10 hx hby d29_17 rfl rfl ?_
  have f14 := ((P9.other W1 (Or.inl (nE xm xa (by omega)))).other W10 (Or.inl (nE xm xa (by omega))))
  refine qG X10 hx hby hZ hown (wh hw 230 rfl) e10 f14 d29_18 (fun T15 X15 e15 => ?_)
  refine q_astoreN X15 hx hby d29_21 rfl (l' := #[vR xa, vR xm, vN]) rfl ?_
  refine q_aloadN X15 hx hby d29_22 rfl rfl ?_
  refine q_aloadN X15 hx hby d29_23 rfl rfl ?_
  show own_Goes p e below (T15.setTop (mkF m 24 #[vR xa, vR xm, vN] [.ref xa, .ref xa])) _
  refine q_aconstNull X15 hx hby d29_24 ?_
  refine gg (fun t k => XS.dupX1 X15.here hx rfl (hb hby d29_25) rfl rfl rfl k) ?_
  have f16 := ((P4.other W1 (Or.inr (slot_ne (Or.inl (wh hw 232 rfl)) (Or.inr (wh hw 225 rfl)) (by decide) (t := (.object "java/util/HashMap$Node")) (t' := (.object "java/util/HashMap")) (by decide) (by decide)))).other W10 (Or.inr (slot_ne (Or.inl (wh hw 232 rfl)) (Or.inl (wh hw 229 rfl)) (by decide) (t := (.object "java/util/HashMap$Node")) (t' := .int) (by decide) (by decide))))
  have f17 := (f9.wr W10)
  refine qP X15 hx hby hZ hown (host := "") (Or.inl (wh hw 231 rfl)) Via.refl e15 f16 f17 (Or.inl (wh hw 232 rfl)) (wh hw 212 rfl) (ty := (.object "java/util/HashMap$Node")) d29_26 (fun T18 h18 X18 e18 W18 => ?_)
  have O19 := O11.wr W18 (show n0 ≤ xa by omega)
  have sz20 : h18.size = h10.size := Wr.size W18
  have K21 := K13.wr W18 (Or.inl (List.mem_of_getElem? (i := 0) rfl))
  have N18 := Fr.snoc X18 N10 (show n0 ≤ xa by omega)
  have Fw18 := f16.same W18
  have f22 := (((P5.other W1 (Or.inr (slot_ne (Or.inl (wh hw 234 rfl)) (Or.inr (wh hw 225 rfl)) (by decide) (t := (.object "java/util/HashMap$Node")) (t' := (.object "java/util/HashMap")) (by decide) (by decide)))).other W10 (Or.inr (slot_ne (Or.inl (wh hw 234 rfl)) (Or.inl (wh hw 229 rfl)) (by decide) (t := (.object "java/util/HashMap$Node")) (t' := .int) (by decide) (by decide)))).other W18 (Or.inr (slot_ne (Or.inl (wh hw 234 rfl)) (Or.inl (wh hw 232 rfl)) (by decide) (t := (.object "java/util/HashMap$Node")) (t' := (.object "java/util/HashMap$Node")) (by decide) (by decide))))
  have f23 := (f17.wr W18)
  refine qP X18 hx hby hZ hown (host := "") (Or.inl (wh hw 233 rfl)) Via.refl e18 f22 f23 (Or.inl (wh hw 234 rfl)) (wh hw 212 rfl) (ty := (.object "java/util/HashMap$Node")) d29_29 (fun T24 h24 X24 e24 W24 => ?_)
  have O25 := O19.wr W24 (show n0 ≤ xa by omega)
  have sz26 : h24.size = h18.size := Wr.size W24
  have K27 := K21.wr W24 (Or.inl (List.mem_of_getElem? (i := 0) rfl))
  have N24 := Fr.snoc X24 N18 (show n0 ≤ xa by omega)
  have Fw24 := f22.same W24
  refine q_aloadN X24 hx hby d29_32 rfl rfl ?_
  refine q_iconst X24 hx hby d29_33 ?_
  have f28 := ((((P6.other W1 (Or.inr (slot_ne (Or.inl (wh hw 236 rfl)) (Or.inr (wh hw 225 rfl)) (by decide) (t := .int) (t' := (.object "java/util/HashMap")) (by decide) (by decide)))).other W10 (Or.inr (slot_ne (Or.inl (wh hw 236 rfl)) (Or.inl (wh hw 229 rfl)) (by decide) (t := .int) (t' := .int) (by decide) (by decide)))).other W18 (Or.inr (slot_ne (Or.inl (wh hw 236 rfl)) (Or.inl (wh hw 232 rfl)) (by decide) (t := .int) (t' := (.object "java/util/HashMap$Node")) (by decide) (by decide)))).other W24 (Or.inr (slot_ne (Or.inl (wh hw 236 rfl)) (Or.inl (wh hw 234 rfl)) (by decide) (t := .int) (t' := (.object "java/util/HashMap$Node")) (by decide) (by decide))))
  have f29 := (f23.wr W24)
  refine qP X24 hx hby hZ hown (host := "") (Or.inl (wh hw 235 rfl)) Via.refl e24 f28 f29 (Or.inl (wh hw 236 rfl)) (wh hw 212 rfl) (ty := .int) d29_34 (fun T30 h30 X30 e30 W30 => ?_)
  have O31 := O25.wr W30 (show n0 ≤ xa by omega)
  have sz32 : h30.size = h24.size := Wr.size W30
  have K33 := K27.wr W30 (Or.inl (List.mem_of_getElem? (i := 0) rfl))
  have N30 := Fr.snoc X30 N24 (show n0 ≤ xa by omega)
  have Fw30 := f28.same W30
  refine q_aloadN X30 hx hby d29_37 rfl rfl ?_
  refine q_ifnullYes (pc := 38) X30 hx hby d29_38 (pc' := 78) (by decide) (by decide) ?_
  refine r_V X30 hx hby hret hlk d29_78 e30 ?_
  have f34 := ((((Fw1.other W10 (Or.inr (slot_ne (Or.inr (wh hw 225 rfl)) (Or.inl (wh hw 229 rfl)) (by decide) (t := (.object "java/util/HashMap")) (t' := .int) (by decide) (by decide)))).other W18 (Or.inr (slot_ne (Or.inr (wh hw 225 rfl)) (Or.inl (wh hw 232 rfl)) (by decide) (t := (.object "java/util/HashMap")) (t' := (.object "java/util/HashMap$Node")) (by decide) (by decide)))).other W24 (Or.inr (slot_ne (Or.inr (wh hw 225 rfl)) (Or.inl (wh hw 234 rfl)) (by decide) (t := (.object "java/util/HashMap")) (t' := (.object "java/util/HashMap$Node")) (by decide) (by decide)))).other W30 (Or.inr (slot_ne (Or.inr (wh hw 225 rfl)) (Or.inl (wh hw 236 rfl)) (by decide) (t := (.object "java/util/HashMap")) (t' := .int) (by decide) (by decide))))
  have f35 := (((Fw10.other W18 (Or.inr (slot_ne (Or.inl (wh hw 229 rfl)) (Or.inl (wh hw 232 rfl)) (by decide) (t := .int) (t' := (.object "java/util/HashMap$Node")) (by decide) (by decide)))).other W24 (Or.inr (slot_ne (Or.inl (wh hw 229 rfl)) (Or.inl (wh hw 234 rfl)) (by decide) (t := .int) (t' := (.object "java/util/HashMap$Node")) (by decide) (by decide)))).other W30 (Or.inr (slot_ne (Or.inl (wh hw 229 rfl)) (Or.inl (wh hw 236 rfl)) (by decide) (t := .int) (t' := .int) (by decide) (by decide))))
  have f36 := ((Fw18.other W24 (Or.inr (slot_ne (Or.inl (wh hw 232 rfl)) (Or.inl (wh hw 234 rfl)) (by decide) (t := (.object "java/util/HashMap$Node")) (t' := (.object "java/util/HashMap$Node")) (by decide) (by decide)))).other W30 (Or.inr (slot_ne (Or.inl (wh hw 232 rfl)) (Or.inl (wh hw 236 rfl)) (by decide) (t := (.object "java/util/HashMap$Node")) (t' := .int) (by decide) (by decide))))
  have f37 := (Fw24.other W30 (Or.inr (slot_ne (Or.inl (wh hw 234 rfl)) (Or.inl (wh hw 236 rfl)) (by decide) (t := (.object "java/util/HashMap$Node")) (t' := .int) (by decide) (by decide))))
  exact ⟨N30, K33, rfl, f34, f35, f36, f37, Fw30⟩
theorem d28_0 : decode B28 0 = .ok (.aload_n 0, 1) := by decide +kernel
theorem d28_1 : decode B28 1 = .ok (.aload_n 1, 1) := by decide +kernel
theorem d28_2 : decode B28 2 = .ok (.invokespecial 1, 3) := by decide +kernel
theorem d28_5 : decode B28 5 = .ok (.return_, 1) := by decide +kernel
theorem own_pn_java_util_HashMap_ValueIterator : plainName "java/util/HashMap$ValueIterator" = true := by first | (simp [plainName, overriddenIn]; done) | decide +kernel
theorem own_ef_own_viInit0 (m : MethodId) (xa : Addr) (xm : Addr) : entryFrame m #[.ref xa, .ref xm] 2 = mkF m 0 #[vR xa, vR xm] [] := by first | (simp [entryFrame, mkF, argsToLocals, Value.category]; done) | rfl
def Q_own_viInit0 (Z : State) (xa : Addr) (xm : Addr) (xq : Int32) (h0 : Heap) (n0 : Nat) (v : Option Value) (h : Heap) (L : List Loc) : Prop := Fr n0 L ∧ Keep h0 h [xa] ∧ v = none ∧ Fld Z h xa "java/util/HashMap$HashIterator" "this$0" "Ljava/util/HashMap;" (.ref xm) ∧ Fld Z h xa "java/util/HashMap$HashIterator" "expectedModCount" "I" (.int xq) ∧ Fld Z h xa "java/util/HashMap$HashIterator" "next" "Ljava/util/HashMap$Node;" .null ∧ Fld Z h xa "java/util/HashMap$HashIterator" "current" "Ljava/util/HashMap$Node;" .null ∧ Fld Z h xa "java/util/HashMap$HashIterator" "index" "I" (.int 0)
theorem own_viInit0 (l : Launch) (Z : State) (a0 : Array Value) (hw : ∀ d ∈ tables_1, d.before a0 Z = true) (ws : List Jvm.Cond) (xa : Addr) (xm : Addr) (xq : Int32) (h0 : Heap) (n0 : Nat) (O0 : Old Z n0 h0) (P0 : Exa Z h0 xa "java/util/HashMap$ValueIterator") (P1 : n0 ≤ xa) (P2 : Fld Z h0 xa "java/util/HashMap$HashIterator" "this$0" "Ljava/util/HashMap;" .null) (P3 : Fld Z h0 xa "java/util/HashMap$HashIterator" "expectedModCount" "I" (.int 0)) (P4 : Fld Z h0 xa "java/util/HashMap$HashIterator" "next" "Ljava/util/HashMap$Node;" .null) (P5 : Fld Z h0 xa "java/util/HashMap$HashIterator" "current" "Ljava/util/HashMap$Node;" .null) (P6 : Fld Z h0 xa "java/util/HashMap$HashIterator" "index" "I" (.int 0)) (P7 : Fld Z h0 xm "java/util/HashMap" "size" "I" (.int 0)) (P8 : Fld Z h0 xm "java/util/HashMap" "modCount" "I" (.int xq)) (P9 : Fld Z h0 xm "java/util/HashMap" "table" "[Ljava/util/HashMap$Node;" .null) (P10 : @LT.lt Nat _ xm xa) : own_Met l Z (⟨"java/util/HashMap$ValueIterator", "<init>", "(Ljava/util/HashMap;)V"⟩ : MethodName) jdk_2569_method_1_code 2 none ws ({ frames := 2, cells := 0, slots := 0, locals := 26 } : Room) #[.ref xa, .ref xm] h0 (Q_own_viInit0 Z xa xm xq h0 n0) := by
  refine own_mk (plainFor_of_name own_pn_java_util_HashMap_ValueIterator) O0 ?_
  intro p e s m below meth c s₁ hx hby hml hZ hown hnm hlk hret X0 e0 N0 z0 z1
  have K0 : Keep h0 h0 [xa] := Keep.refl _ _
  refine own_cast (own_ef_own_viInit0 m xa xm) ?_
  show own_Goes p e below (s₁.setTop (mkF m 0 #[vR xa, vR xm] [])) _
  have ltP0 : @LT.lt Nat _ xa h0.size := P0.lt
  refine q_aloadN X0 hx hby d28_0 rfl rfl ?_
  refine q_aloadN X0 hx hby d28_1 rfl rfl ?_
  refine k_N X0 hx hby hZ hown (wh hw 218 rfl) (wh hw 219 rfl) (W := 0) (own_hiInit0 l Z a0 hw [] xa xm xq h0 n0 O0 P0 (show n0 ≤ xa by first | assumption | omega | decide) P2 P3 P4 P5 P6 P7 P8 P9 (show @LT.lt Nat _ xm xa by first | assumption | omega | decide)) (wh hw 223 rfl) (wh hw 222 rfl) e0  hml (argsL := [.ref xm]) (rest := []) own_pd_13 d28_2 (fun _ T1 L1 X1 hQ1 => ?_)
  obtain ⟨h1, e1⟩ : ∃ z, T1.heap = z := ⟨_, rfl⟩
  rw [e1] at hQ1
  obtain ⟨Nc1, Kc1, rfl, c1_0, c1_1, c1_2, c1_3, c1_4⟩ := hQ1
  have N1 := Fr.app N0 Nc1
  have O2 := O0.keep Kc1 (allS (show n0 ≤ xa by omega) all0)
  have sz3 : h0.size ≤ h1.size := Kc1.1
  have K4 := Keep.trans K0 Kc1 (allS (Or.inl (List.mem_of_getElem? (i := 0) rfl)) all0)
  refine r_V X1 hx hby hret hlk d28_5 e1 ?_
  exact ⟨N1, K4, rfl, c1_0, c1_1, c1_2, c1_3, c1_4⟩
theorem d27_0 : decode B27 0 = .ok (.new 22, 3) := by decide +kernel
theorem d27_3 : decode B27 3 = .ok (.dup, 1) := by decide +kernel
theorem d27_4 : decode B27 4 = .ok (.aload_n 0, 1) := by decide +kernel
theorem d27_5 : decode B27 5 = .ok (.getfield 1, 3) := by decide +kernel
theorem d27_8 : decode B27 8 = .ok (.invokespecial 24, 3) := by decide +kernel
theorem d27_11 : decode B27 11 = .ok (.areturn, 1) := by decide +kernel
theorem own_ef_own_iter0 (m : MethodId) (xv : Addr) : entryFrame m #[.ref xv] 1 = mkF m 0 #[vR xv] [] := by first | (simp [entryFrame, mkF, argsToLocals, Value.category]; done) | rfl
def Q_own_iter0 (Z : State) (xv : Addr) (xm : Addr) (xq : Int32) (h0 : Heap) (n0 : Nat) (v : Option Value) (h : Heap) (L : List Loc) : Prop := Fr n0 L ∧ Keep h0 h [] ∧ ∃ (r : Addr), v = some (.ref r) ∧ Exa Z h r "java/util/HashMap$ValueIterator" ∧ Fld Z h r "java/util/HashMap$HashIterator" "this$0" "Ljava/util/HashMap;" (.ref xm) ∧ Fld Z h r "java/util/HashMap$HashIterator" "expectedModCount" "I" (.int xq) ∧ Fld Z h r "java/util/HashMap$HashIterator" "next" "Ljava/util/HashMap$Node;" .null ∧ Fld Z h r "java/util/HashMap$HashIterator" "current" "Ljava/util/HashMap$Node;" .null ∧ Fld Z h r "java/util/HashMap$HashIterator" "index" "I" (.int 0) ∧ h0.size ≤ r
theorem own_iter0 (l : Launch) (Z : State) (a0 : Array Value) (hw : ∀ d ∈ tables_1, d.before a0 Z = true) (ws : List Jvm.Cond) (xv : Addr) (xm : Addr) (xq : Int32) (h0 : Heap) (n0 : Nat) (O0 : Old Z n0 h0) (P0 : Fld Z h0 xv "java/util/HashMap$Values" "this$0" "Ljava/util/HashMap;" (.ref xm)) (P1 : Fld Z h0 xm "java/util/HashMap" "size" "I" (.int 0)) (P2 : Fld Z h0 xm "java/util/HashMap" "modCount" "I" (.int xq)) (P3 : Fld Z h0 xm "java/util/HashMap" "table" "[Ljava/util/HashMap$Node;" .null) (P4 : @LT.lt Nat _ xm h0.size) : own_Met l Z (⟨"java/util/HashMap$Values", "iterator", "()Ljava/util/Iterator;"⟩ : MethodName) jdk_2571_method_4_code 1 (some (.object "java/util/Iterator")) ws ({ frames := 3, cells := 1, slots := 5, locals := 40 } : Room) #[.ref xv] h0 (Q_own_iter0 Z xv xm xq h0 n0) := by
  refine own_mk (plainFor_of_name own_pn_java_util_HashMap_Values) O0 ?_
  intro p e s m below meth c s₁ hx hby hml hZ hown hnm hlk hret X0 e0 N0 z0 z1
  have K0 : Keep h0 h0 [] := Keep.refl _ _
  refine own_cast (own_ef_own_iter0 m xv) ?_
  show own_Goes p e below (s₁.setTop (mkF m 0 #[vR xv] [])) _
  obtain ⟨T1, h1, X1, e1, E1, A1, D1, -, st1⟩ := newO X0 hx hZ hown (wh hw 211 rfl) (wh hw 212 rfl) (wh hw 213 rfl) e0 (g := (mkF m 0 #[vR xv] [])) rfl (hb hby d27_0) (by decide) (by decide)
  obtain ⟨b1, g1⟩ : ∃ z, z = h0.size := ⟨_, rfl⟩
  rw [← g1] at A1 D1 st1
  refine gg st1 ?_
  have O2 := O0.ext E1
  have sz3 : h0.size ≤ h1.size := E1.1
  have K4 := K0.ext E1
  have l1 : @LT.lt Nat _ b1 h1.size := A1.lt
  have F1_this_0 : Fld Z h1 b1 "java/util/HashMap$HashIterator" "this$0" "Ljava/util/HashMap;" .null := D1 (Or.inr (wh hw 225 rfl)) (ty := (.object "java/util/HashMap")) (by decide)
  have F1_expectedModCount : Fld Z h1 b1 "java/util/HashMap$HashIterator" "expectedModCount" "I" (.int 0) := D1 (Or.inl (wh hw 229 rfl)) (ty := .int) (by decide)
  have F1_next : Fld Z h1 b1 "java/util/HashMap$HashIterator" "next" "Ljava/util/HashMap$Node;" .null := D1 (Or.inl (wh hw 232 rfl)) (ty := (.object "java/util/HashMap$Node")) (by decide)
  have F1_current : Fld Z h1 b1 "java/util/HashMap$HashIterator" "current" "Ljava/util/HashMap$Node;" .null := D1 (Or.inl (wh hw 234 rfl)) (ty := (.object "java/util/HashMap$Node")) (by decide)
  have F1_index : Fld Z h1 b1 "java/util/HashMap$HashIterator" "index" "I" (.int 0) := D1 (Or.inl (wh hw 236 rfl)) (ty := .int) (by decide)
  refine q_dup X1 hx hby d27_3 rfl ?_
  refine q_aloadN X1 hx hby d27_4 rfl rfl ?_
  have f5 := (P0.ext E1)
  refine qG X1 hx hby hZ hown (wh hw 198 rfl) e1 f5 d27_5 (fun T6 X6 e6 => ?_)
  have f7 := (P1.ext E1)
  have f8 := (P2.ext E1)
  have f9 := (P3.ext E1)
  refine k_N X6 hx hby hZ hown (wh hw 214 rfl) (wh hw 215 rfl) (W := 1) (own_viInit0 l Z a0 hw [] b1 xm xq h1 n0 O2 A1 (show n0 ≤ b1 by first | assumption | omega | decide) F1_this_0 F1_expectedModCount F1_next F1_current F1_index f7 f8 f9 (show @LT.lt Nat _ xm b1 by first | assumption | omega | decide)) (wh hw 217 rfl) (wh hw 213 rfl) e6  hml (argsL := [.ref xm]) (rest := [.ref b1]) own_pd_13 d27_8 (fun _ T10 L10 X10 hQ10 => ?_)
  obtain ⟨h10, e10⟩ : ∃ z, T10.heap = z := ⟨_, rfl⟩
  rw [e10] at hQ10
  obtain ⟨Nc10, Kc10, rfl, c10_0, c10_1, c10_2, c10_3, c10_4⟩ := hQ10
  have N10 := Fr.app N0 Nc10
  have O11 := O2.keep Kc10 (allS (show n0 ≤ b1 by omega) all0)
  have sz12 : h1.size ≤ h10.size := Kc10.1
  have K13 := Keep.trans K4 Kc10 (allS (Or.inr (show h0.size ≤ b1 by omega)) all0)
  refine r_R X10 hx hby hret hlk d27_11 e10 ?_
  have f14 := (A1.keep Kc10)
  exact ⟨N10, K13, b1, rfl, f14, c10_0, c10_1, c10_2, c10_3, c10_4, (show h0.size ≤ b1 by first | assumption | omega | decide)⟩
theorem d29_41 : decode B29 41 = .ok (.aload_n 1, 1) := by decide +kernel
theorem d29_42 : decode B29 42 = .ok (.getfield 36, 3) := by decide +kernel
theorem d29_45 : decode B29 45 = .ok (.ifCond .le 33, 3) := by decide +kernel
theorem d29_48 : decode B29 48 = .ok (.aload_n 0, 1) := by decide +kernel
theorem d29_49 : decode B29 49 = .ok (.getfield 33, 3) := by decide +kernel
theorem d29_52 : decode B29 52 = .ok (.aload_n 2, 1) := by decide +kernel
theorem d29_53 : decode B29 53 = .ok (.arraylength, 1) := by decide +kernel
theorem d29_54 : decode B29 54 = .ok (.if_icmp .ge 24, 3) := by decide +kernel
theorem d29_57 : decode B29 57 = .ok (.aload_n 0, 1) := by decide +kernel
theorem d29_58 : decode B29 58 = .ok (.aload_n 2, 1) := by decide +kernel
theorem d29_59 : decode B29 59 = .ok (.aload_n 0, 1) := by decide +kernel
theorem d29_60 : decode B29 60 = .ok (.dup, 1) := by decide +kernel
theorem d29_61 : decode B29 61 = .ok (.getfield 33, 3) := by decide +kernel
theorem d29_64 : decode B29 64 = .ok (.dup_x1, 1) := by decide +kernel
theorem d29_65 : decode B29 65 = .ok (.iconst 1, 1) := by decide +kernel
theorem d29_66 : decode B29 66 = .ok (.iadd, 1) := by decide +kernel
theorem d29_67 : decode B29 67 = .ok (.putfield 33, 3) := by decide +kernel
theorem d29_70 : decode B29 70 = .ok (.aaload, 1) := by decide +kernel
theorem d29_71 : decode B29 71 = .ok (.dup_x1, 1) := by decide +kernel
theorem d29_72 : decode B29 72 = .ok (.putfield 26, 3) := by decide +kernel
theorem d29_75 : decode B29 75 = .ok (.ifnull (-27), 3) := by decide +kernel
theorem own_ef_own_hiInit1 (m : MethodId) (xa : Addr) (xm : Addr) : entryFrame m #[.ref xa, .ref xm] 3 = mkF m 0 #[vR xa, vR xm, uS] [] := by first | (simp [entryFrame, mkF, argsToLocals, Value.category]; done) | rfl
def Q_own_hiInit1 (Z : State) (xa : Addr) (xm : Addr) (xq : Int32) (xs : Int32) (xt : Addr) (xk : ClassId) (x1 : Addr) (x2 : Value) (x3 : Value) (h0 : Heap) (n0 : Nat) (v : Option Value) (h : Heap) (L : List Loc) : Prop := Fr n0 L ∧ Keep h0 h [xa] ∧ v = none ∧ Fld Z h xa "java/util/HashMap$HashIterator" "this$0" "Ljava/util/HashMap;" (.ref xm) ∧ Fld Z h xa "java/util/HashMap$HashIterator" "expectedModCount" "I" (.int xq) ∧ Fld Z h xa "java/util/HashMap$HashIterator" "next" "Ljava/util/HashMap$Node;" (.ref x1) ∧ Fld Z h xa "java/util/HashMap$HashIterator" "current" "Ljava/util/HashMap$Node;" .null ∧ Fld Z h xa "java/util/HashMap$HashIterator" "index" "I" (.int 2)
theorem own_hiInit1 (l : Launch) (Z : State) (a0 : Array Value) (hw : ∀ d ∈ tables_1, d.before a0 Z = true) (ws : List Jvm.Cond) (xa : Addr) (xm : Addr) (xq : Int32) (xs : Int32) (xt : Addr) (xk : ClassId) (x1 : Addr) (x2 : Value) (x3 : Value) (h0 : Heap) (n0 : Nat) (O0 : Old Z n0 h0) (P0 : Exa Z h0 xa "java/util/HashMap$ValueIterator") (P1 : n0 ≤ xa) (P2 : Fld Z h0 xa "java/util/HashMap$HashIterator" "this$0" "Ljava/util/HashMap;" .null) (P3 : Fld Z h0 xa "java/util/HashMap$HashIterator" "expectedModCount" "I" (.int 0)) (P4 : Fld Z h0 xa "java/util/HashMap$HashIterator" "next" "Ljava/util/HashMap$Node;" .null) (P5 : Fld Z h0 xa "java/util/HashMap$HashIterator" "current" "Ljava/util/HashMap$Node;" .null) (P6 : Fld Z h0 xa "java/util/HashMap$HashIterator" "index" "I" (.int 0)) (P7 : Fld Z h0 xm "java/util/HashMap" "size" "I" (.int xs)) (P8 : Fld Z h0 xm "java/util/HashMap" "modCount" "I" (.int xq)) (P9 : Fld Z h0 xm "java/util/HashMap" "table" "[Ljava/util/HashMap$Node;" (.ref xt)) (P10 : Arv Z h0 xt xk (.object "java/util/HashMap$Node") (16 : Int32) [.null, .ref x1, x2, x3, .null, .null, .null, .null, .null, .null, .null, .null, .null, .null, .null, .null] .null) (P11 : (0 : Int32) < xs) (P12 : @LT.lt Nat _ xm xa) (P13 : @LT.lt Nat _ xt xa) : own_Met l Z (⟨"java/util/HashMap$HashIterator", "<init>", "(Ljava/util/HashMap;)V"⟩ : MethodName) jdk_99_method_1_code 3 none ws ({ frames := 1, cells := 0, slots := 0, locals := 12 } : Room) #[.ref xa, .ref xm] h0 (Q_own_hiInit1 Z xa xm xq xs xt xk x1 x2 x3 h0 n0) := by
  refine own_mk (plainFor_of_name own_pn_java_util_HashMap_HashIterator) O0 ?_
  intro p e s m below meth c s₁ hx hby hml hZ hown hnm hlk hret X0 e0 N0 z0 z1
  have K0 : Keep h0 h0 [xa] := Keep.refl _ _
  refine own_cast (own_ef_own_hiInit1 m xa xm) ?_
  show own_Goes p e below (s₁.setTop (mkF m 0 #[vR xa, vR xm, uS] [])) _
  have ltP0 : @LT.lt Nat _ xa h0.size := P0.lt
  have ltP10 : @LT.lt Nat _ xt h0.size := P10.lt
  refine q_aloadN X0 hx hby d29_0 rfl rfl ?_
  refine q_aloadN X0 hx hby d29_1 rfl rfl ?_
  refine qP X0 hx hby hZ hown (host := "") (Or.inl (wh hw 224 rfl)) Via.refl e0 P2 P0 (Or.inr ⟨(wh hw 225 rfl), rfl, hnm⟩) (wh hw 212 rfl) (ty := (.object "java/util/HashMap")) d29_2 (fun T1 h1 X1 e1 W1 => ?_)
  have O2 := O0.wr W1 (show n0 ≤ xa by omega)
  have sz3 : h1.size = h0.size := Wr.size W1
  have K4 := K0.wr W1 (Or.inl (List.mem_of_getElem? (i := 0) rfl))
  have N1 := Fr.snoc X1 N0 (show n0 ≤ xa by omega)
  have Fw1 := P2.same W1
  refine q_aloadN X1 hx hby d29_5 rfl rfl ?_
  obtain ⟨T5, X5, e5, st5⟩ := initO X1 hx hZ hown (wh hw 226 rfl) (wh hw 19 rfl) (wh hw 20 rfl) e1 (g := (mkF m 6 #[vR xa, vR xm, uS] [.ref xa])) rfl (by rw [hml]; rfl) rfl (hb hby d29_6) (by decide) (W := 0) (by show 2 * 0 + _ ≤ _; exact Nat.le_of_eq rfl) (by decide)
  refine gg st5 ?_
  refine q_aloadN X5 hx hby d29_9 rfl rfl ?_
  refine q_aloadN X5 hx hby d29_10 rfl rfl ?_
  have f6 := (P8.other W1 (Or.inl (nE xm xa (by omega))))
  refine qG X5 hx hby hZ hown (wh hw 227 rfl) e5 f6 d29_11 (fun T7 X7 e7 => ?_)
  have f8 := (P3.other W1 (Or.inr (slot_ne (Or.inl (wh hw 229 rfl)) (Or.inr (wh hw 225 rfl)) (by decide) (t := .int) (t' := (.object "java/util/HashMap")) (by decide) (by decide))))
  have f9 := (P0.wr W1)
  refine qP X7 hx hby hZ hown (host := "") (Or.inl (wh hw 228 rfl)) Via.refl e7 f8 f9 (Or.inl (wh hw 229 rfl)) (wh hw 212 rfl) (ty := .int) d29_14 (fun T10 h10 X10 e10 W10 => ?_)
  have O11 := O2.wr W10 (show n0 ≤ xa by omega)
  have sz12 : h10.size = h1.size := Wr.size W10
  have K13 := K4.wr W10 (Or.inl (List.mem_of_getElem? (i := 0) rfl))
  have N10 := Fr.snoc X10 N1 (show n0 ≤ xa by omega)
  have Fw10 := f8.same W10
  refine q_aloadN X10 hx hby d29_17 rfl rfl ?_
  have f14 := ((P9.other W1 (Or.inl (nE xm xa (by omega)))).other W10 (Or.inl (nE xm xa (by omega))))
  refine qG X10 hx hby hZ hown (wh hw 230 rfl) e10 f14 d29_18 (fun T15 X15 e15 => ?_)
  refine q_astoreN X15 hx hby d29_21 rfl (l' := #[vR xa, vR xm, vR xt]) rfl ?_
  refine q_aloadN X15 hx hby d29_22 rfl rfl ?_
  refine q_aloadN X15 hx hby d29_23 rfl rfl ?_
  show own_Goes p e below (T15.setTop (mkF m 24 #[vR xa, vR xm, vR xt] [.ref xa, .ref xa])) _
  refine q_aconstNull X15 hx hby d29_24 ?_
  refine gg (fun t k => XS.dupX1 X15.here hx rfl (hb hby d29_25) rfl rfl rfl k) ?_
  have f16 := ((P4.other W1 (Or.inr (slot_ne (Or.inl (wh hw 232 rfl)) (Or.inr (wh hw 225 rfl)) (by decide) (t := (.object "java/util/HashMap$Node")) (t' := (.object "java/util/HashMap")) (by decide) (by decide)))).other W10 (Or.inr (slot_ne (Or.inl (wh hw 232 rfl)) (Or.inl (wh hw 229 rfl)) (by decide) (t := (.object "java/util/HashMap$Node")) (t' := .int) (by decide) (by decide))))
  have f17 := (f9.wr W10)
  refine qP X15 hx hby hZ hown (host := "") (Or.inl (wh hw 231 rfl)) Via.refl e15 f16 f17 (Or.inl (wh hw 232 rfl)) (wh hw 212 rfl) (ty := (.object "java/util/HashMap$Node")) d29_26 (fun T18 h18 X18 e18 W18 => ?_)
  have O19 := O11.wr W18 (show n0 ≤ xa by omega)
  have sz20 : h18.size = h10.size := Wr.size W18
  have K21 := K13.wr W18 (Or.inl (List.mem_of_getElem? (i := 0) rfl))
  have N18 := Fr.snoc X18 N10 (show n0 ≤ xa by omega)
  have Fw18 := f16.same W18
  have f22 := (((P5.other W1 (Or.inr (slot_ne (Or.inl (wh hw 234 rfl)) (Or.inr (wh hw 225 rfl)) (by decide) (t := (.object "java/util/HashMap$Node")) (t' := (.object "java/util/HashMap")) (by decide) (by decide)))).other W10 (Or.inr (slot_ne (Or.inl (wh hw 234 rfl)) (Or.inl (wh hw 229 rfl)) (by decide) (t := (.object "java/util/HashMap$Node")) (t' := .int) (by decide) (by decide)))).other W18 (Or.inr (slot_ne (Or.inl (wh hw 234 rfl)) (Or.inl (wh hw 232 rfl)) (by decide) (t := (.object "java/util/HashMap$Node")) (t' := (.object "java/util/HashMap$Node")) (by decide) (by decide))))
  have f23 := (f17.wr W18)
  refine qP X18 hx hby hZ hown (host := "") (Or.inl (wh hw 233 rfl)) Via.refl e18 f22 f23 (Or.inl (wh hw 234 rfl)) (wh hw 212 rfl) (ty := (.object "java/util/HashMap$Node")) d29_29 (fun T24 h24 X24 e24 W24 => ?_)
  have O25 := O19.wr W24 (show n0 ≤ xa by omega)
  have sz26 : h24.size = h18.size := Wr.size W24
  have K27 := K21.wr W24 (Or.inl (List.mem_of_getElem? (i := 0) rfl))
  have N24 := Fr.snoc X24 N18 (show n0 ≤ xa by omega)
  have Fw24 := f22.same W24
  refine q_aloadN X24 hx hby d29_32 rfl rfl ?_
  refine q_iconst X24 hx hby d29_33 ?_
  have f28 := ((((P6.other W1 (Or.inr (slot_ne (Or.inl (wh hw 236 rfl)) (Or.inr (wh hw 225 rfl)) (by decide) (t := .int) (t' := (.object "java/util/HashMap")) (by decide) (by decide)))).other W10 (Or.inr (slot_ne (Or.inl (wh hw 236 rfl)) (Or.inl (wh hw 229 rfl)) (by decide) (t := .int) (t' := .int) (by decide) (by decide)))).other W18 (Or.inr (slot_ne (Or.inl (wh hw 236 rfl)) (Or.inl (wh hw 232 rfl)) (by decide) (t := .int) (t' := (.object "java/util/HashMap$Node")) (by decide) (by decide)))).other W24 (Or.inr (slot_ne (Or.inl (wh hw 236 rfl)) (Or.inl (wh hw 234 rfl)) (by decide) (t := .int) (t' := (.object "java/util/HashMap$Node")) (by decide) (by decide))))
  have f29 := (f23.wr W24)
  refine qP X24 hx hby hZ hown (host := "") (Or.inl (wh hw 235 rfl)) Via.refl e24 f28 f29 (Or.inl (wh hw 236 rfl)) (wh hw 212 rfl) (ty := .int) d29_34 (fun T30 h30 X30 e30 W30 => ?_)
  have O31 := O25.wr W30 (show n0 ≤ xa by omega)
  have sz32 : h30.size = h24.size := Wr.size W30
  have K33 := K27.wr W30 (Or.inl (List.mem_of_getElem? (i := 0) rfl))
  have N30 := Fr.snoc X30 N24 (show n0 ≤ xa by omega)
  have Fw30 := f28.same W30
  refine q_aloadN X30 hx hby d29_37 rfl rfl ?_
  refine q_ifnullNo X30 hx hby d29_38 ?_
  refine q_aloadN X30 hx hby d29_41 rfl rfl ?_
  have f34 := (((((P7.other W1 (Or.inl (nE xm xa (by omega)))).other W10 (Or.inl (nE xm xa (by omega)))).other W18 (Or.inl (nE xm xa (by omega)))).other W24 (Or.inl (nE xm xa (by omega)))).other W30 (Or.inl (nE xm xa (by omega))))
  refine qG X30 hx hby hZ hown (wh hw 237 rfl) e30 f34 d29_42 (fun T35 X35 e35 => ?_)
  refine q_ifNo X35 hx hby d29_45 ((if0 _ _).trans (tlt (show ((0 : Int32) < xs) from P11)).2.2.2) ?_
  refine q_aloadN X35 hx hby d29_48 rfl rfl ?_
  refine qG X35 hx hby hZ hown (wh hw 235 rfl) e35 Fw30 d29_49 (fun T36 X36 e36 => ?_)
  show own_Goes p e below (T36.setTop (mkF m 52 #[vR xa, vR xm, vR xt] [.int 0])) _
  refine q_aloadN X36 hx hby d29_52 rfl rfl ?_
  have f37 := (((((P10.other W1 (nE xt xa (by omega))).other W10 (nE xt xa (by omega))).other W18 (nE xt xa (by omega))).other W24 (nE xt xa (by omega))).other W30 (nE xt xa (by omega)))
  refine q_len X36 hx hby hZ e36 f37 d29_53 ?_
  refine q_icmpNo X36 hx hby d29_54 (tlt (show ((0 : Int32) < (16 : Int32)) from by decide)).2.1 ?_
  refine q_aloadN X36 hx hby d29_57 rfl rfl ?_
  refine q_aloadN X36 hx hby d29_58 rfl rfl ?_
  refine q_aloadN X36 hx hby d29_59 rfl rfl ?_
  refine q_dup X36 hx hby d29_60 rfl ?_
  refine qG X36 hx hby hZ hown (wh hw 235 rfl) e36 Fw30 d29_61 (fun T39 X39 e39 => ?_)
  refine gg (fun t k => XS.dupX1 X39.here hx rfl (hb hby d29_64) rfl rfl rfl k) ?_
  refine q_iconst X39 hx hby d29_65 ?_
  refine q_iadd X39 hx hby d29_66 ?_
  show own_Goes p e below (T39.setTop (mkF m 67 #[vR xa, vR xm, vR xt] [(.int ((0 : Int32) + (1 : Int32))), .ref xa, .int 0, .ref xt, .ref xa])) _
  rw [show ((0 : Int32) + (1 : Int32)) = (1 : Int32) from by decide]
  have f40 := (f29.wr W30)
  refine qP X39 hx hby hZ hown (host := "") (Or.inl (wh hw 235 rfl)) Via.refl e39 Fw30 f40 (Or.inl (wh hw 236 rfl)) (wh hw 212 rfl) (ty := .int) d29_67 (fun T41 h41 X41 e41 W41 => ?_)
  have O42 := O31.wr W41 (show n0 ≤ xa by omega)
  have sz43 : h41.size = h30.size := Wr.size W41
  have K44 := K33.wr W41 (Or.inl (List.mem_of_getElem? (i := 0) rfl))
  have N41 := Fr.snoc X41 N30 (show n0 ≤ xa by omega)
  have Fw41 := Fw30.same W41
  have f45 := (f37.other W41 (nE xt xa (by omega)))
  refine q_aaload X41 hx hby hZ e41 f45 d29_70 .null ?_
  refine gg (fun t k => XS.dupX1 X41.here hx rfl (hb hby d29_71) rfl rfl rfl k) ?_
  have f47 := (((Fw18.other W24 (Or.inr (slot_ne (Or.inl (wh hw 232 rfl)) (Or.inl (wh hw 234 rfl)) (by decide) (t := (.object "java/util/HashMap$Node")) (t' := (.object "java/util/HashMap$Node")) (by decide) (by decide)))).other W30 (Or.inr (slot_ne (Or.inl (wh hw 232 rfl)) (Or.inl (wh hw 236 rfl)) (by decide) (t := (.object "java/util/HashMap$Node")) (t' := .int) (by decide) (by decide)))).other W41 (Or.inr (slot_ne (Or.inl (wh hw 232 rfl)) (Or.inl (wh hw 236 rfl)) (by decide) (t := (.object "java/util/HashMap$Node")) (t' := .int) (by decide) (by decide))))
  have f48 := (f40.wr W41)
  refine qP X41 hx hby hZ hown (host := "") (Or.inl (wh hw 231 rfl)) Via.refl e41 f47 f48 (Or.inl (wh hw 232 rfl)) (wh hw 212 rfl) (ty := (.object "java/util/HashMap$Node")) d29_72 (fun T49 h49 X49 e49 W49 => ?_)
  have O50 := O42.wr W49 (show n0 ≤ xa by omega)
  have sz51 : h49.size = h41.size := Wr.size W49
  have K52 := K44.wr W49 (Or.inl (List.mem_of_getElem? (i := 0) rfl))
  have N49 := Fr.snoc X49 N41 (show n0 ≤ xa by omega)
  have Fw49 := f47.same W49
  refine q_ifnullYes (pc := 75) X49 hx hby d29_75 (pc' := 48) (by decide) (by decide) ?_
  refine q_aloadN X49 hx hby d29_48 rfl rfl ?_
  have f53 := (Fw41.other W49 (Or.inr (slot_ne (Or.inl (wh hw 236 rfl)) (Or.inl (wh hw 232 rfl)) (by decide) (t := .int) (t' := (.object "java/util/HashMap$Node")) (by decide) (by decide))))
  refine qG X49 hx hby hZ hown (wh hw 235 rfl) e49 f53 d29_49 (fun T54 X54 e54 => ?_)
  refine q_aloadN X54 hx hby d29_52 rfl rfl ?_
  have f55 := (f45.other W49 (nE xt xa (by omega)))
  refine q_len X54 hx hby hZ e54 f55 d29_53 ?_
  refine q_icmpNo X54 hx hby d29_54 (tlt (show ((1 : Int32) < (16 : Int32)) from by decide)).2.1 ?_
  refine q_aloadN X54 hx hby d29_57 rfl rfl ?_
  refine q_aloadN X54 hx hby d29_58 rfl rfl ?_
  refine q_aloadN X54 hx hby d29_59 rfl rfl ?_
  refine q_dup X54 hx hby d29_60 rfl ?_
  show own_Goes p e below (T54.setTop (mkF m 61 #[vR xa, vR xm, vR xt] [.ref xa, .ref xa, .ref xt, .ref xa])) _
  refine qG X54 hx hby hZ hown (wh hw 235 rfl) e54 f53 d29_61 (fun T57 X57 e57 => ?_)
  refine gg (fun t k => XS.dupX1 X57.here hx rfl (hb hby d29_64) rfl rfl rfl k) ?_
  refine q_iconst X57 hx hby d29_65 ?_
  refine q_iadd X57 hx hby d29_66 ?_
  show own_Goes p e below (T57.setTop (mkF m 67 #[vR xa, vR xm, vR xt] [(.int ((1 : Int32) + (1 : Int32))), .ref xa, .int 1, .ref xt, .ref xa])) _
  rw [show ((1 : Int32) + (1 : Int32)) = (2 : Int32) from by decide]
  have f58 := (f48.wr W49)
  refine qP X57 hx hby hZ hown (host := "") (Or.inl (wh hw 235 rfl)) Via.refl e57 f53 f58 (Or.inl (wh hw 236 rfl)) (wh hw 212 rfl) (ty := .int) d29_67 (fun T59 h59 X59 e59 W59 => ?_)
  have O60 := O50.wr W59 (show n0 ≤ xa by omega)
  have sz61 : h59.size = h49.size := Wr.size W59
  have K62 := K52.wr W59 (Or.inl (List.mem_of_getElem? (i := 0) rfl))
  have N59 := Fr.snoc X59 N49 (show n0 ≤ xa by omega)
  have Fw59 := f53.same W59
  have f63 := (f55.other W59 (nE xt xa (by omega)))
  refine q_aaload X59 hx hby hZ e59 f63 d29_70 (.ref x1) ?_
  refine gg (fun t k => XS.dupX1 X59.here hx rfl (hb hby d29_71) rfl rfl rfl k) ?_
  have f65 := (Fw49.other W59 (Or.inr (slot_ne (Or.inl (wh hw 232 rfl)) (Or.inl (wh hw 236 rfl)) (by decide) (t := (.object "java/util/HashMap$Node")) (t' := .int) (by decide) (by decide))))
  have f66 := (f58.wr W59)
  refine qP X59 hx hby hZ hown (host := "") (Or.inl (wh hw 231 rfl)) Via.refl e59 f65 f66 (Or.inl (wh hw 232 rfl)) (wh hw 212 rfl) (ty := (.object "java/util/HashMap$Node")) d29_72 (fun T67 h67 X67 e67 W67 => ?_)
  have O68 := O60.wr W67 (show n0 ≤ xa by omega)
  have sz69 : h67.size = h59.size := Wr.size W67
  have K70 := K62.wr W67 (Or.inl (List.mem_of_getElem? (i := 0) rfl))
  have N67 := Fr.snoc X67 N59 (show n0 ≤ xa by omega)
  have Fw67 := f65.same W67
  refine q_ifnullNo X67 hx hby d29_75 ?_
  refine r_V X67 hx hby hret hlk d29_78 e67 ?_
  have f71 := ((((((((Fw1.other W10 (Or.inr (slot_ne (Or.inr (wh hw 225 rfl)) (Or.inl (wh hw 229 rfl)) (by decide) (t := (.object "java/util/HashMap")) (t' := .int) (by decide) (by decide)))).other W18 (Or.inr (slot_ne (Or.inr (wh hw 225 rfl)) (Or.inl (wh hw 232 rfl)) (by decide) (t := (.object "java/util/HashMap")) (t' := (.object "java/util/HashMap$Node")) (by decide) (by decide)))).other W24 (Or.inr (slot_ne (Or.inr (wh hw 225 rfl)) (Or.inl (wh hw 234 rfl)) (by decide) (t := (.object "java/util/HashMap")) (t' := (.object "java/util/HashMap$Node")) (by decide) (by decide)))).other W30 (Or.inr (slot_ne (Or.inr (wh hw 225 rfl)) (Or.inl (wh hw 236 rfl)) (by decide) (t := (.object "java/util/HashMap")) (t' := .int) (by decide) (by decide)))).other W41 (Or.inr (slot_ne (Or.inr (wh hw 225 rfl)) (Or.inl (wh hw 236 rfl)) (by decide) (t := (.object "java/util/HashMap")) (t' := .int) (by decide) (by decide)))).other W49 (Or.inr (slot_ne (Or.inr (wh hw 225 rfl)) (Or.inl (wh hw 232 rfl)) (by decide) (t := (.object "java/util/HashMap")) (t' := (.object "java/util/HashMap$Node")) (by decide) (by decide)))).other W59 (Or.inr (slot_ne (Or.inr (wh hw 225 rfl)) (Or.inl (wh hw 236 rfl)) (by decide) (t := (.object "java/util/HashMap")) (t' := .int) (by decide) (by decide)))).other W67 (Or.inr (slot_ne (Or.inr (wh hw 225 rfl)) (Or.inl (wh hw 232 rfl)) (by decide) (t := (.object "java/util/HashMap")) (t' := (.object "java/util/HashMap$Node")) (by decide) (by decide))))
  have f72 := (((((((Fw10.other W18 (Or.inr (slot_ne (Or.inl (wh hw 229 rfl)) (Or.inl (wh hw 232 rfl)) (by decide) (t := .int) (t' := (.object "java/util/HashMap$Node")) (by decide) (by decide)))).other W24 (Or.inr (slot_ne (Or.inl (wh hw 229 rfl)) (Or.inl (wh hw 234 rfl)) (by decide) (t := .int) (t' := (.object "java/util/HashMap$Node")) (by decide) (by decide)))).other W30 (Or.inr (slot_ne (Or.inl (wh hw 229 rfl)) (Or.inl (wh hw 236 rfl)) (by decide) (t := .int) (t' := .int) (by decide) (by decide)))).other W41 (Or.inr (slot_ne (Or.inl (wh hw 229 rfl)) (Or.inl (wh hw 236 rfl)) (by decide) (t := .int) (t' := .int) (by decide) (by decide)))).other W49 (Or.inr (slot_ne (Or.inl (wh hw 229 rfl)) (Or.inl (wh hw 232 rfl)) (by decide) (t := .int) (t' := (.object "java/util/HashMap$Node")) (by decide) (by decide)))).other W59 (Or.inr (slot_ne (Or.inl (wh hw 229 rfl)) (Or.inl (wh hw 236 rfl)) (by decide) (t := .int) (t' := .int) (by decide) (by decide)))).other W67 (Or.inr (slot_ne (Or.inl (wh hw 229 rfl)) (Or.inl (wh hw 232 rfl)) (by decide) (t := .int) (t' := (.object "java/util/HashMap$Node")) (by decide) (by decide))))
  have f73 := (((((Fw24.other W30 (Or.inr (slot_ne (Or.inl (wh hw 234 rfl)) (Or.inl (wh hw 236 rfl)) (by decide) (t := (.object "java/util/HashMap$Node")) (t' := .int) (by decide) (by decide)))).other W41 (Or.inr (slot_ne (Or.inl (wh hw 234 rfl)) (Or.inl (wh hw 236 rfl)) (by decide) (t := (.object "java/util/HashMap$Node")) (t' := .int) (by decide) (by decide)))).other W49 (Or.inr (slot_ne (Or.inl (wh hw 234 rfl)) (Or.inl (wh hw 232 rfl)) (by decide) (t := (.object "java/util/HashMap$Node")) (t' := (.object "java/util/HashMap$Node")) (by decide) (by decide)))).other W59 (Or.inr (slot_ne (Or.inl (wh hw 234 rfl)) (Or.inl (wh hw 236 rfl)) (by decide) (t := (.object "java/util/HashMap$Node")) (t' := .int) (by decide) (by decide)))).other W67 (Or.inr (slot_ne (Or.inl (wh hw 234 rfl)) (Or.inl (wh hw 232 rfl)) (by decide) (t := (.object "java/util/HashMap$Node")) (t' := (.object "java/util/HashMap$Node")) (by decide) (by decide))))
  have f74 := (Fw59.other W67 (Or.inr (slot_ne (Or.inl (wh hw 236 rfl)) (Or.inl (wh hw 232 rfl)) (by decide) (t := .int) (t' := (.object "java/util/HashMap$Node")) (by decide) (by decide))))
  exact ⟨N67, K70, rfl, f71, f72, Fw67, f73, f74⟩
theorem own_ef_own_viInit1 (m : MethodId) (xa : Addr) (xm : Addr) : entryFrame m #[.ref xa, .ref xm] 2 = mkF m 0 #[vR xa, vR xm] [] := by first | (simp [entryFrame, mkF, argsToLocals, Value.category]; done) | rfl
def Q_own_viInit1 (Z : State) (xa : Addr) (xm : Addr) (xq : Int32) (xs : Int32) (xt : Addr) (xk : ClassId) (x1 : Addr) (x2 : Value) (x3 : Value) (h0 : Heap) (n0 : Nat) (v : Option Value) (h : Heap) (L : List Loc) : Prop := Fr n0 L ∧ Keep h0 h [xa] ∧ v = none ∧ Fld Z h xa "java/util/HashMap$HashIterator" "this$0" "Ljava/util/HashMap;" (.ref xm) ∧ Fld Z h xa "java/util/HashMap$HashIterator" "expectedModCount" "I" (.int xq) ∧ Fld Z h xa "java/util/HashMap$HashIterator" "next" "Ljava/util/HashMap$Node;" (.ref x1) ∧ Fld Z h xa "java/util/HashMap$HashIterator" "current" "Ljava/util/HashMap$Node;" .null ∧ Fld Z h xa "java/util/HashMap$HashIterator" "index" "I" (.int 2)
theorem own_viInit1 (l : Launch) (Z : State) (a0 : Array Value) (hw : ∀ d ∈ tables_1, d.before a0 Z = true) (ws : List Jvm.Cond) (xa : Addr) (xm : Addr) (xq : Int32) (xs : Int32) (xt : Addr) (xk : ClassId) (x1 : Addr) (x2 : Value) (x3 : Value) (h0 : Heap) (n0 : Nat) (O0 : Old Z n0 h0) (P0 : Exa Z h0 xa "java/util/HashMap$ValueIterator") (P1 : n0 ≤ xa) (P2 : Fld Z h0 xa "java/util/HashMap$HashIterator" "this$0" "Ljava/util/HashMap;" .null) (P3 : Fld Z h0 xa "java/util/HashMap$HashIterator" "expectedModCount" "I" (.int 0)) (P4 : Fld Z h0 xa "java/util/HashMap$HashIterator" "next" "Ljava/util/HashMap$Node;" .null) (P5 : Fld Z h0 xa "java/util/HashMap$HashIterator" "current" "Ljava/util/HashMap$Node;" .null) (P6 : Fld Z h0 xa "java/util/HashMap$HashIterator" "index" "I" (.int 0)) (P7 : Fld Z h0 xm "java/util/HashMap" "size" "I" (.int xs)) (P8 : Fld Z h0 xm "java/util/HashMap" "modCount" "I" (.int xq)) (P9 : Fld Z h0 xm "java/util/HashMap" "table" "[Ljava/util/HashMap$Node;" (.ref xt)) (P10 : Arv Z h0 xt xk (.object "java/util/HashMap$Node") (16 : Int32) [.null, .ref x1, x2, x3, .null, .null, .null, .null, .null, .null, .null, .null, .null, .null, .null, .null] .null) (P11 : (0 : Int32) < xs) (P12 : @LT.lt Nat _ xm xa) (P13 : @LT.lt Nat _ xt xa) : own_Met l Z (⟨"java/util/HashMap$ValueIterator", "<init>", "(Ljava/util/HashMap;)V"⟩ : MethodName) jdk_2569_method_1_code 2 none ws ({ frames := 2, cells := 0, slots := 0, locals := 26 } : Room) #[.ref xa, .ref xm] h0 (Q_own_viInit1 Z xa xm xq xs xt xk x1 x2 x3 h0 n0) := by
  refine own_mk (plainFor_of_name own_pn_java_util_HashMap_ValueIterator) O0 ?_
  intro p e s m below meth c s₁ hx hby hml hZ hown hnm hlk hret X0 e0 N0 z0 z1
  have K0 : Keep h0 h0 [xa] := Keep.refl _ _
  refine own_cast (own_ef_own_viInit1 m xa xm) ?_
  show own_Goes p e below (s₁.setTop (mkF m 0 #[vR xa, vR xm] [])) _
  have ltP0 : @LT.lt Nat _ xa h0.size := P0.lt
  have ltP10 : @LT.lt Nat _ xt h0.size := P10.lt
  refine q_aloadN X0 hx hby d28_0 rfl rfl ?_
  refine q_aloadN X0 hx hby d28_1 rfl rfl ?_
  refine k_N X0 hx hby hZ hown (wh hw 218 rfl) (wh hw 219 rfl) (W := 0) (own_hiInit1 l Z a0 hw [] xa xm xq xs xt xk x1 x2 x3 h0 n0 O0 P0 (show n0 ≤ xa by first | assumption | omega | decide) P2 P3 P4 P5 P6 P7 P8 P9 P10 (show (0 : Int32) < xs by first | assumption | omega | decide) (show @LT.lt Nat _ xm xa by first | assumption | omega | decide) (show @LT.lt Nat _ xt xa by first | assumption | omega | decide)) (wh hw 223 rfl) (wh hw 222 rfl) e0  hml (argsL := [.ref xm]) (rest := []) own_pd_13 d28_2 (fun _ T1 L1 X1 hQ1 => ?_)
  obtain ⟨h1, e1⟩ : ∃ z, T1.heap = z := ⟨_, rfl⟩
  rw [e1] at hQ1
  obtain ⟨Nc1, Kc1, rfl, c1_0, c1_1, c1_2, c1_3, c1_4⟩ := hQ1
  have N1 := Fr.app N0 Nc1
  have O2 := O0.keep Kc1 (allS (show n0 ≤ xa by omega) all0)
  have sz3 : h0.size ≤ h1.size := Kc1.1
  have K4 := Keep.trans K0 Kc1 (allS (Or.inl (List.mem_of_getElem? (i := 0) rfl)) all0)
  refine r_V X1 hx hby hret hlk d28_5 e1 ?_
  exact ⟨N1, K4, rfl, c1_0, c1_1, c1_2, c1_3, c1_4⟩
theorem own_ef_own_iter1 (m : MethodId) (xv : Addr) : entryFrame m #[.ref xv] 1 = mkF m 0 #[vR xv] [] := by first | (simp [entryFrame, mkF, argsToLocals, Value.category]; done) | rfl
def Q_own_iter1 (Z : State) (xv : Addr) (xm : Addr) (xq : Int32) (xs : Int32) (xt : Addr) (xk : ClassId) (x1 : Addr) (x2 : Value) (x3 : Value) (h0 : Heap) (n0 : Nat) (v : Option Value) (h : Heap) (L : List Loc) : Prop := Fr n0 L ∧ Keep h0 h [] ∧ ∃ (r : Addr), v = some (.ref r) ∧ Exa Z h r "java/util/HashMap$ValueIterator" ∧ Fld Z h r "java/util/HashMap$HashIterator" "this$0" "Ljava/util/HashMap;" (.ref xm) ∧ Fld Z h r "java/util/HashMap$HashIterator" "expectedModCount" "I" (.int xq) ∧ Fld Z h r "java/util/HashMap$HashIterator" "next" "Ljava/util/HashMap$Node;" (.ref x1) ∧ Fld Z h r "java/util/HashMap$HashIterator" "current" "Ljava/util/HashMap$Node;" .null ∧ Fld Z h r "java/util/HashMap$HashIterator" "index" "I" (.int 2) ∧ h0.size ≤ r
theorem own_iter1 (l : Launch) (Z : State) (a0 : Array Value) (hw : ∀ d ∈ tables_1, d.before a0 Z = true) (ws : List Jvm.Cond) (xv : Addr) (xm : Addr) (xq : Int32) (xs : Int32) (xt : Addr) (xk : ClassId) (x1 : Addr) (x2 : Value) (x3 : Value) (h0 : Heap) (n0 : Nat) (O0 : Old Z n0 h0) (P0 : Fld Z h0 xv "java/util/HashMap$Values" "this$0" "Ljava/util/HashMap;" (.ref xm)) (P1 : Fld Z h0 xm "java/util/HashMap" "size" "I" (.int xs)) (P2 : Fld Z h0 xm "java/util/HashMap" "modCount" "I" (.int xq)) (P3 : Fld Z h0 xm "java/util/HashMap" "table" "[Ljava/util/HashMap$Node;" (.ref xt)) (P4 : Arv Z h0 xt xk (.object "java/util/HashMap$Node") (16 : Int32) [.null, .ref x1, x2, x3, .null, .null, .null, .null, .null, .null, .null, .null, .null, .null, .null, .null] .null) (P5 : (0 : Int32) < xs) (P6 : @LT.lt Nat _ xm h0.size) (P7 : @LT.lt Nat _ xt h0.size) : own_Met l Z (⟨"java/util/HashMap$Values", "iterator", "()Ljava/util/Iterator;"⟩ : MethodName) jdk_2571_method_4_code 1 (some (.object "java/util/Iterator")) ws ({ frames := 3, cells := 1, slots := 5, locals := 40 } : Room) #[.ref xv] h0 (Q_own_iter1 Z xv xm xq xs xt xk x1 x2 x3 h0 n0) := by
  refine own_mk (plainFor_of_name own_pn_java_util_HashMap_Values) O0 ?_
  intro p e s m below meth c s₁ hx hby hml hZ hown hnm hlk hret X0 e0 N0 z0 z1
  have K0 : Keep h0 h0 [] := Keep.refl _ _
  refine own_cast (own_ef_own_iter1 m xv) ?_
  show own_Goes p e below (s₁.setTop (mkF m 0 #[vR xv] [])) _
  have ltP4 : @LT.lt Nat _ xt h0.size := P4.lt
  obtain ⟨T1, h1, X1, e1, E1, A1, D1, -, st1⟩ := newO X0 hx hZ hown (wh hw 211 rfl) (wh hw 212 rfl) (wh hw 213 rfl) e0 (g := (mkF m 0 #[vR xv] [])) rfl (hb hby d27_0) (by decide) (by decide)
  obtain ⟨b1, g1⟩ : ∃ z, z = h0.size := ⟨_, rfl⟩
  rw [← g1] at A1 D1 st1
  refine gg st1 ?_
  have O2 := O0.ext E1
  have sz3 : h0.size ≤ h1.size := E1.1
  have K4 := K0.ext E1
  have l1 : @LT.lt Nat _ b1 h1.size := A1.lt
  have F1_this_0 : Fld Z h1 b1 "java/util/HashMap$HashIterator" "this$0" "Ljava/util/HashMap;" .null := D1 (Or.inr (wh hw 225 rfl)) (ty := (.object "java/util/HashMap")) (by decide)
  have F1_expectedModCount : Fld Z h1 b1 "java/util/HashMap$HashIterator" "expectedModCount" "I" (.int 0) := D1 (Or.inl (wh hw 229 rfl)) (ty := .int) (by decide)
  have F1_next : Fld Z h1 b1 "java/util/HashMap$HashIterator" "next" "Ljava/util/HashMap$Node;" .null := D1 (Or.inl (wh hw 232 rfl)) (ty := (.object "java/util/HashMap$Node")) (by decide)
  have F1_current : Fld Z h1 b1 "java/util/HashMap$HashIterator" "current" "Ljava/util/HashMap$Node;" .null := D1 (Or.inl (wh hw 234 rfl)) (ty := (.object "java/util/HashMap$Node")) (by decide)
  have F1_index : Fld Z h1 b1 "java/util/HashMap$HashIterator" "index" "I" (.int 0) := D1 (Or.inl (wh hw 236 rfl)) (ty := .int) (by decide)
  refine q_dup X1 hx hby d27_3 rfl ?_
  refine q_aloadN X1 hx hby d27_4 rfl rfl ?_
  have f5 := (P0.ext E1)
  refine qG X1 hx hby hZ hown (wh hw 198 rfl) e1 f5 d27_5 (fun T6 X6 e6 => ?_)
  have f7 := (P1.ext E1)
  have f8 := (P2.ext E1)
  have f9 := (P3.ext E1)
  have f10 := (P4.ext E1)
  refine k_N X6 hx hby hZ hown (wh hw 214 rfl) (wh hw 215 rfl) (W := 1) (own_viInit1 l Z a0 hw [] b1 xm xq xs xt xk x1 x2 x3 h1 n0 O2 A1 (show n0 ≤ b1 by first | assumption | omega | decide) F1_this_0 F1_expectedModCount F1_next F1_current F1_index f7 f8 f9 f10 (show (0 : Int32) < xs by first | assumption | omega | decide) (show @LT.lt Nat _ xm b1 by first | assumption | omega | decide) (show @LT.lt Nat _ xt b1 by first | assumption | omega | decide)) (wh hw 217 rfl) (wh hw 213 rfl) e6  hml (argsL := [.ref xm]) (rest := [.ref b1]) own_pd_13 d27_8 (fun _ T11 L11 X11 hQ11 => ?_)
  obtain ⟨h11, e11⟩ : ∃ z, T11.heap = z := ⟨_, rfl⟩
  rw [e11] at hQ11
  obtain ⟨Nc11, Kc11, rfl, c11_0, c11_1, c11_2, c11_3, c11_4⟩ := hQ11
  have N11 := Fr.app N0 Nc11
  have O12 := O2.keep Kc11 (allS (show n0 ≤ b1 by omega) all0)
  have sz13 : h1.size ≤ h11.size := Kc11.1
  have K14 := Keep.trans K4 Kc11 (allS (Or.inr (show h0.size ≤ b1 by omega)) all0)
  refine r_R X11 hx hby hret hlk d27_11 e11 ?_
  have f15 := (A1.keep Kc11)
  exact ⟨N11, K14, b1, rfl, f15, c11_0, c11_1, c11_2, c11_3, c11_4, (show h0.size ≤ b1 by first | assumption | omega | decide)⟩
theorem d30_0 : decode B30 0 = .ok (.aload_n 0, 1) := by decide +kernel
theorem d30_1 : decode B30 1 = .ok (.getfield 26, 3) := by decide +kernel
theorem d30_4 : decode B30 4 = .ok (.ifnull 7, 3) := by decide +kernel
theorem d30_11 : decode B30 11 = .ok (.iconst 0, 1) := by decide +kernel
theorem d30_12 : decode B30 12 = .ok (.ireturn, 1) := by decide +kernel
theorem own_ef_own_hasNext0 (m : MethodId) (xa : Addr) : entryFrame m #[.ref xa] 1 = mkF m 0 #[vR xa] [] := by first | (simp [entryFrame, mkF, argsToLocals, Value.category]; done) | rfl
def Q_own_hasNext0 (Z : State) (xa : Addr) (h0 : Heap) (n0 : Nat) (v : Option Value) (h : Heap) (L : List Loc) : Prop := Fr n0 L ∧ h = h0 ∧ v = some (.int 0)
theorem own_hasNext0 (l : Launch) (Z : State) (a0 : Array Value) (hw : ∀ d ∈ tables_1, d.before a0 Z = true) (ws : List Jvm.Cond) (xa : Addr) (h0 : Heap) (n0 : Nat) (O0 : Old Z n0 h0) (P0 : Fld Z h0 xa "java/util/HashMap$HashIterator" "next" "Ljava/util/HashMap$Node;" .null) : own_Met l Z (⟨"java/util/HashMap$HashIterator", "hasNext", "()Z"⟩ : MethodName) jdk_99_method_2_code 1 (some .boolean) ws ({ frames := 0, cells := 0, slots := 0, locals := 0 } : Room) #[.ref xa] h0 (Q_own_hasNext0 Z xa h0 n0) := by
  refine own_mk (plainFor_of_name own_pn_java_util_HashMap_HashIterator) O0 ?_
  intro p e s m below meth c s₁ hx hby hml hZ hown hnm hlk hret X0 e0 N0 z0 z1
  refine own_cast (own_ef_own_hasNext0 m xa) ?_
  show own_Goes p e below (s₁.setTop (mkF m 0 #[vR xa] [])) _
  refine q_aloadN X0 hx hby d30_0 rfl rfl ?_
  refine qG X0 hx hby hZ hown (wh hw 231 rfl) e0 P0 d30_1 (fun T1 X1 e1 => ?_)
  refine q_ifnullYes (pc := 4) X1 hx hby d30_4 (pc' := 11) (by decide) (by decide) ?_
  refine q_iconst X1 hx hby d30_11 ?_
  refine r_Z X1 hx hby hret hlk d30_12 e1 ?_
  exact ⟨N0, rfl, rfl⟩
theorem d30_7 : decode B30 7 = .ok (.iconst 1, 1) := by decide +kernel
theorem d30_8 : decode B30 8 = .ok (.goto 4, 3) := by decide +kernel
theorem own_ef_own_hasNext1 (m : MethodId) (xa : Addr) : entryFrame m #[.ref xa] 1 = mkF m 0 #[vR xa] [] := by first | (simp [entryFrame, mkF, argsToLocals, Value.category]; done) | rfl
def Q_own_hasNext1 (Z : State) (xa : Addr) (xv : Addr) (h0 : Heap) (n0 : Nat) (v : Option Value) (h : Heap) (L : List Loc) : Prop := Fr n0 L ∧ h = h0 ∧ v = some (.int 1)
theorem own_hasNext1 (l : Launch) (Z : State) (a0 : Array Value) (hw : ∀ d ∈ tables_1, d.before a0 Z = true) (ws : List Jvm.Cond) (xa : Addr) (xv : Addr) (h0 : Heap) (n0 : Nat) (O0 : Old Z n0 h0) (P0 : Fld Z h0 xa "java/util/HashMap$HashIterator" "next" "Ljava/util/HashMap$Node;" (.ref xv)) : own_Met l Z (⟨"java/util/HashMap$HashIterator", "hasNext", "()Z"⟩ : MethodName) jdk_99_method_2_code 1 (some .boolean) ws ({ frames := 0, cells := 0, slots := 0, locals := 0 } : Room) #[.ref xa] h0 (Q_own_hasNext1 Z xa xv h0 n0) := by
  refine own_mk (plainFor_of_name own_pn_java_util_HashMap_HashIterator) O0 ?_
  intro p e s m below meth c s₁ hx hby hml hZ hown hnm hlk hret X0 e0 N0 z0 z1
  refine own_cast (own_ef_own_hasNext1 m xa) ?_
  show own_Goes p e below (s₁.setTop (mkF m 0 #[vR xa] [])) _
  refine q_aloadN X0 hx hby d30_0 rfl rfl ?_
  refine qG X0 hx hby hZ hown (wh hw 231 rfl) e0 P0 d30_1 (fun T1 X1 e1 => ?_)
  refine q_ifnullNo X1 hx hby d30_4 ?_
  refine q_iconst X1 hx hby d30_7 ?_
  refine q_goto (pc := 8) X1 hx hby d30_8 (pc' := 12) (by decide) (by decide) ?_
  refine r_Z X1 hx hby hret hlk d30_12 e1 ?_
  exact ⟨N0, rfl, rfl⟩
theorem own_inb16 {i : Int32} {n : Nat} (h1 : ¬ i < 0) (h2 : i < (16 : Int32)) (hn : n = (16 : Int32).toNatClampNeg) : ¬ (i < 0 ∨ n ≤ i.toNatClampNeg) := by
  have e1 : (16 : Int32).toInt = 16 := by decide
  have e5 : (0 : Int32).toInt = 0 := by decide
  rw [Int32.lt_iff_toInt_lt] at h1 h2
  rw [Int32.lt_iff_toInt_lt]
  subst hn
  simp only [Int32.toNatClampNeg]
  omega

theorem d32_0 : decode B32 0 = .ok (.aload_n 0, 1) := by decide +kernel
theorem d32_1 : decode B32 1 = .ok (.getfield 26, 3) := by decide +kernel
theorem d32_4 : decode B32 4 = .ok (.astore_n 2, 1) := by decide +kernel
theorem d32_5 : decode B32 5 = .ok (.aload_n 0, 1) := by decide +kernel
theorem d32_6 : decode B32 6 = .ok (.getfield 1, 3) := by decide +kernel
theorem d32_9 : decode B32 9 = .ok (.getfield 13, 3) := by decide +kernel
theorem d32_12 : decode B32 12 = .ok (.aload_n 0, 1) := by decide +kernel
theorem d32_13 : decode B32 13 = .ok (.getfield 19, 3) := by decide +kernel
theorem d32_16 : decode B32 16 = .ok (.if_icmp .eq 11, 3) := by decide +kernel
theorem d32_27 : decode B32 27 = .ok (.aload_n 2, 1) := by decide +kernel
theorem d32_28 : decode B32 28 = .ok (.ifnonnull 11, 3) := by decide +kernel
theorem d32_39 : decode B32 39 = .ok (.aload_n 0, 1) := by decide +kernel
theorem d32_40 : decode B32 40 = .ok (.aload_n 0, 1) := by decide +kernel
theorem d32_41 : decode B32 41 = .ok (.aload_n 2, 1) := by decide +kernel
theorem d32_42 : decode B32 42 = .ok (.dup_x1, 1) := by decide +kernel
theorem d32_43 : decode B32 43 = .ok (.putfield 30, 3) := by decide +kernel
theorem d32_46 : decode B32 46 = .ok (.getfield 45, 3) := by decide +kernel
theorem d32_49 : decode B32 49 = .ok (.dup_x1, 1) := by decide +kernel
theorem d32_50 : decode B32 50 = .ok (.putfield 26, 3) := by decide +kernel
theorem d32_53 : decode B32 53 = .ok (.ifnonnull 45, 3) := by decide +kernel
theorem d32_56 : decode B32 56 = .ok (.aload_n 0, 1) := by decide +kernel
theorem d32_57 : decode B32 57 = .ok (.getfield 1, 3) := by decide +kernel
theorem d32_60 : decode B32 60 = .ok (.getfield 22, 3) := by decide +kernel
theorem d32_63 : decode B32 63 = .ok (.dup, 1) := by decide +kernel
theorem d32_64 : decode B32 64 = .ok (.astore_n 1, 1) := by decide +kernel
theorem d32_65 : decode B32 65 = .ok (.ifnull 33, 3) := by decide +kernel
theorem d32_68 : decode B32 68 = .ok (.aload_n 0, 1) := by decide +kernel
theorem d32_69 : decode B32 69 = .ok (.getfield 33, 3) := by decide +kernel
theorem d32_72 : decode B32 72 = .ok (.aload_n 1, 1) := by decide +kernel
theorem d32_73 : decode B32 73 = .ok (.arraylength, 1) := by decide +kernel
theorem d32_74 : decode B32 74 = .ok (.if_icmp .ge 24, 3) := by decide +kernel
theorem d32_77 : decode B32 77 = .ok (.aload_n 0, 1) := by decide +kernel
theorem d32_78 : decode B32 78 = .ok (.aload_n 1, 1) := by decide +kernel
theorem d32_79 : decode B32 79 = .ok (.aload_n 0, 1) := by decide +kernel
theorem d32_80 : decode B32 80 = .ok (.dup, 1) := by decide +kernel
theorem d32_81 : decode B32 81 = .ok (.getfield 33, 3) := by decide +kernel
theorem d32_84 : decode B32 84 = .ok (.dup_x1, 1) := by decide +kernel
theorem d32_85 : decode B32 85 = .ok (.iconst 1, 1) := by decide +kernel
theorem d32_86 : decode B32 86 = .ok (.iadd, 1) := by decide +kernel
theorem d32_87 : decode B32 87 = .ok (.putfield 33, 3) := by decide +kernel
theorem d32_90 : decode B32 90 = .ok (.aaload, 1) := by decide +kernel
theorem d32_91 : decode B32 91 = .ok (.dup_x1, 1) := by decide +kernel
theorem d32_92 : decode B32 92 = .ok (.putfield 26, 3) := by decide +kernel
theorem d32_95 : decode B32 95 = .ok (.ifnull (-27), 3) := by decide +kernel
theorem d32_98 : decode B32 98 = .ok (.aload_n 2, 1) := by decide +kernel
theorem d32_99 : decode B32 99 = .ok (.areturn, 1) := by decide +kernel
theorem own_ef_own_nextNodeE (m : MethodId) (xa : Addr) : entryFrame m #[.ref xa] 3 = mkF m 0 #[vR xa, uS, uS] [] := by first | (simp [entryFrame, mkF, argsToLocals, Value.category]; done) | rfl
def Q_own_nextNodeE (Z : State) (xa : Addr) (xm : Addr) (xq : Int32) (xt : Addr) (xk : ClassId) (xc : Value) (xj : Int32) (xn : Addr) (x1 : Addr) (x2 : Value) (x3 : Value) (h0 : Heap) (n0 : Nat) (v : Option Value) (h : Heap) (L : List Loc) : Prop := Fr n0 L ∧ Keep h0 h [xa] ∧ v = some (.ref xn) ∧ Fld Z h xa "java/util/HashMap$HashIterator" "this$0" "Ljava/util/HashMap;" (.ref xm) ∧ Fld Z h xa "java/util/HashMap$HashIterator" "expectedModCount" "I" (.int xq) ∧ Fld Z h xa "java/util/HashMap$HashIterator" "next" "Ljava/util/HashMap$Node;" .null ∧ Fld Z h xa "java/util/HashMap$HashIterator" "current" "Ljava/util/HashMap$Node;" (.ref xn) ∧ Fld Z h xa "java/util/HashMap$HashIterator" "index" "I" (.int 16)
theorem own_nextNodeE (l : Launch) (Z : State) (a0 : Array Value) (hw : ∀ d ∈ tables_1, d.before a0 Z = true) (ws : List Jvm.Cond) (xa : Addr) (xm : Addr) (xq : Int32) (xt : Addr) (xk : ClassId) (xc : Value) (xj : Int32) (xn : Addr) (x1 : Addr) (x2 : Value) (x3 : Value) (h0 : Heap) (n0 : Nat) (O0 : Old Z n0 h0) (P0 : Exa Z h0 xa "java/util/HashMap$ValueIterator") (P1 : n0 ≤ xa) (P2 : Fld Z h0 xa "java/util/HashMap$HashIterator" "this$0" "Ljava/util/HashMap;" (.ref xm)) (P3 : Fld Z h0 xa "java/util/HashMap$HashIterator" "expectedModCount" "I" (.int xq)) (P4 : Fld Z h0 xa "java/util/HashMap$HashIterator" "next" "Ljava/util/HashMap$Node;" (.ref xn)) (P5 : Fld Z h0 xa "java/util/HashMap$HashIterator" "current" "Ljava/util/HashMap$Node;" xc) (P6 : Fld Z h0 xa "java/util/HashMap$HashIterator" "index" "I" (.int xj)) (P7 : Fld Z h0 xm "java/util/HashMap" "modCount" "I" (.int xq)) (P8 : Fld Z h0 xm "java/util/HashMap" "table" "[Ljava/util/HashMap$Node;" (.ref xt)) (P9 : Arv Z h0 xt xk (.object "java/util/HashMap$Node") (16 : Int32) [.null, .ref x1, x2, x3, .null, .null, .null, .null, .null, .null, .null, .null, .null, .null, .null, .null] .null) (P10 : Fld Z h0 xn "java/util/HashMap$Node" "next" "Ljava/util/HashMap$Node;" .null) (P11 : @LT.lt Nat _ xm xa) (P12 : @LT.lt Nat _ xt xa) (P13 : @LT.lt Nat _ xn xa) (P14 : (xj = (2 : Int32) ∧ x2 = Value.null ∧ x3 = Value.null) ∨ (xj = (3 : Int32) ∧ x3 = Value.null) ∨ xj = (4 : Int32)) : own_Met l Z (⟨"java/util/HashMap$HashIterator", "nextNode", "()Ljava/util/HashMap$Node;"⟩ : MethodName) jdk_99_method_3_code 3 (some (.object "java/util/HashMap$Node")) ws ({ frames := 0, cells := 0, slots := 0, locals := 0 } : Room) #[.ref xa] h0 (Q_own_nextNodeE Z xa xm xq xt xk xc xj xn x1 x2 x3 h0 n0) := by
  refine own_mk (plainFor_of_name own_pn_java_util_HashMap_HashIterator) O0 ?_
  intro p e s m below meth c s₁ hx hby hml hZ hown hnm hlk hret X0 e0 N0 z0 z1
  have K0 : Keep h0 h0 [xa] := Keep.refl _ _
  refine own_cast (own_ef_own_nextNodeE m xa) ?_
  show own_Goes p e below (s₁.setTop (mkF m 0 #[vR xa, uS, uS] [])) _
  have ltP0 : @LT.lt Nat _ xa h0.size := P0.lt
  have ltP9 : @LT.lt Nat _ xt h0.size := P9.lt
  refine q_aloadN X0 hx hby d32_0 rfl rfl ?_
  refine qG X0 hx hby hZ hown (wh hw 231 rfl) e0 P4 d32_1 (fun T1 X1 e1 => ?_)
  refine q_astoreN X1 hx hby d32_4 rfl (l' := #[vR xa, uS, vR xn]) rfl ?_
  refine q_aloadN X1 hx hby d32_5 rfl rfl ?_
  refine qG X1 hx hby hZ hown (wh hw 224 rfl) e1 P2 d32_6 (fun T2 X2 e2 => ?_)
  refine qG X2 hx hby hZ hown (wh hw 227 rfl) e2 P7 d32_9 (fun T3 X3 e3 => ?_)
  refine q_aloadN X3 hx hby d32_12 rfl rfl ?_
  refine qG X3 hx hby hZ hown (wh hw 228 rfl) e3 P3 d32_13 (fun T4 X4 e4 => ?_)
  refine q_icmpYes (pc := 16) X4 hx hby d32_16 (pc' := 27) (teq (rfl : xq = xq)).1 (by decide) (by decide) ?_
  refine q_aloadN X4 hx hby d32_27 rfl rfl ?_
  refine gg (fun t k => XS.ifnonnullYes X4.here hx rfl (pc0 := 28) (pc' := 39) rfl (hb hby d32_28) rfl (by decide) (by decide) k) ?_
  refine q_aloadN X4 hx hby d32_39 rfl rfl ?_
  refine q_aloadN X4 hx hby d32_40 rfl rfl ?_
  refine q_aloadN X4 hx hby d32_41 rfl rfl ?_
  show own_Goes p e below (T4.setTop (mkF m 42 #[vR xa, uS, vR xn] [.ref xn, .ref xa, .ref xa])) _
  refine gg (fun t k => XS.dupX1 X4.here hx rfl (hb hby d32_42) rfl rfl rfl k) ?_
  refine qP X4 hx hby hZ hown (host := "") (Or.inl (wh hw 233 rfl)) Via.refl e4 P5 P0 (Or.inl (wh hw 234 rfl)) (wh hw 212 rfl) (ty := (.object "java/util/HashMap$Node")) d32_43 (fun T5 h5 X5 e5 W5 => ?_)
  have O6 := O0.wr W5 (show n0 ≤ xa by omega)
  have sz7 : h5.size = h0.size := Wr.size W5
  have K8 := K0.wr W5 (Or.inl (List.mem_of_getElem? (i := 0) rfl))
  have N5 := Fr.snoc X5 N0 (show n0 ≤ xa by omega)
  have Fw5 := P5.same W5
  have f9 := (P10.other W5 (Or.inl (nE xn xa (by omega))))
  refine qG X5 hx hby hZ hown (wh hw 261 rfl) e5 f9 d32_46 (fun T10 X10 e10 => ?_)
  refine gg (fun t k => XS.dupX1 X10.here hx rfl (hb hby d32_49) rfl rfl rfl k) ?_
  have f11 := (P4.other W5 (Or.inr (slot_ne (Or.inl (wh hw 232 rfl)) (Or.inl (wh hw 234 rfl)) (by decide) (t := (.object "java/util/HashMap$Node")) (t' := (.object "java/util/HashMap$Node")) (by decide) (by decide))))
  have f12 := (P0.wr W5)
  refine qP X10 hx hby hZ hown (host := "") (Or.inl (wh hw 231 rfl)) Via.refl e10 f11 f12 (Or.inl (wh hw 232 rfl)) (wh hw 212 rfl) (ty := (.object "java/util/HashMap$Node")) d32_50 (fun T13 h13 X13 e13 W13 => ?_)
  have O14 := O6.wr W13 (show n0 ≤ xa by omega)
  have sz15 : h13.size = h5.size := Wr.size W13
  have K16 := K8.wr W13 (Or.inl (List.mem_of_getElem? (i := 0) rfl))
  have N13 := Fr.snoc X13 N5 (show n0 ≤ xa by omega)
  have Fw13 := f11.same W13
  refine gg (fun t k => XS.ifnonnullNo X13.here hx rfl (hb hby d32_53) rfl k) ?_
  refine q_aloadN X13 hx hby d32_56 rfl rfl ?_
  have f17 := ((P2.other W5 (Or.inr (slot_ne (Or.inr (wh hw 225 rfl)) (Or.inl (wh hw 234 rfl)) (by decide) (t := (.object "java/util/HashMap")) (t' := (.object "java/util/HashMap$Node")) (by decide) (by decide)))).other W13 (Or.inr (slot_ne (Or.inr (wh hw 225 rfl)) (Or.inl (wh hw 232 rfl)) (by decide) (t := (.object "java/util/HashMap")) (t' := (.object "java/util/HashMap$Node")) (by decide) (by decide))))
  refine qG X13 hx hby hZ hown (wh hw 224 rfl) e13 f17 d32_57 (fun T18 X18 e18 => ?_)
  have f19 := ((P8.other W5 (Or.inl (nE xm xa (by omega)))).other W13 (Or.inl (nE xm xa (by omega))))
  refine qG X18 hx hby hZ hown (wh hw 230 rfl) e18 f19 d32_60 (fun T20 X20 e20 => ?_)
  refine q_dup X20 hx hby d32_63 rfl ?_
  refine q_astoreN X20 hx hby d32_64 rfl (l' := #[vR xa, vR xt, vR xn]) rfl ?_
  refine q_ifnullNo X20 hx hby d32_65 ?_
  have LS : ∀ (i_ j_ : Int32), ¬ i_ < 0 → i_ < (16 : Int32) → i_ + (1 : Int32) = j_ → List.getD ([.null, .ref x1, x2, x3, .null, .null, .null, .null, .null, .null, .null, .null, .null, .null, .null, .null] : List Value) i_.toNatClampNeg .null = .null → (∀ (T_ : State) (h_ : Heap) (L_ : List Loc), Stand p l e ({ frames := 0, cells := 0, slots := 0, locals := 0 } : Room) s m #[.ref xa] below meth c T_ L_ 0 0 ∧ T_.heap = h_ ∧ Fr n0 L_ ∧ Old Z n0 h_ ∧ Keep h0 h_ [xa] ∧ Exa Z h_ xa "java/util/HashMap$ValueIterator" ∧ Fld Z h_ xa "java/util/HashMap$HashIterator" "this$0" "Ljava/util/HashMap;" (.ref xm) ∧ Fld Z h_ xa "java/util/HashMap$HashIterator" "expectedModCount" "I" (.int xq) ∧ Fld Z h_ xa "java/util/HashMap$HashIterator" "next" "Ljava/util/HashMap$Node;" .null ∧ Fld Z h_ xa "java/util/HashMap$HashIterator" "current" "Ljava/util/HashMap$Node;" (.ref xn) ∧ Fld Z h_ xa "java/util/HashMap$HashIterator" "index" "I" (.int j_) ∧ Fld Z h_ xm "java/util/HashMap" "modCount" "I" (.int xq) ∧ Fld Z h_ xm "java/util/HashMap" "table" "[Ljava/util/HashMap$Node;" (.ref xt) ∧ Arv Z h_ xt xk (.object "java/util/HashMap$Node") (16 : Int32) [.null, .ref x1, x2, x3, .null, .null, .null, .null, .null, .null, .null, .null, .null, .null, .null, .null] .null ∧ Fld Z h_ xn "java/util/HashMap$Node" "next" "Ljava/util/HashMap$Node;" .null → own_Goes p e below (T_.setTop (mkF m 68 #[vR xa, vR xt, vR xn] [])) (own_PostN s (Q_own_nextNodeE Z xa xm xq xt xk xc xj xn x1 x2 x3 h0 n0) ({ frames := 0, cells := 0, slots := 0, locals := 0 } : Room).cells ({ frames := 0, cells := 0, slots := 0, locals := 0 } : Room).slots)) → ∀ (T_ : State) (h_ : Heap) (L_ : List Loc), Stand p l e ({ frames := 0, cells := 0, slots := 0, locals := 0 } : Room) s m #[.ref xa] below meth c T_ L_ 0 0 ∧ T_.heap = h_ ∧ Fr n0 L_ ∧ Old Z n0 h_ ∧ Keep h0 h_ [xa] ∧ Exa Z h_ xa "java/util/HashMap$ValueIterator" ∧ Fld Z h_ xa "java/util/HashMap$HashIterator" "this$0" "Ljava/util/HashMap;" (.ref xm) ∧ Fld Z h_ xa "java/util/HashMap$HashIterator" "expectedModCount" "I" (.int xq) ∧ Fld Z h_ xa "java/util/HashMap$HashIterator" "next" "Ljava/util/HashMap$Node;" .null ∧ Fld Z h_ xa "java/util/HashMap$HashIterator" "current" "Ljava/util/HashMap$Node;" (.ref xn) ∧ Fld Z h_ xa "java/util/HashMap$HashIterator" "index" "I" (.int i_) ∧ Fld Z h_ xm "java/util/HashMap" "modCount" "I" (.int xq) ∧ Fld Z h_ xm "java/util/HashMap" "table" "[Ljava/util/HashMap$Node;" (.ref xt) ∧ Arv Z h_ xt xk (.object "java/util/HashMap$Node") (16 : Int32) [.null, .ref x1, x2, x3, .null, .null, .null, .null, .null, .null, .null, .null, .null, .null, .null, .null] .null ∧ Fld Z h_ xn "java/util/HashMap$Node" "next" "Ljava/util/HashMap$Node;" .null → own_Goes p e below (T_.setTop (mkF m 68 #[vR xa, vR xt, vR xn] [])) (own_PostN s (Q_own_nextNodeE Z xa xm xq xt xk xc xj xn x1 x2 x3 h0 n0) ({ frames := 0, cells := 0, slots := 0, locals := 0 } : Room).cells ({ frames := 0, cells := 0, slots := 0, locals := 0 } : Room).slots) := by
    intro i_ j_ hi1 hi2 hij hiv nxt T_ h_ L_ ⟨X_, e_, N_, O_, K_, f_0, f_1, f_2, f_3, f_4, f_5, f_6, f_7, f_8, f_9⟩
    show own_Goes p e below (T_.setTop (mkF m 68 #[vR xa, vR xt, vR xn] [])) _
    refine q_aloadN X_ hx hby d32_68 rfl rfl ?_
    refine qG X_ hx hby hZ hown (wh hw 235 rfl) e_ f_5 d32_69 (fun T21 X21 e21 => ?_)
    refine q_aloadN X21 hx hby d32_72 rfl rfl ?_
    refine q_len X21 hx hby hZ e21 f_8 d32_73 ?_
    refine q_icmpNo X21 hx hby d32_74 (tlt hi2).2.1 ?_
    refine q_aloadN X21 hx hby d32_77 rfl rfl ?_
    refine q_aloadN X21 hx hby d32_78 rfl rfl ?_
    refine q_aloadN X21 hx hby d32_79 rfl rfl ?_
    refine q_dup X21 hx hby d32_80 rfl ?_
    refine qG X21 hx hby hZ hown (wh hw 235 rfl) e21 f_5 d32_81 (fun T23 X23 e23 => ?_)
    refine gg (fun t k => XS.dupX1 X23.here hx rfl (hb hby d32_84) rfl rfl rfl k) ?_
    refine q_iconst X23 hx hby d32_85 ?_
    refine q_iadd X23 hx hby d32_86 ?_
    refine qP X23 hx hby hZ hown (host := "") (Or.inl (wh hw 235 rfl)) Via.refl e23 f_5 f_0 (Or.inl (wh hw 236 rfl)) (wh hw 212 rfl) (ty := .int) d32_87 (fun T24 h24 X24 e24 W24 => ?_)
    have O25 := O_.wr W24 (show n0 ≤ xa by omega)
    have sz26 : h24.size = h_.size := Wr.size W24
    have K27 := K_.wr W24 (Or.inl (List.mem_of_getElem? (i := 0) rfl))
    have N24 := Fr.snoc X24 N_ (show n0 ≤ xa by omega)
    have Fw24 : Fld Z h24 xa "java/util/HashMap$HashIterator" "index" "I" (.int (i_ + (1 : Int32))) := f_5.same W24
    show own_Goes p e below (T24.setTop (mkF m 90 #[vR xa, vR xt, vR xn] [.int i_, .ref xt, .ref xa])) _
    have f28 := (f_8.other W24 (nE xt xa (by omega)))
    obtain ⟨clu29, Aru29, qu29, Szu29, Ngu29, Hsu29, Gsu29⟩ := id f28
    have inu29 : ¬ (i_ < 0 ∨ clu29.slots.size ≤ (i_).toNatClampNeg) := own_inb16 hi1 hi2 Szu29
    have atu29 : clu29.slots[(i_).toNatClampNeg]? = some .null := Hsu29.at inu29 hiv
    refine gg (fun t k => X24.aaload hx (j := i_) (v := .null) (by rw [e24]; exact Aru29.1) (State.isArrayOf_alike hZ.alike Aru29.2.1) rfl Aru29.2.2 inu29 atu29 (g := (mkF m 90 #[vR xa, vR xt, vR xn] [.int i_, .ref xt, .ref xa])) rfl rfl (hb hby d32_90) _ k) ?_
    refine gg (fun t k => XS.dupX1 X24.here hx rfl (hb hby d32_91) rfl rfl rfl k) ?_
    have f30 := (f_3.other W24 (Or.inr (slot_ne (Or.inl (wh hw 232 rfl)) (Or.inl (wh hw 236 rfl)) (by decide) (t := (.object "java/util/HashMap$Node")) (t' := .int) (by decide) (by decide))))
    have f31 := (f_0.wr W24)
    refine qP X24 hx hby hZ hown (host := "") (Or.inl (wh hw 231 rfl)) Via.refl e24 f30 f31 (Or.inl (wh hw 232 rfl)) (wh hw 212 rfl) (ty := (.object "java/util/HashMap$Node")) d32_92 (fun T32 h32 X32 e32 W32 => ?_)
    have O33 := O25.wr W32 (show n0 ≤ xa by omega)
    have sz34 : h32.size = h24.size := Wr.size W32
    have K35 := K27.wr W32 (Or.inl (List.mem_of_getElem? (i := 0) rfl))
    have N32 := Fr.snoc X32 N24 (show n0 ≤ xa by omega)
    have Fw32 := f30.same W32
    refine q_ifnullYes (pc := 95) X32 hx hby d32_95 (pc' := 68) (by decide) (by decide) ?_
    rw [hij] at Fw24
    have f36 := (f31.wr W32)
    have f37 := ((f_1.other W24 (Or.inr (slot_ne (Or.inr (wh hw 225 rfl)) (Or.inl (wh hw 236 rfl)) (by decide) (t := (.object "java/util/HashMap")) (t' := .int) (by decide) (by decide)))).other W32 (Or.inr (slot_ne (Or.inr (wh hw 225 rfl)) (Or.inl (wh hw 232 rfl)) (by decide) (t := (.object "java/util/HashMap")) (t' := (.object "java/util/HashMap$Node")) (by decide) (by decide))))
    have f38 := ((f_2.other W24 (Or.inr (slot_ne (Or.inl (wh hw 229 rfl)) (Or.inl (wh hw 236 rfl)) (by decide) (t := .int) (t' := .int) (by decide) (by decide)))).other W32 (Or.inr (slot_ne (Or.inl (wh hw 229 rfl)) (Or.inl (wh hw 232 rfl)) (by decide) (t := .int) (t' := (.object "java/util/HashMap$Node")) (by decide) (by decide))))
    have f39 := ((f_4.other W24 (Or.inr (slot_ne (Or.inl (wh hw 234 rfl)) (Or.inl (wh hw 236 rfl)) (by decide) (t := (.object "java/util/HashMap$Node")) (t' := .int) (by decide) (by decide)))).other W32 (Or.inr (slot_ne (Or.inl (wh hw 234 rfl)) (Or.inl (wh hw 232 rfl)) (by decide) (t := (.object "java/util/HashMap$Node")) (t' := (.object "java/util/HashMap$Node")) (by decide) (by decide))))
    have f40 := (Fw24.other W32 (Or.inr (slot_ne (Or.inl (wh hw 236 rfl)) (Or.inl (wh hw 232 rfl)) (by decide) (t := .int) (t' := (.object "java/util/HashMap$Node")) (by decide) (by decide))))
    have f41 := ((f_6.other W24 (Or.inl (nE xm xa (by omega)))).other W32 (Or.inl (nE xm xa (by omega))))
    have f42 := ((f_7.other W24 (Or.inl (nE xm xa (by omega)))).other W32 (Or.inl (nE xm xa (by omega))))
    have f43 := (f28.other W32 (nE xt xa (by omega)))
    have f44 := ((f_9.other W24 (Or.inl (nE xn xa (by omega)))).other W32 (Or.inl (nE xn xa (by omega))))
    exact nxt _ _ _ ⟨X32, e32, N32, O33, K35, f36, f37, f38, Fw32, f39, f40, f41, f42, f43, f44⟩
  have LE : ∀ (T_ : State) (h_ : Heap) (L_ : List Loc), Stand p l e ({ frames := 0, cells := 0, slots := 0, locals := 0 } : Room) s m #[.ref xa] below meth c T_ L_ 0 0 ∧ T_.heap = h_ ∧ Fr n0 L_ ∧ Old Z n0 h_ ∧ Keep h0 h_ [xa] ∧ Exa Z h_ xa "java/util/HashMap$ValueIterator" ∧ Fld Z h_ xa "java/util/HashMap$HashIterator" "this$0" "Ljava/util/HashMap;" (.ref xm) ∧ Fld Z h_ xa "java/util/HashMap$HashIterator" "expectedModCount" "I" (.int xq) ∧ Fld Z h_ xa "java/util/HashMap$HashIterator" "next" "Ljava/util/HashMap$Node;" .null ∧ Fld Z h_ xa "java/util/HashMap$HashIterator" "current" "Ljava/util/HashMap$Node;" (.ref xn) ∧ Fld Z h_ xa "java/util/HashMap$HashIterator" "index" "I" (.int 16) ∧ Fld Z h_ xm "java/util/HashMap" "modCount" "I" (.int xq) ∧ Fld Z h_ xm "java/util/HashMap" "table" "[Ljava/util/HashMap$Node;" (.ref xt) ∧ Arv Z h_ xt xk (.object "java/util/HashMap$Node") (16 : Int32) [.null, .ref x1, x2, x3, .null, .null, .null, .null, .null, .null, .null, .null, .null, .null, .null, .null] .null ∧ Fld Z h_ xn "java/util/HashMap$Node" "next" "Ljava/util/HashMap$Node;" .null → own_Goes p e below (T_.setTop (mkF m 68 #[vR xa, vR xt, vR xn] [])) (own_PostN s (Q_own_nextNodeE Z xa xm xq xt xk xc xj xn x1 x2 x3 h0 n0) ({ frames := 0, cells := 0, slots := 0, locals := 0 } : Room).cells ({ frames := 0, cells := 0, slots := 0, locals := 0 } : Room).slots) := by
    intro T_ h_ L_ ⟨X_, e_, N_, O_, K_, f_0, f_1, f_2, f_3, f_4, f_5, f_6, f_7, f_8, f_9⟩
    show own_Goes p e below (T_.setTop (mkF m 68 #[vR xa, vR xt, vR xn] [])) _
    refine q_aloadN X_ hx hby d32_68 rfl rfl ?_
    refine qG X_ hx hby hZ hown (wh hw 235 rfl) e_ f_5 d32_69 (fun T45 X45 e45 => ?_)
    refine q_aloadN X45 hx hby d32_72 rfl rfl ?_
    refine q_len X45 hx hby hZ e45 f_8 d32_73 ?_
    refine q_icmpYes (pc := 74) X45 hx hby d32_74 (pc' := 98) (flt (show ¬ ((16 : Int32) < (16 : Int32)) from by decide)).2.1 (by decide) (by decide) ?_
    refine q_aloadN X45 hx hby d32_98 rfl rfl ?_
    refine r_R X45 hx hby hret hlk d32_99 e45 ?_
    exact ⟨N_, K_, rfl, f_1, f_2, f_3, f_4, f_5⟩
  have f47 := (f12.wr W13)
  have f48 := ((P3.other W5 (Or.inr (slot_ne (Or.inl (wh hw 229 rfl)) (Or.inl (wh hw 234 rfl)) (by decide) (t := .int) (t' := (.object "java/util/HashMap$Node")) (by decide) (by decide)))).other W13 (Or.inr (slot_ne (Or.inl (wh hw 229 rfl)) (Or.inl (wh hw 232 rfl)) (by decide) (t := .int) (t' := (.object "java/util/HashMap$Node")) (by decide) (by decide))))
  have f49 := (Fw5.other W13 (Or.inr (slot_ne (Or.inl (wh hw 234 rfl)) (Or.inl (wh hw 232 rfl)) (by decide) (t := (.object "java/util/HashMap$Node")) (t' := (.object "java/util/HashMap$Node")) (by decide) (by decide))))
  have f50 := ((P6.other W5 (Or.inr (slot_ne (Or.inl (wh hw 236 rfl)) (Or.inl (wh hw 234 rfl)) (by decide) (t := .int) (t' := (.object "java/util/HashMap$Node")) (by decide) (by decide)))).other W13 (Or.inr (slot_ne (Or.inl (wh hw 236 rfl)) (Or.inl (wh hw 232 rfl)) (by decide) (t := .int) (t' := (.object "java/util/HashMap$Node")) (by decide) (by decide))))
  have f51 := ((P7.other W5 (Or.inl (nE xm xa (by omega)))).other W13 (Or.inl (nE xm xa (by omega))))
  have f52 := ((P9.other W5 (nE xt xa (by omega))).other W13 (nE xt xa (by omega)))
  have f53 := (f9.other W13 (Or.inl (nE xn xa (by omega))))
  rcases P14 with ⟨rfl, rfl, rfl⟩ | ⟨rfl, rfl⟩ | rfl
  · exact (LS 2 3 (by decide) (by decide) (by decide) rfl (LS 3 4 (by decide) (by decide) (by decide) rfl (LS 4 5 (by decide) (by decide) (by decide) rfl (LS 5 6 (by decide) (by decide) (by decide) rfl (LS 6 7 (by decide) (by decide) (by decide) rfl (LS 7 8 (by decide) (by decide) (by decide) rfl (LS 8 9 (by decide) (by decide) (by decide) rfl (LS 9 10 (by decide) (by decide) (by decide) rfl (LS 10 11 (by decide) (by decide) (by decide) rfl (LS 11 12 (by decide) (by decide) (by decide) rfl (LS 12 13 (by decide) (by decide) (by decide) rfl (LS 13 14 (by decide) (by decide) (by decide) rfl (LS 14 15 (by decide) (by decide) (by decide) rfl (LS 15 16 (by decide) (by decide) (by decide) rfl LE)))))))))))))) _ _ _ ⟨X20, e20, N13, O14, K16, f47, f17, f48, Fw13, f49, f50, f51, f19, f52, f53⟩
  · exact (LS 3 4 (by decide) (by decide) (by decide) rfl (LS 4 5 (by decide) (by decide) (by decide) rfl (LS 5 6 (by decide) (by decide) (by decide) rfl (LS 6 7 (by decide) (by decide) (by decide) rfl (LS 7 8 (by decide) (by decide) (by decide) rfl (LS 8 9 (by decide) (by decide) (by decide) rfl (LS 9 10 (by decide) (by decide) (by decide) rfl (LS 10 11 (by decide) (by decide) (by decide) rfl (LS 11 12 (by decide) (by decide) (by decide) rfl (LS 12 13 (by decide) (by decide) (by decide) rfl (LS 13 14 (by decide) (by decide) (by decide) rfl (LS 14 15 (by decide) (by decide) (by decide) rfl (LS 15 16 (by decide) (by decide) (by decide) rfl LE))))))))))))) _ _ _ ⟨X20, e20, N13, O14, K16, f47, f17, f48, Fw13, f49, f50, f51, f19, f52, f53⟩
  · exact (LS 4 5 (by decide) (by decide) (by decide) rfl (LS 5 6 (by decide) (by decide) (by decide) rfl (LS 6 7 (by decide) (by decide) (by decide) rfl (LS 7 8 (by decide) (by decide) (by decide) rfl (LS 8 9 (by decide) (by decide) (by decide) rfl (LS 9 10 (by decide) (by decide) (by decide) rfl (LS 10 11 (by decide) (by decide) (by decide) rfl (LS 11 12 (by decide) (by decide) (by decide) rfl (LS 12 13 (by decide) (by decide) (by decide) rfl (LS 13 14 (by decide) (by decide) (by decide) rfl (LS 14 15 (by decide) (by decide) (by decide) rfl (LS 15 16 (by decide) (by decide) (by decide) rfl LE)))))))))))) _ _ _ ⟨X20, e20, N13, O14, K16, f47, f17, f48, Fw13, f49, f50, f51, f19, f52, f53⟩
theorem d31_0 : decode B31 0 = .ok (.aload_n 0, 1) := by decide +kernel
theorem d31_1 : decode B31 1 = .ok (.invokevirtual 7, 3) := by decide +kernel
theorem own_pd_14 : parseMethodDescriptor "()Ljava/util/HashMap$Node;" = some ⟨[], some (.object "java/util/HashMap$Node")⟩ := by decide +kernel
theorem d31_4 : decode B31 4 = .ok (.getfield 13, 3) := by decide +kernel
theorem d31_7 : decode B31 7 = .ok (.areturn, 1) := by decide +kernel
theorem own_ef_own_nextE (m : MethodId) (xa : Addr) : entryFrame m #[.ref xa] 1 = mkF m 0 #[vR xa] [] := by first | (simp [entryFrame, mkF, argsToLocals, Value.category]; done) | rfl
def Q_own_nextE (Z : State) (xa : Addr) (xm : Addr) (xq : Int32) (xt : Addr) (xk : ClassId) (xc : Value) (xj : Int32) (xn : Addr) (x1 : Addr) (x2 : Value) (x3 : Value) (xv : Addr) (h0 : Heap) (n0 : Nat) (v : Option Value) (h : Heap) (L : List Loc) : Prop := Fr n0 L ∧ Keep h0 h [xa] ∧ v = some (.ref xv) ∧ Fld Z h xa "java/util/HashMap$HashIterator" "this$0" "Ljava/util/HashMap;" (.ref xm) ∧ Fld Z h xa "java/util/HashMap$HashIterator" "expectedModCount" "I" (.int xq) ∧ Fld Z h xa "java/util/HashMap$HashIterator" "next" "Ljava/util/HashMap$Node;" .null ∧ Fld Z h xa "java/util/HashMap$HashIterator" "current" "Ljava/util/HashMap$Node;" (.ref xn) ∧ Fld Z h xa "java/util/HashMap$HashIterator" "index" "I" (.int 16)
theorem own_nextE (l : Launch) (Z : State) (a0 : Array Value) (hw : ∀ d ∈ tables_1, d.before a0 Z = true) (ws : List Jvm.Cond) (xa : Addr) (xm : Addr) (xq : Int32) (xt : Addr) (xk : ClassId) (xc : Value) (xj : Int32) (xn : Addr) (x1 : Addr) (x2 : Value) (x3 : Value) (xv : Addr) (h0 : Heap) (n0 : Nat) (O0 : Old Z n0 h0) (P0 : Exa Z h0 xa "java/util/HashMap$ValueIterator") (P1 : n0 ≤ xa) (P2 : Fld Z h0 xa "java/util/HashMap$HashIterator" "this$0" "Ljava/util/HashMap;" (.ref xm)) (P3 : Fld Z h0 xa "java/util/HashMap$HashIterator" "expectedModCount" "I" (.int xq)) (P4 : Fld Z h0 xa "java/util/HashMap$HashIterator" "next" "Ljava/util/HashMap$Node;" (.ref xn)) (P5 : Fld Z h0 xa "java/util/HashMap$HashIterator" "current" "Ljava/util/HashMap$Node;" xc) (P6 : Fld Z h0 xa "java/util/HashMap$HashIterator" "index" "I" (.int xj)) (P7 : Fld Z h0 xm "java/util/HashMap" "modCount" "I" (.int xq)) (P8 : Fld Z h0 xm "java/util/HashMap" "table" "[Ljava/util/HashMap$Node;" (.ref xt)) (P9 : Arv Z h0 xt xk (.object "java/util/HashMap$Node") (16 : Int32) [.null, .ref x1, x2, x3, .null, .null, .null, .null, .null, .null, .null, .null, .null, .null, .null, .null] .null) (P10 : Fld Z h0 xn "java/util/HashMap$Node" "next" "Ljava/util/HashMap$Node;" .null) (P11 : @LT.lt Nat _ xm xa) (P12 : @LT.lt Nat _ xt xa) (P13 : @LT.lt Nat _ xn xa) (P14 : Fld Z h0 xn "java/util/HashMap$Node" "value" "Ljava/lang/Object;" (.ref xv)) (P15 : (xj = (2 : Int32) ∧ x2 = Value.null ∧ x3 = Value.null) ∨ (xj = (3 : Int32) ∧ x3 = Value.null) ∨ xj = (4 : Int32)) : own_Met l Z (⟨"java/util/HashMap$ValueIterator", "next", "()Ljava/lang/Object;"⟩ : MethodName) jdk_2569_method_2_code 1 (some (.object "java/lang/Object")) ws ({ frames := 1, cells := 0, slots := 0, locals := 14 } : Room) #[.ref xa] h0 (Q_own_nextE Z xa xm xq xt xk xc xj xn x1 x2 x3 xv h0 n0) := by
  refine own_mk (plainFor_of_name own_pn_java_util_HashMap_ValueIterator) O0 ?_
  intro p e s m below meth c s₁ hx hby hml hZ hown hnm hlk hret X0 e0 N0 z0 z1
  have K0 : Keep h0 h0 [xa] := Keep.refl _ _
  refine own_cast (own_ef_own_nextE m xa) ?_
  show own_Goes p e below (s₁.setTop (mkF m 0 #[vR xa] [])) _
  have ltP0 : @LT.lt Nat _ xa h0.size := P0.lt
  have ltP9 : @LT.lt Nat _ xt h0.size := P9.lt
  refine q_aloadN X0 hx hby d31_0 rfl rfl ?_
  refine k_VU X0 hx hby hZ hown (wh hw 255 rfl) (wh hw 256 rfl) (wh hw 257 rfl) (wh hw 259 rfl) (wh hw 258 rfl) (W := 0) (own_nextNodeE l Z a0 hw [] xa xm xq xt xk xc xj xn x1 x2 x3 h0 n0 O0 P0 (show n0 ≤ xa by first | assumption | omega | decide) P2 P3 P4 P5 P6 P7 P8 P9 P10 (show @LT.lt Nat _ xm xa by first | assumption | omega | decide) (show @LT.lt Nat _ xt xa by first | assumption | omega | decide) (show @LT.lt Nat _ xn xa by first | assumption | omega | decide) (show (xj = (2 : Int32) ∧ x2 = Value.null ∧ x3 = Value.null) ∨ (xj = (3 : Int32) ∧ x3 = Value.null) ∨ xj = (4 : Int32) from (by first | exact Or.inl ⟨by decide, rfl, rfl⟩ | exact Or.inr (Or.inl ⟨by decide, rfl⟩) | exact Or.inr (Or.inr (by decide)) | assumption))) (wh hw 260 rfl) (wh hw 222 rfl) e0 P0  hml (argsL := []) (rest := []) own_pd_14 d31_1 (fun _ T1 L1 X1 hQ1 => ?_)
  obtain ⟨h1, e1⟩ : ∃ z, T1.heap = z := ⟨_, rfl⟩
  rw [e1] at hQ1
  obtain ⟨Nc1, Kc1, rfl, c1_0, c1_1, c1_2, c1_3, c1_4⟩ := hQ1
  have N1 := Fr.app N0 Nc1
  have O2 := O0.keep Kc1 (allS (show n0 ≤ xa by omega) all0)
  have sz3 : h0.size ≤ h1.size := Kc1.1
  have K4 := Keep.trans K0 Kc1 (allS (Or.inl (List.mem_of_getElem? (i := 0) rfl)) all0)
  have f5 := (P14.keep Kc1 (ninS (nE xn xa (by omega)) nin0))
  refine qG X1 hx hby hZ hown (wh hw 262 rfl) e1 f5 d31_4 (fun T6 X6 e6 => ?_)
  refine r_R X6 hx hby hret hlk d31_7 e6 ?_
  exact ⟨N1, K4, rfl, c1_0, c1_1, c1_2, c1_3, c1_4⟩
theorem own_ef_own_nextNodeF (m : MethodId) (xa : Addr) : entryFrame m #[.ref xa] 3 = mkF m 0 #[vR xa, uS, uS] [] := by first | (simp [entryFrame, mkF, argsToLocals, Value.category]; done) | rfl
def Q_own_nextNodeF (Z : State) (xa : Addr) (xm : Addr) (xq : Int32) (xt : Addr) (xk : ClassId) (xc : Value) (xj : Int32) (xn : Addr) (x1 : Addr) (x2 : Value) (x3 : Value) (xy : Addr) (h0 : Heap) (n0 : Nat) (v : Option Value) (h : Heap) (L : List Loc) : Prop := Fr n0 L ∧ Keep h0 h [xa] ∧ v = some (.ref xn) ∧ Fld Z h xa "java/util/HashMap$HashIterator" "this$0" "Ljava/util/HashMap;" (.ref xm) ∧ Fld Z h xa "java/util/HashMap$HashIterator" "expectedModCount" "I" (.int xq) ∧ Fld Z h xa "java/util/HashMap$HashIterator" "next" "Ljava/util/HashMap$Node;" (.ref xy) ∧ Fld Z h xa "java/util/HashMap$HashIterator" "current" "Ljava/util/HashMap$Node;" (.ref xn) ∧ Fld Z h xa "java/util/HashMap$HashIterator" "index" "I" (.int (xj + (1 : Int32)))
theorem own_nextNodeF (l : Launch) (Z : State) (a0 : Array Value) (hw : ∀ d ∈ tables_1, d.before a0 Z = true) (ws : List Jvm.Cond) (xa : Addr) (xm : Addr) (xq : Int32) (xt : Addr) (xk : ClassId) (xc : Value) (xj : Int32) (xn : Addr) (x1 : Addr) (x2 : Value) (x3 : Value) (xy : Addr) (h0 : Heap) (n0 : Nat) (O0 : Old Z n0 h0) (P0 : Exa Z h0 xa "java/util/HashMap$ValueIterator") (P1 : n0 ≤ xa) (P2 : Fld Z h0 xa "java/util/HashMap$HashIterator" "this$0" "Ljava/util/HashMap;" (.ref xm)) (P3 : Fld Z h0 xa "java/util/HashMap$HashIterator" "expectedModCount" "I" (.int xq)) (P4 : Fld Z h0 xa "java/util/HashMap$HashIterator" "next" "Ljava/util/HashMap$Node;" (.ref xn)) (P5 : Fld Z h0 xa "java/util/HashMap$HashIterator" "current" "Ljava/util/HashMap$Node;" xc) (P6 : Fld Z h0 xa "java/util/HashMap$HashIterator" "index" "I" (.int xj)) (P7 : Fld Z h0 xm "java/util/HashMap" "modCount" "I" (.int xq)) (P8 : Fld Z h0 xm "java/util/HashMap" "table" "[Ljava/util/HashMap$Node;" (.ref xt)) (P9 : Arv Z h0 xt xk (.object "java/util/HashMap$Node") (16 : Int32) [.null, .ref x1, x2, x3, .null, .null, .null, .null, .null, .null, .null, .null, .null, .null, .null, .null] .null) (P10 : Fld Z h0 xn "java/util/HashMap$Node" "next" "Ljava/util/HashMap$Node;" .null) (P11 : @LT.lt Nat _ xm xa) (P12 : @LT.lt Nat _ xt xa) (P13 : @LT.lt Nat _ xn xa) (P14 : ¬ xj < 0 ∧ xj < (16 : Int32) ∧ List.getD ([.null, .ref x1, x2, x3, .null, .null, .null, .null, .null, .null, .null, .null, .null, .null, .null, .null] : List Value) xj.toNatClampNeg .null = .ref xy) : own_Met l Z (⟨"java/util/HashMap$HashIterator", "nextNode", "()Ljava/util/HashMap$Node;"⟩ : MethodName) jdk_99_method_3_code 3 (some (.object "java/util/HashMap$Node")) ws ({ frames := 0, cells := 0, slots := 0, locals := 0 } : Room) #[.ref xa] h0 (Q_own_nextNodeF Z xa xm xq xt xk xc xj xn x1 x2 x3 xy h0 n0) := by
  refine own_mk (plainFor_of_name own_pn_java_util_HashMap_HashIterator) O0 ?_
  intro p e s m below meth c s₁ hx hby hml hZ hown hnm hlk hret X0 e0 N0 z0 z1
  have K0 : Keep h0 h0 [xa] := Keep.refl _ _
  refine own_cast (own_ef_own_nextNodeF m xa) ?_
  show own_Goes p e below (s₁.setTop (mkF m 0 #[vR xa, uS, uS] [])) _
  have ltP0 : @LT.lt Nat _ xa h0.size := P0.lt
  have ltP9 : @LT.lt Nat _ xt h0.size := P9.lt
  refine q_aloadN X0 hx hby d32_0 rfl rfl ?_
  refine qG X0 hx hby hZ hown (wh hw 231 rfl) e0 P4 d32_1 (fun T1 X1 e1 => ?_)
  refine q_astoreN X1 hx hby d32_4 rfl (l' := #[vR xa, uS, vR xn]) rfl ?_
  refine q_aloadN X1 hx hby d32_5 rfl rfl ?_
  refine qG X1 hx hby hZ hown (wh hw 224 rfl) e1 P2 d32_6 (fun T2 X2 e2 => ?_)
  refine qG X2 hx hby hZ hown (wh hw 227 rfl) e2 P7 d32_9 (fun T3 X3 e3 => ?_)
  refine q_aloadN X3 hx hby d32_12 rfl rfl ?_
  refine qG X3 hx hby hZ hown (wh hw 228 rfl) e3 P3 d32_13 (fun T4 X4 e4 => ?_)
  refine q_icmpYes (pc := 16) X4 hx hby d32_16 (pc' := 27) (teq (rfl : xq = xq)).1 (by decide) (by decide) ?_
  refine q_aloadN X4 hx hby d32_27 rfl rfl ?_
  refine gg (fun t k => XS.ifnonnullYes X4.here hx rfl (pc0 := 28) (pc' := 39) rfl (hb hby d32_28) rfl (by decide) (by decide) k) ?_
  refine q_aloadN X4 hx hby d32_39 rfl rfl ?_
  refine q_aloadN X4 hx hby d32_40 rfl rfl ?_
  refine q_aloadN X4 hx hby d32_41 rfl rfl ?_
  show own_Goes p e below (T4.setTop (mkF m 42 #[vR xa, uS, vR xn] [.ref xn, .ref xa, .ref xa])) _
  refine gg (fun t k => XS.dupX1 X4.here hx rfl (hb hby d32_42) rfl rfl rfl k) ?_
  refine qP X4 hx hby hZ hown (host := "") (Or.inl (wh hw 233 rfl)) Via.refl e4 P5 P0 (Or.inl (wh hw 234 rfl)) (wh hw 212 rfl) (ty := (.object "java/util/HashMap$Node")) d32_43 (fun T5 h5 X5 e5 W5 => ?_)
  have O6 := O0.wr W5 (show n0 ≤ xa by omega)
  have sz7 : h5.size = h0.size := Wr.size W5
  have K8 := K0.wr W5 (Or.inl (List.mem_of_getElem? (i := 0) rfl))
  have N5 := Fr.snoc X5 N0 (show n0 ≤ xa by omega)
  have Fw5 := P5.same W5
  have f9 := (P10.other W5 (Or.inl (nE xn xa (by omega))))
  refine qG X5 hx hby hZ hown (wh hw 261 rfl) e5 f9 d32_46 (fun T10 X10 e10 => ?_)
  refine gg (fun t k => XS.dupX1 X10.here hx rfl (hb hby d32_49) rfl rfl rfl k) ?_
  have f11 := (P4.other W5 (Or.inr (slot_ne (Or.inl (wh hw 232 rfl)) (Or.inl (wh hw 234 rfl)) (by decide) (t := (.object "java/util/HashMap$Node")) (t' := (.object "java/util/HashMap$Node")) (by decide) (by decide))))
  have f12 := (P0.wr W5)
  refine qP X10 hx hby hZ hown (host := "") (Or.inl (wh hw 231 rfl)) Via.refl e10 f11 f12 (Or.inl (wh hw 232 rfl)) (wh hw 212 rfl) (ty := (.object "java/util/HashMap$Node")) d32_50 (fun T13 h13 X13 e13 W13 => ?_)
  have O14 := O6.wr W13 (show n0 ≤ xa by omega)
  have sz15 : h13.size = h5.size := Wr.size W13
  have K16 := K8.wr W13 (Or.inl (List.mem_of_getElem? (i := 0) rfl))
  have N13 := Fr.snoc X13 N5 (show n0 ≤ xa by omega)
  have Fw13 := f11.same W13
  refine gg (fun t k => XS.ifnonnullNo X13.here hx rfl (hb hby d32_53) rfl k) ?_
  refine q_aloadN X13 hx hby d32_56 rfl rfl ?_
  have f17 := ((P2.other W5 (Or.inr (slot_ne (Or.inr (wh hw 225 rfl)) (Or.inl (wh hw 234 rfl)) (by decide) (t := (.object "java/util/HashMap")) (t' := (.object "java/util/HashMap$Node")) (by decide) (by decide)))).other W13 (Or.inr (slot_ne (Or.inr (wh hw 225 rfl)) (Or.inl (wh hw 232 rfl)) (by decide) (t := (.object "java/util/HashMap")) (t' := (.object "java/util/HashMap$Node")) (by decide) (by decide))))
  refine qG X13 hx hby hZ hown (wh hw 224 rfl) e13 f17 d32_57 (fun T18 X18 e18 => ?_)
  have f19 := ((P8.other W5 (Or.inl (nE xm xa (by omega)))).other W13 (Or.inl (nE xm xa (by omega))))
  refine qG X18 hx hby hZ hown (wh hw 230 rfl) e18 f19 d32_60 (fun T20 X20 e20 => ?_)
  refine q_dup X20 hx hby d32_63 rfl ?_
  refine q_astoreN X20 hx hby d32_64 rfl (l' := #[vR xa, vR xt, vR xn]) rfl ?_
  refine q_ifnullNo X20 hx hby d32_65 ?_
  refine q_aloadN X20 hx hby d32_68 rfl rfl ?_
  have f21 := ((P6.other W5 (Or.inr (slot_ne (Or.inl (wh hw 236 rfl)) (Or.inl (wh hw 234 rfl)) (by decide) (t := .int) (t' := (.object "java/util/HashMap$Node")) (by decide) (by decide)))).other W13 (Or.inr (slot_ne (Or.inl (wh hw 236 rfl)) (Or.inl (wh hw 232 rfl)) (by decide) (t := .int) (t' := (.object "java/util/HashMap$Node")) (by decide) (by decide))))
  refine qG X20 hx hby hZ hown (wh hw 235 rfl) e20 f21 d32_69 (fun T22 X22 e22 => ?_)
  show own_Goes p e below (T22.setTop (mkF m 72 #[vR xa, vR xt, vR xn] [.int xj])) _
  refine q_aloadN X22 hx hby d32_72 rfl rfl ?_
  have f23 := ((P9.other W5 (nE xt xa (by omega))).other W13 (nE xt xa (by omega)))
  refine q_len X22 hx hby hZ e22 f23 d32_73 ?_
  refine q_icmpNo X22 hx hby d32_74 (tlt (show (xj < (16 : Int32)) from P14.2.1)).2.1 ?_
  refine q_aloadN X22 hx hby d32_77 rfl rfl ?_
  refine q_aloadN X22 hx hby d32_78 rfl rfl ?_
  refine q_aloadN X22 hx hby d32_79 rfl rfl ?_
  refine q_dup X22 hx hby d32_80 rfl ?_
  refine qG X22 hx hby hZ hown (wh hw 235 rfl) e22 f21 d32_81 (fun T25 X25 e25 => ?_)
  refine gg (fun t k => XS.dupX1 X25.here hx rfl (hb hby d32_84) rfl rfl rfl k) ?_
  refine q_iconst X25 hx hby d32_85 ?_
  refine q_iadd X25 hx hby d32_86 ?_
  have f26 := (f12.wr W13)
  refine qP X25 hx hby hZ hown (host := "") (Or.inl (wh hw 235 rfl)) Via.refl e25 f21 f26 (Or.inl (wh hw 236 rfl)) (wh hw 212 rfl) (ty := .int) d32_87 (fun T27 h27 X27 e27 W27 => ?_)
  have O28 := O14.wr W27 (show n0 ≤ xa by omega)
  have sz29 : h27.size = h13.size := Wr.size W27
  have K30 := K16.wr W27 (Or.inl (List.mem_of_getElem? (i := 0) rfl))
  have N27 := Fr.snoc X27 N13 (show n0 ≤ xa by omega)
  have Fw27 : Fld Z h27 xa "java/util/HashMap$HashIterator" "index" "I" (.int (xj + (1 : Int32))) := f21.same W27
  have f31 := (f23.other W27 (nE xt xa (by omega)))
  obtain ⟨clu32, Aru32, qu32, Szu32, Ngu32, Hsu32, Gsu32⟩ := id f31
  have inu32 : ¬ (xj < 0 ∨ clu32.slots.size ≤ (xj).toNatClampNeg) := own_inb16 P14.1 P14.2.1 Szu32
  have atu32 : clu32.slots[(xj).toNatClampNeg]? = some (.ref xy) := Hsu32.at inu32 P14.2.2
  refine gg (fun t k => X27.aaload hx (j := xj) (v := (.ref xy)) (by rw [e27]; exact Aru32.1) (State.isArrayOf_alike hZ.alike Aru32.2.1) rfl Aru32.2.2 inu32 atu32 (g := (mkF m 90 #[vR xa, vR xt, vR xn] [.int xj, .ref xt, .ref xa])) rfl rfl (hb hby d32_90) _ k) ?_
  refine gg (fun t k => XS.dupX1 X27.here hx rfl (hb hby d32_91) rfl rfl rfl k) ?_
  show own_Goes p e below (T27.setTop (mkF m 92 #[vR xa, vR xt, vR xn] [.ref xy, .ref xa, .ref xy])) _
  have f33 := (Fw13.other W27 (Or.inr (slot_ne (Or.inl (wh hw 232 rfl)) (Or.inl (wh hw 236 rfl)) (by decide) (t := (.object "java/util/HashMap$Node")) (t' := .int) (by decide) (by decide))))
  have f34 := (f26.wr W27)
  refine qP X27 hx hby hZ hown (host := "") (Or.inl (wh hw 231 rfl)) Via.refl e27 f33 f34 (Or.inl (wh hw 232 rfl)) (wh hw 212 rfl) (ty := (.object "java/util/HashMap$Node")) d32_92 (fun T35 h35 X35 e35 W35 => ?_)
  have O36 := O28.wr W35 (show n0 ≤ xa by omega)
  have sz37 : h35.size = h27.size := Wr.size W35
  have K38 := K30.wr W35 (Or.inl (List.mem_of_getElem? (i := 0) rfl))
  have N35 := Fr.snoc X35 N27 (show n0 ≤ xa by omega)
  have Fw35 := f33.same W35
  refine q_ifnullNo X35 hx hby d32_95 ?_
  refine q_aloadN X35 hx hby d32_98 rfl rfl ?_
  refine r_R X35 hx hby hret hlk d32_99 e35 ?_
  have f39 := ((f17.other W27 (Or.inr (slot_ne (Or.inr (wh hw 225 rfl)) (Or.inl (wh hw 236 rfl)) (by decide) (t := (.object "java/util/HashMap")) (t' := .int) (by decide) (by decide)))).other W35 (Or.inr (slot_ne (Or.inr (wh hw 225 rfl)) (Or.inl (wh hw 232 rfl)) (by decide) (t := (.object "java/util/HashMap")) (t' := (.object "java/util/HashMap$Node")) (by decide) (by decide))))
  have f40 := ((((P3.other W5 (Or.inr (slot_ne (Or.inl (wh hw 229 rfl)) (Or.inl (wh hw 234 rfl)) (by decide) (t := .int) (t' := (.object "java/util/HashMap$Node")) (by decide) (by decide)))).other W13 (Or.inr (slot_ne (Or.inl (wh hw 229 rfl)) (Or.inl (wh hw 232 rfl)) (by decide) (t := .int) (t' := (.object "java/util/HashMap$Node")) (by decide) (by decide)))).other W27 (Or.inr (slot_ne (Or.inl (wh hw 229 rfl)) (Or.inl (wh hw 236 rfl)) (by decide) (t := .int) (t' := .int) (by decide) (by decide)))).other W35 (Or.inr (slot_ne (Or.inl (wh hw 229 rfl)) (Or.inl (wh hw 232 rfl)) (by decide) (t := .int) (t' := (.object "java/util/HashMap$Node")) (by decide) (by decide))))
  have f41 := (((Fw5.other W13 (Or.inr (slot_ne (Or.inl (wh hw 234 rfl)) (Or.inl (wh hw 232 rfl)) (by decide) (t := (.object "java/util/HashMap$Node")) (t' := (.object "java/util/HashMap$Node")) (by decide) (by decide)))).other W27 (Or.inr (slot_ne (Or.inl (wh hw 234 rfl)) (Or.inl (wh hw 236 rfl)) (by decide) (t := (.object "java/util/HashMap$Node")) (t' := .int) (by decide) (by decide)))).other W35 (Or.inr (slot_ne (Or.inl (wh hw 234 rfl)) (Or.inl (wh hw 232 rfl)) (by decide) (t := (.object "java/util/HashMap$Node")) (t' := (.object "java/util/HashMap$Node")) (by decide) (by decide))))
  have f42 := (Fw27.other W35 (Or.inr (slot_ne (Or.inl (wh hw 236 rfl)) (Or.inl (wh hw 232 rfl)) (by decide) (t := .int) (t' := (.object "java/util/HashMap$Node")) (by decide) (by decide))))
  exact ⟨N35, K38, rfl, f39, f40, Fw35, f41, f42⟩
theorem own_ef_own_nextF (m : MethodId) (xa : Addr) : entryFrame m #[.ref xa] 1 = mkF m 0 #[vR xa] [] := by first | (simp [entryFrame, mkF, argsToLocals, Value.category]; done) | rfl
def Q_own_nextF (Z : State) (xa : Addr) (xm : Addr) (xq : Int32) (xt : Addr) (xk : ClassId) (xc : Value) (xj : Int32) (xn : Addr) (x1 : Addr) (x2 : Value) (x3 : Value) (xy : Addr) (xv : Addr) (h0 : Heap) (n0 : Nat) (v : Option Value) (h : Heap) (L : List Loc) : Prop := Fr n0 L ∧ Keep h0 h [xa] ∧ v = some (.ref xv) ∧ Fld Z h xa "java/util/HashMap$HashIterator" "this$0" "Ljava/util/HashMap;" (.ref xm) ∧ Fld Z h xa "java/util/HashMap$HashIterator" "expectedModCount" "I" (.int xq) ∧ Fld Z h xa "java/util/HashMap$HashIterator" "next" "Ljava/util/HashMap$Node;" (.ref xy) ∧ Fld Z h xa "java/util/HashMap$HashIterator" "current" "Ljava/util/HashMap$Node;" (.ref xn) ∧ Fld Z h xa "java/util/HashMap$HashIterator" "index" "I" (.int (xj + (1 : Int32)))
theorem own_nextF (l : Launch) (Z : State) (a0 : Array Value) (hw : ∀ d ∈ tables_1, d.before a0 Z = true) (ws : List Jvm.Cond) (xa : Addr) (xm : Addr) (xq : Int32) (xt : Addr) (xk : ClassId) (xc : Value) (xj : Int32) (xn : Addr) (x1 : Addr) (x2 : Value) (x3 : Value) (xy : Addr) (xv : Addr) (h0 : Heap) (n0 : Nat) (O0 : Old Z n0 h0) (P0 : Exa Z h0 xa "java/util/HashMap$ValueIterator") (P1 : n0 ≤ xa) (P2 : Fld Z h0 xa "java/util/HashMap$HashIterator" "this$0" "Ljava/util/HashMap;" (.ref xm)) (P3 : Fld Z h0 xa "java/util/HashMap$HashIterator" "expectedModCount" "I" (.int xq)) (P4 : Fld Z h0 xa "java/util/HashMap$HashIterator" "next" "Ljava/util/HashMap$Node;" (.ref xn)) (P5 : Fld Z h0 xa "java/util/HashMap$HashIterator" "current" "Ljava/util/HashMap$Node;" xc) (P6 : Fld Z h0 xa "java/util/HashMap$HashIterator" "index" "I" (.int xj)) (P7 : Fld Z h0 xm "java/util/HashMap" "modCount" "I" (.int xq)) (P8 : Fld Z h0 xm "java/util/HashMap" "table" "[Ljava/util/HashMap$Node;" (.ref xt)) (P9 : Arv Z h0 xt xk (.object "java/util/HashMap$Node") (16 : Int32) [.null, .ref x1, x2, x3, .null, .null, .null, .null, .null, .null, .null, .null, .null, .null, .null, .null] .null) (P10 : Fld Z h0 xn "java/util/HashMap$Node" "next" "Ljava/util/HashMap$Node;" .null) (P11 : @LT.lt Nat _ xm xa) (P12 : @LT.lt Nat _ xt xa) (P13 : @LT.lt Nat _ xn xa) (P14 : Fld Z h0 xn "java/util/HashMap$Node" "value" "Ljava/lang/Object;" (.ref xv)) (P15 : ¬ xj < 0 ∧ xj < (16 : Int32) ∧ List.getD ([.null, .ref x1, x2, x3, .null, .null, .null, .null, .null, .null, .null, .null, .null, .null, .null, .null] : List Value) xj.toNatClampNeg .null = .ref xy) : own_Met l Z (⟨"java/util/HashMap$ValueIterator", "next", "()Ljava/lang/Object;"⟩ : MethodName) jdk_2569_method_2_code 1 (some (.object "java/lang/Object")) ws ({ frames := 1, cells := 0, slots := 0, locals := 14 } : Room) #[.ref xa] h0 (Q_own_nextF Z xa xm xq xt xk xc xj xn x1 x2 x3 xy xv h0 n0) := by
  refine own_mk (plainFor_of_name own_pn_java_util_HashMap_ValueIterator) O0 ?_
  intro p e s m below meth c s₁ hx hby hml hZ hown hnm hlk hret X0 e0 N0 z0 z1
  have K0 : Keep h0 h0 [xa] := Keep.refl _ _
  refine own_cast (own_ef_own_nextF m xa) ?_
  show own_Goes p e below (s₁.setTop (mkF m 0 #[vR xa] [])) _
  have ltP0 : @LT.lt Nat _ xa h0.size := P0.lt
  have ltP9 : @LT.lt Nat _ xt h0.size := P9.lt
  refine q_aloadN X0 hx hby d31_0 rfl rfl ?_
  refine k_VU X0 hx hby hZ hown (wh hw 255 rfl) (wh hw 256 rfl) (wh hw 257 rfl) (wh hw 259 rfl) (wh hw 258 rfl) (W := 0) (own_nextNodeF l Z a0 hw [] xa xm xq xt xk xc xj xn x1 x2 x3 xy h0 n0 O0 P0 (show n0 ≤ xa by first | assumption | omega | decide) P2 P3 P4 P5 P6 P7 P8 P9 P10 (show @LT.lt Nat _ xm xa by first | assumption | omega | decide) (show @LT.lt Nat _ xt xa by first | assumption | omega | decide) (show @LT.lt Nat _ xn xa by first | assumption | omega | decide) (show ¬ xj < 0 ∧ xj < (16 : Int32) ∧ List.getD ([.null, .ref x1, x2, x3, .null, .null, .null, .null, .null, .null, .null, .null, .null, .null, .null, .null] : List Value) xj.toNatClampNeg .null = .ref xy from (by first | exact ⟨by decide, by decide, rfl⟩ | assumption))) (wh hw 260 rfl) (wh hw 222 rfl) e0 P0  hml (argsL := []) (rest := []) own_pd_14 d31_1 (fun _ T1 L1 X1 hQ1 => ?_)
  obtain ⟨h1, e1⟩ : ∃ z, T1.heap = z := ⟨_, rfl⟩
  rw [e1] at hQ1
  obtain ⟨Nc1, Kc1, rfl, c1_0, c1_1, c1_2, c1_3, c1_4⟩ := hQ1
  have N1 := Fr.app N0 Nc1
  have O2 := O0.keep Kc1 (allS (show n0 ≤ xa by omega) all0)
  have sz3 : h0.size ≤ h1.size := Kc1.1
  have K4 := Keep.trans K0 Kc1 (allS (Or.inl (List.mem_of_getElem? (i := 0) rfl)) all0)
  have f5 := (P14.keep Kc1 (ninS (nE xn xa (by omega)) nin0))
  refine qG X1 hx hby hZ hown (wh hw 262 rfl) e1 f5 d31_4 (fun T6 X6 e6 => ?_)
  refine r_R X6 hx hby hret hlk d31_7 e6 ?_
  exact ⟨N1, K4, rfl, c1_0, c1_1, c1_2, c1_3, c1_4⟩
theorem own_cpn {k n : Int32} (h : k < n) (hk : ¬ k < 0) : (0 : Int32).toNatClampNeg + k.toNatClampNeg ≤ n.toNatClampNeg := by
  have e : (0 : Int32).toInt = 0 := by decide
  rw [Int32.lt_iff_toInt_lt] at h hk
  simp only [Int32.toNatClampNeg]
  omega
theorem d34_0 : decode B34 0 = .ok (.iload_n 1, 1) := by decide +kernel
theorem d34_1 : decode B34 1 = .ok (.aload_n 0, 1) := by decide +kernel
theorem d34_2 : decode B34 2 = .ok (.arraylength, 1) := by decide +kernel
theorem d34_3 : decode B34 3 = .ok (.if_icmp .ne 11, 3) := by decide +kernel
theorem d34_6 : decode B34 6 = .ok (.aload_n 0, 1) := by decide +kernel
theorem d34_7 : decode B34 7 = .ok (.invokevirtual 316, 3) := by decide +kernel
theorem d34_10 : decode B34 10 = .ok (.checkcast 317, 3) := by decide +kernel
theorem d34_13 : decode B34 13 = .ok (.areturn, 1) := by decide +kernel
theorem own_pn_java_util_Arrays : plainName "java/util/Arrays" = true := by first | (simp [plainName, overriddenIn]; done) | decide +kernel
theorem own_ef_own_copy0 (m : MethodId) (xa : Addr) : entryFrame m #[.ref xa, .int 0] 3 = mkF m 0 #[vR xa, vI 0, uS] [] := by first | (simp [entryFrame, mkF, argsToLocals, Value.category]; done) | rfl
def Q_own_copy0 (Z : State) (xa : Addr) (xk : ClassId) (h0 : Heap) (n0 : Nat) (v : Option Value) (h : Heap) (L : List Loc) : Prop := Fr n0 L ∧ Keep h0 h [] ∧ ∃ (r : Addr), ∃ (rk : ClassId), v = some (.ref r) ∧ Arv Z h r rk .int (0 : Int32) [] (.int 0) ∧ h0.size ≤ r
theorem own_copy0 (l : Launch) (Z : State) (a0 : Array Value) (hw : ∀ d ∈ tables_1, d.before a0 Z = true) (ws : List Jvm.Cond) (xa : Addr) (xk : ClassId) (h0 : Heap) (n0 : Nat) (O0 : Old Z n0 h0) (P0 : Exa Z h0 xa "[I") (P1 : Arv Z h0 xa xk .int (0 : Int32) [] (.int 0)) : own_Met l Z (⟨"java/util/Arrays", "copyOf", "([II)[I"⟩ : MethodName) jdk_65_method_123_code 3 (some (.array .int)) ws ({ frames := 1, cells := 1, slots := 0, locals := 14 } : Room) #[.ref xa, .int 0] h0 (Q_own_copy0 Z xa xk h0 n0) := by
  refine own_mk (plainFor_of_name own_pn_java_util_Arrays) O0 ?_
  intro p e s m below meth c s₁ hx hby hml hZ hown hnm hlk hret X0 e0 N0 z0 z1
  have K0 : Keep h0 h0 [] := Keep.refl _ _
  refine own_cast (own_ef_own_copy0 m xa) ?_
  show own_Goes p e below (s₁.setTop (mkF m 0 #[vR xa, vI 0, uS] [])) _
  have ltP0 : @LT.lt Nat _ xa h0.size := P0.lt
  have ltP1 : @LT.lt Nat _ xa h0.size := P1.lt
  refine q_iloadN X0 hx hby d34_0 rfl ?_
  refine q_aloadN X0 hx hby d34_1 rfl rfl ?_
  refine q_len X0 hx hby hZ e0 P1 d34_2 ?_
  refine q_icmpNo X0 hx hby d34_3 (teq (show ((0 : Int32) = (0 : Int32)) from by decide)).2 ?_
  refine q_aloadN X0 hx hby d34_6 rfl rfl ?_
  obtain ⟨T2, h2, X2, e2, E2, V2, A2, st2⟩ := cloneH X0 hx hZ hown (wh hw 278 rfl) (wh hw 279 rfl) (wh hw 283 rfl) (wh hw 281 rfl) (wh hw 282 rfl) (wh hw 284 rfl) e0 (Arv.arh P1) P0 (g := (mkF m 7 #[vR xa, vI 0, uS] [.ref xa])) rfl (by rw [hml]; rfl) rfl (hb hby d34_7) (by decide) (W := 0) (cap := 0) (by show 2 * 0 + _ ≤ _; exact Nat.le_of_eq rfl) (by decide) (by decide) (by decide) (by decide)
  obtain ⟨b2, g2⟩ : ∃ z, z = h0.size := ⟨_, rfl⟩
  rw [← g2] at A2 V2 st2
  refine gg st2 ?_
  have O3 := O0.ext E2
  have sz4 : h0.size ≤ h2.size := E2.1
  have K5 := K0.ext E2
  have l2 : @LT.lt Nat _ b2 h2.size := A2.lt
  replace V2 : Arv Z h2 b2 xk .int (0 : Int32) [] (.int 0) := V2
  obtain ⟨T6, X6, e6, st6⟩ := castY X2 hx hZ hown (wh hw 285 rfl) e2 (Ins.self A2) (g := (mkF m 10 #[vR xa, vI 0, uS] [.ref b2])) rfl rfl (hb hby d34_10)
  refine gg st6 ?_
  refine r_R X6 hx hby hret hlk d34_13 e6 ?_
  exact ⟨N0, K5, b2, xk, rfl, V2, (show h0.size ≤ b2 by first | assumption | omega | decide)⟩
theorem d34_14 : decode B34 14 = .ok (.iload_n 1, 1) := by decide +kernel
theorem d34_15 : decode B34 15 = .ok (.newarray .int, 2) := by decide +kernel
theorem d34_17 : decode B34 17 = .ok (.astore_n 2, 1) := by decide +kernel
theorem d34_18 : decode B34 18 = .ok (.aload_n 0, 1) := by decide +kernel
theorem d34_19 : decode B34 19 = .ok (.iconst 0, 1) := by decide +kernel
theorem d34_20 : decode B34 20 = .ok (.aload_n 2, 1) := by decide +kernel
theorem d34_21 : decode B34 21 = .ok (.iconst 0, 1) := by decide +kernel
theorem d34_22 : decode B34 22 = .ok (.aload_n 0, 1) := by decide +kernel
theorem d34_23 : decode B34 23 = .ok (.arraylength, 1) := by decide +kernel
theorem d34_24 : decode B34 24 = .ok (.iload_n 1, 1) := by decide +kernel
theorem d34_25 : decode B34 25 = .ok (.invokestatic 304, 3) := by decide +kernel
theorem own_pd_15 : parseMethodDescriptor "(II)I" = some ⟨[.int, .int], some .int⟩ := by decide +kernel
theorem d34_28 : decode B34 28 = .ok (.invokestatic 150, 3) := by decide +kernel
theorem d34_31 : decode B34 31 = .ok (.aload_n 2, 1) := by decide +kernel
theorem d34_32 : decode B34 32 = .ok (.areturn, 1) := by decide +kernel
theorem own_ef_own_copyS0 (m : MethodId) (xa : Addr) : entryFrame m #[.ref xa, .int 0] 3 = mkF m 0 #[vR xa, vI 0, uS] [] := by first | (simp [entryFrame, mkF, argsToLocals, Value.category]; done) | rfl
def Q_own_copyS0 (Z : State) (xa : Addr) (xk : ClassId) (xn : Int32) (h0 : Heap) (n0 : Nat) (v : Option Value) (h : Heap) (L : List Loc) : Prop := Fr n0 L ∧ Keep h0 h [] ∧ ∃ (r : Addr), ∃ (rk : ClassId), v = some (.ref r) ∧ Arv Z h r rk .int (0 : Int32) [] (.int 0) ∧ h0.size ≤ r
theorem own_copyS0 (l : Launch) (Z : State) (a0 : Array Value) (hw : ∀ d ∈ tables_1, d.before a0 Z = true) (ws : List Jvm.Cond) (xa : Addr) (xk : ClassId) (xn : Int32) (h0 : Heap) (n0 : Nat) (O0 : Old Z n0 h0) (P0 : Arv Z h0 xa xk .int xn [] (.int 0)) (P1 : ¬ (0 : Int32) = xn) (P2 : (0 : Int32) < xn) : own_Met l Z (⟨"java/util/Arrays", "copyOf", "([II)[I"⟩ : MethodName) jdk_65_method_123_code 3 (some (.array .int)) ws ({ frames := 1, cells := 1, slots := 0, locals := 40 } : Room) #[.ref xa, .int 0] h0 (Q_own_copyS0 Z xa xk xn h0 n0) := by
  refine own_mk (plainFor_of_name own_pn_java_util_Arrays) O0 ?_
  intro p e s m below meth c s₁ hx hby hml hZ hown hnm hlk hret X0 e0 N0 z0 z1
  have K0 : Keep h0 h0 [] := Keep.refl _ _
  refine own_cast (own_ef_own_copyS0 m xa) ?_
  show own_Goes p e below (s₁.setTop (mkF m 0 #[vR xa, vI 0, uS] [])) _
  have ltP0 : @LT.lt Nat _ xa h0.size := P0.lt
  refine q_iloadN X0 hx hby d34_0 rfl ?_
  refine q_aloadN X0 hx hby d34_1 rfl rfl ?_
  refine q_len X0 hx hby hZ e0 P0 d34_2 ?_
  refine q_icmpYes (pc := 3) X0 hx hby d34_3 (pc' := 14) (feq (show ¬ ((0 : Int32) = xn) from P1)).2 (by decide) (by decide) ?_
  refine q_iloadN X0 hx hby d34_14 rfl ?_
  obtain ⟨T2, h2, k2, X2, e2, E2, A2, Ex2, st2⟩ := newPE X0 hx hZ (wh hw 169 rfl) e0 (g := (mkF m 15 #[vR xa, vI 0, uS] [.int 0])) rfl (hb hby d34_15) rfl (by decide) (cap := 0) (by decide) (by decide) (by decide) (by decide) (ad := "[I") (by decide)
  obtain ⟨b2, g2⟩ : ∃ z, z = h0.size := ⟨_, rfl⟩
  rw [← g2] at A2 st2 Ex2
  refine gg st2 ?_
  have O3 := O0.ext E2
  have sz4 : h0.size ≤ h2.size := E2.1
  have K5 := K0.ext E2
  have l2 : @LT.lt Nat _ b2 h2.size := A2.lt
  have V2 : Arv Z h2 b2 k2 .int (0 : Int32) [] (.int 0) := (Arv.new A2 (by decide)).pad (pad_rep [] (.int 0) 0)
  refine q_astoreN X2 hx hby d34_17 rfl (l' := #[vR xa, vI 0, vR b2]) rfl ?_
  refine q_aloadN X2 hx hby d34_18 rfl rfl ?_
  refine q_iconst X2 hx hby d34_19 ?_
  refine q_aloadN X2 hx hby d34_20 rfl rfl ?_
  refine q_iconst X2 hx hby d34_21 ?_
  refine q_aloadN X2 hx hby d34_22 rfl rfl ?_
  have f6 := (P0.ext E2)
  refine q_len X2 hx hby hZ e2 f6 d34_23 ?_
  refine q_iloadN X2 hx hby d34_24 rfl ?_
  show own_Goes p e below (T2.setTop (mkF m 25 #[vR xa, vI 0, vR b2] [.int 0, .int xn, .int 0, .ref b2, .int 0, .ref xa])) _
  refine k_S X2 hx hby hZ hown (wh hw 323 rfl) (wh hw 324 rfl) (W := 4) (own_minR l Z a0 hw [] xn (0 : Int32) h2 n0 O3 (show (0 : Int32) < xn by first | assumption | omega | decide)) (wh hw 326 rfl) (wh hw 325 rfl) e2  hml (argsL := [.int xn, .int 0]) (rest := [.int 0, .ref b2, .int 0, .ref xa]) own_pd_15 d34_25 (fun _ T8 L8 X8 hQ8 => ?_)
  obtain ⟨Nc8, e8, rfl⟩ := hQ8
  have N8 := Fr.app N0 Nc8
  obtain ⟨T9, h9, Lq9, X9, e9, N9, Kc9, V9, st9⟩ := cpA X8 hx hZ hown (wh hw 327 rfl) (wh hw 330 rfl) (wh hw 328 rfl) (wh hw 329 rfl) e8 f6 V2 (sp := (0 : Int32)) (dp := (0 : Int32)) (nn := (0 : Int32)) (us := []) (Or.inl ⟨rfl, rfl⟩) (by decide) (by decide) (by decide) (own_cpn P2 (by decide)) (by decide) rfl (by decide) N8 (show n0 ≤ b2 by omega) (g := (mkF m 28 #[vR xa, vI 0, vR b2] [.int 0, .int 0, .ref b2, .int 0, .ref xa])) rfl (by rw [hml]; rfl) rfl (hb hby d34_28) (by decide) (W := 0) (by show 2 * 0 + _ ≤ _; exact Nat.le_of_eq rfl) (by decide)
  refine gg st9 ?_
  have O10 := O3.keep Kc9 (allS (show n0 ≤ b2 by omega) all0)
  have sz11 : h2.size ≤ h9.size := Kc9.1
  have K12 := Keep.trans K5 Kc9 (allS (Or.inr (show h0.size ≤ b2 by omega)) all0)
  replace V9 : Arv Z h9 b2 k2 .int (0 : Int32) [] (.int 0) := V9
  refine q_aloadN X9 hx hby d34_31 rfl rfl ?_
  refine r_R X9 hx hby hret hlk d34_32 e9 ?_
  exact ⟨N9, K12, b2, k2, rfl, V9, (show h0.size ≤ b2 by first | assumption | omega | decide)⟩
theorem own_ef_own_copy1 (m : MethodId) (xa : Addr) : entryFrame m #[.ref xa, .int 1] 3 = mkF m 0 #[vR xa, vI 1, uS] [] := by first | (simp [entryFrame, mkF, argsToLocals, Value.category]; done) | rfl
def Q_own_copy1 (Z : State) (xa : Addr) (xk : ClassId) (y0 : Int32) (h0 : Heap) (n0 : Nat) (v : Option Value) (h : Heap) (L : List Loc) : Prop := Fr n0 L ∧ Keep h0 h [] ∧ ∃ (r : Addr), ∃ (rk : ClassId), v = some (.ref r) ∧ Arv Z h r rk .int (1 : Int32) [.int y0] (.int 0) ∧ h0.size ≤ r
theorem own_copy1 (l : Launch) (Z : State) (a0 : Array Value) (hw : ∀ d ∈ tables_1, d.before a0 Z = true) (ws : List Jvm.Cond) (xa : Addr) (xk : ClassId) (y0 : Int32) (h0 : Heap) (n0 : Nat) (O0 : Old Z n0 h0) (P0 : Exa Z h0 xa "[I") (P1 : Arv Z h0 xa xk .int (1 : Int32) [.int y0] (.int 0)) : own_Met l Z (⟨"java/util/Arrays", "copyOf", "([II)[I"⟩ : MethodName) jdk_65_method_123_code 3 (some (.array .int)) ws ({ frames := 1, cells := 1, slots := 1, locals := 14 } : Room) #[.ref xa, .int 1] h0 (Q_own_copy1 Z xa xk y0 h0 n0) := by
  refine own_mk (plainFor_of_name own_pn_java_util_Arrays) O0 ?_
  intro p e s m below meth c s₁ hx hby hml hZ hown hnm hlk hret X0 e0 N0 z0 z1
  have K0 : Keep h0 h0 [] := Keep.refl _ _
  refine own_cast (own_ef_own_copy1 m xa) ?_
  show own_Goes p e below (s₁.setTop (mkF m 0 #[vR xa, vI 1, uS] [])) _
  have ltP0 : @LT.lt Nat _ xa h0.size := P0.lt
  have ltP1 : @LT.lt Nat _ xa h0.size := P1.lt
  refine q_iloadN X0 hx hby d34_0 rfl ?_
  refine q_aloadN X0 hx hby d34_1 rfl rfl ?_
  refine q_len X0 hx hby hZ e0 P1 d34_2 ?_
  refine q_icmpNo X0 hx hby d34_3 (teq (show ((1 : Int32) = (1 : Int32)) from by decide)).2 ?_
  refine q_aloadN X0 hx hby d34_6 rfl rfl ?_
  obtain ⟨T2, h2, X2, e2, E2, V2, A2, st2⟩ := cloneH X0 hx hZ hown (wh hw 278 rfl) (wh hw 279 rfl) (wh hw 283 rfl) (wh hw 281 rfl) (wh hw 282 rfl) (wh hw 284 rfl) e0 (Arv.arh P1) P0 (g := (mkF m 7 #[vR xa, vI 1, uS] [.ref xa])) rfl (by rw [hml]; rfl) rfl (hb hby d34_7) (by decide) (W := 0) (cap := 1) (by show 2 * 0 + _ ≤ _; exact Nat.le_of_eq rfl) (by decide) (by decide) (by decide) (by decide)
  obtain ⟨b2, g2⟩ : ∃ z, z = h0.size := ⟨_, rfl⟩
  rw [← g2] at A2 V2 st2
  refine gg st2 ?_
  have O3 := O0.ext E2
  have sz4 : h0.size ≤ h2.size := E2.1
  have K5 := K0.ext E2
  have l2 : @LT.lt Nat _ b2 h2.size := A2.lt
  replace V2 : Arv Z h2 b2 xk .int (1 : Int32) [.int y0] (.int 0) := V2
  obtain ⟨T6, X6, e6, st6⟩ := castY X2 hx hZ hown (wh hw 285 rfl) e2 (Ins.self A2) (g := (mkF m 10 #[vR xa, vI 1, uS] [.ref b2])) rfl rfl (hb hby d34_10)
  refine gg st6 ?_
  refine r_R X6 hx hby hret hlk d34_13 e6 ?_
  exact ⟨N0, K5, b2, xk, rfl, V2, (show h0.size ≤ b2 by first | assumption | omega | decide)⟩
theorem own_ef_own_copyS1 (m : MethodId) (xa : Addr) : entryFrame m #[.ref xa, .int 1] 3 = mkF m 0 #[vR xa, vI 1, uS] [] := by first | (simp [entryFrame, mkF, argsToLocals, Value.category]; done) | rfl
def Q_own_copyS1 (Z : State) (xa : Addr) (xk : ClassId) (xn : Int32) (y0 : Int32) (h0 : Heap) (n0 : Nat) (v : Option Value) (h : Heap) (L : List Loc) : Prop := Fr n0 L ∧ Keep h0 h [] ∧ ∃ (r : Addr), ∃ (rk : ClassId), v = some (.ref r) ∧ Arv Z h r rk .int (1 : Int32) [.int y0] (.int 0) ∧ h0.size ≤ r
theorem own_copyS1 (l : Launch) (Z : State) (a0 : Array Value) (hw : ∀ d ∈ tables_1, d.before a0 Z = true) (ws : List Jvm.Cond) (xa : Addr) (xk : ClassId) (xn : Int32) (y0 : Int32) (h0 : Heap) (n0 : Nat) (O0 : Old Z n0 h0) (P0 : Arv Z h0 xa xk .int xn [.int y0] (.int 0)) (P1 : ¬ (1 : Int32) = xn) (P2 : (1 : Int32) < xn) : own_Met l Z (⟨"java/util/Arrays", "copyOf", "([II)[I"⟩ : MethodName) jdk_65_method_123_code 3 (some (.array .int)) ws ({ frames := 1, cells := 1, slots := 1, locals := 40 } : Room) #[.ref xa, .int 1] h0 (Q_own_copyS1 Z xa xk xn y0 h0 n0) := by
  refine own_mk (plainFor_of_name own_pn_java_util_Arrays) O0 ?_
  intro p e s m below meth c s₁ hx hby hml hZ hown hnm hlk hret X0 e0 N0 z0 z1
  have K0 : Keep h0 h0 [] := Keep.refl _ _
  refine own_cast (own_ef_own_copyS1 m xa) ?_
  show own_Goes p e below (s₁.setTop (mkF m 0 #[vR xa, vI 1, uS] [])) _
  have ltP0 : @LT.lt Nat _ xa h0.size := P0.lt
  refine q_iloadN X0 hx hby d34_0 rfl ?_
  refine q_aloadN X0 hx hby d34_1 rfl rfl ?_
  refine q_len X0 hx hby hZ e0 P0 d34_2 ?_
  refine q_icmpYes (pc := 3) X0 hx hby d34_3 (pc' := 14) (feq (show ¬ ((1 : Int32) = xn) from P1)).2 (by decide) (by decide) ?_
  refine q_iloadN X0 hx hby d34_14 rfl ?_
  obtain ⟨T2, h2, k2, X2, e2, E2, A2, Ex2, st2⟩ := newPE X0 hx hZ (wh hw 169 rfl) e0 (g := (mkF m 15 #[vR xa, vI 1, uS] [.int 1])) rfl (hb hby d34_15) rfl (by decide) (cap := 1) (by decide) (by decide) (by decide) (by decide) (ad := "[I") (by decide)
  obtain ⟨b2, g2⟩ : ∃ z, z = h0.size := ⟨_, rfl⟩
  rw [← g2] at A2 st2 Ex2
  refine gg st2 ?_
  have O3 := O0.ext E2
  have sz4 : h0.size ≤ h2.size := E2.1
  have K5 := K0.ext E2
  have l2 : @LT.lt Nat _ b2 h2.size := A2.lt
  have V2 : Arv Z h2 b2 k2 .int (1 : Int32) [.int 0] (.int 0) := (Arv.new A2 (by decide)).pad (pad_rep [] (.int 0) 1)
  refine q_astoreN X2 hx hby d34_17 rfl (l' := #[vR xa, vI 1, vR b2]) rfl ?_
  refine q_aloadN X2 hx hby d34_18 rfl rfl ?_
  refine q_iconst X2 hx hby d34_19 ?_
  refine q_aloadN X2 hx hby d34_20 rfl rfl ?_
  refine q_iconst X2 hx hby d34_21 ?_
  refine q_aloadN X2 hx hby d34_22 rfl rfl ?_
  have f6 := (P0.ext E2)
  refine q_len X2 hx hby hZ e2 f6 d34_23 ?_
  refine q_iloadN X2 hx hby d34_24 rfl ?_
  show own_Goes p e below (T2.setTop (mkF m 25 #[vR xa, vI 1, vR b2] [.int 1, .int xn, .int 0, .ref b2, .int 0, .ref xa])) _
  refine k_S X2 hx hby hZ hown (wh hw 323 rfl) (wh hw 324 rfl) (W := 4) (own_minR l Z a0 hw [] xn (1 : Int32) h2 n0 O3 (show (1 : Int32) < xn by first | assumption | omega | decide)) (wh hw 326 rfl) (wh hw 325 rfl) e2  hml (argsL := [.int xn, .int 1]) (rest := [.int 0, .ref b2, .int 0, .ref xa]) own_pd_15 d34_25 (fun _ T8 L8 X8 hQ8 => ?_)
  obtain ⟨Nc8, e8, rfl⟩ := hQ8
  have N8 := Fr.app N0 Nc8
  obtain ⟨T9, h9, Lq9, X9, e9, N9, Kc9, V9, st9⟩ := cpA X8 hx hZ hown (wh hw 327 rfl) (wh hw 330 rfl) (wh hw 328 rfl) (wh hw 329 rfl) e8 f6 V2 (sp := (0 : Int32)) (dp := (0 : Int32)) (nn := (1 : Int32)) (us := [.int y0]) (Or.inl ⟨rfl, rfl⟩) (by decide) (by decide) (by decide) (own_cpn P2 (by decide)) (by decide) rfl (by decide) N8 (show n0 ≤ b2 by omega) (g := (mkF m 28 #[vR xa, vI 1, vR b2] [.int 1, .int 0, .ref b2, .int 0, .ref xa])) rfl (by rw [hml]; rfl) rfl (hb hby d34_28) (by decide) (W := 0) (by show 2 * 0 + _ ≤ _; exact Nat.le_of_eq rfl) (by decide)
  refine gg st9 ?_
  have O10 := O3.keep Kc9 (allS (show n0 ≤ b2 by omega) all0)
  have sz11 : h2.size ≤ h9.size := Kc9.1
  have K12 := Keep.trans K5 Kc9 (allS (Or.inr (show h0.size ≤ b2 by omega)) all0)
  replace V9 : Arv Z h9 b2 k2 .int (1 : Int32) [.int y0] (.int 0) := V9
  refine q_aloadN X9 hx hby d34_31 rfl rfl ?_
  refine r_R X9 hx hby hret hlk d34_32 e9 ?_
  exact ⟨N9, K12, b2, k2, rfl, V9, (show h0.size ≤ b2 by first | assumption | omega | decide)⟩
theorem own_ef_own_copy2 (m : MethodId) (xa : Addr) : entryFrame m #[.ref xa, .int 2] 3 = mkF m 0 #[vR xa, vI 2, uS] [] := by first | (simp [entryFrame, mkF, argsToLocals, Value.category]; done) | rfl
def Q_own_copy2 (Z : State) (xa : Addr) (xk : ClassId) (y0 : Int32) (y1 : Int32) (h0 : Heap) (n0 : Nat) (v : Option Value) (h : Heap) (L : List Loc) : Prop := Fr n0 L ∧ Keep h0 h [] ∧ ∃ (r : Addr), ∃ (rk : ClassId), v = some (.ref r) ∧ Arv Z h r rk .int (2 : Int32) [.int y0, .int y1] (.int 0) ∧ h0.size ≤ r
theorem own_copy2 (l : Launch) (Z : State) (a0 : Array Value) (hw : ∀ d ∈ tables_1, d.before a0 Z = true) (ws : List Jvm.Cond) (xa : Addr) (xk : ClassId) (y0 : Int32) (y1 : Int32) (h0 : Heap) (n0 : Nat) (O0 : Old Z n0 h0) (P0 : Exa Z h0 xa "[I") (P1 : Arv Z h0 xa xk .int (2 : Int32) [.int y0, .int y1] (.int 0)) : own_Met l Z (⟨"java/util/Arrays", "copyOf", "([II)[I"⟩ : MethodName) jdk_65_method_123_code 3 (some (.array .int)) ws ({ frames := 1, cells := 1, slots := 2, locals := 14 } : Room) #[.ref xa, .int 2] h0 (Q_own_copy2 Z xa xk y0 y1 h0 n0) := by
  refine own_mk (plainFor_of_name own_pn_java_util_Arrays) O0 ?_
  intro p e s m below meth c s₁ hx hby hml hZ hown hnm hlk hret X0 e0 N0 z0 z1
  have K0 : Keep h0 h0 [] := Keep.refl _ _
  refine own_cast (own_ef_own_copy2 m xa) ?_
  show own_Goes p e below (s₁.setTop (mkF m 0 #[vR xa, vI 2, uS] [])) _
  have ltP0 : @LT.lt Nat _ xa h0.size := P0.lt
  have ltP1 : @LT.lt Nat _ xa h0.size := P1.lt
  refine q_iloadN X0 hx hby d34_0 rfl ?_
  refine q_aloadN X0 hx hby d34_1 rfl rfl ?_
  refine q_len X0 hx hby hZ e0 P1 d34_2 ?_
  refine q_icmpNo X0 hx hby d34_3 (teq (show ((2 : Int32) = (2 : Int32)) from by decide)).2 ?_
  refine q_aloadN X0 hx hby d34_6 rfl rfl ?_
  obtain ⟨T2, h2, X2, e2, E2, V2, A2, st2⟩ := cloneH X0 hx hZ hown (wh hw 278 rfl) (wh hw 279 rfl) (wh hw 283 rfl) (wh hw 281 rfl) (wh hw 282 rfl) (wh hw 284 rfl) e0 (Arv.arh P1) P0 (g := (mkF m 7 #[vR xa, vI 2, uS] [.ref xa])) rfl (by rw [hml]; rfl) rfl (hb hby d34_7) (by decide) (W := 0) (cap := 2) (by show 2 * 0 + _ ≤ _; exact Nat.le_of_eq rfl) (by decide) (by decide) (by decide) (by decide)
  obtain ⟨b2, g2⟩ : ∃ z, z = h0.size := ⟨_, rfl⟩
  rw [← g2] at A2 V2 st2
  refine gg st2 ?_
  have O3 := O0.ext E2
  have sz4 : h0.size ≤ h2.size := E2.1
  have K5 := K0.ext E2
  have l2 : @LT.lt Nat _ b2 h2.size := A2.lt
  replace V2 : Arv Z h2 b2 xk .int (2 : Int32) [.int y0, .int y1] (.int 0) := V2
  obtain ⟨T6, X6, e6, st6⟩ := castY X2 hx hZ hown (wh hw 285 rfl) e2 (Ins.self A2) (g := (mkF m 10 #[vR xa, vI 2, uS] [.ref b2])) rfl rfl (hb hby d34_10)
  refine gg st6 ?_
  refine r_R X6 hx hby hret hlk d34_13 e6 ?_
  exact ⟨N0, K5, b2, xk, rfl, V2, (show h0.size ≤ b2 by first | assumption | omega | decide)⟩
theorem own_ef_own_copyS2 (m : MethodId) (xa : Addr) : entryFrame m #[.ref xa, .int 2] 3 = mkF m 0 #[vR xa, vI 2, uS] [] := by first | (simp [entryFrame, mkF, argsToLocals, Value.category]; done) | rfl
def Q_own_copyS2 (Z : State) (xa : Addr) (xk : ClassId) (xn : Int32) (y0 : Int32) (y1 : Int32) (h0 : Heap) (n0 : Nat) (v : Option Value) (h : Heap) (L : List Loc) : Prop := Fr n0 L ∧ Keep h0 h [] ∧ ∃ (r : Addr), ∃ (rk : ClassId), v = some (.ref r) ∧ Arv Z h r rk .int (2 : Int32) [.int y0, .int y1] (.int 0) ∧ h0.size ≤ r
theorem own_copyS2 (l : Launch) (Z : State) (a0 : Array Value) (hw : ∀ d ∈ tables_1, d.before a0 Z = true) (ws : List Jvm.Cond) (xa : Addr) (xk : ClassId) (xn : Int32) (y0 : Int32) (y1 : Int32) (h0 : Heap) (n0 : Nat) (O0 : Old Z n0 h0) (P0 : Arv Z h0 xa xk .int xn [.int y0, .int y1] (.int 0)) (P1 : ¬ (2 : Int32) = xn) (P2 : (2 : Int32) < xn) : own_Met l Z (⟨"java/util/Arrays", "copyOf", "([II)[I"⟩ : MethodName) jdk_65_method_123_code 3 (some (.array .int)) ws ({ frames := 1, cells := 1, slots := 2, locals := 40 } : Room) #[.ref xa, .int 2] h0 (Q_own_copyS2 Z xa xk xn y0 y1 h0 n0) := by
  refine own_mk (plainFor_of_name own_pn_java_util_Arrays) O0 ?_
  intro p e s m below meth c s₁ hx hby hml hZ hown hnm hlk hret X0 e0 N0 z0 z1
  have K0 : Keep h0 h0 [] := Keep.refl _ _
  refine own_cast (own_ef_own_copyS2 m xa) ?_
  show own_Goes p e below (s₁.setTop (mkF m 0 #[vR xa, vI 2, uS] [])) _
  have ltP0 : @LT.lt Nat _ xa h0.size := P0.lt
  refine q_iloadN X0 hx hby d34_0 rfl ?_
  refine q_aloadN X0 hx hby d34_1 rfl rfl ?_
  refine q_len X0 hx hby hZ e0 P0 d34_2 ?_
  refine q_icmpYes (pc := 3) X0 hx hby d34_3 (pc' := 14) (feq (show ¬ ((2 : Int32) = xn) from P1)).2 (by decide) (by decide) ?_
  refine q_iloadN X0 hx hby d34_14 rfl ?_
  obtain ⟨T2, h2, k2, X2, e2, E2, A2, Ex2, st2⟩ := newPE X0 hx hZ (wh hw 169 rfl) e0 (g := (mkF m 15 #[vR xa, vI 2, uS] [.int 2])) rfl (hb hby d34_15) rfl (by decide) (cap := 2) (by decide) (by decide) (by decide) (by decide) (ad := "[I") (by decide)
  obtain ⟨b2, g2⟩ : ∃ z, z = h0.size := ⟨_, rfl⟩
  rw [← g2] at A2 st2 Ex2
  refine gg st2 ?_
  have O3 := O0.ext E2
  have sz4 : h0.size ≤ h2.size := E2.1
  have K5 := K0.ext E2
  have l2 : @LT.lt Nat _ b2 h2.size := A2.lt
  have V2 : Arv Z h2 b2 k2 .int (2 : Int32) [.int 0, .int 0] (.int 0) := (Arv.new A2 (by decide)).pad (pad_rep [] (.int 0) 2)
  refine q_astoreN X2 hx hby d34_17 rfl (l' := #[vR xa, vI 2, vR b2]) rfl ?_
  refine q_aloadN X2 hx hby d34_18 rfl rfl ?_
  refine q_iconst X2 hx hby d34_19 ?_
  refine q_aloadN X2 hx hby d34_20 rfl rfl ?_
  refine q_iconst X2 hx hby d34_21 ?_
  refine q_aloadN X2 hx hby d34_22 rfl rfl ?_
  have f6 := (P0.ext E2)
  refine q_len X2 hx hby hZ e2 f6 d34_23 ?_
  refine q_iloadN X2 hx hby d34_24 rfl ?_
  show own_Goes p e below (T2.setTop (mkF m 25 #[vR xa, vI 2, vR b2] [.int 2, .int xn, .int 0, .ref b2, .int 0, .ref xa])) _
  refine k_S X2 hx hby hZ hown (wh hw 323 rfl) (wh hw 324 rfl) (W := 4) (own_minR l Z a0 hw [] xn (2 : Int32) h2 n0 O3 (show (2 : Int32) < xn by first | assumption | omega | decide)) (wh hw 326 rfl) (wh hw 325 rfl) e2  hml (argsL := [.int xn, .int 2]) (rest := [.int 0, .ref b2, .int 0, .ref xa]) own_pd_15 d34_25 (fun _ T8 L8 X8 hQ8 => ?_)
  obtain ⟨Nc8, e8, rfl⟩ := hQ8
  have N8 := Fr.app N0 Nc8
  obtain ⟨T9, h9, Lq9, X9, e9, N9, Kc9, V9, st9⟩ := cpA X8 hx hZ hown (wh hw 327 rfl) (wh hw 330 rfl) (wh hw 328 rfl) (wh hw 329 rfl) e8 f6 V2 (sp := (0 : Int32)) (dp := (0 : Int32)) (nn := (2 : Int32)) (us := [.int y0, .int y1]) (Or.inl ⟨rfl, rfl⟩) (by decide) (by decide) (by decide) (own_cpn P2 (by decide)) (by decide) rfl (by decide) N8 (show n0 ≤ b2 by omega) (g := (mkF m 28 #[vR xa, vI 2, vR b2] [.int 2, .int 0, .ref b2, .int 0, .ref xa])) rfl (by rw [hml]; rfl) rfl (hb hby d34_28) (by decide) (W := 0) (by show 2 * 0 + _ ≤ _; exact Nat.le_of_eq rfl) (by decide)
  refine gg st9 ?_
  have O10 := O3.keep Kc9 (allS (show n0 ≤ b2 by omega) all0)
  have sz11 : h2.size ≤ h9.size := Kc9.1
  have K12 := Keep.trans K5 Kc9 (allS (Or.inr (show h0.size ≤ b2 by omega)) all0)
  replace V9 : Arv Z h9 b2 k2 .int (2 : Int32) [.int y0, .int y1] (.int 0) := V9
  refine q_aloadN X9 hx hby d34_31 rfl rfl ?_
  refine r_R X9 hx hby hret hlk d34_32 e9 ?_
  exact ⟨N9, K12, b2, k2, rfl, V9, (show h0.size ≤ b2 by first | assumption | omega | decide)⟩
theorem own_ef_own_copy3 (m : MethodId) (xa : Addr) : entryFrame m #[.ref xa, .int 3] 3 = mkF m 0 #[vR xa, vI 3, uS] [] := by first | (simp [entryFrame, mkF, argsToLocals, Value.category]; done) | rfl
def Q_own_copy3 (Z : State) (xa : Addr) (xk : ClassId) (y0 : Int32) (y1 : Int32) (y2 : Int32) (h0 : Heap) (n0 : Nat) (v : Option Value) (h : Heap) (L : List Loc) : Prop := Fr n0 L ∧ Keep h0 h [] ∧ ∃ (r : Addr), ∃ (rk : ClassId), v = some (.ref r) ∧ Arv Z h r rk .int (3 : Int32) [.int y0, .int y1, .int y2] (.int 0) ∧ h0.size ≤ r
theorem own_copy3 (l : Launch) (Z : State) (a0 : Array Value) (hw : ∀ d ∈ tables_1, d.before a0 Z = true) (ws : List Jvm.Cond) (xa : Addr) (xk : ClassId) (y0 : Int32) (y1 : Int32) (y2 : Int32) (h0 : Heap) (n0 : Nat) (O0 : Old Z n0 h0) (P0 : Exa Z h0 xa "[I") (P1 : Arv Z h0 xa xk .int (3 : Int32) [.int y0, .int y1, .int y2] (.int 0)) : own_Met l Z (⟨"java/util/Arrays", "copyOf", "([II)[I"⟩ : MethodName) jdk_65_method_123_code 3 (some (.array .int)) ws ({ frames := 1, cells := 1, slots := 3, locals := 14 } : Room) #[.ref xa, .int 3] h0 (Q_own_copy3 Z xa xk y0 y1 y2 h0 n0) := by
  refine own_mk (plainFor_of_name own_pn_java_util_Arrays) O0 ?_
  intro p e s m below meth c s₁ hx hby hml hZ hown hnm hlk hret X0 e0 N0 z0 z1
  have K0 : Keep h0 h0 [] := Keep.refl _ _
  refine own_cast (own_ef_own_copy3 m xa) ?_
  show own_Goes p e below (s₁.setTop (mkF m 0 #[vR xa, vI 3, uS] [])) _
  have ltP0 : @LT.lt Nat _ xa h0.size := P0.lt
  have ltP1 : @LT.lt Nat _ xa h0.size := P1.lt
  refine q_iloadN X0 hx hby d34_0 rfl ?_
  refine q_aloadN X0 hx hby d34_1 rfl rfl ?_
  refine q_len X0 hx hby hZ e0 P1 d34_2 ?_
  refine q_icmpNo X0 hx hby d34_3 (teq (show ((3 : Int32) = (3 : Int32)) from by decide)).2 ?_
  refine q_aloadN X0 hx hby d34_6 rfl rfl ?_
  obtain ⟨T2, h2, X2, e2, E2, V2, A2, st2⟩ := cloneH X0 hx hZ hown (wh hw 278 rfl) (wh hw 279 rfl) (wh hw 283 rfl) (wh hw 281 rfl) (wh hw 282 rfl) (wh hw 284 rfl) e0 (Arv.arh P1) P0 (g := (mkF m 7 #[vR xa, vI 3, uS] [.ref xa])) rfl (by rw [hml]; rfl) rfl (hb hby d34_7) (by decide) (W := 0) (cap := 3) (by show 2 * 0 + _ ≤ _; exact Nat.le_of_eq rfl) (by decide) (by decide) (by decide) (by decide)
  obtain ⟨b2, g2⟩ : ∃ z, z = h0.size := ⟨_, rfl⟩
  rw [← g2] at A2 V2 st2
  refine gg st2 ?_
  have O3 := O0.ext E2
  have sz4 : h0.size ≤ h2.size := E2.1
  have K5 := K0.ext E2
  have l2 : @LT.lt Nat _ b2 h2.size := A2.lt
  replace V2 : Arv Z h2 b2 xk .int (3 : Int32) [.int y0, .int y1, .int y2] (.int 0) := V2
  obtain ⟨T6, X6, e6, st6⟩ := castY X2 hx hZ hown (wh hw 285 rfl) e2 (Ins.self A2) (g := (mkF m 10 #[vR xa, vI 3, uS] [.ref b2])) rfl rfl (hb hby d34_10)
  refine gg st6 ?_
  refine r_R X6 hx hby hret hlk d34_13 e6 ?_
  exact ⟨N0, K5, b2, xk, rfl, V2, (show h0.size ≤ b2 by first | assumption | omega | decide)⟩
theorem d38_0 : decode B38 0 = .ok (.iload_n 1, 1) := by decide +kernel
theorem d38_1 : decode B38 1 = .ok (.istore 4, 2) := by decide +kernel
theorem d38_3 : decode B38 3 = .ok (.iinc 4 1, 3) := by decide +kernel
theorem d38_6 : decode B38 6 = .ok (.iload 4, 2) := by decide +kernel
theorem d38_8 : decode B38 8 = .ok (.iload_n 2, 1) := by decide +kernel
theorem d38_9 : decode B38 9 = .ok (.if_icmp .ge 58, 3) := by decide +kernel
theorem d38_67 : decode B38 67 = .ok (.return_, 1) := by decide +kernel
theorem own_pn_java_util_DualPivotQuicksort : plainName "java/util/DualPivotQuicksort" = true := by first | (simp [plainName, overriddenIn]; done) | decide +kernel
theorem own_ef_own_ins0 (m : MethodId) (xa : Addr) : entryFrame m #[.ref xa, .int 0, .int 0] 6 = mkF m 0 #[vR xa, vI 0, vI 0, uS, uS, uS] [] := by first | (simp [entryFrame, mkF, argsToLocals, Value.category]; done) | rfl
def Q_own_ins0 (Z : State) (xa : Addr) (xk : ClassId) (h0 : Heap) (n0 : Nat) (v : Option Value) (h : Heap) (L : List Loc) : Prop := Fr n0 L ∧ Keep h0 h [xa] ∧ v = none ∧ Arv Z h xa xk .int (0 : Int32) [] (.int 0)
theorem own_ins0 (l : Launch) (Z : State) (a0 : Array Value) (hw : ∀ d ∈ tables_1, d.before a0 Z = true) (ws : List Jvm.Cond) (xa : Addr) (xk : ClassId) (h0 : Heap) (n0 : Nat) (O0 : Old Z n0 h0) (P0 : Arv Z h0 xa xk .int (0 : Int32) [] (.int 0)) (P1 : n0 ≤ xa) : own_Met l Z (⟨"java/util/DualPivotQuicksort", "insertionSort", "([III)V"⟩ : MethodName) jdk_2529_method_6_code 6 none ws ({ frames := 0, cells := 0, slots := 0, locals := 0 } : Room) #[.ref xa, .int 0, .int 0] h0 (Q_own_ins0 Z xa xk h0 n0) := by
  refine own_mk (plainFor_of_name own_pn_java_util_DualPivotQuicksort) O0 ?_
  intro p e s m below meth c s₁ hx hby hml hZ hown hnm hlk hret X0 e0 N0 z0 z1
  have K0 : Keep h0 h0 [xa] := Keep.refl _ _
  refine own_cast (own_ef_own_ins0 m xa) ?_
  show own_Goes p e below (s₁.setTop (mkF m 0 #[vR xa, vI 0, vI 0, uS, uS, uS] [])) _
  have ltP0 : @LT.lt Nat _ xa h0.size := P0.lt
  refine q_iloadN X0 hx hby d38_0 rfl ?_
  refine q_istore X0 hx hby d38_1 (l' := #[vR xa, vI 0, vI 0, uS, vI 0, uS]) rfl ?_
  refine gg (fun t k => XS.iinc X0.here hx rfl (hb hby d38_3) rfl (l' := #[vR xa, vI 0, vI 0, uS, vI ((0 : Int32) + (1 : Int32)), uS]) rfl k) ?_
  show own_Goes p e below (s₁.setTop (mkF m 6 #[vR xa, vI 0, vI 0, uS, vI ((0 : Int32) + (1 : Int32)), uS] [])) _
  rw [show ((0 : Int32) + (1 : Int32)) = (1 : Int32) from by decide]
  refine q_iload X0 hx hby d38_6 rfl ?_
  refine q_iloadN X0 hx hby d38_8 rfl ?_
  refine q_icmpYes (pc := 9) X0 hx hby d38_9 (pc' := 67) (flt (show ¬ ((1 : Int32) < (0 : Int32)) from by decide)).2.1 (by decide) (by decide) ?_
  refine r_V X0 hx hby hret hlk d38_67 e0 ?_
  exact ⟨N0, K0, rfl, P0⟩
theorem d37_0 : decode B37 0 = .ok (.iload 4, 2) := by decide +kernel
theorem d37_2 : decode B37 2 = .ok (.iconst 1, 1) := by decide +kernel
theorem d37_3 : decode B37 3 = .ok (.isub, 1) := by decide +kernel
theorem d37_4 : decode B37 4 = .ok (.istore 5, 2) := by decide +kernel
theorem d37_6 : decode B37 6 = .ok (.iload 4, 2) := by decide +kernel
theorem d37_8 : decode B37 8 = .ok (.iload_n 3, 1) := by decide +kernel
theorem d37_9 : decode B37 9 = .ok (.isub, 1) := by decide +kernel
theorem d37_10 : decode B37 10 = .ok (.istore 6, 2) := by decide +kernel
theorem d37_12 : decode B37 12 = .ok (.iload 6, 2) := by decide +kernel
theorem d37_14 : decode B37 14 = .ok (.bipush 65, 2) := by decide +kernel
theorem d37_16 : decode B37 16 = .ok (.iload_n 2, 1) := by decide +kernel
theorem d37_17 : decode B37 17 = .ok (.iadd, 1) := by decide +kernel
theorem d37_18 : decode B37 18 = .ok (.if_icmp .ge 28, 3) := by decide +kernel
theorem d37_21 : decode B37 21 = .ok (.iload_n 2, 1) := by decide +kernel
theorem d37_22 : decode B37 22 = .ok (.iconst 1, 1) := by decide +kernel
theorem d37_23 : decode B37 23 = .ok (.iand, 1) := by decide +kernel
theorem d37_24 : decode B37 24 = .ok (.ifCond .le 22, 3) := by decide +kernel
theorem d37_46 : decode B37 46 = .ok (.iload 6, 2) := by decide +kernel
theorem d37_48 : decode B37 48 = .ok (.bipush 44, 2) := by decide +kernel
theorem d37_50 : decode B37 50 = .ok (.if_icmp .ge 11, 3) := by decide +kernel
theorem d37_53 : decode B37 53 = .ok (.aload_n 1, 1) := by decide +kernel
theorem d37_54 : decode B37 54 = .ok (.iload_n 3, 1) := by decide +kernel
theorem d37_55 : decode B37 55 = .ok (.iload 4, 2) := by decide +kernel
theorem d37_57 : decode B37 57 = .ok (.invokestatic 34, 3) := by decide +kernel
theorem own_pd_16 : parseMethodDescriptor "([III)V" = some ⟨[(.array .int), .int, .int], none⟩ := by decide +kernel
theorem d37_60 : decode B37 60 = .ok (.return_, 1) := by decide +kernel
theorem own_ef_own_dpa0 (m : MethodId) (xa : Addr) : entryFrame m #[.null, .ref xa, .int 0, .int 0, .int 0] 21 = mkF m 0 #[vN, vR xa, vI 0, vI 0, vI 0, uS, uS, uS, uS, uS, uS, uS, uS, uS, uS, uS, uS, uS, uS, uS, uS] [] := by first | (simp [entryFrame, mkF, argsToLocals, Value.category]; done) | rfl
def Q_own_dpa0 (Z : State) (xa : Addr) (xk : ClassId) (h0 : Heap) (n0 : Nat) (v : Option Value) (h : Heap) (L : List Loc) : Prop := Fr n0 L ∧ Keep h0 h [xa] ∧ v = none ∧ Arv Z h xa xk .int (0 : Int32) [] (.int 0)
theorem own_dpa0 (l : Launch) (Z : State) (a0 : Array Value) (hw : ∀ d ∈ tables_1, d.before a0 Z = true) (ws : List Jvm.Cond) (xa : Addr) (xk : ClassId) (h0 : Heap) (n0 : Nat) (O0 : Old Z n0 h0) (P0 : Arv Z h0 xa xk .int (0 : Int32) [] (.int 0)) (P1 : n0 ≤ xa) : own_Met l Z (⟨"java/util/DualPivotQuicksort", "sort", "(Ljava/util/DualPivotQuicksort$Sorter;[IIII)V"⟩ : MethodName) jdk_2529_method_4_code 21 none ws ({ frames := 1, cells := 0, slots := 0, locals := 17 } : Room) #[.null, .ref xa, .int 0, .int 0, .int 0] h0 (Q_own_dpa0 Z xa xk h0 n0) := by
  refine own_mk (plainFor_of_name own_pn_java_util_DualPivotQuicksort) O0 ?_
  intro p e s m below meth c s₁ hx hby hml hZ hown hnm hlk hret X0 e0 N0 z0 z1
  have K0 : Keep h0 h0 [xa] := Keep.refl _ _
  refine own_cast (own_ef_own_dpa0 m xa) ?_
  show own_Goes p e below (s₁.setTop (mkF m 0 #[vN, vR xa, vI 0, vI 0, vI 0, uS, uS, uS, uS, uS, uS, uS, uS, uS, uS, uS, uS, uS, uS, uS, uS] [])) _
  have ltP0 : @LT.lt Nat _ xa h0.size := P0.lt
  refine q_iload X0 hx hby d37_0 rfl ?_
  refine q_iconst X0 hx hby d37_2 ?_
  refine q_isub X0 hx hby d37_3 ?_
  show own_Goes p e below (s₁.setTop (mkF m 4 #[vN, vR xa, vI 0, vI 0, vI 0, uS, uS, uS, uS, uS, uS, uS, uS, uS, uS, uS, uS, uS, uS, uS, uS] [(.int ((0 : Int32) - (1 : Int32)))])) _
  rw [show ((0 : Int32) - (1 : Int32)) = (-1 : Int32) from by decide]
  refine q_istore X0 hx hby d37_4 (l' := #[vN, vR xa, vI 0, vI 0, vI 0, vI (-1), uS, uS, uS, uS, uS, uS, uS, uS, uS, uS, uS, uS, uS, uS, uS]) rfl ?_
  refine q_iload X0 hx hby d37_6 rfl ?_
  refine q_iloadN X0 hx hby d37_8 rfl ?_
  refine q_isub X0 hx hby d37_9 ?_
  show own_Goes p e below (s₁.setTop (mkF m 10 #[vN, vR xa, vI 0, vI 0, vI 0, vI (-1), uS, uS, uS, uS, uS, uS, uS, uS, uS, uS, uS, uS, uS, uS, uS] [(.int ((0 : Int32) - (0 : Int32)))])) _
  rw [show ((0 : Int32) - (0 : Int32)) = (0 : Int32) from by decide]
  refine q_istore X0 hx hby d37_10 (l' := #[vN, vR xa, vI 0, vI 0, vI 0, vI (-1), vI 0, uS, uS, uS, uS, uS, uS, uS, uS, uS, uS, uS, uS, uS, uS]) rfl ?_
  refine q_iload X0 hx hby d37_12 rfl ?_
  refine q_bipush X0 hx hby d37_14 ?_
  refine q_iloadN X0 hx hby d37_16 rfl ?_
  refine q_iadd X0 hx hby d37_17 ?_
  show own_Goes p e below (s₁.setTop (mkF m 18 #[vN, vR xa, vI 0, vI 0, vI 0, vI (-1), vI 0, uS, uS, uS, uS, uS, uS, uS, uS, uS, uS, uS, uS, uS, uS] [(.int ((65 : Int32) + (0 : Int32))), .int 0])) _
  rw [show ((65 : Int32) + (0 : Int32)) = (65 : Int32) from by decide]
  refine q_icmpNo X0 hx hby d37_18 (tlt (show ((0 : Int32) < (65 : Int32)) from by decide)).2.1 ?_
  refine q_iloadN X0 hx hby d37_21 rfl ?_
  refine q_iconst X0 hx hby d37_22 ?_
  refine q_iand X0 hx hby d37_23 ?_
  show own_Goes p e below (s₁.setTop (mkF m 24 #[vN, vR xa, vI 0, vI 0, vI 0, vI (-1), vI 0, uS, uS, uS, uS, uS, uS, uS, uS, uS, uS, uS, uS, uS, uS] [(.int ((0 : Int32) &&& (1 : Int32)))])) _
  rw [show ((0 : Int32) &&& (1 : Int32)) = (0 : Int32) from by decide]
  refine q_ifYes (pc := 24) X0 hx hby d37_24 (pc' := 46) ((if0 _ _).trans (flt (show ¬ ((0 : Int32) < (0 : Int32)) from by decide)).2.2.2) (by decide) (by decide) ?_
  refine q_iload X0 hx hby d37_46 rfl ?_
  refine q_bipush X0 hx hby d37_48 ?_
  refine q_icmpNo X0 hx hby d37_50 (tlt (show ((0 : Int32) < (44 : Int32)) from by decide)).2.1 ?_
  refine q_aloadN X0 hx hby d37_53 rfl rfl ?_
  refine q_iloadN X0 hx hby d37_54 rfl ?_
  refine q_iload X0 hx hby d37_55 rfl ?_
  refine k_S X0 hx hby hZ hown (wh hw 299 rfl) (wh hw 300 rfl) (W := 0) (own_ins0 l Z a0 hw [] xa xk h0 n0 O0 P0 (show n0 ≤ xa by first | assumption | omega | decide)) (wh hw 301 rfl) (wh hw 294 rfl) e0  hml (argsL := [.ref xa, .int 0, .int 0]) (rest := []) own_pd_16 d37_57 (fun _ T1 L1 X1 hQ1 => ?_)
  obtain ⟨h1, e1⟩ : ∃ z, T1.heap = z := ⟨_, rfl⟩
  rw [e1] at hQ1
  obtain ⟨Nc1, Kc1, rfl, c1_0⟩ := hQ1
  have N1 := Fr.app N0 Nc1
  have O2 := O0.keep Kc1 (allS (show n0 ≤ xa by omega) all0)
  have sz3 : h0.size ≤ h1.size := Kc1.1
  have K4 := Keep.trans K0 Kc1 (allS (Or.inl (List.mem_of_getElem? (i := 0) rfl)) all0)
  have ltc1_0 : @LT.lt Nat _ xa h1.size := c1_0.lt
  refine r_V X1 hx hby hret hlk d37_60 e1 ?_
  exact ⟨N1, K4, rfl, c1_0⟩
theorem d36_0 : decode B36 0 = .ok (.iload_n 3, 1) := by decide +kernel
theorem d36_1 : decode B36 1 = .ok (.iload_n 2, 1) := by decide +kernel
theorem d36_2 : decode B36 2 = .ok (.isub, 1) := by decide +kernel
theorem d36_3 : decode B36 3 = .ok (.istore 4, 2) := by decide +kernel
theorem d36_5 : decode B36 5 = .ok (.iload_n 1, 1) := by decide +kernel
theorem d36_6 : decode B36 6 = .ok (.iconst 1, 1) := by decide +kernel
theorem d36_7 : decode B36 7 = .ok (.if_icmp .le 61, 3) := by decide +kernel
theorem d36_68 : decode B36 68 = .ok (.aconst_null, 1) := by decide +kernel
theorem d36_69 : decode B36 69 = .ok (.aload_n 0, 1) := by decide +kernel
theorem d36_70 : decode B36 70 = .ok (.iconst 0, 1) := by decide +kernel
theorem d36_71 : decode B36 71 = .ok (.iload_n 2, 1) := by decide +kernel
theorem d36_72 : decode B36 72 = .ok (.iload_n 3, 1) := by decide +kernel
theorem d36_73 : decode B36 73 = .ok (.invokestatic 26, 3) := by decide +kernel
theorem own_pd_17 : parseMethodDescriptor "(Ljava/util/DualPivotQuicksort$Sorter;[IIII)V" = some ⟨[(.object "java/util/DualPivotQuicksort$Sorter"), (.array .int), .int, .int, .int], none⟩ := by decide +kernel
theorem d36_76 : decode B36 76 = .ok (.return_, 1) := by decide +kernel
theorem own_ef_own_dpb0 (m : MethodId) (xa : Addr) : entryFrame m #[.ref xa, .int 0, .int 0, .int 0] 7 = mkF m 0 #[vR xa, vI 0, vI 0, vI 0, uS, uS, uS] [] := by first | (simp [entryFrame, mkF, argsToLocals, Value.category]; done) | rfl
def Q_own_dpb0 (Z : State) (xa : Addr) (xk : ClassId) (h0 : Heap) (n0 : Nat) (v : Option Value) (h : Heap) (L : List Loc) : Prop := Fr n0 L ∧ Keep h0 h [xa] ∧ v = none ∧ Arv Z h xa xk .int (0 : Int32) [] (.int 0)
theorem own_dpb0 (l : Launch) (Z : State) (a0 : Array Value) (hw : ∀ d ∈ tables_1, d.before a0 Z = true) (ws : List Jvm.Cond) (xa : Addr) (xk : ClassId) (h0 : Heap) (n0 : Nat) (O0 : Old Z n0 h0) (P0 : Arv Z h0 xa xk .int (0 : Int32) [] (.int 0)) (P1 : n0 ≤ xa) : own_Met l Z (⟨"java/util/DualPivotQuicksort", "sort", "([IIII)V"⟩ : MethodName) jdk_2529_method_3_code 7 none ws ({ frames := 2, cells := 0, slots := 0, locals := 49 } : Room) #[.ref xa, .int 0, .int 0, .int 0] h0 (Q_own_dpb0 Z xa xk h0 n0) := by
  refine own_mk (plainFor_of_name own_pn_java_util_DualPivotQuicksort) O0 ?_
  intro p e s m below meth c s₁ hx hby hml hZ hown hnm hlk hret X0 e0 N0 z0 z1
  have K0 : Keep h0 h0 [xa] := Keep.refl _ _
  refine own_cast (own_ef_own_dpb0 m xa) ?_
  show own_Goes p e below (s₁.setTop (mkF m 0 #[vR xa, vI 0, vI 0, vI 0, uS, uS, uS] [])) _
  have ltP0 : @LT.lt Nat _ xa h0.size := P0.lt
  refine q_iloadN X0 hx hby d36_0 rfl ?_
  refine q_iloadN X0 hx hby d36_1 rfl ?_
  refine q_isub X0 hx hby d36_2 ?_
  show own_Goes p e below (s₁.setTop (mkF m 3 #[vR xa, vI 0, vI 0, vI 0, uS, uS, uS] [(.int ((0 : Int32) - (0 : Int32)))])) _
  rw [show ((0 : Int32) - (0 : Int32)) = (0 : Int32) from by decide]
  refine q_istore X0 hx hby d36_3 (l' := #[vR xa, vI 0, vI 0, vI 0, vI 0, uS, uS]) rfl ?_
  refine q_iloadN X0 hx hby d36_5 rfl ?_
  refine q_iconst X0 hx hby d36_6 ?_
  refine q_icmpYes (pc := 7) X0 hx hby d36_7 (pc' := 68) (flt (show ¬ ((1 : Int32) < (0 : Int32)) from by decide)).2.2.2 (by decide) (by decide) ?_
  refine q_aconstNull X0 hx hby d36_68 ?_
  refine q_aloadN X0 hx hby d36_69 rfl rfl ?_
  refine q_iconst X0 hx hby d36_70 ?_
  refine q_iloadN X0 hx hby d36_71 rfl ?_
  refine q_iloadN X0 hx hby d36_72 rfl ?_
  refine k_S X0 hx hby hZ hown (wh hw 296 rfl) (wh hw 297 rfl) (W := 0) (own_dpa0 l Z a0 hw [] xa xk h0 n0 O0 P0 (show n0 ≤ xa by first | assumption | omega | decide)) (wh hw 298 rfl) (wh hw 294 rfl) e0  hml (argsL := [.null, .ref xa, .int 0, .int 0, .int 0]) (rest := []) own_pd_17 d36_73 (fun _ T1 L1 X1 hQ1 => ?_)
  obtain ⟨h1, e1⟩ : ∃ z, T1.heap = z := ⟨_, rfl⟩
  rw [e1] at hQ1
  obtain ⟨Nc1, Kc1, rfl, c1_0⟩ := hQ1
  have N1 := Fr.app N0 Nc1
  have O2 := O0.keep Kc1 (allS (show n0 ≤ xa by omega) all0)
  have sz3 : h0.size ≤ h1.size := Kc1.1
  have K4 := Keep.trans K0 Kc1 (allS (Or.inl (List.mem_of_getElem? (i := 0) rfl)) all0)
  have ltc1_0 : @LT.lt Nat _ xa h1.size := c1_0.lt
  refine r_V X1 hx hby hret hlk d36_76 e1 ?_
  exact ⟨N1, K4, rfl, c1_0⟩
theorem d35_0 : decode B35 0 = .ok (.aload_n 0, 1) := by decide +kernel
theorem d35_1 : decode B35 1 = .ok (.iconst 0, 1) := by decide +kernel
theorem d35_2 : decode B35 2 = .ok (.iconst 0, 1) := by decide +kernel
theorem d35_3 : decode B35 3 = .ok (.aload_n 0, 1) := by decide +kernel
theorem d35_4 : decode B35 4 = .ok (.arraylength, 1) := by decide +kernel
theorem d35_5 : decode B35 5 = .ok (.invokestatic 7, 3) := by decide +kernel
theorem own_pd_18 : parseMethodDescriptor "([IIII)V" = some ⟨[(.array .int), .int, .int, .int], none⟩ := by decide +kernel
theorem d35_8 : decode B35 8 = .ok (.return_, 1) := by decide +kernel
theorem own_ef_own_sort0 (m : MethodId) (xa : Addr) : entryFrame m #[.ref xa] 1 = mkF m 0 #[vR xa] [] := by first | (simp [entryFrame, mkF, argsToLocals, Value.category]; done) | rfl
def Q_own_sort0 (Z : State) (xa : Addr) (xk : ClassId) (h0 : Heap) (n0 : Nat) (v : Option Value) (h : Heap) (L : List Loc) : Prop := Fr n0 L ∧ Keep h0 h [xa] ∧ v = none ∧ Arv Z h xa xk .int (0 : Int32) [] (.int 0)
theorem own_sort0 (l : Launch) (Z : State) (a0 : Array Value) (hw : ∀ d ∈ tables_1, d.before a0 Z = true) (ws : List Jvm.Cond) (xa : Addr) (xk : ClassId) (h0 : Heap) (n0 : Nat) (O0 : Old Z n0 h0) (P0 : Arv Z h0 xa xk .int (0 : Int32) [] (.int 0)) (P1 : n0 ≤ xa) : own_Met l Z (⟨"java/util/Arrays", "sort", "([I)V"⟩ : MethodName) jdk_65_method_2_code 1 none ws ({ frames := 3, cells := 0, slots := 0, locals := 67 } : Room) #[.ref xa] h0 (Q_own_sort0 Z xa xk h0 n0) := by
  refine own_mk (plainFor_of_name own_pn_java_util_Arrays) O0 ?_
  intro p e s m below meth c s₁ hx hby hml hZ hown hnm hlk hret X0 e0 N0 z0 z1
  have K0 : Keep h0 h0 [xa] := Keep.refl _ _
  refine own_cast (own_ef_own_sort0 m xa) ?_
  show own_Goes p e below (s₁.setTop (mkF m 0 #[vR xa] [])) _
  have ltP0 : @LT.lt Nat _ xa h0.size := P0.lt
  refine q_aloadN X0 hx hby d35_0 rfl rfl ?_
  refine q_iconst X0 hx hby d35_1 ?_
  refine q_iconst X0 hx hby d35_2 ?_
  refine q_aloadN X0 hx hby d35_3 rfl rfl ?_
  refine q_len X0 hx hby hZ e0 P0 d35_4 ?_
  refine k_S X0 hx hby hZ hown (wh hw 292 rfl) (wh hw 293 rfl) (W := 0) (own_dpb0 l Z a0 hw [] xa xk h0 n0 O0 P0 (show n0 ≤ xa by first | assumption | omega | decide)) (wh hw 295 rfl) (wh hw 294 rfl) e0  hml (argsL := [.ref xa, .int 0, .int 0, .int 0]) (rest := []) own_pd_18 d35_5 (fun _ T2 L2 X2 hQ2 => ?_)
  obtain ⟨h2, e2⟩ : ∃ z, T2.heap = z := ⟨_, rfl⟩
  rw [e2] at hQ2
  obtain ⟨Nc2, Kc2, rfl, c2_0⟩ := hQ2
  have N2 := Fr.app N0 Nc2
  have O3 := O0.keep Kc2 (allS (show n0 ≤ xa by omega) all0)
  have sz4 : h0.size ≤ h2.size := Kc2.1
  have K5 := Keep.trans K0 Kc2 (allS (Or.inl (List.mem_of_getElem? (i := 0) rfl)) all0)
  have ltc2_0 : @LT.lt Nat _ xa h2.size := c2_0.lt
  refine r_V X2 hx hby hret hlk d35_8 e2 ?_
  exact ⟨N2, K5, rfl, c2_0⟩
theorem own_ef_own_ins1 (m : MethodId) (xa : Addr) : entryFrame m #[.ref xa, .int 0, .int 1] 6 = mkF m 0 #[vR xa, vI 0, vI 1, uS, uS, uS] [] := by first | (simp [entryFrame, mkF, argsToLocals, Value.category]; done) | rfl
def Q_own_ins1 (Z : State) (xa : Addr) (xk : ClassId) (y0 : Int32) (h0 : Heap) (n0 : Nat) (v : Option Value) (h : Heap) (L : List Loc) : Prop := Fr n0 L ∧ Keep h0 h [xa] ∧ v = none ∧ Arv Z h xa xk .int (1 : Int32) [.int y0] (.int 0)
theorem own_ins1 (l : Launch) (Z : State) (a0 : Array Value) (hw : ∀ d ∈ tables_1, d.before a0 Z = true) (ws : List Jvm.Cond) (xa : Addr) (xk : ClassId) (y0 : Int32) (h0 : Heap) (n0 : Nat) (O0 : Old Z n0 h0) (P0 : Arv Z h0 xa xk .int (1 : Int32) [.int y0] (.int 0)) (P1 : n0 ≤ xa) : own_Met l Z (⟨"java/util/DualPivotQuicksort", "insertionSort", "([III)V"⟩ : MethodName) jdk_2529_method_6_code 6 none ws ({ frames := 0, cells := 0, slots := 0, locals := 0 } : Room) #[.ref xa, .int 0, .int 1] h0 (Q_own_ins1 Z xa xk y0 h0 n0) := by
  refine own_mk (plainFor_of_name own_pn_java_util_DualPivotQuicksort) O0 ?_
  intro p e s m below meth c s₁ hx hby hml hZ hown hnm hlk hret X0 e0 N0 z0 z1
  have K0 : Keep h0 h0 [xa] := Keep.refl _ _
  refine own_cast (own_ef_own_ins1 m xa) ?_
  show own_Goes p e below (s₁.setTop (mkF m 0 #[vR xa, vI 0, vI 1, uS, uS, uS] [])) _
  have ltP0 : @LT.lt Nat _ xa h0.size := P0.lt
  refine q_iloadN X0 hx hby d38_0 rfl ?_
  refine q_istore X0 hx hby d38_1 (l' := #[vR xa, vI 0, vI 1, uS, vI 0, uS]) rfl ?_
  refine gg (fun t k => XS.iinc X0.here hx rfl (hb hby d38_3) rfl (l' := #[vR xa, vI 0, vI 1, uS, vI ((0 : Int32) + (1 : Int32)), uS]) rfl k) ?_
  show own_Goes p e below (s₁.setTop (mkF m 6 #[vR xa, vI 0, vI 1, uS, vI ((0 : Int32) + (1 : Int32)), uS] [])) _
  rw [show ((0 : Int32) + (1 : Int32)) = (1 : Int32) from by decide]
  refine q_iload X0 hx hby d38_6 rfl ?_
  refine q_iloadN X0 hx hby d38_8 rfl ?_
  refine q_icmpYes (pc := 9) X0 hx hby d38_9 (pc' := 67) (flt (show ¬ ((1 : Int32) < (1 : Int32)) from by decide)).2.1 (by decide) (by decide) ?_
  refine r_V X0 hx hby hret hlk d38_67 e0 ?_
  exact ⟨N0, K0, rfl, P0⟩
theorem own_ef_own_dpa1 (m : MethodId) (xa : Addr) : entryFrame m #[.null, .ref xa, .int 0, .int 0, .int 1] 21 = mkF m 0 #[vN, vR xa, vI 0, vI 0, vI 1, uS, uS, uS, uS, uS, uS, uS, uS, uS, uS, uS, uS, uS, uS, uS, uS] [] := by first | (simp [entryFrame, mkF, argsToLocals, Value.category]; done) | rfl
def Q_own_dpa1 (Z : State) (xa : Addr) (xk : ClassId) (y0 : Int32) (h0 : Heap) (n0 : Nat) (v : Option Value) (h : Heap) (L : List Loc) : Prop := Fr n0 L ∧ Keep h0 h [xa] ∧ v = none ∧ Arv Z h xa xk .int (1 : Int32) [.int y0] (.int 0)
theorem own_dpa1 (l : Launch) (Z : State) (a0 : Array Value) (hw : ∀ d ∈ tables_1, d.before a0 Z = true) (ws : List Jvm.Cond) (xa : Addr) (xk : ClassId) (y0 : Int32) (h0 : Heap) (n0 : Nat) (O0 : Old Z n0 h0) (P0 : Arv Z h0 xa xk .int (1 : Int32) [.int y0] (.int 0)) (P1 : n0 ≤ xa) : own_Met l Z (⟨"java/util/DualPivotQuicksort", "sort", "(Ljava/util/DualPivotQuicksort$Sorter;[IIII)V"⟩ : MethodName) jdk_2529_method_4_code 21 none ws ({ frames := 1, cells := 0, slots := 0, locals := 17 } : Room) #[.null, .ref xa, .int 0, .int 0, .int 1] h0 (Q_own_dpa1 Z xa xk y0 h0 n0) := by
  refine own_mk (plainFor_of_name own_pn_java_util_DualPivotQuicksort) O0 ?_
  intro p e s m below meth c s₁ hx hby hml hZ hown hnm hlk hret X0 e0 N0 z0 z1
  have K0 : Keep h0 h0 [xa] := Keep.refl _ _
  refine own_cast (own_ef_own_dpa1 m xa) ?_
  show own_Goes p e below (s₁.setTop (mkF m 0 #[vN, vR xa, vI 0, vI 0, vI 1, uS, uS, uS, uS, uS, uS, uS, uS, uS, uS, uS, uS, uS, uS, uS, uS] [])) _
  have ltP0 : @LT.lt Nat _ xa h0.size := P0.lt
  refine q_iload X0 hx hby d37_0 rfl ?_
  refine q_iconst X0 hx hby d37_2 ?_
  refine q_isub X0 hx hby d37_3 ?_
  show own_Goes p e below (s₁.setTop (mkF m 4 #[vN, vR xa, vI 0, vI 0, vI 1, uS, uS, uS, uS, uS, uS, uS, uS, uS, uS, uS, uS, uS, uS, uS, uS] [(.int ((1 : Int32) - (1 : Int32)))])) _
  rw [show ((1 : Int32) - (1 : Int32)) = (0 : Int32) from by decide]
  refine q_istore X0 hx hby d37_4 (l' := #[vN, vR xa, vI 0, vI 0, vI 1, vI 0, uS, uS, uS, uS, uS, uS, uS, uS, uS, uS, uS, uS, uS, uS, uS]) rfl ?_
  refine q_iload X0 hx hby d37_6 rfl ?_
  refine q_iloadN X0 hx hby d37_8 rfl ?_
  refine q_isub X0 hx hby d37_9 ?_
  show own_Goes p e below (s₁.setTop (mkF m 10 #[vN, vR xa, vI 0, vI 0, vI 1, vI 0, uS, uS, uS, uS, uS, uS, uS, uS, uS, uS, uS, uS, uS, uS, uS] [(.int ((1 : Int32) - (0 : Int32)))])) _
  rw [show ((1 : Int32) - (0 : Int32)) = (1 : Int32) from by decide]
  refine q_istore X0 hx hby d37_10 (l' := #[vN, vR xa, vI 0, vI 0, vI 1, vI 0, vI 1, uS, uS, uS, uS, uS, uS, uS, uS, uS, uS, uS, uS, uS, uS]) rfl ?_
  refine q_iload X0 hx hby d37_12 rfl ?_
  refine q_bipush X0 hx hby d37_14 ?_
  refine q_iloadN X0 hx hby d37_16 rfl ?_
  refine q_iadd X0 hx hby d37_17 ?_
  show own_Goes p e below (s₁.setTop (mkF m 18 #[vN, vR xa, vI 0, vI 0, vI 1, vI 0, vI 1, uS, uS, uS, uS, uS, uS, uS, uS, uS, uS, uS, uS, uS, uS] [(.int ((65 : Int32) + (0 : Int32))), .int 1])) _
  rw [show ((65 : Int32) + (0 : Int32)) = (65 : Int32) from by decide]
  refine q_icmpNo X0 hx hby d37_18 (tlt (show ((1 : Int32) < (65 : Int32)) from by decide)).2.1 ?_
  refine q_iloadN X0 hx hby d37_21 rfl ?_
  refine q_iconst X0 hx hby d37_22 ?_
  refine q_iand X0 hx hby d37_23 ?_
  show own_Goes p e below (s₁.setTop (mkF m 24 #[vN, vR xa, vI 0, vI 0, vI 1, vI 0, vI 1, uS, uS, uS, uS, uS, uS, uS, uS, uS, uS, uS, uS, uS, uS] [(.int ((0 : Int32) &&& (1 : Int32)))])) _
  rw [show ((0 : Int32) &&& (1 : Int32)) = (0 : Int32) from by decide]
  refine q_ifYes (pc := 24) X0 hx hby d37_24 (pc' := 46) ((if0 _ _).trans (flt (show ¬ ((0 : Int32) < (0 : Int32)) from by decide)).2.2.2) (by decide) (by decide) ?_
  refine q_iload X0 hx hby d37_46 rfl ?_
  refine q_bipush X0 hx hby d37_48 ?_
  refine q_icmpNo X0 hx hby d37_50 (tlt (show ((1 : Int32) < (44 : Int32)) from by decide)).2.1 ?_
  refine q_aloadN X0 hx hby d37_53 rfl rfl ?_
  refine q_iloadN X0 hx hby d37_54 rfl ?_
  refine q_iload X0 hx hby d37_55 rfl ?_
  refine k_S X0 hx hby hZ hown (wh hw 299 rfl) (wh hw 300 rfl) (W := 0) (own_ins1 l Z a0 hw [] xa xk y0 h0 n0 O0 P0 (show n0 ≤ xa by first | assumption | omega | decide)) (wh hw 301 rfl) (wh hw 294 rfl) e0  hml (argsL := [.ref xa, .int 0, .int 1]) (rest := []) own_pd_16 d37_57 (fun _ T1 L1 X1 hQ1 => ?_)
  obtain ⟨h1, e1⟩ : ∃ z, T1.heap = z := ⟨_, rfl⟩
  rw [e1] at hQ1
  obtain ⟨Nc1, Kc1, rfl, c1_0⟩ := hQ1
  have N1 := Fr.app N0 Nc1
  have O2 := O0.keep Kc1 (allS (show n0 ≤ xa by omega) all0)
  have sz3 : h0.size ≤ h1.size := Kc1.1
  have K4 := Keep.trans K0 Kc1 (allS (Or.inl (List.mem_of_getElem? (i := 0) rfl)) all0)
  have ltc1_0 : @LT.lt Nat _ xa h1.size := c1_0.lt
  refine r_V X1 hx hby hret hlk d37_60 e1 ?_
  exact ⟨N1, K4, rfl, c1_0⟩
theorem own_ef_own_dpb1 (m : MethodId) (xa : Addr) : entryFrame m #[.ref xa, .int 0, .int 0, .int 1] 7 = mkF m 0 #[vR xa, vI 0, vI 0, vI 1, uS, uS, uS] [] := by first | (simp [entryFrame, mkF, argsToLocals, Value.category]; done) | rfl
def Q_own_dpb1 (Z : State) (xa : Addr) (xk : ClassId) (y0 : Int32) (h0 : Heap) (n0 : Nat) (v : Option Value) (h : Heap) (L : List Loc) : Prop := Fr n0 L ∧ Keep h0 h [xa] ∧ v = none ∧ Arv Z h xa xk .int (1 : Int32) [.int y0] (.int 0)
theorem own_dpb1 (l : Launch) (Z : State) (a0 : Array Value) (hw : ∀ d ∈ tables_1, d.before a0 Z = true) (ws : List Jvm.Cond) (xa : Addr) (xk : ClassId) (y0 : Int32) (h0 : Heap) (n0 : Nat) (O0 : Old Z n0 h0) (P0 : Arv Z h0 xa xk .int (1 : Int32) [.int y0] (.int 0)) (P1 : n0 ≤ xa) : own_Met l Z (⟨"java/util/DualPivotQuicksort", "sort", "([IIII)V"⟩ : MethodName) jdk_2529_method_3_code 7 none ws ({ frames := 2, cells := 0, slots := 0, locals := 49 } : Room) #[.ref xa, .int 0, .int 0, .int 1] h0 (Q_own_dpb1 Z xa xk y0 h0 n0) := by
  refine own_mk (plainFor_of_name own_pn_java_util_DualPivotQuicksort) O0 ?_
  intro p e s m below meth c s₁ hx hby hml hZ hown hnm hlk hret X0 e0 N0 z0 z1
  have K0 : Keep h0 h0 [xa] := Keep.refl _ _
  refine own_cast (own_ef_own_dpb1 m xa) ?_
  show own_Goes p e below (s₁.setTop (mkF m 0 #[vR xa, vI 0, vI 0, vI 1, uS, uS, uS] [])) _
  have ltP0 : @LT.lt Nat _ xa h0.size := P0.lt
  refine q_iloadN X0 hx hby d36_0 rfl ?_
  refine q_iloadN X0 hx hby d36_1 rfl ?_
  refine q_isub X0 hx hby d36_2 ?_
  show own_Goes p e below (s₁.setTop (mkF m 3 #[vR xa, vI 0, vI 0, vI 1, uS, uS, uS] [(.int ((1 : Int32) - (0 : Int32)))])) _
  rw [show ((1 : Int32) - (0 : Int32)) = (1 : Int32) from by decide]
  refine q_istore X0 hx hby d36_3 (l' := #[vR xa, vI 0, vI 0, vI 1, vI 1, uS, uS]) rfl ?_
  refine q_iloadN X0 hx hby d36_5 rfl ?_
  refine q_iconst X0 hx hby d36_6 ?_
  refine q_icmpYes (pc := 7) X0 hx hby d36_7 (pc' := 68) (flt (show ¬ ((1 : Int32) < (0 : Int32)) from by decide)).2.2.2 (by decide) (by decide) ?_
  refine q_aconstNull X0 hx hby d36_68 ?_
  refine q_aloadN X0 hx hby d36_69 rfl rfl ?_
  refine q_iconst X0 hx hby d36_70 ?_
  refine q_iloadN X0 hx hby d36_71 rfl ?_
  refine q_iloadN X0 hx hby d36_72 rfl ?_
  refine k_S X0 hx hby hZ hown (wh hw 296 rfl) (wh hw 297 rfl) (W := 0) (own_dpa1 l Z a0 hw [] xa xk y0 h0 n0 O0 P0 (show n0 ≤ xa by first | assumption | omega | decide)) (wh hw 298 rfl) (wh hw 294 rfl) e0  hml (argsL := [.null, .ref xa, .int 0, .int 0, .int 1]) (rest := []) own_pd_17 d36_73 (fun _ T1 L1 X1 hQ1 => ?_)
  obtain ⟨h1, e1⟩ : ∃ z, T1.heap = z := ⟨_, rfl⟩
  rw [e1] at hQ1
  obtain ⟨Nc1, Kc1, rfl, c1_0⟩ := hQ1
  have N1 := Fr.app N0 Nc1
  have O2 := O0.keep Kc1 (allS (show n0 ≤ xa by omega) all0)
  have sz3 : h0.size ≤ h1.size := Kc1.1
  have K4 := Keep.trans K0 Kc1 (allS (Or.inl (List.mem_of_getElem? (i := 0) rfl)) all0)
  have ltc1_0 : @LT.lt Nat _ xa h1.size := c1_0.lt
  refine r_V X1 hx hby hret hlk d36_76 e1 ?_
  exact ⟨N1, K4, rfl, c1_0⟩
theorem own_ef_own_sort1 (m : MethodId) (xa : Addr) : entryFrame m #[.ref xa] 1 = mkF m 0 #[vR xa] [] := by first | (simp [entryFrame, mkF, argsToLocals, Value.category]; done) | rfl
def Q_own_sort1 (Z : State) (xa : Addr) (xk : ClassId) (y0 : Int32) (h0 : Heap) (n0 : Nat) (v : Option Value) (h : Heap) (L : List Loc) : Prop := Fr n0 L ∧ Keep h0 h [xa] ∧ v = none ∧ Arv Z h xa xk .int (1 : Int32) [.int y0] (.int 0)
theorem own_sort1 (l : Launch) (Z : State) (a0 : Array Value) (hw : ∀ d ∈ tables_1, d.before a0 Z = true) (ws : List Jvm.Cond) (xa : Addr) (xk : ClassId) (y0 : Int32) (h0 : Heap) (n0 : Nat) (O0 : Old Z n0 h0) (P0 : Arv Z h0 xa xk .int (1 : Int32) [.int y0] (.int 0)) (P1 : n0 ≤ xa) : own_Met l Z (⟨"java/util/Arrays", "sort", "([I)V"⟩ : MethodName) jdk_65_method_2_code 1 none ws ({ frames := 3, cells := 0, slots := 0, locals := 67 } : Room) #[.ref xa] h0 (Q_own_sort1 Z xa xk y0 h0 n0) := by
  refine own_mk (plainFor_of_name own_pn_java_util_Arrays) O0 ?_
  intro p e s m below meth c s₁ hx hby hml hZ hown hnm hlk hret X0 e0 N0 z0 z1
  have K0 : Keep h0 h0 [xa] := Keep.refl _ _
  refine own_cast (own_ef_own_sort1 m xa) ?_
  show own_Goes p e below (s₁.setTop (mkF m 0 #[vR xa] [])) _
  have ltP0 : @LT.lt Nat _ xa h0.size := P0.lt
  refine q_aloadN X0 hx hby d35_0 rfl rfl ?_
  refine q_iconst X0 hx hby d35_1 ?_
  refine q_iconst X0 hx hby d35_2 ?_
  refine q_aloadN X0 hx hby d35_3 rfl rfl ?_
  refine q_len X0 hx hby hZ e0 P0 d35_4 ?_
  refine k_S X0 hx hby hZ hown (wh hw 292 rfl) (wh hw 293 rfl) (W := 0) (own_dpb1 l Z a0 hw [] xa xk y0 h0 n0 O0 P0 (show n0 ≤ xa by first | assumption | omega | decide)) (wh hw 295 rfl) (wh hw 294 rfl) e0  hml (argsL := [.ref xa, .int 0, .int 0, .int 1]) (rest := []) own_pd_18 d35_5 (fun _ T2 L2 X2 hQ2 => ?_)
  obtain ⟨h2, e2⟩ : ∃ z, T2.heap = z := ⟨_, rfl⟩
  rw [e2] at hQ2
  obtain ⟨Nc2, Kc2, rfl, c2_0⟩ := hQ2
  have N2 := Fr.app N0 Nc2
  have O3 := O0.keep Kc2 (allS (show n0 ≤ xa by omega) all0)
  have sz4 : h0.size ≤ h2.size := Kc2.1
  have K5 := Keep.trans K0 Kc2 (allS (Or.inl (List.mem_of_getElem? (i := 0) rfl)) all0)
  have ltc2_0 : @LT.lt Nat _ xa h2.size := c2_0.lt
  refine r_V X2 hx hby hret hlk d35_8 e2 ?_
  exact ⟨N2, K5, rfl, c2_0⟩
theorem d38_12 : decode B38 12 = .ok (.aload_n 0, 1) := by decide +kernel
theorem d38_13 : decode B38 13 = .ok (.iload 4, 2) := by decide +kernel
theorem d38_15 : decode B38 15 = .ok (.dup, 1) := by decide +kernel
theorem d38_16 : decode B38 16 = .ok (.istore_n 3, 1) := by decide +kernel
theorem d38_17 : decode B38 17 = .ok (.iaload, 1) := by decide +kernel
theorem d38_18 : decode B38 18 = .ok (.istore 5, 2) := by decide +kernel
theorem d38_20 : decode B38 20 = .ok (.iload 5, 2) := by decide +kernel
theorem d38_22 : decode B38 22 = .ok (.aload_n 0, 1) := by decide +kernel
theorem d38_23 : decode B38 23 = .ok (.iload_n 3, 1) := by decide +kernel
theorem d38_24 : decode B38 24 = .ok (.iconst 1, 1) := by decide +kernel
theorem d38_25 : decode B38 25 = .ok (.isub, 1) := by decide +kernel
theorem d38_26 : decode B38 26 = .ok (.iaload, 1) := by decide +kernel
theorem d38_27 : decode B38 27 = .ok (.if_icmp .ge 37, 3) := by decide +kernel
theorem d38_30 : decode B38 30 = .ok (.iinc 3 (-1), 3) := by decide +kernel
theorem d38_33 : decode B38 33 = .ok (.iload_n 3, 1) := by decide +kernel
theorem d38_34 : decode B38 34 = .ok (.iload_n 1, 1) := by decide +kernel
theorem d38_35 : decode B38 35 = .ok (.if_icmp .lt 22, 3) := by decide +kernel
theorem d38_38 : decode B38 38 = .ok (.iload 5, 2) := by decide +kernel
theorem d38_40 : decode B38 40 = .ok (.aload_n 0, 1) := by decide +kernel
theorem d38_41 : decode B38 41 = .ok (.iload_n 3, 1) := by decide +kernel
theorem d38_42 : decode B38 42 = .ok (.iaload, 1) := by decide +kernel
theorem d38_43 : decode B38 43 = .ok (.if_icmp .ge 14, 3) := by decide +kernel
theorem d38_46 : decode B38 46 = .ok (.aload_n 0, 1) := by decide +kernel
theorem d38_47 : decode B38 47 = .ok (.iload_n 3, 1) := by decide +kernel
theorem d38_48 : decode B38 48 = .ok (.iconst 1, 1) := by decide +kernel
theorem d38_49 : decode B38 49 = .ok (.iadd, 1) := by decide +kernel
theorem d38_50 : decode B38 50 = .ok (.aload_n 0, 1) := by decide +kernel
theorem d38_51 : decode B38 51 = .ok (.iload_n 3, 1) := by decide +kernel
theorem d38_52 : decode B38 52 = .ok (.iaload, 1) := by decide +kernel
theorem d38_53 : decode B38 53 = .ok (.iastore, 1) := by decide +kernel
theorem d38_54 : decode B38 54 = .ok (.goto (-24), 3) := by decide +kernel
theorem d38_57 : decode B38 57 = .ok (.aload_n 0, 1) := by decide +kernel
theorem d38_58 : decode B38 58 = .ok (.iload_n 3, 1) := by decide +kernel
theorem d38_59 : decode B38 59 = .ok (.iconst 1, 1) := by decide +kernel
theorem d38_60 : decode B38 60 = .ok (.iadd, 1) := by decide +kernel
theorem d38_61 : decode B38 61 = .ok (.iload 5, 2) := by decide +kernel
theorem d38_63 : decode B38 63 = .ok (.iastore, 1) := by decide +kernel
theorem d38_64 : decode B38 64 = .ok (.goto (-61), 3) := by decide +kernel
theorem own_ef_own_ins2 (m : MethodId) (xa : Addr) : entryFrame m #[.ref xa, .int 0, .int 2] 6 = mkF m 0 #[vR xa, vI 0, vI 2, uS, uS, uS] [] := by first | (simp [entryFrame, mkF, argsToLocals, Value.category]; done) | rfl
def Q_own_ins2 (Z : State) (xa : Addr) (xk : ClassId) (y0 : Int32) (y1 : Int32) (h0 : Heap) (n0 : Nat) (v : Option Value) (h : Heap) (L : List Loc) : Prop := Fr n0 L ∧ Keep h0 h [xa] ∧ ∃ (z0 : Int32), ∃ (z1 : Int32), v = none ∧ Arv Z h xa xk .int (2 : Int32) [.int z0, .int z1] (.int 0) ∧ own_S2 y0 y1 z0 z1
theorem own_ins2 (l : Launch) (Z : State) (a0 : Array Value) (hw : ∀ d ∈ tables_1, d.before a0 Z = true) (ws : List Jvm.Cond) (xa : Addr) (xk : ClassId) (y0 : Int32) (y1 : Int32) (h0 : Heap) (n0 : Nat) (O0 : Old Z n0 h0) (P0 : Arv Z h0 xa xk .int (2 : Int32) [.int y0, .int y1] (.int 0)) (P1 : n0 ≤ xa) : own_Met l Z (⟨"java/util/DualPivotQuicksort", "insertionSort", "([III)V"⟩ : MethodName) jdk_2529_method_6_code 6 none ws ({ frames := 0, cells := 0, slots := 0, locals := 0 } : Room) #[.ref xa, .int 0, .int 2] h0 (Q_own_ins2 Z xa xk y0 y1 h0 n0) := by
  refine own_mk (plainFor_of_name own_pn_java_util_DualPivotQuicksort) O0 ?_
  intro p e s m below meth c s₁ hx hby hml hZ hown hnm hlk hret X0 e0 N0 z0 z1
  have K0 : Keep h0 h0 [xa] := Keep.refl _ _
  refine own_cast (own_ef_own_ins2 m xa) ?_
  show own_Goes p e below (s₁.setTop (mkF m 0 #[vR xa, vI 0, vI 2, uS, uS, uS] [])) _
  have ltP0 : @LT.lt Nat _ xa h0.size := P0.lt
  refine q_iloadN X0 hx hby d38_0 rfl ?_
  refine q_istore X0 hx hby d38_1 (l' := #[vR xa, vI 0, vI 2, uS, vI 0, uS]) rfl ?_
  refine gg (fun t k => XS.iinc X0.here hx rfl (hb hby d38_3) rfl (l' := #[vR xa, vI 0, vI 2, uS, vI ((0 : Int32) + (1 : Int32)), uS]) rfl k) ?_
  show own_Goes p e below (s₁.setTop (mkF m 6 #[vR xa, vI 0, vI 2, uS, vI ((0 : Int32) + (1 : Int32)), uS] [])) _
  rw [show ((0 : Int32) + (1 : Int32)) = (1 : Int32) from by decide]
  refine q_iload X0 hx hby d38_6 rfl ?_
  refine q_iloadN X0 hx hby d38_8 rfl ?_
  refine q_icmpNo X0 hx hby d38_9 (tlt (show ((1 : Int32) < (2 : Int32)) from by decide)).2.1 ?_
  refine q_aloadN X0 hx hby d38_12 rfl rfl ?_
  refine q_iload X0 hx hby d38_13 rfl ?_
  refine q_dup X0 hx hby d38_15 rfl ?_
  refine q_istoreN X0 hx hby d38_16 (l' := #[vR xa, vI 0, vI 2, vI 1, vI 1, uS]) rfl ?_
  refine q_iaload X0 hx hby hZ e0 P0 d38_17 (.int y1) ?_
  refine q_istore X0 hx hby d38_18 (l' := #[vR xa, vI 0, vI 2, vI 1, vI 1, vI y1]) rfl ?_
  refine q_iload X0 hx hby d38_20 rfl ?_
  refine q_aloadN X0 hx hby d38_22 rfl rfl ?_
  refine q_iloadN X0 hx hby d38_23 rfl ?_
  refine q_iconst X0 hx hby d38_24 ?_
  refine q_isub X0 hx hby d38_25 ?_
  show own_Goes p e below (s₁.setTop (mkF m 26 #[vR xa, vI 0, vI 2, vI 1, vI 1, vI y1] [(.int ((1 : Int32) - (1 : Int32))), .ref xa, .int y1])) _
  rw [show ((1 : Int32) - (1 : Int32)) = (0 : Int32) from by decide]
  refine q_iaload X0 hx hby hZ e0 P0 d38_26 (.int y0) ?_
  by_cases hc3 : y1 < y0
  · refine q_icmpNo X0 hx hby d38_27 (tlt hc3).2.1 ?_
    refine gg (fun t k => XS.iinc X0.here hx rfl (hb hby d38_30) rfl (l' := #[vR xa, vI 0, vI 2, vI ((1 : Int32) + (-1 : Int32)), vI 1, vI y1]) rfl k) ?_
    show own_Goes p e below (s₁.setTop (mkF m 33 #[vR xa, vI 0, vI 2, vI ((1 : Int32) + (-1 : Int32)), vI 1, vI y1] [])) _
    rw [show ((1 : Int32) + (-1 : Int32)) = (0 : Int32) from by decide]
    refine q_iloadN X0 hx hby d38_33 rfl ?_
    refine q_iloadN X0 hx hby d38_34 rfl ?_
    refine q_icmpNo X0 hx hby d38_35 (flt (show ¬ ((0 : Int32) < (0 : Int32)) from by decide)).1 ?_
    refine q_iload X0 hx hby d38_38 rfl ?_
    refine q_aloadN X0 hx hby d38_40 rfl rfl ?_
    refine q_iloadN X0 hx hby d38_41 rfl ?_
    refine q_iaload X0 hx hby hZ e0 P0 d38_42 (.int y0) ?_
    refine q_icmpNo X0 hx hby d38_43 (tlt hc3).2.1 ?_
    refine q_aloadN X0 hx hby d38_46 rfl rfl ?_
    refine q_iloadN X0 hx hby d38_47 rfl ?_
    refine q_iconst X0 hx hby d38_48 ?_
    refine q_iadd X0 hx hby d38_49 ?_
    show own_Goes p e below (s₁.setTop (mkF m 50 #[vR xa, vI 0, vI 2, vI 0, vI 1, vI y1] [(.int ((0 : Int32) + (1 : Int32))), .ref xa])) _
    rw [show ((0 : Int32) + (1 : Int32)) = (1 : Int32) from by decide]
    refine q_aloadN X0 hx hby d38_50 rfl rfl ?_
    refine q_iloadN X0 hx hby d38_51 rfl ?_
    refine q_iaload X0 hx hby hZ e0 P0 d38_52 (.int y0) ?_
    refine q_stI X0 hx hby hZ e0 P0 1 d38_53 (fun T7 h7 X7 e7 W7 V7 => ?_)
    have O8 := O0.wr W7 (show n0 ≤ xa by omega)
    have sz9 : h7.size = h0.size := Wr.size W7
    have K10 := K0.wr W7 (Or.inl (List.mem_of_getElem? (i := 0) rfl))
    have N7 := Fr.snoc X7 N0 (show n0 ≤ xa by omega)
    have V7 : Arv Z h7 xa xk .int (2 : Int32) [.int y0, .int y0] (.int 0) := V7
    refine q_goto (pc := 54) X7 hx hby d38_54 (pc' := 30) (by decide) (by decide) ?_
    refine gg (fun t k => XS.iinc X7.here hx rfl (hb hby d38_30) rfl (l' := #[vR xa, vI 0, vI 2, vI ((0 : Int32) + (-1 : Int32)), vI 1, vI y1]) rfl k) ?_
    show own_Goes p e below (T7.setTop (mkF m 33 #[vR xa, vI 0, vI 2, vI ((0 : Int32) + (-1 : Int32)), vI 1, vI y1] [])) _
    rw [show ((0 : Int32) + (-1 : Int32)) = (-1 : Int32) from by decide]
    refine q_iloadN X7 hx hby d38_33 rfl ?_
    refine q_iloadN X7 hx hby d38_34 rfl ?_
    refine q_icmpYes (pc := 35) X7 hx hby d38_35 (pc' := 57) (tlt (show ((-1 : Int32) < (0 : Int32)) from by decide)).1 (by decide) (by decide) ?_
    refine q_aloadN X7 hx hby d38_57 rfl rfl ?_
    refine q_iloadN X7 hx hby d38_58 rfl ?_
    refine q_iconst X7 hx hby d38_59 ?_
    refine q_iadd X7 hx hby d38_60 ?_
    show own_Goes p e below (T7.setTop (mkF m 61 #[vR xa, vI 0, vI 2, vI (-1), vI 1, vI y1] [(.int ((-1 : Int32) + (1 : Int32))), .ref xa])) _
    rw [show ((-1 : Int32) + (1 : Int32)) = (0 : Int32) from by decide]
    refine q_iload X7 hx hby d38_61 rfl ?_
    refine q_stI X7 hx hby hZ e7 V7 0 d38_63 (fun T12 h12 X12 e12 W12 V12 => ?_)
    have O13 := O8.wr W12 (show n0 ≤ xa by omega)
    have sz14 : h12.size = h7.size := Wr.size W12
    have K15 := K10.wr W12 (Or.inl (List.mem_of_getElem? (i := 0) rfl))
    have N12 := Fr.snoc X12 N7 (show n0 ≤ xa by omega)
    have V12 : Arv Z h12 xa xk .int (2 : Int32) [.int y1, .int y0] (.int 0) := V12
    refine q_goto (pc := 64) X12 hx hby d38_64 (pc' := 3) (by decide) (by decide) ?_
    refine gg (fun t k => XS.iinc X12.here hx rfl (hb hby d38_3) rfl (l' := #[vR xa, vI 0, vI 2, vI (-1), vI ((1 : Int32) + (1 : Int32)), vI y1]) rfl k) ?_
    show own_Goes p e below (T12.setTop (mkF m 6 #[vR xa, vI 0, vI 2, vI (-1), vI ((1 : Int32) + (1 : Int32)), vI y1] [])) _
    rw [show ((1 : Int32) + (1 : Int32)) = (2 : Int32) from by decide]
    refine q_iload X12 hx hby d38_6 rfl ?_
    refine q_iloadN X12 hx hby d38_8 rfl ?_
    refine q_icmpYes (pc := 9) X12 hx hby d38_9 (pc' := 67) (flt (show ¬ ((2 : Int32) < (2 : Int32)) from by decide)).2.1 (by decide) (by decide) ?_
    refine r_V X12 hx hby hret hlk d38_67 e12 ?_
    exact ⟨N12, K15, y1, y0, rfl, V12, (by unfold own_S2; have := own_ltI hc3; omega)⟩
  · refine q_icmpYes (pc := 27) X0 hx hby d38_27 (pc' := 64) (flt hc3).2.1 (by decide) (by decide) ?_
    refine q_goto (pc := 64) X0 hx hby d38_64 (pc' := 3) (by decide) (by decide) ?_
    refine gg (fun t k => XS.iinc X0.here hx rfl (hb hby d38_3) rfl (l' := #[vR xa, vI 0, vI 2, vI 1, vI ((1 : Int32) + (1 : Int32)), vI y1]) rfl k) ?_
    show own_Goes p e below (s₁.setTop (mkF m 6 #[vR xa, vI 0, vI 2, vI 1, vI ((1 : Int32) + (1 : Int32)), vI y1] [])) _
    rw [show ((1 : Int32) + (1 : Int32)) = (2 : Int32) from by decide]
    refine q_iload X0 hx hby d38_6 rfl ?_
    refine q_iloadN X0 hx hby d38_8 rfl ?_
    refine q_icmpYes (pc := 9) X0 hx hby d38_9 (pc' := 67) (flt (show ¬ ((2 : Int32) < (2 : Int32)) from by decide)).2.1 (by decide) (by decide) ?_
    refine r_V X0 hx hby hret hlk d38_67 e0 ?_
    exact ⟨N0, K0, y0, y1, rfl, P0, (by unfold own_S2; have := own_nltI hc3; omega)⟩
theorem own_ef_own_dpa2 (m : MethodId) (xa : Addr) : entryFrame m #[.null, .ref xa, .int 0, .int 0, .int 2] 21 = mkF m 0 #[vN, vR xa, vI 0, vI 0, vI 2, uS, uS, uS, uS, uS, uS, uS, uS, uS, uS, uS, uS, uS, uS, uS, uS] [] := by first | (simp [entryFrame, mkF, argsToLocals, Value.category]; done) | rfl
def Q_own_dpa2 (Z : State) (xa : Addr) (xk : ClassId) (y0 : Int32) (y1 : Int32) (h0 : Heap) (n0 : Nat) (v : Option Value) (h : Heap) (L : List Loc) : Prop := Fr n0 L ∧ Keep h0 h [xa] ∧ ∃ (z0 : Int32), ∃ (z1 : Int32), v = none ∧ Arv Z h xa xk .int (2 : Int32) [.int z0, .int z1] (.int 0) ∧ own_S2 y0 y1 z0 z1
theorem own_dpa2 (l : Launch) (Z : State) (a0 : Array Value) (hw : ∀ d ∈ tables_1, d.before a0 Z = true) (ws : List Jvm.Cond) (xa : Addr) (xk : ClassId) (y0 : Int32) (y1 : Int32) (h0 : Heap) (n0 : Nat) (O0 : Old Z n0 h0) (P0 : Arv Z h0 xa xk .int (2 : Int32) [.int y0, .int y1] (.int 0)) (P1 : n0 ≤ xa) : own_Met l Z (⟨"java/util/DualPivotQuicksort", "sort", "(Ljava/util/DualPivotQuicksort$Sorter;[IIII)V"⟩ : MethodName) jdk_2529_method_4_code 21 none ws ({ frames := 1, cells := 0, slots := 0, locals := 17 } : Room) #[.null, .ref xa, .int 0, .int 0, .int 2] h0 (Q_own_dpa2 Z xa xk y0 y1 h0 n0) := by
  refine own_mk (plainFor_of_name own_pn_java_util_DualPivotQuicksort) O0 ?_
  intro p e s m below meth c s₁ hx hby hml hZ hown hnm hlk hret X0 e0 N0 z0 z1
  have K0 : Keep h0 h0 [xa] := Keep.refl _ _
  refine own_cast (own_ef_own_dpa2 m xa) ?_
  show own_Goes p e below (s₁.setTop (mkF m 0 #[vN, vR xa, vI 0, vI 0, vI 2, uS, uS, uS, uS, uS, uS, uS, uS, uS, uS, uS, uS, uS, uS, uS, uS] [])) _
  have ltP0 : @LT.lt Nat _ xa h0.size := P0.lt
  refine q_iload X0 hx hby d37_0 rfl ?_
  refine q_iconst X0 hx hby d37_2 ?_
  refine q_isub X0 hx hby d37_3 ?_
  show own_Goes p e below (s₁.setTop (mkF m 4 #[vN, vR xa, vI 0, vI 0, vI 2, uS, uS, uS, uS, uS, uS, uS, uS, uS, uS, uS, uS, uS, uS, uS, uS] [(.int ((2 : Int32) - (1 : Int32)))])) _
  rw [show ((2 : Int32) - (1 : Int32)) = (1 : Int32) from by decide]
  refine q_istore X0 hx hby d37_4 (l' := #[vN, vR xa, vI 0, vI 0, vI 2, vI 1, uS, uS, uS, uS, uS, uS, uS, uS, uS, uS, uS, uS, uS, uS, uS]) rfl ?_
  refine q_iload X0 hx hby d37_6 rfl ?_
  refine q_iloadN X0 hx hby d37_8 rfl ?_
  refine q_isub X0 hx hby d37_9 ?_
  show own_Goes p e below (s₁.setTop (mkF m 10 #[vN, vR xa, vI 0, vI 0, vI 2, vI 1, uS, uS, uS, uS, uS, uS, uS, uS, uS, uS, uS, uS, uS, uS, uS] [(.int ((2 : Int32) - (0 : Int32)))])) _
  rw [show ((2 : Int32) - (0 : Int32)) = (2 : Int32) from by decide]
  refine q_istore X0 hx hby d37_10 (l' := #[vN, vR xa, vI 0, vI 0, vI 2, vI 1, vI 2, uS, uS, uS, uS, uS, uS, uS, uS, uS, uS, uS, uS, uS, uS]) rfl ?_
  refine q_iload X0 hx hby d37_12 rfl ?_
  refine q_bipush X0 hx hby d37_14 ?_
  refine q_iloadN X0 hx hby d37_16 rfl ?_
  refine q_iadd X0 hx hby d37_17 ?_
  show own_Goes p e below (s₁.setTop (mkF m 18 #[vN, vR xa, vI 0, vI 0, vI 2, vI 1, vI 2, uS, uS, uS, uS, uS, uS, uS, uS, uS, uS, uS, uS, uS, uS] [(.int ((65 : Int32) + (0 : Int32))), .int 2])) _
  rw [show ((65 : Int32) + (0 : Int32)) = (65 : Int32) from by decide]
  refine q_icmpNo X0 hx hby d37_18 (tlt (show ((2 : Int32) < (65 : Int32)) from by decide)).2.1 ?_
  refine q_iloadN X0 hx hby d37_21 rfl ?_
  refine q_iconst X0 hx hby d37_22 ?_
  refine q_iand X0 hx hby d37_23 ?_
  show own_Goes p e below (s₁.setTop (mkF m 24 #[vN, vR xa, vI 0, vI 0, vI 2, vI 1, vI 2, uS, uS, uS, uS, uS, uS, uS, uS, uS, uS, uS, uS, uS, uS] [(.int ((0 : Int32) &&& (1 : Int32)))])) _
  rw [show ((0 : Int32) &&& (1 : Int32)) = (0 : Int32) from by decide]
  refine q_ifYes (pc := 24) X0 hx hby d37_24 (pc' := 46) ((if0 _ _).trans (flt (show ¬ ((0 : Int32) < (0 : Int32)) from by decide)).2.2.2) (by decide) (by decide) ?_
  refine q_iload X0 hx hby d37_46 rfl ?_
  refine q_bipush X0 hx hby d37_48 ?_
  refine q_icmpNo X0 hx hby d37_50 (tlt (show ((2 : Int32) < (44 : Int32)) from by decide)).2.1 ?_
  refine q_aloadN X0 hx hby d37_53 rfl rfl ?_
  refine q_iloadN X0 hx hby d37_54 rfl ?_
  refine q_iload X0 hx hby d37_55 rfl ?_
  refine k_S X0 hx hby hZ hown (wh hw 299 rfl) (wh hw 300 rfl) (W := 0) (own_ins2 l Z a0 hw [] xa xk y0 y1 h0 n0 O0 P0 (show n0 ≤ xa by first | assumption | omega | decide)) (wh hw 301 rfl) (wh hw 294 rfl) e0  hml (argsL := [.ref xa, .int 0, .int 2]) (rest := []) own_pd_16 d37_57 (fun _ T1 L1 X1 hQ1 => ?_)
  obtain ⟨h1, e1⟩ : ∃ z, T1.heap = z := ⟨_, rfl⟩
  rw [e1] at hQ1
  obtain ⟨Nc1, Kc1, z0_1, z1_1, rfl, c1_0, c1_1⟩ := hQ1
  have N1 := Fr.app N0 Nc1
  have O2 := O0.keep Kc1 (allS (show n0 ≤ xa by omega) all0)
  have sz3 : h0.size ≤ h1.size := Kc1.1
  have K4 := Keep.trans K0 Kc1 (allS (Or.inl (List.mem_of_getElem? (i := 0) rfl)) all0)
  have ltc1_0 : @LT.lt Nat _ xa h1.size := c1_0.lt
  refine r_V X1 hx hby hret hlk d37_60 e1 ?_
  exact ⟨N1, K4, z0_1, z1_1, rfl, c1_0, (show own_S2 y0 y1 z0_1 z1_1 by first | assumption | omega | decide)⟩
theorem own_ef_own_dpb2 (m : MethodId) (xa : Addr) : entryFrame m #[.ref xa, .int 0, .int 0, .int 2] 7 = mkF m 0 #[vR xa, vI 0, vI 0, vI 2, uS, uS, uS] [] := by first | (simp [entryFrame, mkF, argsToLocals, Value.category]; done) | rfl
def Q_own_dpb2 (Z : State) (xa : Addr) (xk : ClassId) (y0 : Int32) (y1 : Int32) (h0 : Heap) (n0 : Nat) (v : Option Value) (h : Heap) (L : List Loc) : Prop := Fr n0 L ∧ Keep h0 h [xa] ∧ ∃ (z0 : Int32), ∃ (z1 : Int32), v = none ∧ Arv Z h xa xk .int (2 : Int32) [.int z0, .int z1] (.int 0) ∧ own_S2 y0 y1 z0 z1
theorem own_dpb2 (l : Launch) (Z : State) (a0 : Array Value) (hw : ∀ d ∈ tables_1, d.before a0 Z = true) (ws : List Jvm.Cond) (xa : Addr) (xk : ClassId) (y0 : Int32) (y1 : Int32) (h0 : Heap) (n0 : Nat) (O0 : Old Z n0 h0) (P0 : Arv Z h0 xa xk .int (2 : Int32) [.int y0, .int y1] (.int 0)) (P1 : n0 ≤ xa) : own_Met l Z (⟨"java/util/DualPivotQuicksort", "sort", "([IIII)V"⟩ : MethodName) jdk_2529_method_3_code 7 none ws ({ frames := 2, cells := 0, slots := 0, locals := 49 } : Room) #[.ref xa, .int 0, .int 0, .int 2] h0 (Q_own_dpb2 Z xa xk y0 y1 h0 n0) := by
  refine own_mk (plainFor_of_name own_pn_java_util_DualPivotQuicksort) O0 ?_
  intro p e s m below meth c s₁ hx hby hml hZ hown hnm hlk hret X0 e0 N0 z0 z1
  have K0 : Keep h0 h0 [xa] := Keep.refl _ _
  refine own_cast (own_ef_own_dpb2 m xa) ?_
  show own_Goes p e below (s₁.setTop (mkF m 0 #[vR xa, vI 0, vI 0, vI 2, uS, uS, uS] [])) _
  have ltP0 : @LT.lt Nat _ xa h0.size := P0.lt
  refine q_iloadN X0 hx hby d36_0 rfl ?_
  refine q_iloadN X0 hx hby d36_1 rfl ?_
  refine q_isub X0 hx hby d36_2 ?_
  show own_Goes p e below (s₁.setTop (mkF m 3 #[vR xa, vI 0, vI 0, vI 2, uS, uS, uS] [(.int ((2 : Int32) - (0 : Int32)))])) _
  rw [show ((2 : Int32) - (0 : Int32)) = (2 : Int32) from by decide]
  refine q_istore X0 hx hby d36_3 (l' := #[vR xa, vI 0, vI 0, vI 2, vI 2, uS, uS]) rfl ?_
  refine q_iloadN X0 hx hby d36_5 rfl ?_
  refine q_iconst X0 hx hby d36_6 ?_
  refine q_icmpYes (pc := 7) X0 hx hby d36_7 (pc' := 68) (flt (show ¬ ((1 : Int32) < (0 : Int32)) from by decide)).2.2.2 (by decide) (by decide) ?_
  refine q_aconstNull X0 hx hby d36_68 ?_
  refine q_aloadN X0 hx hby d36_69 rfl rfl ?_
  refine q_iconst X0 hx hby d36_70 ?_
  refine q_iloadN X0 hx hby d36_71 rfl ?_
  refine q_iloadN X0 hx hby d36_72 rfl ?_
  refine k_S X0 hx hby hZ hown (wh hw 296 rfl) (wh hw 297 rfl) (W := 0) (own_dpa2 l Z a0 hw [] xa xk y0 y1 h0 n0 O0 P0 (show n0 ≤ xa by first | assumption | omega | decide)) (wh hw 298 rfl) (wh hw 294 rfl) e0  hml (argsL := [.null, .ref xa, .int 0, .int 0, .int 2]) (rest := []) own_pd_17 d36_73 (fun _ T1 L1 X1 hQ1 => ?_)
  obtain ⟨h1, e1⟩ : ∃ z, T1.heap = z := ⟨_, rfl⟩
  rw [e1] at hQ1
  obtain ⟨Nc1, Kc1, z0_1, z1_1, rfl, c1_0, c1_1⟩ := hQ1
  have N1 := Fr.app N0 Nc1
  have O2 := O0.keep Kc1 (allS (show n0 ≤ xa by omega) all0)
  have sz3 : h0.size ≤ h1.size := Kc1.1
  have K4 := Keep.trans K0 Kc1 (allS (Or.inl (List.mem_of_getElem? (i := 0) rfl)) all0)
  have ltc1_0 : @LT.lt Nat _ xa h1.size := c1_0.lt
  refine r_V X1 hx hby hret hlk d36_76 e1 ?_
  exact ⟨N1, K4, z0_1, z1_1, rfl, c1_0, (show own_S2 y0 y1 z0_1 z1_1 by first | assumption | omega | decide)⟩
theorem own_ef_own_sort2 (m : MethodId) (xa : Addr) : entryFrame m #[.ref xa] 1 = mkF m 0 #[vR xa] [] := by first | (simp [entryFrame, mkF, argsToLocals, Value.category]; done) | rfl
def Q_own_sort2 (Z : State) (xa : Addr) (xk : ClassId) (y0 : Int32) (y1 : Int32) (h0 : Heap) (n0 : Nat) (v : Option Value) (h : Heap) (L : List Loc) : Prop := Fr n0 L ∧ Keep h0 h [xa] ∧ ∃ (z0 : Int32), ∃ (z1 : Int32), v = none ∧ Arv Z h xa xk .int (2 : Int32) [.int z0, .int z1] (.int 0) ∧ own_S2 y0 y1 z0 z1
theorem own_sort2 (l : Launch) (Z : State) (a0 : Array Value) (hw : ∀ d ∈ tables_1, d.before a0 Z = true) (ws : List Jvm.Cond) (xa : Addr) (xk : ClassId) (y0 : Int32) (y1 : Int32) (h0 : Heap) (n0 : Nat) (O0 : Old Z n0 h0) (P0 : Arv Z h0 xa xk .int (2 : Int32) [.int y0, .int y1] (.int 0)) (P1 : n0 ≤ xa) : own_Met l Z (⟨"java/util/Arrays", "sort", "([I)V"⟩ : MethodName) jdk_65_method_2_code 1 none ws ({ frames := 3, cells := 0, slots := 0, locals := 67 } : Room) #[.ref xa] h0 (Q_own_sort2 Z xa xk y0 y1 h0 n0) := by
  refine own_mk (plainFor_of_name own_pn_java_util_Arrays) O0 ?_
  intro p e s m below meth c s₁ hx hby hml hZ hown hnm hlk hret X0 e0 N0 z0 z1
  have K0 : Keep h0 h0 [xa] := Keep.refl _ _
  refine own_cast (own_ef_own_sort2 m xa) ?_
  show own_Goes p e below (s₁.setTop (mkF m 0 #[vR xa] [])) _
  have ltP0 : @LT.lt Nat _ xa h0.size := P0.lt
  refine q_aloadN X0 hx hby d35_0 rfl rfl ?_
  refine q_iconst X0 hx hby d35_1 ?_
  refine q_iconst X0 hx hby d35_2 ?_
  refine q_aloadN X0 hx hby d35_3 rfl rfl ?_
  refine q_len X0 hx hby hZ e0 P0 d35_4 ?_
  refine k_S X0 hx hby hZ hown (wh hw 292 rfl) (wh hw 293 rfl) (W := 0) (own_dpb2 l Z a0 hw [] xa xk y0 y1 h0 n0 O0 P0 (show n0 ≤ xa by first | assumption | omega | decide)) (wh hw 295 rfl) (wh hw 294 rfl) e0  hml (argsL := [.ref xa, .int 0, .int 0, .int 2]) (rest := []) own_pd_18 d35_5 (fun _ T2 L2 X2 hQ2 => ?_)
  obtain ⟨h2, e2⟩ : ∃ z, T2.heap = z := ⟨_, rfl⟩
  rw [e2] at hQ2
  obtain ⟨Nc2, Kc2, z0_2, z1_2, rfl, c2_0, c2_1⟩ := hQ2
  have N2 := Fr.app N0 Nc2
  have O3 := O0.keep Kc2 (allS (show n0 ≤ xa by omega) all0)
  have sz4 : h0.size ≤ h2.size := Kc2.1
  have K5 := Keep.trans K0 Kc2 (allS (Or.inl (List.mem_of_getElem? (i := 0) rfl)) all0)
  have ltc2_0 : @LT.lt Nat _ xa h2.size := c2_0.lt
  refine r_V X2 hx hby hret hlk d35_8 e2 ?_
  exact ⟨N2, K5, z0_2, z1_2, rfl, c2_0, (show own_S2 y0 y1 z0_2 z1_2 by first | assumption | omega | decide)⟩
theorem own_ef_own_ins3 (m : MethodId) (xa : Addr) : entryFrame m #[.ref xa, .int 0, .int 3] 6 = mkF m 0 #[vR xa, vI 0, vI 3, uS, uS, uS] [] := by first | (simp [entryFrame, mkF, argsToLocals, Value.category]; done) | rfl
def Q_own_ins3 (Z : State) (xa : Addr) (xk : ClassId) (y0 : Int32) (y1 : Int32) (y2 : Int32) (h0 : Heap) (n0 : Nat) (v : Option Value) (h : Heap) (L : List Loc) : Prop := Fr n0 L ∧ Keep h0 h [xa] ∧ ∃ (z0 : Int32), ∃ (z1 : Int32), ∃ (z2 : Int32), v = none ∧ Arv Z h xa xk .int (3 : Int32) [.int z0, .int z1, .int z2] (.int 0) ∧ own_S3 y0 y1 y2 z0 z1 z2
theorem own_ins3 (l : Launch) (Z : State) (a0 : Array Value) (hw : ∀ d ∈ tables_1, d.before a0 Z = true) (ws : List Jvm.Cond) (xa : Addr) (xk : ClassId) (y0 : Int32) (y1 : Int32) (y2 : Int32) (h0 : Heap) (n0 : Nat) (O0 : Old Z n0 h0) (P0 : Arv Z h0 xa xk .int (3 : Int32) [.int y0, .int y1, .int y2] (.int 0)) (P1 : n0 ≤ xa) : own_Met l Z (⟨"java/util/DualPivotQuicksort", "insertionSort", "([III)V"⟩ : MethodName) jdk_2529_method_6_code 6 none ws ({ frames := 0, cells := 0, slots := 0, locals := 0 } : Room) #[.ref xa, .int 0, .int 3] h0 (Q_own_ins3 Z xa xk y0 y1 y2 h0 n0) := by
  refine own_mk (plainFor_of_name own_pn_java_util_DualPivotQuicksort) O0 ?_
  intro p e s m below meth c s₁ hx hby hml hZ hown hnm hlk hret X0 e0 N0 z0 z1
  have K0 : Keep h0 h0 [xa] := Keep.refl _ _
  refine own_cast (own_ef_own_ins3 m xa) ?_
  show own_Goes p e below (s₁.setTop (mkF m 0 #[vR xa, vI 0, vI 3, uS, uS, uS] [])) _
  have ltP0 : @LT.lt Nat _ xa h0.size := P0.lt
  refine q_iloadN X0 hx hby d38_0 rfl ?_
  refine q_istore X0 hx hby d38_1 (l' := #[vR xa, vI 0, vI 3, uS, vI 0, uS]) rfl ?_
  have C1 : ∀ (w0_ w1_ l3_ : Int32) (T_ : State) (h_ : Heap) (L_ : List Loc), own_S2 y0 y1 w0_ w1_ → Stand p l e ({ frames := 0, cells := 0, slots := 0, locals := 0 } : Room) s m #[.ref xa, .int 0, .int 3] below meth c T_ L_ 0 0 → T_.heap = h_ → Fr n0 L_ → Old Z n0 h_ → Keep h0 h_ [xa] → Arv Z h_ xa xk .int (3 : Int32) [.int w0_, .int w1_, .int y2] (.int 0) → own_Goes p e below (T_.setTop (mkF m 3 #[vR xa, vI 0, vI 3, vI l3_, vI 1, vI y1] [])) (own_PostN s (Q_own_ins3 Z xa xk y0 y1 y2 h0 n0) ({ frames := 0, cells := 0, slots := 0, locals := 0 } : Room).cells ({ frames := 0, cells := 0, slots := 0, locals := 0 } : Room).slots) := by
    intro w0_ w1_ l3_ T_ h_ L_ hS_ X_ e_ N_ O_ K_ V_
    show own_Goes p e below (T_.setTop (mkF m 3 #[vR xa, vI 0, vI 3, vI l3_, vI 1, vI y1] [])) _
    refine gg (fun t k => XS.iinc X_.here hx rfl (hb hby d38_3) rfl (l' := #[vR xa, vI 0, vI 3, vI l3_, vI ((1 : Int32) + (1 : Int32)), vI y1]) rfl k) ?_
    show own_Goes p e below (T_.setTop (mkF m 6 #[vR xa, vI 0, vI 3, vI l3_, vI ((1 : Int32) + (1 : Int32)), vI y1] [])) _
    rw [show ((1 : Int32) + (1 : Int32)) = (2 : Int32) from by decide]
    refine q_iload X_ hx hby d38_6 rfl ?_
    refine q_iloadN X_ hx hby d38_8 rfl ?_
    refine q_icmpNo X_ hx hby d38_9 (tlt (show ((2 : Int32) < (3 : Int32)) from by decide)).2.1 ?_
    refine q_aloadN X_ hx hby d38_12 rfl rfl ?_
    refine q_iload X_ hx hby d38_13 rfl ?_
    refine q_dup X_ hx hby d38_15 rfl ?_
    refine q_istoreN X_ hx hby d38_16 (l' := #[vR xa, vI 0, vI 3, vI 2, vI 2, vI y1]) rfl ?_
    refine q_iaload X_ hx hby hZ e_ V_ d38_17 (.int y2) ?_
    refine q_istore X_ hx hby d38_18 (l' := #[vR xa, vI 0, vI 3, vI 2, vI 2, vI y2]) rfl ?_
    refine q_iload X_ hx hby d38_20 rfl ?_
    refine q_aloadN X_ hx hby d38_22 rfl rfl ?_
    refine q_iloadN X_ hx hby d38_23 rfl ?_
    refine q_iconst X_ hx hby d38_24 ?_
    refine q_isub X_ hx hby d38_25 ?_
    show own_Goes p e below (T_.setTop (mkF m 26 #[vR xa, vI 0, vI 3, vI 2, vI 2, vI y2] [(.int ((2 : Int32) - (1 : Int32))), .ref xa, .int y2])) _
    rw [show ((2 : Int32) - (1 : Int32)) = (1 : Int32) from by decide]
    refine q_iaload X_ hx hby hZ e_ V_ d38_26 (.int w1_) ?_
    by_cases hc3 : y2 < w1_
    · refine q_icmpNo X_ hx hby d38_27 (tlt hc3).2.1 ?_
      refine gg (fun t k => XS.iinc X_.here hx rfl (hb hby d38_30) rfl (l' := #[vR xa, vI 0, vI 3, vI ((2 : Int32) + (-1 : Int32)), vI 2, vI y2]) rfl k) ?_
      show own_Goes p e below (T_.setTop (mkF m 33 #[vR xa, vI 0, vI 3, vI ((2 : Int32) + (-1 : Int32)), vI 2, vI y2] [])) _
      rw [show ((2 : Int32) + (-1 : Int32)) = (1 : Int32) from by decide]
      refine q_iloadN X_ hx hby d38_33 rfl ?_
      refine q_iloadN X_ hx hby d38_34 rfl ?_
      refine q_icmpNo X_ hx hby d38_35 (flt (show ¬ ((1 : Int32) < (0 : Int32)) from by decide)).1 ?_
      refine q_iload X_ hx hby d38_38 rfl ?_
      refine q_aloadN X_ hx hby d38_40 rfl rfl ?_
      refine q_iloadN X_ hx hby d38_41 rfl ?_
      refine q_iaload X_ hx hby hZ e_ V_ d38_42 (.int w1_) ?_
      refine q_icmpNo X_ hx hby d38_43 (tlt hc3).2.1 ?_
      refine q_aloadN X_ hx hby d38_46 rfl rfl ?_
      refine q_iloadN X_ hx hby d38_47 rfl ?_
      refine q_iconst X_ hx hby d38_48 ?_
      refine q_iadd X_ hx hby d38_49 ?_
      show own_Goes p e below (T_.setTop (mkF m 50 #[vR xa, vI 0, vI 3, vI 1, vI 2, vI y2] [(.int ((1 : Int32) + (1 : Int32))), .ref xa])) _
      rw [show ((1 : Int32) + (1 : Int32)) = (2 : Int32) from by decide]
      refine q_aloadN X_ hx hby d38_50 rfl rfl ?_
      refine q_iloadN X_ hx hby d38_51 rfl ?_
      refine q_iaload X_ hx hby hZ e_ V_ d38_52 (.int w1_) ?_
      refine q_stI X_ hx hby hZ e_ V_ 2 d38_53 (fun T7 h7 X7 e7 W7 V7 => ?_)
      have O8 := O_.wr W7 (show n0 ≤ xa by omega)
      have sz9 : h7.size = h_.size := Wr.size W7
      have K10 := K_.wr W7 (Or.inl (List.mem_of_getElem? (i := 0) rfl))
      have N7 := Fr.snoc X7 N_ (show n0 ≤ xa by omega)
      have V7 : Arv Z h7 xa xk .int (3 : Int32) [.int w0_, .int w1_, .int w1_] (.int 0) := V7
      refine q_goto (pc := 54) X7 hx hby d38_54 (pc' := 30) (by decide) (by decide) ?_
      refine gg (fun t k => XS.iinc X7.here hx rfl (hb hby d38_30) rfl (l' := #[vR xa, vI 0, vI 3, vI ((1 : Int32) + (-1 : Int32)), vI 2, vI y2]) rfl k) ?_
      show own_Goes p e below (T7.setTop (mkF m 33 #[vR xa, vI 0, vI 3, vI ((1 : Int32) + (-1 : Int32)), vI 2, vI y2] [])) _
      rw [show ((1 : Int32) + (-1 : Int32)) = (0 : Int32) from by decide]
      refine q_iloadN X7 hx hby d38_33 rfl ?_
      refine q_iloadN X7 hx hby d38_34 rfl ?_
      refine q_icmpNo X7 hx hby d38_35 (flt (show ¬ ((0 : Int32) < (0 : Int32)) from by decide)).1 ?_
      refine q_iload X7 hx hby d38_38 rfl ?_
      refine q_aloadN X7 hx hby d38_40 rfl rfl ?_
      refine q_iloadN X7 hx hby d38_41 rfl ?_
      refine q_iaload X7 hx hby hZ e7 V7 d38_42 (.int w0_) ?_
      by_cases hc12 : y2 < w0_
      · refine q_icmpNo X7 hx hby d38_43 (tlt hc12).2.1 ?_
        refine q_aloadN X7 hx hby d38_46 rfl rfl ?_
        refine q_iloadN X7 hx hby d38_47 rfl ?_
        refine q_iconst X7 hx hby d38_48 ?_
        refine q_iadd X7 hx hby d38_49 ?_
        show own_Goes p e below (T7.setTop (mkF m 50 #[vR xa, vI 0, vI 3, vI 0, vI 2, vI y2] [(.int ((0 : Int32) + (1 : Int32))), .ref xa])) _
        rw [show ((0 : Int32) + (1 : Int32)) = (1 : Int32) from by decide]
        refine q_aloadN X7 hx hby d38_50 rfl rfl ?_
        refine q_iloadN X7 hx hby d38_51 rfl ?_
        refine q_iaload X7 hx hby hZ e7 V7 d38_52 (.int w0_) ?_
        refine q_stI X7 hx hby hZ e7 V7 1 d38_53 (fun T15 h15 X15 e15 W15 V15 => ?_)
        have O16 := O8.wr W15 (show n0 ≤ xa by omega)
        have sz17 : h15.size = h7.size := Wr.size W15
        have K18 := K10.wr W15 (Or.inl (List.mem_of_getElem? (i := 0) rfl))
        have N15 := Fr.snoc X15 N7 (show n0 ≤ xa by omega)
        have V15 : Arv Z h15 xa xk .int (3 : Int32) [.int w0_, .int w0_, .int w1_] (.int 0) := V15
        refine q_goto (pc := 54) X15 hx hby d38_54 (pc' := 30) (by decide) (by decide) ?_
        refine gg (fun t k => XS.iinc X15.here hx rfl (hb hby d38_30) rfl (l' := #[vR xa, vI 0, vI 3, vI ((0 : Int32) + (-1 : Int32)), vI 2, vI y2]) rfl k) ?_
        show own_Goes p e below (T15.setTop (mkF m 33 #[vR xa, vI 0, vI 3, vI ((0 : Int32) + (-1 : Int32)), vI 2, vI y2] [])) _
        rw [show ((0 : Int32) + (-1 : Int32)) = (-1 : Int32) from by decide]
        refine q_iloadN X15 hx hby d38_33 rfl ?_
        refine q_iloadN X15 hx hby d38_34 rfl ?_
        refine q_icmpYes (pc := 35) X15 hx hby d38_35 (pc' := 57) (tlt (show ((-1 : Int32) < (0 : Int32)) from by decide)).1 (by decide) (by decide) ?_
        refine q_aloadN X15 hx hby d38_57 rfl rfl ?_
        refine q_iloadN X15 hx hby d38_58 rfl ?_
        refine q_iconst X15 hx hby d38_59 ?_
        refine q_iadd X15 hx hby d38_60 ?_
        show own_Goes p e below (T15.setTop (mkF m 61 #[vR xa, vI 0, vI 3, vI (-1), vI 2, vI y2] [(.int ((-1 : Int32) + (1 : Int32))), .ref xa])) _
        rw [show ((-1 : Int32) + (1 : Int32)) = (0 : Int32) from by decide]
        refine q_iload X15 hx hby d38_61 rfl ?_
        refine q_stI X15 hx hby hZ e15 V15 0 d38_63 (fun T20 h20 X20 e20 W20 V20 => ?_)
        have O21 := O16.wr W20 (show n0 ≤ xa by omega)
        have sz22 : h20.size = h15.size := Wr.size W20
        have K23 := K18.wr W20 (Or.inl (List.mem_of_getElem? (i := 0) rfl))
        have N20 := Fr.snoc X20 N15 (show n0 ≤ xa by omega)
        have V20 : Arv Z h20 xa xk .int (3 : Int32) [.int y2, .int w0_, .int w1_] (.int 0) := V20
        refine q_goto (pc := 64) X20 hx hby d38_64 (pc' := 3) (by decide) (by decide) ?_
        refine gg (fun t k => XS.iinc X20.here hx rfl (hb hby d38_3) rfl (l' := #[vR xa, vI 0, vI 3, vI (-1), vI ((2 : Int32) + (1 : Int32)), vI y2]) rfl k) ?_
        show own_Goes p e below (T20.setTop (mkF m 6 #[vR xa, vI 0, vI 3, vI (-1), vI ((2 : Int32) + (1 : Int32)), vI y2] [])) _
        rw [show ((2 : Int32) + (1 : Int32)) = (3 : Int32) from by decide]
        refine q_iload X20 hx hby d38_6 rfl ?_
        refine q_iloadN X20 hx hby d38_8 rfl ?_
        refine q_icmpYes (pc := 9) X20 hx hby d38_9 (pc' := 67) (flt (show ¬ ((3 : Int32) < (3 : Int32)) from by decide)).2.1 (by decide) (by decide) ?_
        refine r_V X20 hx hby hret hlk d38_67 e20 ?_
        exact ⟨N20, K23, y2, w0_, w1_, rfl, V20, (by unfold own_S3; have := own_ltI hc3; have := own_ltI hc12; have := own_S2i hS_; omega)⟩
      · refine q_icmpYes (pc := 43) X7 hx hby d38_43 (pc' := 57) (flt hc12).2.1 (by decide) (by decide) ?_
        refine q_aloadN X7 hx hby d38_57 rfl rfl ?_
        refine q_iloadN X7 hx hby d38_58 rfl ?_
        refine q_iconst X7 hx hby d38_59 ?_
        refine q_iadd X7 hx hby d38_60 ?_
        show own_Goes p e below (T7.setTop (mkF m 61 #[vR xa, vI 0, vI 3, vI 0, vI 2, vI y2] [(.int ((0 : Int32) + (1 : Int32))), .ref xa])) _
        rw [show ((0 : Int32) + (1 : Int32)) = (1 : Int32) from by decide]
        refine q_iload X7 hx hby d38_61 rfl ?_
        refine q_stI X7 hx hby hZ e7 V7 1 d38_63 (fun T25 h25 X25 e25 W25 V25 => ?_)
        have O26 := O8.wr W25 (show n0 ≤ xa by omega)
        have sz27 : h25.size = h7.size := Wr.size W25
        have K28 := K10.wr W25 (Or.inl (List.mem_of_getElem? (i := 0) rfl))
        have N25 := Fr.snoc X25 N7 (show n0 ≤ xa by omega)
        have V25 : Arv Z h25 xa xk .int (3 : Int32) [.int w0_, .int y2, .int w1_] (.int 0) := V25
        refine q_goto (pc := 64) X25 hx hby d38_64 (pc' := 3) (by decide) (by decide) ?_
        refine gg (fun t k => XS.iinc X25.here hx rfl (hb hby d38_3) rfl (l' := #[vR xa, vI 0, vI 3, vI 0, vI ((2 : Int32) + (1 : Int32)), vI y2]) rfl k) ?_
        show own_Goes p e below (T25.setTop (mkF m 6 #[vR xa, vI 0, vI 3, vI 0, vI ((2 : Int32) + (1 : Int32)), vI y2] [])) _
        rw [show ((2 : Int32) + (1 : Int32)) = (3 : Int32) from by decide]
        refine q_iload X25 hx hby d38_6 rfl ?_
        refine q_iloadN X25 hx hby d38_8 rfl ?_
        refine q_icmpYes (pc := 9) X25 hx hby d38_9 (pc' := 67) (flt (show ¬ ((3 : Int32) < (3 : Int32)) from by decide)).2.1 (by decide) (by decide) ?_
        refine r_V X25 hx hby hret hlk d38_67 e25 ?_
        exact ⟨N25, K28, w0_, y2, w1_, rfl, V25, (by unfold own_S3; have := own_ltI hc3; have := own_nltI hc12; have := own_S2i hS_; omega)⟩
    · refine q_icmpYes (pc := 27) X_ hx hby d38_27 (pc' := 64) (flt hc3).2.1 (by decide) (by decide) ?_
      refine q_goto (pc := 64) X_ hx hby d38_64 (pc' := 3) (by decide) (by decide) ?_
      refine gg (fun t k => XS.iinc X_.here hx rfl (hb hby d38_3) rfl (l' := #[vR xa, vI 0, vI 3, vI 2, vI ((2 : Int32) + (1 : Int32)), vI y2]) rfl k) ?_
      show own_Goes p e below (T_.setTop (mkF m 6 #[vR xa, vI 0, vI 3, vI 2, vI ((2 : Int32) + (1 : Int32)), vI y2] [])) _
      rw [show ((2 : Int32) + (1 : Int32)) = (3 : Int32) from by decide]
      refine q_iload X_ hx hby d38_6 rfl ?_
      refine q_iloadN X_ hx hby d38_8 rfl ?_
      refine q_icmpYes (pc := 9) X_ hx hby d38_9 (pc' := 67) (flt (show ¬ ((3 : Int32) < (3 : Int32)) from by decide)).2.1 (by decide) (by decide) ?_
      refine r_V X_ hx hby hret hlk d38_67 e_ ?_
      exact ⟨N_, K_, w0_, w1_, y2, rfl, V_, (by unfold own_S3; have := own_nltI hc3; have := own_S2i hS_; omega)⟩
  refine gg (fun t k => XS.iinc X0.here hx rfl (hb hby d38_3) rfl (l' := #[vR xa, vI 0, vI 3, uS, vI ((0 : Int32) + (1 : Int32)), uS]) rfl k) ?_
  show own_Goes p e below (s₁.setTop (mkF m 6 #[vR xa, vI 0, vI 3, uS, vI ((0 : Int32) + (1 : Int32)), uS] [])) _
  rw [show ((0 : Int32) + (1 : Int32)) = (1 : Int32) from by decide]
  refine q_iload X0 hx hby d38_6 rfl ?_
  refine q_iloadN X0 hx hby d38_8 rfl ?_
  refine q_icmpNo X0 hx hby d38_9 (tlt (show ((1 : Int32) < (3 : Int32)) from by decide)).2.1 ?_
  refine q_aloadN X0 hx hby d38_12 rfl rfl ?_
  refine q_iload X0 hx hby d38_13 rfl ?_
  refine q_dup X0 hx hby d38_15 rfl ?_
  refine q_istoreN X0 hx hby d38_16 (l' := #[vR xa, vI 0, vI 3, vI 1, vI 1, uS]) rfl ?_
  refine q_iaload X0 hx hby hZ e0 P0 d38_17 (.int y1) ?_
  refine q_istore X0 hx hby d38_18 (l' := #[vR xa, vI 0, vI 3, vI 1, vI 1, vI y1]) rfl ?_
  refine q_iload X0 hx hby d38_20 rfl ?_
  refine q_aloadN X0 hx hby d38_22 rfl rfl ?_
  refine q_iloadN X0 hx hby d38_23 rfl ?_
  refine q_iconst X0 hx hby d38_24 ?_
  refine q_isub X0 hx hby d38_25 ?_
  show own_Goes p e below (s₁.setTop (mkF m 26 #[vR xa, vI 0, vI 3, vI 1, vI 1, vI y1] [(.int ((1 : Int32) - (1 : Int32))), .ref xa, .int y1])) _
  rw [show ((1 : Int32) - (1 : Int32)) = (0 : Int32) from by decide]
  refine q_iaload X0 hx hby hZ e0 P0 d38_26 (.int y0) ?_
  by_cases hc31 : y1 < y0
  · refine q_icmpNo X0 hx hby d38_27 (tlt hc31).2.1 ?_
    refine gg (fun t k => XS.iinc X0.here hx rfl (hb hby d38_30) rfl (l' := #[vR xa, vI 0, vI 3, vI ((1 : Int32) + (-1 : Int32)), vI 1, vI y1]) rfl k) ?_
    show own_Goes p e below (s₁.setTop (mkF m 33 #[vR xa, vI 0, vI 3, vI ((1 : Int32) + (-1 : Int32)), vI 1, vI y1] [])) _
    rw [show ((1 : Int32) + (-1 : Int32)) = (0 : Int32) from by decide]
    refine q_iloadN X0 hx hby d38_33 rfl ?_
    refine q_iloadN X0 hx hby d38_34 rfl ?_
    refine q_icmpNo X0 hx hby d38_35 (flt (show ¬ ((0 : Int32) < (0 : Int32)) from by decide)).1 ?_
    refine q_iload X0 hx hby d38_38 rfl ?_
    refine q_aloadN X0 hx hby d38_40 rfl rfl ?_
    refine q_iloadN X0 hx hby d38_41 rfl ?_
    refine q_iaload X0 hx hby hZ e0 P0 d38_42 (.int y0) ?_
    refine q_icmpNo X0 hx hby d38_43 (tlt hc31).2.1 ?_
    refine q_aloadN X0 hx hby d38_46 rfl rfl ?_
    refine q_iloadN X0 hx hby d38_47 rfl ?_
    refine q_iconst X0 hx hby d38_48 ?_
    refine q_iadd X0 hx hby d38_49 ?_
    show own_Goes p e below (s₁.setTop (mkF m 50 #[vR xa, vI 0, vI 3, vI 0, vI 1, vI y1] [(.int ((0 : Int32) + (1 : Int32))), .ref xa])) _
    rw [show ((0 : Int32) + (1 : Int32)) = (1 : Int32) from by decide]
    refine q_aloadN X0 hx hby d38_50 rfl rfl ?_
    refine q_iloadN X0 hx hby d38_51 rfl ?_
    refine q_iaload X0 hx hby hZ e0 P0 d38_52 (.int y0) ?_
    refine q_stI X0 hx hby hZ e0 P0 1 d38_53 (fun T35 h35 X35 e35 W35 V35 => ?_)
    have O36 := O0.wr W35 (show n0 ≤ xa by omega)
    have sz37 : h35.size = h0.size := Wr.size W35
    have K38 := K0.wr W35 (Or.inl (List.mem_of_getElem? (i := 0) rfl))
    have N35 := Fr.snoc X35 N0 (show n0 ≤ xa by omega)
    have V35 : Arv Z h35 xa xk .int (3 : Int32) [.int y0, .int y0, .int y2] (.int 0) := V35
    refine q_goto (pc := 54) X35 hx hby d38_54 (pc' := 30) (by decide) (by decide) ?_
    refine gg (fun t k => XS.iinc X35.here hx rfl (hb hby d38_30) rfl (l' := #[vR xa, vI 0, vI 3, vI ((0 : Int32) + (-1 : Int32)), vI 1, vI y1]) rfl k) ?_
    show own_Goes p e below (T35.setTop (mkF m 33 #[vR xa, vI 0, vI 3, vI ((0 : Int32) + (-1 : Int32)), vI 1, vI y1] [])) _
    rw [show ((0 : Int32) + (-1 : Int32)) = (-1 : Int32) from by decide]
    refine q_iloadN X35 hx hby d38_33 rfl ?_
    refine q_iloadN X35 hx hby d38_34 rfl ?_
    refine q_icmpYes (pc := 35) X35 hx hby d38_35 (pc' := 57) (tlt (show ((-1 : Int32) < (0 : Int32)) from by decide)).1 (by decide) (by decide) ?_
    refine q_aloadN X35 hx hby d38_57 rfl rfl ?_
    refine q_iloadN X35 hx hby d38_58 rfl ?_
    refine q_iconst X35 hx hby d38_59 ?_
    refine q_iadd X35 hx hby d38_60 ?_
    show own_Goes p e below (T35.setTop (mkF m 61 #[vR xa, vI 0, vI 3, vI (-1), vI 1, vI y1] [(.int ((-1 : Int32) + (1 : Int32))), .ref xa])) _
    rw [show ((-1 : Int32) + (1 : Int32)) = (0 : Int32) from by decide]
    refine q_iload X35 hx hby d38_61 rfl ?_
    refine q_stI X35 hx hby hZ e35 V35 0 d38_63 (fun T40 h40 X40 e40 W40 V40 => ?_)
    have O41 := O36.wr W40 (show n0 ≤ xa by omega)
    have sz42 : h40.size = h35.size := Wr.size W40
    have K43 := K38.wr W40 (Or.inl (List.mem_of_getElem? (i := 0) rfl))
    have N40 := Fr.snoc X40 N35 (show n0 ≤ xa by omega)
    have V40 : Arv Z h40 xa xk .int (3 : Int32) [.int y1, .int y0, .int y2] (.int 0) := V40
    refine q_goto (pc := 64) X40 hx hby d38_64 (pc' := 3) (by decide) (by decide) ?_
    exact C1 y1 y0 (-1 : Int32) _ _ _ (by unfold own_S2; have := own_ltI hc31; omega) X40 e40 N40 O41 K43 V40
  · refine q_icmpYes (pc := 27) X0 hx hby d38_27 (pc' := 64) (flt hc31).2.1 (by decide) (by decide) ?_
    refine q_goto (pc := 64) X0 hx hby d38_64 (pc' := 3) (by decide) (by decide) ?_
    exact C1 y0 y1 (1 : Int32) _ _ _ (by unfold own_S2; have := own_nltI hc31; omega) X0 e0 N0 O0 K0 P0
theorem own_ef_own_dpa3 (m : MethodId) (xa : Addr) : entryFrame m #[.null, .ref xa, .int 0, .int 0, .int 3] 21 = mkF m 0 #[vN, vR xa, vI 0, vI 0, vI 3, uS, uS, uS, uS, uS, uS, uS, uS, uS, uS, uS, uS, uS, uS, uS, uS] [] := by first | (simp [entryFrame, mkF, argsToLocals, Value.category]; done) | rfl
def Q_own_dpa3 (Z : State) (xa : Addr) (xk : ClassId) (y0 : Int32) (y1 : Int32) (y2 : Int32) (h0 : Heap) (n0 : Nat) (v : Option Value) (h : Heap) (L : List Loc) : Prop := Fr n0 L ∧ Keep h0 h [xa] ∧ ∃ (z0 : Int32), ∃ (z1 : Int32), ∃ (z2 : Int32), v = none ∧ Arv Z h xa xk .int (3 : Int32) [.int z0, .int z1, .int z2] (.int 0) ∧ own_S3 y0 y1 y2 z0 z1 z2
theorem own_dpa3 (l : Launch) (Z : State) (a0 : Array Value) (hw : ∀ d ∈ tables_1, d.before a0 Z = true) (ws : List Jvm.Cond) (xa : Addr) (xk : ClassId) (y0 : Int32) (y1 : Int32) (y2 : Int32) (h0 : Heap) (n0 : Nat) (O0 : Old Z n0 h0) (P0 : Arv Z h0 xa xk .int (3 : Int32) [.int y0, .int y1, .int y2] (.int 0)) (P1 : n0 ≤ xa) : own_Met l Z (⟨"java/util/DualPivotQuicksort", "sort", "(Ljava/util/DualPivotQuicksort$Sorter;[IIII)V"⟩ : MethodName) jdk_2529_method_4_code 21 none ws ({ frames := 1, cells := 0, slots := 0, locals := 17 } : Room) #[.null, .ref xa, .int 0, .int 0, .int 3] h0 (Q_own_dpa3 Z xa xk y0 y1 y2 h0 n0) := by
  refine own_mk (plainFor_of_name own_pn_java_util_DualPivotQuicksort) O0 ?_
  intro p e s m below meth c s₁ hx hby hml hZ hown hnm hlk hret X0 e0 N0 z0 z1
  have K0 : Keep h0 h0 [xa] := Keep.refl _ _
  refine own_cast (own_ef_own_dpa3 m xa) ?_
  show own_Goes p e below (s₁.setTop (mkF m 0 #[vN, vR xa, vI 0, vI 0, vI 3, uS, uS, uS, uS, uS, uS, uS, uS, uS, uS, uS, uS, uS, uS, uS, uS] [])) _
  have ltP0 : @LT.lt Nat _ xa h0.size := P0.lt
  refine q_iload X0 hx hby d37_0 rfl ?_
  refine q_iconst X0 hx hby d37_2 ?_
  refine q_isub X0 hx hby d37_3 ?_
  show own_Goes p e below (s₁.setTop (mkF m 4 #[vN, vR xa, vI 0, vI 0, vI 3, uS, uS, uS, uS, uS, uS, uS, uS, uS, uS, uS, uS, uS, uS, uS, uS] [(.int ((3 : Int32) - (1 : Int32)))])) _
  rw [show ((3 : Int32) - (1 : Int32)) = (2 : Int32) from by decide]
  refine q_istore X0 hx hby d37_4 (l' := #[vN, vR xa, vI 0, vI 0, vI 3, vI 2, uS, uS, uS, uS, uS, uS, uS, uS, uS, uS, uS, uS, uS, uS, uS]) rfl ?_
  refine q_iload X0 hx hby d37_6 rfl ?_
  refine q_iloadN X0 hx hby d37_8 rfl ?_
  refine q_isub X0 hx hby d37_9 ?_
  show own_Goes p e below (s₁.setTop (mkF m 10 #[vN, vR xa, vI 0, vI 0, vI 3, vI 2, uS, uS, uS, uS, uS, uS, uS, uS, uS, uS, uS, uS, uS, uS, uS] [(.int ((3 : Int32) - (0 : Int32)))])) _
  rw [show ((3 : Int32) - (0 : Int32)) = (3 : Int32) from by decide]
  refine q_istore X0 hx hby d37_10 (l' := #[vN, vR xa, vI 0, vI 0, vI 3, vI 2, vI 3, uS, uS, uS, uS, uS, uS, uS, uS, uS, uS, uS, uS, uS, uS]) rfl ?_
  refine q_iload X0 hx hby d37_12 rfl ?_
  refine q_bipush X0 hx hby d37_14 ?_
  refine q_iloadN X0 hx hby d37_16 rfl ?_
  refine q_iadd X0 hx hby d37_17 ?_
  show own_Goes p e below (s₁.setTop (mkF m 18 #[vN, vR xa, vI 0, vI 0, vI 3, vI 2, vI 3, uS, uS, uS, uS, uS, uS, uS, uS, uS, uS, uS, uS, uS, uS] [(.int ((65 : Int32) + (0 : Int32))), .int 3])) _
  rw [show ((65 : Int32) + (0 : Int32)) = (65 : Int32) from by decide]
  refine q_icmpNo X0 hx hby d37_18 (tlt (show ((3 : Int32) < (65 : Int32)) from by decide)).2.1 ?_
  refine q_iloadN X0 hx hby d37_21 rfl ?_
  refine q_iconst X0 hx hby d37_22 ?_
  refine q_iand X0 hx hby d37_23 ?_
  show own_Goes p e below (s₁.setTop (mkF m 24 #[vN, vR xa, vI 0, vI 0, vI 3, vI 2, vI 3, uS, uS, uS, uS, uS, uS, uS, uS, uS, uS, uS, uS, uS, uS] [(.int ((0 : Int32) &&& (1 : Int32)))])) _
  rw [show ((0 : Int32) &&& (1 : Int32)) = (0 : Int32) from by decide]
  refine q_ifYes (pc := 24) X0 hx hby d37_24 (pc' := 46) ((if0 _ _).trans (flt (show ¬ ((0 : Int32) < (0 : Int32)) from by decide)).2.2.2) (by decide) (by decide) ?_
  refine q_iload X0 hx hby d37_46 rfl ?_
  refine q_bipush X0 hx hby d37_48 ?_
  refine q_icmpNo X0 hx hby d37_50 (tlt (show ((3 : Int32) < (44 : Int32)) from by decide)).2.1 ?_
  refine q_aloadN X0 hx hby d37_53 rfl rfl ?_
  refine q_iloadN X0 hx hby d37_54 rfl ?_
  refine q_iload X0 hx hby d37_55 rfl ?_
  refine k_S X0 hx hby hZ hown (wh hw 299 rfl) (wh hw 300 rfl) (W := 0) (own_ins3 l Z a0 hw [] xa xk y0 y1 y2 h0 n0 O0 P0 (show n0 ≤ xa by first | assumption | omega | decide)) (wh hw 301 rfl) (wh hw 294 rfl) e0  hml (argsL := [.ref xa, .int 0, .int 3]) (rest := []) own_pd_16 d37_57 (fun _ T1 L1 X1 hQ1 => ?_)
  obtain ⟨h1, e1⟩ : ∃ z, T1.heap = z := ⟨_, rfl⟩
  rw [e1] at hQ1
  obtain ⟨Nc1, Kc1, z0_1, z1_1, z2_1, rfl, c1_0, c1_1⟩ := hQ1
  have N1 := Fr.app N0 Nc1
  have O2 := O0.keep Kc1 (allS (show n0 ≤ xa by omega) all0)
  have sz3 : h0.size ≤ h1.size := Kc1.1
  have K4 := Keep.trans K0 Kc1 (allS (Or.inl (List.mem_of_getElem? (i := 0) rfl)) all0)
  have ltc1_0 : @LT.lt Nat _ xa h1.size := c1_0.lt
  refine r_V X1 hx hby hret hlk d37_60 e1 ?_
  exact ⟨N1, K4, z0_1, z1_1, z2_1, rfl, c1_0, (show own_S3 y0 y1 y2 z0_1 z1_1 z2_1 by first | assumption | omega | decide)⟩
theorem own_ef_own_dpb3 (m : MethodId) (xa : Addr) : entryFrame m #[.ref xa, .int 0, .int 0, .int 3] 7 = mkF m 0 #[vR xa, vI 0, vI 0, vI 3, uS, uS, uS] [] := by first | (simp [entryFrame, mkF, argsToLocals, Value.category]; done) | rfl
def Q_own_dpb3 (Z : State) (xa : Addr) (xk : ClassId) (y0 : Int32) (y1 : Int32) (y2 : Int32) (h0 : Heap) (n0 : Nat) (v : Option Value) (h : Heap) (L : List Loc) : Prop := Fr n0 L ∧ Keep h0 h [xa] ∧ ∃ (z0 : Int32), ∃ (z1 : Int32), ∃ (z2 : Int32), v = none ∧ Arv Z h xa xk .int (3 : Int32) [.int z0, .int z1, .int z2] (.int 0) ∧ own_S3 y0 y1 y2 z0 z1 z2
theorem own_dpb3 (l : Launch) (Z : State) (a0 : Array Value) (hw : ∀ d ∈ tables_1, d.before a0 Z = true) (ws : List Jvm.Cond) (xa : Addr) (xk : ClassId) (y0 : Int32) (y1 : Int32) (y2 : Int32) (h0 : Heap) (n0 : Nat) (O0 : Old Z n0 h0) (P0 : Arv Z h0 xa xk .int (3 : Int32) [.int y0, .int y1, .int y2] (.int 0)) (P1 : n0 ≤ xa) : own_Met l Z (⟨"java/util/DualPivotQuicksort", "sort", "([IIII)V"⟩ : MethodName) jdk_2529_method_3_code 7 none ws ({ frames := 2, cells := 0, slots := 0, locals := 49 } : Room) #[.ref xa, .int 0, .int 0, .int 3] h0 (Q_own_dpb3 Z xa xk y0 y1 y2 h0 n0) := by
  refine own_mk (plainFor_of_name own_pn_java_util_DualPivotQuicksort) O0 ?_
  intro p e s m below meth c s₁ hx hby hml hZ hown hnm hlk hret X0 e0 N0 z0 z1
  have K0 : Keep h0 h0 [xa] := Keep.refl _ _
  refine own_cast (own_ef_own_dpb3 m xa) ?_
  show own_Goes p e below (s₁.setTop (mkF m 0 #[vR xa, vI 0, vI 0, vI 3, uS, uS, uS] [])) _
  have ltP0 : @LT.lt Nat _ xa h0.size := P0.lt
  refine q_iloadN X0 hx hby d36_0 rfl ?_
  refine q_iloadN X0 hx hby d36_1 rfl ?_
  refine q_isub X0 hx hby d36_2 ?_
  show own_Goes p e below (s₁.setTop (mkF m 3 #[vR xa, vI 0, vI 0, vI 3, uS, uS, uS] [(.int ((3 : Int32) - (0 : Int32)))])) _
  rw [show ((3 : Int32) - (0 : Int32)) = (3 : Int32) from by decide]
  refine q_istore X0 hx hby d36_3 (l' := #[vR xa, vI 0, vI 0, vI 3, vI 3, uS, uS]) rfl ?_
  refine q_iloadN X0 hx hby d36_5 rfl ?_
  refine q_iconst X0 hx hby d36_6 ?_
  refine q_icmpYes (pc := 7) X0 hx hby d36_7 (pc' := 68) (flt (show ¬ ((1 : Int32) < (0 : Int32)) from by decide)).2.2.2 (by decide) (by decide) ?_
  refine q_aconstNull X0 hx hby d36_68 ?_
  refine q_aloadN X0 hx hby d36_69 rfl rfl ?_
  refine q_iconst X0 hx hby d36_70 ?_
  refine q_iloadN X0 hx hby d36_71 rfl ?_
  refine q_iloadN X0 hx hby d36_72 rfl ?_
  refine k_S X0 hx hby hZ hown (wh hw 296 rfl) (wh hw 297 rfl) (W := 0) (own_dpa3 l Z a0 hw [] xa xk y0 y1 y2 h0 n0 O0 P0 (show n0 ≤ xa by first | assumption | omega | decide)) (wh hw 298 rfl) (wh hw 294 rfl) e0  hml (argsL := [.null, .ref xa, .int 0, .int 0, .int 3]) (rest := []) own_pd_17 d36_73 (fun _ T1 L1 X1 hQ1 => ?_)
  obtain ⟨h1, e1⟩ : ∃ z, T1.heap = z := ⟨_, rfl⟩
  rw [e1] at hQ1
  obtain ⟨Nc1, Kc1, z0_1, z1_1, z2_1, rfl, c1_0, c1_1⟩ := hQ1
  have N1 := Fr.app N0 Nc1
  have O2 := O0.keep Kc1 (allS (show n0 ≤ xa by omega) all0)
  have sz3 : h0.size ≤ h1.size := Kc1.1
  have K4 := Keep.trans K0 Kc1 (allS (Or.inl (List.mem_of_getElem? (i := 0) rfl)) all0)
  have ltc1_0 : @LT.lt Nat _ xa h1.size := c1_0.lt
  refine r_V X1 hx hby hret hlk d36_76 e1 ?_
  exact ⟨N1, K4, z0_1, z1_1, z2_1, rfl, c1_0, (show own_S3 y0 y1 y2 z0_1 z1_1 z2_1 by first | assumption | omega | decide)⟩
theorem own_ef_own_sort3 (m : MethodId) (xa : Addr) : entryFrame m #[.ref xa] 1 = mkF m 0 #[vR xa] [] := by first | (simp [entryFrame, mkF, argsToLocals, Value.category]; done) | rfl
def Q_own_sort3 (Z : State) (xa : Addr) (xk : ClassId) (y0 : Int32) (y1 : Int32) (y2 : Int32) (h0 : Heap) (n0 : Nat) (v : Option Value) (h : Heap) (L : List Loc) : Prop := Fr n0 L ∧ Keep h0 h [xa] ∧ ∃ (z0 : Int32), ∃ (z1 : Int32), ∃ (z2 : Int32), v = none ∧ Arv Z h xa xk .int (3 : Int32) [.int z0, .int z1, .int z2] (.int 0) ∧ own_S3 y0 y1 y2 z0 z1 z2
theorem own_sort3 (l : Launch) (Z : State) (a0 : Array Value) (hw : ∀ d ∈ tables_1, d.before a0 Z = true) (ws : List Jvm.Cond) (xa : Addr) (xk : ClassId) (y0 : Int32) (y1 : Int32) (y2 : Int32) (h0 : Heap) (n0 : Nat) (O0 : Old Z n0 h0) (P0 : Arv Z h0 xa xk .int (3 : Int32) [.int y0, .int y1, .int y2] (.int 0)) (P1 : n0 ≤ xa) : own_Met l Z (⟨"java/util/Arrays", "sort", "([I)V"⟩ : MethodName) jdk_65_method_2_code 1 none ws ({ frames := 3, cells := 0, slots := 0, locals := 67 } : Room) #[.ref xa] h0 (Q_own_sort3 Z xa xk y0 y1 y2 h0 n0) := by
  refine own_mk (plainFor_of_name own_pn_java_util_Arrays) O0 ?_
  intro p e s m below meth c s₁ hx hby hml hZ hown hnm hlk hret X0 e0 N0 z0 z1
  have K0 : Keep h0 h0 [xa] := Keep.refl _ _
  refine own_cast (own_ef_own_sort3 m xa) ?_
  show own_Goes p e below (s₁.setTop (mkF m 0 #[vR xa] [])) _
  have ltP0 : @LT.lt Nat _ xa h0.size := P0.lt
  refine q_aloadN X0 hx hby d35_0 rfl rfl ?_
  refine q_iconst X0 hx hby d35_1 ?_
  refine q_iconst X0 hx hby d35_2 ?_
  refine q_aloadN X0 hx hby d35_3 rfl rfl ?_
  refine q_len X0 hx hby hZ e0 P0 d35_4 ?_
  refine k_S X0 hx hby hZ hown (wh hw 292 rfl) (wh hw 293 rfl) (W := 0) (own_dpb3 l Z a0 hw [] xa xk y0 y1 y2 h0 n0 O0 P0 (show n0 ≤ xa by first | assumption | omega | decide)) (wh hw 295 rfl) (wh hw 294 rfl) e0  hml (argsL := [.ref xa, .int 0, .int 0, .int 3]) (rest := []) own_pd_18 d35_5 (fun _ T2 L2 X2 hQ2 => ?_)
  obtain ⟨h2, e2⟩ : ∃ z, T2.heap = z := ⟨_, rfl⟩
  rw [e2] at hQ2
  obtain ⟨Nc2, Kc2, z0_2, z1_2, z2_2, rfl, c2_0, c2_1⟩ := hQ2
  have N2 := Fr.app N0 Nc2
  have O3 := O0.keep Kc2 (allS (show n0 ≤ xa by omega) all0)
  have sz4 : h0.size ≤ h2.size := Kc2.1
  have K5 := Keep.trans K0 Kc2 (allS (Or.inl (List.mem_of_getElem? (i := 0) rfl)) all0)
  have ltc2_0 : @LT.lt Nat _ xa h2.size := c2_0.lt
  refine r_V X2 hx hby hret hlk d35_8 e2 ?_
  exact ⟨N2, K5, z0_2, z1_2, z2_2, rfl, c2_0, (show own_S3 y0 y1 y2 z0_2 z1_2 z2_2 by first | assumption | omega | decide)⟩
theorem own_inCache {xi : Int32} (h1 : ¬ xi < (-128 : Int32)) (h2 : ¬ (127 : Int32) < xi) {n : Nat} (hn : n = (256 : Int32).toNatClampNeg) : ¬ (xi + (128 : Int32) < 0 ∨ n ≤ (xi + (128 : Int32)).toNatClampNeg) := by
  have e1 : (-128 : Int32).toInt = -128 := by decide
  have e2 : (127 : Int32).toInt = 127 := by decide
  have e3 : (128 : Int32).toInt = 128 := by decide
  have e4 : (256 : Int32).toInt = 256 := by decide
  have e5 : (0 : Int32).toInt = 0 := by decide
  rw [Int32.lt_iff_toInt_lt] at h1 h2
  have q := Jvm.RoadKit.c_iadd xi 128
  have q1 := Jvm.RoadKit.rng32 (xi + 128)
  rw [Int32.lt_iff_toInt_lt]
  subst hn
  simp only [Int32.toNatClampNeg]
  omega

theorem d42_0 : decode B42 0 = .ok (.aload_n 0, 1) := by decide +kernel
theorem d42_1 : decode B42 1 = .ok (.invokespecial 1, 3) := by decide +kernel
theorem d42_4 : decode B42 4 = .ok (.return_, 1) := by decide +kernel
theorem own_pn_java_lang_Number : plainName "java/lang/Number" = true := by first | (simp [plainName, overriddenIn]; done) | decide +kernel
theorem own_ef_own_numInit (m : MethodId) (xa : Addr) : entryFrame m #[.ref xa] 1 = mkF m 0 #[vR xa] [] := by first | (simp [entryFrame, mkF, argsToLocals, Value.category]; done) | rfl
def Q_own_numInit (Z : State) (xa : Addr) (h0 : Heap) (n0 : Nat) (v : Option Value) (h : Heap) (L : List Loc) : Prop := Fr n0 L ∧ h = h0 ∧ v = none
theorem own_numInit (l : Launch) (Z : State) (a0 : Array Value) (hw : ∀ d ∈ tables_1, d.before a0 Z = true) (ws : List Jvm.Cond) (xa : Addr) (h0 : Heap) (n0 : Nat) (O0 : Old Z n0 h0) : own_Met l Z (⟨"java/lang/Number", "<init>", "()V"⟩ : MethodName) jdk_18_method_1_code 1 none ws ({ frames := 1, cells := 0, slots := 0, locals := 12 } : Room) #[.ref xa] h0 (Q_own_numInit Z xa h0 n0) := by
  refine own_mk (plainFor_of_name own_pn_java_lang_Number) O0 ?_
  intro p e s m below meth c s₁ hx hby hml hZ hown hnm hlk hret X0 e0 N0 z0 z1
  refine own_cast (own_ef_own_numInit m xa) ?_
  show own_Goes p e below (s₁.setTop (mkF m 0 #[vR xa] [])) _
  refine q_aloadN X0 hx hby d42_0 rfl rfl ?_
  obtain ⟨T1, X1, e1, st1⟩ := initO X0 hx hZ hown (wh hw 322 rfl) (wh hw 19 rfl) (wh hw 20 rfl) e0 (g := (mkF m 1 #[vR xa] [.ref xa])) rfl (by rw [hml]; rfl) rfl (hb hby d42_1) (by decide) (W := 0) (by show 2 * 0 + _ ≤ _; exact Nat.le_of_eq rfl) (by decide)
  refine gg st1 ?_
  refine r_V X1 hx hby hret hlk d42_4 e1 ?_
  exact ⟨N0, rfl, rfl⟩
theorem d41_0 : decode B41 0 = .ok (.aload_n 0, 1) := by decide +kernel
theorem d41_1 : decode B41 1 = .ok (.invokespecial 202, 3) := by decide +kernel
theorem d41_4 : decode B41 4 = .ok (.aload_n 0, 1) := by decide +kernel
theorem d41_5 : decode B41 5 = .ok (.iload_n 1, 1) := by decide +kernel
theorem d41_6 : decode B41 6 = .ok (.putfield 205, 3) := by decide +kernel
theorem d41_9 : decode B41 9 = .ok (.return_, 1) := by decide +kernel
theorem own_pn_java_lang_Integer : plainName "java/lang/Integer" = true := by first | (simp [plainName, overriddenIn]; done) | decide +kernel
theorem own_ef_own_intInit (m : MethodId) (xa : Addr) (xi : Int32) : entryFrame m #[.ref xa, .int xi] 2 = mkF m 0 #[vR xa, vI xi] [] := by first | (simp [entryFrame, mkF, argsToLocals, Value.category]; done) | rfl
def Q_own_intInit (Z : State) (xa : Addr) (xi : Int32) (h0 : Heap) (n0 : Nat) (v : Option Value) (h : Heap) (L : List Loc) : Prop := Fr n0 L ∧ Keep h0 h [xa] ∧ v = none ∧ Fld Z h xa "java/lang/Integer" "value" "I" (.int xi)
theorem own_intInit (l : Launch) (Z : State) (a0 : Array Value) (hw : ∀ d ∈ tables_1, d.before a0 Z = true) (ws : List Jvm.Cond) (xa : Addr) (xi : Int32) (h0 : Heap) (n0 : Nat) (O0 : Old Z n0 h0) (P0 : Exa Z h0 xa "java/lang/Integer") (P1 : Fld Z h0 xa "java/lang/Integer" "value" "I" (.int 0)) (P2 : n0 ≤ xa) : own_Met l Z (⟨"java/lang/Integer", "<init>", "(I)V"⟩ : MethodName) jdk_33_method_23_code 2 none ws ({ frames := 2, cells := 0, slots := 0, locals := 24 } : Room) #[.ref xa, .int xi] h0 (Q_own_intInit Z xa xi h0 n0) := by
  refine own_mk (plainFor_of_name own_pn_java_lang_Integer) O0 ?_
  intro p e s m below meth c s₁ hx hby hml hZ hown hnm hlk hret X0 e0 N0 z0 z1
  have K0 : Keep h0 h0 [xa] := Keep.refl _ _
  refine own_cast (own_ef_own_intInit m xa xi) ?_
  show own_Goes p e below (s₁.setTop (mkF m 0 #[vR xa, vI xi] [])) _
  have ltP0 : @LT.lt Nat _ xa h0.size := P0.lt
  refine q_aloadN X0 hx hby d41_0 rfl rfl ?_
  refine k_N X0 hx hby hZ hown (wh hw 316 rfl) (wh hw 317 rfl) (W := 0) (own_numInit l Z a0 hw [] xa h0 n0 O0) (wh hw 321 rfl) (wh hw 320 rfl) e0  hml (argsL := []) (rest := []) own_pd_0 d41_1 (fun _ T1 L1 X1 hQ1 => ?_)
  obtain ⟨Nc1, e1, rfl⟩ := hQ1
  have N1 := Fr.app N0 Nc1
  refine q_aloadN X1 hx hby d41_4 rfl rfl ?_
  refine q_iloadN X1 hx hby d41_5 rfl ?_
  refine qP X1 hx hby hZ hown (host := "") (Or.inl (wh hw 270 rfl)) Via.refl e1 P1 P0 (Or.inr ⟨(wh hw 271 rfl), rfl, hnm⟩) (wh hw 312 rfl) (ty := .int) d41_6 (fun T2 h2 X2 e2 W2 => ?_)
  have O3 := O0.wr W2 (show n0 ≤ xa by omega)
  have sz4 : h2.size = h0.size := Wr.size W2
  have K5 := K0.wr W2 (Or.inl (List.mem_of_getElem? (i := 0) rfl))
  have N2 := Fr.snoc X2 N1 (show n0 ≤ xa by omega)
  have Fw2 := P1.same W2
  refine r_V X2 hx hby hret hlk d41_9 e2 ?_
  exact ⟨N2, K5, rfl, Fw2⟩
theorem d11_0 : decode B11 0 = .ok (.iload_n 0, 1) := by decide +kernel
theorem d11_1 : decode B11 1 = .ok (.bipush (-128), 2) := by decide +kernel
theorem d11_3 : decode B11 3 = .ok (.if_icmp .lt 20, 3) := by decide +kernel
theorem d11_23 : decode B11 23 = .ok (.new 1, 3) := by decide +kernel
theorem d11_26 : decode B11 26 = .ok (.dup, 1) := by decide +kernel
theorem d11_27 : decode B11 27 = .ok (.iload_n 0, 1) := by decide +kernel
theorem d11_28 : decode B11 28 = .ok (.invokespecial 199, 3) := by decide +kernel
theorem own_pd_19 : parseMethodDescriptor "(I)V" = some ⟨[.int], none⟩ := by decide +kernel
theorem d11_31 : decode B11 31 = .ok (.areturn, 1) := by decide +kernel
theorem d11_6 : decode B11 6 = .ok (.iload_n 0, 1) := by decide +kernel
theorem d11_7 : decode B11 7 = .ok (.getstatic 191, 3) := by decide +kernel
theorem d11_10 : decode B11 10 = .ok (.if_icmp .gt 13, 3) := by decide +kernel
theorem d11_13 : decode B11 13 = .ok (.getstatic 195, 3) := by decide +kernel
theorem d11_16 : decode B11 16 = .ok (.iload_n 0, 1) := by decide +kernel
theorem d11_17 : decode B11 17 = .ok (.sipush 128, 3) := by decide +kernel
theorem d11_20 : decode B11 20 = .ok (.iadd, 1) := by decide +kernel
theorem d11_21 : decode B11 21 = .ok (.aaload, 1) := by decide +kernel
theorem d11_22 : decode B11 22 = .ok (.areturn, 1) := by decide +kernel
theorem own_ef_own_intValueOf (m : MethodId) (xi : Int32) : entryFrame m #[.int xi] 1 = mkF m 0 #[vI xi] [] := by first | (simp [entryFrame, mkF, argsToLocals, Value.category]; done) | rfl
def Q_own_intValueOf (Z : State) (xi : Int32) (gwD : Addr) (gz : Int32) (gwc : Addr) (gcl : Cell) (h0 : Heap) (n0 : Nat) (v : Option Value) (h : Heap) (L : List Loc) : Prop := Fr n0 L ∧ Keep h0 h [] ∧ ∃ (r : Addr), v = some (.ref r) ∧ Exa Z h r "java/lang/Integer" ∧ Fld Z h r "java/lang/Integer" "value" "I" (.int xi) ∧ (@LT.lt Nat _ r n0 ∨ h0.size ≤ r)
theorem own_intValueOf (l : Launch) (Z : State) (a0 : Array Value) (hw : ∀ d ∈ tables_1, d.before a0 Z = true) (ws : List Jvm.Cond) (xi : Int32) (h0 : Heap) (n0 : Nat) (O0 : Old Z n0 h0) (gwD : Addr) (gz : Int32) (gwc : Addr) (gcl : Cell) (G : GG Z gwD gz gwc gcl) : own_Met l Z (⟨"java/lang/Integer", "valueOf", "(I)Ljava/lang/Integer;"⟩ : MethodName) jdk_33_method_22_code 1 (some (.object "java/lang/Integer")) ws ({ frames := 3, cells := 1, slots := 1, locals := 38 } : Room) #[.int xi] h0 (Q_own_intValueOf Z xi gwD gz gwc gcl h0 n0) := by
  refine own_mk (plainFor_of_name own_pn_java_lang_Integer) O0 ?_
  intro p e s m below meth c s₁ hx hby hml hZ hown hnm hlk hret X0 e0 N0 z0 z1
  have K0 : Keep h0 h0 [] := Keep.refl _ _
  refine own_cast (own_ef_own_intValueOf m xi) ?_
  show own_Goes p e below (s₁.setTop (mkF m 0 #[vI xi] [])) _
  obtain ⟨G0, G1, G2, G3, G4, G5, G6⟩ := id G
  have ltG1 : @LT.lt Nat _ gwD Z.heap.size := G1.lt
  refine q_iloadN X0 hx hby d11_0 rfl ?_
  refine q_bipush X0 hx hby d11_1 ?_
  by_cases hc1 : xi < (-128 : Int32)
  · refine q_icmpYes (pc := 3) X0 hx hby d11_3 (pc' := 23) (tlt hc1).1 (by decide) (by decide) ?_
    obtain ⟨T2, h2, X2, e2, E2, A2, D2, -, st2⟩ := newO X0 hx hZ hown (wh hw 311 rfl) (wh hw 312 rfl) (wh hw 68 rfl) e0 (g := (mkF m 23 #[vI xi] [])) rfl (hb hby d11_23) (by decide) (by decide)
    obtain ⟨b2, g2⟩ : ∃ z, z = h0.size := ⟨_, rfl⟩
    rw [← g2] at A2 D2 st2
    refine gg st2 ?_
    have O3 := O0.ext E2
    have sz4 : h0.size ≤ h2.size := E2.1
    have K5 := K0.ext E2
    have l2 : @LT.lt Nat _ b2 h2.size := A2.lt
    have F2_value : Fld Z h2 b2 "java/lang/Integer" "value" "I" (.int 0) := D2 (Or.inr (wh hw 271 rfl)) (ty := .int) (by decide)
    refine q_dup X2 hx hby d11_26 rfl ?_
    refine q_iloadN X2 hx hby d11_27 rfl ?_
    refine k_N X2 hx hby hZ hown (wh hw 313 rfl) (wh hw 314 rfl) (W := 1) (own_intInit l Z a0 hw [] b2 xi h2 n0 O3 A2 F2_value (show n0 ≤ b2 by first | assumption | omega | decide)) (wh hw 315 rfl) (wh hw 68 rfl) e2  hml (argsL := [.int xi]) (rest := [.ref b2]) own_pd_19 d11_28 (fun _ T6 L6 X6 hQ6 => ?_)
    obtain ⟨h6, e6⟩ : ∃ z, T6.heap = z := ⟨_, rfl⟩
    rw [e6] at hQ6
    obtain ⟨Nc6, Kc6, rfl, c6_0⟩ := hQ6
    have N6 := Fr.app N0 Nc6
    have O7 := O3.keep Kc6 (allS (show n0 ≤ b2 by omega) all0)
    have sz8 : h2.size ≤ h6.size := Kc6.1
    have K9 := Keep.trans K5 Kc6 (allS (Or.inr (show h0.size ≤ b2 by omega)) all0)
    refine r_R X6 hx hby hret hlk d11_31 e6 ?_
    have f10 := (A2.keep Kc6)
    exact ⟨N6, K9, b2, rfl, f10, c6_0, (show (@LT.lt Nat _ b2 n0 ∨ h0.size ≤ b2) by first | assumption | omega | decide)⟩
  · refine q_icmpNo X0 hx hby d11_3 (flt hc1).1 ?_
    refine q_iloadN X0 hx hby d11_6 rfl ?_
    have q11 := G4.ext O0.2
    refine qS X0 hx hby hZ hown (host := "") (Or.inl (wh hw 70 rfl)) Via.refl e0 q11 d11_7 (fun T12 X12 e12 => ?_)
    by_cases hc13 : (127 : Int32) < xi
    · refine q_icmpYes (pc := 10) X12 hx hby d11_10 (pc' := 23) (tlt hc13).2.2.1 (by decide) (by decide) ?_
      obtain ⟨T14, h14, X14, e14, E14, A14, D14, -, st14⟩ := newO X12 hx hZ hown (wh hw 311 rfl) (wh hw 312 rfl) (wh hw 68 rfl) e12 (g := (mkF m 23 #[vI xi] [])) rfl (hb hby d11_23) (by decide) (by decide)
      obtain ⟨b14, g14⟩ : ∃ z, z = h0.size := ⟨_, rfl⟩
      rw [← g14] at A14 D14 st14
      refine gg st14 ?_
      have O15 := O0.ext E14
      have sz16 : h0.size ≤ h14.size := E14.1
      have K17 := K0.ext E14
      have l14 : @LT.lt Nat _ b14 h14.size := A14.lt
      have F14_value : Fld Z h14 b14 "java/lang/Integer" "value" "I" (.int 0) := D14 (Or.inr (wh hw 271 rfl)) (ty := .int) (by decide)
      refine q_dup X14 hx hby d11_26 rfl ?_
      refine q_iloadN X14 hx hby d11_27 rfl ?_
      show own_Goes p e below (T14.setTop (mkF m 28 #[vI xi] [.int xi, .ref b14, .ref b14])) _
      refine k_N X14 hx hby hZ hown (wh hw 313 rfl) (wh hw 314 rfl) (W := 1) (own_intInit l Z a0 hw [] b14 xi h14 n0 O15 A14 F14_value (show n0 ≤ b14 by first | assumption | omega | decide)) (wh hw 315 rfl) (wh hw 68 rfl) e14  hml (argsL := [.int xi]) (rest := [.ref b14]) own_pd_19 d11_28 (fun _ T18 L18 X18 hQ18 => ?_)
      obtain ⟨h18, e18⟩ : ∃ z, T18.heap = z := ⟨_, rfl⟩
      rw [e18] at hQ18
      obtain ⟨Nc18, Kc18, rfl, c18_0⟩ := hQ18
      have N18 := Fr.app N0 Nc18
      have O19 := O15.keep Kc18 (allS (show n0 ≤ b14 by omega) all0)
      have sz20 : h14.size ≤ h18.size := Kc18.1
      have K21 := Keep.trans K17 Kc18 (allS (Or.inr (show h0.size ≤ b14 by omega)) all0)
      refine r_R X18 hx hby hret hlk d11_31 e18 ?_
      have f22 := (A14.keep Kc18)
      exact ⟨N18, K21, b14, rfl, f22, c18_0, (show (@LT.lt Nat _ b14 n0 ∨ h0.size ≤ b14) by first | assumption | omega | decide)⟩
    · refine q_icmpNo X12 hx hby d11_10 (flt hc13).2.2.1 ?_
      have q23 := G5.ext O0.2
      refine qS X12 hx hby hZ hown (host := "") (Or.inl (wh hw 72 rfl)) Via.refl e12 q23 d11_13 (fun T24 X24 e24 => ?_)
      refine q_iloadN X24 hx hby d11_16 rfl ?_
      refine q_sipush X24 hx hby d11_17 ?_
      refine q_iadd X24 hx hby d11_20 ?_
      have hin : ¬ ((xi + (128 : Int32)) < 0 ∨ gcl.slots.size ≤ (xi + (128 : Int32)).toNatClampNeg) := own_inCache hc1 hc13 G6.2.1
      obtain ⟨rb, hat, Eb, Fb⟩ := G6.2.2.2 _ hin
      have Fb2 : Fld Z Z.heap rb "java/lang/Integer" "value" "I" (.int xi) := (show (Value.int ((xi + (128 : Int32)) - 128)) = .int xi by rw [Int32.add_sub_cancel]) ▸ Fb
      have ltb : @LT.lt Nat _ rb Z.heap.size := Eb.lt
      have Ab := G6.ext O0.2
      refine gg (fun t k => X24.aaload hx (j := (xi + (128 : Int32))) (v := (.ref rb)) (by rw [e24]; exact Ab.1.1) (State.isArrayOf_alike hZ.alike Ab.1.2.1) rfl Ab.1.2.2 hin hat (g := (mkF m 21 #[vI xi] [(.int (xi + (128 : Int32))), .ref gwc])) rfl rfl (hb hby d11_21) _ k) ?_
      refine r_R X24 hx hby hret hlk d11_22 e24 ?_
      have q25 := Eb.ext O0.2
      have q26 := Fb2.ext O0.2
      exact ⟨N0, K0, rb, rfl, q25, q26, (show (@LT.lt Nat _ rb n0 ∨ h0.size ≤ rb) by first | assumption | omega | decide)⟩
theorem d33_0 : decode B33 0 = .ok (.aload_n 0, 1) := by decide +kernel
theorem d33_1 : decode B33 1 = .ok (.getfield 205, 3) := by decide +kernel
theorem d33_4 : decode B33 4 = .ok (.ireturn, 1) := by decide +kernel
theorem own_ef_own_intValue (m : MethodId) (xa : Addr) : entryFrame m #[.ref xa] 1 = mkF m 0 #[vR xa] [] := by first | (simp [entryFrame, mkF, argsToLocals, Value.category]; done) | rfl
def Q_own_intValue (Z : State) (xa : Addr) (xv : Int32) (h0 : Heap) (n0 : Nat) (v : Option Value) (h : Heap) (L : List Loc) : Prop := Fr n0 L ∧ h = h0 ∧ v = some (.int xv)
theorem own_intValue (l : Launch) (Z : State) (a0 : Array Value) (hw : ∀ d ∈ tables_1, d.before a0 Z = true) (ws : List Jvm.Cond) (xa : Addr) (xv : Int32) (h0 : Heap) (n0 : Nat) (O0 : Old Z n0 h0) (P0 : Fld Z h0 xa "java/lang/Integer" "value" "I" (.int xv)) : own_Met l Z (⟨"java/lang/Integer", "intValue", "()I"⟩ : MethodName) jdk_33_method_27_code 1 (some .int) ws ({ frames := 0, cells := 0, slots := 0, locals := 0 } : Room) #[.ref xa] h0 (Q_own_intValue Z xa xv h0 n0) := by
  refine own_mk (plainFor_of_name own_pn_java_lang_Integer) O0 ?_
  intro p e s m below meth c s₁ hx hby hml hZ hown hnm hlk hret X0 e0 N0 z0 z1
  refine own_cast (own_ef_own_intValue m xa) ?_
  show own_Goes p e below (s₁.setTop (mkF m 0 #[vR xa] [])) _
  refine q_aloadN X0 hx hby d33_0 rfl rfl ?_
  refine qG X0 hx hby hZ hown (wh hw 270 rfl) e0 P0 d33_1 (fun T1 X1 e1 => ?_)
  refine r_I X1 hx hby hret hlk d33_4 e1 ?_
  exact ⟨N0, rfl, rfl⟩
def own_Gains (Z : State) (h : Heap) (x : Addr) (hi mid lo : Int32) : Prop := ∃ (r : Addr) (rk : ClassId), Fld Z h x "com/example/dolm/dolm/eval/JudgedRanking" "judgedGains" "[I" (.ref r) ∧
  ((Arv Z h r rk .int 0 [] (.int 0) ∧ hi = 0 ∧ mid = 0 ∧ lo = 0) ∨ (∃ z0, Arv Z h r rk .int 1 [.int z0] (.int 0) ∧ hi = z0 ∧ mid = 0 ∧ lo = 0) ∨ (∃ z0 z1, Arv Z h r rk .int 2 [.int z0, .int z1] (.int 0) ∧ hi = z1 ∧ mid = z0 ∧ lo = 0) ∨ (∃ z0 z1 z2, Arv Z h r rk .int 3 [.int z0, .int z1, .int z2] (.int 0) ∧ hi = z2 ∧ mid = z1 ∧ lo = z0))
theorem own_posT {u : Int32} (h : ¬ u < (1 : Int32)) : (0 : Int32) < u := by
  have := own_nltI h; have := own_i1; have := own_i0; rw [Int32.lt_iff_toInt_lt]; omega
theorem own_posF {u : Int32} (h : u < (1 : Int32)) : ¬ (0 : Int32) < u := by
  have := own_ltI h; have := own_i1; have := own_i0; rw [Int32.lt_iff_toInt_lt]; omega
def own_RC (Z : State) (h : Heap) (x : Addr) (k : Int32) : Prop := Fld Z h x "com/example/dolm/dolm/eval/JudgedRanking" "relevantCount" "I" (.int k)
def own_c1 (u : Int32) : Int32 := if u < (1 : Int32) then 0 else 1
theorem own_c1T {u : Int32} (h : u < (1 : Int32)) : own_c1 u = 0 := if_pos h
theorem own_c1F {u : Int32} (h : ¬ u < (1 : Int32)) : own_c1 u = 1 := if_neg h
theorem own_c1b (u : Int32) : (u.toInt ≤ 0 ∧ own_c1 u = 0) ∨ (1 ≤ u.toInt ∧ own_c1 u = 1) := by
  by_cases h : u < (1 : Int32)
  · exact Or.inl ⟨by have := own_ltI h; have := own_i1; omega, own_c1T h⟩
  · exact Or.inr ⟨by have := own_nltI h; have := own_i1; omega, own_c1F h⟩
theorem own_cib (u : Int32) : (u.toInt ≤ 0 ∧ (own_c1 u).toInt = 0) ∨ (1 ≤ u.toInt ∧ (own_c1 u).toInt = 1) := by
  rcases own_c1b u with ⟨a, b⟩ | ⟨a, b⟩
  · exact Or.inl ⟨a, by rw [b]; decide⟩
  · exact Or.inr ⟨a, by rw [b]; decide⟩
theorem own_cnt {u0 u1 u2 k : Int32} (h : ∀ c0 c1 c2 : Int, ((u0.toInt ≤ 0 ∧ c0 = 0) ∨ (1 ≤ u0.toInt ∧ c0 = 1)) → ((u1.toInt ≤ 0 ∧ c1 = 0) ∨ (1 ≤ u1.toInt ∧ c1 = 1)) → ((u2.toInt ≤ 0 ∧ c2 = 0) ∨ (1 ≤ u2.toInt ∧ c2 = 1)) → k.toInt = c0 + c1 + c2) : (((own_c1 u0) + (own_c1 u1)) + (own_c1 u2)) = k := by
  have e := h _ _ _ (own_cib u0) (own_cib u1) (own_cib u2)
  apply own_eqI
  rcases own_c1b u0 with ⟨-, b0⟩ | ⟨-, b0⟩ <;> rcases own_c1b u1 with ⟨-, b1⟩ | ⟨-, b1⟩ <;> rcases own_c1b u2 with ⟨-, b2⟩ | ⟨-, b2⟩ <;> rw [b0, b1, b2] at e ⊢ <;> rw [e] <;> decide
theorem d22_0 : decode B22 0 = .ok (.aload_n 0, 1) := by decide +kernel
theorem d22_1 : decode B22 1 = .ok (.invokespecial 1, 3) := by decide +kernel
theorem d22_4 : decode B22 4 = .ok (.aload_n 0, 1) := by decide +kernel
theorem d22_5 : decode B22 5 = .ok (.aload_n 1, 1) := by decide +kernel
theorem d22_6 : decode B22 6 = .ok (.invokeinterface 7 1, 5) := by decide +kernel
theorem d22_11 : decode B22 11 = .ok (.newarray .boolean, 2) := by decide +kernel
theorem d22_13 : decode B22 13 = .ok (.putfield 13, 3) := by decide +kernel
theorem d22_16 : decode B22 16 = .ok (.aload_n 0, 1) := by decide +kernel
theorem d22_17 : decode B22 17 = .ok (.aload_n 1, 1) := by decide +kernel
theorem d22_18 : decode B22 18 = .ok (.invokeinterface 7 1, 5) := by decide +kernel
theorem d22_23 : decode B22 23 = .ok (.newarray .int, 2) := by decide +kernel
theorem d22_25 : decode B22 25 = .ok (.putfield 19, 3) := by decide +kernel
theorem d22_28 : decode B22 28 = .ok (.iconst 0, 1) := by decide +kernel
theorem d22_29 : decode B22 29 = .ok (.istore_n 3, 1) := by decide +kernel
theorem d22_30 : decode B22 30 = .ok (.iload_n 3, 1) := by decide +kernel
theorem d22_31 : decode B22 31 = .ok (.aload_n 0, 1) := by decide +kernel
theorem d22_32 : decode B22 32 = .ok (.getfield 13, 3) := by decide +kernel
theorem d22_35 : decode B22 35 = .ok (.arraylength, 1) := by decide +kernel
theorem d22_36 : decode B22 36 = .ok (.if_icmp .ge 69, 3) := by decide +kernel
theorem d22_105 : decode B22 105 = .ok (.iconst 0, 1) := by decide +kernel
theorem d22_106 : decode B22 106 = .ok (.istore_n 3, 1) := by decide +kernel
theorem d22_107 : decode B22 107 = .ok (.aload_n 2, 1) := by decide +kernel
theorem d22_108 : decode B22 108 = .ok (.invokeinterface 56 1, 5) := by decide +kernel
theorem d22_113 : decode B22 113 = .ok (.newarray .int, 2) := by decide +kernel
theorem d22_115 : decode B22 115 = .ok (.astore 4, 2) := by decide +kernel
theorem d22_117 : decode B22 117 = .ok (.iconst 0, 1) := by decide +kernel
theorem d22_118 : decode B22 118 = .ok (.istore 5, 2) := by decide +kernel
theorem d22_120 : decode B22 120 = .ok (.aload_n 2, 1) := by decide +kernel
theorem d22_121 : decode B22 121 = .ok (.invokeinterface 57 1, 5) := by decide +kernel
theorem own_pd_20 : parseMethodDescriptor "()Ljava/util/Collection;" = some ⟨[], some (.object "java/util/Collection")⟩ := by decide +kernel
theorem d22_126 : decode B22 126 = .ok (.invokeinterface 61 1, 5) := by decide +kernel
theorem own_pd_21 : parseMethodDescriptor "()Ljava/util/Iterator;" = some ⟨[], some (.object "java/util/Iterator")⟩ := by decide +kernel
theorem d22_131 : decode B22 131 = .ok (.astore 6, 2) := by decide +kernel
theorem d22_133 : decode B22 133 = .ok (.aload 6, 2) := by decide +kernel
theorem d22_135 : decode B22 135 = .ok (.invokeinterface 67 1, 5) := by decide +kernel
theorem d22_140 : decode B22 140 = .ok (.ifCond .eq 45, 3) := by decide +kernel
theorem d22_185 : decode B22 185 = .ok (.aload_n 0, 1) := by decide +kernel
theorem d22_186 : decode B22 186 = .ok (.iload_n 3, 1) := by decide +kernel
theorem d22_187 : decode B22 187 = .ok (.putfield 77, 3) := by decide +kernel
theorem d22_190 : decode B22 190 = .ok (.aload_n 0, 1) := by decide +kernel
theorem d22_191 : decode B22 191 = .ok (.aload 4, 2) := by decide +kernel
theorem d22_193 : decode B22 193 = .ok (.iload 5, 2) := by decide +kernel
theorem d22_195 : decode B22 195 = .ok (.invokestatic 81, 3) := by decide +kernel
theorem own_pd_22 : parseMethodDescriptor "([II)[I" = some ⟨[(.array .int), .int], some (.array .int)⟩ := by decide +kernel
theorem d22_198 : decode B22 198 = .ok (.putfield 87, 3) := by decide +kernel
theorem d22_201 : decode B22 201 = .ok (.aload_n 0, 1) := by decide +kernel
theorem d22_202 : decode B22 202 = .ok (.getfield 87, 3) := by decide +kernel
theorem d22_205 : decode B22 205 = .ok (.invokestatic 90, 3) := by decide +kernel
theorem own_pd_23 : parseMethodDescriptor "([I)V" = some ⟨[(.array .int)], none⟩ := by decide +kernel
theorem d22_208 : decode B22 208 = .ok (.return_, 1) := by decide +kernel
theorem d22_143 : decode B22 143 = .ok (.aload 6, 2) := by decide +kernel
theorem d22_145 : decode B22 145 = .ok (.invokeinterface 73 1, 5) := by decide +kernel
theorem own_pd_24 : parseMethodDescriptor "()Ljava/lang/Object;" = some ⟨[], some (.object "java/lang/Object")⟩ := by decide +kernel
theorem d22_150 : decode B22 150 = .ok (.checkcast 34, 3) := by decide +kernel
theorem d22_153 : decode B22 153 = .ok (.invokevirtual 45, 3) := by decide +kernel
theorem d22_156 : decode B22 156 = .ok (.istore 7, 2) := by decide +kernel
theorem d22_158 : decode B22 158 = .ok (.iload 7, 2) := by decide +kernel
theorem d22_160 : decode B22 160 = .ok (.iconst 1, 1) := by decide +kernel
theorem d22_161 : decode B22 161 = .ok (.if_icmp .lt 6, 3) := by decide +kernel
theorem d22_167 : decode B22 167 = .ok (.iload 7, 2) := by decide +kernel
theorem d22_169 : decode B22 169 = .ok (.ifCond .le 13, 3) := by decide +kernel
theorem d22_182 : decode B22 182 = .ok (.goto (-49), 3) := by decide +kernel
theorem d22_164 : decode B22 164 = .ok (.iinc 3 1, 3) := by decide +kernel
theorem d22_172 : decode B22 172 = .ok (.aload 4, 2) := by decide +kernel
theorem d22_174 : decode B22 174 = .ok (.iload 5, 2) := by decide +kernel
theorem d22_176 : decode B22 176 = .ok (.iload 7, 2) := by decide +kernel
theorem d22_178 : decode B22 178 = .ok (.iastore, 1) := by decide +kernel
theorem d22_179 : decode B22 179 = .ok (.iinc 5 1, 3) := by decide +kernel
theorem own_pn_com_example_dolm_dolm_eval_JudgedRanking : plainName "com/example/dolm/dolm/eval/JudgedRanking" = true := by first | (simp [plainName, overriddenIn]; done) | decide +kernel
theorem own_ef_own_jr3 (m : MethodId) (xa : Addr) (xl : Addr) (xm : Addr) : entryFrame m #[.ref xa, .ref xl, .ref xm] 8 = mkF m 0 #[vR xa, vR xl, vR xm, uS, uS, uS, uS, uS] [] := by first | (simp [entryFrame, mkF, argsToLocals, Value.category]; done) | rfl
def Q_own_jr3 (Z : State) (xa : Addr) (xl : Addr) (xm : Addr) (xt : Addr) (xk : ClassId) (x1 : Addr) (x2 : Addr) (x3 : Addr) (v0 : Addr) (v1 : Addr) (v2 : Addr) (u0 : Int32) (u1 : Int32) (u2 : Int32) (h0 : Heap) (n0 : Nat) (v : Option Value) (h : Heap) (L : List Loc) : Prop := Fr n0 L ∧ Keep h0 h [xa, xm] ∧ v = none ∧ own_RC Z h xa (((own_c1 u0) + (own_c1 u1)) + (own_c1 u2))
theorem own_jr3 (l : Launch) (Z : State) (a0 : Array Value) (hw : ∀ d ∈ tables_1, d.before a0 Z = true) (ws : List Jvm.Cond) (xa : Addr) (xl : Addr) (xm : Addr) (xt : Addr) (xk : ClassId) (x1 : Addr) (x2 : Addr) (x3 : Addr) (v0 : Addr) (v1 : Addr) (v2 : Addr) (u0 : Int32) (u1 : Int32) (u2 : Int32) (h0 : Heap) (n0 : Nat) (O0 : Old Z n0 h0) (P0 : Exa Z h0 xa "com/example/dolm/dolm/eval/JudgedRanking") (P1 : Fld Z h0 xa "com/example/dolm/dolm/eval/JudgedRanking" "relevant" "[Z" .null) (P2 : Fld Z h0 xa "com/example/dolm/dolm/eval/JudgedRanking" "gains" "[I" .null) (P3 : Fld Z h0 xa "com/example/dolm/dolm/eval/JudgedRanking" "relevantCount" "I" (.int 0)) (P4 : Fld Z h0 xa "com/example/dolm/dolm/eval/JudgedRanking" "judgedGains" "[I" .null) (P5 : n0 ≤ xa) (P6 : n0 ≤ xm) (P7 : Exa Z h0 xl "java/util/ArrayList") (P8 : Fld Z h0 xl "java/util/ArrayList" "size" "I" (.int 0)) (P9 : Exa Z h0 xm "java/util/HashMap") (P10 : Fld Z h0 xm "java/util/HashMap" "size" "I" (.int 3)) (P11 : Fld Z h0 xm "java/util/HashMap" "modCount" "I" (.int 3)) (P12 : Fld Z h0 xm "java/util/HashMap" "threshold" "I" (.int 12)) (P13 : Fld Z h0 xm "java/util/HashMap" "table" "[Ljava/util/HashMap$Node;" (.ref xt)) (P14 : Fld Z h0 xm "java/util/AbstractMap" "values" "Ljava/util/Collection;" .null) (P15 : @LT.lt Nat _ xm xa) (P16 : @LT.lt Nat _ xl xm) (P17 : Arv Z h0 xt xk (.object "java/util/HashMap$Node") (16 : Int32) [.null, .ref x1, .ref x2, .ref x3, .null, .null, .null, .null, .null, .null, .null, .null, .null, .null, .null, .null] .null) (P18 : @LT.lt Nat _ xm xt) (P19 : @LT.lt Nat _ xt xa) (P20 : Exa Z h0 x1 "java/util/HashMap$Node") (P21 : Fld Z h0 x1 "java/util/HashMap$Node" "value" "Ljava/lang/Object;" (.ref v0)) (P22 : Fld Z h0 x1 "java/util/HashMap$Node" "next" "Ljava/util/HashMap$Node;" .null) (P23 : Exa Z h0 v0 "java/lang/Integer") (P24 : Fld Z h0 v0 "java/lang/Integer" "value" "I" (.int u0)) (P25 : @LT.lt Nat _ xt x1) (P26 : @LT.lt Nat _ x1 xa) (P27 : (@LT.lt Nat _ v0 n0 ∨ @LT.lt Nat _ xm v0)) (P28 : @LT.lt Nat _ v0 xa) (P29 : Exa Z h0 x2 "java/util/HashMap$Node") (P30 : Fld Z h0 x2 "java/util/HashMap$Node" "value" "Ljava/lang/Object;" (.ref v1)) (P31 : Fld Z h0 x2 "java/util/HashMap$Node" "next" "Ljava/util/HashMap$Node;" .null) (P32 : Exa Z h0 v1 "java/lang/Integer") (P33 : Fld Z h0 v1 "java/lang/Integer" "value" "I" (.int u1)) (P34 : @LT.lt Nat _ xt x2) (P35 : @LT.lt Nat _ x2 xa) (P36 : (@LT.lt Nat _ v1 n0 ∨ @LT.lt Nat _ xm v1)) (P37 : @LT.lt Nat _ v1 xa) (P38 : Exa Z h0 x3 "java/util/HashMap$Node") (P39 : Fld Z h0 x3 "java/util/HashMap$Node" "value" "Ljava/lang/Object;" (.ref v2)) (P40 : Fld Z h0 x3 "java/util/HashMap$Node" "next" "Ljava/util/HashMap$Node;" .null) (P41 : Exa Z h0 v2 "java/lang/Integer") (P42 : Fld Z h0 v2 "java/lang/Integer" "value" "I" (.int u2)) (P43 : @LT.lt Nat _ xt x3) (P44 : @LT.lt Nat _ x3 xa) (P45 : (@LT.lt Nat _ v2 n0 ∨ @LT.lt Nat _ xm v2)) (P46 : @LT.lt Nat _ v2 xa) : own_Met l Z (⟨"com/example/dolm/dolm/eval/JudgedRanking", "<init>", "(Ljava/util/List;Ljava/util/Map;)V"⟩ : MethodName) prog_9_method_1_code 8 none ws ({ frames := 4, cells := 6, slots := 12, locals := 79 } : Room) #[.ref xa, .ref xl, .ref xm] h0 (Q_own_jr3 Z xa xl xm xt xk x1 x2 x3 v0 v1 v2 u0 u1 u2 h0 n0) := by
  refine own_mk (plainFor_of_name own_pn_com_example_dolm_dolm_eval_JudgedRanking) O0 ?_
  intro p e s m below meth c s₁ hx hby hml hZ hown hnm hlk hret X0 e0 N0 z0 z1
  have K0 : Keep h0 h0 [xa, xm] := Keep.refl _ _
  refine own_cast (own_ef_own_jr3 m xa xl xm) ?_
  show own_Goes p e below (s₁.setTop (mkF m 0 #[vR xa, vR xl, vR xm, uS, uS, uS, uS, uS] [])) _
  have ltP0 : @LT.lt Nat _ xa h0.size := P0.lt
  have ltP7 : @LT.lt Nat _ xl h0.size := P7.lt
  have ltP9 : @LT.lt Nat _ xm h0.size := P9.lt
  have ltP17 : @LT.lt Nat _ xt h0.size := P17.lt
  have ltP20 : @LT.lt Nat _ x1 h0.size := P20.lt
  have ltP23 : @LT.lt Nat _ v0 h0.size := P23.lt
  have ltP29 : @LT.lt Nat _ x2 h0.size := P29.lt
  have ltP32 : @LT.lt Nat _ v1 h0.size := P32.lt
  have ltP38 : @LT.lt Nat _ x3 h0.size := P38.lt
  have ltP41 : @LT.lt Nat _ v2 h0.size := P41.lt
  refine q_aloadN X0 hx hby d22_0 rfl rfl ?_
  obtain ⟨T1, X1, e1, st1⟩ := initO X0 hx hZ hown (wh hw 154 rfl) (wh hw 19 rfl) (wh hw 20 rfl) e0 (g := (mkF m 1 #[vR xa, vR xl, vR xm, uS, uS, uS, uS, uS] [.ref xa])) rfl (by rw [hml]; rfl) rfl (hb hby d22_1) (by decide) (W := 0) (by show 2 * 0 + _ ≤ _; exact Nat.le_of_eq rfl) (by decide)
  refine gg st1 ?_
  refine q_aloadN X1 hx hby d22_4 rfl rfl ?_
  refine q_aloadN X1 hx hby d22_5 rfl rfl ?_
  refine k_I X1 hx hby hZ hown (wh hw 155 rfl) (wh hw 156 rfl) (wh hw 157 rfl) (wh hw 158 rfl) (wh hw 159 rfl) (wh hw 160 rfl) (wh hw 161 rfl) (wh hw 162 rfl) (W := 1) (own_alSize l Z a0 hw [] xl h0 n0 O0 P8) (wh hw 163 rfl) (wh hw 2 rfl) e1 P7  hml (argsL := []) (rest := [.ref xa]) own_pd_6 d22_6 (fun _ T2 L2 X2 hQ2 => ?_)
  obtain ⟨Nc2, e2, rfl⟩ := hQ2
  have N2 := Fr.app N0 Nc2
  obtain ⟨T3, h3, k3, X3, e3, E3, A3, st3⟩ := newP X2 hx hZ (wh hw 166 rfl) e2 (g := (mkF m 11 #[vR xa, vR xl, vR xm, uS, uS, uS, uS, uS] [.int 0, .ref xa])) rfl (hb hby d22_11) rfl (by decide) (cap := 0) (by decide) (by decide) (by decide) (by decide)
  obtain ⟨b3, g3⟩ : ∃ z, z = h0.size := ⟨_, rfl⟩
  rw [← g3] at A3 st3
  refine gg st3 ?_
  have O4 := O0.ext E3
  have sz5 : h0.size ≤ h3.size := E3.1
  have K6 := K0.ext E3
  have l3 : @LT.lt Nat _ b3 h3.size := A3.lt
  have V3 : Arv Z h3 b3 k3 .boolean (0 : Int32) [] (.int 0) := (Arv.new A3 (by decide)).pad (pad_rep [] (.int 0) 0)
  have f7 := (P1.ext E3)
  have f8 := (P0.ext E3)
  refine qP X3 hx hby hZ hown (host := "") (Or.inl (wh hw 167 rfl)) Via.refl e3 f7 f8 (Or.inr ⟨(wh hw 168 rfl), rfl, hnm⟩) (wh hw 149 rfl) (ty := (.array .boolean)) d22_13 (fun T9 h9 X9 e9 W9 => ?_)
  have O10 := O4.wr W9 (show n0 ≤ xa by omega)
  have sz11 : h9.size = h3.size := Wr.size W9
  have K12 := K6.wr W9 (Or.inl (List.mem_of_getElem? (i := 0) rfl))
  have N9 := Fr.snoc X9 N2 (show n0 ≤ xa by omega)
  have Fw9 := f7.same W9
  refine q_aloadN X9 hx hby d22_16 rfl rfl ?_
  refine q_aloadN X9 hx hby d22_17 rfl rfl ?_
  have f13 := ((P8.ext E3).other W9 (Or.inl (nE xl xa (by omega))))
  have f14 := ((P7.ext E3).wr W9)
  refine k_I X9 hx hby hZ hown (wh hw 155 rfl) (wh hw 156 rfl) (wh hw 157 rfl) (wh hw 158 rfl) (wh hw 159 rfl) (wh hw 160 rfl) (wh hw 161 rfl) (wh hw 162 rfl) (W := 1) (own_alSize l Z a0 hw [] xl h9 n0 O10 f13) (wh hw 163 rfl) (wh hw 2 rfl) e9 f14  hml (argsL := []) (rest := [.ref xa]) own_pd_6 d22_18 (fun _ T15 L15 X15 hQ15 => ?_)
  obtain ⟨Nc15, e15, rfl⟩ := hQ15
  have N15 := Fr.app N9 Nc15
  obtain ⟨T16, h16, k16, X16, e16, E16, A16, Ex16, st16⟩ := newPE X15 hx hZ (wh hw 169 rfl) e15 (g := (mkF m 23 #[vR xa, vR xl, vR xm, uS, uS, uS, uS, uS] [.int 0, .ref xa])) rfl (hb hby d22_23) rfl (by decide) (cap := 0) (by decide) (by decide) (by decide) (by decide) (ad := "[I") (by decide)
  obtain ⟨b16, g16⟩ : ∃ z, z = h9.size := ⟨_, rfl⟩
  rw [← g16] at A16 st16 Ex16
  refine gg st16 ?_
  have O17 := O10.ext E16
  have sz18 : h9.size ≤ h16.size := E16.1
  have K19 := K12.ext E16
  have l16 : @LT.lt Nat _ b16 h16.size := A16.lt
  have V16 : Arv Z h16 b16 k16 .int (0 : Int32) [] (.int 0) := (Arv.new A16 (by decide)).pad (pad_rep [] (.int 0) 0)
  have f20 := (((P2.ext E3).other W9 (Or.inr (slot_ne (Or.inr (wh hw 171 rfl)) (Or.inr (wh hw 168 rfl)) (by decide) (t := (.array .int)) (t' := (.array .boolean)) (by decide) (by decide)))).ext E16)
  have f21 := ((f8.wr W9).ext E16)
  refine qP X16 hx hby hZ hown (host := "") (Or.inl (wh hw 170 rfl)) Via.refl e16 f20 f21 (Or.inr ⟨(wh hw 171 rfl), rfl, hnm⟩) (wh hw 149 rfl) (ty := (.array .int)) d22_25 (fun T22 h22 X22 e22 W22 => ?_)
  have O23 := O17.wr W22 (show n0 ≤ xa by omega)
  have sz24 : h22.size = h16.size := Wr.size W22
  have K25 := K19.wr W22 (Or.inl (List.mem_of_getElem? (i := 0) rfl))
  have N22 := Fr.snoc X22 N15 (show n0 ≤ xa by omega)
  have Fw22 := f20.same W22
  refine q_iconst X22 hx hby d22_28 ?_
  refine q_istoreN X22 hx hby d22_29 (l' := #[vR xa, vR xl, vR xm, vI 0, uS, uS, uS, uS]) rfl ?_
  show own_Goes p e below (T22.setTop (mkF m 30 #[vR xa, vR xl, vR xm, vI 0, uS, uS, uS, uS] [])) _
  refine q_iloadN X22 hx hby d22_30 rfl ?_
  refine q_aloadN X22 hx hby d22_31 rfl rfl ?_
  have f26 := ((Fw9.ext E16).other W22 (Or.inr (slot_ne (Or.inr (wh hw 168 rfl)) (Or.inr (wh hw 171 rfl)) (by decide) (t := (.array .boolean)) (t' := (.array .int)) (by decide) (by decide))))
  refine qG X22 hx hby hZ hown (wh hw 167 rfl) e22 f26 d22_32 (fun T27 X27 e27 => ?_)
  have f28 := (((V3.other W9 (nE b3 xa (by omega))).ext E16).other W22 (nE b3 xa (by omega)))
  refine q_len X27 hx hby hZ e27 f28 d22_35 ?_
  refine q_icmpYes (pc := 36) X27 hx hby d22_36 (pc' := 105) (flt (show ¬ ((0 : Int32) < (0 : Int32)) from by decide)).2.1 (by decide) (by decide) ?_
  refine q_iconst X27 hx hby d22_105 ?_
  refine q_istoreN X27 hx hby d22_106 (l' := #[vR xa, vR xl, vR xm, vI 0, uS, uS, uS, uS]) rfl ?_
  refine q_aloadN X27 hx hby d22_107 rfl rfl ?_
  have f30 := ((((P10.ext E3).other W9 (Or.inl (nE xm xa (by omega)))).ext E16).other W22 (Or.inl (nE xm xa (by omega))))
  have f31 := ((((P9.ext E3).wr W9).ext E16).wr W22)
  refine k_I X27 hx hby hZ hown (wh hw 172 rfl) (wh hw 173 rfl) (wh hw 174 rfl) (wh hw 175 rfl) (wh hw 176 rfl) (wh hw 177 rfl) (wh hw 178 rfl) (wh hw 80 rfl) (W := 0) (own_hmSize l Z a0 hw [] xm (3 : Int32) h22 n0 O23 f30) (wh hw 179 rfl) (wh hw 28 rfl) e27 f31  hml (argsL := []) (rest := []) own_pd_6 d22_108 (fun _ T32 L32 X32 hQ32 => ?_)
  obtain ⟨Nc32, e32, rfl⟩ := hQ32
  have N32 := Fr.app N22 Nc32
  obtain ⟨T33, h33, k33, X33, e33, E33, A33, Ex33, st33⟩ := newPE X32 hx hZ (wh hw 169 rfl) e32 (g := (mkF m 113 #[vR xa, vR xl, vR xm, vI 0, uS, uS, uS, uS] [.int 3])) rfl (hb hby d22_113) rfl (by decide) (cap := 3) (by decide) (by decide) (by decide) (by decide) (ad := "[I") (by decide)
  obtain ⟨b33, g33⟩ : ∃ z, z = h22.size := ⟨_, rfl⟩
  rw [← g33] at A33 st33 Ex33
  refine gg st33 ?_
  have O34 := O23.ext E33
  have sz35 : h22.size ≤ h33.size := E33.1
  have K36 := K25.ext E33
  have l33 : @LT.lt Nat _ b33 h33.size := A33.lt
  have V33 : Arv Z h33 b33 k33 .int (3 : Int32) [.int 0, .int 0, .int 0] (.int 0) := (Arv.new A33 (by decide)).pad (pad_rep [] (.int 0) 3)
  refine q_astore X33 hx hby d22_115 rfl (l' := #[vR xa, vR xl, vR xm, vI 0, vR b33, uS, uS, uS]) rfl ?_
  refine q_iconst X33 hx hby d22_117 ?_
  refine q_istore X33 hx hby d22_118 (l' := #[vR xa, vR xl, vR xm, vI 0, vR b33, vI 0, uS, uS]) rfl ?_
  refine q_aloadN X33 hx hby d22_120 rfl rfl ?_
  show own_Goes p e below (T33.setTop (mkF m 121 #[vR xa, vR xl, vR xm, vI 0, vR b33, vI 0, uS, uS] [.ref xm])) _
  have f37 := (f31.ext E33)
  have f38 := (f30.ext E33)
  have f39 := (((((P11.ext E3).other W9 (Or.inl (nE xm xa (by omega)))).ext E16).other W22 (Or.inl (nE xm xa (by omega)))).ext E33)
  have f40 := (((((P12.ext E3).other W9 (Or.inl (nE xm xa (by omega)))).ext E16).other W22 (Or.inl (nE xm xa (by omega)))).ext E33)
  have f41 := (((((P13.ext E3).other W9 (Or.inl (nE xm xa (by omega)))).ext E16).other W22 (Or.inl (nE xm xa (by omega)))).ext E33)
  have f42 := (((((P14.ext E3).other W9 (Or.inl (nE xm xa (by omega)))).ext E16).other W22 (Or.inl (nE xm xa (by omega)))).ext E33)
  refine k_I X33 hx hby hZ hown (wh hw 180 rfl) (wh hw 181 rfl) (wh hw 182 rfl) (wh hw 183 rfl) (wh hw 184 rfl) (wh hw 185 rfl) (wh hw 186 rfl) (wh hw 80 rfl) (W := 0) (own_values l Z a0 hw [] xm (3 : Int32) (3 : Int32) (12 : Int32) (Value.ref xt) h33 n0 O34 f37 (show n0 ≤ xm by first | assumption | omega | decide) f38 f39 f40 f41 f42) (wh hw 187 rfl) (wh hw 28 rfl) e33 f37  hml (argsL := []) (rest := []) own_pd_20 d22_121 (fun _ T43 L43 X43 hQ43 => ?_)
  obtain ⟨h43, e43⟩ : ∃ z, T43.heap = z := ⟨_, rfl⟩
  rw [e43] at hQ43
  obtain ⟨Nc43, Kc43, r_43, rfl, c43_0, c43_1, c43_2, c43_3, c43_4, c43_5, c43_6, c43_7⟩ := hQ43
  have N43 := Fr.app N32 Nc43
  have O44 := O34.keep Kc43 (allS (show n0 ≤ xm by omega) all0)
  have sz45 : h33.size ≤ h43.size := Kc43.1
  have K46 := Keep.trans K36 Kc43 (allS (Or.inl (List.mem_of_getElem? (i := 1) rfl)) all0)
  have ltc43_5 : @LT.lt Nat _ r_43 h43.size := c43_5.lt
  have f47 := ((((((P17.ext E3).other W9 (nE xt xa (by omega))).ext E16).other W22 (nE xt xa (by omega))).ext E33).keep Kc43 (ninS (nE xt xm (by omega)) nin0))
  refine k_I X43 hx hby hZ hown (wh hw 202 rfl) (wh hw 203 rfl) (wh hw 204 rfl) (wh hw 205 rfl) (wh hw 206 rfl) (wh hw 207 rfl) (wh hw 208 rfl) (wh hw 209 rfl) (W := 0) (own_iter1 l Z a0 hw [] r_43 xm (3 : Int32) (3 : Int32) xt xk x1 (Value.ref x2) (Value.ref x3) h43 n0 O44 c43_6 c43_0 c43_1 c43_3 f47 (show (0 : Int32) < (3 : Int32) by first | assumption | omega | decide) (show @LT.lt Nat _ xm h43.size by first | assumption | omega | decide) (show @LT.lt Nat _ xt h43.size by first | assumption | omega | decide)) (wh hw 210 rfl) (wh hw 193 rfl) e43 c43_5  hml (argsL := []) (rest := []) own_pd_21 d22_126 (fun _ T48 L48 X48 hQ48 => ?_)
  obtain ⟨h48, e48⟩ : ∃ z, T48.heap = z := ⟨_, rfl⟩
  rw [e48] at hQ48
  obtain ⟨Nc48, Kc48, r_48, rfl, c48_0, c48_1, c48_2, c48_3, c48_4, c48_5, c48_6⟩ := hQ48
  have N48 := Fr.app N43 Nc48
  have O49 := O44.keep Kc48 all0
  have sz50 : h43.size ≤ h48.size := Kc48.1
  have K51 := Keep.trans K46 Kc48 all0
  have ltc48_0 : @LT.lt Nat _ r_48 h48.size := c48_0.lt
  refine q_astore X48 hx hby d22_131 rfl (l' := #[vR xa, vR xl, vR xm, vI 0, vR b33, vI 0, vR r_48, uS]) rfl ?_
  have C_3_0 : ∀ (T_ : State) (h_ : Heap) (L_ : List Loc), (u0.toInt ≤ 0 ∧ u1.toInt ≤ 0 ∧ u2.toInt ≤ 0) → Stand p l e ({ frames := 4, cells := 6, slots := 12, locals := 79 } : Room) s m #[.ref xa, .ref xl, .ref xm] below meth c T_ L_ 5 9 ∧ T_.heap = h_ ∧ Fr n0 L_ ∧ Old Z n0 h_ ∧ Keep h0 h_ [xa, xm] ∧ Exa Z h_ xa "com/example/dolm/dolm/eval/JudgedRanking" ∧ Fld Z h_ xa "com/example/dolm/dolm/eval/JudgedRanking" "relevantCount" "I" (.int 0) ∧ Fld Z h_ xa "com/example/dolm/dolm/eval/JudgedRanking" "judgedGains" "[I" .null ∧ Exa Z h_ r_48 "java/util/HashMap$ValueIterator" ∧ Fld Z h_ r_48 "java/util/HashMap$HashIterator" "next" "Ljava/util/HashMap$Node;" .null ∧ Exa Z h_ b33 "[I" ∧ Arv Z h_ b33 k33 .int (3 : Int32) [.int 0, .int 0, .int 0] (.int 0) → own_Goes p e below (T_.setTop (mkF m 133 #[vR xa, vR xl, vR xm, vI 0, vR b33, vI 0, vR r_48, vI u2] [])) (own_PostN s (Q_own_jr3 Z xa xl xm xt xk x1 x2 x3 v0 v1 v2 u0 u1 u2 h0 n0) ({ frames := 4, cells := 6, slots := 12, locals := 79 } : Room).cells ({ frames := 4, cells := 6, slots := 12, locals := 79 } : Room).slots) := by
    intro T_ h_ L_ hR ⟨X_, e_, N_, O_, K_, f_0, f_1, f_2, f_3, f_4, f_5, f_6⟩
    have lt_0 : @LT.lt Nat _ xa h_.size := f_0.lt
    have lt_3 : @LT.lt Nat _ r_48 h_.size := f_3.lt
    have lt_5 : @LT.lt Nat _ b33 h_.size := f_5.lt
    have lt_6 : @LT.lt Nat _ b33 h_.size := f_6.lt
    show own_Goes p e below (T_.setTop (mkF m 133 #[vR xa, vR xl, vR xm, vI 0, vR b33, vI 0, vR r_48, vI u2] [])) _
    refine q_aload X_ hx hby d22_133 rfl rfl ?_
    refine k_I X_ hx hby hZ hown (wh hw 238 rfl) (wh hw 239 rfl) (wh hw 240 rfl) (wh hw 241 rfl) (wh hw 242 rfl) (wh hw 243 rfl) (wh hw 244 rfl) (wh hw 245 rfl) (W := 0) (own_hasNext0 l Z a0 hw [] r_48 h_ n0 O_ f_4) (wh hw 246 rfl) (wh hw 222 rfl) e_ f_3  hml (argsL := []) (rest := []) own_pd_4 d22_135 (fun _ T52 L52 X52 hQ52 => ?_)
    obtain ⟨Nc52, e52, rfl⟩ := hQ52
    have N52 := Fr.app N_ Nc52
    refine q_ifYes (pc := 140) X52 hx hby d22_140 (pc' := 185) ((if0 _ _).trans (teq (show ((0 : Int32) = (0 : Int32)) from by decide)).1) (by decide) (by decide) ?_
    refine q_aloadN X52 hx hby d22_185 rfl rfl ?_
    refine q_iloadN X52 hx hby d22_186 rfl ?_
    refine qP X52 hx hby hZ hown (host := "") (Or.inl (wh hw 272 rfl)) Via.refl e52 f_1 f_0 (Or.inr ⟨(wh hw 273 rfl), rfl, hnm⟩) (wh hw 149 rfl) (ty := .int) d22_187 (fun T53 h53 X53 e53 W53 => ?_)
    have O54 := O_.wr W53 (show n0 ≤ xa by omega)
    have sz55 : h53.size = h_.size := Wr.size W53
    have K56 := K_.wr W53 (Or.inl (List.mem_of_getElem? (i := 0) rfl))
    have N53 := Fr.snoc X53 N52 (show n0 ≤ xa by omega)
    have Fw53 := f_1.same W53
    refine q_aloadN X53 hx hby d22_190 rfl rfl ?_
    refine q_aload X53 hx hby d22_191 rfl rfl ?_
    refine q_iload X53 hx hby d22_193 rfl ?_
    have f57 := (f_6.other W53 (nE b33 xa (by omega)))
    have V58 : Arv Z h53 b33 k33 .int (3 : Int32) [] (.int 0) := f57.pad (fun i => (pad_rep [] (.int 0) 3 i).symm)
    refine k_S X53 hx hby hZ hown (wh hw 274 rfl) (wh hw 275 rfl) (W := 1) (own_copyS0 l Z a0 hw [] b33 k33 (3 : Int32) h53 n0 O54 V58 (show ¬ (0 : Int32) = (3 : Int32) by first | assumption | omega | decide) (show (0 : Int32) < (3 : Int32) by first | assumption | omega | decide)) (wh hw 277 rfl) (wh hw 276 rfl) e53  hml (argsL := [.ref b33, .int 0]) (rest := [.ref xa]) own_pd_22 d22_195 (fun _ T59 L59 X59 hQ59 => ?_)
    obtain ⟨h59, e59⟩ : ∃ z, T59.heap = z := ⟨_, rfl⟩
    rw [e59] at hQ59
    obtain ⟨Nc59, Kc59, r_59, rk_59, rfl, c59_0, c59_1⟩ := hQ59
    have N59 := Fr.app N53 Nc59
    have O60 := O54.keep Kc59 all0
    have sz61 : h53.size ≤ h59.size := Kc59.1
    have K62 := Keep.trans K56 Kc59 all0
    have ltc59_0 : @LT.lt Nat _ r_59 h59.size := c59_0.lt
    have f63 := ((f_2.other W53 (Or.inr (slot_ne (Or.inr (wh hw 288 rfl)) (Or.inr (wh hw 273 rfl)) (by decide) (t := (.array .int)) (t' := .int) (by decide) (by decide)))).keep Kc59 nin0)
    have f64 := ((f_0.wr W53).keep Kc59)
    refine qP X59 hx hby hZ hown (host := "") (Or.inl (wh hw 287 rfl)) Via.refl e59 f63 f64 (Or.inr ⟨(wh hw 288 rfl), rfl, hnm⟩) (wh hw 149 rfl) (ty := (.array .int)) d22_198 (fun T65 h65 X65 e65 W65 => ?_)
    have O66 := O60.wr W65 (show n0 ≤ xa by omega)
    have sz67 : h65.size = h59.size := Wr.size W65
    have K68 := K62.wr W65 (Or.inl (List.mem_of_getElem? (i := 0) rfl))
    have N65 := Fr.snoc X65 N59 (show n0 ≤ xa by omega)
    have Fw65 := f63.same W65
    refine q_aloadN X65 hx hby d22_201 rfl rfl ?_
    refine qG X65 hx hby hZ hown (wh hw 287 rfl) e65 Fw65 d22_202 (fun T69 X69 e69 => ?_)
    have f70 := (c59_0.other W65 (nE r_59 xa (by omega)))
    refine k_S X69 hx hby hZ hown (wh hw 289 rfl) (wh hw 290 rfl) (W := 0) (own_sort0 l Z a0 hw [] r_59 rk_59 h65 n0 O66 f70 (show n0 ≤ r_59 by first | assumption | omega | decide)) (wh hw 291 rfl) (wh hw 276 rfl) e69  hml (argsL := [.ref r_59]) (rest := []) own_pd_23 d22_205 (fun _ T71 L71 X71 hQ71 => ?_)
    obtain ⟨h71, e71⟩ : ∃ z, T71.heap = z := ⟨_, rfl⟩
    rw [e71] at hQ71
    obtain ⟨Nc71, Kc71, rfl, c71_0⟩ := hQ71
    have N71 := Fr.app N65 Nc71
    have O72 := O66.keep Kc71 (allS (show n0 ≤ r_59 by omega) all0)
    have sz73 : h65.size ≤ h71.size := Kc71.1
    have K74 := Keep.trans K68 Kc71 (allS (Or.inr (show h0.size ≤ r_59 by omega)) all0)
    have ltc71_0 : @LT.lt Nat _ r_59 h71.size := c71_0.lt
    show own_Goes p e below (T71.setTop (mkF m 208 #[vR xa, vR xl, vR xm, vI 0, vR b33, vI 0, vR r_48, vI u2] [])) _
    refine r_V X71 hx hby hret hlk d22_208 e71 ?_
    have f75 := (((Fw53.keep Kc59 nin0).other W65 (Or.inr (slot_ne (Or.inr (wh hw 273 rfl)) (Or.inr (wh hw 288 rfl)) (by decide) (t := .int) (t' := (.array .int)) (by decide) (by decide)))).keep Kc71 (ninS (nE xa r_59 (by omega)) nin0))
    have GA : own_RC Z h71 xa (((own_c1 u0) + (own_c1 u1)) + (own_c1 u2)) := by unfold own_RC; rw [own_cnt (u0 := u0) (u1 := u1) (u2 := u2) (k := 0) (by intro c0_ c1_ c2_ h0_ h1_ h2_; have e_ : (0 : Int32).toInt = 0 := (by decide); omega)]; exact f75
    exact ⟨N71, K74, rfl, GA⟩
  have C_3_1 : ∀ (y0 : Int32) (T_ : State) (h_ : Heap) (L_ : List Loc), (y0.toInt = u0.toInt ∧ 1 ≤ u0.toInt ∧ u1.toInt ≤ 0 ∧ u2.toInt ≤ 0) ∨ (y0.toInt = u1.toInt ∧ 1 ≤ u1.toInt ∧ u0.toInt ≤ 0 ∧ u2.toInt ≤ 0) ∨ (y0.toInt = u2.toInt ∧ 1 ≤ u2.toInt ∧ u0.toInt ≤ 0 ∧ u1.toInt ≤ 0) → Stand p l e ({ frames := 4, cells := 6, slots := 12, locals := 79 } : Room) s m #[.ref xa, .ref xl, .ref xm] below meth c T_ L_ 5 9 ∧ T_.heap = h_ ∧ Fr n0 L_ ∧ Old Z n0 h_ ∧ Keep h0 h_ [xa, xm] ∧ Exa Z h_ xa "com/example/dolm/dolm/eval/JudgedRanking" ∧ Fld Z h_ xa "com/example/dolm/dolm/eval/JudgedRanking" "relevantCount" "I" (.int 0) ∧ Fld Z h_ xa "com/example/dolm/dolm/eval/JudgedRanking" "judgedGains" "[I" .null ∧ Exa Z h_ r_48 "java/util/HashMap$ValueIterator" ∧ Fld Z h_ r_48 "java/util/HashMap$HashIterator" "next" "Ljava/util/HashMap$Node;" .null ∧ Exa Z h_ b33 "[I" ∧ Arv Z h_ b33 k33 .int (3 : Int32) [.int y0, .int 0, .int 0] (.int 0) → own_Goes p e below (T_.setTop (mkF m 133 #[vR xa, vR xl, vR xm, vI 1, vR b33, vI 1, vR r_48, vI u2] [])) (own_PostN s (Q_own_jr3 Z xa xl xm xt xk x1 x2 x3 v0 v1 v2 u0 u1 u2 h0 n0) ({ frames := 4, cells := 6, slots := 12, locals := 79 } : Room).cells ({ frames := 4, cells := 6, slots := 12, locals := 79 } : Room).slots) := by
    intro y0 T_ h_ L_ hR ⟨X_, e_, N_, O_, K_, f_0, f_1, f_2, f_3, f_4, f_5, f_6⟩
    have lt_0 : @LT.lt Nat _ xa h_.size := f_0.lt
    have lt_3 : @LT.lt Nat _ r_48 h_.size := f_3.lt
    have lt_5 : @LT.lt Nat _ b33 h_.size := f_5.lt
    have lt_6 : @LT.lt Nat _ b33 h_.size := f_6.lt
    show own_Goes p e below (T_.setTop (mkF m 133 #[vR xa, vR xl, vR xm, vI 1, vR b33, vI 1, vR r_48, vI u2] [])) _
    refine q_aload X_ hx hby d22_133 rfl rfl ?_
    refine k_I X_ hx hby hZ hown (wh hw 238 rfl) (wh hw 239 rfl) (wh hw 240 rfl) (wh hw 241 rfl) (wh hw 242 rfl) (wh hw 243 rfl) (wh hw 244 rfl) (wh hw 245 rfl) (W := 0) (own_hasNext0 l Z a0 hw [] r_48 h_ n0 O_ f_4) (wh hw 246 rfl) (wh hw 222 rfl) e_ f_3  hml (argsL := []) (rest := []) own_pd_4 d22_135 (fun _ T76 L76 X76 hQ76 => ?_)
    obtain ⟨Nc76, e76, rfl⟩ := hQ76
    have N76 := Fr.app N_ Nc76
    refine q_ifYes (pc := 140) X76 hx hby d22_140 (pc' := 185) ((if0 _ _).trans (teq (show ((0 : Int32) = (0 : Int32)) from by decide)).1) (by decide) (by decide) ?_
    refine q_aloadN X76 hx hby d22_185 rfl rfl ?_
    refine q_iloadN X76 hx hby d22_186 rfl ?_
    refine qP X76 hx hby hZ hown (host := "") (Or.inl (wh hw 272 rfl)) Via.refl e76 f_1 f_0 (Or.inr ⟨(wh hw 273 rfl), rfl, hnm⟩) (wh hw 149 rfl) (ty := .int) d22_187 (fun T77 h77 X77 e77 W77 => ?_)
    have O78 := O_.wr W77 (show n0 ≤ xa by omega)
    have sz79 : h77.size = h_.size := Wr.size W77
    have K80 := K_.wr W77 (Or.inl (List.mem_of_getElem? (i := 0) rfl))
    have N77 := Fr.snoc X77 N76 (show n0 ≤ xa by omega)
    have Fw77 := f_1.same W77
    refine q_aloadN X77 hx hby d22_190 rfl rfl ?_
    refine q_aload X77 hx hby d22_191 rfl rfl ?_
    refine q_iload X77 hx hby d22_193 rfl ?_
    have f81 := (f_6.other W77 (nE b33 xa (by omega)))
    have V82 : Arv Z h77 b33 k33 .int (3 : Int32) [.int y0] (.int 0) := f81.pad (fun i => (pad_rep [.int y0] (.int 0) 2 i).symm)
    refine k_S X77 hx hby hZ hown (wh hw 274 rfl) (wh hw 275 rfl) (W := 1) (own_copyS1 l Z a0 hw [] b33 k33 (3 : Int32) y0 h77 n0 O78 V82 (show ¬ (1 : Int32) = (3 : Int32) by first | assumption | omega | decide) (show (1 : Int32) < (3 : Int32) by first | assumption | omega | decide)) (wh hw 277 rfl) (wh hw 276 rfl) e77  hml (argsL := [.ref b33, .int 1]) (rest := [.ref xa]) own_pd_22 d22_195 (fun _ T83 L83 X83 hQ83 => ?_)
    obtain ⟨h83, e83⟩ : ∃ z, T83.heap = z := ⟨_, rfl⟩
    rw [e83] at hQ83
    obtain ⟨Nc83, Kc83, r_83, rk_83, rfl, c83_0, c83_1⟩ := hQ83
    have N83 := Fr.app N77 Nc83
    have O84 := O78.keep Kc83 all0
    have sz85 : h77.size ≤ h83.size := Kc83.1
    have K86 := Keep.trans K80 Kc83 all0
    have ltc83_0 : @LT.lt Nat _ r_83 h83.size := c83_0.lt
    have f87 := ((f_2.other W77 (Or.inr (slot_ne (Or.inr (wh hw 288 rfl)) (Or.inr (wh hw 273 rfl)) (by decide) (t := (.array .int)) (t' := .int) (by decide) (by decide)))).keep Kc83 nin0)
    have f88 := ((f_0.wr W77).keep Kc83)
    refine qP X83 hx hby hZ hown (host := "") (Or.inl (wh hw 287 rfl)) Via.refl e83 f87 f88 (Or.inr ⟨(wh hw 288 rfl), rfl, hnm⟩) (wh hw 149 rfl) (ty := (.array .int)) d22_198 (fun T89 h89 X89 e89 W89 => ?_)
    have O90 := O84.wr W89 (show n0 ≤ xa by omega)
    have sz91 : h89.size = h83.size := Wr.size W89
    have K92 := K86.wr W89 (Or.inl (List.mem_of_getElem? (i := 0) rfl))
    have N89 := Fr.snoc X89 N83 (show n0 ≤ xa by omega)
    have Fw89 := f87.same W89
    refine q_aloadN X89 hx hby d22_201 rfl rfl ?_
    refine qG X89 hx hby hZ hown (wh hw 287 rfl) e89 Fw89 d22_202 (fun T93 X93 e93 => ?_)
    have f94 := (c83_0.other W89 (nE r_83 xa (by omega)))
    refine k_S X93 hx hby hZ hown (wh hw 289 rfl) (wh hw 290 rfl) (W := 0) (own_sort1 l Z a0 hw [] r_83 rk_83 y0 h89 n0 O90 f94 (show n0 ≤ r_83 by first | assumption | omega | decide)) (wh hw 291 rfl) (wh hw 276 rfl) e93  hml (argsL := [.ref r_83]) (rest := []) own_pd_23 d22_205 (fun _ T95 L95 X95 hQ95 => ?_)
    obtain ⟨h95, e95⟩ : ∃ z, T95.heap = z := ⟨_, rfl⟩
    rw [e95] at hQ95
    obtain ⟨Nc95, Kc95, rfl, c95_0⟩ := hQ95
    have N95 := Fr.app N89 Nc95
    have O96 := O90.keep Kc95 (allS (show n0 ≤ r_83 by omega) all0)
    have sz97 : h89.size ≤ h95.size := Kc95.1
    have K98 := Keep.trans K92 Kc95 (allS (Or.inr (show h0.size ≤ r_83 by omega)) all0)
    have ltc95_0 : @LT.lt Nat _ r_83 h95.size := c95_0.lt
    show own_Goes p e below (T95.setTop (mkF m 208 #[vR xa, vR xl, vR xm, vI 1, vR b33, vI 1, vR r_48, vI u2] [])) _
    refine r_V X95 hx hby hret hlk d22_208 e95 ?_
    have f99 := (((Fw77.keep Kc83 nin0).other W89 (Or.inr (slot_ne (Or.inr (wh hw 273 rfl)) (Or.inr (wh hw 288 rfl)) (by decide) (t := .int) (t' := (.array .int)) (by decide) (by decide)))).keep Kc95 (ninS (nE xa r_83 (by omega)) nin0))
    have GA : own_RC Z h95 xa (((own_c1 u0) + (own_c1 u1)) + (own_c1 u2)) := by unfold own_RC; rw [own_cnt (u0 := u0) (u1 := u1) (u2 := u2) (k := 1) (by intro c0_ c1_ c2_ h0_ h1_ h2_; have e_ : (1 : Int32).toInt = 1 := (by decide); omega)]; exact f99
    exact ⟨N95, K98, rfl, GA⟩
  have C_3_2 : ∀ (y0 : Int32) (y1 : Int32) (T_ : State) (h_ : Heap) (L_ : List Loc), (y0.toInt = u0.toInt ∧ 1 ≤ u0.toInt ∧ y1.toInt = u1.toInt ∧ 1 ≤ u1.toInt ∧ u2.toInt ≤ 0) ∨ (y0.toInt = u0.toInt ∧ 1 ≤ u0.toInt ∧ y1.toInt = u2.toInt ∧ 1 ≤ u2.toInt ∧ u1.toInt ≤ 0) ∨ (y0.toInt = u1.toInt ∧ 1 ≤ u1.toInt ∧ y1.toInt = u2.toInt ∧ 1 ≤ u2.toInt ∧ u0.toInt ≤ 0) → Stand p l e ({ frames := 4, cells := 6, slots := 12, locals := 79 } : Room) s m #[.ref xa, .ref xl, .ref xm] below meth c T_ L_ 5 9 ∧ T_.heap = h_ ∧ Fr n0 L_ ∧ Old Z n0 h_ ∧ Keep h0 h_ [xa, xm] ∧ Exa Z h_ xa "com/example/dolm/dolm/eval/JudgedRanking" ∧ Fld Z h_ xa "com/example/dolm/dolm/eval/JudgedRanking" "relevantCount" "I" (.int 0) ∧ Fld Z h_ xa "com/example/dolm/dolm/eval/JudgedRanking" "judgedGains" "[I" .null ∧ Exa Z h_ r_48 "java/util/HashMap$ValueIterator" ∧ Fld Z h_ r_48 "java/util/HashMap$HashIterator" "next" "Ljava/util/HashMap$Node;" .null ∧ Exa Z h_ b33 "[I" ∧ Arv Z h_ b33 k33 .int (3 : Int32) [.int y0, .int y1, .int 0] (.int 0) → own_Goes p e below (T_.setTop (mkF m 133 #[vR xa, vR xl, vR xm, vI 2, vR b33, vI 2, vR r_48, vI u2] [])) (own_PostN s (Q_own_jr3 Z xa xl xm xt xk x1 x2 x3 v0 v1 v2 u0 u1 u2 h0 n0) ({ frames := 4, cells := 6, slots := 12, locals := 79 } : Room).cells ({ frames := 4, cells := 6, slots := 12, locals := 79 } : Room).slots) := by
    intro y0 y1 T_ h_ L_ hR ⟨X_, e_, N_, O_, K_, f_0, f_1, f_2, f_3, f_4, f_5, f_6⟩
    have lt_0 : @LT.lt Nat _ xa h_.size := f_0.lt
    have lt_3 : @LT.lt Nat _ r_48 h_.size := f_3.lt
    have lt_5 : @LT.lt Nat _ b33 h_.size := f_5.lt
    have lt_6 : @LT.lt Nat _ b33 h_.size := f_6.lt
    show own_Goes p e below (T_.setTop (mkF m 133 #[vR xa, vR xl, vR xm, vI 2, vR b33, vI 2, vR r_48, vI u2] [])) _
    refine q_aload X_ hx hby d22_133 rfl rfl ?_
    refine k_I X_ hx hby hZ hown (wh hw 238 rfl) (wh hw 239 rfl) (wh hw 240 rfl) (wh hw 241 rfl) (wh hw 242 rfl) (wh hw 243 rfl) (wh hw 244 rfl) (wh hw 245 rfl) (W := 0) (own_hasNext0 l Z a0 hw [] r_48 h_ n0 O_ f_4) (wh hw 246 rfl) (wh hw 222 rfl) e_ f_3  hml (argsL := []) (rest := []) own_pd_4 d22_135 (fun _ T100 L100 X100 hQ100 => ?_)
    obtain ⟨Nc100, e100, rfl⟩ := hQ100
    have N100 := Fr.app N_ Nc100
    refine q_ifYes (pc := 140) X100 hx hby d22_140 (pc' := 185) ((if0 _ _).trans (teq (show ((0 : Int32) = (0 : Int32)) from by decide)).1) (by decide) (by decide) ?_
    refine q_aloadN X100 hx hby d22_185 rfl rfl ?_
    refine q_iloadN X100 hx hby d22_186 rfl ?_
    refine qP X100 hx hby hZ hown (host := "") (Or.inl (wh hw 272 rfl)) Via.refl e100 f_1 f_0 (Or.inr ⟨(wh hw 273 rfl), rfl, hnm⟩) (wh hw 149 rfl) (ty := .int) d22_187 (fun T101 h101 X101 e101 W101 => ?_)
    have O102 := O_.wr W101 (show n0 ≤ xa by omega)
    have sz103 : h101.size = h_.size := Wr.size W101
    have K104 := K_.wr W101 (Or.inl (List.mem_of_getElem? (i := 0) rfl))
    have N101 := Fr.snoc X101 N100 (show n0 ≤ xa by omega)
    have Fw101 := f_1.same W101
    refine q_aloadN X101 hx hby d22_190 rfl rfl ?_
    refine q_aload X101 hx hby d22_191 rfl rfl ?_
    refine q_iload X101 hx hby d22_193 rfl ?_
    have f105 := (f_6.other W101 (nE b33 xa (by omega)))
    have V106 : Arv Z h101 b33 k33 .int (3 : Int32) [.int y0, .int y1] (.int 0) := f105.pad (fun i => (pad_rep [.int y0, .int y1] (.int 0) 1 i).symm)
    refine k_S X101 hx hby hZ hown (wh hw 274 rfl) (wh hw 275 rfl) (W := 1) (own_copyS2 l Z a0 hw [] b33 k33 (3 : Int32) y0 y1 h101 n0 O102 V106 (show ¬ (2 : Int32) = (3 : Int32) by first | assumption | omega | decide) (show (2 : Int32) < (3 : Int32) by first | assumption | omega | decide)) (wh hw 277 rfl) (wh hw 276 rfl) e101  hml (argsL := [.ref b33, .int 2]) (rest := [.ref xa]) own_pd_22 d22_195 (fun _ T107 L107 X107 hQ107 => ?_)
    obtain ⟨h107, e107⟩ : ∃ z, T107.heap = z := ⟨_, rfl⟩
    rw [e107] at hQ107
    obtain ⟨Nc107, Kc107, r_107, rk_107, rfl, c107_0, c107_1⟩ := hQ107
    have N107 := Fr.app N101 Nc107
    have O108 := O102.keep Kc107 all0
    have sz109 : h101.size ≤ h107.size := Kc107.1
    have K110 := Keep.trans K104 Kc107 all0
    have ltc107_0 : @LT.lt Nat _ r_107 h107.size := c107_0.lt
    have f111 := ((f_2.other W101 (Or.inr (slot_ne (Or.inr (wh hw 288 rfl)) (Or.inr (wh hw 273 rfl)) (by decide) (t := (.array .int)) (t' := .int) (by decide) (by decide)))).keep Kc107 nin0)
    have f112 := ((f_0.wr W101).keep Kc107)
    refine qP X107 hx hby hZ hown (host := "") (Or.inl (wh hw 287 rfl)) Via.refl e107 f111 f112 (Or.inr ⟨(wh hw 288 rfl), rfl, hnm⟩) (wh hw 149 rfl) (ty := (.array .int)) d22_198 (fun T113 h113 X113 e113 W113 => ?_)
    have O114 := O108.wr W113 (show n0 ≤ xa by omega)
    have sz115 : h113.size = h107.size := Wr.size W113
    have K116 := K110.wr W113 (Or.inl (List.mem_of_getElem? (i := 0) rfl))
    have N113 := Fr.snoc X113 N107 (show n0 ≤ xa by omega)
    have Fw113 := f111.same W113
    refine q_aloadN X113 hx hby d22_201 rfl rfl ?_
    refine qG X113 hx hby hZ hown (wh hw 287 rfl) e113 Fw113 d22_202 (fun T117 X117 e117 => ?_)
    have f118 := (c107_0.other W113 (nE r_107 xa (by omega)))
    refine k_S X117 hx hby hZ hown (wh hw 289 rfl) (wh hw 290 rfl) (W := 0) (own_sort2 l Z a0 hw [] r_107 rk_107 y0 y1 h113 n0 O114 f118 (show n0 ≤ r_107 by first | assumption | omega | decide)) (wh hw 291 rfl) (wh hw 276 rfl) e117  hml (argsL := [.ref r_107]) (rest := []) own_pd_23 d22_205 (fun _ T119 L119 X119 hQ119 => ?_)
    obtain ⟨h119, e119⟩ : ∃ z, T119.heap = z := ⟨_, rfl⟩
    rw [e119] at hQ119
    obtain ⟨Nc119, Kc119, z0_119, z1_119, rfl, c119_0, c119_1⟩ := hQ119
    have N119 := Fr.app N113 Nc119
    have O120 := O114.keep Kc119 (allS (show n0 ≤ r_107 by omega) all0)
    have sz121 : h113.size ≤ h119.size := Kc119.1
    have K122 := Keep.trans K116 Kc119 (allS (Or.inr (show h0.size ≤ r_107 by omega)) all0)
    have ltc119_0 : @LT.lt Nat _ r_107 h119.size := c119_0.lt
    show own_Goes p e below (T119.setTop (mkF m 208 #[vR xa, vR xl, vR xm, vI 2, vR b33, vI 2, vR r_48, vI u2] [])) _
    refine r_V X119 hx hby hret hlk d22_208 e119 ?_
    have f123 := (((Fw101.keep Kc107 nin0).other W113 (Or.inr (slot_ne (Or.inr (wh hw 273 rfl)) (Or.inr (wh hw 288 rfl)) (by decide) (t := .int) (t' := (.array .int)) (by decide) (by decide)))).keep Kc119 (ninS (nE xa r_107 (by omega)) nin0))
    have GA : own_RC Z h119 xa (((own_c1 u0) + (own_c1 u1)) + (own_c1 u2)) := by unfold own_RC; rw [own_cnt (u0 := u0) (u1 := u1) (u2 := u2) (k := 2) (by intro c0_ c1_ c2_ h0_ h1_ h2_; have e_ : (2 : Int32).toInt = 2 := (by decide); omega)]; exact f123
    exact ⟨N119, K122, rfl, GA⟩
  have C_3_3 : ∀ (y0 : Int32) (y1 : Int32) (y2 : Int32) (T_ : State) (h_ : Heap) (L_ : List Loc), (y0.toInt = u0.toInt ∧ 1 ≤ u0.toInt ∧ y1.toInt = u1.toInt ∧ 1 ≤ u1.toInt ∧ y2.toInt = u2.toInt ∧ 1 ≤ u2.toInt) → Stand p l e ({ frames := 4, cells := 6, slots := 12, locals := 79 } : Room) s m #[.ref xa, .ref xl, .ref xm] below meth c T_ L_ 5 9 ∧ T_.heap = h_ ∧ Fr n0 L_ ∧ Old Z n0 h_ ∧ Keep h0 h_ [xa, xm] ∧ Exa Z h_ xa "com/example/dolm/dolm/eval/JudgedRanking" ∧ Fld Z h_ xa "com/example/dolm/dolm/eval/JudgedRanking" "relevantCount" "I" (.int 0) ∧ Fld Z h_ xa "com/example/dolm/dolm/eval/JudgedRanking" "judgedGains" "[I" .null ∧ Exa Z h_ r_48 "java/util/HashMap$ValueIterator" ∧ Fld Z h_ r_48 "java/util/HashMap$HashIterator" "next" "Ljava/util/HashMap$Node;" .null ∧ Exa Z h_ b33 "[I" ∧ Arv Z h_ b33 k33 .int (3 : Int32) [.int y0, .int y1, .int y2] (.int 0) → own_Goes p e below (T_.setTop (mkF m 133 #[vR xa, vR xl, vR xm, vI 3, vR b33, vI 3, vR r_48, vI u2] [])) (own_PostN s (Q_own_jr3 Z xa xl xm xt xk x1 x2 x3 v0 v1 v2 u0 u1 u2 h0 n0) ({ frames := 4, cells := 6, slots := 12, locals := 79 } : Room).cells ({ frames := 4, cells := 6, slots := 12, locals := 79 } : Room).slots) := by
    intro y0 y1 y2 T_ h_ L_ hR ⟨X_, e_, N_, O_, K_, f_0, f_1, f_2, f_3, f_4, f_5, f_6⟩
    have lt_0 : @LT.lt Nat _ xa h_.size := f_0.lt
    have lt_3 : @LT.lt Nat _ r_48 h_.size := f_3.lt
    have lt_5 : @LT.lt Nat _ b33 h_.size := f_5.lt
    have lt_6 : @LT.lt Nat _ b33 h_.size := f_6.lt
    show own_Goes p e below (T_.setTop (mkF m 133 #[vR xa, vR xl, vR xm, vI 3, vR b33, vI 3, vR r_48, vI u2] [])) _
    refine q_aload X_ hx hby d22_133 rfl rfl ?_
    refine k_I X_ hx hby hZ hown (wh hw 238 rfl) (wh hw 239 rfl) (wh hw 240 rfl) (wh hw 241 rfl) (wh hw 242 rfl) (wh hw 243 rfl) (wh hw 244 rfl) (wh hw 245 rfl) (W := 0) (own_hasNext0 l Z a0 hw [] r_48 h_ n0 O_ f_4) (wh hw 246 rfl) (wh hw 222 rfl) e_ f_3  hml (argsL := []) (rest := []) own_pd_4 d22_135 (fun _ T124 L124 X124 hQ124 => ?_)
    obtain ⟨Nc124, e124, rfl⟩ := hQ124
    have N124 := Fr.app N_ Nc124
    refine q_ifYes (pc := 140) X124 hx hby d22_140 (pc' := 185) ((if0 _ _).trans (teq (show ((0 : Int32) = (0 : Int32)) from by decide)).1) (by decide) (by decide) ?_
    refine q_aloadN X124 hx hby d22_185 rfl rfl ?_
    refine q_iloadN X124 hx hby d22_186 rfl ?_
    refine qP X124 hx hby hZ hown (host := "") (Or.inl (wh hw 272 rfl)) Via.refl e124 f_1 f_0 (Or.inr ⟨(wh hw 273 rfl), rfl, hnm⟩) (wh hw 149 rfl) (ty := .int) d22_187 (fun T125 h125 X125 e125 W125 => ?_)
    have O126 := O_.wr W125 (show n0 ≤ xa by omega)
    have sz127 : h125.size = h_.size := Wr.size W125
    have K128 := K_.wr W125 (Or.inl (List.mem_of_getElem? (i := 0) rfl))
    have N125 := Fr.snoc X125 N124 (show n0 ≤ xa by omega)
    have Fw125 := f_1.same W125
    refine q_aloadN X125 hx hby d22_190 rfl rfl ?_
    refine q_aload X125 hx hby d22_191 rfl rfl ?_
    refine q_iload X125 hx hby d22_193 rfl ?_
    have f129 := (f_5.wr W125)
    have f130 := (f_6.other W125 (nE b33 xa (by omega)))
    refine k_S X125 hx hby hZ hown (wh hw 274 rfl) (wh hw 275 rfl) (W := 1) (own_copy3 l Z a0 hw [] b33 k33 y0 y1 y2 h125 n0 O126 f129 f130) (wh hw 277 rfl) (wh hw 276 rfl) e125  hml (argsL := [.ref b33, .int 3]) (rest := [.ref xa]) own_pd_22 d22_195 (fun _ T131 L131 X131 hQ131 => ?_)
    obtain ⟨h131, e131⟩ : ∃ z, T131.heap = z := ⟨_, rfl⟩
    rw [e131] at hQ131
    obtain ⟨Nc131, Kc131, r_131, rk_131, rfl, c131_0, c131_1⟩ := hQ131
    have N131 := Fr.app N125 Nc131
    have O132 := O126.keep Kc131 all0
    have sz133 : h125.size ≤ h131.size := Kc131.1
    have K134 := Keep.trans K128 Kc131 all0
    have ltc131_0 : @LT.lt Nat _ r_131 h131.size := c131_0.lt
    have f135 := ((f_2.other W125 (Or.inr (slot_ne (Or.inr (wh hw 288 rfl)) (Or.inr (wh hw 273 rfl)) (by decide) (t := (.array .int)) (t' := .int) (by decide) (by decide)))).keep Kc131 nin0)
    have f136 := ((f_0.wr W125).keep Kc131)
    refine qP X131 hx hby hZ hown (host := "") (Or.inl (wh hw 287 rfl)) Via.refl e131 f135 f136 (Or.inr ⟨(wh hw 288 rfl), rfl, hnm⟩) (wh hw 149 rfl) (ty := (.array .int)) d22_198 (fun T137 h137 X137 e137 W137 => ?_)
    have O138 := O132.wr W137 (show n0 ≤ xa by omega)
    have sz139 : h137.size = h131.size := Wr.size W137
    have K140 := K134.wr W137 (Or.inl (List.mem_of_getElem? (i := 0) rfl))
    have N137 := Fr.snoc X137 N131 (show n0 ≤ xa by omega)
    have Fw137 := f135.same W137
    refine q_aloadN X137 hx hby d22_201 rfl rfl ?_
    refine qG X137 hx hby hZ hown (wh hw 287 rfl) e137 Fw137 d22_202 (fun T141 X141 e141 => ?_)
    have f142 := (c131_0.other W137 (nE r_131 xa (by omega)))
    refine k_S X141 hx hby hZ hown (wh hw 289 rfl) (wh hw 290 rfl) (W := 0) (own_sort3 l Z a0 hw [] r_131 rk_131 y0 y1 y2 h137 n0 O138 f142 (show n0 ≤ r_131 by first | assumption | omega | decide)) (wh hw 291 rfl) (wh hw 276 rfl) e141  hml (argsL := [.ref r_131]) (rest := []) own_pd_23 d22_205 (fun _ T143 L143 X143 hQ143 => ?_)
    obtain ⟨h143, e143⟩ : ∃ z, T143.heap = z := ⟨_, rfl⟩
    rw [e143] at hQ143
    obtain ⟨Nc143, Kc143, z0_143, z1_143, z2_143, rfl, c143_0, c143_1⟩ := hQ143
    have N143 := Fr.app N137 Nc143
    have O144 := O138.keep Kc143 (allS (show n0 ≤ r_131 by omega) all0)
    have sz145 : h137.size ≤ h143.size := Kc143.1
    have K146 := Keep.trans K140 Kc143 (allS (Or.inr (show h0.size ≤ r_131 by omega)) all0)
    have ltc143_0 : @LT.lt Nat _ r_131 h143.size := c143_0.lt
    show own_Goes p e below (T143.setTop (mkF m 208 #[vR xa, vR xl, vR xm, vI 3, vR b33, vI 3, vR r_48, vI u2] [])) _
    refine r_V X143 hx hby hret hlk d22_208 e143 ?_
    have f147 := (((Fw125.keep Kc131 nin0).other W137 (Or.inr (slot_ne (Or.inr (wh hw 273 rfl)) (Or.inr (wh hw 288 rfl)) (by decide) (t := .int) (t' := (.array .int)) (by decide) (by decide)))).keep Kc143 (ninS (nE xa r_131 (by omega)) nin0))
    have GA : own_RC Z h143 xa (((own_c1 u0) + (own_c1 u1)) + (own_c1 u2)) := by unfold own_RC; rw [own_cnt (u0 := u0) (u1 := u1) (u2 := u2) (k := 3) (by intro c0_ c1_ c2_ h0_ h1_ h2_; have e_ : (3 : Int32).toInt = 3 := (by decide); omega)]; exact f147
    exact ⟨N143, K146, rfl, GA⟩
  have C_2_0 : ∀ (T_ : State) (h_ : Heap) (L_ : List Loc), (u0.toInt ≤ 0 ∧ u1.toInt ≤ 0) → Stand p l e ({ frames := 4, cells := 6, slots := 12, locals := 79 } : Room) s m #[.ref xa, .ref xl, .ref xm] below meth c T_ L_ 5 9 ∧ T_.heap = h_ ∧ Fr n0 L_ ∧ Old Z n0 h_ ∧ Keep h0 h_ [xa, xm] ∧ Exa Z h_ xa "com/example/dolm/dolm/eval/JudgedRanking" ∧ Fld Z h_ xa "com/example/dolm/dolm/eval/JudgedRanking" "relevantCount" "I" (.int 0) ∧ Fld Z h_ xa "com/example/dolm/dolm/eval/JudgedRanking" "judgedGains" "[I" .null ∧ Exa Z h_ r_48 "java/util/HashMap$ValueIterator" ∧ Fld Z h_ r_48 "java/util/HashMap$HashIterator" "next" "Ljava/util/HashMap$Node;" (.ref x3) ∧ Fld Z h_ r_48 "java/util/HashMap$HashIterator" "this$0" "Ljava/util/HashMap;" (.ref xm) ∧ Fld Z h_ r_48 "java/util/HashMap$HashIterator" "expectedModCount" "I" (.int 3) ∧ Fld Z h_ r_48 "java/util/HashMap$HashIterator" "current" "Ljava/util/HashMap$Node;" (.ref x2) ∧ Fld Z h_ r_48 "java/util/HashMap$HashIterator" "index" "I" (.int (((2 : Int32) + (1 : Int32)) + (1 : Int32))) ∧ Fld Z h_ xm "java/util/HashMap" "modCount" "I" (.int 3) ∧ Fld Z h_ xm "java/util/HashMap" "table" "[Ljava/util/HashMap$Node;" (.ref xt) ∧ Arv Z h_ xt xk (.object "java/util/HashMap$Node") (16 : Int32) [.null, .ref x1, .ref x2, .ref x3, .null, .null, .null, .null, .null, .null, .null, .null, .null, .null, .null, .null] .null ∧ Fld Z h_ x3 "java/util/HashMap$Node" "value" "Ljava/lang/Object;" (.ref v2) ∧ Fld Z h_ x3 "java/util/HashMap$Node" "next" "Ljava/util/HashMap$Node;" .null ∧ Exa Z h_ v2 "java/lang/Integer" ∧ Fld Z h_ v2 "java/lang/Integer" "value" "I" (.int u2) ∧ Exa Z h_ b33 "[I" ∧ Arv Z h_ b33 k33 .int (3 : Int32) [.int 0, .int 0, .int 0] (.int 0) → own_Goes p e below (T_.setTop (mkF m 133 #[vR xa, vR xl, vR xm, vI 0, vR b33, vI 0, vR r_48, vI u1] [])) (own_PostN s (Q_own_jr3 Z xa xl xm xt xk x1 x2 x3 v0 v1 v2 u0 u1 u2 h0 n0) ({ frames := 4, cells := 6, slots := 12, locals := 79 } : Room).cells ({ frames := 4, cells := 6, slots := 12, locals := 79 } : Room).slots) := by
    intro T_ h_ L_ hR ⟨X_, e_, N_, O_, K_, f_0, f_1, f_2, f_3, f_4, f_5, f_6, f_7, f_8, f_9, f_10, f_11, f_12, f_13, f_14, f_15, f_16, f_17⟩
    have lt_0 : @LT.lt Nat _ xa h_.size := f_0.lt
    have lt_3 : @LT.lt Nat _ r_48 h_.size := f_3.lt
    have lt_11 : @LT.lt Nat _ xt h_.size := f_11.lt
    have lt_14 : @LT.lt Nat _ v2 h_.size := f_14.lt
    have lt_16 : @LT.lt Nat _ b33 h_.size := f_16.lt
    have lt_17 : @LT.lt Nat _ b33 h_.size := f_17.lt
    show own_Goes p e below (T_.setTop (mkF m 133 #[vR xa, vR xl, vR xm, vI 0, vR b33, vI 0, vR r_48, vI u1] [])) _
    refine q_aload X_ hx hby d22_133 rfl rfl ?_
    refine k_I X_ hx hby hZ hown (wh hw 238 rfl) (wh hw 239 rfl) (wh hw 240 rfl) (wh hw 241 rfl) (wh hw 242 rfl) (wh hw 243 rfl) (wh hw 244 rfl) (wh hw 245 rfl) (W := 0) (own_hasNext1 l Z a0 hw [] r_48 x3 h_ n0 O_ f_4) (wh hw 246 rfl) (wh hw 222 rfl) e_ f_3  hml (argsL := []) (rest := []) own_pd_4 d22_135 (fun _ T148 L148 X148 hQ148 => ?_)
    obtain ⟨Nc148, e148, rfl⟩ := hQ148
    have N148 := Fr.app N_ Nc148
    refine q_ifNo X148 hx hby d22_140 ((if0 _ _).trans (feq (show ¬ ((1 : Int32) = (0 : Int32)) from by decide)).1) ?_
    refine q_aload X148 hx hby d22_143 rfl rfl ?_
    refine k_I X148 hx hby hZ hown (wh hw 247 rfl) (wh hw 248 rfl) (wh hw 249 rfl) (wh hw 250 rfl) (wh hw 251 rfl) (wh hw 252 rfl) (wh hw 253 rfl) (wh hw 245 rfl) (W := 0) (own_nextE l Z a0 hw [] r_48 xm (3 : Int32) xt xk (Value.ref x2) (((2 : Int32) + (1 : Int32)) + (1 : Int32)) x3 x1 (Value.ref x2) (Value.ref x3) v2 h_ n0 O_ f_3 (show n0 ≤ r_48 by first | assumption | omega | decide) f_5 f_6 f_4 f_7 f_8 f_9 f_10 f_11 f_13 (show @LT.lt Nat _ xm r_48 by first | assumption | omega | decide) (show @LT.lt Nat _ xt r_48 by first | assumption | omega | decide) (show @LT.lt Nat _ x3 r_48 by first | assumption | omega | decide) f_12 (show ((((2 : Int32) + (1 : Int32)) + (1 : Int32)) = (2 : Int32) ∧ (Value.ref x2) = Value.null ∧ (Value.ref x3) = Value.null) ∨ ((((2 : Int32) + (1 : Int32)) + (1 : Int32)) = (3 : Int32) ∧ (Value.ref x3) = Value.null) ∨ (((2 : Int32) + (1 : Int32)) + (1 : Int32)) = (4 : Int32) from (by first | exact Or.inl ⟨by decide, rfl, rfl⟩ | exact Or.inr (Or.inl ⟨by decide, rfl⟩) | exact Or.inr (Or.inr (by decide)) | assumption))) (wh hw 254 rfl) (wh hw 213 rfl) e148 f_3  hml (argsL := []) (rest := []) own_pd_24 d22_145 (fun _ T149 L149 X149 hQ149 => ?_)
    obtain ⟨h149, e149⟩ : ∃ z, T149.heap = z := ⟨_, rfl⟩
    rw [e149] at hQ149
    obtain ⟨Nc149, Kc149, rfl, c149_0, c149_1, c149_2, c149_3, c149_4⟩ := hQ149
    have N149 := Fr.app N148 Nc149
    have O150 := O_.keep Kc149 (allS (show n0 ≤ r_48 by omega) all0)
    have sz151 : h_.size ≤ h149.size := Kc149.1
    have K152 := Keep.trans K_ Kc149 (allS (Or.inr (show h0.size ≤ r_48 by omega)) all0)
    have f153 := (f_14.keep Kc149)
    obtain ⟨T154, X154, e154, st154⟩ := castY X149 hx hZ hown (wh hw 263 rfl) e149 (Ins.self f153) (g := (mkF m 150 #[vR xa, vR xl, vR xm, vI 0, vR b33, vI 0, vR r_48, vI u1] [.ref v2])) rfl rfl (hb hby d22_150)
    refine gg st154 ?_
    have f155 := (f_15.keep Kc149 (ninS (nE v2 r_48 (by omega)) nin0))
    refine k_V X154 hx hby hZ hown (wh hw 265 rfl) (wh hw 266 rfl) (wh hw 268 rfl) (wh hw 267 rfl) (W := 0) (own_intValue l Z a0 hw [] v2 u2 h149 n0 O150 f155) (wh hw 269 rfl) (wh hw 68 rfl) e154 f153  hml (argsL := []) (rest := []) own_pd_6 d22_153 (fun _ T156 L156 X156 hQ156 => ?_)
    obtain ⟨Nc156, e156, rfl⟩ := hQ156
    have N156 := Fr.app N149 Nc156
    refine q_istore X156 hx hby d22_156 (l' := #[vR xa, vR xl, vR xm, vI 0, vR b33, vI 0, vR r_48, vI u2]) rfl ?_
    refine q_iload X156 hx hby d22_158 rfl ?_
    refine q_iconst X156 hx hby d22_160 ?_
    by_cases hc157 : u2 < (1 : Int32)
    · refine q_icmpYes (pc := 161) X156 hx hby d22_161 (pc' := 167) (tlt hc157).1 (by decide) (by decide) ?_
      refine q_iload X156 hx hby d22_167 rfl ?_
      refine q_ifYes (pc := 169) X156 hx hby d22_169 (pc' := 182) ((if0 _ _).trans (flt (show ¬ ((0 : Int32) < u2) from (own_posF hc157))).2.2.2) (by decide) (by decide) ?_
      refine q_goto (pc := 182) X156 hx hby d22_182 (pc' := 133) (by decide) (by decide) ?_
      show own_Goes p e below (T156.setTop (mkF m 133 #[vR xa, vR xl, vR xm, vI 0, vR b33, vI 0, vR r_48, vI u2] [])) _
      have f158 := (f_0.keep Kc149)
      have f159 := (f_1.keep Kc149 (ninS (nE xa r_48 (by omega)) nin0))
      have f160 := (f_2.keep Kc149 (ninS (nE xa r_48 (by omega)) nin0))
      have f161 := (f_3.keep Kc149)
      have f162 := (f_16.keep Kc149)
      have f163 := (f_17.keep Kc149 (ninS (nE b33 r_48 (by omega)) nin0))
      exact C_3_0 _ _ _ (by have := own_ltI hc157; have := own_i1; omega) ⟨X156, e156, N156, O150, K152, f158, f159, f160, f161, c149_2, f162, f163⟩
    · refine q_icmpNo X156 hx hby d22_161 (flt hc157).1 ?_
      refine gg (fun t k => XS.iinc X156.here hx rfl (hb hby d22_164) rfl (l' := #[vR xa, vR xl, vR xm, vI ((0 : Int32) + (1 : Int32)), vR b33, vI 0, vR r_48, vI u2]) rfl k) ?_
      show own_Goes p e below (T156.setTop (mkF m 167 #[vR xa, vR xl, vR xm, vI ((0 : Int32) + (1 : Int32)), vR b33, vI 0, vR r_48, vI u2] [])) _
      rw [show ((0 : Int32) + (1 : Int32)) = (1 : Int32) from by decide]
      refine q_iload X156 hx hby d22_167 rfl ?_
      refine q_ifNo X156 hx hby d22_169 ((if0 _ _).trans (tlt (show ((0 : Int32) < u2) from (own_posT hc157))).2.2.2) ?_
      refine q_aload X156 hx hby d22_172 rfl rfl ?_
      refine q_iload X156 hx hby d22_174 rfl ?_
      refine q_iload X156 hx hby d22_176 rfl ?_
      have f164 := (f_17.keep Kc149 (ninS (nE b33 r_48 (by omega)) nin0))
      refine q_stI X156 hx hby hZ e156 f164 0 d22_178 (fun T166 h166 X166 e166 W166 V166 => ?_)
      have O167 := O150.wr W166 (show n0 ≤ b33 by omega)
      have sz168 : h166.size = h149.size := Wr.size W166
      have K169 := K152.wr W166 (Or.inr (show h0.size ≤ b33 by omega))
      have N166 := Fr.snoc X166 N156 (show n0 ≤ b33 by omega)
      have V166 : Arv Z h166 b33 k33 .int (3 : Int32) [.int u2, .int 0, .int 0] (.int 0) := V166
      refine gg (fun t k => XS.iinc X166.here hx rfl (hb hby d22_179) rfl (l' := #[vR xa, vR xl, vR xm, vI 1, vR b33, vI ((0 : Int32) + (1 : Int32)), vR r_48, vI u2]) rfl k) ?_
      show own_Goes p e below (T166.setTop (mkF m 182 #[vR xa, vR xl, vR xm, vI 1, vR b33, vI ((0 : Int32) + (1 : Int32)), vR r_48, vI u2] [])) _
      rw [show ((0 : Int32) + (1 : Int32)) = (1 : Int32) from by decide]
      refine q_goto (pc := 182) X166 hx hby d22_182 (pc' := 133) (by decide) (by decide) ?_
      have f170 := ((f_0.keep Kc149).wr W166)
      have f171 := ((f_1.keep Kc149 (ninS (nE xa r_48 (by omega)) nin0)).other W166 (Or.inl (nE xa b33 (by omega))))
      have f172 := ((f_2.keep Kc149 (ninS (nE xa r_48 (by omega)) nin0)).other W166 (Or.inl (nE xa b33 (by omega))))
      have f173 := ((f_3.keep Kc149).wr W166)
      have f174 := (c149_2.other W166 (Or.inl (nE r_48 b33 (by omega))))
      have f175 := ((f_16.keep Kc149).wr W166)
      exact C_3_1 u2 _ _ _ (by have := own_nltI hc157; have := own_i1; omega) ⟨X166, e166, N166, O167, K169, f170, f171, f172, f173, f174, f175, V166⟩
  have C_2_1 : ∀ (y0 : Int32) (T_ : State) (h_ : Heap) (L_ : List Loc), (y0.toInt = u0.toInt ∧ 1 ≤ u0.toInt ∧ u1.toInt ≤ 0) ∨ (y0.toInt = u1.toInt ∧ 1 ≤ u1.toInt ∧ u0.toInt ≤ 0) → Stand p l e ({ frames := 4, cells := 6, slots := 12, locals := 79 } : Room) s m #[.ref xa, .ref xl, .ref xm] below meth c T_ L_ 5 9 ∧ T_.heap = h_ ∧ Fr n0 L_ ∧ Old Z n0 h_ ∧ Keep h0 h_ [xa, xm] ∧ Exa Z h_ xa "com/example/dolm/dolm/eval/JudgedRanking" ∧ Fld Z h_ xa "com/example/dolm/dolm/eval/JudgedRanking" "relevantCount" "I" (.int 0) ∧ Fld Z h_ xa "com/example/dolm/dolm/eval/JudgedRanking" "judgedGains" "[I" .null ∧ Exa Z h_ r_48 "java/util/HashMap$ValueIterator" ∧ Fld Z h_ r_48 "java/util/HashMap$HashIterator" "next" "Ljava/util/HashMap$Node;" (.ref x3) ∧ Fld Z h_ r_48 "java/util/HashMap$HashIterator" "this$0" "Ljava/util/HashMap;" (.ref xm) ∧ Fld Z h_ r_48 "java/util/HashMap$HashIterator" "expectedModCount" "I" (.int 3) ∧ Fld Z h_ r_48 "java/util/HashMap$HashIterator" "current" "Ljava/util/HashMap$Node;" (.ref x2) ∧ Fld Z h_ r_48 "java/util/HashMap$HashIterator" "index" "I" (.int (((2 : Int32) + (1 : Int32)) + (1 : Int32))) ∧ Fld Z h_ xm "java/util/HashMap" "modCount" "I" (.int 3) ∧ Fld Z h_ xm "java/util/HashMap" "table" "[Ljava/util/HashMap$Node;" (.ref xt) ∧ Arv Z h_ xt xk (.object "java/util/HashMap$Node") (16 : Int32) [.null, .ref x1, .ref x2, .ref x3, .null, .null, .null, .null, .null, .null, .null, .null, .null, .null, .null, .null] .null ∧ Fld Z h_ x3 "java/util/HashMap$Node" "value" "Ljava/lang/Object;" (.ref v2) ∧ Fld Z h_ x3 "java/util/HashMap$Node" "next" "Ljava/util/HashMap$Node;" .null ∧ Exa Z h_ v2 "java/lang/Integer" ∧ Fld Z h_ v2 "java/lang/Integer" "value" "I" (.int u2) ∧ Exa Z h_ b33 "[I" ∧ Arv Z h_ b33 k33 .int (3 : Int32) [.int y0, .int 0, .int 0] (.int 0) → own_Goes p e below (T_.setTop (mkF m 133 #[vR xa, vR xl, vR xm, vI 1, vR b33, vI 1, vR r_48, vI u1] [])) (own_PostN s (Q_own_jr3 Z xa xl xm xt xk x1 x2 x3 v0 v1 v2 u0 u1 u2 h0 n0) ({ frames := 4, cells := 6, slots := 12, locals := 79 } : Room).cells ({ frames := 4, cells := 6, slots := 12, locals := 79 } : Room).slots) := by
    intro y0 T_ h_ L_ hR ⟨X_, e_, N_, O_, K_, f_0, f_1, f_2, f_3, f_4, f_5, f_6, f_7, f_8, f_9, f_10, f_11, f_12, f_13, f_14, f_15, f_16, f_17⟩
    have lt_0 : @LT.lt Nat _ xa h_.size := f_0.lt
    have lt_3 : @LT.lt Nat _ r_48 h_.size := f_3.lt
    have lt_11 : @LT.lt Nat _ xt h_.size := f_11.lt
    have lt_14 : @LT.lt Nat _ v2 h_.size := f_14.lt
    have lt_16 : @LT.lt Nat _ b33 h_.size := f_16.lt
    have lt_17 : @LT.lt Nat _ b33 h_.size := f_17.lt
    show own_Goes p e below (T_.setTop (mkF m 133 #[vR xa, vR xl, vR xm, vI 1, vR b33, vI 1, vR r_48, vI u1] [])) _
    refine q_aload X_ hx hby d22_133 rfl rfl ?_
    refine k_I X_ hx hby hZ hown (wh hw 238 rfl) (wh hw 239 rfl) (wh hw 240 rfl) (wh hw 241 rfl) (wh hw 242 rfl) (wh hw 243 rfl) (wh hw 244 rfl) (wh hw 245 rfl) (W := 0) (own_hasNext1 l Z a0 hw [] r_48 x3 h_ n0 O_ f_4) (wh hw 246 rfl) (wh hw 222 rfl) e_ f_3  hml (argsL := []) (rest := []) own_pd_4 d22_135 (fun _ T176 L176 X176 hQ176 => ?_)
    obtain ⟨Nc176, e176, rfl⟩ := hQ176
    have N176 := Fr.app N_ Nc176
    refine q_ifNo X176 hx hby d22_140 ((if0 _ _).trans (feq (show ¬ ((1 : Int32) = (0 : Int32)) from by decide)).1) ?_
    refine q_aload X176 hx hby d22_143 rfl rfl ?_
    refine k_I X176 hx hby hZ hown (wh hw 247 rfl) (wh hw 248 rfl) (wh hw 249 rfl) (wh hw 250 rfl) (wh hw 251 rfl) (wh hw 252 rfl) (wh hw 253 rfl) (wh hw 245 rfl) (W := 0) (own_nextE l Z a0 hw [] r_48 xm (3 : Int32) xt xk (Value.ref x2) (((2 : Int32) + (1 : Int32)) + (1 : Int32)) x3 x1 (Value.ref x2) (Value.ref x3) v2 h_ n0 O_ f_3 (show n0 ≤ r_48 by first | assumption | omega | decide) f_5 f_6 f_4 f_7 f_8 f_9 f_10 f_11 f_13 (show @LT.lt Nat _ xm r_48 by first | assumption | omega | decide) (show @LT.lt Nat _ xt r_48 by first | assumption | omega | decide) (show @LT.lt Nat _ x3 r_48 by first | assumption | omega | decide) f_12 (show ((((2 : Int32) + (1 : Int32)) + (1 : Int32)) = (2 : Int32) ∧ (Value.ref x2) = Value.null ∧ (Value.ref x3) = Value.null) ∨ ((((2 : Int32) + (1 : Int32)) + (1 : Int32)) = (3 : Int32) ∧ (Value.ref x3) = Value.null) ∨ (((2 : Int32) + (1 : Int32)) + (1 : Int32)) = (4 : Int32) from (by first | exact Or.inl ⟨by decide, rfl, rfl⟩ | exact Or.inr (Or.inl ⟨by decide, rfl⟩) | exact Or.inr (Or.inr (by decide)) | assumption))) (wh hw 254 rfl) (wh hw 213 rfl) e176 f_3  hml (argsL := []) (rest := []) own_pd_24 d22_145 (fun _ T177 L177 X177 hQ177 => ?_)
    obtain ⟨h177, e177⟩ : ∃ z, T177.heap = z := ⟨_, rfl⟩
    rw [e177] at hQ177
    obtain ⟨Nc177, Kc177, rfl, c177_0, c177_1, c177_2, c177_3, c177_4⟩ := hQ177
    have N177 := Fr.app N176 Nc177
    have O178 := O_.keep Kc177 (allS (show n0 ≤ r_48 by omega) all0)
    have sz179 : h_.size ≤ h177.size := Kc177.1
    have K180 := Keep.trans K_ Kc177 (allS (Or.inr (show h0.size ≤ r_48 by omega)) all0)
    have f181 := (f_14.keep Kc177)
    obtain ⟨T182, X182, e182, st182⟩ := castY X177 hx hZ hown (wh hw 263 rfl) e177 (Ins.self f181) (g := (mkF m 150 #[vR xa, vR xl, vR xm, vI 1, vR b33, vI 1, vR r_48, vI u1] [.ref v2])) rfl rfl (hb hby d22_150)
    refine gg st182 ?_
    have f183 := (f_15.keep Kc177 (ninS (nE v2 r_48 (by omega)) nin0))
    refine k_V X182 hx hby hZ hown (wh hw 265 rfl) (wh hw 266 rfl) (wh hw 268 rfl) (wh hw 267 rfl) (W := 0) (own_intValue l Z a0 hw [] v2 u2 h177 n0 O178 f183) (wh hw 269 rfl) (wh hw 68 rfl) e182 f181  hml (argsL := []) (rest := []) own_pd_6 d22_153 (fun _ T184 L184 X184 hQ184 => ?_)
    obtain ⟨Nc184, e184, rfl⟩ := hQ184
    have N184 := Fr.app N177 Nc184
    refine q_istore X184 hx hby d22_156 (l' := #[vR xa, vR xl, vR xm, vI 1, vR b33, vI 1, vR r_48, vI u2]) rfl ?_
    refine q_iload X184 hx hby d22_158 rfl ?_
    refine q_iconst X184 hx hby d22_160 ?_
    by_cases hc185 : u2 < (1 : Int32)
    · refine q_icmpYes (pc := 161) X184 hx hby d22_161 (pc' := 167) (tlt hc185).1 (by decide) (by decide) ?_
      refine q_iload X184 hx hby d22_167 rfl ?_
      refine q_ifYes (pc := 169) X184 hx hby d22_169 (pc' := 182) ((if0 _ _).trans (flt (show ¬ ((0 : Int32) < u2) from (own_posF hc185))).2.2.2) (by decide) (by decide) ?_
      refine q_goto (pc := 182) X184 hx hby d22_182 (pc' := 133) (by decide) (by decide) ?_
      show own_Goes p e below (T184.setTop (mkF m 133 #[vR xa, vR xl, vR xm, vI 1, vR b33, vI 1, vR r_48, vI u2] [])) _
      have f186 := (f_0.keep Kc177)
      have f187 := (f_1.keep Kc177 (ninS (nE xa r_48 (by omega)) nin0))
      have f188 := (f_2.keep Kc177 (ninS (nE xa r_48 (by omega)) nin0))
      have f189 := (f_3.keep Kc177)
      have f190 := (f_16.keep Kc177)
      have f191 := (f_17.keep Kc177 (ninS (nE b33 r_48 (by omega)) nin0))
      exact C_3_1 y0 _ _ _ (by have := own_ltI hc185; have := own_i1; omega) ⟨X184, e184, N184, O178, K180, f186, f187, f188, f189, c177_2, f190, f191⟩
    · refine q_icmpNo X184 hx hby d22_161 (flt hc185).1 ?_
      refine gg (fun t k => XS.iinc X184.here hx rfl (hb hby d22_164) rfl (l' := #[vR xa, vR xl, vR xm, vI ((1 : Int32) + (1 : Int32)), vR b33, vI 1, vR r_48, vI u2]) rfl k) ?_
      show own_Goes p e below (T184.setTop (mkF m 167 #[vR xa, vR xl, vR xm, vI ((1 : Int32) + (1 : Int32)), vR b33, vI 1, vR r_48, vI u2] [])) _
      rw [show ((1 : Int32) + (1 : Int32)) = (2 : Int32) from by decide]
      refine q_iload X184 hx hby d22_167 rfl ?_
      refine q_ifNo X184 hx hby d22_169 ((if0 _ _).trans (tlt (show ((0 : Int32) < u2) from (own_posT hc185))).2.2.2) ?_
      refine q_aload X184 hx hby d22_172 rfl rfl ?_
      refine q_iload X184 hx hby d22_174 rfl ?_
      refine q_iload X184 hx hby d22_176 rfl ?_
      have f192 := (f_17.keep Kc177 (ninS (nE b33 r_48 (by omega)) nin0))
      refine q_stI X184 hx hby hZ e184 f192 1 d22_178 (fun T194 h194 X194 e194 W194 V194 => ?_)
      have O195 := O178.wr W194 (show n0 ≤ b33 by omega)
      have sz196 : h194.size = h177.size := Wr.size W194
      have K197 := K180.wr W194 (Or.inr (show h0.size ≤ b33 by omega))
      have N194 := Fr.snoc X194 N184 (show n0 ≤ b33 by omega)
      have V194 : Arv Z h194 b33 k33 .int (3 : Int32) [.int y0, .int u2, .int 0] (.int 0) := V194
      refine gg (fun t k => XS.iinc X194.here hx rfl (hb hby d22_179) rfl (l' := #[vR xa, vR xl, vR xm, vI 2, vR b33, vI ((1 : Int32) + (1 : Int32)), vR r_48, vI u2]) rfl k) ?_
      show own_Goes p e below (T194.setTop (mkF m 182 #[vR xa, vR xl, vR xm, vI 2, vR b33, vI ((1 : Int32) + (1 : Int32)), vR r_48, vI u2] [])) _
      rw [show ((1 : Int32) + (1 : Int32)) = (2 : Int32) from by decide]
      refine q_goto (pc := 182) X194 hx hby d22_182 (pc' := 133) (by decide) (by decide) ?_
      have f198 := ((f_0.keep Kc177).wr W194)
      have f199 := ((f_1.keep Kc177 (ninS (nE xa r_48 (by omega)) nin0)).other W194 (Or.inl (nE xa b33 (by omega))))
      have f200 := ((f_2.keep Kc177 (ninS (nE xa r_48 (by omega)) nin0)).other W194 (Or.inl (nE xa b33 (by omega))))
      have f201 := ((f_3.keep Kc177).wr W194)
      have f202 := (c177_2.other W194 (Or.inl (nE r_48 b33 (by omega))))
      have f203 := ((f_16.keep Kc177).wr W194)
      exact C_3_2 y0 u2 _ _ _ (by have := own_nltI hc185; have := own_i1; omega) ⟨X194, e194, N194, O195, K197, f198, f199, f200, f201, f202, f203, V194⟩
  have C_2_2 : ∀ (y0 : Int32) (y1 : Int32) (T_ : State) (h_ : Heap) (L_ : List Loc), (y0.toInt = u0.toInt ∧ 1 ≤ u0.toInt ∧ y1.toInt = u1.toInt ∧ 1 ≤ u1.toInt) → Stand p l e ({ frames := 4, cells := 6, slots := 12, locals := 79 } : Room) s m #[.ref xa, .ref xl, .ref xm] below meth c T_ L_ 5 9 ∧ T_.heap = h_ ∧ Fr n0 L_ ∧ Old Z n0 h_ ∧ Keep h0 h_ [xa, xm] ∧ Exa Z h_ xa "com/example/dolm/dolm/eval/JudgedRanking" ∧ Fld Z h_ xa "com/example/dolm/dolm/eval/JudgedRanking" "relevantCount" "I" (.int 0) ∧ Fld Z h_ xa "com/example/dolm/dolm/eval/JudgedRanking" "judgedGains" "[I" .null ∧ Exa Z h_ r_48 "java/util/HashMap$ValueIterator" ∧ Fld Z h_ r_48 "java/util/HashMap$HashIterator" "next" "Ljava/util/HashMap$Node;" (.ref x3) ∧ Fld Z h_ r_48 "java/util/HashMap$HashIterator" "this$0" "Ljava/util/HashMap;" (.ref xm) ∧ Fld Z h_ r_48 "java/util/HashMap$HashIterator" "expectedModCount" "I" (.int 3) ∧ Fld Z h_ r_48 "java/util/HashMap$HashIterator" "current" "Ljava/util/HashMap$Node;" (.ref x2) ∧ Fld Z h_ r_48 "java/util/HashMap$HashIterator" "index" "I" (.int (((2 : Int32) + (1 : Int32)) + (1 : Int32))) ∧ Fld Z h_ xm "java/util/HashMap" "modCount" "I" (.int 3) ∧ Fld Z h_ xm "java/util/HashMap" "table" "[Ljava/util/HashMap$Node;" (.ref xt) ∧ Arv Z h_ xt xk (.object "java/util/HashMap$Node") (16 : Int32) [.null, .ref x1, .ref x2, .ref x3, .null, .null, .null, .null, .null, .null, .null, .null, .null, .null, .null, .null] .null ∧ Fld Z h_ x3 "java/util/HashMap$Node" "value" "Ljava/lang/Object;" (.ref v2) ∧ Fld Z h_ x3 "java/util/HashMap$Node" "next" "Ljava/util/HashMap$Node;" .null ∧ Exa Z h_ v2 "java/lang/Integer" ∧ Fld Z h_ v2 "java/lang/Integer" "value" "I" (.int u2) ∧ Exa Z h_ b33 "[I" ∧ Arv Z h_ b33 k33 .int (3 : Int32) [.int y0, .int y1, .int 0] (.int 0) → own_Goes p e below (T_.setTop (mkF m 133 #[vR xa, vR xl, vR xm, vI 2, vR b33, vI 2, vR r_48, vI u1] [])) (own_PostN s (Q_own_jr3 Z xa xl xm xt xk x1 x2 x3 v0 v1 v2 u0 u1 u2 h0 n0) ({ frames := 4, cells := 6, slots := 12, locals := 79 } : Room).cells ({ frames := 4, cells := 6, slots := 12, locals := 79 } : Room).slots) := by
    intro y0 y1 T_ h_ L_ hR ⟨X_, e_, N_, O_, K_, f_0, f_1, f_2, f_3, f_4, f_5, f_6, f_7, f_8, f_9, f_10, f_11, f_12, f_13, f_14, f_15, f_16, f_17⟩
    have lt_0 : @LT.lt Nat _ xa h_.size := f_0.lt
    have lt_3 : @LT.lt Nat _ r_48 h_.size := f_3.lt
    have lt_11 : @LT.lt Nat _ xt h_.size := f_11.lt
    have lt_14 : @LT.lt Nat _ v2 h_.size := f_14.lt
    have lt_16 : @LT.lt Nat _ b33 h_.size := f_16.lt
    have lt_17 : @LT.lt Nat _ b33 h_.size := f_17.lt
    show own_Goes p e below (T_.setTop (mkF m 133 #[vR xa, vR xl, vR xm, vI 2, vR b33, vI 2, vR r_48, vI u1] [])) _
    refine q_aload X_ hx hby d22_133 rfl rfl ?_
    refine k_I X_ hx hby hZ hown (wh hw 238 rfl) (wh hw 239 rfl) (wh hw 240 rfl) (wh hw 241 rfl) (wh hw 242 rfl) (wh hw 243 rfl) (wh hw 244 rfl) (wh hw 245 rfl) (W := 0) (own_hasNext1 l Z a0 hw [] r_48 x3 h_ n0 O_ f_4) (wh hw 246 rfl) (wh hw 222 rfl) e_ f_3  hml (argsL := []) (rest := []) own_pd_4 d22_135 (fun _ T204 L204 X204 hQ204 => ?_)
    obtain ⟨Nc204, e204, rfl⟩ := hQ204
    have N204 := Fr.app N_ Nc204
    refine q_ifNo X204 hx hby d22_140 ((if0 _ _).trans (feq (show ¬ ((1 : Int32) = (0 : Int32)) from by decide)).1) ?_
    refine q_aload X204 hx hby d22_143 rfl rfl ?_
    refine k_I X204 hx hby hZ hown (wh hw 247 rfl) (wh hw 248 rfl) (wh hw 249 rfl) (wh hw 250 rfl) (wh hw 251 rfl) (wh hw 252 rfl) (wh hw 253 rfl) (wh hw 245 rfl) (W := 0) (own_nextE l Z a0 hw [] r_48 xm (3 : Int32) xt xk (Value.ref x2) (((2 : Int32) + (1 : Int32)) + (1 : Int32)) x3 x1 (Value.ref x2) (Value.ref x3) v2 h_ n0 O_ f_3 (show n0 ≤ r_48 by first | assumption | omega | decide) f_5 f_6 f_4 f_7 f_8 f_9 f_10 f_11 f_13 (show @LT.lt Nat _ xm r_48 by first | assumption | omega | decide) (show @LT.lt Nat _ xt r_48 by first | assumption | omega | decide) (show @LT.lt Nat _ x3 r_48 by first | assumption | omega | decide) f_12 (show ((((2 : Int32) + (1 : Int32)) + (1 : Int32)) = (2 : Int32) ∧ (Value.ref x2) = Value.null ∧ (Value.ref x3) = Value.null) ∨ ((((2 : Int32) + (1 : Int32)) + (1 : Int32)) = (3 : Int32) ∧ (Value.ref x3) = Value.null) ∨ (((2 : Int32) + (1 : Int32)) + (1 : Int32)) = (4 : Int32) from (by first | exact Or.inl ⟨by decide, rfl, rfl⟩ | exact Or.inr (Or.inl ⟨by decide, rfl⟩) | exact Or.inr (Or.inr (by decide)) | assumption))) (wh hw 254 rfl) (wh hw 213 rfl) e204 f_3  hml (argsL := []) (rest := []) own_pd_24 d22_145 (fun _ T205 L205 X205 hQ205 => ?_)
    obtain ⟨h205, e205⟩ : ∃ z, T205.heap = z := ⟨_, rfl⟩
    rw [e205] at hQ205
    obtain ⟨Nc205, Kc205, rfl, c205_0, c205_1, c205_2, c205_3, c205_4⟩ := hQ205
    have N205 := Fr.app N204 Nc205
    have O206 := O_.keep Kc205 (allS (show n0 ≤ r_48 by omega) all0)
    have sz207 : h_.size ≤ h205.size := Kc205.1
    have K208 := Keep.trans K_ Kc205 (allS (Or.inr (show h0.size ≤ r_48 by omega)) all0)
    have f209 := (f_14.keep Kc205)
    obtain ⟨T210, X210, e210, st210⟩ := castY X205 hx hZ hown (wh hw 263 rfl) e205 (Ins.self f209) (g := (mkF m 150 #[vR xa, vR xl, vR xm, vI 2, vR b33, vI 2, vR r_48, vI u1] [.ref v2])) rfl rfl (hb hby d22_150)
    refine gg st210 ?_
    have f211 := (f_15.keep Kc205 (ninS (nE v2 r_48 (by omega)) nin0))
    refine k_V X210 hx hby hZ hown (wh hw 265 rfl) (wh hw 266 rfl) (wh hw 268 rfl) (wh hw 267 rfl) (W := 0) (own_intValue l Z a0 hw [] v2 u2 h205 n0 O206 f211) (wh hw 269 rfl) (wh hw 68 rfl) e210 f209  hml (argsL := []) (rest := []) own_pd_6 d22_153 (fun _ T212 L212 X212 hQ212 => ?_)
    obtain ⟨Nc212, e212, rfl⟩ := hQ212
    have N212 := Fr.app N205 Nc212
    refine q_istore X212 hx hby d22_156 (l' := #[vR xa, vR xl, vR xm, vI 2, vR b33, vI 2, vR r_48, vI u2]) rfl ?_
    refine q_iload X212 hx hby d22_158 rfl ?_
    refine q_iconst X212 hx hby d22_160 ?_
    by_cases hc213 : u2 < (1 : Int32)
    · refine q_icmpYes (pc := 161) X212 hx hby d22_161 (pc' := 167) (tlt hc213).1 (by decide) (by decide) ?_
      refine q_iload X212 hx hby d22_167 rfl ?_
      refine q_ifYes (pc := 169) X212 hx hby d22_169 (pc' := 182) ((if0 _ _).trans (flt (show ¬ ((0 : Int32) < u2) from (own_posF hc213))).2.2.2) (by decide) (by decide) ?_
      refine q_goto (pc := 182) X212 hx hby d22_182 (pc' := 133) (by decide) (by decide) ?_
      show own_Goes p e below (T212.setTop (mkF m 133 #[vR xa, vR xl, vR xm, vI 2, vR b33, vI 2, vR r_48, vI u2] [])) _
      have f214 := (f_0.keep Kc205)
      have f215 := (f_1.keep Kc205 (ninS (nE xa r_48 (by omega)) nin0))
      have f216 := (f_2.keep Kc205 (ninS (nE xa r_48 (by omega)) nin0))
      have f217 := (f_3.keep Kc205)
      have f218 := (f_16.keep Kc205)
      have f219 := (f_17.keep Kc205 (ninS (nE b33 r_48 (by omega)) nin0))
      exact C_3_2 y0 y1 _ _ _ (by have := own_ltI hc213; have := own_i1; omega) ⟨X212, e212, N212, O206, K208, f214, f215, f216, f217, c205_2, f218, f219⟩
    · refine q_icmpNo X212 hx hby d22_161 (flt hc213).1 ?_
      refine gg (fun t k => XS.iinc X212.here hx rfl (hb hby d22_164) rfl (l' := #[vR xa, vR xl, vR xm, vI ((2 : Int32) + (1 : Int32)), vR b33, vI 2, vR r_48, vI u2]) rfl k) ?_
      show own_Goes p e below (T212.setTop (mkF m 167 #[vR xa, vR xl, vR xm, vI ((2 : Int32) + (1 : Int32)), vR b33, vI 2, vR r_48, vI u2] [])) _
      rw [show ((2 : Int32) + (1 : Int32)) = (3 : Int32) from by decide]
      refine q_iload X212 hx hby d22_167 rfl ?_
      refine q_ifNo X212 hx hby d22_169 ((if0 _ _).trans (tlt (show ((0 : Int32) < u2) from (own_posT hc213))).2.2.2) ?_
      refine q_aload X212 hx hby d22_172 rfl rfl ?_
      refine q_iload X212 hx hby d22_174 rfl ?_
      refine q_iload X212 hx hby d22_176 rfl ?_
      have f220 := (f_17.keep Kc205 (ninS (nE b33 r_48 (by omega)) nin0))
      refine q_stI X212 hx hby hZ e212 f220 2 d22_178 (fun T222 h222 X222 e222 W222 V222 => ?_)
      have O223 := O206.wr W222 (show n0 ≤ b33 by omega)
      have sz224 : h222.size = h205.size := Wr.size W222
      have K225 := K208.wr W222 (Or.inr (show h0.size ≤ b33 by omega))
      have N222 := Fr.snoc X222 N212 (show n0 ≤ b33 by omega)
      have V222 : Arv Z h222 b33 k33 .int (3 : Int32) [.int y0, .int y1, .int u2] (.int 0) := V222
      refine gg (fun t k => XS.iinc X222.here hx rfl (hb hby d22_179) rfl (l' := #[vR xa, vR xl, vR xm, vI 3, vR b33, vI ((2 : Int32) + (1 : Int32)), vR r_48, vI u2]) rfl k) ?_
      show own_Goes p e below (T222.setTop (mkF m 182 #[vR xa, vR xl, vR xm, vI 3, vR b33, vI ((2 : Int32) + (1 : Int32)), vR r_48, vI u2] [])) _
      rw [show ((2 : Int32) + (1 : Int32)) = (3 : Int32) from by decide]
      refine q_goto (pc := 182) X222 hx hby d22_182 (pc' := 133) (by decide) (by decide) ?_
      have f226 := ((f_0.keep Kc205).wr W222)
      have f227 := ((f_1.keep Kc205 (ninS (nE xa r_48 (by omega)) nin0)).other W222 (Or.inl (nE xa b33 (by omega))))
      have f228 := ((f_2.keep Kc205 (ninS (nE xa r_48 (by omega)) nin0)).other W222 (Or.inl (nE xa b33 (by omega))))
      have f229 := ((f_3.keep Kc205).wr W222)
      have f230 := (c205_2.other W222 (Or.inl (nE r_48 b33 (by omega))))
      have f231 := ((f_16.keep Kc205).wr W222)
      exact C_3_3 y0 y1 u2 _ _ _ (by have := own_nltI hc213; have := own_i1; omega) ⟨X222, e222, N222, O223, K225, f226, f227, f228, f229, f230, f231, V222⟩
  have C_1_0 : ∀ (T_ : State) (h_ : Heap) (L_ : List Loc), (u0.toInt ≤ 0) → Stand p l e ({ frames := 4, cells := 6, slots := 12, locals := 79 } : Room) s m #[.ref xa, .ref xl, .ref xm] below meth c T_ L_ 5 9 ∧ T_.heap = h_ ∧ Fr n0 L_ ∧ Old Z n0 h_ ∧ Keep h0 h_ [xa, xm] ∧ Exa Z h_ xa "com/example/dolm/dolm/eval/JudgedRanking" ∧ Fld Z h_ xa "com/example/dolm/dolm/eval/JudgedRanking" "relevantCount" "I" (.int 0) ∧ Fld Z h_ xa "com/example/dolm/dolm/eval/JudgedRanking" "judgedGains" "[I" .null ∧ Exa Z h_ r_48 "java/util/HashMap$ValueIterator" ∧ Fld Z h_ r_48 "java/util/HashMap$HashIterator" "next" "Ljava/util/HashMap$Node;" (.ref x2) ∧ Fld Z h_ r_48 "java/util/HashMap$HashIterator" "this$0" "Ljava/util/HashMap;" (.ref xm) ∧ Fld Z h_ r_48 "java/util/HashMap$HashIterator" "expectedModCount" "I" (.int 3) ∧ Fld Z h_ r_48 "java/util/HashMap$HashIterator" "current" "Ljava/util/HashMap$Node;" (.ref x1) ∧ Fld Z h_ r_48 "java/util/HashMap$HashIterator" "index" "I" (.int ((2 : Int32) + (1 : Int32))) ∧ Fld Z h_ xm "java/util/HashMap" "modCount" "I" (.int 3) ∧ Fld Z h_ xm "java/util/HashMap" "table" "[Ljava/util/HashMap$Node;" (.ref xt) ∧ Arv Z h_ xt xk (.object "java/util/HashMap$Node") (16 : Int32) [.null, .ref x1, .ref x2, .ref x3, .null, .null, .null, .null, .null, .null, .null, .null, .null, .null, .null, .null] .null ∧ Fld Z h_ x2 "java/util/HashMap$Node" "value" "Ljava/lang/Object;" (.ref v1) ∧ Fld Z h_ x2 "java/util/HashMap$Node" "next" "Ljava/util/HashMap$Node;" .null ∧ Exa Z h_ v1 "java/lang/Integer" ∧ Fld Z h_ v1 "java/lang/Integer" "value" "I" (.int u1) ∧ Fld Z h_ x3 "java/util/HashMap$Node" "value" "Ljava/lang/Object;" (.ref v2) ∧ Fld Z h_ x3 "java/util/HashMap$Node" "next" "Ljava/util/HashMap$Node;" .null ∧ Exa Z h_ v2 "java/lang/Integer" ∧ Fld Z h_ v2 "java/lang/Integer" "value" "I" (.int u2) ∧ Exa Z h_ b33 "[I" ∧ Arv Z h_ b33 k33 .int (3 : Int32) [.int 0, .int 0, .int 0] (.int 0) → own_Goes p e below (T_.setTop (mkF m 133 #[vR xa, vR xl, vR xm, vI 0, vR b33, vI 0, vR r_48, vI u0] [])) (own_PostN s (Q_own_jr3 Z xa xl xm xt xk x1 x2 x3 v0 v1 v2 u0 u1 u2 h0 n0) ({ frames := 4, cells := 6, slots := 12, locals := 79 } : Room).cells ({ frames := 4, cells := 6, slots := 12, locals := 79 } : Room).slots) := by
    intro T_ h_ L_ hR ⟨X_, e_, N_, O_, K_, f_0, f_1, f_2, f_3, f_4, f_5, f_6, f_7, f_8, f_9, f_10, f_11, f_12, f_13, f_14, f_15, f_16, f_17, f_18, f_19, f_20, f_21⟩
    have lt_0 : @LT.lt Nat _ xa h_.size := f_0.lt
    have lt_3 : @LT.lt Nat _ r_48 h_.size := f_3.lt
    have lt_11 : @LT.lt Nat _ xt h_.size := f_11.lt
    have lt_14 : @LT.lt Nat _ v1 h_.size := f_14.lt
    have lt_18 : @LT.lt Nat _ v2 h_.size := f_18.lt
    have lt_20 : @LT.lt Nat _ b33 h_.size := f_20.lt
    have lt_21 : @LT.lt Nat _ b33 h_.size := f_21.lt
    show own_Goes p e below (T_.setTop (mkF m 133 #[vR xa, vR xl, vR xm, vI 0, vR b33, vI 0, vR r_48, vI u0] [])) _
    refine q_aload X_ hx hby d22_133 rfl rfl ?_
    refine k_I X_ hx hby hZ hown (wh hw 238 rfl) (wh hw 239 rfl) (wh hw 240 rfl) (wh hw 241 rfl) (wh hw 242 rfl) (wh hw 243 rfl) (wh hw 244 rfl) (wh hw 245 rfl) (W := 0) (own_hasNext1 l Z a0 hw [] r_48 x2 h_ n0 O_ f_4) (wh hw 246 rfl) (wh hw 222 rfl) e_ f_3  hml (argsL := []) (rest := []) own_pd_4 d22_135 (fun _ T232 L232 X232 hQ232 => ?_)
    obtain ⟨Nc232, e232, rfl⟩ := hQ232
    have N232 := Fr.app N_ Nc232
    refine q_ifNo X232 hx hby d22_140 ((if0 _ _).trans (feq (show ¬ ((1 : Int32) = (0 : Int32)) from by decide)).1) ?_
    refine q_aload X232 hx hby d22_143 rfl rfl ?_
    refine k_I X232 hx hby hZ hown (wh hw 247 rfl) (wh hw 248 rfl) (wh hw 249 rfl) (wh hw 250 rfl) (wh hw 251 rfl) (wh hw 252 rfl) (wh hw 253 rfl) (wh hw 245 rfl) (W := 0) (own_nextF l Z a0 hw [] r_48 xm (3 : Int32) xt xk (Value.ref x1) ((2 : Int32) + (1 : Int32)) x2 x1 (Value.ref x2) (Value.ref x3) x3 v1 h_ n0 O_ f_3 (show n0 ≤ r_48 by first | assumption | omega | decide) f_5 f_6 f_4 f_7 f_8 f_9 f_10 f_11 f_13 (show @LT.lt Nat _ xm r_48 by first | assumption | omega | decide) (show @LT.lt Nat _ xt r_48 by first | assumption | omega | decide) (show @LT.lt Nat _ x2 r_48 by first | assumption | omega | decide) f_12 (show ¬ ((2 : Int32) + (1 : Int32)) < 0 ∧ ((2 : Int32) + (1 : Int32)) < (16 : Int32) ∧ List.getD ([.null, .ref x1, (Value.ref x2), (Value.ref x3), .null, .null, .null, .null, .null, .null, .null, .null, .null, .null, .null, .null] : List Value) ((2 : Int32) + (1 : Int32)).toNatClampNeg .null = .ref x3 from (by first | exact ⟨by decide, by decide, rfl⟩ | assumption))) (wh hw 254 rfl) (wh hw 213 rfl) e232 f_3  hml (argsL := []) (rest := []) own_pd_24 d22_145 (fun _ T233 L233 X233 hQ233 => ?_)
    obtain ⟨h233, e233⟩ : ∃ z, T233.heap = z := ⟨_, rfl⟩
    rw [e233] at hQ233
    obtain ⟨Nc233, Kc233, rfl, c233_0, c233_1, c233_2, c233_3, c233_4⟩ := hQ233
    have N233 := Fr.app N232 Nc233
    have O234 := O_.keep Kc233 (allS (show n0 ≤ r_48 by omega) all0)
    have sz235 : h_.size ≤ h233.size := Kc233.1
    have K236 := Keep.trans K_ Kc233 (allS (Or.inr (show h0.size ≤ r_48 by omega)) all0)
    have f237 := (f_14.keep Kc233)
    obtain ⟨T238, X238, e238, st238⟩ := castY X233 hx hZ hown (wh hw 263 rfl) e233 (Ins.self f237) (g := (mkF m 150 #[vR xa, vR xl, vR xm, vI 0, vR b33, vI 0, vR r_48, vI u0] [.ref v1])) rfl rfl (hb hby d22_150)
    refine gg st238 ?_
    have f239 := (f_15.keep Kc233 (ninS (nE v1 r_48 (by omega)) nin0))
    refine k_V X238 hx hby hZ hown (wh hw 265 rfl) (wh hw 266 rfl) (wh hw 268 rfl) (wh hw 267 rfl) (W := 0) (own_intValue l Z a0 hw [] v1 u1 h233 n0 O234 f239) (wh hw 269 rfl) (wh hw 68 rfl) e238 f237  hml (argsL := []) (rest := []) own_pd_6 d22_153 (fun _ T240 L240 X240 hQ240 => ?_)
    obtain ⟨Nc240, e240, rfl⟩ := hQ240
    have N240 := Fr.app N233 Nc240
    refine q_istore X240 hx hby d22_156 (l' := #[vR xa, vR xl, vR xm, vI 0, vR b33, vI 0, vR r_48, vI u1]) rfl ?_
    refine q_iload X240 hx hby d22_158 rfl ?_
    refine q_iconst X240 hx hby d22_160 ?_
    by_cases hc241 : u1 < (1 : Int32)
    · refine q_icmpYes (pc := 161) X240 hx hby d22_161 (pc' := 167) (tlt hc241).1 (by decide) (by decide) ?_
      refine q_iload X240 hx hby d22_167 rfl ?_
      refine q_ifYes (pc := 169) X240 hx hby d22_169 (pc' := 182) ((if0 _ _).trans (flt (show ¬ ((0 : Int32) < u1) from (own_posF hc241))).2.2.2) (by decide) (by decide) ?_
      refine q_goto (pc := 182) X240 hx hby d22_182 (pc' := 133) (by decide) (by decide) ?_
      show own_Goes p e below (T240.setTop (mkF m 133 #[vR xa, vR xl, vR xm, vI 0, vR b33, vI 0, vR r_48, vI u1] [])) _
      have f242 := (f_0.keep Kc233)
      have f243 := (f_1.keep Kc233 (ninS (nE xa r_48 (by omega)) nin0))
      have f244 := (f_2.keep Kc233 (ninS (nE xa r_48 (by omega)) nin0))
      have f245 := (f_3.keep Kc233)
      have f246 := (f_9.keep Kc233 (ninS (nE xm r_48 (by omega)) nin0))
      have f247 := (f_10.keep Kc233 (ninS (nE xm r_48 (by omega)) nin0))
      have f248 := (f_11.keep Kc233 (ninS (nE xt r_48 (by omega)) nin0))
      have f249 := (f_16.keep Kc233 (ninS (nE x3 r_48 (by omega)) nin0))
      have f250 := (f_17.keep Kc233 (ninS (nE x3 r_48 (by omega)) nin0))
      have f251 := (f_18.keep Kc233)
      have f252 := (f_19.keep Kc233 (ninS (nE v2 r_48 (by omega)) nin0))
      have f253 := (f_20.keep Kc233)
      have f254 := (f_21.keep Kc233 (ninS (nE b33 r_48 (by omega)) nin0))
      exact C_2_0 _ _ _ (by have := own_ltI hc241; have := own_i1; omega) ⟨X240, e240, N240, O234, K236, f242, f243, f244, f245, c233_2, c233_0, c233_1, c233_3, c233_4, f246, f247, f248, f249, f250, f251, f252, f253, f254⟩
    · refine q_icmpNo X240 hx hby d22_161 (flt hc241).1 ?_
      refine gg (fun t k => XS.iinc X240.here hx rfl (hb hby d22_164) rfl (l' := #[vR xa, vR xl, vR xm, vI ((0 : Int32) + (1 : Int32)), vR b33, vI 0, vR r_48, vI u1]) rfl k) ?_
      show own_Goes p e below (T240.setTop (mkF m 167 #[vR xa, vR xl, vR xm, vI ((0 : Int32) + (1 : Int32)), vR b33, vI 0, vR r_48, vI u1] [])) _
      rw [show ((0 : Int32) + (1 : Int32)) = (1 : Int32) from by decide]
      refine q_iload X240 hx hby d22_167 rfl ?_
      refine q_ifNo X240 hx hby d22_169 ((if0 _ _).trans (tlt (show ((0 : Int32) < u1) from (own_posT hc241))).2.2.2) ?_
      refine q_aload X240 hx hby d22_172 rfl rfl ?_
      refine q_iload X240 hx hby d22_174 rfl ?_
      refine q_iload X240 hx hby d22_176 rfl ?_
      have f255 := (f_21.keep Kc233 (ninS (nE b33 r_48 (by omega)) nin0))
      refine q_stI X240 hx hby hZ e240 f255 0 d22_178 (fun T257 h257 X257 e257 W257 V257 => ?_)
      have O258 := O234.wr W257 (show n0 ≤ b33 by omega)
      have sz259 : h257.size = h233.size := Wr.size W257
      have K260 := K236.wr W257 (Or.inr (show h0.size ≤ b33 by omega))
      have N257 := Fr.snoc X257 N240 (show n0 ≤ b33 by omega)
      have V257 : Arv Z h257 b33 k33 .int (3 : Int32) [.int u1, .int 0, .int 0] (.int 0) := V257
      refine gg (fun t k => XS.iinc X257.here hx rfl (hb hby d22_179) rfl (l' := #[vR xa, vR xl, vR xm, vI 1, vR b33, vI ((0 : Int32) + (1 : Int32)), vR r_48, vI u1]) rfl k) ?_
      show own_Goes p e below (T257.setTop (mkF m 182 #[vR xa, vR xl, vR xm, vI 1, vR b33, vI ((0 : Int32) + (1 : Int32)), vR r_48, vI u1] [])) _
      rw [show ((0 : Int32) + (1 : Int32)) = (1 : Int32) from by decide]
      refine q_goto (pc := 182) X257 hx hby d22_182 (pc' := 133) (by decide) (by decide) ?_
      have f261 := ((f_0.keep Kc233).wr W257)
      have f262 := ((f_1.keep Kc233 (ninS (nE xa r_48 (by omega)) nin0)).other W257 (Or.inl (nE xa b33 (by omega))))
      have f263 := ((f_2.keep Kc233 (ninS (nE xa r_48 (by omega)) nin0)).other W257 (Or.inl (nE xa b33 (by omega))))
      have f264 := ((f_3.keep Kc233).wr W257)
      have f265 := (c233_2.other W257 (Or.inl (nE r_48 b33 (by omega))))
      have f266 := (c233_0.other W257 (Or.inl (nE r_48 b33 (by omega))))
      have f267 := (c233_1.other W257 (Or.inl (nE r_48 b33 (by omega))))
      have f268 := (c233_3.other W257 (Or.inl (nE r_48 b33 (by omega))))
      have f269 := (c233_4.other W257 (Or.inl (nE r_48 b33 (by omega))))
      have f270 := ((f_9.keep Kc233 (ninS (nE xm r_48 (by omega)) nin0)).other W257 (Or.inl (nE xm b33 (by omega))))
      have f271 := ((f_10.keep Kc233 (ninS (nE xm r_48 (by omega)) nin0)).other W257 (Or.inl (nE xm b33 (by omega))))
      have f272 := ((f_11.keep Kc233 (ninS (nE xt r_48 (by omega)) nin0)).other W257 (nE xt b33 (by omega)))
      have f273 := ((f_16.keep Kc233 (ninS (nE x3 r_48 (by omega)) nin0)).other W257 (Or.inl (nE x3 b33 (by omega))))
      have f274 := ((f_17.keep Kc233 (ninS (nE x3 r_48 (by omega)) nin0)).other W257 (Or.inl (nE x3 b33 (by omega))))
      have f275 := ((f_18.keep Kc233).wr W257)
      have f276 := ((f_19.keep Kc233 (ninS (nE v2 r_48 (by omega)) nin0)).other W257 (Or.inl (nE v2 b33 (by omega))))
      have f277 := ((f_20.keep Kc233).wr W257)
      exact C_2_1 u1 _ _ _ (by have := own_nltI hc241; have := own_i1; omega) ⟨X257, e257, N257, O258, K260, f261, f262, f263, f264, f265, f266, f267, f268, f269, f270, f271, f272, f273, f274, f275, f276, f277, V257⟩
  have C_1_1 : ∀ (y0 : Int32) (T_ : State) (h_ : Heap) (L_ : List Loc), (y0.toInt = u0.toInt ∧ 1 ≤ u0.toInt) → Stand p l e ({ frames := 4, cells := 6, slots := 12, locals := 79 } : Room) s m #[.ref xa, .ref xl, .ref xm] below meth c T_ L_ 5 9 ∧ T_.heap = h_ ∧ Fr n0 L_ ∧ Old Z n0 h_ ∧ Keep h0 h_ [xa, xm] ∧ Exa Z h_ xa "com/example/dolm/dolm/eval/JudgedRanking" ∧ Fld Z h_ xa "com/example/dolm/dolm/eval/JudgedRanking" "relevantCount" "I" (.int 0) ∧ Fld Z h_ xa "com/example/dolm/dolm/eval/JudgedRanking" "judgedGains" "[I" .null ∧ Exa Z h_ r_48 "java/util/HashMap$ValueIterator" ∧ Fld Z h_ r_48 "java/util/HashMap$HashIterator" "next" "Ljava/util/HashMap$Node;" (.ref x2) ∧ Fld Z h_ r_48 "java/util/HashMap$HashIterator" "this$0" "Ljava/util/HashMap;" (.ref xm) ∧ Fld Z h_ r_48 "java/util/HashMap$HashIterator" "expectedModCount" "I" (.int 3) ∧ Fld Z h_ r_48 "java/util/HashMap$HashIterator" "current" "Ljava/util/HashMap$Node;" (.ref x1) ∧ Fld Z h_ r_48 "java/util/HashMap$HashIterator" "index" "I" (.int ((2 : Int32) + (1 : Int32))) ∧ Fld Z h_ xm "java/util/HashMap" "modCount" "I" (.int 3) ∧ Fld Z h_ xm "java/util/HashMap" "table" "[Ljava/util/HashMap$Node;" (.ref xt) ∧ Arv Z h_ xt xk (.object "java/util/HashMap$Node") (16 : Int32) [.null, .ref x1, .ref x2, .ref x3, .null, .null, .null, .null, .null, .null, .null, .null, .null, .null, .null, .null] .null ∧ Fld Z h_ x2 "java/util/HashMap$Node" "value" "Ljava/lang/Object;" (.ref v1) ∧ Fld Z h_ x2 "java/util/HashMap$Node" "next" "Ljava/util/HashMap$Node;" .null ∧ Exa Z h_ v1 "java/lang/Integer" ∧ Fld Z h_ v1 "java/lang/Integer" "value" "I" (.int u1) ∧ Fld Z h_ x3 "java/util/HashMap$Node" "value" "Ljava/lang/Object;" (.ref v2) ∧ Fld Z h_ x3 "java/util/HashMap$Node" "next" "Ljava/util/HashMap$Node;" .null ∧ Exa Z h_ v2 "java/lang/Integer" ∧ Fld Z h_ v2 "java/lang/Integer" "value" "I" (.int u2) ∧ Exa Z h_ b33 "[I" ∧ Arv Z h_ b33 k33 .int (3 : Int32) [.int y0, .int 0, .int 0] (.int 0) → own_Goes p e below (T_.setTop (mkF m 133 #[vR xa, vR xl, vR xm, vI 1, vR b33, vI 1, vR r_48, vI u0] [])) (own_PostN s (Q_own_jr3 Z xa xl xm xt xk x1 x2 x3 v0 v1 v2 u0 u1 u2 h0 n0) ({ frames := 4, cells := 6, slots := 12, locals := 79 } : Room).cells ({ frames := 4, cells := 6, slots := 12, locals := 79 } : Room).slots) := by
    intro y0 T_ h_ L_ hR ⟨X_, e_, N_, O_, K_, f_0, f_1, f_2, f_3, f_4, f_5, f_6, f_7, f_8, f_9, f_10, f_11, f_12, f_13, f_14, f_15, f_16, f_17, f_18, f_19, f_20, f_21⟩
    have lt_0 : @LT.lt Nat _ xa h_.size := f_0.lt
    have lt_3 : @LT.lt Nat _ r_48 h_.size := f_3.lt
    have lt_11 : @LT.lt Nat _ xt h_.size := f_11.lt
    have lt_14 : @LT.lt Nat _ v1 h_.size := f_14.lt
    have lt_18 : @LT.lt Nat _ v2 h_.size := f_18.lt
    have lt_20 : @LT.lt Nat _ b33 h_.size := f_20.lt
    have lt_21 : @LT.lt Nat _ b33 h_.size := f_21.lt
    show own_Goes p e below (T_.setTop (mkF m 133 #[vR xa, vR xl, vR xm, vI 1, vR b33, vI 1, vR r_48, vI u0] [])) _
    refine q_aload X_ hx hby d22_133 rfl rfl ?_
    refine k_I X_ hx hby hZ hown (wh hw 238 rfl) (wh hw 239 rfl) (wh hw 240 rfl) (wh hw 241 rfl) (wh hw 242 rfl) (wh hw 243 rfl) (wh hw 244 rfl) (wh hw 245 rfl) (W := 0) (own_hasNext1 l Z a0 hw [] r_48 x2 h_ n0 O_ f_4) (wh hw 246 rfl) (wh hw 222 rfl) e_ f_3  hml (argsL := []) (rest := []) own_pd_4 d22_135 (fun _ T278 L278 X278 hQ278 => ?_)
    obtain ⟨Nc278, e278, rfl⟩ := hQ278
    have N278 := Fr.app N_ Nc278
    refine q_ifNo X278 hx hby d22_140 ((if0 _ _).trans (feq (show ¬ ((1 : Int32) = (0 : Int32)) from by decide)).1) ?_
    refine q_aload X278 hx hby d22_143 rfl rfl ?_
    refine k_I X278 hx hby hZ hown (wh hw 247 rfl) (wh hw 248 rfl) (wh hw 249 rfl) (wh hw 250 rfl) (wh hw 251 rfl) (wh hw 252 rfl) (wh hw 253 rfl) (wh hw 245 rfl) (W := 0) (own_nextF l Z a0 hw [] r_48 xm (3 : Int32) xt xk (Value.ref x1) ((2 : Int32) + (1 : Int32)) x2 x1 (Value.ref x2) (Value.ref x3) x3 v1 h_ n0 O_ f_3 (show n0 ≤ r_48 by first | assumption | omega | decide) f_5 f_6 f_4 f_7 f_8 f_9 f_10 f_11 f_13 (show @LT.lt Nat _ xm r_48 by first | assumption | omega | decide) (show @LT.lt Nat _ xt r_48 by first | assumption | omega | decide) (show @LT.lt Nat _ x2 r_48 by first | assumption | omega | decide) f_12 (show ¬ ((2 : Int32) + (1 : Int32)) < 0 ∧ ((2 : Int32) + (1 : Int32)) < (16 : Int32) ∧ List.getD ([.null, .ref x1, (Value.ref x2), (Value.ref x3), .null, .null, .null, .null, .null, .null, .null, .null, .null, .null, .null, .null] : List Value) ((2 : Int32) + (1 : Int32)).toNatClampNeg .null = .ref x3 from (by first | exact ⟨by decide, by decide, rfl⟩ | assumption))) (wh hw 254 rfl) (wh hw 213 rfl) e278 f_3  hml (argsL := []) (rest := []) own_pd_24 d22_145 (fun _ T279 L279 X279 hQ279 => ?_)
    obtain ⟨h279, e279⟩ : ∃ z, T279.heap = z := ⟨_, rfl⟩
    rw [e279] at hQ279
    obtain ⟨Nc279, Kc279, rfl, c279_0, c279_1, c279_2, c279_3, c279_4⟩ := hQ279
    have N279 := Fr.app N278 Nc279
    have O280 := O_.keep Kc279 (allS (show n0 ≤ r_48 by omega) all0)
    have sz281 : h_.size ≤ h279.size := Kc279.1
    have K282 := Keep.trans K_ Kc279 (allS (Or.inr (show h0.size ≤ r_48 by omega)) all0)
    have f283 := (f_14.keep Kc279)
    obtain ⟨T284, X284, e284, st284⟩ := castY X279 hx hZ hown (wh hw 263 rfl) e279 (Ins.self f283) (g := (mkF m 150 #[vR xa, vR xl, vR xm, vI 1, vR b33, vI 1, vR r_48, vI u0] [.ref v1])) rfl rfl (hb hby d22_150)
    refine gg st284 ?_
    have f285 := (f_15.keep Kc279 (ninS (nE v1 r_48 (by omega)) nin0))
    refine k_V X284 hx hby hZ hown (wh hw 265 rfl) (wh hw 266 rfl) (wh hw 268 rfl) (wh hw 267 rfl) (W := 0) (own_intValue l Z a0 hw [] v1 u1 h279 n0 O280 f285) (wh hw 269 rfl) (wh hw 68 rfl) e284 f283  hml (argsL := []) (rest := []) own_pd_6 d22_153 (fun _ T286 L286 X286 hQ286 => ?_)
    obtain ⟨Nc286, e286, rfl⟩ := hQ286
    have N286 := Fr.app N279 Nc286
    refine q_istore X286 hx hby d22_156 (l' := #[vR xa, vR xl, vR xm, vI 1, vR b33, vI 1, vR r_48, vI u1]) rfl ?_
    refine q_iload X286 hx hby d22_158 rfl ?_
    refine q_iconst X286 hx hby d22_160 ?_
    by_cases hc287 : u1 < (1 : Int32)
    · refine q_icmpYes (pc := 161) X286 hx hby d22_161 (pc' := 167) (tlt hc287).1 (by decide) (by decide) ?_
      refine q_iload X286 hx hby d22_167 rfl ?_
      refine q_ifYes (pc := 169) X286 hx hby d22_169 (pc' := 182) ((if0 _ _).trans (flt (show ¬ ((0 : Int32) < u1) from (own_posF hc287))).2.2.2) (by decide) (by decide) ?_
      refine q_goto (pc := 182) X286 hx hby d22_182 (pc' := 133) (by decide) (by decide) ?_
      show own_Goes p e below (T286.setTop (mkF m 133 #[vR xa, vR xl, vR xm, vI 1, vR b33, vI 1, vR r_48, vI u1] [])) _
      have f288 := (f_0.keep Kc279)
      have f289 := (f_1.keep Kc279 (ninS (nE xa r_48 (by omega)) nin0))
      have f290 := (f_2.keep Kc279 (ninS (nE xa r_48 (by omega)) nin0))
      have f291 := (f_3.keep Kc279)
      have f292 := (f_9.keep Kc279 (ninS (nE xm r_48 (by omega)) nin0))
      have f293 := (f_10.keep Kc279 (ninS (nE xm r_48 (by omega)) nin0))
      have f294 := (f_11.keep Kc279 (ninS (nE xt r_48 (by omega)) nin0))
      have f295 := (f_16.keep Kc279 (ninS (nE x3 r_48 (by omega)) nin0))
      have f296 := (f_17.keep Kc279 (ninS (nE x3 r_48 (by omega)) nin0))
      have f297 := (f_18.keep Kc279)
      have f298 := (f_19.keep Kc279 (ninS (nE v2 r_48 (by omega)) nin0))
      have f299 := (f_20.keep Kc279)
      have f300 := (f_21.keep Kc279 (ninS (nE b33 r_48 (by omega)) nin0))
      exact C_2_1 y0 _ _ _ (by have := own_ltI hc287; have := own_i1; omega) ⟨X286, e286, N286, O280, K282, f288, f289, f290, f291, c279_2, c279_0, c279_1, c279_3, c279_4, f292, f293, f294, f295, f296, f297, f298, f299, f300⟩
    · refine q_icmpNo X286 hx hby d22_161 (flt hc287).1 ?_
      refine gg (fun t k => XS.iinc X286.here hx rfl (hb hby d22_164) rfl (l' := #[vR xa, vR xl, vR xm, vI ((1 : Int32) + (1 : Int32)), vR b33, vI 1, vR r_48, vI u1]) rfl k) ?_
      show own_Goes p e below (T286.setTop (mkF m 167 #[vR xa, vR xl, vR xm, vI ((1 : Int32) + (1 : Int32)), vR b33, vI 1, vR r_48, vI u1] [])) _
      rw [show ((1 : Int32) + (1 : Int32)) = (2 : Int32) from by decide]
      refine q_iload X286 hx hby d22_167 rfl ?_
      refine q_ifNo X286 hx hby d22_169 ((if0 _ _).trans (tlt (show ((0 : Int32) < u1) from (own_posT hc287))).2.2.2) ?_
      refine q_aload X286 hx hby d22_172 rfl rfl ?_
      refine q_iload X286 hx hby d22_174 rfl ?_
      refine q_iload X286 hx hby d22_176 rfl ?_
      have f301 := (f_21.keep Kc279 (ninS (nE b33 r_48 (by omega)) nin0))
      refine q_stI X286 hx hby hZ e286 f301 1 d22_178 (fun T303 h303 X303 e303 W303 V303 => ?_)
      have O304 := O280.wr W303 (show n0 ≤ b33 by omega)
      have sz305 : h303.size = h279.size := Wr.size W303
      have K306 := K282.wr W303 (Or.inr (show h0.size ≤ b33 by omega))
      have N303 := Fr.snoc X303 N286 (show n0 ≤ b33 by omega)
      have V303 : Arv Z h303 b33 k33 .int (3 : Int32) [.int y0, .int u1, .int 0] (.int 0) := V303
      refine gg (fun t k => XS.iinc X303.here hx rfl (hb hby d22_179) rfl (l' := #[vR xa, vR xl, vR xm, vI 2, vR b33, vI ((1 : Int32) + (1 : Int32)), vR r_48, vI u1]) rfl k) ?_
      show own_Goes p e below (T303.setTop (mkF m 182 #[vR xa, vR xl, vR xm, vI 2, vR b33, vI ((1 : Int32) + (1 : Int32)), vR r_48, vI u1] [])) _
      rw [show ((1 : Int32) + (1 : Int32)) = (2 : Int32) from by decide]
      refine q_goto (pc := 182) X303 hx hby d22_182 (pc' := 133) (by decide) (by decide) ?_
      have f307 := ((f_0.keep Kc279).wr W303)
      have f308 := ((f_1.keep Kc279 (ninS (nE xa r_48 (by omega)) nin0)).other W303 (Or.inl (nE xa b33 (by omega))))
      have f309 := ((f_2.keep Kc279 (ninS (nE xa r_48 (by omega)) nin0)).other W303 (Or.inl (nE xa b33 (by omega))))
      have f310 := ((f_3.keep Kc279).wr W303)
      have f311 := (c279_2.other W303 (Or.inl (nE r_48 b33 (by omega))))
      have f312 := (c279_0.other W303 (Or.inl (nE r_48 b33 (by omega))))
      have f313 := (c279_1.other W303 (Or.inl (nE r_48 b33 (by omega))))
      have f314 := (c279_3.other W303 (Or.inl (nE r_48 b33 (by omega))))
      have f315 := (c279_4.other W303 (Or.inl (nE r_48 b33 (by omega))))
      have f316 := ((f_9.keep Kc279 (ninS (nE xm r_48 (by omega)) nin0)).other W303 (Or.inl (nE xm b33 (by omega))))
      have f317 := ((f_10.keep Kc279 (ninS (nE xm r_48 (by omega)) nin0)).other W303 (Or.inl (nE xm b33 (by omega))))
      have f318 := ((f_11.keep Kc279 (ninS (nE xt r_48 (by omega)) nin0)).other W303 (nE xt b33 (by omega)))
      have f319 := ((f_16.keep Kc279 (ninS (nE x3 r_48 (by omega)) nin0)).other W303 (Or.inl (nE x3 b33 (by omega))))
      have f320 := ((f_17.keep Kc279 (ninS (nE x3 r_48 (by omega)) nin0)).other W303 (Or.inl (nE x3 b33 (by omega))))
      have f321 := ((f_18.keep Kc279).wr W303)
      have f322 := ((f_19.keep Kc279 (ninS (nE v2 r_48 (by omega)) nin0)).other W303 (Or.inl (nE v2 b33 (by omega))))
      have f323 := ((f_20.keep Kc279).wr W303)
      exact C_2_2 y0 u1 _ _ _ (by have := own_nltI hc287; have := own_i1; omega) ⟨X303, e303, N303, O304, K306, f307, f308, f309, f310, f311, f312, f313, f314, f315, f316, f317, f318, f319, f320, f321, f322, f323, V303⟩
  refine q_aload X48 hx hby d22_133 rfl rfl ?_
  refine k_I X48 hx hby hZ hown (wh hw 238 rfl) (wh hw 239 rfl) (wh hw 240 rfl) (wh hw 241 rfl) (wh hw 242 rfl) (wh hw 243 rfl) (wh hw 244 rfl) (wh hw 245 rfl) (W := 0) (own_hasNext1 l Z a0 hw [] r_48 x1 h48 n0 O49 c48_3) (wh hw 246 rfl) (wh hw 222 rfl) e48 c48_0  hml (argsL := []) (rest := []) own_pd_4 d22_135 (fun _ T324 L324 X324 hQ324 => ?_)
  obtain ⟨Nc324, e324, rfl⟩ := hQ324
  have N324 := Fr.app N48 Nc324
  refine q_ifNo X324 hx hby d22_140 ((if0 _ _).trans (feq (show ¬ ((1 : Int32) = (0 : Int32)) from by decide)).1) ?_
  refine q_aload X324 hx hby d22_143 rfl rfl ?_
  have f325 := (c43_1.keep Kc48 nin0)
  have f326 := (c43_3.keep Kc48 nin0)
  have f327 := (f47.keep Kc48 nin0)
  have f328 := (((((((P22.ext E3).other W9 (Or.inl (nE x1 xa (by omega)))).ext E16).other W22 (Or.inl (nE x1 xa (by omega)))).ext E33).keep Kc43 (ninS (nE x1 xm (by omega)) nin0)).keep Kc48 nin0)
  have f329 := (((((((P21.ext E3).other W9 (Or.inl (nE x1 xa (by omega)))).ext E16).other W22 (Or.inl (nE x1 xa (by omega)))).ext E33).keep Kc43 (ninS (nE x1 xm (by omega)) nin0)).keep Kc48 nin0)
  refine k_I X324 hx hby hZ hown (wh hw 247 rfl) (wh hw 248 rfl) (wh hw 249 rfl) (wh hw 250 rfl) (wh hw 251 rfl) (wh hw 252 rfl) (wh hw 253 rfl) (wh hw 245 rfl) (W := 0) (own_nextF l Z a0 hw [] r_48 xm (3 : Int32) xt xk Value.null (2 : Int32) x1 x1 (Value.ref x2) (Value.ref x3) x2 v0 h48 n0 O49 c48_0 (show n0 ≤ r_48 by first | assumption | omega | decide) c48_1 c48_2 c48_3 c48_4 c48_5 f325 f326 f327 f328 (show @LT.lt Nat _ xm r_48 by first | assumption | omega | decide) (show @LT.lt Nat _ xt r_48 by first | assumption | omega | decide) (show @LT.lt Nat _ x1 r_48 by first | assumption | omega | decide) f329 (show ¬ (2 : Int32) < 0 ∧ (2 : Int32) < (16 : Int32) ∧ List.getD ([.null, .ref x1, (Value.ref x2), (Value.ref x3), .null, .null, .null, .null, .null, .null, .null, .null, .null, .null, .null, .null] : List Value) (2 : Int32).toNatClampNeg .null = .ref x2 from (by first | exact ⟨by decide, by decide, rfl⟩ | assumption))) (wh hw 254 rfl) (wh hw 213 rfl) e324 c48_0  hml (argsL := []) (rest := []) own_pd_24 d22_145 (fun _ T330 L330 X330 hQ330 => ?_)
  obtain ⟨h330, e330⟩ : ∃ z, T330.heap = z := ⟨_, rfl⟩
  rw [e330] at hQ330
  obtain ⟨Nc330, Kc330, rfl, c330_0, c330_1, c330_2, c330_3, c330_4⟩ := hQ330
  have N330 := Fr.app N324 Nc330
  have O331 := O49.keep Kc330 (allS (show n0 ≤ r_48 by omega) all0)
  have sz332 : h48.size ≤ h330.size := Kc330.1
  have K333 := Keep.trans K51 Kc330 (allS (Or.inr (show h0.size ≤ r_48 by omega)) all0)
  have f334 := ((((((((P23.ext E3).wr W9).ext E16).wr W22).ext E33).keep Kc43).keep Kc48).keep Kc330)
  obtain ⟨T335, X335, e335, st335⟩ := castY X330 hx hZ hown (wh hw 263 rfl) e330 (Ins.self f334) (g := (mkF m 150 #[vR xa, vR xl, vR xm, vI 0, vR b33, vI 0, vR r_48, uS] [.ref v0])) rfl rfl (hb hby d22_150)
  refine gg st335 ?_
  have f336 := ((((((((P24.ext E3).other W9 (Or.inl (nE v0 xa (by omega)))).ext E16).other W22 (Or.inl (nE v0 xa (by omega)))).ext E33).keep Kc43 (ninS (nE v0 xm (by omega)) nin0)).keep Kc48 nin0).keep Kc330 (ninS (nE v0 r_48 (by omega)) nin0))
  refine k_V X335 hx hby hZ hown (wh hw 265 rfl) (wh hw 266 rfl) (wh hw 268 rfl) (wh hw 267 rfl) (W := 0) (own_intValue l Z a0 hw [] v0 u0 h330 n0 O331 f336) (wh hw 269 rfl) (wh hw 68 rfl) e335 f334  hml (argsL := []) (rest := []) own_pd_6 d22_153 (fun _ T337 L337 X337 hQ337 => ?_)
  obtain ⟨Nc337, e337, rfl⟩ := hQ337
  have N337 := Fr.app N330 Nc337
  refine q_istore X337 hx hby d22_156 (l' := #[vR xa, vR xl, vR xm, vI 0, vR b33, vI 0, vR r_48, vI u0]) rfl ?_
  refine q_iload X337 hx hby d22_158 rfl ?_
  refine q_iconst X337 hx hby d22_160 ?_
  by_cases hc338 : u0 < (1 : Int32)
  · refine q_icmpYes (pc := 161) X337 hx hby d22_161 (pc' := 167) (tlt hc338).1 (by decide) (by decide) ?_
    refine q_iload X337 hx hby d22_167 rfl ?_
    refine q_ifYes (pc := 169) X337 hx hby d22_169 (pc' := 182) ((if0 _ _).trans (flt (show ¬ ((0 : Int32) < u0) from (own_posF hc338))).2.2.2) (by decide) (by decide) ?_
    show own_Goes p e below (T337.setTop (mkF m 182 #[vR xa, vR xl, vR xm, vI 0, vR b33, vI 0, vR r_48, vI u0] [])) _
    refine q_goto (pc := 182) X337 hx hby d22_182 (pc' := 133) (by decide) (by decide) ?_
    have f339 := (((((f21.wr W22).ext E33).keep Kc43).keep Kc48).keep Kc330)
    have f340 := ((((((((P3.ext E3).other W9 (Or.inr (slot_ne (Or.inr (wh hw 273 rfl)) (Or.inr (wh hw 168 rfl)) (by decide) (t := .int) (t' := (.array .boolean)) (by decide) (by decide)))).ext E16).other W22 (Or.inr (slot_ne (Or.inr (wh hw 273 rfl)) (Or.inr (wh hw 171 rfl)) (by decide) (t := .int) (t' := (.array .int)) (by decide) (by decide)))).ext E33).keep Kc43 (ninS (nE xa xm (by omega)) nin0)).keep Kc48 nin0).keep Kc330 (ninS (nE xa r_48 (by omega)) nin0))
    have f341 := ((((((((P4.ext E3).other W9 (Or.inr (slot_ne (Or.inr (wh hw 288 rfl)) (Or.inr (wh hw 168 rfl)) (by decide) (t := (.array .int)) (t' := (.array .boolean)) (by decide) (by decide)))).ext E16).other W22 (Or.inr (slot_ne (Or.inr (wh hw 288 rfl)) (Or.inr (wh hw 171 rfl)) (by decide) (t := (.array .int)) (t' := (.array .int)) (by decide) (by decide)))).ext E33).keep Kc43 (ninS (nE xa xm (by omega)) nin0)).keep Kc48 nin0).keep Kc330 (ninS (nE xa r_48 (by omega)) nin0))
    have f342 := (c48_0.keep Kc330)
    have f343 := (f325.keep Kc330 (ninS (nE xm r_48 (by omega)) nin0))
    have f344 := (f326.keep Kc330 (ninS (nE xm r_48 (by omega)) nin0))
    have f345 := (f327.keep Kc330 (ninS (nE xt r_48 (by omega)) nin0))
    have f346 := ((((((((P30.ext E3).other W9 (Or.inl (nE x2 xa (by omega)))).ext E16).other W22 (Or.inl (nE x2 xa (by omega)))).ext E33).keep Kc43 (ninS (nE x2 xm (by omega)) nin0)).keep Kc48 nin0).keep Kc330 (ninS (nE x2 r_48 (by omega)) nin0))
    have f347 := ((((((((P31.ext E3).other W9 (Or.inl (nE x2 xa (by omega)))).ext E16).other W22 (Or.inl (nE x2 xa (by omega)))).ext E33).keep Kc43 (ninS (nE x2 xm (by omega)) nin0)).keep Kc48 nin0).keep Kc330 (ninS (nE x2 r_48 (by omega)) nin0))
    have f348 := ((((((((P32.ext E3).wr W9).ext E16).wr W22).ext E33).keep Kc43).keep Kc48).keep Kc330)
    have f349 := ((((((((P33.ext E3).other W9 (Or.inl (nE v1 xa (by omega)))).ext E16).other W22 (Or.inl (nE v1 xa (by omega)))).ext E33).keep Kc43 (ninS (nE v1 xm (by omega)) nin0)).keep Kc48 nin0).keep Kc330 (ninS (nE v1 r_48 (by omega)) nin0))
    have f350 := ((((((((P39.ext E3).other W9 (Or.inl (nE x3 xa (by omega)))).ext E16).other W22 (Or.inl (nE x3 xa (by omega)))).ext E33).keep Kc43 (ninS (nE x3 xm (by omega)) nin0)).keep Kc48 nin0).keep Kc330 (ninS (nE x3 r_48 (by omega)) nin0))
    have f351 := ((((((((P40.ext E3).other W9 (Or.inl (nE x3 xa (by omega)))).ext E16).other W22 (Or.inl (nE x3 xa (by omega)))).ext E33).keep Kc43 (ninS (nE x3 xm (by omega)) nin0)).keep Kc48 nin0).keep Kc330 (ninS (nE x3 r_48 (by omega)) nin0))
    have f352 := ((((((((P41.ext E3).wr W9).ext E16).wr W22).ext E33).keep Kc43).keep Kc48).keep Kc330)
    have f353 := ((((((((P42.ext E3).other W9 (Or.inl (nE v2 xa (by omega)))).ext E16).other W22 (Or.inl (nE v2 xa (by omega)))).ext E33).keep Kc43 (ninS (nE v2 xm (by omega)) nin0)).keep Kc48 nin0).keep Kc330 (ninS (nE v2 r_48 (by omega)) nin0))
    have f354 := (((Ex33.keep Kc43).keep Kc48).keep Kc330)
    have f355 := (((V33.keep Kc43 (ninS (nE b33 xm (by omega)) nin0)).keep Kc48 nin0).keep Kc330 (ninS (nE b33 r_48 (by omega)) nin0))
    exact C_1_0 _ _ _ (by have := own_ltI hc338; have := own_i1; omega) ⟨X337, e337, N337, O331, K333, f339, f340, f341, f342, c330_2, c330_0, c330_1, c330_3, c330_4, f343, f344, f345, f346, f347, f348, f349, f350, f351, f352, f353, f354, f355⟩
  · refine q_icmpNo X337 hx hby d22_161 (flt hc338).1 ?_
    refine gg (fun t k => XS.iinc X337.here hx rfl (hb hby d22_164) rfl (l' := #[vR xa, vR xl, vR xm, vI ((0 : Int32) + (1 : Int32)), vR b33, vI 0, vR r_48, vI u0]) rfl k) ?_
    show own_Goes p e below (T337.setTop (mkF m 167 #[vR xa, vR xl, vR xm, vI ((0 : Int32) + (1 : Int32)), vR b33, vI 0, vR r_48, vI u0] [])) _
    rw [show ((0 : Int32) + (1 : Int32)) = (1 : Int32) from by decide]
    refine q_iload X337 hx hby d22_167 rfl ?_
    refine q_ifNo X337 hx hby d22_169 ((if0 _ _).trans (tlt (show ((0 : Int32) < u0) from (own_posT hc338))).2.2.2) ?_
    refine q_aload X337 hx hby d22_172 rfl rfl ?_
    refine q_iload X337 hx hby d22_174 rfl ?_
    refine q_iload X337 hx hby d22_176 rfl ?_
    have f356 := (((V33.keep Kc43 (ninS (nE b33 xm (by omega)) nin0)).keep Kc48 nin0).keep Kc330 (ninS (nE b33 r_48 (by omega)) nin0))
    refine q_stI X337 hx hby hZ e337 f356 0 d22_178 (fun T358 h358 X358 e358 W358 V358 => ?_)
    have O359 := O331.wr W358 (show n0 ≤ b33 by omega)
    have sz360 : h358.size = h330.size := Wr.size W358
    have K361 := K333.wr W358 (Or.inr (show h0.size ≤ b33 by omega))
    have N358 := Fr.snoc X358 N337 (show n0 ≤ b33 by omega)
    have V358 : Arv Z h358 b33 k33 .int (3 : Int32) [.int u0, .int 0, .int 0] (.int 0) := V358
    refine gg (fun t k => XS.iinc X358.here hx rfl (hb hby d22_179) rfl (l' := #[vR xa, vR xl, vR xm, vI 1, vR b33, vI ((0 : Int32) + (1 : Int32)), vR r_48, vI u0]) rfl k) ?_
    show own_Goes p e below (T358.setTop (mkF m 182 #[vR xa, vR xl, vR xm, vI 1, vR b33, vI ((0 : Int32) + (1 : Int32)), vR r_48, vI u0] [])) _
    rw [show ((0 : Int32) + (1 : Int32)) = (1 : Int32) from by decide]
    refine q_goto (pc := 182) X358 hx hby d22_182 (pc' := 133) (by decide) (by decide) ?_
    have f362 := ((((((f21.wr W22).ext E33).keep Kc43).keep Kc48).keep Kc330).wr W358)
    have f363 := (((((((((P3.ext E3).other W9 (Or.inr (slot_ne (Or.inr (wh hw 273 rfl)) (Or.inr (wh hw 168 rfl)) (by decide) (t := .int) (t' := (.array .boolean)) (by decide) (by decide)))).ext E16).other W22 (Or.inr (slot_ne (Or.inr (wh hw 273 rfl)) (Or.inr (wh hw 171 rfl)) (by decide) (t := .int) (t' := (.array .int)) (by decide) (by decide)))).ext E33).keep Kc43 (ninS (nE xa xm (by omega)) nin0)).keep Kc48 nin0).keep Kc330 (ninS (nE xa r_48 (by omega)) nin0)).other W358 (Or.inl (nE xa b33 (by omega))))
    have f364 := (((((((((P4.ext E3).other W9 (Or.inr (slot_ne (Or.inr (wh hw 288 rfl)) (Or.inr (wh hw 168 rfl)) (by decide) (t := (.array .int)) (t' := (.array .boolean)) (by decide) (by decide)))).ext E16).other W22 (Or.inr (slot_ne (Or.inr (wh hw 288 rfl)) (Or.inr (wh hw 171 rfl)) (by decide) (t := (.array .int)) (t' := (.array .int)) (by decide) (by decide)))).ext E33).keep Kc43 (ninS (nE xa xm (by omega)) nin0)).keep Kc48 nin0).keep Kc330 (ninS (nE xa r_48 (by omega)) nin0)).other W358 (Or.inl (nE xa b33 (by omega))))
    have f365 := ((c48_0.keep Kc330).wr W358)
    have f366 := (c330_2.other W358 (Or.inl (nE r_48 b33 (by omega))))
    have f367 := (c330_0.other W358 (Or.inl (nE r_48 b33 (by omega))))
    have f368 := (c330_1.other W358 (Or.inl (nE r_48 b33 (by omega))))
    have f369 := (c330_3.other W358 (Or.inl (nE r_48 b33 (by omega))))
    have f370 := (c330_4.other W358 (Or.inl (nE r_48 b33 (by omega))))
    have f371 := ((f325.keep Kc330 (ninS (nE xm r_48 (by omega)) nin0)).other W358 (Or.inl (nE xm b33 (by omega))))
    have f372 := ((f326.keep Kc330 (ninS (nE xm r_48 (by omega)) nin0)).other W358 (Or.inl (nE xm b33 (by omega))))
    have f373 := ((f327.keep Kc330 (ninS (nE xt r_48 (by omega)) nin0)).other W358 (nE xt b33 (by omega)))
    have f374 := (((((((((P30.ext E3).other W9 (Or.inl (nE x2 xa (by omega)))).ext E16).other W22 (Or.inl (nE x2 xa (by omega)))).ext E33).keep Kc43 (ninS (nE x2 xm (by omega)) nin0)).keep Kc48 nin0).keep Kc330 (ninS (nE x2 r_48 (by omega)) nin0)).other W358 (Or.inl (nE x2 b33 (by omega))))
    have f375 := (((((((((P31.ext E3).other W9 (Or.inl (nE x2 xa (by omega)))).ext E16).other W22 (Or.inl (nE x2 xa (by omega)))).ext E33).keep Kc43 (ninS (nE x2 xm (by omega)) nin0)).keep Kc48 nin0).keep Kc330 (ninS (nE x2 r_48 (by omega)) nin0)).other W358 (Or.inl (nE x2 b33 (by omega))))
    have f376 := (((((((((P32.ext E3).wr W9).ext E16).wr W22).ext E33).keep Kc43).keep Kc48).keep Kc330).wr W358)
    have f377 := (((((((((P33.ext E3).other W9 (Or.inl (nE v1 xa (by omega)))).ext E16).other W22 (Or.inl (nE v1 xa (by omega)))).ext E33).keep Kc43 (ninS (nE v1 xm (by omega)) nin0)).keep Kc48 nin0).keep Kc330 (ninS (nE v1 r_48 (by omega)) nin0)).other W358 (Or.inl (nE v1 b33 (by omega))))
    have f378 := (((((((((P39.ext E3).other W9 (Or.inl (nE x3 xa (by omega)))).ext E16).other W22 (Or.inl (nE x3 xa (by omega)))).ext E33).keep Kc43 (ninS (nE x3 xm (by omega)) nin0)).keep Kc48 nin0).keep Kc330 (ninS (nE x3 r_48 (by omega)) nin0)).other W358 (Or.inl (nE x3 b33 (by omega))))
    have f379 := (((((((((P40.ext E3).other W9 (Or.inl (nE x3 xa (by omega)))).ext E16).other W22 (Or.inl (nE x3 xa (by omega)))).ext E33).keep Kc43 (ninS (nE x3 xm (by omega)) nin0)).keep Kc48 nin0).keep Kc330 (ninS (nE x3 r_48 (by omega)) nin0)).other W358 (Or.inl (nE x3 b33 (by omega))))
    have f380 := (((((((((P41.ext E3).wr W9).ext E16).wr W22).ext E33).keep Kc43).keep Kc48).keep Kc330).wr W358)
    have f381 := (((((((((P42.ext E3).other W9 (Or.inl (nE v2 xa (by omega)))).ext E16).other W22 (Or.inl (nE v2 xa (by omega)))).ext E33).keep Kc43 (ninS (nE v2 xm (by omega)) nin0)).keep Kc48 nin0).keep Kc330 (ninS (nE v2 r_48 (by omega)) nin0)).other W358 (Or.inl (nE v2 b33 (by omega))))
    have f382 := ((((Ex33.keep Kc43).keep Kc48).keep Kc330).wr W358)
    exact C_1_1 u0 _ _ _ (by have := own_nltI hc338; have := own_i1; omega) ⟨X358, e358, N358, O359, K361, f362, f363, f364, f365, f366, f367, f368, f369, f370, f371, f372, f373, f374, f375, f376, f377, f378, f379, f380, f381, f382, V358⟩
def own_per (xd : UInt64) (xk : Int32) : UInt64 := if xk = (0 : Int32) then FP.dconst0 else FP.ddiv xd (FP.i2d xk)
theorem own_perT {xd : UInt64} {xk : Int32} (h : xk = (0 : Int32)) : own_per xd xk = FP.dconst0 := if_pos h
theorem own_perF {xd : UInt64} {xk : Int32} (h : ¬ xk = (0 : Int32)) : own_per xd xk = FP.ddiv xd (FP.i2d xk) := if_neg h
theorem own_64 {x : Int32} (h : ¬ x = (0 : Int32)) : x.toInt64 ≠ 0 := by
  intro q
  apply h
  have e := congrArg Int64.toInt q
  rw [Int32.toInt_toInt64] at e
  exact Int32.toInt_inj.mp (by rw [e]; decide)
theorem own_nn {xd : UInt64} {xk : Int32} (m : Jvm.Free.Fl.Mag64 1056 xd) (h : ¬ xk = (0 : Int32)) : Jvm.Free.Fl.NoNaN64 (FP.ddiv xd (FP.i2d xk)) := by
  rw [i2d_w xk]
  exact ((ddiv_mag m (l2d_big (own_64 h)) (by decide) (by decide)).fin (by decide)).noNaN
theorem own_nn0 : Jvm.Free.Fl.NoNaN64 FP.dconst0 := nn_w (a := 0) (by decide +kernel)
theorem own_perN {xd : UInt64} (m : Jvm.Free.Fl.Mag64 1056 xd) (xk : Int32) : Jvm.Free.Fl.NoNaN64 (own_per xd xk) := by
  by_cases h : xk = (0 : Int32)
  · rw [own_perT h]; exact own_nn0
  · rw [own_perF h]; exact own_nn m h

theorem d39_0 : decode B39 0 = .ok (.aload_n 0, 1) := by decide +kernel
theorem d39_1 : decode B39 1 = .ok (.getfield 77, 3) := by decide +kernel
theorem d39_4 : decode B39 4 = .ok (.ifCond .ne 7, 3) := by decide +kernel
theorem d39_7 : decode B39 7 = .ok (.dconst 0, 1) := by decide +kernel
theorem d39_8 : decode B39 8 = .ok (.goto 10, 3) := by decide +kernel
theorem d39_18 : decode B39 18 = .ok (.dreturn, 1) := by decide +kernel
theorem d39_11 : decode B39 11 = .ok (.dload_n 1, 1) := by decide +kernel
theorem d39_12 : decode B39 12 = .ok (.aload_n 0, 1) := by decide +kernel
theorem d39_13 : decode B39 13 = .ok (.getfield 77, 3) := by decide +kernel
theorem d39_16 : decode B39 16 = .ok (.i2d, 1) := by decide +kernel
theorem d39_17 : decode B39 17 = .ok (.ddiv, 1) := by decide +kernel
theorem own_ef_own_perC (m : MethodId) (xa : Addr) (xd : UInt64) : entryFrame m #[.ref xa, (.double xd)] 3 = mkF m 0 #[vR xa, .val (.double xd), .second] [] := by first | (simp [entryFrame, mkF, argsToLocals, Value.category]; done) | rfl
def Q_own_perC (Z : State) (xa : Addr) (xk : Int32) (xd : UInt64) (h0 : Heap) (n0 : Nat) (v : Option Value) (h : Heap) (L : List Loc) : Prop := Fr n0 L ∧ h = h0 ∧ v = some (.double (own_per xd xk))
theorem own_perC (l : Launch) (Z : State) (a0 : Array Value) (hw : ∀ d ∈ tables_1, d.before a0 Z = true) (ws : List Jvm.Cond) (xa : Addr) (xk : Int32) (xd : UInt64) (h0 : Heap) (n0 : Nat) (O0 : Old Z n0 h0) (P0 : own_RC Z h0 xa xk) (P1 : Jvm.Free.Fl.Mag64 1056 xd) : own_Met l Z (⟨"com/example/dolm/dolm/eval/JudgedRanking", "perRelevant", "(D)D"⟩ : MethodName) prog_9_method_7_code 3 (some .double) ws ({ frames := 0, cells := 0, slots := 0, locals := 0 } : Room) #[.ref xa, (.double xd)] h0 (Q_own_perC Z xa xk xd h0 n0) := by
  refine own_mk (plainFor_of_name own_pn_com_example_dolm_dolm_eval_JudgedRanking) O0 ?_
  intro p e s m below meth c s₁ hx hby hml hZ hown hnm hlk hret X0 e0 N0 z0 z1
  refine own_cast (own_ef_own_perC m xa xd) ?_
  show own_Goes p e below (s₁.setTop (mkF m 0 #[vR xa, .val (.double xd), .second] [])) _
  have Fg : Fld Z h0 xa "com/example/dolm/dolm/eval/JudgedRanking" "relevantCount" "I" (.int xk) := P0
  refine q_aloadN X0 hx hby d39_0 rfl rfl ?_
  refine qG X0 hx hby hZ hown (wh hw 272 rfl) e0 Fg d39_1 (fun T1 X1 e1 => ?_)
  by_cases hc2 : xk = (0 : Int32)
  · refine q_ifNo X1 hx hby d39_4 ((if0 _ _).trans (teq hc2).2) ?_
    refine gg (fun t k => XS.dconst0 X1.here hx rfl (hb hby d39_7) (v := FP.dconst0) rfl k) ?_
    refine q_goto (pc := 8) X1 hx hby d39_8 (pc' := 18) (by decide) (by decide) ?_
    refine own_endN X1 (v := (some (.double FP.dconst0))) (fun h => by rw [hret] at h; cases h) hlk (by decide) (by decide) ?_ (fun fs hr => retOut X1 hx hret rfl (Or.inr (Or.inr (Or.inl ⟨rfl, rfl, _, rfl⟩))) (hb hby d39_18) hr)
    show Q_own_perC Z xa xk xd h0 n0 _ T1.heap _
    rw [e1]
    exact ⟨N0, rfl, (by rw [own_perT hc2] <;> rfl)⟩
  · refine q_ifYes (pc := 4) X1 hx hby d39_4 (pc' := 11) ((if0 _ _).trans (feq hc2).2) (by decide) (by decide) ?_
    refine gg (fun t k => XS.dloadN X1.here hx rfl (hb hby d39_11) rfl k) ?_
    refine q_aloadN X1 hx hby d39_12 rfl rfl ?_
    refine qG X1 hx hby hZ hown (wh hw 272 rfl) e1 Fg d39_13 (fun T3 X3 e3 => ?_)
    refine gg (fun t k => XS.i2dS X3.here hx rfl (hb hby d39_16) rfl (v := (FP.i2d xk)) rfl k) ?_
    refine gg (fun t k => XS.ddivS X3.here hx rfl (hb hby d39_17) rfl (own_nn P1 hc2) (v := (FP.ddiv xd (FP.i2d xk))) rfl k) ?_
    refine own_endN X3 (v := (some (.double (FP.ddiv xd (FP.i2d xk))))) (fun h => by rw [hret] at h; cases h) hlk (by decide) (by decide) ?_ (fun fs hr => retOut X3 hx hret rfl (Or.inr (Or.inr (Or.inl ⟨rfl, rfl, _, rfl⟩))) (hb hby d39_18) hr)
    show Q_own_perC Z xa xk xd h0 n0 _ T3.heap _
    rw [e3]
    exact ⟨N0, rfl, (by rw [own_perF hc2] <;> rfl)⟩
theorem d40_0 : decode B40 0 = .ok (.iload_n 0, 1) := by decide +kernel
theorem d40_1 : decode B40 1 = .ok (.iconst 1, 1) := by decide +kernel
theorem d40_2 : decode B40 2 = .ok (.if_icmp .lt 7, 3) := by decide +kernel
theorem d40_9 : decode B40 9 = .ok (.iconst 0, 1) := by decide +kernel
theorem d40_10 : decode B40 10 = .ok (.ireturn, 1) := by decide +kernel
theorem d40_5 : decode B40 5 = .ok (.iconst 1, 1) := by decide +kernel
theorem d40_6 : decode B40 6 = .ok (.goto 4, 3) := by decide +kernel
theorem own_pn_com_example_dolm_dolm_eval_JudgedRankingPerRelevantPinLaw : plainName "com/example/dolm/dolm/eval/JudgedRankingPerRelevantPinLaw" = true := by first | (simp [plainName, overriddenIn]; done) | decide +kernel
theorem own_ef_own_counts (m : MethodId) (xi : Int32) : entryFrame m #[.int xi] 1 = mkF m 0 #[vI xi] [] := by first | (simp [entryFrame, mkF, argsToLocals, Value.category]; done) | rfl
def Q_own_counts (Z : State) (xi : Int32) (h0 : Heap) (n0 : Nat) (v : Option Value) (h : Heap) (L : List Loc) : Prop := Fr n0 L ∧ h = h0 ∧ v = some (.int (own_c1 xi))
theorem own_counts (l : Launch) (Z : State) (a0 : Array Value) (hw : ∀ d ∈ tables_1, d.before a0 Z = true) (ws : List Jvm.Cond) (xi : Int32) (h0 : Heap) (n0 : Nat) (O0 : Old Z n0 h0) : own_Met l Z (⟨"com/example/dolm/dolm/eval/JudgedRankingPerRelevantPinLaw", "counts", "(I)I"⟩ : MethodName) method_2_code 1 (some .int) ws ({ frames := 0, cells := 0, slots := 0, locals := 0 } : Room) #[.int xi] h0 (Q_own_counts Z xi h0 n0) := by
  refine own_mk (plainFor_of_name own_pn_com_example_dolm_dolm_eval_JudgedRankingPerRelevantPinLaw) O0 ?_
  intro p e s m below meth c s₁ hx hby hml hZ hown hnm hlk hret X0 e0 N0 z0 z1
  refine own_cast (own_ef_own_counts m xi) ?_
  show own_Goes p e below (s₁.setTop (mkF m 0 #[vI xi] [])) _
  refine q_iloadN X0 hx hby d40_0 rfl ?_
  refine q_iconst X0 hx hby d40_1 ?_
  by_cases hc1 : xi < (1 : Int32)
  · refine q_icmpYes (pc := 2) X0 hx hby d40_2 (pc' := 9) (tlt hc1).1 (by decide) (by decide) ?_
    refine q_iconst X0 hx hby d40_9 ?_
    refine r_I X0 hx hby hret hlk d40_10 e0 ?_
    exact ⟨N0, rfl, (by rw [own_c1T hc1] <;> rfl)⟩
  · refine q_icmpNo X0 hx hby d40_2 (flt hc1).1 ?_
    refine q_iconst X0 hx hby d40_5 ?_
    refine q_goto (pc := 6) X0 hx hby d40_6 (pc' := 10) (by decide) (by decide) ?_
    refine r_I X0 hx hby hret hlk d40_10 e0 ?_
    exact ⟨N0, rfl, (by rw [own_c1F hc1] <;> rfl)⟩
theorem own_pd_25 : parseMethodDescriptor "(C)Ljava/lang/String;" = some ⟨[.char], some (.object "java/lang/String")⟩ := by decide +kernel
theorem own_pd_26 : parseMethodDescriptor "(I)Ljava/lang/Integer;" = some ⟨[.int], some (.object "java/lang/Integer")⟩ := by decide +kernel
theorem own_pd_27 : parseMethodDescriptor "(Ljava/lang/Object;Ljava/lang/Object;)Ljava/lang/Object;" = some ⟨[(.object "java/lang/Object"), (.object "java/lang/Object")], some (.object "java/lang/Object")⟩ := by decide +kernel
theorem own_pd_28 : parseMethodDescriptor "(Ljava/util/List;Ljava/util/Map;)V" = some ⟨[(.object "java/util/List"), (.object "java/util/Map")], none⟩ := by decide +kernel
theorem own_pd_29 : parseMethodDescriptor "(D)D" = some ⟨[.double], some .double⟩ := by decide +kernel
theorem own_pd_30 : parseMethodDescriptor "(I)I" = some ⟨[.int], some .int⟩ := by decide +kernel
theorem own_ef_rm0 (m : MethodId) (x0 : Int32) (x1 : Int32) (x2 : Int32) (x3 : Int32) : entryFrame m #[.int x0, .int x1, .int x2, .int x3] maxLocals = mkF m 0 #[vI x0, vI x1, vI x2, vI x3, uS, uS, uS, uS, uS, uS, uS, uS, uS, uS] [] := by first | (simp [entryFrame, mkF, argsToLocals, Value.category, maxLocals]; done) | rfl
def Q_rm0 (Z : State) (x0 : Int32) (x1 : Int32) (x2 : Int32) (x3 : Int32) (gwD : Addr) (gz : Int32) (gwc : Addr) (gcl : Cell) (h0 : Heap) (n0 : Nat) (v : Option Value) (h : Heap) (L : List Loc) : Prop := Fr n0 L ∧ True ∧ v = some (.int 1)
theorem rm0 (l : Launch) (Z : State) (a0 : Array Value) (hw : ∀ d ∈ tables_1, d.before a0 Z = true) (ws : List Jvm.Cond) (x0 : Int32) (x1 : Int32) (x2 : Int32) (x3 : Int32) (h0 : Heap) (n0 : Nat) (O0 : Old Z n0 h0) (gwD : Addr) (gz : Int32) (gwc : Addr) (gcl : Cell) (G : GG Z gwD gz gwc gcl) :
    MetFree l x (head1 (Jvm.Cond.code x code maxLocals ret :: ws) room_1) (fun as_ U_ => as_ = #[.int x0, .int x1, .int x2, .int x3] ∧ Z.Warmed39 U_.vm ∧ U_.heap = h0) (fun _ _ _ _ _ => True) (fun _ U_ o_ U2_ => ∃ v_ L_, o_ = .returned v_ ∧ Q_rm0 Z x0 x1 x2 x3 gwD gz gwc gcl h0 n0 v_ U2_.heap L_ ∧ FrameEnd U_ o_ U2_ L_ room_1.cells room_1.slots) := by
  refine MetFree.of_bodySF (plainFor_of_name own_pn_com_example_dolm_dolm_eval_JudgedRankingPerRelevantPinLaw) hisR ?_
  intro p e s m args below meth c s₁ Bd hml0 hP hK
  obtain ⟨rfl, hZ, hh⟩ := hP
  have hx := Bd.exec
  have hby := Bd.bytes
  have hml : c.maxLocals = 14 := hml0
  have hown : s.vm.findClass "com/example/dolm/dolm/eval/JudgedRankingPerRelevantPinLaw" = some m.cls := findClass_of_methodNamed Bd.named
  have hnm := (name_of_methodNamed Bd.named Bd.method).1
  have hlk : meth.locks = false := Bd.notSynchronized
  have hret := Bd.returns
  have X0 : Stand p l e room_1 s m #[.int x0, .int x1, .int x2, .int x3] below meth c s₁ [] 0 0 := Stand.of_body Bd
  have e0 : s₁.heap = h0 := by rw [← hh, Bd.state]; rfl
  have N0 := Fr.nil n0
  have z0 : Z.heap.size = n0 := O0.1
  have z1 : n0 ≤ h0.size := z0 ▸ O0.2.1
  show own_Goes p e below (s₁.setTop (entryFrame m #[.int x0, .int x1, .int x2, .int x3] maxLocals)) (own_PostN s (Q_rm0 Z x0 x1 x2 x3 gwD gz gwc gcl h0 n0) room_1.cells room_1.slots)
  refine own_cast (own_ef_rm0 m x0 x1 x2 x3) ?_
  show own_Goes p e below (s₁.setTop (mkF m 0 #[vI x0, vI x1, vI x2, vI x3, uS, uS, uS, uS, uS, uS, uS, uS, uS, uS] [])) _
  obtain ⟨G0, G1, G2, G3, G4, G5, G6⟩ := id G
  have ltG1 : @LT.lt Nat _ gwD Z.heap.size := G1.lt
  obtain ⟨T1, h1, X1, e1, E1, A1, D1, -, st1⟩ := newO X0 hx hZ hown (wh hw 0 rfl) (wh hw 1 rfl) (wh hw 2 rfl) e0 (g := (mkF m 0 #[vI x0, vI x1, vI x2, vI x3, uS, uS, uS, uS, uS, uS, uS, uS, uS, uS] [])) rfl (hb hby at_0) (by decide) (by decide)
  obtain ⟨b1, g1⟩ : ∃ z, z = h0.size := ⟨_, rfl⟩
  rw [← g1] at A1 D1 st1
  refine gg st1 ?_
  have O2 := O0.ext E1
  have sz3 : h0.size ≤ h1.size := E1.1
  have l1 : @LT.lt Nat _ b1 h1.size := A1.lt
  have F1_modCount : Fld Z h1 b1 "java/util/AbstractList" "modCount" "I" (.int 0) := D1 (Or.inl (wh hw 22 rfl)) (ty := .int) (by decide)
  have F1_elementData : Fld Z h1 b1 "java/util/ArrayList" "elementData" "[Ljava/lang/Object;" .null := D1 (Or.inl (wh hw 25 rfl)) (ty := (.array (.object "java/lang/Object"))) (by decide)
  have F1_size : Fld Z h1 b1 "java/util/ArrayList" "size" "I" (.int 0) := D1 (Or.inl (wh hw 165 rfl)) (ty := .int) (by decide)
  refine q_dup X1 hx hby at_3 rfl ?_
  refine k_N X1 hx hby hZ hown (wh hw 3 rfl) (wh hw 4 rfl) (W := 1) (own_alInit l Z a0 hw [] b1 h1 n0 O2 gwD gz gwc gcl G A1 F1_modCount (show n0 ≤ b1 by first | assumption | omega | decide) F1_elementData F1_size) (wh hw 5 rfl) (wh hw 2 rfl) e1  hml (argsL := []) (rest := [.ref b1]) own_pd_0 at_4 (fun _ T4 L4 X4 hQ4 => ?_)
  obtain ⟨h4, e4⟩ : ∃ z, T4.heap = z := ⟨_, rfl⟩
  rw [e4] at hQ4
  obtain ⟨Nc4, Kc4, rfl, c4_0⟩ := hQ4
  have N4 := Fr.app N0 Nc4
  have O5 := O2.keep Kc4 (allS (show n0 ≤ b1 by omega) all0)
  have sz6 : h1.size ≤ h4.size := Kc4.1
  refine q_astore X4 hx hby at_7 rfl (l' := #[vI x0, vI x1, vI x2, vI x3, vR b1, uS, uS, uS, uS, uS, uS, uS, uS, uS]) rfl ?_
  obtain ⟨T7, h7, X7, e7, E7, A7, D7, -, st7⟩ := newO X4 hx hZ hown (wh hw 26 rfl) (wh hw 27 rfl) (wh hw 28 rfl) e4 (g := (mkF m 9 #[vI x0, vI x1, vI x2, vI x3, vR b1, uS, uS, uS, uS, uS, uS, uS, uS, uS] [])) rfl (hb hby at_9) (by decide) (by decide)
  obtain ⟨b7, g7⟩ : ∃ z, z = h4.size := ⟨_, rfl⟩
  rw [← g7] at A7 D7 st7
  refine gg st7 ?_
  have O8 := O5.ext E7
  have sz9 : h4.size ≤ h7.size := E7.1
  have l7 : @LT.lt Nat _ b7 h7.size := A7.lt
  have F7_loadFactor : Fld Z h7 b7 "java/util/HashMap" "loadFactor" "F" (.float (0 : UInt32)) := D7 (Or.inr (wh hw 41 rfl)) (ty := .float) (by decide)
  have F7_table : Fld Z h7 b7 "java/util/HashMap" "table" "[Ljava/util/HashMap$Node;" .null := D7 (Or.inl (wh hw 109 rfl)) (ty := (.array (.object "java/util/HashMap$Node"))) (by decide)
  have F7_threshold : Fld Z h7 b7 "java/util/HashMap" "threshold" "I" (.int 0) := D7 (Or.inl (wh hw 116 rfl)) (ty := .int) (by decide)
  have F7_modCount : Fld Z h7 b7 "java/util/HashMap" "modCount" "I" (.int 0) := D7 (Or.inl (wh hw 140 rfl)) (ty := .int) (by decide)
  have F7_size : Fld Z h7 b7 "java/util/HashMap" "size" "I" (.int 0) := D7 (Or.inl (wh hw 142 rfl)) (ty := .int) (by decide)
  have F7_values : Fld Z h7 b7 "java/util/AbstractMap" "values" "Ljava/util/Collection;" .null := D7 (Or.inl (wh hw 190 rfl)) (ty := (.object "java/util/Collection")) (by decide)
  refine q_dup X7 hx hby at_12 rfl ?_
  refine k_N X7 hx hby hZ hown (wh hw 29 rfl) (wh hw 30 rfl) (W := 1) (own_hmInit l Z a0 hw [] b7 h7 n0 O8 A7 F7_loadFactor (show n0 ≤ b7 by first | assumption | omega | decide) F7_size F7_modCount F7_threshold F7_table F7_values) (wh hw 31 rfl) (wh hw 28 rfl) e7  hml (argsL := []) (rest := [.ref b7]) own_pd_0 at_13 (fun _ T10 L10 X10 hQ10 => ?_)
  obtain ⟨h10, e10⟩ : ∃ z, T10.heap = z := ⟨_, rfl⟩
  rw [e10] at hQ10
  obtain ⟨Nc10, Kc10, rfl, c10_0, c10_1, c10_2, c10_3, c10_4⟩ := hQ10
  have N10 := Fr.app N4 Nc10
  have O11 := O8.keep Kc10 (allS (show n0 ≤ b7 by omega) all0)
  have sz12 : h7.size ≤ h10.size := Kc10.1
  refine q_astore X10 hx hby at_16 rfl (l' := #[vI x0, vI x1, vI x2, vI x3, vR b1, vR b7, uS, uS, uS, uS, uS, uS, uS, uS]) rfl ?_
  refine q_aload X10 hx hby at_18 rfl rfl ?_
  refine q_bipush X10 hx hby at_20 ?_
  refine k_S X10 hx hby hZ hown (wh hw 42 rfl) (wh hw 43 rfl) (W := 1) (own_vOf l Z a0 hw [] (97 : Int32) h10 n0 O11 gwD gz gwc gcl G (show own_chr (97 : Int32) from (by first | assumption | exact own_chr97 | exact own_chr98 | exact own_chr99))) (wh hw 45 rfl) (wh hw 44 rfl) e10  hml (argsL := [.int 97]) (rest := [.ref b7]) own_pd_25 at_22 (fun _ T13 L13 X13 hQ13 => ?_)
  obtain ⟨h13, e13⟩ : ∃ z, T13.heap = z := ⟨_, rfl⟩
  rw [e13] at hQ13
  obtain ⟨Nc13, Kc13, r_13, rb_13, rk_13, rfl, c13_0, c13_1, c13_2, c13_3, c13_4, c13_5, c13_6, c13_7⟩ := hQ13
  have N13 := Fr.app N10 Nc13
  have O14 := O11.keep Kc13 all0
  have sz15 : h10.size ≤ h13.size := Kc13.1
  have ltc13_0 : @LT.lt Nat _ r_13 h13.size := c13_0.lt
  have ltc13_5 : @LT.lt Nat _ rb_13 h13.size := c13_5.lt
  refine q_iloadN X13 hx hby at_25 rfl ?_
  refine k_S X13 hx hby hZ hown (wh hw 66 rfl) (wh hw 67 rfl) (W := 2) (own_intValueOf l Z a0 hw [] x1 h13 n0 O14 gwD gz gwc gcl G) (wh hw 69 rfl) (wh hw 68 rfl) e13  hml (argsL := [.int x1]) (rest := [.ref r_13, .ref b7]) own_pd_26 at_26 (fun _ T16 L16 X16 hQ16 => ?_)
  obtain ⟨h16, e16⟩ : ∃ z, T16.heap = z := ⟨_, rfl⟩
  rw [e16] at hQ16
  obtain ⟨Nc16, Kc16, r_16, rfl, c16_0, c16_1, c16_2⟩ := hQ16
  have N16 := Fr.app N13 Nc16
  have O17 := O14.keep Kc16 all0
  have sz18 : h13.size ≤ h16.size := Kc16.1
  have ltc16_0 : @LT.lt Nat _ r_16 h16.size := c16_0.lt
  have f19 := (((A7.keep Kc10).keep Kc13).keep Kc16)
  have f20 := ((c10_0.keep Kc13 nin0).keep Kc16 nin0)
  have f21 := ((c10_1.keep Kc13 nin0).keep Kc16 nin0)
  have f22 := ((c10_2.keep Kc13 nin0).keep Kc16 nin0)
  have f23 := ((c10_3.keep Kc13 nin0).keep Kc16 nin0)
  have f24 := ((c10_4.keep Kc13 nin0).keep Kc16 nin0)
  have f25 := (c13_0.keep Kc16)
  have f26 := (c13_1.keep Kc16 nin0)
  have f27 := (c13_2.keep Kc16 nin0)
  have f28 := (c13_3.keep Kc16 nin0)
  have f29 := (c13_4.keep Kc16 nin0)
  have f30 := (c13_5.keep Kc16 nin0)
  refine k_I X16 hx hby hZ hown (wh hw 73 rfl) (wh hw 74 rfl) (wh hw 75 rfl) (wh hw 76 rfl) (wh hw 77 rfl) (wh hw 78 rfl) (wh hw 79 rfl) (wh hw 80 rfl) (W := 0) (own_put0 l Z a0 hw [] b7 r_13 rb_13 rk_13 r_16 h16 n0 O17 gwD gz gwc gcl G f19 (show n0 ≤ b7 by first | assumption | omega | decide) f20 f21 f22 f23 f24 f25 f26 f27 f28 f29 f30 (show n0 ≤ r_13 by first | assumption | omega | decide) (show @LT.lt Nat _ b7 r_13 by first | assumption | omega | decide) (show @LT.lt Nat _ r_13 rb_13 by first | assumption | omega | decide)) (wh hw 81 rfl) (wh hw 28 rfl) e16 f19  hml (argsL := [.ref r_13, .ref r_16]) (rest := []) own_pd_27 at_29 (fun _ T31 L31 X31 hQ31 => ?_)
  obtain ⟨h31, e31⟩ : ∃ z, T31.heap = z := ⟨_, rfl⟩
  rw [e31] at hQ31
  obtain ⟨Nc31, Kc31, rt_31, rk_31, r_31, rfl, c31_0, c31_1, c31_2, c31_3, c31_4, c31_5, c31_6, c31_7, c31_8, c31_9, c31_10, c31_11⟩ := hQ31
  have N31 := Fr.app N16 Nc31
  have O32 := O17.keep Kc31 (allS (show n0 ≤ b7 by omega) (allS (show n0 ≤ r_13 by omega) all0))
  have sz33 : h16.size ≤ h31.size := Kc31.1
  have ltc31_5 : @LT.lt Nat _ rt_31 h31.size := c31_5.lt
  have ltc31_6 : @LT.lt Nat _ r_31 h31.size := c31_6.lt
  show own_Goes p e below (T31.setTop (mkF m 34 #[vI x0, vI x1, vI x2, vI x3, vR b1, vR b7, uS, uS, uS, uS, uS, uS, uS, uS] [.null])) _
  refine gg (fun t k => XS.pop X31.here hx rfl (hb hby at_34) rfl rfl k) ?_
  refine q_aload X31 hx hby at_35 rfl rfl ?_
  refine q_bipush X31 hx hby at_37 ?_
  refine k_S X31 hx hby hZ hown (wh hw 42 rfl) (wh hw 43 rfl) (W := 1) (own_vOf l Z a0 hw [] (98 : Int32) h31 n0 O32 gwD gz gwc gcl G (show own_chr (98 : Int32) from (by first | assumption | exact own_chr97 | exact own_chr98 | exact own_chr99))) (wh hw 45 rfl) (wh hw 44 rfl) e31  hml (argsL := [.int 98]) (rest := [.ref b7]) own_pd_25 at_39 (fun _ T34 L34 X34 hQ34 => ?_)
  obtain ⟨h34, e34⟩ : ∃ z, T34.heap = z := ⟨_, rfl⟩
  rw [e34] at hQ34
  obtain ⟨Nc34, Kc34, r_34, rb_34, rk_34, rfl, c34_0, c34_1, c34_2, c34_3, c34_4, c34_5, c34_6, c34_7⟩ := hQ34
  have N34 := Fr.app N31 Nc34
  have O35 := O32.keep Kc34 all0
  have sz36 : h31.size ≤ h34.size := Kc34.1
  have ltc34_0 : @LT.lt Nat _ r_34 h34.size := c34_0.lt
  have ltc34_5 : @LT.lt Nat _ rb_34 h34.size := c34_5.lt
  refine q_iloadN X34 hx hby at_42 rfl ?_
  refine k_S X34 hx hby hZ hown (wh hw 66 rfl) (wh hw 67 rfl) (W := 2) (own_intValueOf l Z a0 hw [] x2 h34 n0 O35 gwD gz gwc gcl G) (wh hw 69 rfl) (wh hw 68 rfl) e34  hml (argsL := [.int x2]) (rest := [.ref r_34, .ref b7]) own_pd_26 at_43 (fun _ T37 L37 X37 hQ37 => ?_)
  obtain ⟨h37, e37⟩ : ∃ z, T37.heap = z := ⟨_, rfl⟩
  rw [e37] at hQ37
  obtain ⟨Nc37, Kc37, r_37, rfl, c37_0, c37_1, c37_2⟩ := hQ37
  have N37 := Fr.app N34 Nc37
  have O38 := O35.keep Kc37 all0
  have sz39 : h34.size ≤ h37.size := Kc37.1
  have ltc37_0 : @LT.lt Nat _ r_37 h37.size := c37_0.lt
  have f40 := (((f19.keep Kc31).keep Kc34).keep Kc37)
  have f41 := ((c31_0.keep Kc34 nin0).keep Kc37 nin0)
  have f42 := ((c31_1.keep Kc34 nin0).keep Kc37 nin0)
  have f43 := ((c31_2.keep Kc34 nin0).keep Kc37 nin0)
  have f44 := ((c31_3.keep Kc34 nin0).keep Kc37 nin0)
  have f45 := ((c31_4.keep Kc34 nin0).keep Kc37 nin0)
  have f46 := ((c31_5.keep Kc34 nin0).keep Kc37 nin0)
  have f47 := (c34_0.keep Kc37)
  have f48 := (c34_1.keep Kc37 nin0)
  have f49 := (c34_2.keep Kc37 nin0)
  have f50 := (c34_3.keep Kc37 nin0)
  have f51 := (c34_4.keep Kc37 nin0)
  have f52 := (c34_5.keep Kc37 nin0)
  refine k_I X37 hx hby hZ hown (wh hw 73 rfl) (wh hw 74 rfl) (wh hw 75 rfl) (wh hw 76 rfl) (wh hw 77 rfl) (wh hw 78 rfl) (wh hw 79 rfl) (wh hw 80 rfl) (W := 0) (own_put1 l Z a0 hw [] b7 rt_31 rk_31 r_31 r_34 rb_34 rk_34 r_37 h37 n0 O38 gwD gz gwc gcl G f40 (show n0 ≤ b7 by first | assumption | omega | decide) (show n0 ≤ rt_31 by first | assumption | omega | decide) (show @LT.lt Nat _ b7 rt_31 by first | assumption | omega | decide) f41 f42 f43 f44 f45 f46 (show Ovr Z rk_31 "java/util/HashMap$Node" by first | assumption | omega | decide) f47 f48 f49 f50 f51 f52 (show n0 ≤ r_34 by first | assumption | omega | decide) (show @LT.lt Nat _ rt_31 r_34 by first | assumption | omega | decide) (show @LT.lt Nat _ r_34 rb_34 by first | assumption | omega | decide)) (wh hw 81 rfl) (wh hw 28 rfl) e37 f40  hml (argsL := [.ref r_34, .ref r_37]) (rest := []) own_pd_27 at_46 (fun _ T53 L53 X53 hQ53 => ?_)
  obtain ⟨h53, e53⟩ : ∃ z, T53.heap = z := ⟨_, rfl⟩
  rw [e53] at hQ53
  obtain ⟨Nc53, Kc53, r_53, rfl, c53_0, c53_1, c53_2, c53_3, c53_4, c53_5, c53_6, c53_7, c53_8, c53_9⟩ := hQ53
  have N53 := Fr.app N37 Nc53
  have O54 := O38.keep Kc53 (allS (show n0 ≤ b7 by omega) (allS (show n0 ≤ rt_31 by omega) (allS (show n0 ≤ r_34 by omega) all0)))
  have sz55 : h37.size ≤ h53.size := Kc53.1
  have ltc53_5 : @LT.lt Nat _ rt_31 h53.size := c53_5.lt
  have ltc53_6 : @LT.lt Nat _ r_53 h53.size := c53_6.lt
  refine gg (fun t k => XS.pop X53.here hx rfl (hb hby at_51) rfl rfl k) ?_
  refine q_aload X53 hx hby at_52 rfl rfl ?_
  refine q_bipush X53 hx hby at_54 ?_
  refine k_S X53 hx hby hZ hown (wh hw 42 rfl) (wh hw 43 rfl) (W := 1) (own_vOf l Z a0 hw [] (99 : Int32) h53 n0 O54 gwD gz gwc gcl G (show own_chr (99 : Int32) from (by first | assumption | exact own_chr97 | exact own_chr98 | exact own_chr99))) (wh hw 45 rfl) (wh hw 44 rfl) e53  hml (argsL := [.int 99]) (rest := [.ref b7]) own_pd_25 at_56 (fun _ T56 L56 X56 hQ56 => ?_)
  obtain ⟨h56, e56⟩ : ∃ z, T56.heap = z := ⟨_, rfl⟩
  rw [e56] at hQ56
  obtain ⟨Nc56, Kc56, r_56, rb_56, rk_56, rfl, c56_0, c56_1, c56_2, c56_3, c56_4, c56_5, c56_6, c56_7⟩ := hQ56
  have N56 := Fr.app N53 Nc56
  have O57 := O54.keep Kc56 all0
  have sz58 : h53.size ≤ h56.size := Kc56.1
  have ltc56_0 : @LT.lt Nat _ r_56 h56.size := c56_0.lt
  have ltc56_5 : @LT.lt Nat _ rb_56 h56.size := c56_5.lt
  refine q_iloadN X56 hx hby at_59 rfl ?_
  refine k_S X56 hx hby hZ hown (wh hw 66 rfl) (wh hw 67 rfl) (W := 2) (own_intValueOf l Z a0 hw [] x3 h56 n0 O57 gwD gz gwc gcl G) (wh hw 69 rfl) (wh hw 68 rfl) e56  hml (argsL := [.int x3]) (rest := [.ref r_56, .ref b7]) own_pd_26 at_60 (fun _ T59 L59 X59 hQ59 => ?_)
  obtain ⟨h59, e59⟩ : ∃ z, T59.heap = z := ⟨_, rfl⟩
  rw [e59] at hQ59
  obtain ⟨Nc59, Kc59, r_59, rfl, c59_0, c59_1, c59_2⟩ := hQ59
  have N59 := Fr.app N56 Nc59
  have O60 := O57.keep Kc59 all0
  have sz61 : h56.size ≤ h59.size := Kc59.1
  have ltc59_0 : @LT.lt Nat _ r_59 h59.size := c59_0.lt
  have f62 := (((f40.keep Kc53).keep Kc56).keep Kc59)
  have f63 := ((c53_0.keep Kc56 nin0).keep Kc59 nin0)
  have f64 := ((c53_1.keep Kc56 nin0).keep Kc59 nin0)
  have f65 := ((c53_2.keep Kc56 nin0).keep Kc59 nin0)
  have f66 := ((c53_3.keep Kc56 nin0).keep Kc59 nin0)
  have f67 := ((c53_4.keep Kc56 nin0).keep Kc59 nin0)
  have f68 := ((c53_5.keep Kc56 nin0).keep Kc59 nin0)
  have f69 := (c56_0.keep Kc59)
  have f70 := (c56_1.keep Kc59 nin0)
  have f71 := (c56_2.keep Kc59 nin0)
  have f72 := (c56_3.keep Kc59 nin0)
  have f73 := (c56_4.keep Kc59 nin0)
  have f74 := (c56_5.keep Kc59 nin0)
  refine k_I X59 hx hby hZ hown (wh hw 73 rfl) (wh hw 74 rfl) (wh hw 75 rfl) (wh hw 76 rfl) (wh hw 77 rfl) (wh hw 78 rfl) (wh hw 79 rfl) (wh hw 80 rfl) (W := 0) (own_put2 l Z a0 hw [] b7 rt_31 rk_31 r_31 r_53 r_56 rb_56 rk_56 r_59 h59 n0 O60 gwD gz gwc gcl G f62 (show n0 ≤ b7 by first | assumption | omega | decide) (show n0 ≤ rt_31 by first | assumption | omega | decide) (show @LT.lt Nat _ b7 rt_31 by first | assumption | omega | decide) f63 f64 f65 f66 f67 f68 (show Ovr Z rk_31 "java/util/HashMap$Node" by first | assumption | omega | decide) f69 f70 f71 f72 f73 f74 (show n0 ≤ r_56 by first | assumption | omega | decide) (show @LT.lt Nat _ rt_31 r_56 by first | assumption | omega | decide) (show @LT.lt Nat _ r_56 rb_56 by first | assumption | omega | decide)) (wh hw 81 rfl) (wh hw 28 rfl) e59 f62  hml (argsL := [.ref r_56, .ref r_59]) (rest := []) own_pd_27 at_63 (fun _ T75 L75 X75 hQ75 => ?_)
  obtain ⟨h75, e75⟩ : ∃ z, T75.heap = z := ⟨_, rfl⟩
  rw [e75] at hQ75
  obtain ⟨Nc75, Kc75, r_75, rfl, c75_0, c75_1, c75_2, c75_3, c75_4, c75_5, c75_6, c75_7, c75_8, c75_9⟩ := hQ75
  have N75 := Fr.app N59 Nc75
  have O76 := O60.keep Kc75 (allS (show n0 ≤ b7 by omega) (allS (show n0 ≤ rt_31 by omega) (allS (show n0 ≤ r_56 by omega) all0)))
  have sz77 : h59.size ≤ h75.size := Kc75.1
  have ltc75_5 : @LT.lt Nat _ rt_31 h75.size := c75_5.lt
  have ltc75_6 : @LT.lt Nat _ r_75 h75.size := c75_6.lt
  show own_Goes p e below (T75.setTop (mkF m 68 #[vI x0, vI x1, vI x2, vI x3, vR b1, vR b7, uS, uS, uS, uS, uS, uS, uS, uS] [.null])) _
  refine gg (fun t k => XS.pop X75.here hx rfl (hb hby at_68) rfl rfl k) ?_
  obtain ⟨T78, h78, X78, e78, E78, A78, D78, -, st78⟩ := newO X75 hx hZ hown (wh hw 148 rfl) (wh hw 149 rfl) (wh hw 150 rfl) e75 (g := (mkF m 69 #[vI x0, vI x1, vI x2, vI x3, vR b1, vR b7, uS, uS, uS, uS, uS, uS, uS, uS] [])) rfl (hb hby at_69) (by decide) (by decide)
  obtain ⟨b78, g78⟩ : ∃ z, z = h75.size := ⟨_, rfl⟩
  rw [← g78] at A78 D78 st78
  refine gg st78 ?_
  have O79 := O76.ext E78
  have sz80 : h75.size ≤ h78.size := E78.1
  have l78 : @LT.lt Nat _ b78 h78.size := A78.lt
  have F78_relevant : Fld Z h78 b78 "com/example/dolm/dolm/eval/JudgedRanking" "relevant" "[Z" .null := D78 (Or.inr (wh hw 168 rfl)) (ty := (.array .boolean)) (by decide)
  have F78_gains : Fld Z h78 b78 "com/example/dolm/dolm/eval/JudgedRanking" "gains" "[I" .null := D78 (Or.inr (wh hw 171 rfl)) (ty := (.array .int)) (by decide)
  have F78_relevantCount : Fld Z h78 b78 "com/example/dolm/dolm/eval/JudgedRanking" "relevantCount" "I" (.int 0) := D78 (Or.inr (wh hw 273 rfl)) (ty := .int) (by decide)
  have F78_judgedGains : Fld Z h78 b78 "com/example/dolm/dolm/eval/JudgedRanking" "judgedGains" "[I" .null := D78 (Or.inr (wh hw 288 rfl)) (ty := (.array .int)) (by decide)
  refine q_dup X78 hx hby at_72 rfl ?_
  refine q_aload X78 hx hby at_73 rfl rfl ?_
  refine q_aload X78 hx hby at_75 rfl rfl ?_
  have f81 := (((((((((((((A1.keep Kc4).ext E7).keep Kc10).keep Kc13).keep Kc16).keep Kc31).keep Kc34).keep Kc37).keep Kc53).keep Kc56).keep Kc59).keep Kc75).ext E78)
  have f82 := ((((((((((((c4_0.ext E7).keep Kc10 (ninS (nE b1 b7 (by omega)) nin0)).keep Kc13 nin0).keep Kc16 nin0).keep Kc31 (ninS (nE b1 b7 (by omega)) (ninS (nE b1 r_13 (by omega)) nin0))).keep Kc34 nin0).keep Kc37 nin0).keep Kc53 (ninS (nE b1 b7 (by omega)) (ninS (nE b1 rt_31 (by omega)) (ninS (nE b1 r_34 (by omega)) nin0)))).keep Kc56 nin0).keep Kc59 nin0).keep Kc75 (ninS (nE b1 b7 (by omega)) (ninS (nE b1 rt_31 (by omega)) (ninS (nE b1 r_56 (by omega)) nin0)))).ext E78)
  have f83 := ((f62.keep Kc75).ext E78)
  have f84 := (c75_0.ext E78)
  have f85 := (c75_1.ext E78)
  have f86 := (c75_2.ext E78)
  have f87 := (c75_3.ext E78)
  have f88 := (c75_4.ext E78)
  have f89 := (c75_5.ext E78)
  have f90 := (((((((c31_6.keep Kc34).keep Kc37).keep Kc53).keep Kc56).keep Kc59).keep Kc75).ext E78)
  have f91 := (((((((c31_7.keep Kc34 nin0).keep Kc37 nin0).keep Kc53 (ninS (nE r_31 b7 (by omega)) (ninS (nE r_31 rt_31 (by omega)) (ninS (nE r_31 r_34 (by omega)) nin0)))).keep Kc56 nin0).keep Kc59 nin0).keep Kc75 (ninS (nE r_31 b7 (by omega)) (ninS (nE r_31 rt_31 (by omega)) (ninS (nE r_31 r_56 (by omega)) nin0)))).ext E78)
  have f92 := (((((((c31_8.keep Kc34 nin0).keep Kc37 nin0).keep Kc53 (ninS (nE r_31 b7 (by omega)) (ninS (nE r_31 rt_31 (by omega)) (ninS (nE r_31 r_34 (by omega)) nin0)))).keep Kc56 nin0).keep Kc59 nin0).keep Kc75 (ninS (nE r_31 b7 (by omega)) (ninS (nE r_31 rt_31 (by omega)) (ninS (nE r_31 r_56 (by omega)) nin0)))).ext E78)
  have f93 := ((((((((c16_0.keep Kc31).keep Kc34).keep Kc37).keep Kc53).keep Kc56).keep Kc59).keep Kc75).ext E78)
  have f94 := ((((((((c16_1.keep Kc31 (ninS (nE r_16 b7 (by omega)) (ninS (nE r_16 r_13 (by omega)) nin0))).keep Kc34 nin0).keep Kc37 nin0).keep Kc53 (ninS (nE r_16 b7 (by omega)) (ninS (nE r_16 rt_31 (by omega)) (ninS (nE r_16 r_34 (by omega)) nin0)))).keep Kc56 nin0).keep Kc59 nin0).keep Kc75 (ninS (nE r_16 b7 (by omega)) (ninS (nE r_16 rt_31 (by omega)) (ninS (nE r_16 r_56 (by omega)) nin0)))).ext E78)
  have f95 := ((((c53_6.keep Kc56).keep Kc59).keep Kc75).ext E78)
  have f96 := ((((c53_7.keep Kc56 nin0).keep Kc59 nin0).keep Kc75 (ninS (nE r_53 b7 (by omega)) (ninS (nE r_53 rt_31 (by omega)) (ninS (nE r_53 r_56 (by omega)) nin0)))).ext E78)
  have f97 := ((((c53_8.keep Kc56 nin0).keep Kc59 nin0).keep Kc75 (ninS (nE r_53 b7 (by omega)) (ninS (nE r_53 rt_31 (by omega)) (ninS (nE r_53 r_56 (by omega)) nin0)))).ext E78)
  have f98 := (((((c37_0.keep Kc53).keep Kc56).keep Kc59).keep Kc75).ext E78)
  have f99 := (((((c37_1.keep Kc53 (ninS (nE r_37 b7 (by omega)) (ninS (nE r_37 rt_31 (by omega)) (ninS (nE r_37 r_34 (by omega)) nin0)))).keep Kc56 nin0).keep Kc59 nin0).keep Kc75 (ninS (nE r_37 b7 (by omega)) (ninS (nE r_37 rt_31 (by omega)) (ninS (nE r_37 r_56 (by omega)) nin0)))).ext E78)
  have f100 := (c75_6.ext E78)
  have f101 := (c75_7.ext E78)
  have f102 := (c75_8.ext E78)
  have f103 := ((c59_0.keep Kc75).ext E78)
  have f104 := ((c59_1.keep Kc75 (ninS (nE r_59 b7 (by omega)) (ninS (nE r_59 rt_31 (by omega)) (ninS (nE r_59 r_56 (by omega)) nin0)))).ext E78)
  refine k_N X78 hx hby hZ hown (wh hw 151 rfl) (wh hw 152 rfl) (W := 1) (own_jr3 l Z a0 hw [] b78 b1 b7 rt_31 rk_31 r_31 r_53 r_75 r_16 r_37 r_59 x1 x2 x3 h78 n0 O79 A78 F78_relevant F78_gains F78_relevantCount F78_judgedGains (show n0 ≤ b78 by first | assumption | omega | decide) (show n0 ≤ b7 by first | assumption | omega | decide) f81 f82 f83 f84 f85 f86 f87 f88 (show @LT.lt Nat _ b7 b78 by first | assumption | omega | decide) (show @LT.lt Nat _ b1 b7 by first | assumption | omega | decide) f89 (show @LT.lt Nat _ b7 rt_31 by first | assumption | omega | decide) (show @LT.lt Nat _ rt_31 b78 by first | assumption | omega | decide) f90 f91 f92 f93 f94 (show @LT.lt Nat _ rt_31 r_31 by first | assumption | omega | decide) (show @LT.lt Nat _ r_31 b78 by first | assumption | omega | decide) (show (@LT.lt Nat _ r_16 n0 ∨ @LT.lt Nat _ b7 r_16) by first | assumption | omega | decide) (show @LT.lt Nat _ r_16 b78 by first | assumption | omega | decide) f95 f96 f97 f98 f99 (show @LT.lt Nat _ rt_31 r_53 by first | assumption | omega | decide) (show @LT.lt Nat _ r_53 b78 by first | assumption | omega | decide) (show (@LT.lt Nat _ r_37 n0 ∨ @LT.lt Nat _ b7 r_37) by first | assumption | omega | decide) (show @LT.lt Nat _ r_37 b78 by first | assumption | omega | decide) f100 f101 f102 f103 f104 (show @LT.lt Nat _ rt_31 r_75 by first | assumption | omega | decide) (show @LT.lt Nat _ r_75 b78 by first | assumption | omega | decide) (show (@LT.lt Nat _ r_59 n0 ∨ @LT.lt Nat _ b7 r_59) by first | assumption | omega | decide) (show @LT.lt Nat _ r_59 b78 by first | assumption | omega | decide)) (wh hw 153 rfl) (wh hw 150 rfl) e78  hml (argsL := [.ref b1, .ref b7]) (rest := [.ref b78]) own_pd_28 at_77 (fun _ T105 L105 X105 hQ105 => ?_)
  obtain ⟨h105, e105⟩ : ∃ z, T105.heap = z := ⟨_, rfl⟩
  rw [e105] at hQ105
  obtain ⟨Nc105, Kc105, rfl, c105_0⟩ := hQ105
  have N105 := Fr.app N75 Nc105
  have O106 := O79.keep Kc105 (allS (show n0 ≤ b78 by omega) (allS (show n0 ≤ b7 by omega) all0))
  have sz107 : h78.size ≤ h105.size := Kc105.1
  refine q_astore X105 hx hby at_80 rfl (l' := #[vI x0, vI x1, vI x2, vI x3, vR b1, vR b7, vR b78, uS, uS, uS, uS, uS, uS, uS]) rfl ?_
  refine q_iloadN X105 hx hby at_82 rfl ?_
  refine gg (fun t k => XS.i2dS X105.here hx rfl (hb hby at_83) rfl (v := (FP.i2d x0)) rfl k) ?_
  refine gg (fun t k => XS.dstore X105.here hx rfl (hb hby at_84) rfl (l' := #[vI x0, vI x1, vI x2, vI x3, vR b1, vR b7, vR b78, .val (.double (FP.i2d x0)), .second, uS, uS, uS, uS, uS]) rfl k) ?_
  refine q_aload X105 hx hby at_86 rfl rfl ?_
  refine gg (fun t k => XS.dload X105.here hx rfl (hb hby at_88) rfl k) ?_
  have f108 := (A78.keep Kc105)
  refine k_V X105 hx hby hZ hown (wh hw 302 rfl) (wh hw 303 rfl) (wh hw 305 rfl) (wh hw 304 rfl) (W := 0) (own_perC l Z a0 hw [] b78 (((own_c1 x1) + (own_c1 x2)) + (own_c1 x3)) (FP.i2d x0) h105 n0 O106 c105_0 (show Jvm.Free.Fl.Mag64 1056 (FP.i2d x0) from (Jvm.Free.Fl.i2d_mag _))) (wh hw 306 rfl) (wh hw 150 rfl) e105 f108  hml (argsL := [(.double (FP.i2d x0))]) (rest := []) own_pd_29 at_90 (fun _ T109 L109 X109 hQ109 => ?_)
  obtain ⟨Nc109, e109, rfl⟩ := hQ109
  have N109 := Fr.app N105 Nc109
  refine gg (fun t k => XS.dstore X109.here hx rfl (hb hby at_93) rfl (l' := #[vI x0, vI x1, vI x2, vI x3, vR b1, vR b7, vR b78, .val (.double (FP.i2d x0)), .second, .val (.double (own_per (FP.i2d x0) (((own_c1 x1) + (own_c1 x2)) + (own_c1 x3)))), .second, uS, uS, uS]) rfl k) ?_
  show own_Goes p e below (T109.setTop (mkF m 95 #[vI x0, vI x1, vI x2, vI x3, vR b1, vR b7, vR b78, .val (.double (FP.i2d x0)), .second, .val (.double (own_per (FP.i2d x0) (((own_c1 x1) + (own_c1 x2)) + (own_c1 x3)))), .second, uS, uS, uS] [])) _
  refine q_iloadN X109 hx hby at_95 rfl ?_
  refine k_S X109 hx hby hZ hown (wh hw 307 rfl) (wh hw 308 rfl) (W := 0) (own_counts l Z a0 hw [] x1 h105 n0 O106) (wh hw 310 rfl) (wh hw 309 rfl) e109  hml (argsL := [.int x1]) (rest := []) own_pd_30 at_96 (fun _ T110 L110 X110 hQ110 => ?_)
  obtain ⟨Nc110, e110, rfl⟩ := hQ110
  have N110 := Fr.app N109 Nc110
  refine q_iloadN X110 hx hby at_99 rfl ?_
  refine k_S X110 hx hby hZ hown (wh hw 307 rfl) (wh hw 308 rfl) (W := 1) (own_counts l Z a0 hw [] x2 h105 n0 O106) (wh hw 310 rfl) (wh hw 309 rfl) e110  hml (argsL := [.int x2]) (rest := [(.int (own_c1 x1))]) own_pd_30 at_100 (fun _ T111 L111 X111 hQ111 => ?_)
  obtain ⟨Nc111, e111, rfl⟩ := hQ111
  have N111 := Fr.app N110 Nc111
  refine q_iadd X111 hx hby at_103 ?_
  refine q_iloadN X111 hx hby at_104 rfl ?_
  refine k_S X111 hx hby hZ hown (wh hw 307 rfl) (wh hw 308 rfl) (W := 1) (own_counts l Z a0 hw [] x3 h105 n0 O106) (wh hw 310 rfl) (wh hw 309 rfl) e111  hml (argsL := [.int x3]) (rest := [(.int ((own_c1 x1) + (own_c1 x2)))]) own_pd_30 at_105 (fun _ T112 L112 X112 hQ112 => ?_)
  obtain ⟨Nc112, e112, rfl⟩ := hQ112
  have N112 := Fr.app N111 Nc112
  refine q_iadd X112 hx hby at_108 ?_
  refine q_istore X112 hx hby at_109 (l' := #[vI x0, vI x1, vI x2, vI x3, vR b1, vR b7, vR b78, .val (.double (FP.i2d x0)), .second, .val (.double (own_per (FP.i2d x0) (((own_c1 x1) + (own_c1 x2)) + (own_c1 x3)))), .second, vI (((own_c1 x1) + (own_c1 x2)) + (own_c1 x3)), uS, uS]) rfl ?_
  refine q_iload X112 hx hby at_111 rfl ?_
  by_cases hc113 : (((own_c1 x1) + (own_c1 x2)) + (own_c1 x3)) = (0 : Int32)
  · refine q_ifNo X112 hx hby at_113 ((if0 _ _).trans (teq hc113).2) ?_
    refine gg (fun t k => XS.dconst0 X112.here hx rfl (hb hby at_116) (v := FP.dconst0) rfl k) ?_
    refine gg (fun t k => XS.dstore X112.here hx rfl (hb hby at_117) rfl (l' := #[vI x0, vI x1, vI x2, vI x3, vR b1, vR b7, vR b78, .val (.double (FP.i2d x0)), .second, .val (.double (own_per (FP.i2d x0) (((own_c1 x1) + (own_c1 x2)) + (own_c1 x3)))), .second, vI (((own_c1 x1) + (own_c1 x2)) + (own_c1 x3)), .val (.double FP.dconst0), .second]) rfl k) ?_
    refine q_goto (pc := 119) X112 hx hby at_119 (pc' := 130) (by decide) (by decide) ?_
    show own_Goes p e below (T112.setTop (mkF m 130 #[vI x0, vI x1, vI x2, vI x3, vR b1, vR b7, vR b78, .val (.double (FP.i2d x0)), .second, .val (.double (own_per (FP.i2d x0) (((own_c1 x1) + (own_c1 x2)) + (own_c1 x3)))), .second, vI (((own_c1 x1) + (own_c1 x2)) + (own_c1 x3)), .val (.double FP.dconst0), .second] [])) _
    refine gg (fun t k => XS.dload X112.here hx rfl (hb hby at_130) rfl k) ?_
    refine gg (fun t k => XS.dload X112.here hx rfl (hb hby at_132) rfl k) ?_
    refine gg (fun t k => XS.dcmpS X112.here hx rfl (hb hby at_134) rfl (v := (0 : Int32)) (dcmpV_eq (own_perT hc113) (own_perN (Jvm.Free.Fl.i2d_mag _) _) _) k) ?_
    refine q_ifNo X112 hx hby at_135 ((if0 _ _).trans (teq (show ((0 : Int32) = (0 : Int32)) from by decide)).2) ?_
    refine q_iconst X112 hx hby at_138 ?_
    refine q_goto (pc := 139) X112 hx hby at_139 (pc' := 143) (by decide) (by decide) ?_
    refine r_Z X112 hx hby hret hlk at_143 e112 ?_
    exact ⟨N112, trivial, rfl⟩
  · refine q_ifYes (pc := 113) X112 hx hby at_113 (pc' := 122) ((if0 _ _).trans (feq hc113).2) (by decide) (by decide) ?_
    refine gg (fun t k => XS.dload X112.here hx rfl (hb hby at_122) rfl k) ?_
    refine q_iload X112 hx hby at_124 rfl ?_
    refine gg (fun t k => XS.i2dS X112.here hx rfl (hb hby at_126) rfl (v := (FP.i2d (((own_c1 x1) + (own_c1 x2)) + (own_c1 x3)))) rfl k) ?_
    refine gg (fun t k => XS.ddivS X112.here hx rfl (hb hby at_127) rfl (own_nn (Jvm.Free.Fl.i2d_mag _) hc113) (v := (FP.ddiv (FP.i2d x0) (FP.i2d (((own_c1 x1) + (own_c1 x2)) + (own_c1 x3))))) rfl k) ?_
    refine gg (fun t k => XS.dstore X112.here hx rfl (hb hby at_128) rfl (l' := #[vI x0, vI x1, vI x2, vI x3, vR b1, vR b7, vR b78, .val (.double (FP.i2d x0)), .second, .val (.double (own_per (FP.i2d x0) (((own_c1 x1) + (own_c1 x2)) + (own_c1 x3)))), .second, vI (((own_c1 x1) + (own_c1 x2)) + (own_c1 x3)), .val (.double (FP.ddiv (FP.i2d x0) (FP.i2d (((own_c1 x1) + (own_c1 x2)) + (own_c1 x3))))), .second]) rfl k) ?_
    refine gg (fun t k => XS.dload X112.here hx rfl (hb hby at_130) rfl k) ?_
    refine gg (fun t k => XS.dload X112.here hx rfl (hb hby at_132) rfl k) ?_
    show own_Goes p e below (T112.setTop (mkF m 134 #[vI x0, vI x1, vI x2, vI x3, vR b1, vR b7, vR b78, .val (.double (FP.i2d x0)), .second, .val (.double (own_per (FP.i2d x0) (((own_c1 x1) + (own_c1 x2)) + (own_c1 x3)))), .second, vI (((own_c1 x1) + (own_c1 x2)) + (own_c1 x3)), .val (.double (FP.ddiv (FP.i2d x0) (FP.i2d (((own_c1 x1) + (own_c1 x2)) + (own_c1 x3))))), .second] [(.double (FP.ddiv (FP.i2d x0) (FP.i2d (((own_c1 x1) + (own_c1 x2)) + (own_c1 x3))))), (.double (own_per (FP.i2d x0) (((own_c1 x1) + (own_c1 x2)) + (own_c1 x3))))])) _
    refine gg (fun t k => XS.dcmpS X112.here hx rfl (hb hby at_134) rfl (v := (0 : Int32)) (dcmpV_eq (own_perF hc113) (own_perN (Jvm.Free.Fl.i2d_mag _) _) _) k) ?_
    refine q_ifNo X112 hx hby at_135 ((if0 _ _).trans (teq (show ((0 : Int32) = (0 : Int32)) from by decide)).2) ?_
    refine q_iconst X112 hx hby at_138 ?_
    refine q_goto (pc := 139) X112 hx hby at_139 (pc' := 143) (by decide) (by decide) ?_
    refine r_Z X112 hx hby hret hlk at_143 e112 ?_
    exact ⟨N112, trivial, rfl⟩
theorem comes_1 {Post : Tables → Env → Array Value → State → Outcome → State → Prop} (hpost : ∀ tb e args s v u, (limb_1_1.after args s (.returned v) u = true ∧ limb_1_2.after args s (.returned v) u = true ∧ True) → FrameEnd s (.returned v) u (Jvm.fieldLocs frame_1_writes args s ++ Jvm.arrayLocs frame_1_arrays args s ++ Jvm.staticLocs frame_1_statics s) 56 256 → Post tb e args s (.returned v) u) :
    ArmFor flags0 classFile x code maxLocals ret World_1 tables_1 room_1 Calls_1 rest_1 Pre_1 Post := by
  intro l hfl _ _ p e ha hc hk s m args below hf hA hF happ hP
  obtain ⟨hcalls, hrest, hpre⟩ := hP
  obtain ⟨-, -, -, hnamed, -, -, -, hat⟩ := (Spec.applies_iff hf).mp happ
  obtain ⟨hg, hn⟩ := and_e (Cond.before_iff.mp (show (Jvm.Cond.and given_1 narrow_1).before args s = true from hpre))
  obtain ⟨hg_1, hg_2⟩ := and_e hg
  obtain ⟨hg_3, hg_4⟩ := and_e hg_2
  obtain ⟨hg_5, hg_6⟩ := and_e hg_4
  obtain ⟨hg_7, hg_8⟩ := and_e hg_6
  obtain ⟨w0, w1, w2, w3, rfl⟩ : ∃ w0 w1 w2 w3 : Value, args = #[w0, w1, w2, w3] := by
    have hs : args.size = 4 := by simpa [Cond.value, given_1] using hg_1
    obtain ⟨L⟩ := args
    match L, hs with
    | [w0, w1, w2, w3], _ => exact ⟨w0, w1, w2, w3, rfl⟩
  have hw := fun d (hd : d ∈ tables_1) => atoms_spec (ws := Jvm.Cond.code x code maxLocals ret :: tables_1) hat d (List.mem_cons_of_mem _ hd)
  have hfit : Fit s := fun {y c} hc i hi => by
    obtain ⟨ha, rfl⟩ := Array.getElem?_eq_some_iff.mp hc
    have q := List.all_eq_true.mp ((Array.all_eq_true_iff_forall_mem.mp hF) _ (Array.getElem_mem ha)) i (List.mem_range.mpr hi)
    simpa [Array.getElem?_eq_getElem hi] using q
  obtain ⟨hsets, hown0⟩ := atoms_of _ (rest_1_c_eq ▸ (show rest_1_c.before _ s = true from hrest))
  have hr0 := Cond.before_iff.mp hown0
  obtain ⟨i0, ei0⟩ := is_v hg_3
  obtain rfl : w0 = (.int i0) := Option.some.inj ei0
  obtain ⟨i1, ei1⟩ := is_v hg_5
  obtain rfl : w1 = (.int i1) := Option.some.inj ei1
  obtain ⟨i2, ei2⟩ := is_v hg_7
  obtain rfl : w2 = (.int i2) := Option.some.inj ei2
  obtain ⟨i3, ei3⟩ := is_v hg_8
  obtain rfl : w3 = (.int i3) := Option.some.inj ei3
  obtain ⟨gz, ez⟩ := is_v (Cond.before_iff.mp (hsets _ (List.mem_of_getElem? (i := 10) rfl)))
  have sz_ := Sta.start ez (Or.inl (hsets _ (List.mem_of_getElem? (i := 9) rfl)))
  have nz_ : ¬ gz = (0 : Int32) := gotF (Cond.eq_ints ez (Term.int_eval _)) (not_v (Cond.before_iff.mp (hsets _ (List.mem_of_getElem? (i := 11) rfl))))
  have hCv : ∀ k, k ∈ jdkStatics_1 → k.value _ s none s [] = some true := fun k hk => Cond.before_iff.mp (hsets k hk)
  have eHi : (Term.static "java/lang/Integer$IntegerCache" "high" "I").eval _ s none [] s = some (.int 127) := eqv_i (Term.int_eval _) (hCv _ (List.mem_of_getElem? (i := 21) rfl))
  have sHi := Sta.start eHi (Or.inl (hsets _ (List.mem_of_getElem? (i := 19) rfl)))
  obtain ⟨gwc, eCa⟩ := exa_v (hCv _ (List.mem_of_getElem? (i := 23) rfl))
  have sCa := Sta.start eCa (Or.inr ⟨(wh hw 71 rfl), (hsets _ (List.mem_of_getElem? (i := 20) rfl))⟩)
  obtain ⟨gcl, aCa⟩ := Arr.start eCa (hCv _ (List.mem_of_getElem? (i := 22) rfl))
  have lCa := eqv_i (Term.int_eval _) (hCv _ (List.mem_of_getElem? (i := 24) rfl))
  have bCa : Bxs s gwc gcl "java/lang/Integer" "I" (256 : Int32) (fun j => .int (j - 128)) := own_bxs eCa aCa lCa (hCv _ (List.mem_of_getElem? (i := 25) rfl))
  obtain ⟨gwD, eD⟩ := exa_v (hCv _ (List.mem_of_getElem? (i := 7) rfl))
  have sD := Sta.start eD (Or.inr ⟨(wh hw 2 rfl), (hsets _ (List.mem_of_getElem? (i := 2) rfl))⟩)
  have xD := Exa.start eD (hCv _ (List.mem_of_getElem? (i := 7) rfl))
  obtain ⟨n, o, h1, h2, h3, _, L, rfl, ⟨N, -, rfl⟩, hq⟩ := rm0 l s _ hw tables_1 i0 i1 i2 i3 s.heap s.heap.size (Old.start s) gwD gz gwc gcl ⟨sD, xD, sz_, nz_, sHi, sCa, bCa⟩ p e ha hc hk s m _ below hf ((Spec.applies_iff_loose hf).mp happ).1 ⟨rfl, State.Warmed39.refl s, rfl⟩ trivial
  refine ⟨n, _, h1, h2, h3, hpost _ _ _ _ _ _ ⟨Cond.after_iff.mpr rfl, Cond.after_iff.mpr (eq_i res_at (Term.int_eval (1)) rfl), trivial⟩ ⟨hq.1, hq.2.1, (hq.2.2.sift fun y hy => Or.inr (N y hy)).mono (by decide) (by decide)⟩⟩
theorem main_1_1 : Claimed_1_1 := comes_1 fun _ _ _ _ _ _ h hF => ⟨h.1, hF⟩
theorem main_1_2 : Claimed_1_2 := comes_1 fun _ _ _ _ _ _ h hF => ⟨h.2.1, hF⟩
end Jvm.Pilot.@@N@@
namespace Jvm.Pilot.@@N@@
open Jvm Jvm.ClassFile Sem Op Lib Jvm.Free Jvm.Stand Jvm.Pilot.@@N@@.Jvm.D
/-! MADE BY PROGRAM (witnessworld.py) out of the Statement's table words and the real class files: 46 classes; the members and pool entries that the words name. The judged class is class 1, her method 2. -/
namespace start1
open Jvm.ClassFile
def u (s : String) : CpInfo := .utf8 (stringToUtf16 s)
/-- a pool by its gaps: so many unusable entries, then the entry; so many at the end -/
def gap : Nat → List CpInfo → List CpInfo
  | 0, r => r
  | n + 1, r => .unusable :: gap n r
def poolList (es : List (Nat × CpInfo)) (last : Nat) : List CpInfo := es.foldr (fun e r => gap e.1 (e.2 :: r)) (gap last [])
def pool (es : List (Nat × CpInfo)) (last : Nat) : Array CpInfo := ⟨poolList es last⟩
def fileOf (pool : Array CpInfo) (this : Nat) (attrs : Array Attribute := #[]) (ms : Array MethodInfo := #[]) (fl : Nat := 33) (sup : Nat := 0) (ifs : Array Nat := #[]) (fds : Array FieldInfo := #[]) : ClassFile where
  minorVersion := 0
  majorVersion := 65
  constantPool := pool
  accessFlags := fl
  thisClass := this
  superClass := sup
  interfaces := ifs
  fields := fds
  methods := ms
  attributes := attrs
def plain (name : String) (sup : Option ClassId) : Class where
  name := name
  kind := .ordinary
  loader := none
  accessFlags := 33
  super := sup
  interfaces := #[]
  cf := none
  fields := #[]
  methods := #[]
  instanceTypes := #[]
  staticTypes := #[]
  resolved := #[]
  callSites := []
  init := .initialized
  statics := none
  mirror := none

def pool0 : Array CpInfo := pool [(5, u "<init>"), (0, u "()V"), (1, .class_ 10), (1, u "java/lang/Object"), (16, u "hashCode"), (0, u "()I"), (67, u "clone"), (0, u "()Ljava/lang/Object;")] 26

def k0c0 : Code := { maxStack := 0, maxLocals := 1, code := object_method_1_code, exceptionTable := #[], attributes := #[] }
def k0m0 : Method := { name := "<init>", desc := "()V", sig := { parameters := [], returnType := none }, accessFlags := 1, code := some k0c0 }
def k0m1 : Method := { name := "hashCode", desc := "()I", sig := { parameters := [], returnType := some .int }, accessFlags := 257, code := none }
def k0m2 : Method := { name := "clone", desc := "()Ljava/lang/Object;", sig := { parameters := [], returnType := some (.object "java/lang/Object") }, accessFlags := 260, code := none }
/-- java/lang/Object -/
def k0 : Class := { plain "java/lang/Object" none with
  accessFlags := 33
  interfaces := #[]
  cf := some (fileOf pool0 8 #[] #[{ accessFlags := 1, nameIndex := 5, descriptorIndex := 6, attributes := #[] }, { accessFlags := 257, nameIndex := 27, descriptorIndex := 28, attributes := #[] }, { accessFlags := 260, nameIndex := 96, descriptorIndex := 97, attributes := #[] }] 33 0 #[] #[])
  fields := #[]
  methods := #[k0m0, k0m1, k0m2]
  instanceTypes := #[]
  staticTypes := #[]
  resolved := Array.replicate 124 none
  statics := none }

def pool1 : Array CpInfo := pool [(2, .class_ 4), (0, .nameAndType 5 6), (0, u "java/lang/Object"), (0, u "<init>"), (0, u "()V"), (0, .class_ 8), (0, u "java/util/ArrayList"), (0, .methodref 7 3), (0, .class_ 11), (0, u "java/util/HashMap"), (0, .methodref 10 3), (0, .methodref 14 15), (0, .class_ 16), (0, .nameAndType 17 18), (0, u "java/lang/String"), (0, u "valueOf"), (0, u "(C)Ljava/lang/String;"), (0, .methodref 20 21), (0, .class_ 22), (0, .nameAndType 17 23), (0, u "java/lang/Integer"), (0, u "(I)Ljava/lang/Integer;"), (0, .interfaceMethodref 25 26), (0, .class_ 27), (0, .nameAndType 28 29), (0, u "java/util/Map"), (0, u "put"), (0, u "(Ljava/lang/Object;Ljava/lang/Object;)Ljava/lang/Object;"), (0, .class_ 31), (0, u "com/example/dolm/dolm/eval/JudgedRanking"), (0, .methodref 30 33), (0, .nameAndType 5 34), (0, u "(Ljava/util/List;Ljava/util/Map;)V"), (0, .methodref 30 36), (0, .nameAndType 37 38), (0, u "perRelevant"), (0, u "(D)D"), (0, .methodref 40 41), (0, .class_ 42), (0, .nameAndType 43 44), (0, u "com/example/dolm/dolm/eval/JudgedRankingPerRelevantPinLaw"), (0, u "counts"), (0, u "(I)I"), (3, u "law"), (0, u "(IIII)Z")] 4

def k1m0 : Method := { name := "<init>", desc := "()V", sig := { parameters := [], returnType := none }, accessFlags := 2, code := none }
def k1c1 : Code := { maxStack := 2, maxLocals := 1, code := method_2_code, exceptionTable := #[], attributes := #[] }
def k1m1 : Method := { name := "counts", desc := "(I)I", sig := { parameters := [.int], returnType := some .int }, accessFlags := 10, code := some k1c1 }
def k1c2 : Code := { maxStack := 4, maxLocals := 14, code := code, exceptionTable := #[], attributes := #[] }
def k1m2 : Method := { name := "law", desc := "(IIII)Z", sig := { parameters := [.int, .int, .int, .int], returnType := some .boolean }, accessFlags := 9, code := some k1c2 }
/-- com/example/dolm/dolm/eval/JudgedRankingPerRelevantPinLaw -/
def k1 : Class := { plain "com/example/dolm/dolm/eval/JudgedRankingPerRelevantPinLaw" (some 0) with
  accessFlags := 49
  interfaces := #[]
  cf := some (fileOf pool1 40 #[] #[{ accessFlags := 2, nameIndex := 5, descriptorIndex := 6, attributes := #[] }, { accessFlags := 10, nameIndex := 43, descriptorIndex := 44, attributes := #[] }, { accessFlags := 9, nameIndex := 48, descriptorIndex := 49, attributes := #[] }] 49 2 #[] #[])
  fields := #[]
  methods := #[k1m0, k1m1, k1m2]
  instanceTypes := #[]
  staticTypes := #[]
  resolved := Array.replicate 54 none
  statics := none }

def pool2 : Array CpInfo := pool [(8, .class_ 10), (1, u "java/lang/Iterable"), (24, .class_ 36), (0, u "java/lang/Object")] 25

/-- java/lang/Iterable -/
def k2 : Class := { plain "java/lang/Iterable" (some 0) with
  accessFlags := 1537
  interfaces := #[]
  cf := some (fileOf pool2 8 #[] #[] 1537 35 #[] #[])
  fields := #[]
  methods := #[]
  instanceTypes := #[]
  staticTypes := #[]
  resolved := Array.replicate 62 none
  statics := none }

def pool3 : Array CpInfo := pool [(10, .class_ 12), (1, u "java/util/Collection"), (10, u "iterator"), (0, u "()Ljava/util/Iterator;"), (35, .class_ 61), (0, u "java/lang/Object"), (0, .class_ 63), (0, u "java/lang/Iterable")] 51

def k3m0 : Method := { name := "iterator", desc := "()Ljava/util/Iterator;", sig := { parameters := [], returnType := some (.object "java/util/Iterator") }, accessFlags := 1025, code := none }
/-- java/util/Collection -/
def k3 : Class := { plain "java/util/Collection" (some 0) with
  accessFlags := 1537
  interfaces := #[2]
  cf := some (fileOf pool3 10 #[] #[{ accessFlags := 1025, nameIndex := 23, descriptorIndex := 24, attributes := #[] }] 1537 60 #[62] #[])
  fields := #[]
  methods := #[k3m0]
  instanceTypes := #[]
  staticTypes := #[]
  resolved := Array.replicate 115 none
  statics := none }

def pool4 : Array CpInfo := pool [(1, .methodref 2 3), (0, .class_ 4), (0, .nameAndType 5 6), (0, u "java/lang/Object"), (0, u "<init>"), (0, u "()V"), (1, .class_ 10), (1, u "java/util/AbstractCollection"), (66, .class_ 78), (0, u "java/util/Collection")] 81

def k4c0 : Code := { maxStack := 1, maxLocals := 1, code := jdk_22_method_1_code, exceptionTable := #[], attributes := #[] }
def k4m0 : Method := { name := "<init>", desc := "()V", sig := { parameters := [], returnType := none }, accessFlags := 4, code := some k4c0 }
/-- java/util/AbstractCollection -/
def k4 : Class := { plain "java/util/AbstractCollection" (some 0) with
  accessFlags := 1057
  interfaces := #[3]
  cf := some (fileOf pool4 8 #[] #[{ accessFlags := 4, nameIndex := 5, descriptorIndex := 6, attributes := #[] }] 1057 2 #[77] #[])
  fields := #[]
  methods := #[k4m0]
  instanceTypes := #[]
  staticTypes := #[]
  resolved := Array.replicate 160 none
  statics := none }

def pool5 : Array CpInfo := pool [(8, .class_ 10), (1, u "java/util/SequencedCollection"), (15, .class_ 27), (0, u "java/lang/Object"), (0, .class_ 29), (0, u "java/util/Collection")] 27

/-- java/util/SequencedCollection -/
def k5 : Class := { plain "java/util/SequencedCollection" (some 0) with
  accessFlags := 1537
  interfaces := #[3]
  cf := some (fileOf pool5 8 #[] #[] 1537 26 #[28] #[])
  fields := #[]
  methods := #[]
  instanceTypes := #[]
  staticTypes := #[]
  resolved := Array.replicate 57 none
  statics := none }

def pool6 : Array CpInfo := pool [(8, .class_ 10), (1, u "java/util/List"), (68, u "size"), (0, u "()I"), (22, .class_ 104), (0, u "java/lang/Object"), (15, .class_ 121), (0, u "java/util/SequencedCollection")] 129

def k6m0 : Method := { name := "size", desc := "()I", sig := { parameters := [], returnType := some .int }, accessFlags := 1025, code := none }
/-- java/util/List -/
def k6 : Class := { plain "java/util/List" (some 0) with
  accessFlags := 1537
  interfaces := #[5]
  cf := some (fileOf pool6 8 #[] #[{ accessFlags := 1025, nameIndex := 79, descriptorIndex := 80, attributes := #[] }] 1537 103 #[120] #[])
  fields := #[]
  methods := #[k6m0]
  instanceTypes := #[]
  staticTypes := #[]
  resolved := Array.replicate 251 none
  statics := none }

def pool7 : Array CpInfo := pool [(1, .methodref 2 3), (0, .class_ 4), (0, .nameAndType 5 6), (0, u "java/util/AbstractCollection"), (0, u "<init>"), (0, u "()V"), (0, .fieldref 8 9), (0, .class_ 10), (0, .nameAndType 11 12), (0, u "java/util/AbstractList"), (0, u "modCount"), (0, u "I"), (64, .class_ 78), (0, u "java/util/AbstractList$Itr"), (3, .class_ 83), (0, u "java/util/AbstractList$ListItr"), (9, .class_ 94), (0, u "java/util/AbstractList$RandomAccessSubList"), (3, .class_ 99), (0, u "java/util/AbstractList$SubList"), (33, .class_ 134), (0, u "java/util/List"), (73, .class_ 209), (0, u "java/util/AbstractList$SubList$1"), (0, .class_ 211), (0, u "java/util/AbstractList$RandomAccessSpliterator")] 6

def k7c0 : Code := { maxStack := 2, maxLocals := 1, code := jdk_39_method_1_code, exceptionTable := #[], attributes := #[] }
def k7m0 : Method := { name := "<init>", desc := "()V", sig := { parameters := [], returnType := none }, accessFlags := 4, code := some k7c0 }
/-- java/util/AbstractList -/
def k7 : Class := { plain "java/util/AbstractList" (some 4) with
  accessFlags := 1057
  interfaces := #[6]
  cf := some (fileOf pool7 8 #[.nestMembers #[93, 98, 208, 210, 82, 77]] #[{ accessFlags := 4, nameIndex := 5, descriptorIndex := 6, attributes := #[] }] 1057 2 #[133] #[{ accessFlags := 132, nameIndex := 11, descriptorIndex := 12, attributes := #[] }])
  fields := #[{ name := "modCount", type := .int, accessFlags := 132, slot := 0, constantValue := 0 }]
  methods := #[k7m0]
  instanceTypes := #[.int]
  staticTypes := #[]
  resolved := Array.replicate 218 none
  statics := none }

def pool8 : Array CpInfo := pool [(1, .class_ 2), (0, u "java/util/RandomAccess"), (0, .class_ 4), (0, u "java/lang/Object")] 2

/-- java/util/RandomAccess -/
def k8 : Class := { plain "java/util/RandomAccess" (some 0) with
  accessFlags := 1537
  interfaces := #[]
  cf := some (fileOf pool8 1 #[] #[] 1537 3 #[] #[])
  fields := #[]
  methods := #[]
  instanceTypes := #[]
  staticTypes := #[]
  resolved := Array.replicate 7 none
  statics := none }

def pool9 : Array CpInfo := pool [(1, .class_ 2), (0, u "java/lang/Cloneable"), (0, .class_ 4), (0, u "java/lang/Object")] 2

/-- java/lang/Cloneable -/
def k9 : Class := { plain "java/lang/Cloneable" (some 0) with
  accessFlags := 1537
  interfaces := #[]
  cf := some (fileOf pool9 1 #[] #[] 1537 3 #[] #[])
  fields := #[]
  methods := #[]
  instanceTypes := #[]
  staticTypes := #[]
  resolved := Array.replicate 7 none
  statics := none }

def pool10 : Array CpInfo := pool [(1, .class_ 2), (0, u "java/io/Serializable"), (0, .class_ 4), (0, u "java/lang/Object")] 2

/-- java/io/Serializable -/
def k10 : Class := { plain "java/io/Serializable" (some 0) with
  accessFlags := 1537
  interfaces := #[]
  cf := some (fileOf pool10 1 #[] #[] 1537 3 #[] #[])
  fields := #[]
  methods := #[]
  instanceTypes := #[]
  staticTypes := #[]
  resolved := Array.replicate 7 none
  statics := none }

def pool11 : Array CpInfo := pool [(1, .methodref 2 3), (0, .class_ 4), (0, .nameAndType 5 6), (0, u "java/util/AbstractList"), (0, u "<init>"), (0, u "()V"), (2, .fieldref 10 11), (0, .class_ 12), (0, .nameAndType 13 14), (0, u "java/util/ArrayList"), (0, u "elementData"), (0, u "[Ljava/lang/Object;"), (2, u "EMPTY_ELEMENTDATA"), (21, .fieldref 10 40), (0, .nameAndType 41 14), (0, u "DEFAULTCAPACITY_EMPTY_ELEMENTDATA"), (6, .fieldref 10 49), (0, .nameAndType 50 51), (0, u "size"), (0, u "I"), (96, .class_ 149), (0, u "java/util/List"), (36, u "()I"), (75, .class_ 263), (0, u "java/util/ArrayList$ListItr"), (3, .class_ 268), (0, u "java/util/ArrayList$Itr"), (7, .class_ 277), (0, u "java/util/ArrayList$SubList"), (12, .class_ 291), (0, u "java/util/ArrayList$ArrayListSpliterator"), (37, .class_ 330), (0, u "java/util/RandomAccess"), (0, .class_ 332), (0, u "java/lang/Cloneable"), (0, .class_ 334), (0, u "java/io/Serializable"), (0, u "serialVersionUID"), (0, u "J"), (3, u "DEFAULT_CAPACITY"), (159, .class_ 501), (0, u "java/util/ArrayList$SubList$2"), (0, .class_ 503), (0, u "java/util/ArrayList$SubList$1")] 5

def k11c0 : Code := { maxStack := 2, maxLocals := 1, code := jdk_38_method_2_code, exceptionTable := #[], attributes := #[] }
def k11m0 : Method := { name := "<init>", desc := "()V", sig := { parameters := [], returnType := none }, accessFlags := 1, code := some k11c0 }
def k11c1 : Code := { maxStack := 1, maxLocals := 1, code := jdk_38_method_8_code, exceptionTable := #[], attributes := #[] }
def k11m1 : Method := { name := "size", desc := "()I", sig := { parameters := [], returnType := some .int }, accessFlags := 1, code := some k11c1 }
/-- java/util/ArrayList -/
def k11 : Class := { plain "java/util/ArrayList" (some 7) with
  accessFlags := 33
  interfaces := #[6, 8, 9, 10]
  cf := some (fileOf pool11 10 #[.nestMembers #[290, 276, 500, 502, 262, 267]] #[{ accessFlags := 1, nameIndex := 5, descriptorIndex := 6, attributes := #[] }, { accessFlags := 1, nameIndex := 50, descriptorIndex := 186, attributes := #[] }] 33 2 #[148, 329, 331, 333] #[{ accessFlags := 26, nameIndex := 335, descriptorIndex := 336, attributes := #[] }, { accessFlags := 26, nameIndex := 340, descriptorIndex := 51, attributes := #[] }, { accessFlags := 26, nameIndex := 17, descriptorIndex := 14, attributes := #[] }, { accessFlags := 26, nameIndex := 41, descriptorIndex := 14, attributes := #[] }, { accessFlags := 128, nameIndex := 13, descriptorIndex := 14, attributes := #[] }, { accessFlags := 2, nameIndex := 50, descriptorIndex := 51, attributes := #[] }])
  fields := #[{ name := "serialVersionUID", type := .long, accessFlags := 26, slot := 0, constantValue := 0 }, { name := "DEFAULT_CAPACITY", type := .int, accessFlags := 26, slot := 1, constantValue := 0 }, { name := "EMPTY_ELEMENTDATA", type := (.array (.object "java/lang/Object")), accessFlags := 26, slot := 2, constantValue := 0 }, { name := "DEFAULTCAPACITY_EMPTY_ELEMENTDATA", type := (.array (.object "java/lang/Object")), accessFlags := 26, slot := 3, constantValue := 0 }, { name := "elementData", type := (.array (.object "java/lang/Object")), accessFlags := 128, slot := 1, constantValue := 0 }, { name := "size", type := .int, accessFlags := 2, slot := 2, constantValue := 0 }]
  methods := #[k11m0, k11m1]
  instanceTypes := #[.int, (.array (.object "java/lang/Object")), .int]
  staticTypes := #[.long, .int, (.array (.object "java/lang/Object")), (.array (.object "java/lang/Object"))]
  resolved := Array.replicate 509 none
  statics := some 0 }

def pool12 : Array CpInfo := pool [(2, .class_ 4), (1, u "java/util/Map"), (31, .class_ 37), (0, u "java/util/Map$Entry"), (25, u "(Ljava/lang/Object;Ljava/lang/Object;)Ljava/lang/Object;"), (5, u "put"), (23, .class_ 94), (0, u "java/lang/Object"), (25, u "size"), (0, u "()I"), (11, u "values"), (0, u "()Ljava/util/Collection;")] 128

def k12m0 : Method := { name := "size", desc := "()I", sig := { parameters := [], returnType := some .int }, accessFlags := 1025, code := none }
def k12m1 : Method := { name := "put", desc := "(Ljava/lang/Object;Ljava/lang/Object;)Ljava/lang/Object;", sig := { parameters := [(.object "java/lang/Object"), (.object "java/lang/Object")], returnType := some (.object "java/lang/Object") }, accessFlags := 1025, code := none }
def k12m2 : Method := { name := "values", desc := "()Ljava/util/Collection;", sig := { parameters := [], returnType := some (.object "java/util/Collection") }, accessFlags := 1025, code := none }
/-- java/util/Map -/
def k12 : Class := { plain "java/util/Map" (some 0) with
  accessFlags := 1537
  interfaces := #[]
  cf := some (fileOf pool12 2 #[.nestMembers #[36]] #[{ accessFlags := 1025, nameIndex := 120, descriptorIndex := 121, attributes := #[] }, { accessFlags := 1025, nameIndex := 69, descriptorIndex := 63, attributes := #[] }, { accessFlags := 1025, nameIndex := 133, descriptorIndex := 134, attributes := #[] }] 1537 93 #[] #[])
  fields := #[]
  methods := #[k12m0, k12m1, k12m2]
  instanceTypes := #[]
  staticTypes := #[]
  resolved := Array.replicate 263 none
  statics := none }

def pool13 : Array CpInfo := pool [(1, .methodref 2 3), (0, .class_ 4), (0, .nameAndType 5 6), (0, u "java/lang/Object"), (0, u "<init>"), (0, u "()V"), (1, .class_ 10), (1, u "java/util/AbstractMap"), (42, .class_ 54), (0, u "java/util/Map"), (9, u "keySet"), (0, u "Ljava/util/Set;"), (0, .class_ 67), (0, u "java/util/AbstractMap$1"), (5, u "values"), (0, u "Ljava/util/Collection;"), (0, .class_ 76), (0, u "java/util/AbstractMap$2"), (104, .class_ 182), (0, u "java/util/AbstractMap$ViewCollection"), (0, .class_ 184), (0, u "java/util/AbstractMap$SimpleImmutableEntry"), (0, .class_ 186), (0, u "java/util/AbstractMap$SimpleEntry"), (0, .class_ 188), (0, u "java/util/AbstractMap$2$1"), (0, .class_ 190), (0, u "java/util/AbstractMap$1$1")] 5

def k13c0 : Code := { maxStack := 1, maxLocals := 1, code := jdk_71_method_1_code, exceptionTable := #[], attributes := #[] }
def k13m0 : Method := { name := "<init>", desc := "()V", sig := { parameters := [], returnType := none }, accessFlags := 4, code := some k13c0 }
/-- java/util/AbstractMap -/
def k13 : Class := { plain "java/util/AbstractMap" (some 0) with
  accessFlags := 1057
  interfaces := #[12]
  cf := some (fileOf pool13 8 #[.nestMembers #[181, 183, 185, 75, 187, 66, 189]] #[{ accessFlags := 4, nameIndex := 5, descriptorIndex := 6, attributes := #[] }] 1057 2 #[53] #[{ accessFlags := 128, nameIndex := 64, descriptorIndex := 65, attributes := #[] }, { accessFlags := 128, nameIndex := 73, descriptorIndex := 74, attributes := #[] }])
  fields := #[{ name := "keySet", type := (.object "java/util/Set"), accessFlags := 128, slot := 0, constantValue := 0 }, { name := "values", type := (.object "java/util/Collection"), accessFlags := 128, slot := 1, constantValue := 0 }]
  methods := #[k13m0]
  instanceTypes := #[(.object "java/util/Set"), (.object "java/util/Collection")]
  staticTypes := #[]
  resolved := Array.replicate 196 none
  statics := none }

def pool14 : Array CpInfo := pool [(1, .methodref 2 3), (0, .class_ 4), (0, .nameAndType 5 6), (0, u "java/lang/Object"), (0, u "hashCode"), (0, u "()I"), (26, u "(Ljava/lang/Object;)I"), (6, .class_ 41), (0, u "java/util/HashMap"), (1, .methodref 44 45), (0, .class_ 46), (0, .nameAndType 47 48), (0, u "java/util/AbstractMap"), (0, u "<init>"), (0, u "()V"), (32, .fieldref 40 82), (0, .nameAndType 83 84), (0, u "loadFactor"), (0, u "F"), (3, .fieldref 40 89), (0, .nameAndType 90 91), (0, u "threshold"), (0, u "I"), (0, .float 1061158912), (8, .class_ 103), (1, u "java/util/Map"), (0, u "size"), (0, .fieldref 40 106), (0, .nameAndType 107 108), (0, u "table"), (0, u "[Ljava/util/HashMap$Node;"), (8, .methodref 40 118), (0, .nameAndType 119 120), (0, u "resize"), (0, u "()[Ljava/util/HashMap$Node;"), (2, u "entrySet"), (25, .methodref 40 150), (0, .nameAndType 151 33), (0, u "hash"), (0, .methodref 40 153), (0, .nameAndType 154 155), (0, u "putVal"), (0, u "(ILjava/lang/Object;Ljava/lang/Object;ZZ)Ljava/lang/Object;"), (0, .fieldref 40 157), (0, .nameAndType 104 91), (5, .class_ 165), (1, u "java/util/HashMap$Node"), (14, .class_ 181), (0, u "java/util/HashMap$TreeNode"), (4, .methodref 40 187), (0, .nameAndType 188 189), (0, u "newNode"), (0, u "(ILjava/lang/Object;Ljava/lang/Object;Ljava/util/HashMap$Node;)Ljava/util/HashMap$Node;"), (12, .fieldref 40 203), (0, .nameAndType 204 91), (0, u "modCount"), (0, .methodref 40 206), (0, .nameAndType 207 208), (0, u "afterNodeInsertion"), (0, u "(Z)V"), (33, u "Ljava/util/Set;"), (0, .class_ 244), (0, u "java/util/HashMap$KeySet"), (1, .nameAndType 47 247), (0, u "(Ljava/util/HashMap;)V"), (11, .fieldref 40 260), (0, .nameAndType 261 262), (0, u "values"), (0, u "Ljava/util/Collection;"), (0, .class_ 264), (0, u "java/util/HashMap$Values"), (0, .methodref 263 246), (2, .class_ 269), (0, u "java/util/HashMap$EntrySet"), (17, u "(Ljava/lang/Object;Ljava/lang/Object;)Ljava/lang/Object;"), (58, .class_ 348), (1, u "java/util/HashMap$UnsafeHolder"), (26, .methodref 163 376), (0, .nameAndType 47 377), (0, u "(ILjava/lang/Object;Ljava/lang/Object;Ljava/util/HashMap$Node;)V"), (14, .class_ 393), (0, u "java/lang/Cloneable"), (0, .class_ 395), (0, u "java/io/Serializable"), (0, u "serialVersionUID"), (0, u "J"), (3, u "DEFAULT_INITIAL_CAPACITY"), (1, u "MAXIMUM_CAPACITY"), (0, u "DEFAULT_LOAD_FACTOR"), (0, u "TREEIFY_THRESHOLD"), (1, u "UNTREEIFY_THRESHOLD"), (1, u "MIN_TREEIFY_CAPACITY"), (60, u "put"), (45, u "()Ljava/util/Collection;"), (79, .class_ 597), (0, u "java/util/HashMap$EntrySpliterator"), (0, .class_ 599), (0, u "java/util/HashMap$ValueSpliterator"), (0, .class_ 601), (0, u "java/util/HashMap$KeySpliterator"), (0, .class_ 603), (0, u "java/util/HashMap$HashMapSpliterator"), (0, .class_ 605), (0, u "java/util/HashMap$EntryIterator"), (0, .class_ 607), (0, u "java/util/HashMap$ValueIterator"), (0, .class_ 609), (0, u "java/util/HashMap$KeyIterator"), (0, .class_ 611), (0, u "java/util/HashMap$HashIterator")] 17

def k14c0 : Code := { maxStack := 3, maxLocals := 2, code := jdk_69_method_1_code, exceptionTable := #[], attributes := #[] }
def k14m0 : Method := { name := "hash", desc := "(Ljava/lang/Object;)I", sig := { parameters := [(.object "java/lang/Object")], returnType := some .int }, accessFlags := 24, code := some k14c0 }
def k14c1 : Code := { maxStack := 2, maxLocals := 1, code := jdk_69_method_7_code, exceptionTable := #[], attributes := #[] }
def k14m1 : Method := { name := "<init>", desc := "()V", sig := { parameters := [], returnType := none }, accessFlags := 1, code := some k14c1 }
def k14c2 : Code := { maxStack := 1, maxLocals := 1, code := jdk_69_method_10_code, exceptionTable := #[], attributes := #[] }
def k14m2 : Method := { name := "size", desc := "()I", sig := { parameters := [], returnType := some .int }, accessFlags := 1, code := some k14c2 }
def k14c3 : Code := { maxStack := 6, maxLocals := 3, code := jdk_69_method_15_code, exceptionTable := #[], attributes := #[] }
def k14m3 : Method := { name := "put", desc := "(Ljava/lang/Object;Ljava/lang/Object;)Ljava/lang/Object;", sig := { parameters := [(.object "java/lang/Object"), (.object "java/lang/Object")], returnType := some (.object "java/lang/Object") }, accessFlags := 1, code := some k14c3 }
def k14c4 : Code := { maxStack := 7, maxLocals := 13, code := jdk_69_method_16_code, exceptionTable := #[], attributes := #[] }
def k14m4 : Method := { name := "putVal", desc := "(ILjava/lang/Object;Ljava/lang/Object;ZZ)Ljava/lang/Object;", sig := { parameters := [.int, (.object "java/lang/Object"), (.object "java/lang/Object"), .boolean, .boolean], returnType := some (.object "java/lang/Object") }, accessFlags := 16, code := some k14c4 }
def k14c5 : Code := { maxStack := 5, maxLocals := 14, code := jdk_69_method_17_code, exceptionTable := #[], attributes := #[] }
def k14m5 : Method := { name := "resize", desc := "()[Ljava/util/HashMap$Node;", sig := { parameters := [], returnType := some (.array (.object "java/util/HashMap$Node")) }, accessFlags := 16, code := some k14c5 }
def k14c6 : Code := { maxStack := 3, maxLocals := 2, code := jdk_69_method_28_code, exceptionTable := #[], attributes := #[] }
def k14m6 : Method := { name := "values", desc := "()Ljava/util/Collection;", sig := { parameters := [], returnType := some (.object "java/util/Collection") }, accessFlags := 1, code := some k14c6 }
def k14c7 : Code := { maxStack := 6, maxLocals := 5, code := jdk_69_method_46_code, exceptionTable := #[], attributes := #[] }
def k14m7 : Method := { name := "newNode", desc := "(ILjava/lang/Object;Ljava/lang/Object;Ljava/util/HashMap$Node;)Ljava/util/HashMap$Node;", sig := { parameters := [.int, (.object "java/lang/Object"), (.object "java/lang/Object"), (.object "java/util/HashMap$Node")], returnType := some (.object "java/util/HashMap$Node") }, accessFlags := 0, code := some k14c7 }
def k14c8 : Code := { maxStack := 0, maxLocals := 2, code := jdk_69_method_52_code, exceptionTable := #[], attributes := #[] }
def k14m8 : Method := { name := "afterNodeInsertion", desc := "(Z)V", sig := { parameters := [.boolean], returnType := none }, accessFlags := 0, code := some k14c8 }
/-- java/util/HashMap -/
def k14 : Class := { plain "java/util/HashMap" (some 13) with
  accessFlags := 33
  interfaces := #[12, 9, 10]
  cf := some (fileOf pool14 40 #[.nestMembers #[180, 596, 598, 600, 602, 604, 606, 608, 610, 346, 268, 263, 243, 163]] #[{ accessFlags := 24, nameIndex := 151, descriptorIndex := 33, attributes := #[] }, { accessFlags := 1, nameIndex := 47, descriptorIndex := 48, attributes := #[] }, { accessFlags := 1, nameIndex := 104, descriptorIndex := 6, attributes := #[] }, { accessFlags := 1, nameIndex := 470, descriptorIndex := 287, attributes := #[] }, { accessFlags := 16, nameIndex := 154, descriptorIndex := 155, attributes := #[] }, { accessFlags := 16, nameIndex := 119, descriptorIndex := 120, attributes := #[] }, { accessFlags := 1, nameIndex := 261, descriptorIndex := 516, attributes := #[] }, { accessFlags := 0, nameIndex := 188, descriptorIndex := 189, attributes := #[] }, { accessFlags := 0, nameIndex := 207, descriptorIndex := 208, attributes := #[] }] 33 44 #[101, 392, 394] #[{ accessFlags := 26, nameIndex := 396, descriptorIndex := 397, attributes := #[] }, { accessFlags := 24, nameIndex := 401, descriptorIndex := 91, attributes := #[] }, { accessFlags := 24, nameIndex := 403, descriptorIndex := 91, attributes := #[] }, { accessFlags := 24, nameIndex := 404, descriptorIndex := 84, attributes := #[] }, { accessFlags := 24, nameIndex := 405, descriptorIndex := 91, attributes := #[] }, { accessFlags := 24, nameIndex := 407, descriptorIndex := 91, attributes := #[] }, { accessFlags := 24, nameIndex := 409, descriptorIndex := 91, attributes := #[] }, { accessFlags := 128, nameIndex := 107, descriptorIndex := 108, attributes := #[] }, { accessFlags := 128, nameIndex := 123, descriptorIndex := 242, attributes := #[] }, { accessFlags := 128, nameIndex := 104, descriptorIndex := 91, attributes := #[] }, { accessFlags := 128, nameIndex := 204, descriptorIndex := 91, attributes := #[] }, { accessFlags := 0, nameIndex := 90, descriptorIndex := 91, attributes := #[] }, { accessFlags := 16, nameIndex := 83, descriptorIndex := 84, attributes := #[] }])
  fields := #[{ name := "serialVersionUID", type := .long, accessFlags := 26, slot := 0, constantValue := 0 }, { name := "DEFAULT_INITIAL_CAPACITY", type := .int, accessFlags := 24, slot := 1, constantValue := 0 }, { name := "MAXIMUM_CAPACITY", type := .int, accessFlags := 24, slot := 2, constantValue := 0 }, { name := "DEFAULT_LOAD_FACTOR", type := .float, accessFlags := 24, slot := 3, constantValue := 0 }, { name := "TREEIFY_THRESHOLD", type := .int, accessFlags := 24, slot := 4, constantValue := 0 }, { name := "UNTREEIFY_THRESHOLD", type := .int, accessFlags := 24, slot := 5, constantValue := 0 }, { name := "MIN_TREEIFY_CAPACITY", type := .int, accessFlags := 24, slot := 6, constantValue := 0 }, { name := "table", type := (.array (.object "java/util/HashMap$Node")), accessFlags := 128, slot := 2, constantValue := 0 }, { name := "entrySet", type := (.object "java/util/Set"), accessFlags := 128, slot := 3, constantValue := 0 }, { name := "size", type := .int, accessFlags := 128, slot := 4, constantValue := 0 }, { name := "modCount", type := .int, accessFlags := 128, slot := 5, constantValue := 0 }, { name := "threshold", type := .int, accessFlags := 0, slot := 6, constantValue := 0 }, { name := "loadFactor", type := .float, accessFlags := 16, slot := 7, constantValue := 0 }]
  methods := #[k14m0, k14m1, k14m2, k14m3, k14m4, k14m5, k14m6, k14m7, k14m8]
  instanceTypes := #[(.object "java/util/Set"), (.object "java/util/Collection"), (.array (.object "java/util/HashMap$Node")), (.object "java/util/Set"), .int, .int, .int, .float]
  staticTypes := #[.long, .int, .int, .float, .int, .int, .int]
  resolved := Array.replicate 629 none
  statics := none }

def pool15 : Array CpInfo := pool [(1, .class_ 2), (0, u "java/lang/Comparable"), (0, .class_ 4), (0, u "java/lang/Object")] 7

/-- java/lang/Comparable -/
def k15 : Class := { plain "java/lang/Comparable" (some 0) with
  accessFlags := 1537
  interfaces := #[]
  cf := some (fileOf pool15 1 #[] #[] 1537 3 #[] #[])
  fields := #[]
  methods := #[]
  instanceTypes := #[]
  staticTypes := #[]
  resolved := Array.replicate 12 none
  statics := none }

def pool16 : Array CpInfo := pool [(2, .class_ 4), (1, u "java/lang/CharSequence"), (42, .class_ 48), (0, u "java/lang/CharSequence$1CodePointIterator"), (10, .class_ 60), (0, u "java/lang/CharSequence$1CharIterator"), (5, .class_ 67), (0, u "java/lang/Object")] 63

/-- java/lang/CharSequence -/
def k16 : Class := { plain "java/lang/CharSequence" (some 0) with
  accessFlags := 1537
  interfaces := #[]
  cf := some (fileOf pool16 2 #[.nestMembers #[47, 59]] #[] 1537 66 #[] #[])
  fields := #[]
  methods := #[]
  instanceTypes := #[]
  staticTypes := #[]
  resolved := Array.replicate 131 none
  statics := none }

def pool17 : Array CpInfo := pool [(1, .class_ 2), (0, u "java/lang/constant/Constable"), (0, .class_ 4), (0, u "java/lang/Object")] 6

/-- java/lang/constant/Constable -/
def k17 : Class := { plain "java/lang/constant/Constable" (some 0) with
  accessFlags := 1537
  interfaces := #[]
  cf := some (fileOf pool17 1 #[] #[] 1537 3 #[] #[])
  fields := #[]
  methods := #[]
  instanceTypes := #[]
  staticTypes := #[]
  resolved := Array.replicate 11 none
  statics := none }

def pool18 : Array CpInfo := pool [(1, .class_ 2), (0, u "java/lang/constant/ConstantDesc"), (0, .class_ 4), (0, u "java/lang/Object")] 32

/-- java/lang/constant/ConstantDesc -/
def k18 : Class := { plain "java/lang/constant/ConstantDesc" (some 0) with
  accessFlags := 1537
  interfaces := #[]
  cf := some (fileOf pool18 1 #[] #[] 1537 3 #[] #[])
  fields := #[]
  methods := #[]
  instanceTypes := #[]
  staticTypes := #[]
  resolved := Array.replicate 37 none
  statics := none }

def pool19 : Array CpInfo := pool [(1, .methodref 2 3), (0, .class_ 4), (0, .nameAndType 5 6), (0, u "java/lang/Object"), (0, u "<init>"), (0, u "()V"), (2, .fieldref 10 11), (0, .class_ 12), (0, .nameAndType 13 14), (0, u "java/lang/String"), (0, u "value"), (0, u "[B"), (0, .fieldref 10 16), (0, .nameAndType 17 18), (0, u "coder"), (0, u "B"), (0, .fieldref 10 20), (0, .nameAndType 21 22), (0, u "hash"), (0, u "I"), (0, .fieldref 10 24), (0, .nameAndType 25 26), (0, u "hashIsZero"), (0, u "Z"), (11, .fieldref 10 39), (0, .nameAndType 40 26), (0, u "COMPACT_STRINGS"), (12, u "toBytes"), (53, .class_ 109), (1, u "java/lang/StringLatin1"), (32, u "()Z"), (66, .methodref 10 210), (0, .nameAndType 5 211), (0, u "([BB)V"), (122, u "()I"), (34, u "(C)Z"), (122, .methodref 10 493), (0, .nameAndType 494 142), (0, u "isLatin1"), (80, .class_ 576), (0, u "java/lang/CharSequence"), (22, u "CASE_INSENSITIVE_ORDER"), (0, u "Ljava/util/Comparator;"), (27, .methodref 107 629), (0, .nameAndType 630 631), (0, u "hashCode"), (0, u "([B)I"), (150, u "valueOf"), (0, u "(C)Ljava/lang/String;"), (231, .methodref 107 1016), (0, .nameAndType 1017 369), (0, u "canEncode"), (0, .methodref 107 1019), (0, .nameAndType 53 1020), (0, u "(C)[B"), (80, u "serialPersistentFields"), (0, u "[Ljava/io/ObjectStreamField;"), (0, .class_ 1104), (0, u "java/lang/String$CaseInsensitiveComparator"), (1, .class_ 1107), (0, u "java/io/Serializable"), (0, .class_ 1109), (0, u "java/lang/Comparable"), (0, .class_ 1111), (0, u "java/lang/constant/Constable"), (0, .class_ 1113), (0, u "java/lang/constant/ConstantDesc"), (2, u "serialVersionUID"), (0, u "J"), (3, u "REPL"), (0, u "C"), (2, u "LATIN1"), (1, u "UTF16")] 323

def k19m0 : Method := { name := "<init>", desc := "()V", sig := { parameters := [], returnType := none }, accessFlags := 1, code := none }
def k19c1 : Code := { maxStack := 2, maxLocals := 2, code := jdk_42_method_78_code, exceptionTable := #[], attributes := #[] }
def k19m1 : Method := { name := "hashCode", desc := "()I", sig := { parameters := [], returnType := some .int }, accessFlags := 1, code := some k19c1 }
def k19c2 : Code := { maxStack := 4, maxLocals := 1, code := jdk_42_method_139_code, exceptionTable := #[], attributes := #[] }
def k19m2 : Method := { name := "valueOf", desc := "(C)Ljava/lang/String;", sig := { parameters := [.char], returnType := some (.object "java/lang/String") }, accessFlags := 9, code := some k19c2 }
def k19c3 : Code := { maxStack := 2, maxLocals := 3, code := jdk_42_method_151_code, exceptionTable := #[], attributes := #[] }
def k19m3 : Method := { name := "<init>", desc := "([BB)V", sig := { parameters := [(.array .byte), .byte], returnType := none }, accessFlags := 0, code := some k19c3 }
def k19c4 : Code := { maxStack := 1, maxLocals := 1, code := jdk_42_method_154_code, exceptionTable := #[], attributes := #[] }
def k19m4 : Method := { name := "isLatin1", desc := "()Z", sig := { parameters := [], returnType := some .boolean }, accessFlags := 0, code := some k19c4 }
/-- java/lang/String -/
def k19 : Class := { plain "java/lang/String" (some 0) with
  accessFlags := 49
  interfaces := #[10, 15, 16, 17, 18]
  cf := some (fileOf pool19 10 #[.nestMembers #[1103]] #[{ accessFlags := 1, nameIndex := 5, descriptorIndex := 6, attributes := #[] }, { accessFlags := 1, nameIndex := 630, descriptorIndex := 334, attributes := #[] }, { accessFlags := 9, nameIndex := 782, descriptorIndex := 783, attributes := #[] }, { accessFlags := 0, nameIndex := 5, descriptorIndex := 211, attributes := #[] }, { accessFlags := 0, nameIndex := 494, descriptorIndex := 142, attributes := #[] }] 49 2 #[1106, 1108, 575, 1110, 1112] #[{ accessFlags := 18, nameIndex := 13, descriptorIndex := 14, attributes := #[] }, { accessFlags := 18, nameIndex := 17, descriptorIndex := 18, attributes := #[] }, { accessFlags := 2, nameIndex := 21, descriptorIndex := 22, attributes := #[] }, { accessFlags := 2, nameIndex := 25, descriptorIndex := 26, attributes := #[] }, { accessFlags := 26, nameIndex := 1116, descriptorIndex := 1117, attributes := #[] }, { accessFlags := 24, nameIndex := 40, descriptorIndex := 26, attributes := #[] }, { accessFlags := 26, nameIndex := 1101, descriptorIndex := 1102, attributes := #[] }, { accessFlags := 26, nameIndex := 1121, descriptorIndex := 1122, attributes := #[] }, { accessFlags := 25, nameIndex := 599, descriptorIndex := 600, attributes := #[] }, { accessFlags := 24, nameIndex := 1125, descriptorIndex := 18, attributes := #[] }, { accessFlags := 24, nameIndex := 1127, descriptorIndex := 18, attributes := #[] }])
  fields := #[{ name := "value", type := (.array .byte), accessFlags := 18, slot := 0, constantValue := 0 }, { name := "coder", type := .byte, accessFlags := 18, slot := 1, constantValue := 0 }, { name := "hash", type := .int, accessFlags := 2, slot := 2, constantValue := 0 }, { name := "hashIsZero", type := .boolean, accessFlags := 2, slot := 3, constantValue := 0 }, { name := "serialVersionUID", type := .long, accessFlags := 26, slot := 0, constantValue := 0 }, { name := "COMPACT_STRINGS", type := .boolean, accessFlags := 24, slot := 1, constantValue := 0 }, { name := "serialPersistentFields", type := (.array (.object "java/io/ObjectStreamField")), accessFlags := 26, slot := 2, constantValue := 0 }, { name := "REPL", type := .char, accessFlags := 26, slot := 3, constantValue := 0 }, { name := "CASE_INSENSITIVE_ORDER", type := (.object "java/util/Comparator"), accessFlags := 25, slot := 4, constantValue := 0 }, { name := "LATIN1", type := .byte, accessFlags := 24, slot := 5, constantValue := 0 }, { name := "UTF16", type := .byte, accessFlags := 24, slot := 6, constantValue := 0 }]
  methods := #[k19m0, k19m1, k19m2, k19m3, k19m4]
  instanceTypes := #[(.array .byte), .byte, .int, .boolean]
  staticTypes := #[.long, .boolean, (.array (.object "java/io/ObjectStreamField")), .char, (.object "java/util/Comparator"), .byte, .byte]
  resolved := Array.replicate 1451 none
  statics := some 1 }

def pool20 : Array CpInfo := pool [(4, .class_ 6), (1, u "java/lang/Object"), (0, u "<init>"), (0, u "()V"), (5, .class_ 16), (1, u "java/lang/StringLatin1"), (40, u "([B)I"), (32, u "canEncode"), (14, u "(C)Z"), (15, u "$assertionsDisabled"), (0, u "Z"), (98, .class_ 223), (1, u "java/lang/StringLatin1$LinesSpliterator"), (74, u "hashCode"), (81, u "toBytes"), (1, u "(C)[B"), (7, .class_ 391), (0, u "java/lang/StringLatin1$CharsSpliterator")] 3

def k20m0 : Method := { name := "<init>", desc := "()V", sig := { parameters := [], returnType := none }, accessFlags := 0, code := none }
def k20c1 : Code := { maxStack := 2, maxLocals := 1, code := jdk_43_method_3_code, exceptionTable := #[], attributes := #[] }
def k20m1 : Method := { name := "canEncode", desc := "(C)Z", sig := { parameters := [.char], returnType := some .boolean }, accessFlags := 9, code := some k20c1 }
def k20c2 : Code := { maxStack := 5, maxLocals := 1, code := jdk_43_method_21_code, exceptionTable := #[], attributes := #[] }
def k20m2 : Method := { name := "hashCode", desc := "([B)I", sig := { parameters := [(.array .byte)], returnType := some .int }, accessFlags := 9, code := some k20c2 }
def k20c3 : Code := { maxStack := 4, maxLocals := 1, code := jdk_43_method_46_code, exceptionTable := #[], attributes := #[] }
def k20m3 : Method := { name := "toBytes", desc := "(C)[B", sig := { parameters := [.char], returnType := some (.array .byte) }, accessFlags := 9, code := some k20c3 }
/-- java/lang/StringLatin1 -/
def k20 : Class := { plain "java/lang/StringLatin1" (some 0) with
  accessFlags := 48
  interfaces := #[]
  cf := some (fileOf pool20 14 #[.nestMembers #[390, 221]] #[{ accessFlags := 0, nameIndex := 7, descriptorIndex := 8, attributes := #[] }, { accessFlags := 9, nameIndex := 90, descriptorIndex := 105, attributes := #[] }, { accessFlags := 9, nameIndex := 298, descriptorIndex := 57, attributes := #[] }, { accessFlags := 9, nameIndex := 380, descriptorIndex := 382, attributes := #[] }] 48 4 #[] #[{ accessFlags := 4120, nameIndex := 121, descriptorIndex := 122, attributes := #[] }])
  fields := #[{ name := "$assertionsDisabled", type := .boolean, accessFlags := 4120, slot := 0, constantValue := 0 }]
  methods := #[k20m0, k20m1, k20m2, k20m3]
  instanceTypes := #[]
  staticTypes := #[.boolean]
  resolved := Array.replicate 395 none
  statics := none }

def pool21 : Array CpInfo := pool [(1, .methodref 2 3), (0, .class_ 4), (0, .nameAndType 5 6), (0, u "java/lang/Object"), (0, u "<init>"), (0, u "()V"), (1, .class_ 10), (1, u "java/lang/Number"), (2, .class_ 14), (0, u "java/io/Serializable"), (0, u "serialVersionUID"), (0, u "J")] 20

def k21c0 : Code := { maxStack := 1, maxLocals := 1, code := jdk_18_method_1_code, exceptionTable := #[], attributes := #[] }
def k21m0 : Method := { name := "<init>", desc := "()V", sig := { parameters := [], returnType := none }, accessFlags := 1, code := some k21c0 }
/-- java/lang/Number -/
def k21 : Class := { plain "java/lang/Number" (some 0) with
  accessFlags := 1057
  interfaces := #[10]
  cf := some (fileOf pool21 8 #[] #[{ accessFlags := 1, nameIndex := 5, descriptorIndex := 6, attributes := #[] }] 1057 2 #[13] #[{ accessFlags := 26, nameIndex := 15, descriptorIndex := 16, attributes := #[] }])
  fields := #[{ name := "serialVersionUID", type := .long, accessFlags := 26, slot := 0, constantValue := 0 }]
  methods := #[k21m0]
  instanceTypes := #[]
  staticTypes := #[.long]
  resolved := Array.replicate 37 none
  statics := none }

def pool22 : Array CpInfo := pool [(1, .class_ 2), (0, u "java/lang/Integer"), (16, u "digits"), (0, u "[C"), (46, u "<init>"), (17, u "DigitOnes"), (0, u "[B"), (2, u "DigitTens"), (10, .nameAndType 67 101), (0, u "()V"), (19, u "()I"), (65, u "valueOf"), (0, u "(I)Ljava/lang/Integer;"), (0, .class_ 190), (0, u "java/lang/Integer$IntegerCache"), (0, .fieldref 189 192), (0, .nameAndType 193 194), (0, u "high"), (0, u "I"), (0, .fieldref 189 196), (0, .nameAndType 197 198), (0, u "cache"), (0, u "[Ljava/lang/Integer;"), (0, .methodref 1 200), (0, .nameAndType 67 201), (0, u "(I)V"), (0, .methodref 203 100), (0, .class_ 204), (0, u "java/lang/Number"), (0, .fieldref 1 206), (0, .nameAndType 207 194), (0, u "value"), (5, u "intValue"), (88, u "TYPE"), (0, u "Ljava/lang/Class;"), (0, .class_ 305), (0, u "java/lang/Comparable"), (0, .class_ 307), (0, u "java/lang/constant/Constable"), (0, .class_ 309), (0, u "java/lang/constant/ConstantDesc"), (0, u "MIN_VALUE"), (1, u "MAX_VALUE"), (3, u "SIZE"), (1, u "BYTES"), (1, u "serialVersionUID"), (0, u "J")] 131

def k22c0 : Code := { maxStack := 3, maxLocals := 1, code := jdk_33_method_22_code, exceptionTable := #[], attributes := #[] }
def k22m0 : Method := { name := "valueOf", desc := "(I)Ljava/lang/Integer;", sig := { parameters := [.int], returnType := some (.object "java/lang/Integer") }, accessFlags := 9, code := some k22c0 }
def k22c1 : Code := { maxStack := 2, maxLocals := 2, code := jdk_33_method_23_code, exceptionTable := #[], attributes := #[] }
def k22m1 : Method := { name := "<init>", desc := "(I)V", sig := { parameters := [.int], returnType := none }, accessFlags := 1, code := some k22c1 }
def k22c2 : Code := { maxStack := 1, maxLocals := 1, code := jdk_33_method_27_code, exceptionTable := #[], attributes := #[] }
def k22m2 : Method := { name := "intValue", desc := "()I", sig := { parameters := [], returnType := some .int }, accessFlags := 1, code := some k22c2 }
/-- java/lang/Integer -/
def k22 : Class := { plain "java/lang/Integer" (some 21) with
  accessFlags := 49
  interfaces := #[15, 17, 18]
  cf := some (fileOf pool22 1 #[.nestMembers #[189]] #[{ accessFlags := 9, nameIndex := 187, descriptorIndex := 188, attributes := #[] }, { accessFlags := 1, nameIndex := 67, descriptorIndex := 201, attributes := #[] }, { accessFlags := 1, nameIndex := 213, descriptorIndex := 121, attributes := #[] }] 49 203 #[304, 306, 308] #[{ accessFlags := 25, nameIndex := 310, descriptorIndex := 194, attributes := #[] }, { accessFlags := 25, nameIndex := 312, descriptorIndex := 194, attributes := #[] }, { accessFlags := 25, nameIndex := 302, descriptorIndex := 303, attributes := #[] }, { accessFlags := 24, nameIndex := 19, descriptorIndex := 20, attributes := #[] }, { accessFlags := 24, nameIndex := 89, descriptorIndex := 86, attributes := #[] }, { accessFlags := 24, nameIndex := 85, descriptorIndex := 86, attributes := #[] }, { accessFlags := 18, nameIndex := 207, descriptorIndex := 194, attributes := #[] }, { accessFlags := 25, nameIndex := 316, descriptorIndex := 194, attributes := #[] }, { accessFlags := 25, nameIndex := 318, descriptorIndex := 194, attributes := #[] }, { accessFlags := 26, nameIndex := 320, descriptorIndex := 321, attributes := #[] }])
  fields := #[{ name := "MIN_VALUE", type := .int, accessFlags := 25, slot := 0, constantValue := 0 }, { name := "MAX_VALUE", type := .int, accessFlags := 25, slot := 1, constantValue := 0 }, { name := "TYPE", type := (.object "java/lang/Class"), accessFlags := 25, slot := 2, constantValue := 0 }, { name := "digits", type := (.array .char), accessFlags := 24, slot := 3, constantValue := 0 }, { name := "DigitTens", type := (.array .byte), accessFlags := 24, slot := 4, constantValue := 0 }, { name := "DigitOnes", type := (.array .byte), accessFlags := 24, slot := 5, constantValue := 0 }, { name := "value", type := .int, accessFlags := 18, slot := 0, constantValue := 0 }, { name := "SIZE", type := .int, accessFlags := 25, slot := 6, constantValue := 0 }, { name := "BYTES", type := .int, accessFlags := 25, slot := 7, constantValue := 0 }, { name := "serialVersionUID", type := .long, accessFlags := 26, slot := 8, constantValue := 0 }]
  methods := #[k22m0, k22m1, k22m2]
  instanceTypes := #[.int]
  staticTypes := #[.int, .int, (.object "java/lang/Class"), (.array .char), (.array .byte), (.array .byte), .int, .int, .long]
  resolved := Array.replicate 453 none
  statics := none }

def pool23 : Array CpInfo := pool [(2, .class_ 4), (1, u "java/lang/Object"), (0, u "<init>"), (0, u "()V"), (0, .class_ 8), (0, u "java/lang/Integer"), (7, .class_ 18), (1, u "java/lang/Integer$IntegerCache"), (0, u "$assertionsDisabled"), (0, u "Z"), (26, u "high"), (0, u "I"), (8, u "archivedCache"), (0, u "[Ljava/lang/Integer;"), (12, u "cache"), (0, u "low")] 27

def k23m0 : Method := { name := "<init>", desc := "()V", sig := { parameters := [], returnType := none }, accessFlags := 2, code := none }
/-- java/lang/Integer$IntegerCache -/
def k23 : Class := { plain "java/lang/Integer$IntegerCache" (some 0) with
  accessFlags := 48
  interfaces := #[]
  cf := some (fileOf pool23 16 #[.nestHost 7] #[{ accessFlags := 2, nameIndex := 5, descriptorIndex := 6, attributes := #[] }] 48 2 #[] #[{ accessFlags := 24, nameIndex := 72, descriptorIndex := 48, attributes := #[] }, { accessFlags := 24, nameIndex := 47, descriptorIndex := 48, attributes := #[] }, { accessFlags := 24, nameIndex := 71, descriptorIndex := 58, attributes := #[] }, { accessFlags := 8, nameIndex := 57, descriptorIndex := 58, attributes := #[] }, { accessFlags := 4120, nameIndex := 19, descriptorIndex := 20, attributes := #[] }])
  fields := #[{ name := "low", type := .int, accessFlags := 24, slot := 0, constantValue := 0 }, { name := "high", type := .int, accessFlags := 24, slot := 1, constantValue := 0 }, { name := "cache", type := (.array (.object "java/lang/Integer")), accessFlags := 24, slot := 2, constantValue := 0 }, { name := "archivedCache", type := (.array (.object "java/lang/Integer")), accessFlags := 8, slot := 3, constantValue := 0 }, { name := "$assertionsDisabled", type := .boolean, accessFlags := 4120, slot := 4, constantValue := 0 }]
  methods := #[k23m0]
  instanceTypes := #[]
  staticTypes := #[.int, .int, (.array (.object "java/lang/Integer")), (.array (.object "java/lang/Integer")), .boolean]
  resolved := Array.replicate 100 none
  statics := some 2 }

def pool24 : Array CpInfo := pool [(23, .class_ 25), (1, u "java/util/Map$Entry"), (6, .class_ 34), (1, u "java/util/Map"), (34, .class_ 70), (0, u "java/lang/Object")] 107

/-- java/util/Map$Entry -/
def k24 : Class := { plain "java/util/Map$Entry" (some 0) with
  accessFlags := 1537
  interfaces := #[]
  cf := some (fileOf pool24 23 #[.nestHost 32] #[] 1537 69 #[] #[])
  fields := #[]
  methods := #[]
  instanceTypes := #[]
  staticTypes := #[]
  resolved := Array.replicate 178 none
  statics := none }

def pool25 : Array CpInfo := pool [(1, .methodref 2 3), (0, .class_ 4), (0, .nameAndType 5 6), (0, u "java/lang/Object"), (0, u "<init>"), (0, u "()V"), (0, .fieldref 8 9), (0, .class_ 10), (0, .nameAndType 11 12), (0, u "java/util/HashMap$Node"), (0, u "hash"), (0, u "I"), (0, .fieldref 8 14), (0, .nameAndType 15 16), (0, u "key"), (0, u "Ljava/lang/Object;"), (0, .fieldref 8 18), (0, .nameAndType 19 16), (0, u "value"), (0, .fieldref 8 21), (0, .nameAndType 22 23), (0, u "next"), (0, u "Ljava/util/HashMap$Node;"), (22, .class_ 47), (0, u "java/util/Map$Entry"), (15, u "(ILjava/lang/Object;Ljava/lang/Object;Ljava/util/HashMap$Node;)V"), (24, .class_ 89), (0, u "java/util/HashMap")] 5

def k25c0 : Code := { maxStack := 2, maxLocals := 5, code := jdk_70_method_1_code, exceptionTable := #[], attributes := #[] }
def k25m0 : Method := { name := "<init>", desc := "(ILjava/lang/Object;Ljava/lang/Object;Ljava/util/HashMap$Node;)V", sig := { parameters := [.int, (.object "java/lang/Object"), (.object "java/lang/Object"), (.object "java/util/HashMap$Node")], returnType := none }, accessFlags := 0, code := some k25c0 }
/-- java/util/HashMap$Node -/
def k25 : Class := { plain "java/util/HashMap$Node" (some 0) with
  accessFlags := 32
  interfaces := #[24]
  cf := some (fileOf pool25 8 #[.nestHost 88] #[{ accessFlags := 0, nameIndex := 5, descriptorIndex := 63, attributes := #[] }] 32 2 #[46] #[{ accessFlags := 16, nameIndex := 11, descriptorIndex := 12, attributes := #[] }, { accessFlags := 16, nameIndex := 15, descriptorIndex := 16, attributes := #[] }, { accessFlags := 0, nameIndex := 19, descriptorIndex := 16, attributes := #[] }, { accessFlags := 0, nameIndex := 22, descriptorIndex := 23, attributes := #[] }])
  fields := #[{ name := "hash", type := .int, accessFlags := 16, slot := 0, constantValue := 0 }, { name := "key", type := (.object "java/lang/Object"), accessFlags := 16, slot := 1, constantValue := 0 }, { name := "value", type := (.object "java/lang/Object"), accessFlags := 0, slot := 2, constantValue := 0 }, { name := "next", type := (.object "java/util/HashMap$Node"), accessFlags := 0, slot := 3, constantValue := 0 }]
  methods := #[k25m0]
  instanceTypes := #[.int, (.object "java/lang/Object"), (.object "java/lang/Object"), (.object "java/util/HashMap$Node")]
  staticTypes := #[]
  resolved := Array.replicate 95 none
  statics := none }

def pool26 : Array CpInfo := pool [(1, .methodref 2 3), (0, .class_ 4), (0, .nameAndType 5 6), (0, u "java/lang/Object"), (0, u "<init>"), (0, u "()V"), (0, .interfaceMethodref 8 9), (0, .class_ 10), (0, .nameAndType 11 12), (0, u "java/util/List"), (0, u "size"), (0, u "()I"), (0, .fieldref 14 15), (0, .class_ 16), (0, .nameAndType 17 18), (0, u "com/example/dolm/dolm/eval/JudgedRanking"), (0, u "relevant"), (0, u "[Z"), (0, .fieldref 14 20), (0, .nameAndType 21 22), (0, u "gains"), (0, u "[I"), (10, .methodref 34 35), (0, .class_ 36), (0, .nameAndType 37 38), (0, u "java/lang/Integer"), (0, u "valueOf"), (0, u "(I)Ljava/lang/Integer;"), (1, .class_ 42), (1, u "java/util/Map"), (2, .methodref 34 46), (0, .nameAndType 47 12), (0, u "intValue"), (8, .interfaceMethodref 40 9), (0, .interfaceMethodref 40 58), (0, .nameAndType 59 60), (0, u "values"), (0, u "()Ljava/util/Collection;"), (0, .interfaceMethodref 62 63), (0, .class_ 64), (0, .nameAndType 65 66), (0, u "java/util/Collection"), (0, u "iterator"), (0, u "()Ljava/util/Iterator;"), (0, .interfaceMethodref 68 69), (0, .class_ 70), (0, .nameAndType 71 72), (0, u "java/util/Iterator"), (0, u "hasNext"), (0, u "()Z"), (0, .interfaceMethodref 68 74), (0, .nameAndType 75 76), (0, u "next"), (0, u "()Ljava/lang/Object;"), (0, .fieldref 14 78), (0, .nameAndType 79 80), (0, u "relevantCount"), (0, u "I"), (0, .methodref 82 83), (0, .class_ 84), (0, .nameAndType 85 86), (0, u "java/util/Arrays"), (0, u "copyOf"), (0, u "([II)[I"), (0, .fieldref 14 88), (0, .nameAndType 89 22), (0, u "judgedGains"), (0, .methodref 82 91), (0, .nameAndType 92 93), (0, u "sort"), (0, u "([I)V"), (3, u "(Ljava/util/List;Ljava/util/Map;)V"), (13, u "perRelevant"), (0, u "(D)D")] 2

def k26c0 : Code := { maxStack := 4, maxLocals := 8, code := prog_9_method_1_code, exceptionTable := #[], attributes := #[] }
def k26m0 : Method := { name := "<init>", desc := "(Ljava/util/List;Ljava/util/Map;)V", sig := { parameters := [(.object "java/util/List"), (.object "java/util/Map")], returnType := none }, accessFlags := 0, code := some k26c0 }
def k26c1 : Code := { maxStack := 4, maxLocals := 3, code := prog_9_method_7_code, exceptionTable := #[], attributes := #[] }
def k26m1 : Method := { name := "perRelevant", desc := "(D)D", sig := { parameters := [.double], returnType := some .double }, accessFlags := 0, code := some k26c1 }
/-- com/example/dolm/dolm/eval/JudgedRanking -/
def k26 : Class := { plain "com/example/dolm/dolm/eval/JudgedRanking" (some 0) with
  accessFlags := 48
  interfaces := #[]
  cf := some (fileOf pool26 14 #[] #[{ accessFlags := 0, nameIndex := 5, descriptorIndex := 97, attributes := #[] }, { accessFlags := 0, nameIndex := 111, descriptorIndex := 112, attributes := #[] }] 48 2 #[] #[{ accessFlags := 18, nameIndex := 17, descriptorIndex := 18, attributes := #[] }, { accessFlags := 18, nameIndex := 21, descriptorIndex := 22, attributes := #[] }, { accessFlags := 18, nameIndex := 79, descriptorIndex := 80, attributes := #[] }, { accessFlags := 18, nameIndex := 89, descriptorIndex := 22, attributes := #[] }])
  fields := #[{ name := "relevant", type := (.array .boolean), accessFlags := 18, slot := 0, constantValue := 0 }, { name := "gains", type := (.array .int), accessFlags := 18, slot := 1, constantValue := 0 }, { name := "relevantCount", type := .int, accessFlags := 18, slot := 2, constantValue := 0 }, { name := "judgedGains", type := (.array .int), accessFlags := 18, slot := 3, constantValue := 0 }]
  methods := #[k26m0, k26m1]
  instanceTypes := #[(.array .boolean), (.array .int), .int, (.array .int)]
  staticTypes := #[]
  resolved := Array.replicate 115 none
  statics := none }

def pool27 : Array CpInfo := pool [(1, .fieldref 2 3), (0, .class_ 4), (0, .nameAndType 5 6), (0, u "java/util/HashMap$Values"), (0, u "this$0"), (0, u "Ljava/util/HashMap;"), (0, .methodref 8 9), (0, .class_ 10), (0, .nameAndType 11 12), (0, u "java/util/AbstractCollection"), (0, u "<init>"), (0, u "()V"), (1, .class_ 16), (1, u "java/util/HashMap"), (5, .class_ 23), (0, u "java/util/HashMap$ValueIterator"), (0, .methodref 22 25), (0, .nameAndType 11 26), (0, u "(Ljava/util/HashMap;)V"), (56, u "iterator"), (0, u "()Ljava/util/Iterator;")] 35

def k27c0 : Code := { maxStack := 2, maxLocals := 2, code := jdk_2571_method_1_code, exceptionTable := #[], attributes := #[] }
def k27m0 : Method := { name := "<init>", desc := "(Ljava/util/HashMap;)V", sig := { parameters := [(.object "java/util/HashMap")], returnType := none }, accessFlags := 0, code := some k27c0 }
def k27c1 : Code := { maxStack := 3, maxLocals := 1, code := jdk_2571_method_4_code, exceptionTable := #[], attributes := #[] }
def k27m1 : Method := { name := "iterator", desc := "()Ljava/util/Iterator;", sig := { parameters := [], returnType := some (.object "java/util/Iterator") }, accessFlags := 17, code := some k27c1 }
/-- java/util/HashMap$Values -/
def k27 : Class := { plain "java/util/HashMap$Values" (some 4) with
  accessFlags := 48
  interfaces := #[]
  cf := some (fileOf pool27 2 #[.nestHost 14] #[{ accessFlags := 0, nameIndex := 11, descriptorIndex := 26, attributes := #[] }, { accessFlags := 17, nameIndex := 83, descriptorIndex := 84, attributes := #[] }] 48 8 #[] #[{ accessFlags := 4112, nameIndex := 5, descriptorIndex := 6, attributes := #[] }])
  fields := #[{ name := "this$0", type := (.object "java/util/HashMap"), accessFlags := 4112, slot := 0, constantValue := 0 }]
  methods := #[k27m0, k27m1]
  instanceTypes := #[(.object "java/util/HashMap")]
  staticTypes := #[]
  resolved := Array.replicate 120 none
  statics := none }

def pool28 : Array CpInfo := pool [(1, .fieldref 2 3), (0, .class_ 4), (0, .nameAndType 5 6), (0, u "java/util/HashMap$HashIterator"), (0, u "this$0"), (0, u "Ljava/util/HashMap;"), (0, .methodref 8 9), (0, .class_ 10), (0, .nameAndType 11 12), (0, u "java/lang/Object"), (0, u "<init>"), (0, u "()V"), (0, .fieldref 14 15), (0, .class_ 16), (0, .nameAndType 17 18), (0, u "java/util/HashMap"), (0, u "modCount"), (0, u "I"), (0, .fieldref 2 20), (0, .nameAndType 21 18), (0, u "expectedModCount"), (0, .fieldref 14 23), (0, .nameAndType 24 25), (0, u "table"), (0, u "[Ljava/util/HashMap$Node;"), (0, .fieldref 2 27), (0, .nameAndType 28 29), (0, u "next"), (0, u "Ljava/util/HashMap$Node;"), (0, .fieldref 2 31), (0, .nameAndType 32 29), (0, u "current"), (0, .fieldref 2 34), (0, .nameAndType 35 18), (0, u "index"), (0, .fieldref 14 37), (0, .nameAndType 38 18), (0, u "size"), (6, .fieldref 46 27), (0, .class_ 47), (0, u "java/util/HashMap$Node"), (16, u "(Ljava/util/HashMap;)V"), (12, u "hasNext"), (0, u "()Z"), (0, u "nextNode"), (0, u "()Ljava/util/HashMap$Node;")] 10

def k28c0 : Code := { maxStack := 6, maxLocals := 3, code := jdk_99_method_1_code, exceptionTable := #[], attributes := #[] }
def k28m0 : Method := { name := "<init>", desc := "(Ljava/util/HashMap;)V", sig := { parameters := [(.object "java/util/HashMap")], returnType := none }, accessFlags := 0, code := some k28c0 }
def k28c1 : Code := { maxStack := 1, maxLocals := 1, code := jdk_99_method_2_code, exceptionTable := #[], attributes := #[] }
def k28m1 : Method := { name := "hasNext", desc := "()Z", sig := { parameters := [], returnType := some .boolean }, accessFlags := 17, code := some k28c1 }
def k28c2 : Code := { maxStack := 6, maxLocals := 3, code := jdk_99_method_3_code, exceptionTable := #[], attributes := #[] }
def k28m2 : Method := { name := "nextNode", desc := "()Ljava/util/HashMap$Node;", sig := { parameters := [], returnType := some (.object "java/util/HashMap$Node") }, accessFlags := 16, code := some k28c2 }
/-- java/util/HashMap$HashIterator -/
def k28 : Class := { plain "java/util/HashMap$HashIterator" (some 0) with
  accessFlags := 1056
  interfaces := #[]
  cf := some (fileOf pool28 2 #[.nestHost 14] #[{ accessFlags := 0, nameIndex := 11, descriptorIndex := 64, attributes := #[] }, { accessFlags := 17, nameIndex := 77, descriptorIndex := 78, attributes := #[] }, { accessFlags := 16, nameIndex := 79, descriptorIndex := 80, attributes := #[] }] 1056 8 #[] #[{ accessFlags := 0, nameIndex := 28, descriptorIndex := 29, attributes := #[] }, { accessFlags := 0, nameIndex := 32, descriptorIndex := 29, attributes := #[] }, { accessFlags := 0, nameIndex := 21, descriptorIndex := 18, attributes := #[] }, { accessFlags := 0, nameIndex := 35, descriptorIndex := 18, attributes := #[] }, { accessFlags := 4112, nameIndex := 5, descriptorIndex := 6, attributes := #[] }])
  fields := #[{ name := "next", type := (.object "java/util/HashMap$Node"), accessFlags := 0, slot := 0, constantValue := 0 }, { name := "current", type := (.object "java/util/HashMap$Node"), accessFlags := 0, slot := 1, constantValue := 0 }, { name := "expectedModCount", type := .int, accessFlags := 0, slot := 2, constantValue := 0 }, { name := "index", type := .int, accessFlags := 0, slot := 3, constantValue := 0 }, { name := "this$0", type := (.object "java/util/HashMap"), accessFlags := 4112, slot := 4, constantValue := 0 }]
  methods := #[k28m0, k28m1, k28m2]
  instanceTypes := #[(.object "java/util/HashMap$Node"), (.object "java/util/HashMap$Node"), .int, .int, (.object "java/util/HashMap")]
  staticTypes := #[]
  resolved := Array.replicate 91 none
  statics := none }

def pool29 : Array CpInfo := pool [(16, .class_ 18), (1, u "java/util/Iterator"), (0, u "hasNext"), (0, u "()Z"), (2, u "next"), (0, u "()Ljava/lang/Object;"), (6, .class_ 32), (0, u "java/lang/Object")] 20

def k29m0 : Method := { name := "hasNext", desc := "()Z", sig := { parameters := [], returnType := some .boolean }, accessFlags := 1025, code := none }
def k29m1 : Method := { name := "next", desc := "()Ljava/lang/Object;", sig := { parameters := [], returnType := some (.object "java/lang/Object") }, accessFlags := 1025, code := none }
/-- java/util/Iterator -/
def k29 : Class := { plain "java/util/Iterator" (some 0) with
  accessFlags := 1537
  interfaces := #[]
  cf := some (fileOf pool29 16 #[] #[{ accessFlags := 1025, nameIndex := 19, descriptorIndex := 20, attributes := #[] }, { accessFlags := 1025, nameIndex := 23, descriptorIndex := 24, attributes := #[] }] 1537 31 #[] #[])
  fields := #[]
  methods := #[k29m0, k29m1]
  instanceTypes := #[]
  staticTypes := #[]
  resolved := Array.replicate 53 none
  statics := none }

def pool30 : Array CpInfo := pool [(1, .methodref 2 3), (0, .class_ 4), (0, .nameAndType 5 6), (0, u "java/util/HashMap$HashIterator"), (0, u "<init>"), (0, u "(Ljava/util/HashMap;)V"), (0, .methodref 8 9), (0, .class_ 10), (0, .nameAndType 11 12), (0, u "java/util/HashMap$ValueIterator"), (0, u "nextNode"), (0, u "()Ljava/util/HashMap$Node;"), (0, .fieldref 14 15), (0, .class_ 16), (0, .nameAndType 17 18), (0, u "java/util/HashMap$Node"), (0, u "value"), (0, u "Ljava/lang/Object;"), (0, .class_ 20), (0, u "java/util/Iterator"), (10, u "next"), (0, u "()Ljava/lang/Object;"), (6, .class_ 40), (0, u "java/util/HashMap")] 4

def k30c0 : Code := { maxStack := 2, maxLocals := 2, code := jdk_2569_method_1_code, exceptionTable := #[], attributes := #[] }
def k30m0 : Method := { name := "<init>", desc := "(Ljava/util/HashMap;)V", sig := { parameters := [(.object "java/util/HashMap")], returnType := none }, accessFlags := 0, code := some k30c0 }
def k30c1 : Code := { maxStack := 1, maxLocals := 1, code := jdk_2569_method_2_code, exceptionTable := #[], attributes := #[] }
def k30m1 : Method := { name := "next", desc := "()Ljava/lang/Object;", sig := { parameters := [], returnType := some (.object "java/lang/Object") }, accessFlags := 17, code := some k30c1 }
/-- java/util/HashMap$ValueIterator -/
def k30 : Class := { plain "java/util/HashMap$ValueIterator" (some 28) with
  accessFlags := 48
  interfaces := #[29]
  cf := some (fileOf pool30 8 #[.nestHost 39] #[{ accessFlags := 0, nameIndex := 5, descriptorIndex := 6, attributes := #[] }, { accessFlags := 17, nameIndex := 31, descriptorIndex := 32, attributes := #[] }] 48 2 #[19] #[])
  fields := #[]
  methods := #[k30m0, k30m1]
  instanceTypes := #[(.object "java/util/HashMap$Node"), (.object "java/util/HashMap$Node"), .int, .int, (.object "java/util/HashMap")]
  staticTypes := #[]
  resolved := Array.replicate 45 none
  statics := none }

def pool31 : Array CpInfo := pool [(2, .class_ 4), (1, u "java/lang/Object"), (0, u "<init>"), (0, u "()V"), (0, .methodref 8 9), (0, .class_ 10), (0, .nameAndType 11 12), (0, u "java/util/DualPivotQuicksort"), (0, u "sort"), (0, u "([IIII)V"), (1, .class_ 16), (1, u "java/util/Arrays"), (57, .class_ 76), (1, u "java/util/Arrays$NaturalOrder"), (32, u "()Ljava/lang/Object;"), (3, .class_ 115), (1, u "java/util/Arrays$LegacyMergeSort"), (1, u "Z"), (10, .nameAndType 129 109), (0, u "clone"), (20, .methodref 151 152), (0, .class_ 153), (0, .nameAndType 154 155), (0, u "java/lang/System"), (0, u "arraycopy"), (0, u "(Ljava/lang/Object;ILjava/lang/Object;II)V"), (146, u "copyOf"), (1, .methodref 305 306), (0, .class_ 307), (0, .nameAndType 308 309), (0, u "java/lang/Math"), (0, u "min"), (0, u "(II)I"), (6, .methodref 317 128), (0, .class_ 318), (0, u "[I"), (56, .class_ 376), (0, u "java/util/Arrays$ArrayList"), (68, u "$assertionsDisabled"), (269, u "MIN_ARRAY_SORT_GRAN"), (0, u "I"), (2, u "INSERTIONSORT_THRESHOLD"), (6, u "([I)V"), (144, u "([II)[I"), (103, .class_ 976), (0, u "java/util/Arrays$ArrayItr")] 52

def k31m0 : Method := { name := "<init>", desc := "()V", sig := { parameters := [], returnType := none }, accessFlags := 2, code := none }
def k31c1 : Code := { maxStack := 4, maxLocals := 1, code := jdk_65_method_2_code, exceptionTable := #[], attributes := #[] }
def k31m1 : Method := { name := "sort", desc := "([I)V", sig := { parameters := [(.array .int)], returnType := none }, accessFlags := 9, code := some k31c1 }
def k31c2 : Code := { maxStack := 6, maxLocals := 3, code := jdk_65_method_123_code, exceptionTable := #[], attributes := #[] }
def k31m2 : Method := { name := "copyOf", desc := "([II)[I", sig := { parameters := [(.array .int), .int], returnType := some (.array .int) }, accessFlags := 9, code := some k31c2 }
/-- java/util/Arrays -/
def k31 : Class := { plain "java/util/Arrays" (some 0) with
  accessFlags := 49
  interfaces := #[]
  cf := some (fileOf pool31 14 #[.nestMembers #[975, 375, 113, 74]] #[{ accessFlags := 2, nameIndex := 5, descriptorIndex := 6, attributes := #[] }, { accessFlags := 9, nameIndex := 11, descriptorIndex := 726, attributes := #[] }, { accessFlags := 9, nameIndex := 302, descriptorIndex := 871, attributes := #[] }] 49 2 #[] #[{ accessFlags := 26, nameIndex := 715, descriptorIndex := 716, attributes := #[] }, { accessFlags := 26, nameIndex := 719, descriptorIndex := 716, attributes := #[] }, { accessFlags := 4120, nameIndex := 445, descriptorIndex := 117, attributes := #[] }])
  fields := #[{ name := "MIN_ARRAY_SORT_GRAN", type := .int, accessFlags := 26, slot := 0, constantValue := 0 }, { name := "INSERTIONSORT_THRESHOLD", type := .int, accessFlags := 26, slot := 1, constantValue := 0 }, { name := "$assertionsDisabled", type := .boolean, accessFlags := 4120, slot := 2, constantValue := 0 }]
  methods := #[k31m0, k31m1, k31m2]
  instanceTypes := #[]
  staticTypes := #[.int, .int, .boolean]
  resolved := Array.replicate 1029 none
  statics := none }

def pool32 : Array CpInfo := pool [(1, .class_ 2), (0, u "java/util/DualPivotQuicksort"), (5, .class_ 10), (1, u "java/lang/Object"), (0, u "<init>"), (0, u "()V"), (4, .class_ 18), (0, u "java/util/DualPivotQuicksort$Sorter"), (7, .methodref 1 27), (0, .nameAndType 28 29), (0, u "sort"), (0, u "(Ljava/util/DualPivotQuicksort$Sorter;[IIII)V"), (3, u "([IIII)V"), (0, .methodref 1 35), (0, .nameAndType 36 37), (0, u "insertionSort"), (0, u "([III)V"), (30, u "I"), (4, .class_ 74), (0, u "java/util/DualPivotQuicksort$RunMerger"), (10, .class_ 86), (0, u "java/util/DualPivotQuicksort$Merger"), (127, u "MAX_MIXED_INSERTION_SORT_SIZE"), (2, u "MAX_INSERTION_SORT_SIZE"), (1, u "MIN_PARALLEL_SORT_SIZE"), (1, u "MIN_TRY_MERGE_SIZE"), (0, u "MIN_FIRST_RUN_SIZE"), (1, u "MIN_FIRST_RUNS_FACTOR"), (1, u "MAX_RUN_CAPACITY"), (1, u "MIN_RUN_COUNT"), (1, u "MIN_PARALLEL_MERGE_PARTS_SIZE"), (0, u "MIN_BYTE_COUNTING_SORT_SIZE"), (1, u "MIN_SHORT_OR_CHAR_COUNTING_SORT_SIZE"), (1, u "DELTA"), (1, u "MAX_RECURSION_DEPTH"), (1, u "NUM_BYTE_VALUES"), (1, u "MAX_BYTE_INDEX"), (0, u "NUM_CHAR_VALUES"), (0, u "NUM_SHORT_VALUES"), (0, u "MAX_SHORT_INDEX")] 86

def k32m0 : Method := { name := "<init>", desc := "()V", sig := { parameters := [], returnType := none }, accessFlags := 2, code := none }
def k32c1 : Code := { maxStack := 9, maxLocals := 7, code := jdk_2529_method_3_code, exceptionTable := #[], attributes := #[] }
def k32m1 : Method := { name := "sort", desc := "([IIII)V", sig := { parameters := [(.array .int), .int, .int, .int], returnType := none }, accessFlags := 8, code := some k32c1 }
def k32c2 : Code := { maxStack := 6, maxLocals := 21, code := jdk_2529_method_4_code, exceptionTable := #[], attributes := #[] }
def k32m2 : Method := { name := "sort", desc := "(Ljava/util/DualPivotQuicksort$Sorter;[IIII)V", sig := { parameters := [(.object "java/util/DualPivotQuicksort$Sorter"), (.array .int), .int, .int, .int], returnType := none }, accessFlags := 8, code := some k32c2 }
def k32c3 : Code := { maxStack := 4, maxLocals := 6, code := jdk_2529_method_6_code, exceptionTable := #[], attributes := #[] }
def k32m3 : Method := { name := "insertionSort", desc := "([III)V", sig := { parameters := [(.array .int), .int, .int], returnType := none }, accessFlags := 10, code := some k32c3 }
/-- java/util/DualPivotQuicksort -/
def k32 : Class := { plain "java/util/DualPivotQuicksort" (some 0) with
  accessFlags := 48
  interfaces := #[]
  cf := some (fileOf pool32 1 #[.nestMembers #[73, 85, 17]] #[{ accessFlags := 2, nameIndex := 11, descriptorIndex := 12, attributes := #[] }, { accessFlags := 8, nameIndex := 28, descriptorIndex := 33, attributes := #[] }, { accessFlags := 8, nameIndex := 28, descriptorIndex := 29, attributes := #[] }, { accessFlags := 10, nameIndex := 36, descriptorIndex := 37, attributes := #[] }] 48 8 #[] #[{ accessFlags := 26, nameIndex := 214, descriptorIndex := 68, attributes := #[] }, { accessFlags := 26, nameIndex := 217, descriptorIndex := 68, attributes := #[] }, { accessFlags := 26, nameIndex := 219, descriptorIndex := 68, attributes := #[] }, { accessFlags := 26, nameIndex := 221, descriptorIndex := 68, attributes := #[] }, { accessFlags := 26, nameIndex := 222, descriptorIndex := 68, attributes := #[] }, { accessFlags := 26, nameIndex := 224, descriptorIndex := 68, attributes := #[] }, { accessFlags := 26, nameIndex := 226, descriptorIndex := 68, attributes := #[] }, { accessFlags := 26, nameIndex := 228, descriptorIndex := 68, attributes := #[] }, { accessFlags := 26, nameIndex := 230, descriptorIndex := 68, attributes := #[] }, { accessFlags := 26, nameIndex := 231, descriptorIndex := 68, attributes := #[] }, { accessFlags := 26, nameIndex := 233, descriptorIndex := 68, attributes := #[] }, { accessFlags := 26, nameIndex := 235, descriptorIndex := 68, attributes := #[] }, { accessFlags := 26, nameIndex := 237, descriptorIndex := 68, attributes := #[] }, { accessFlags := 26, nameIndex := 239, descriptorIndex := 68, attributes := #[] }, { accessFlags := 26, nameIndex := 241, descriptorIndex := 68, attributes := #[] }, { accessFlags := 26, nameIndex := 242, descriptorIndex := 68, attributes := #[] }, { accessFlags := 26, nameIndex := 243, descriptorIndex := 68, attributes := #[] }, { accessFlags := 26, nameIndex := 244, descriptorIndex := 68, attributes := #[] }])
  fields := #[{ name := "MAX_MIXED_INSERTION_SORT_SIZE", type := .int, accessFlags := 26, slot := 0, constantValue := 0 }, { name := "MAX_INSERTION_SORT_SIZE", type := .int, accessFlags := 26, slot := 1, constantValue := 0 }, { name := "MIN_PARALLEL_SORT_SIZE", type := .int, accessFlags := 26, slot := 2, constantValue := 0 }, { name := "MIN_TRY_MERGE_SIZE", type := .int, accessFlags := 26, slot := 3, constantValue := 0 }, { name := "MIN_FIRST_RUN_SIZE", type := .int, accessFlags := 26, slot := 4, constantValue := 0 }, { name := "MIN_FIRST_RUNS_FACTOR", type := .int, accessFlags := 26, slot := 5, constantValue := 0 }, { name := "MAX_RUN_CAPACITY", type := .int, accessFlags := 26, slot := 6, constantValue := 0 }, { name := "MIN_RUN_COUNT", type := .int, accessFlags := 26, slot := 7, constantValue := 0 }, { name := "MIN_PARALLEL_MERGE_PARTS_SIZE", type := .int, accessFlags := 26, slot := 8, constantValue := 0 }, { name := "MIN_BYTE_COUNTING_SORT_SIZE", type := .int, accessFlags := 26, slot := 9, constantValue := 0 }, { name := "MIN_SHORT_OR_CHAR_COUNTING_SORT_SIZE", type := .int, accessFlags := 26, slot := 10, constantValue := 0 }, { name := "DELTA", type := .int, accessFlags := 26, slot := 11, constantValue := 0 }, { name := "MAX_RECURSION_DEPTH", type := .int, accessFlags := 26, slot := 12, constantValue := 0 }, { name := "NUM_BYTE_VALUES", type := .int, accessFlags := 26, slot := 13, constantValue := 0 }, { name := "MAX_BYTE_INDEX", type := .int, accessFlags := 26, slot := 14, constantValue := 0 }, { name := "NUM_CHAR_VALUES", type := .int, accessFlags := 26, slot := 15, constantValue := 0 }, { name := "NUM_SHORT_VALUES", type := .int, accessFlags := 26, slot := 16, constantValue := 0 }, { name := "MAX_SHORT_INDEX", type := .int, accessFlags := 26, slot := 17, constantValue := 0 }]
  methods := #[k32m0, k32m1, k32m2, k32m3]
  instanceTypes := #[]
  staticTypes := #[.int, .int, .int, .int, .int, .int, .int, .int, .int, .int, .int, .int, .int, .int, .int, .int, .int, .int]
  resolved := Array.replicate 331 none
  statics := none }

def pool33 : Array CpInfo := pool [(1, .class_ 2), (0, u "java/lang/Math"), (1, .class_ 6), (1, u "java/lang/Object"), (0, u "<init>"), (0, u "()V"), (89, .class_ 100), (1, u "java/lang/Math$RandomNumberGeneratorHolder"), (71, u "negativeZeroFloatBits"), (0, u "J"), (2, u "negativeZeroDoubleBits"), (24, u "min"), (43, u "$assertionsDisabled"), (0, u "Z"), (88, u "(II)I"), (2, u "twoToTheDoubleScaleDown"), (0, u "D"), (4, u "twoToTheDoubleScaleUp"), (9, u "E"), (3, u "PI"), (2, u "TAU"), (2, u "DEGREES_TO_RADIANS"), (0, u "RADIANS_TO_DEGREES")] 94

def k33m0 : Method := { name := "<init>", desc := "()V", sig := { parameters := [], returnType := none }, accessFlags := 2, code := none }
def k33c1 : Code := { maxStack := 2, maxLocals := 2, code := jdk_29_method_69_code, exceptionTable := #[], attributes := #[] }
def k33m1 : Method := { name := "min", desc := "(II)I", sig := { parameters := [.int, .int], returnType := some .int }, accessFlags := 9, code := some k33c1 }
/-- java/lang/Math -/
def k33 : Class := { plain "java/lang/Math" (some 0) with
  accessFlags := 49
  interfaces := #[]
  cf := some (fileOf pool33 1 #[.nestMembers #[98]] #[{ accessFlags := 2, nameIndex := 7, descriptorIndex := 8, attributes := #[] }, { accessFlags := 9, nameIndex := 201, descriptorIndex := 335, attributes := #[] }] 49 4 #[] #[{ accessFlags := 25, nameIndex := 354, descriptorIndex := 339, attributes := #[] }, { accessFlags := 25, nameIndex := 358, descriptorIndex := 339, attributes := #[] }, { accessFlags := 25, nameIndex := 361, descriptorIndex := 339, attributes := #[] }, { accessFlags := 26, nameIndex := 364, descriptorIndex := 339, attributes := #[] }, { accessFlags := 26, nameIndex := 365, descriptorIndex := 339, attributes := #[] }, { accessFlags := 26, nameIndex := 172, descriptorIndex := 173, attributes := #[] }, { accessFlags := 26, nameIndex := 176, descriptorIndex := 173, attributes := #[] }, { accessFlags := 8, nameIndex := 344, descriptorIndex := 339, attributes := #[] }, { accessFlags := 8, nameIndex := 338, descriptorIndex := 339, attributes := #[] }, { accessFlags := 4120, nameIndex := 245, descriptorIndex := 246, attributes := #[] }])
  fields := #[{ name := "E", type := .double, accessFlags := 25, slot := 0, constantValue := 0 }, { name := "PI", type := .double, accessFlags := 25, slot := 1, constantValue := 0 }, { name := "TAU", type := .double, accessFlags := 25, slot := 2, constantValue := 0 }, { name := "DEGREES_TO_RADIANS", type := .double, accessFlags := 26, slot := 3, constantValue := 0 }, { name := "RADIANS_TO_DEGREES", type := .double, accessFlags := 26, slot := 4, constantValue := 0 }, { name := "negativeZeroFloatBits", type := .long, accessFlags := 26, slot := 5, constantValue := 0 }, { name := "negativeZeroDoubleBits", type := .long, accessFlags := 26, slot := 6, constantValue := 0 }, { name := "twoToTheDoubleScaleUp", type := .double, accessFlags := 8, slot := 7, constantValue := 0 }, { name := "twoToTheDoubleScaleDown", type := .double, accessFlags := 8, slot := 8, constantValue := 0 }, { name := "$assertionsDisabled", type := .boolean, accessFlags := 4120, slot := 9, constantValue := 0 }]
  methods := #[k33m0, k33m1]
  instanceTypes := #[]
  staticTypes := #[.double, .double, .double, .double, .double, .long, .long, .double, .double, .boolean]
  resolved := Array.replicate 460 none
  statics := none }

def pool34 : Array CpInfo := pool [(2, .class_ 4), (1, u "java/lang/Object"), (0, u "<init>"), (0, u "()V"), (1, .class_ 10), (1, u "java/lang/System"), (0, u "allowSecurityManager"), (0, u "I"), (16, u "cons"), (0, u "Ljava/io/Console;"), (77, .class_ 110), (1, u "java/lang/System$CallersHolder"), (43, u "initialErrStream"), (0, u "Ljava/io/PrintStream;"), (19, u "security"), (0, u "Ljava/lang/SecurityManager;"), (31, .class_ 209), (0, u "java/lang/System$1"), (7, u "props"), (0, u "Ljava/util/Properties;"), (2, u "lineSeparator"), (0, u "Ljava/lang/String;"), (96, .class_ 321), (1, u "java/lang/System$LoggerFinder"), (5, .class_ 328), (0, u "java/lang/System$Logger"), (67, u "err"), (2, u "out"), (91, u "notSupportedJnuEncoding"), (15, u "in"), (17, u "initialIn"), (0, u "Ljava/io/InputStream;"), (35, u "bootLayer"), (0, u "Ljava/lang/ModuleLayer;"), (99, .class_ 664), (0, u "java/lang/System$2"), (9, u "NEVER"), (2, u "MAYBE"), (49, u "arraycopy"), (0, u "(Ljava/lang/Object;ILjava/lang/Object;II)V"), (72, .class_ 802), (0, u "java/lang/System$Logger$Level")] 31

def k34m0 : Method := { name := "<init>", desc := "()V", sig := { parameters := [], returnType := none }, accessFlags := 2, code := none }
def k34m1 : Method := { name := "arraycopy", desc := "(Ljava/lang/Object;ILjava/lang/Object;II)V", sig := { parameters := [(.object "java/lang/Object"), .int, (.object "java/lang/Object"), .int, .int], returnType := none }, accessFlags := 265, code := none }
/-- java/lang/System -/
def k34 : Class := { plain "java/lang/System" (some 0) with
  accessFlags := 49
  interfaces := #[]
  cf := some (fileOf pool34 8 #[.nestMembers #[319, 327, 801, 108, 663, 208]] #[{ accessFlags := 2, nameIndex := 5, descriptorIndex := 6, attributes := #[] }, { accessFlags := 265, nameIndex := 727, descriptorIndex := 728, attributes := #[] }] 49 2 #[] #[{ accessFlags := 25, nameIndex := 507, descriptorIndex := 526, attributes := #[] }, { accessFlags := 25, nameIndex := 399, descriptorIndex := 155, attributes := #[] }, { accessFlags := 25, nameIndex := 396, descriptorIndex := 155, attributes := #[] }, { accessFlags := 10, nameIndex := 525, descriptorIndex := 526, attributes := #[] }, { accessFlags := 26, nameIndex := 674, descriptorIndex := 12, attributes := #[] }, { accessFlags := 26, nameIndex := 677, descriptorIndex := 12, attributes := #[] }, { accessFlags := 10, nameIndex := 11, descriptorIndex := 12, attributes := #[] }, { accessFlags := 74, nameIndex := 175, descriptorIndex := 176, attributes := #[] }, { accessFlags := 10, nameIndex := 491, descriptorIndex := 222, attributes := #[] }, { accessFlags := 74, nameIndex := 29, descriptorIndex := 30, attributes := #[] }, { accessFlags := 74, nameIndex := 154, descriptorIndex := 155, attributes := #[] }, { accessFlags := 10, nameIndex := 217, descriptorIndex := 218, attributes := #[] }, { accessFlags := 10, nameIndex := 221, descriptorIndex := 222, attributes := #[] }, { accessFlags := 8, nameIndex := 562, descriptorIndex := 563, attributes := #[] }])
  fields := #[{ name := "in", type := (.object "java/io/InputStream"), accessFlags := 25, slot := 0, constantValue := 0 }, { name := "out", type := (.object "java/io/PrintStream"), accessFlags := 25, slot := 1, constantValue := 0 }, { name := "err", type := (.object "java/io/PrintStream"), accessFlags := 25, slot := 2, constantValue := 0 }, { name := "initialIn", type := (.object "java/io/InputStream"), accessFlags := 10, slot := 3, constantValue := 0 }, { name := "NEVER", type := .int, accessFlags := 26, slot := 4, constantValue := 0 }, { name := "MAYBE", type := .int, accessFlags := 26, slot := 5, constantValue := 0 }, { name := "allowSecurityManager", type := .int, accessFlags := 10, slot := 6, constantValue := 0 }, { name := "security", type := (.object "java/lang/SecurityManager"), accessFlags := 74, slot := 7, constantValue := 0 }, { name := "notSupportedJnuEncoding", type := (.object "java/lang/String"), accessFlags := 10, slot := 8, constantValue := 0 }, { name := "cons", type := (.object "java/io/Console"), accessFlags := 74, slot := 9, constantValue := 0 }, { name := "initialErrStream", type := (.object "java/io/PrintStream"), accessFlags := 74, slot := 10, constantValue := 0 }, { name := "props", type := (.object "java/util/Properties"), accessFlags := 10, slot := 11, constantValue := 0 }, { name := "lineSeparator", type := (.object "java/lang/String"), accessFlags := 10, slot := 12, constantValue := 0 }, { name := "bootLayer", type := (.object "java/lang/ModuleLayer"), accessFlags := 8, slot := 13, constantValue := 0 }]
  methods := #[k34m0, k34m1]
  instanceTypes := #[]
  staticTypes := #[(.object "java/io/InputStream"), (.object "java/io/PrintStream"), (.object "java/io/PrintStream"), (.object "java/io/InputStream"), .int, .int, .int, (.object "java/lang/SecurityManager"), (.object "java/lang/String"), (.object "java/io/Console"), (.object "java/io/PrintStream"), (.object "java/util/Properties"), (.object "java/lang/String"), (.object "java/lang/ModuleLayer")]
  resolved := Array.replicate 834 none
  statics := none }

def pool35 : Array CpInfo := pool [(2, .class_ 4), (1, u "java/lang/Object"), (0, u "<init>"), (0, u "()V"), (17, .class_ 26), (1, u "jdk/internal/util/Preconditions"), (28, .class_ 56), (0, u "jdk/internal/util/Preconditions$4"), (57, .class_ 115), (0, u "jdk/internal/util/Preconditions$1"), (7, u "SIOOBE_FORMATTER"), (0, u "Ljava/util/function/BiFunction;"), (0, .class_ 126), (0, u "jdk/internal/util/Preconditions$2"), (3, u "AIOOBE_FORMATTER"), (0, .class_ 132), (0, u "jdk/internal/util/Preconditions$3"), (3, u "IOOBE_FORMATTER")] 57

def k35m0 : Method := { name := "<init>", desc := "()V", sig := { parameters := [], returnType := none }, accessFlags := 1, code := none }
/-- jdk/internal/util/Preconditions -/
def k35 : Class := { plain "jdk/internal/util/Preconditions" (some 0) with
  accessFlags := 33
  interfaces := #[]
  cf := some (fileOf pool35 24 #[.nestMembers #[55, 131, 125, 114]] #[{ accessFlags := 1, nameIndex := 5, descriptorIndex := 6, attributes := #[] }] 33 2 #[] #[{ accessFlags := 25, nameIndex := 123, descriptorIndex := 124, attributes := #[] }, { accessFlags := 25, nameIndex := 130, descriptorIndex := 124, attributes := #[] }, { accessFlags := 25, nameIndex := 136, descriptorIndex := 124, attributes := #[] }])
  fields := #[{ name := "SIOOBE_FORMATTER", type := (.object "java/util/function/BiFunction"), accessFlags := 25, slot := 0, constantValue := 0 }, { name := "AIOOBE_FORMATTER", type := (.object "java/util/function/BiFunction"), accessFlags := 25, slot := 1, constantValue := 0 }, { name := "IOOBE_FORMATTER", type := (.object "java/util/function/BiFunction"), accessFlags := 25, slot := 2, constantValue := 0 }]
  methods := #[k35m0]
  instanceTypes := #[]
  staticTypes := #[(.object "java/util/function/BiFunction"), (.object "java/util/function/BiFunction"), (.object "java/util/function/BiFunction")]
  resolved := Array.replicate 194 none
  statics := some 3 }

def pool36 : Array CpInfo := pool [(9, u "<init>"), (6, .class_ 18), (1, u "java/lang/Object"), (0, u "()V"), (1, .class_ 23), (1, u "jdk/internal/util/ArraysSupport"), (0, u "LOG2_ARRAY_LONG_INDEX_SCALE"), (0, u "I"), (2, u "U"), (0, u "Ljdk/internal/misc/Unsafe;"), (8, u "BIG_ENDIAN"), (0, u "Z"), (8, u "LOG2_BYTE_BIT_SIZE"), (4, u "LOG2_ARRAY_INT_INDEX_SCALE"), (54, u "JLA"), (0, u "Ljdk/internal/access/JavaLangAccess;"), (11, u "LOG2_ARRAY_BOOLEAN_INDEX_SCALE"), (9, u "LOG2_ARRAY_BYTE_INDEX_SCALE"), (5, u "LOG2_ARRAY_CHAR_INDEX_SCALE"), (5, u "LOG2_ARRAY_SHORT_INDEX_SCALE"), (18, u "LOG2_ARRAY_FLOAT_INDEX_SCALE"), (24, u "LOG2_ARRAY_DOUBLE_INDEX_SCALE"), (89, u "T_BOOLEAN"), (2, u "T_CHAR"), (1, u "T_FLOAT"), (1, u "T_DOUBLE"), (1, u "T_BYTE"), (1, u "T_SHORT"), (1, u "T_INT"), (1, u "T_LONG"), (1, u "SOFT_MAX_ARRAY_LENGTH")] 83

def k36m0 : Method := { name := "<init>", desc := "()V", sig := { parameters := [], returnType := none }, accessFlags := 2, code := none }
/-- jdk/internal/util/ArraysSupport -/
def k36 : Class := { plain "jdk/internal/util/ArraysSupport" (some 0) with
  accessFlags := 33
  interfaces := #[]
  cf := some (fileOf pool36 21 #[] #[{ accessFlags := 2, nameIndex := 9, descriptorIndex := 19, attributes := #[] }] 33 16 #[] #[{ accessFlags := 24, nameIndex := 28, descriptorIndex := 29, attributes := #[] }, { accessFlags := 26, nameIndex := 38, descriptorIndex := 39, attributes := #[] }, { accessFlags := 25, nameIndex := 121, descriptorIndex := 25, attributes := #[] }, { accessFlags := 25, nameIndex := 131, descriptorIndex := 25, attributes := #[] }, { accessFlags := 25, nameIndex := 137, descriptorIndex := 25, attributes := #[] }, { accessFlags := 25, nameIndex := 143, descriptorIndex := 25, attributes := #[] }, { accessFlags := 25, nameIndex := 53, descriptorIndex := 25, attributes := #[] }, { accessFlags := 25, nameIndex := 24, descriptorIndex := 25, attributes := #[] }, { accessFlags := 25, nameIndex := 162, descriptorIndex := 25, attributes := #[] }, { accessFlags := 25, nameIndex := 187, descriptorIndex := 25, attributes := #[] }, { accessFlags := 26, nameIndex := 48, descriptorIndex := 25, attributes := #[] }, { accessFlags := 25, nameIndex := 277, descriptorIndex := 25, attributes := #[] }, { accessFlags := 25, nameIndex := 280, descriptorIndex := 25, attributes := #[] }, { accessFlags := 25, nameIndex := 282, descriptorIndex := 25, attributes := #[] }, { accessFlags := 25, nameIndex := 284, descriptorIndex := 25, attributes := #[] }, { accessFlags := 25, nameIndex := 286, descriptorIndex := 25, attributes := #[] }, { accessFlags := 25, nameIndex := 288, descriptorIndex := 25, attributes := #[] }, { accessFlags := 25, nameIndex := 290, descriptorIndex := 25, attributes := #[] }, { accessFlags := 25, nameIndex := 292, descriptorIndex := 25, attributes := #[] }, { accessFlags := 26, nameIndex := 108, descriptorIndex := 109, attributes := #[] }, { accessFlags := 25, nameIndex := 294, descriptorIndex := 25, attributes := #[] }])
  fields := #[{ name := "U", type := (.object "jdk/internal/misc/Unsafe"), accessFlags := 24, slot := 0, constantValue := 0 }, { name := "BIG_ENDIAN", type := .boolean, accessFlags := 26, slot := 1, constantValue := 0 }, { name := "LOG2_ARRAY_BOOLEAN_INDEX_SCALE", type := .int, accessFlags := 25, slot := 2, constantValue := 0 }, { name := "LOG2_ARRAY_BYTE_INDEX_SCALE", type := .int, accessFlags := 25, slot := 3, constantValue := 0 }, { name := "LOG2_ARRAY_CHAR_INDEX_SCALE", type := .int, accessFlags := 25, slot := 4, constantValue := 0 }, { name := "LOG2_ARRAY_SHORT_INDEX_SCALE", type := .int, accessFlags := 25, slot := 5, constantValue := 0 }, { name := "LOG2_ARRAY_INT_INDEX_SCALE", type := .int, accessFlags := 25, slot := 6, constantValue := 0 }, { name := "LOG2_ARRAY_LONG_INDEX_SCALE", type := .int, accessFlags := 25, slot := 7, constantValue := 0 }, { name := "LOG2_ARRAY_FLOAT_INDEX_SCALE", type := .int, accessFlags := 25, slot := 8, constantValue := 0 }, { name := "LOG2_ARRAY_DOUBLE_INDEX_SCALE", type := .int, accessFlags := 25, slot := 9, constantValue := 0 }, { name := "LOG2_BYTE_BIT_SIZE", type := .int, accessFlags := 26, slot := 10, constantValue := 0 }, { name := "T_BOOLEAN", type := .int, accessFlags := 25, slot := 11, constantValue := 0 }, { name := "T_CHAR", type := .int, accessFlags := 25, slot := 12, constantValue := 0 }, { name := "T_FLOAT", type := .int, accessFlags := 25, slot := 13, constantValue := 0 }, { name := "T_DOUBLE", type := .int, accessFlags := 25, slot := 14, constantValue := 0 }, { name := "T_BYTE", type := .int, accessFlags := 25, slot := 15, constantValue := 0 }, { name := "T_SHORT", type := .int, accessFlags := 25, slot := 16, constantValue := 0 }, { name := "T_INT", type := .int, accessFlags := 25, slot := 17, constantValue := 0 }, { name := "T_LONG", type := .int, accessFlags := 25, slot := 18, constantValue := 0 }, { name := "JLA", type := (.object "jdk/internal/access/JavaLangAccess"), accessFlags := 26, slot := 19, constantValue := 0 }, { name := "SOFT_MAX_ARRAY_LENGTH", type := .int, accessFlags := 25, slot := 20, constantValue := 0 }]
  methods := #[k36m0]
  instanceTypes := #[]
  staticTypes := #[(.object "jdk/internal/misc/Unsafe"), .boolean, .int, .int, .int, .int, .int, .int, .int, .int, .int, .int, .int, .int, .int, .int, .int, .int, .int, (.object "jdk/internal/access/JavaLangAccess"), .int]
  resolved := Array.replicate 378 none
  statics := none }

/-- the primitive boolean -/
def k37 : Class := { plain "boolean" none with kind := .primitive 'Z', accessFlags := 0x411 }
/-- [Z -/
def k38 : Class := { plain "[Z" (some 0) with kind := .array 37 .boolean, interfaces := #[9, 10], accessFlags := 1041 }

/-- the primitive byte -/
def k39 : Class := { plain "byte" none with kind := .primitive 'B', accessFlags := 0x411 }
/-- [B -/
def k40 : Class := { plain "[B" (some 0) with kind := .array 39 .byte, interfaces := #[9, 10], accessFlags := 1041 }

/-- the primitive int -/
def k41 : Class := { plain "int" none with kind := .primitive 'I', accessFlags := 0x411 }
/-- [I -/
def k42 : Class := { plain "[I" (some 0) with kind := .array 41 .int, interfaces := #[9, 10], accessFlags := 1041 }

/-- [Ljava/lang/Integer; -/
def k43 : Class := { plain "[Ljava/lang/Integer;" (some 0) with kind := .array 22 (.object "java/lang/Integer"), interfaces := #[9, 10], accessFlags := 1041 }

/-- [Ljava/lang/Object; -/
def k44 : Class := { plain "[Ljava/lang/Object;" (some 0) with kind := .array 0 (.object "java/lang/Object"), interfaces := #[9, 10], accessFlags := 1041 }

/-- [Ljava/util/HashMap$Node; -/
def k45 : Class := { plain "[Ljava/util/HashMap$Node;" (some 0) with kind := .array 25 (.object "java/util/HashMap$Node"), interfaces := #[9, 10], accessFlags := 1041 }

def heap : Heap := #[{ cls := 11, slots := #[.long 0, .int 0, .ref 261, .ref 262], vm := .statics 11 },
  { cls := 19, slots := #[.long 0, .int 1, .null, .int 0, .null, .int 0, .int 0], vm := .statics 19 },
  { cls := 23, slots := #[.int 0, .int 127, .ref 4, .null, .int 0], vm := .statics 23 },
  { cls := 35, slots := #[.null, .null, .null], vm := .statics 35 },
  { cls := 43, slots := #[.ref 5, .ref 6, .ref 7, .ref 8, .ref 9, .ref 10, .ref 11, .ref 12, .ref 13, .ref 14, .ref 15, .ref 16, .ref 17, .ref 18, .ref 19, .ref 20, .ref 21, .ref 22, .ref 23, .ref 24, .ref 25, .ref 26, .ref 27, .ref 28, .ref 29, .ref 30, .ref 31, .ref 32, .ref 33, .ref 34, .ref 35, .ref 36, .ref 37, .ref 38, .ref 39, .ref 40, .ref 41, .ref 42, .ref 43, .ref 44, .ref 45, .ref 46, .ref 47, .ref 48, .ref 49, .ref 50, .ref 51, .ref 52, .ref 53, .ref 54, .ref 55, .ref 56, .ref 57, .ref 58, .ref 59, .ref 60, .ref 61, .ref 62, .ref 63, .ref 64, .ref 65, .ref 66, .ref 67, .ref 68, .ref 69, .ref 70, .ref 71, .ref 72, .ref 73, .ref 74, .ref 75, .ref 76, .ref 77, .ref 78, .ref 79, .ref 80, .ref 81, .ref 82, .ref 83, .ref 84, .ref 85, .ref 86, .ref 87, .ref 88, .ref 89, .ref 90, .ref 91, .ref 92, .ref 93, .ref 94, .ref 95, .ref 96, .ref 97, .ref 98, .ref 99, .ref 100, .ref 101, .ref 102, .ref 103, .ref 104, .ref 105, .ref 106, .ref 107, .ref 108, .ref 109, .ref 110, .ref 111, .ref 112, .ref 113, .ref 114, .ref 115, .ref 116, .ref 117, .ref 118, .ref 119, .ref 120, .ref 121, .ref 122, .ref 123, .ref 124, .ref 125, .ref 126, .ref 127, .ref 128, .ref 129, .ref 130, .ref 131, .ref 132, .ref 133, .ref 134, .ref 135, .ref 136, .ref 137, .ref 138, .ref 139, .ref 140, .ref 141, .ref 142, .ref 143, .ref 144, .ref 145, .ref 146, .ref 147, .ref 148, .ref 149, .ref 150, .ref 151, .ref 152, .ref 153, .ref 154, .ref 155, .ref 156, .ref 157, .ref 158, .ref 159, .ref 160, .ref 161, .ref 162, .ref 163, .ref 164, .ref 165, .ref 166, .ref 167, .ref 168, .ref 169, .ref 170, .ref 171, .ref 172, .ref 173, .ref 174, .ref 175, .ref 176, .ref 177, .ref 178, .ref 179, .ref 180, .ref 181, .ref 182, .ref 183, .ref 184, .ref 185, .ref 186, .ref 187, .ref 188, .ref 189, .ref 190, .ref 191, .ref 192, .ref 193, .ref 194, .ref 195, .ref 196, .ref 197, .ref 198, .ref 199, .ref 200, .ref 201, .ref 202, .ref 203, .ref 204, .ref 205, .ref 206, .ref 207, .ref 208, .ref 209, .ref 210, .ref 211, .ref 212, .ref 213, .ref 214, .ref 215, .ref 216, .ref 217, .ref 218, .ref 219, .ref 220, .ref 221, .ref 222, .ref 223, .ref 224, .ref 225, .ref 226, .ref 227, .ref 228, .ref 229, .ref 230, .ref 231, .ref 232, .ref 233, .ref 234, .ref 235, .ref 236, .ref 237, .ref 238, .ref 239, .ref 240, .ref 241, .ref 242, .ref 243, .ref 244, .ref 245, .ref 246, .ref 247, .ref 248, .ref 249, .ref 250, .ref 251, .ref 252, .ref 253, .ref 254, .ref 255, .ref 256, .ref 257, .ref 258, .ref 259, .ref 260], vm := .none },
  { cls := 22, slots := #[.int (-128)], vm := .none },
  { cls := 22, slots := #[.int (-127)], vm := .none },
  { cls := 22, slots := #[.int (-126)], vm := .none },
  { cls := 22, slots := #[.int (-125)], vm := .none },
  { cls := 22, slots := #[.int (-124)], vm := .none },
  { cls := 22, slots := #[.int (-123)], vm := .none },
  { cls := 22, slots := #[.int (-122)], vm := .none },
  { cls := 22, slots := #[.int (-121)], vm := .none },
  { cls := 22, slots := #[.int (-120)], vm := .none },
  { cls := 22, slots := #[.int (-119)], vm := .none },
  { cls := 22, slots := #[.int (-118)], vm := .none },
  { cls := 22, slots := #[.int (-117)], vm := .none },
  { cls := 22, slots := #[.int (-116)], vm := .none },
  { cls := 22, slots := #[.int (-115)], vm := .none },
  { cls := 22, slots := #[.int (-114)], vm := .none },
  { cls := 22, slots := #[.int (-113)], vm := .none },
  { cls := 22, slots := #[.int (-112)], vm := .none },
  { cls := 22, slots := #[.int (-111)], vm := .none },
  { cls := 22, slots := #[.int (-110)], vm := .none },
  { cls := 22, slots := #[.int (-109)], vm := .none },
  { cls := 22, slots := #[.int (-108)], vm := .none },
  { cls := 22, slots := #[.int (-107)], vm := .none },
  { cls := 22, slots := #[.int (-106)], vm := .none },
  { cls := 22, slots := #[.int (-105)], vm := .none },
  { cls := 22, slots := #[.int (-104)], vm := .none },
  { cls := 22, slots := #[.int (-103)], vm := .none },
  { cls := 22, slots := #[.int (-102)], vm := .none },
  { cls := 22, slots := #[.int (-101)], vm := .none },
  { cls := 22, slots := #[.int (-100)], vm := .none },
  { cls := 22, slots := #[.int (-99)], vm := .none },
  { cls := 22, slots := #[.int (-98)], vm := .none },
  { cls := 22, slots := #[.int (-97)], vm := .none },
  { cls := 22, slots := #[.int (-96)], vm := .none },
  { cls := 22, slots := #[.int (-95)], vm := .none },
  { cls := 22, slots := #[.int (-94)], vm := .none },
  { cls := 22, slots := #[.int (-93)], vm := .none },
  { cls := 22, slots := #[.int (-92)], vm := .none },
  { cls := 22, slots := #[.int (-91)], vm := .none },
  { cls := 22, slots := #[.int (-90)], vm := .none },
  { cls := 22, slots := #[.int (-89)], vm := .none },
  { cls := 22, slots := #[.int (-88)], vm := .none },
  { cls := 22, slots := #[.int (-87)], vm := .none },
  { cls := 22, slots := #[.int (-86)], vm := .none },
  { cls := 22, slots := #[.int (-85)], vm := .none },
  { cls := 22, slots := #[.int (-84)], vm := .none },
  { cls := 22, slots := #[.int (-83)], vm := .none },
  { cls := 22, slots := #[.int (-82)], vm := .none },
  { cls := 22, slots := #[.int (-81)], vm := .none },
  { cls := 22, slots := #[.int (-80)], vm := .none },
  { cls := 22, slots := #[.int (-79)], vm := .none },
  { cls := 22, slots := #[.int (-78)], vm := .none },
  { cls := 22, slots := #[.int (-77)], vm := .none },
  { cls := 22, slots := #[.int (-76)], vm := .none },
  { cls := 22, slots := #[.int (-75)], vm := .none },
  { cls := 22, slots := #[.int (-74)], vm := .none },
  { cls := 22, slots := #[.int (-73)], vm := .none },
  { cls := 22, slots := #[.int (-72)], vm := .none },
  { cls := 22, slots := #[.int (-71)], vm := .none },
  { cls := 22, slots := #[.int (-70)], vm := .none },
  { cls := 22, slots := #[.int (-69)], vm := .none },
  { cls := 22, slots := #[.int (-68)], vm := .none },
  { cls := 22, slots := #[.int (-67)], vm := .none },
  { cls := 22, slots := #[.int (-66)], vm := .none },
  { cls := 22, slots := #[.int (-65)], vm := .none },
  { cls := 22, slots := #[.int (-64)], vm := .none },
  { cls := 22, slots := #[.int (-63)], vm := .none },
  { cls := 22, slots := #[.int (-62)], vm := .none },
  { cls := 22, slots := #[.int (-61)], vm := .none },
  { cls := 22, slots := #[.int (-60)], vm := .none },
  { cls := 22, slots := #[.int (-59)], vm := .none },
  { cls := 22, slots := #[.int (-58)], vm := .none },
  { cls := 22, slots := #[.int (-57)], vm := .none },
  { cls := 22, slots := #[.int (-56)], vm := .none },
  { cls := 22, slots := #[.int (-55)], vm := .none },
  { cls := 22, slots := #[.int (-54)], vm := .none },
  { cls := 22, slots := #[.int (-53)], vm := .none },
  { cls := 22, slots := #[.int (-52)], vm := .none },
  { cls := 22, slots := #[.int (-51)], vm := .none },
  { cls := 22, slots := #[.int (-50)], vm := .none },
  { cls := 22, slots := #[.int (-49)], vm := .none },
  { cls := 22, slots := #[.int (-48)], vm := .none },
  { cls := 22, slots := #[.int (-47)], vm := .none },
  { cls := 22, slots := #[.int (-46)], vm := .none },
  { cls := 22, slots := #[.int (-45)], vm := .none },
  { cls := 22, slots := #[.int (-44)], vm := .none },
  { cls := 22, slots := #[.int (-43)], vm := .none },
  { cls := 22, slots := #[.int (-42)], vm := .none },
  { cls := 22, slots := #[.int (-41)], vm := .none },
  { cls := 22, slots := #[.int (-40)], vm := .none },
  { cls := 22, slots := #[.int (-39)], vm := .none },
  { cls := 22, slots := #[.int (-38)], vm := .none },
  { cls := 22, slots := #[.int (-37)], vm := .none },
  { cls := 22, slots := #[.int (-36)], vm := .none },
  { cls := 22, slots := #[.int (-35)], vm := .none },
  { cls := 22, slots := #[.int (-34)], vm := .none },
  { cls := 22, slots := #[.int (-33)], vm := .none },
  { cls := 22, slots := #[.int (-32)], vm := .none },
  { cls := 22, slots := #[.int (-31)], vm := .none },
  { cls := 22, slots := #[.int (-30)], vm := .none },
  { cls := 22, slots := #[.int (-29)], vm := .none },
  { cls := 22, slots := #[.int (-28)], vm := .none },
  { cls := 22, slots := #[.int (-27)], vm := .none },
  { cls := 22, slots := #[.int (-26)], vm := .none },
  { cls := 22, slots := #[.int (-25)], vm := .none },
  { cls := 22, slots := #[.int (-24)], vm := .none },
  { cls := 22, slots := #[.int (-23)], vm := .none },
  { cls := 22, slots := #[.int (-22)], vm := .none },
  { cls := 22, slots := #[.int (-21)], vm := .none },
  { cls := 22, slots := #[.int (-20)], vm := .none },
  { cls := 22, slots := #[.int (-19)], vm := .none },
  { cls := 22, slots := #[.int (-18)], vm := .none },
  { cls := 22, slots := #[.int (-17)], vm := .none },
  { cls := 22, slots := #[.int (-16)], vm := .none },
  { cls := 22, slots := #[.int (-15)], vm := .none },
  { cls := 22, slots := #[.int (-14)], vm := .none },
  { cls := 22, slots := #[.int (-13)], vm := .none },
  { cls := 22, slots := #[.int (-12)], vm := .none },
  { cls := 22, slots := #[.int (-11)], vm := .none },
  { cls := 22, slots := #[.int (-10)], vm := .none },
  { cls := 22, slots := #[.int (-9)], vm := .none },
  { cls := 22, slots := #[.int (-8)], vm := .none },
  { cls := 22, slots := #[.int (-7)], vm := .none },
  { cls := 22, slots := #[.int (-6)], vm := .none },
  { cls := 22, slots := #[.int (-5)], vm := .none },
  { cls := 22, slots := #[.int (-4)], vm := .none },
  { cls := 22, slots := #[.int (-3)], vm := .none },
  { cls := 22, slots := #[.int (-2)], vm := .none },
  { cls := 22, slots := #[.int (-1)], vm := .none },
  { cls := 22, slots := #[.int (0)], vm := .none },
  { cls := 22, slots := #[.int (1)], vm := .none },
  { cls := 22, slots := #[.int (2)], vm := .none },
  { cls := 22, slots := #[.int (3)], vm := .none },
  { cls := 22, slots := #[.int (4)], vm := .none },
  { cls := 22, slots := #[.int (5)], vm := .none },
  { cls := 22, slots := #[.int (6)], vm := .none },
  { cls := 22, slots := #[.int (7)], vm := .none },
  { cls := 22, slots := #[.int (8)], vm := .none },
  { cls := 22, slots := #[.int (9)], vm := .none },
  { cls := 22, slots := #[.int (10)], vm := .none },
  { cls := 22, slots := #[.int (11)], vm := .none },
  { cls := 22, slots := #[.int (12)], vm := .none },
  { cls := 22, slots := #[.int (13)], vm := .none },
  { cls := 22, slots := #[.int (14)], vm := .none },
  { cls := 22, slots := #[.int (15)], vm := .none },
  { cls := 22, slots := #[.int (16)], vm := .none },
  { cls := 22, slots := #[.int (17)], vm := .none },
  { cls := 22, slots := #[.int (18)], vm := .none },
  { cls := 22, slots := #[.int (19)], vm := .none },
  { cls := 22, slots := #[.int (20)], vm := .none },
  { cls := 22, slots := #[.int (21)], vm := .none },
  { cls := 22, slots := #[.int (22)], vm := .none },
  { cls := 22, slots := #[.int (23)], vm := .none },
  { cls := 22, slots := #[.int (24)], vm := .none },
  { cls := 22, slots := #[.int (25)], vm := .none },
  { cls := 22, slots := #[.int (26)], vm := .none },
  { cls := 22, slots := #[.int (27)], vm := .none },
  { cls := 22, slots := #[.int (28)], vm := .none },
  { cls := 22, slots := #[.int (29)], vm := .none },
  { cls := 22, slots := #[.int (30)], vm := .none },
  { cls := 22, slots := #[.int (31)], vm := .none },
  { cls := 22, slots := #[.int (32)], vm := .none },
  { cls := 22, slots := #[.int (33)], vm := .none },
  { cls := 22, slots := #[.int (34)], vm := .none },
  { cls := 22, slots := #[.int (35)], vm := .none },
  { cls := 22, slots := #[.int (36)], vm := .none },
  { cls := 22, slots := #[.int (37)], vm := .none },
  { cls := 22, slots := #[.int (38)], vm := .none },
  { cls := 22, slots := #[.int (39)], vm := .none },
  { cls := 22, slots := #[.int (40)], vm := .none },
  { cls := 22, slots := #[.int (41)], vm := .none },
  { cls := 22, slots := #[.int (42)], vm := .none },
  { cls := 22, slots := #[.int (43)], vm := .none },
  { cls := 22, slots := #[.int (44)], vm := .none },
  { cls := 22, slots := #[.int (45)], vm := .none },
  { cls := 22, slots := #[.int (46)], vm := .none },
  { cls := 22, slots := #[.int (47)], vm := .none },
  { cls := 22, slots := #[.int (48)], vm := .none },
  { cls := 22, slots := #[.int (49)], vm := .none },
  { cls := 22, slots := #[.int (50)], vm := .none },
  { cls := 22, slots := #[.int (51)], vm := .none },
  { cls := 22, slots := #[.int (52)], vm := .none },
  { cls := 22, slots := #[.int (53)], vm := .none },
  { cls := 22, slots := #[.int (54)], vm := .none },
  { cls := 22, slots := #[.int (55)], vm := .none },
  { cls := 22, slots := #[.int (56)], vm := .none },
  { cls := 22, slots := #[.int (57)], vm := .none },
  { cls := 22, slots := #[.int (58)], vm := .none },
  { cls := 22, slots := #[.int (59)], vm := .none },
  { cls := 22, slots := #[.int (60)], vm := .none },
  { cls := 22, slots := #[.int (61)], vm := .none },
  { cls := 22, slots := #[.int (62)], vm := .none },
  { cls := 22, slots := #[.int (63)], vm := .none },
  { cls := 22, slots := #[.int (64)], vm := .none },
  { cls := 22, slots := #[.int (65)], vm := .none },
  { cls := 22, slots := #[.int (66)], vm := .none },
  { cls := 22, slots := #[.int (67)], vm := .none },
  { cls := 22, slots := #[.int (68)], vm := .none },
  { cls := 22, slots := #[.int (69)], vm := .none },
  { cls := 22, slots := #[.int (70)], vm := .none },
  { cls := 22, slots := #[.int (71)], vm := .none },
  { cls := 22, slots := #[.int (72)], vm := .none },
  { cls := 22, slots := #[.int (73)], vm := .none },
  { cls := 22, slots := #[.int (74)], vm := .none },
  { cls := 22, slots := #[.int (75)], vm := .none },
  { cls := 22, slots := #[.int (76)], vm := .none },
  { cls := 22, slots := #[.int (77)], vm := .none },
  { cls := 22, slots := #[.int (78)], vm := .none },
  { cls := 22, slots := #[.int (79)], vm := .none },
  { cls := 22, slots := #[.int (80)], vm := .none },
  { cls := 22, slots := #[.int (81)], vm := .none },
  { cls := 22, slots := #[.int (82)], vm := .none },
  { cls := 22, slots := #[.int (83)], vm := .none },
  { cls := 22, slots := #[.int (84)], vm := .none },
  { cls := 22, slots := #[.int (85)], vm := .none },
  { cls := 22, slots := #[.int (86)], vm := .none },
  { cls := 22, slots := #[.int (87)], vm := .none },
  { cls := 22, slots := #[.int (88)], vm := .none },
  { cls := 22, slots := #[.int (89)], vm := .none },
  { cls := 22, slots := #[.int (90)], vm := .none },
  { cls := 22, slots := #[.int (91)], vm := .none },
  { cls := 22, slots := #[.int (92)], vm := .none },
  { cls := 22, slots := #[.int (93)], vm := .none },
  { cls := 22, slots := #[.int (94)], vm := .none },
  { cls := 22, slots := #[.int (95)], vm := .none },
  { cls := 22, slots := #[.int (96)], vm := .none },
  { cls := 22, slots := #[.int (97)], vm := .none },
  { cls := 22, slots := #[.int (98)], vm := .none },
  { cls := 22, slots := #[.int (99)], vm := .none },
  { cls := 22, slots := #[.int (100)], vm := .none },
  { cls := 22, slots := #[.int (101)], vm := .none },
  { cls := 22, slots := #[.int (102)], vm := .none },
  { cls := 22, slots := #[.int (103)], vm := .none },
  { cls := 22, slots := #[.int (104)], vm := .none },
  { cls := 22, slots := #[.int (105)], vm := .none },
  { cls := 22, slots := #[.int (106)], vm := .none },
  { cls := 22, slots := #[.int (107)], vm := .none },
  { cls := 22, slots := #[.int (108)], vm := .none },
  { cls := 22, slots := #[.int (109)], vm := .none },
  { cls := 22, slots := #[.int (110)], vm := .none },
  { cls := 22, slots := #[.int (111)], vm := .none },
  { cls := 22, slots := #[.int (112)], vm := .none },
  { cls := 22, slots := #[.int (113)], vm := .none },
  { cls := 22, slots := #[.int (114)], vm := .none },
  { cls := 22, slots := #[.int (115)], vm := .none },
  { cls := 22, slots := #[.int (116)], vm := .none },
  { cls := 22, slots := #[.int (117)], vm := .none },
  { cls := 22, slots := #[.int (118)], vm := .none },
  { cls := 22, slots := #[.int (119)], vm := .none },
  { cls := 22, slots := #[.int (120)], vm := .none },
  { cls := 22, slots := #[.int (121)], vm := .none },
  { cls := 22, slots := #[.int (122)], vm := .none },
  { cls := 22, slots := #[.int (123)], vm := .none },
  { cls := 22, slots := #[.int (124)], vm := .none },
  { cls := 22, slots := #[.int (125)], vm := .none },
  { cls := 22, slots := #[.int (126)], vm := .none },
  { cls := 22, slots := #[.int (127)], vm := .none },
  { cls := 44, slots := #[], vm := .none },
  { cls := 44, slots := #[], vm := .none }]
def classes : Array Class := #[k0, k1, k2, k3, k4, k5, k6, k7, k8, k9, k10, k11, k12, k13, k14, k15, k16, k17, k18, k19, k20, k21, k22, k23, k24, k25, k26, k27, k28, k29, k30, k31, k32, k33, k34, k35, k36, k37, k38, k39, k40, k41, k42, k43, k44, k45]
def interned : List (Array UInt16 × Addr) := []
def slotsUsed : Nat := 531
def theMethod : MethodId := ⟨1, 2⟩
def args0 : Array Value := #[.int 7, .int 1, .int 2, .int 0]
def aboutOver (below : List Frame) : State where
  vm := { classes := classes, interned := interned.toArray }
  heap := heap
  slotsUsed := slotsUsed
  threads := #[{ frames := .invoking theMethod args0 :: below }]
def below0 : List Frame := [.native { method := ⟨0, 0⟩, args := #[] }]
def about1 : State := aboutOver below0
def p0 : Program := .bare "" "" ""
def e0 : Env := launch0.env 0 0 0
theorem w_frames : about1.frames = Frame.invoking theMethod args0 :: below0 := rfl
set_option maxRecDepth 65536 in
theorem w_args : argsFit about1.vm theMethod args0 = true := by decide +kernel
set_option maxRecDepth 65536 in
theorem w_heap : heapFits about1 = true := by decide +kernel
set_option maxRecDepth 65536 in
theorem w_runnable : about1.curStatus? = some .runnable := by decide +kernel
set_option maxRecDepth 65536 in
theorem w_alone : about1.alone = true := by decide +kernel
set_option maxRecDepth 65536 in
theorem w_named : about1.methodNamed? x = some theMethod := by decide +kernel
set_option maxRecDepth 65536 in
theorem w_hears : about1.hears theMethod below0 = true := by decide +kernel
set_option maxRecDepth 65536 in
theorem w_ripe : about1.ripe theMethod args0 below0 = true := by decide +kernel
theorem w_running : about1.status = .running := rfl
set_option maxRecDepth 65536 in
theorem w_room : about1.hasRoom e0.platform room_1 = true :=
  launch0.hasRoom_least _ room_1 (by decide +kernel) (by decide +kernel) (by decide +kernel) (by decide +kernel) (by decide +kernel) (by decide +kernel)
theorem allAtoms_all (ts : List Jvm.Cond) (a : Array Jvm.Value) (st : Jvm.State) : (allAtoms ts).before a st = ts.all (fun c => c.before a st) := by
  induction ts with
  | nil => rfl
  | cons c t ih =>
    show (Jvm.Cond.and c (allAtoms t)).before a st = _
    rw [Jvm.Cond.before_and, ih, List.all_cons]
def words1 : List Jvm.Cond := Jvm.Cond.code x code maxLocals ret :: tables_1
/-- a 'code' word, met by the world's own term for the bytes: nothing is compared byte by byte -/
theorem code_word {y : MethodName} {bytes : ByteArray} {mx : Nat} {rt : Option FieldType} {a : Array Value} {s : State} {m : MethodId} {meth : Method} {c : Code} (h1 : s.methodNamed? y = some m) (h2 : s.vm.method? m = some meth) (h3 : meth.code = some c) (h4 : c.code = bytes)
    (h5 : (c.maxLocals == mx && c.exceptionTable.isEmpty && decide (c.maxStack ≤ mostOperands) && decide (meth.sig.returnType = rt) && !meth.locks && decide (parseMethodDescriptor y.desc = some meth.sig)) = true) : (Jvm.Cond.code y bytes mx rt).before a s = true := by
  simp only [Bool.and_eq_true, beq_iff_eq, Bool.not_eq_true', decide_eq_true_eq] at h5
  obtain ⟨⟨⟨⟨⟨g1, g2⟩, g3⟩, g4⟩, g5⟩, g6⟩ := h5
  simp [Cond.before, Cond.holds, Cond.value, h1, h2, h3, h4, g1, g2, g3, g4, g5, g6]
def isCode : Jvm.Cond → Bool
  | .code _ _ _ _ => true
  | _ => false
theorem all_split {L : List Jvm.Cond} {P : Jvm.Cond → Bool} (h1 : L.all (fun c => isCode c || P c) = true) (h2 : ∀ c ∈ L.filter isCode, P c = true) : L.all P = true := by
  refine List.all_eq_true.mpr fun c hc => ?_
  have h := List.all_eq_true.mp h1 c hc
  rcases Bool.eq_false_or_eq_true (isCode c) with hi | hi
  · exact h2 c (List.mem_filter.mpr ⟨hc, hi⟩)
  · simpa [hi] using h
set_option maxRecDepth 65536 in
theorem w_c0 : (Jvm.Cond.code x code maxLocals ret).before args0 about1 = true := code_word (m := ⟨1, 2⟩) (meth := k1m2) (c := k1c2) (by decide +kernel) rfl rfl rfl (by decide +kernel)
set_option maxRecDepth 65536 in
theorem w_c1 : (Jvm.Cond.code ({ cls := "java/util/ArrayList", name := "<init>", desc := "()V" } : Jvm.MethodName) jdk_38_method_2_code (1 : Nat) (Option.none : Option Jvm.ClassFile.FieldType)).before args0 about1 = true := code_word (m := ⟨11, 0⟩) (meth := k11m0) (c := k11c0) (by decide +kernel) rfl rfl rfl (by decide +kernel)
set_option maxRecDepth 65536 in
theorem w_c2 : (Jvm.Cond.code ({ cls := "java/util/AbstractList", name := "<init>", desc := "()V" } : Jvm.MethodName) jdk_39_method_1_code (1 : Nat) (Option.none : Option Jvm.ClassFile.FieldType)).before args0 about1 = true := code_word (m := ⟨7, 0⟩) (meth := k7m0) (c := k7c0) (by decide +kernel) rfl rfl rfl (by decide +kernel)
set_option maxRecDepth 65536 in
theorem w_c3 : (Jvm.Cond.code ({ cls := "java/util/AbstractCollection", name := "<init>", desc := "()V" } : Jvm.MethodName) jdk_22_method_1_code (1 : Nat) (Option.none : Option Jvm.ClassFile.FieldType)).before args0 about1 = true := code_word (m := ⟨4, 0⟩) (meth := k4m0) (c := k4c0) (by decide +kernel) rfl rfl rfl (by decide +kernel)
set_option maxRecDepth 65536 in
theorem w_c4 : (Jvm.Cond.code ({ cls := "java/lang/Object", name := "<init>", desc := "()V" } : Jvm.MethodName) object_method_1_code (1 : Nat) (Option.none : Option Jvm.ClassFile.FieldType)).before args0 about1 = true := code_word (m := ⟨0, 0⟩) (meth := k0m0) (c := k0c0) (by decide +kernel) rfl rfl rfl (by decide +kernel)
set_option maxRecDepth 65536 in
theorem w_c5 : (Jvm.Cond.code ({ cls := "java/util/HashMap", name := "<init>", desc := "()V" } : Jvm.MethodName) jdk_69_method_7_code (1 : Nat) (Option.none : Option Jvm.ClassFile.FieldType)).before args0 about1 = true := code_word (m := ⟨14, 1⟩) (meth := k14m1) (c := k14c1) (by decide +kernel) rfl rfl rfl (by decide +kernel)
set_option maxRecDepth 65536 in
theorem w_c6 : (Jvm.Cond.code ({ cls := "java/util/AbstractMap", name := "<init>", desc := "()V" } : Jvm.MethodName) jdk_71_method_1_code (1 : Nat) (Option.none : Option Jvm.ClassFile.FieldType)).before args0 about1 = true := code_word (m := ⟨13, 0⟩) (meth := k13m0) (c := k13c0) (by decide +kernel) rfl rfl rfl (by decide +kernel)
set_option maxRecDepth 65536 in
theorem w_c7 : (Jvm.Cond.code ({ cls := "java/lang/String", name := "valueOf", desc := "(C)Ljava/lang/String;" } : Jvm.MethodName) jdk_42_method_139_code (1 : Nat) (Option.some (Jvm.ClassFile.FieldType.object "java/lang/String"))).before args0 about1 = true := code_word (m := ⟨19, 2⟩) (meth := k19m2) (c := k19c2) (by decide +kernel) rfl rfl rfl (by decide +kernel)
set_option maxRecDepth 65536 in
theorem w_c8 : (Jvm.Cond.code ({ cls := "java/lang/StringLatin1", name := "canEncode", desc := "(C)Z" } : Jvm.MethodName) jdk_43_method_3_code (1 : Nat) (Option.some Jvm.ClassFile.FieldType.boolean)).before args0 about1 = true := code_word (m := ⟨20, 1⟩) (meth := k20m1) (c := k20c1) (by decide +kernel) rfl rfl rfl (by decide +kernel)
set_option maxRecDepth 65536 in
theorem w_c9 : (Jvm.Cond.code ({ cls := "java/lang/StringLatin1", name := "toBytes", desc := "(C)[B" } : Jvm.MethodName) jdk_43_method_46_code (1 : Nat) (Option.some (Jvm.ClassFile.FieldType.array Jvm.ClassFile.FieldType.byte))).before args0 about1 = true := code_word (m := ⟨20, 3⟩) (meth := k20m3) (c := k20c3) (by decide +kernel) rfl rfl rfl (by decide +kernel)
set_option maxRecDepth 65536 in
theorem w_c10 : (Jvm.Cond.code ({ cls := "java/lang/String", name := "<init>", desc := "([BB)V" } : Jvm.MethodName) jdk_42_method_151_code (3 : Nat) (Option.none : Option Jvm.ClassFile.FieldType)).before args0 about1 = true := code_word (m := ⟨19, 3⟩) (meth := k19m3) (c := k19c3) (by decide +kernel) rfl rfl rfl (by decide +kernel)
set_option maxRecDepth 65536 in
theorem w_c11 : (Jvm.Cond.code ({ cls := "java/lang/Integer", name := "valueOf", desc := "(I)Ljava/lang/Integer;" } : Jvm.MethodName) jdk_33_method_22_code (1 : Nat) (Option.some (Jvm.ClassFile.FieldType.object "java/lang/Integer"))).before args0 about1 = true := code_word (m := ⟨22, 0⟩) (meth := k22m0) (c := k22c0) (by decide +kernel) rfl rfl rfl (by decide +kernel)
set_option maxRecDepth 65536 in
theorem w_c12 : (Jvm.Cond.code ({ cls := "java/util/HashMap", name := "put", desc := "(Ljava/lang/Object;Ljava/lang/Object;)Ljava/lang/Object;" } : Jvm.MethodName) jdk_69_method_15_code (3 : Nat) (Option.some (Jvm.ClassFile.FieldType.object "java/lang/Object"))).before args0 about1 = true := code_word (m := ⟨14, 3⟩) (meth := k14m3) (c := k14c3) (by decide +kernel) rfl rfl rfl (by decide +kernel)
set_option maxRecDepth 65536 in
theorem w_c13 : (Jvm.Cond.code ({ cls := "java/util/HashMap", name := "hash", desc := "(Ljava/lang/Object;)I" } : Jvm.MethodName) jdk_69_method_1_code (2 : Nat) (Option.some Jvm.ClassFile.FieldType.int)).before args0 about1 = true := code_word (m := ⟨14, 0⟩) (meth := k14m0) (c := k14c0) (by decide +kernel) rfl rfl rfl (by decide +kernel)
set_option maxRecDepth 65536 in
theorem w_c14 : (Jvm.Cond.code ({ cls := "java/lang/String", name := "hashCode", desc := "()I" } : Jvm.MethodName) jdk_42_method_78_code (2 : Nat) (Option.some Jvm.ClassFile.FieldType.int)).before args0 about1 = true := code_word (m := ⟨19, 1⟩) (meth := k19m1) (c := k19c1) (by decide +kernel) rfl rfl rfl (by decide +kernel)
set_option maxRecDepth 65536 in
theorem w_c15 : (Jvm.Cond.code ({ cls := "java/lang/String", name := "isLatin1", desc := "()Z" } : Jvm.MethodName) jdk_42_method_154_code (1 : Nat) (Option.some Jvm.ClassFile.FieldType.boolean)).before args0 about1 = true := code_word (m := ⟨19, 4⟩) (meth := k19m4) (c := k19c4) (by decide +kernel) rfl rfl rfl (by decide +kernel)
set_option maxRecDepth 65536 in
theorem w_c16 : (Jvm.Cond.code ({ cls := "java/lang/StringLatin1", name := "hashCode", desc := "([B)I" } : Jvm.MethodName) jdk_43_method_21_code (1 : Nat) (Option.some Jvm.ClassFile.FieldType.int)).before args0 about1 = true := code_word (m := ⟨20, 2⟩) (meth := k20m2) (c := k20c2) (by decide +kernel) rfl rfl rfl (by decide +kernel)
set_option maxRecDepth 65536 in
theorem w_c17 : (Jvm.Cond.code ({ cls := "java/util/HashMap", name := "putVal", desc := "(ILjava/lang/Object;Ljava/lang/Object;ZZ)Ljava/lang/Object;" } : Jvm.MethodName) jdk_69_method_16_code (13 : Nat) (Option.some (Jvm.ClassFile.FieldType.object "java/lang/Object"))).before args0 about1 = true := code_word (m := ⟨14, 4⟩) (meth := k14m4) (c := k14c4) (by decide +kernel) rfl rfl rfl (by decide +kernel)
set_option maxRecDepth 65536 in
theorem w_c18 : (Jvm.Cond.code ({ cls := "java/util/HashMap", name := "resize", desc := "()[Ljava/util/HashMap$Node;" } : Jvm.MethodName) jdk_69_method_17_code (14 : Nat) (Option.some (Jvm.ClassFile.FieldType.array (Jvm.ClassFile.FieldType.object "java/util/HashMap$Node")))).before args0 about1 = true := code_word (m := ⟨14, 5⟩) (meth := k14m5) (c := k14c5) (by decide +kernel) rfl rfl rfl (by decide +kernel)
set_option maxRecDepth 65536 in
theorem w_c19 : (Jvm.Cond.code ({ cls := "java/util/HashMap", name := "newNode", desc := "(ILjava/lang/Object;Ljava/lang/Object;Ljava/util/HashMap$Node;)Ljava/util/HashMap$Node;" } : Jvm.MethodName) jdk_69_method_46_code (5 : Nat) (Option.some (Jvm.ClassFile.FieldType.object "java/util/HashMap$Node"))).before args0 about1 = true := code_word (m := ⟨14, 7⟩) (meth := k14m7) (c := k14c7) (by decide +kernel) rfl rfl rfl (by decide +kernel)
set_option maxRecDepth 65536 in
theorem w_c20 : (Jvm.Cond.code ({ cls := "java/util/HashMap$Node", name := "<init>", desc := "(ILjava/lang/Object;Ljava/lang/Object;Ljava/util/HashMap$Node;)V" } : Jvm.MethodName) jdk_70_method_1_code (5 : Nat) (Option.none : Option Jvm.ClassFile.FieldType)).before args0 about1 = true := code_word (m := ⟨25, 0⟩) (meth := k25m0) (c := k25c0) (by decide +kernel) rfl rfl rfl (by decide +kernel)
set_option maxRecDepth 65536 in
theorem w_c21 : (Jvm.Cond.code ({ cls := "java/util/HashMap", name := "afterNodeInsertion", desc := "(Z)V" } : Jvm.MethodName) jdk_69_method_52_code (2 : Nat) (Option.none : Option Jvm.ClassFile.FieldType)).before args0 about1 = true := code_word (m := ⟨14, 8⟩) (meth := k14m8) (c := k14c8) (by decide +kernel) rfl rfl rfl (by decide +kernel)
set_option maxRecDepth 65536 in
theorem w_c22 : (Jvm.Cond.code ({ cls := "com/example/dolm/dolm/eval/JudgedRanking", name := "<init>", desc := "(Ljava/util/List;Ljava/util/Map;)V" } : Jvm.MethodName) prog_9_method_1_code (8 : Nat) (Option.none : Option Jvm.ClassFile.FieldType)).before args0 about1 = true := code_word (m := ⟨26, 0⟩) (meth := k26m0) (c := k26c0) (by decide +kernel) rfl rfl rfl (by decide +kernel)
set_option maxRecDepth 65536 in
theorem w_c23 : (Jvm.Cond.code ({ cls := "java/util/ArrayList", name := "size", desc := "()I" } : Jvm.MethodName) jdk_38_method_8_code (1 : Nat) (Option.some Jvm.ClassFile.FieldType.int)).before args0 about1 = true := code_word (m := ⟨11, 1⟩) (meth := k11m1) (c := k11c1) (by decide +kernel) rfl rfl rfl (by decide +kernel)
set_option maxRecDepth 65536 in
theorem w_c24 : (Jvm.Cond.code ({ cls := "java/util/HashMap", name := "size", desc := "()I" } : Jvm.MethodName) jdk_69_method_10_code (1 : Nat) (Option.some Jvm.ClassFile.FieldType.int)).before args0 about1 = true := code_word (m := ⟨14, 2⟩) (meth := k14m2) (c := k14c2) (by decide +kernel) rfl rfl rfl (by decide +kernel)
set_option maxRecDepth 65536 in
theorem w_c25 : (Jvm.Cond.code ({ cls := "java/util/HashMap", name := "values", desc := "()Ljava/util/Collection;" } : Jvm.MethodName) jdk_69_method_28_code (2 : Nat) (Option.some (Jvm.ClassFile.FieldType.object "java/util/Collection"))).before args0 about1 = true := code_word (m := ⟨14, 6⟩) (meth := k14m6) (c := k14c6) (by decide +kernel) rfl rfl rfl (by decide +kernel)
set_option maxRecDepth 65536 in
theorem w_c26 : (Jvm.Cond.code ({ cls := "java/util/HashMap$Values", name := "<init>", desc := "(Ljava/util/HashMap;)V" } : Jvm.MethodName) jdk_2571_method_1_code (2 : Nat) (Option.none : Option Jvm.ClassFile.FieldType)).before args0 about1 = true := code_word (m := ⟨27, 0⟩) (meth := k27m0) (c := k27c0) (by decide +kernel) rfl rfl rfl (by decide +kernel)
set_option maxRecDepth 65536 in
theorem w_c27 : (Jvm.Cond.code ({ cls := "java/util/HashMap$Values", name := "iterator", desc := "()Ljava/util/Iterator;" } : Jvm.MethodName) jdk_2571_method_4_code (1 : Nat) (Option.some (Jvm.ClassFile.FieldType.object "java/util/Iterator"))).before args0 about1 = true := code_word (m := ⟨27, 1⟩) (meth := k27m1) (c := k27c1) (by decide +kernel) rfl rfl rfl (by decide +kernel)
set_option maxRecDepth 65536 in
theorem w_c28 : (Jvm.Cond.code ({ cls := "java/util/HashMap$ValueIterator", name := "<init>", desc := "(Ljava/util/HashMap;)V" } : Jvm.MethodName) jdk_2569_method_1_code (2 : Nat) (Option.none : Option Jvm.ClassFile.FieldType)).before args0 about1 = true := code_word (m := ⟨30, 0⟩) (meth := k30m0) (c := k30c0) (by decide +kernel) rfl rfl rfl (by decide +kernel)
set_option maxRecDepth 65536 in
theorem w_c29 : (Jvm.Cond.code ({ cls := "java/util/HashMap$HashIterator", name := "<init>", desc := "(Ljava/util/HashMap;)V" } : Jvm.MethodName) jdk_99_method_1_code (3 : Nat) (Option.none : Option Jvm.ClassFile.FieldType)).before args0 about1 = true := code_word (m := ⟨28, 0⟩) (meth := k28m0) (c := k28c0) (by decide +kernel) rfl rfl rfl (by decide +kernel)
set_option maxRecDepth 65536 in
theorem w_c30 : (Jvm.Cond.code ({ cls := "java/util/HashMap$HashIterator", name := "hasNext", desc := "()Z" } : Jvm.MethodName) jdk_99_method_2_code (1 : Nat) (Option.some Jvm.ClassFile.FieldType.boolean)).before args0 about1 = true := code_word (m := ⟨28, 1⟩) (meth := k28m1) (c := k28c1) (by decide +kernel) rfl rfl rfl (by decide +kernel)
set_option maxRecDepth 65536 in
theorem w_c31 : (Jvm.Cond.code ({ cls := "java/util/HashMap$ValueIterator", name := "next", desc := "()Ljava/lang/Object;" } : Jvm.MethodName) jdk_2569_method_2_code (1 : Nat) (Option.some (Jvm.ClassFile.FieldType.object "java/lang/Object"))).before args0 about1 = true := code_word (m := ⟨30, 1⟩) (meth := k30m1) (c := k30c1) (by decide +kernel) rfl rfl rfl (by decide +kernel)
set_option maxRecDepth 65536 in
theorem w_c32 : (Jvm.Cond.code ({ cls := "java/util/HashMap$HashIterator", name := "nextNode", desc := "()Ljava/util/HashMap$Node;" } : Jvm.MethodName) jdk_99_method_3_code (3 : Nat) (Option.some (Jvm.ClassFile.FieldType.object "java/util/HashMap$Node"))).before args0 about1 = true := code_word (m := ⟨28, 2⟩) (meth := k28m2) (c := k28c2) (by decide +kernel) rfl rfl rfl (by decide +kernel)
set_option maxRecDepth 65536 in
theorem w_c33 : (Jvm.Cond.code ({ cls := "java/lang/Integer", name := "intValue", desc := "()I" } : Jvm.MethodName) jdk_33_method_27_code (1 : Nat) (Option.some Jvm.ClassFile.FieldType.int)).before args0 about1 = true := code_word (m := ⟨22, 2⟩) (meth := k22m2) (c := k22c2) (by decide +kernel) rfl rfl rfl (by decide +kernel)
set_option maxRecDepth 65536 in
theorem w_c34 : (Jvm.Cond.code ({ cls := "java/util/Arrays", name := "copyOf", desc := "([II)[I" } : Jvm.MethodName) jdk_65_method_123_code (3 : Nat) (Option.some (Jvm.ClassFile.FieldType.array Jvm.ClassFile.FieldType.int))).before args0 about1 = true := code_word (m := ⟨31, 2⟩) (meth := k31m2) (c := k31c2) (by decide +kernel) rfl rfl rfl (by decide +kernel)
set_option maxRecDepth 65536 in
theorem w_c35 : (Jvm.Cond.code ({ cls := "java/util/Arrays", name := "sort", desc := "([I)V" } : Jvm.MethodName) jdk_65_method_2_code (1 : Nat) (Option.none : Option Jvm.ClassFile.FieldType)).before args0 about1 = true := code_word (m := ⟨31, 1⟩) (meth := k31m1) (c := k31c1) (by decide +kernel) rfl rfl rfl (by decide +kernel)
set_option maxRecDepth 65536 in
theorem w_c36 : (Jvm.Cond.code ({ cls := "java/util/DualPivotQuicksort", name := "sort", desc := "([IIII)V" } : Jvm.MethodName) jdk_2529_method_3_code (7 : Nat) (Option.none : Option Jvm.ClassFile.FieldType)).before args0 about1 = true := code_word (m := ⟨32, 1⟩) (meth := k32m1) (c := k32c1) (by decide +kernel) rfl rfl rfl (by decide +kernel)
set_option maxRecDepth 65536 in
theorem w_c37 : (Jvm.Cond.code ({ cls := "java/util/DualPivotQuicksort", name := "sort", desc := "(Ljava/util/DualPivotQuicksort$Sorter;[IIII)V" } : Jvm.MethodName) jdk_2529_method_4_code (21 : Nat) (Option.none : Option Jvm.ClassFile.FieldType)).before args0 about1 = true := code_word (m := ⟨32, 2⟩) (meth := k32m2) (c := k32c2) (by decide +kernel) rfl rfl rfl (by decide +kernel)
set_option maxRecDepth 65536 in
theorem w_c38 : (Jvm.Cond.code ({ cls := "java/util/DualPivotQuicksort", name := "insertionSort", desc := "([III)V" } : Jvm.MethodName) jdk_2529_method_6_code (6 : Nat) (Option.none : Option Jvm.ClassFile.FieldType)).before args0 about1 = true := code_word (m := ⟨32, 3⟩) (meth := k32m3) (c := k32c3) (by decide +kernel) rfl rfl rfl (by decide +kernel)
set_option maxRecDepth 65536 in
theorem w_c39 : (Jvm.Cond.code ({ cls := "com/example/dolm/dolm/eval/JudgedRanking", name := "perRelevant", desc := "(D)D" } : Jvm.MethodName) prog_9_method_7_code (3 : Nat) (Option.some Jvm.ClassFile.FieldType.double)).before args0 about1 = true := code_word (m := ⟨26, 1⟩) (meth := k26m1) (c := k26c1) (by decide +kernel) rfl rfl rfl (by decide +kernel)
set_option maxRecDepth 65536 in
theorem w_c40 : (Jvm.Cond.code ({ cls := "com/example/dolm/dolm/eval/JudgedRankingPerRelevantPinLaw", name := "counts", desc := "(I)I" } : Jvm.MethodName) method_2_code (1 : Nat) (Option.some Jvm.ClassFile.FieldType.int)).before args0 about1 = true := code_word (m := ⟨1, 1⟩) (meth := k1m1) (c := k1c1) (by decide +kernel) rfl rfl rfl (by decide +kernel)
set_option maxRecDepth 65536 in
theorem w_c41 : (Jvm.Cond.code ({ cls := "java/lang/Integer", name := "<init>", desc := "(I)V" } : Jvm.MethodName) jdk_33_method_23_code (2 : Nat) (Option.none : Option Jvm.ClassFile.FieldType)).before args0 about1 = true := code_word (m := ⟨22, 1⟩) (meth := k22m1) (c := k22c1) (by decide +kernel) rfl rfl rfl (by decide +kernel)
set_option maxRecDepth 65536 in
theorem w_c42 : (Jvm.Cond.code ({ cls := "java/lang/Number", name := "<init>", desc := "()V" } : Jvm.MethodName) jdk_18_method_1_code (1 : Nat) (Option.none : Option Jvm.ClassFile.FieldType)).before args0 about1 = true := code_word (m := ⟨21, 0⟩) (meth := k21m0) (c := k21c0) (by decide +kernel) rfl rfl rfl (by decide +kernel)
set_option maxRecDepth 65536 in
theorem w_c43 : (Jvm.Cond.code ({ cls := "java/lang/Math", name := "min", desc := "(II)I" } : Jvm.MethodName) jdk_29_method_69_code (2 : Nat) (Option.some Jvm.ClassFile.FieldType.int)).before args0 about1 = true := code_word (m := ⟨33, 1⟩) (meth := k33m1) (c := k33c1) (by decide +kernel) rfl rfl rfl (by decide +kernel)
def codes1 : List Jvm.Cond := [Jvm.Cond.code x code maxLocals ret, Jvm.Cond.code ({ cls := "java/util/ArrayList", name := "<init>", desc := "()V" } : Jvm.MethodName) jdk_38_method_2_code (1 : Nat) (Option.none : Option Jvm.ClassFile.FieldType), Jvm.Cond.code ({ cls := "java/util/AbstractList", name := "<init>", desc := "()V" } : Jvm.MethodName) jdk_39_method_1_code (1 : Nat) (Option.none : Option Jvm.ClassFile.FieldType), Jvm.Cond.code ({ cls := "java/util/AbstractCollection", name := "<init>", desc := "()V" } : Jvm.MethodName) jdk_22_method_1_code (1 : Nat) (Option.none : Option Jvm.ClassFile.FieldType), Jvm.Cond.code ({ cls := "java/lang/Object", name := "<init>", desc := "()V" } : Jvm.MethodName) object_method_1_code (1 : Nat) (Option.none : Option Jvm.ClassFile.FieldType), Jvm.Cond.code ({ cls := "java/util/HashMap", name := "<init>", desc := "()V" } : Jvm.MethodName) jdk_69_method_7_code (1 : Nat) (Option.none : Option Jvm.ClassFile.FieldType), Jvm.Cond.code ({ cls := "java/util/AbstractMap", name := "<init>", desc := "()V" } : Jvm.MethodName) jdk_71_method_1_code (1 : Nat) (Option.none : Option Jvm.ClassFile.FieldType), Jvm.Cond.code ({ cls := "java/lang/String", name := "valueOf", desc := "(C)Ljava/lang/String;" } : Jvm.MethodName) jdk_42_method_139_code (1 : Nat) (Option.some (Jvm.ClassFile.FieldType.object "java/lang/String")), Jvm.Cond.code ({ cls := "java/lang/StringLatin1", name := "canEncode", desc := "(C)Z" } : Jvm.MethodName) jdk_43_method_3_code (1 : Nat) (Option.some Jvm.ClassFile.FieldType.boolean), Jvm.Cond.code ({ cls := "java/lang/StringLatin1", name := "toBytes", desc := "(C)[B" } : Jvm.MethodName) jdk_43_method_46_code (1 : Nat) (Option.some (Jvm.ClassFile.FieldType.array Jvm.ClassFile.FieldType.byte)), Jvm.Cond.code ({ cls := "java/lang/String", name := "<init>", desc := "([BB)V" } : Jvm.MethodName) jdk_42_method_151_code (3 : Nat) (Option.none : Option Jvm.ClassFile.FieldType), Jvm.Cond.code ({ cls := "java/lang/Integer", name := "valueOf", desc := "(I)Ljava/lang/Integer;" } : Jvm.MethodName) jdk_33_method_22_code (1 : Nat) (Option.some (Jvm.ClassFile.FieldType.object "java/lang/Integer")), Jvm.Cond.code ({ cls := "java/util/HashMap", name := "put", desc := "(Ljava/lang/Object;Ljava/lang/Object;)Ljava/lang/Object;" } : Jvm.MethodName) jdk_69_method_15_code (3 : Nat) (Option.some (Jvm.ClassFile.FieldType.object "java/lang/Object")), Jvm.Cond.code ({ cls := "java/util/HashMap", name := "hash", desc := "(Ljava/lang/Object;)I" } : Jvm.MethodName) jdk_69_method_1_code (2 : Nat) (Option.some Jvm.ClassFile.FieldType.int), Jvm.Cond.code ({ cls := "java/lang/String", name := "hashCode", desc := "()I" } : Jvm.MethodName) jdk_42_method_78_code (2 : Nat) (Option.some Jvm.ClassFile.FieldType.int), Jvm.Cond.code ({ cls := "java/lang/String", name := "isLatin1", desc := "()Z" } : Jvm.MethodName) jdk_42_method_154_code (1 : Nat) (Option.some Jvm.ClassFile.FieldType.boolean), Jvm.Cond.code ({ cls := "java/lang/StringLatin1", name := "hashCode", desc := "([B)I" } : Jvm.MethodName) jdk_43_method_21_code (1 : Nat) (Option.some Jvm.ClassFile.FieldType.int), Jvm.Cond.code ({ cls := "java/util/HashMap", name := "putVal", desc := "(ILjava/lang/Object;Ljava/lang/Object;ZZ)Ljava/lang/Object;" } : Jvm.MethodName) jdk_69_method_16_code (13 : Nat) (Option.some (Jvm.ClassFile.FieldType.object "java/lang/Object")), Jvm.Cond.code ({ cls := "java/util/HashMap", name := "resize", desc := "()[Ljava/util/HashMap$Node;" } : Jvm.MethodName) jdk_69_method_17_code (14 : Nat) (Option.some (Jvm.ClassFile.FieldType.array (Jvm.ClassFile.FieldType.object "java/util/HashMap$Node"))), Jvm.Cond.code ({ cls := "java/util/HashMap", name := "newNode", desc := "(ILjava/lang/Object;Ljava/lang/Object;Ljava/util/HashMap$Node;)Ljava/util/HashMap$Node;" } : Jvm.MethodName) jdk_69_method_46_code (5 : Nat) (Option.some (Jvm.ClassFile.FieldType.object "java/util/HashMap$Node")), Jvm.Cond.code ({ cls := "java/util/HashMap$Node", name := "<init>", desc := "(ILjava/lang/Object;Ljava/lang/Object;Ljava/util/HashMap$Node;)V" } : Jvm.MethodName) jdk_70_method_1_code (5 : Nat) (Option.none : Option Jvm.ClassFile.FieldType), Jvm.Cond.code ({ cls := "java/util/HashMap", name := "afterNodeInsertion", desc := "(Z)V" } : Jvm.MethodName) jdk_69_method_52_code (2 : Nat) (Option.none : Option Jvm.ClassFile.FieldType), Jvm.Cond.code ({ cls := "com/example/dolm/dolm/eval/JudgedRanking", name := "<init>", desc := "(Ljava/util/List;Ljava/util/Map;)V" } : Jvm.MethodName) prog_9_method_1_code (8 : Nat) (Option.none : Option Jvm.ClassFile.FieldType), Jvm.Cond.code ({ cls := "java/util/ArrayList", name := "size", desc := "()I" } : Jvm.MethodName) jdk_38_method_8_code (1 : Nat) (Option.some Jvm.ClassFile.FieldType.int), Jvm.Cond.code ({ cls := "java/util/HashMap", name := "size", desc := "()I" } : Jvm.MethodName) jdk_69_method_10_code (1 : Nat) (Option.some Jvm.ClassFile.FieldType.int), Jvm.Cond.code ({ cls := "java/util/HashMap", name := "values", desc := "()Ljava/util/Collection;" } : Jvm.MethodName) jdk_69_method_28_code (2 : Nat) (Option.some (Jvm.ClassFile.FieldType.object "java/util/Collection")), Jvm.Cond.code ({ cls := "java/util/HashMap$Values", name := "<init>", desc := "(Ljava/util/HashMap;)V" } : Jvm.MethodName) jdk_2571_method_1_code (2 : Nat) (Option.none : Option Jvm.ClassFile.FieldType), Jvm.Cond.code ({ cls := "java/util/HashMap$Values", name := "iterator", desc := "()Ljava/util/Iterator;" } : Jvm.MethodName) jdk_2571_method_4_code (1 : Nat) (Option.some (Jvm.ClassFile.FieldType.object "java/util/Iterator")), Jvm.Cond.code ({ cls := "java/util/HashMap$ValueIterator", name := "<init>", desc := "(Ljava/util/HashMap;)V" } : Jvm.MethodName) jdk_2569_method_1_code (2 : Nat) (Option.none : Option Jvm.ClassFile.FieldType), Jvm.Cond.code ({ cls := "java/util/HashMap$HashIterator", name := "<init>", desc := "(Ljava/util/HashMap;)V" } : Jvm.MethodName) jdk_99_method_1_code (3 : Nat) (Option.none : Option Jvm.ClassFile.FieldType), Jvm.Cond.code ({ cls := "java/util/HashMap$HashIterator", name := "hasNext", desc := "()Z" } : Jvm.MethodName) jdk_99_method_2_code (1 : Nat) (Option.some Jvm.ClassFile.FieldType.boolean), Jvm.Cond.code ({ cls := "java/util/HashMap$ValueIterator", name := "next", desc := "()Ljava/lang/Object;" } : Jvm.MethodName) jdk_2569_method_2_code (1 : Nat) (Option.some (Jvm.ClassFile.FieldType.object "java/lang/Object")), Jvm.Cond.code ({ cls := "java/util/HashMap$HashIterator", name := "nextNode", desc := "()Ljava/util/HashMap$Node;" } : Jvm.MethodName) jdk_99_method_3_code (3 : Nat) (Option.some (Jvm.ClassFile.FieldType.object "java/util/HashMap$Node")), Jvm.Cond.code ({ cls := "java/lang/Integer", name := "intValue", desc := "()I" } : Jvm.MethodName) jdk_33_method_27_code (1 : Nat) (Option.some Jvm.ClassFile.FieldType.int), Jvm.Cond.code ({ cls := "java/util/Arrays", name := "copyOf", desc := "([II)[I" } : Jvm.MethodName) jdk_65_method_123_code (3 : Nat) (Option.some (Jvm.ClassFile.FieldType.array Jvm.ClassFile.FieldType.int)), Jvm.Cond.code ({ cls := "java/util/Arrays", name := "sort", desc := "([I)V" } : Jvm.MethodName) jdk_65_method_2_code (1 : Nat) (Option.none : Option Jvm.ClassFile.FieldType), Jvm.Cond.code ({ cls := "java/util/DualPivotQuicksort", name := "sort", desc := "([IIII)V" } : Jvm.MethodName) jdk_2529_method_3_code (7 : Nat) (Option.none : Option Jvm.ClassFile.FieldType), Jvm.Cond.code ({ cls := "java/util/DualPivotQuicksort", name := "sort", desc := "(Ljava/util/DualPivotQuicksort$Sorter;[IIII)V" } : Jvm.MethodName) jdk_2529_method_4_code (21 : Nat) (Option.none : Option Jvm.ClassFile.FieldType), Jvm.Cond.code ({ cls := "java/util/DualPivotQuicksort", name := "insertionSort", desc := "([III)V" } : Jvm.MethodName) jdk_2529_method_6_code (6 : Nat) (Option.none : Option Jvm.ClassFile.FieldType), Jvm.Cond.code ({ cls := "com/example/dolm/dolm/eval/JudgedRanking", name := "perRelevant", desc := "(D)D" } : Jvm.MethodName) prog_9_method_7_code (3 : Nat) (Option.some Jvm.ClassFile.FieldType.double), Jvm.Cond.code ({ cls := "com/example/dolm/dolm/eval/JudgedRankingPerRelevantPinLaw", name := "counts", desc := "(I)I" } : Jvm.MethodName) method_2_code (1 : Nat) (Option.some Jvm.ClassFile.FieldType.int), Jvm.Cond.code ({ cls := "java/lang/Integer", name := "<init>", desc := "(I)V" } : Jvm.MethodName) jdk_33_method_23_code (2 : Nat) (Option.none : Option Jvm.ClassFile.FieldType), Jvm.Cond.code ({ cls := "java/lang/Number", name := "<init>", desc := "()V" } : Jvm.MethodName) jdk_18_method_1_code (1 : Nat) (Option.none : Option Jvm.ClassFile.FieldType), Jvm.Cond.code ({ cls := "java/lang/Math", name := "min", desc := "(II)I" } : Jvm.MethodName) jdk_29_method_69_code (2 : Nat) (Option.some Jvm.ClassFile.FieldType.int)]
set_option maxRecDepth 65536 in
theorem codes_eq : words1.filter isCode = codes1 := rfl
theorem w_codes : ∀ c ∈ words1.filter isCode, c.before args0 about1 = true := by
  rw [codes_eq]
  intro c hc
  simp only [codes1, List.mem_cons, List.not_mem_nil, or_false] at hc
  rcases hc with rfl | rfl | rfl | rfl | rfl | rfl | rfl | rfl | rfl | rfl | rfl | rfl | rfl | rfl | rfl | rfl | rfl | rfl | rfl | rfl | rfl | rfl | rfl | rfl | rfl | rfl | rfl | rfl | rfl | rfl | rfl | rfl | rfl | rfl | rfl | rfl | rfl | rfl | rfl | rfl | rfl | rfl | rfl | rfl
  · exact w_c0
  · exact w_c1
  · exact w_c2
  · exact w_c3
  · exact w_c4
  · exact w_c5
  · exact w_c6
  · exact w_c7
  · exact w_c8
  · exact w_c9
  · exact w_c10
  · exact w_c11
  · exact w_c12
  · exact w_c13
  · exact w_c14
  · exact w_c15
  · exact w_c16
  · exact w_c17
  · exact w_c18
  · exact w_c19
  · exact w_c20
  · exact w_c21
  · exact w_c22
  · exact w_c23
  · exact w_c24
  · exact w_c25
  · exact w_c26
  · exact w_c27
  · exact w_c28
  · exact w_c29
  · exact w_c30
  · exact w_c31
  · exact w_c32
  · exact w_c33
  · exact w_c34
  · exact w_c35
  · exact w_c36
  · exact w_c37
  · exact w_c38
  · exact w_c39
  · exact w_c40
  · exact w_c41
  · exact w_c42
  · exact w_c43
set_option maxRecDepth 65536 in
theorem w_t1 : (words1.take 24).all (fun c => isCode c || c.before args0 about1) = true := by decide +kernel
set_option maxRecDepth 65536 in
theorem w_t2 : ((words1.drop 24).take 24).all (fun c => isCode c || c.before args0 about1) = true := by decide +kernel
set_option maxRecDepth 65536 in
theorem w_t3 : (((words1.drop 24).drop 24).take 24).all (fun c => isCode c || c.before args0 about1) = true := by decide +kernel
set_option maxRecDepth 65536 in
theorem w_t4 : ((((words1.drop 24).drop 24).drop 24).take 24).all (fun c => isCode c || c.before args0 about1) = true := by decide +kernel
set_option maxRecDepth 65536 in
theorem w_t5 : (((((words1.drop 24).drop 24).drop 24).drop 24).take 24).all (fun c => isCode c || c.before args0 about1) = true := by decide +kernel
set_option maxRecDepth 65536 in
theorem w_t6 : ((((((words1.drop 24).drop 24).drop 24).drop 24).drop 24).take 24).all (fun c => isCode c || c.before args0 about1) = true := by decide +kernel
set_option maxRecDepth 65536 in
theorem w_t7 : (((((((words1.drop 24).drop 24).drop 24).drop 24).drop 24).drop 24).take 24).all (fun c => isCode c || c.before args0 about1) = true := by decide +kernel
set_option maxRecDepth 65536 in
theorem w_t8 : ((((((((words1.drop 24).drop 24).drop 24).drop 24).drop 24).drop 24).drop 24).take 24).all (fun c => isCode c || c.before args0 about1) = true := by decide +kernel
set_option maxRecDepth 65536 in
theorem w_t9 : (((((((((words1.drop 24).drop 24).drop 24).drop 24).drop 24).drop 24).drop 24).drop 24).take 24).all (fun c => isCode c || c.before args0 about1) = true := by decide +kernel
set_option maxRecDepth 65536 in
theorem w_t10 : ((((((((((words1.drop 24).drop 24).drop 24).drop 24).drop 24).drop 24).drop 24).drop 24).drop 24).take 24).all (fun c => isCode c || c.before args0 about1) = true := by decide +kernel
set_option maxRecDepth 65536 in
theorem w_t11 : (((((((((((words1.drop 24).drop 24).drop 24).drop 24).drop 24).drop 24).drop 24).drop 24).drop 24).drop 24).take 24).all (fun c => isCode c || c.before args0 about1) = true := by decide +kernel
set_option maxRecDepth 65536 in
theorem w_t12 : ((((((((((((words1.drop 24).drop 24).drop 24).drop 24).drop 24).drop 24).drop 24).drop 24).drop 24).drop 24).drop 24).take 24).all (fun c => isCode c || c.before args0 about1) = true := by decide +kernel
set_option maxRecDepth 65536 in
theorem w_t13 : (((((((((((((words1.drop 24).drop 24).drop 24).drop 24).drop 24).drop 24).drop 24).drop 24).drop 24).drop 24).drop 24).drop 24).take 24).all (fun c => isCode c || c.before args0 about1) = true := by decide +kernel
set_option maxRecDepth 65536 in
theorem w_t14 : (((((((((((((words1.drop 24).drop 24).drop 24).drop 24).drop 24).drop 24).drop 24).drop 24).drop 24).drop 24).drop 24).drop 24).drop 24).all (fun c => isCode c || c.before args0 about1) = true := by decide +kernel
theorem w_tables : (allAtoms (Jvm.Cond.code x code maxLocals ret :: tables_1)).before args0 about1 = true := by
  rw [allAtoms_all]
  show words1.all (fun c => c.before args0 about1) = true
  refine all_split ?_ w_codes
  rw [← List.take_append_drop 24 words1, List.all_append, w_t1, ← List.take_append_drop 24 (words1.drop 24), List.all_append, w_t2, ← List.take_append_drop 24 ((words1.drop 24).drop 24), List.all_append, w_t3, ← List.take_append_drop 24 (((words1.drop 24).drop 24).drop 24), List.all_append, w_t4, ← List.take_append_drop 24 ((((words1.drop 24).drop 24).drop 24).drop 24), List.all_append, w_t5, ← List.take_append_drop 24 (((((words1.drop 24).drop 24).drop 24).drop 24).drop 24), List.all_append, w_t6, ← List.take_append_drop 24 ((((((words1.drop 24).drop 24).drop 24).drop 24).drop 24).drop 24), List.all_append, w_t7, ← List.take_append_drop 24 (((((((words1.drop 24).drop 24).drop 24).drop 24).drop 24).drop 24).drop 24), List.all_append, w_t8, ← List.take_append_drop 24 ((((((((words1.drop 24).drop 24).drop 24).drop 24).drop 24).drop 24).drop 24).drop 24), List.all_append, w_t9, ← List.take_append_drop 24 (((((((((words1.drop 24).drop 24).drop 24).drop 24).drop 24).drop 24).drop 24).drop 24).drop 24), List.all_append, w_t10, ← List.take_append_drop 24 ((((((((((words1.drop 24).drop 24).drop 24).drop 24).drop 24).drop 24).drop 24).drop 24).drop 24).drop 24), List.all_append, w_t11, ← List.take_append_drop 24 (((((((((((words1.drop 24).drop 24).drop 24).drop 24).drop 24).drop 24).drop 24).drop 24).drop 24).drop 24).drop 24), List.all_append, w_t12, ← List.take_append_drop 24 ((((((((((((words1.drop 24).drop 24).drop 24).drop 24).drop 24).drop 24).drop 24).drop 24).drop 24).drop 24).drop 24).drop 24), List.all_append, w_t13, w_t14]
  rfl
set_option maxRecDepth 65536 in
theorem w_rest : rest_1_c.before args0 about1 = true := by decide +kernel
set_option maxRecDepth 65536 in
theorem w_case : (Jvm.Cond.and given_1 narrow_1).before args0 about1 = true := by decide +kernel
theorem w_applies : (headSpec (Jvm.Cond.code x code maxLocals ret :: tables_1) room_1).applies x e0.platform about1 = true :=
  (Spec.applies_iff w_frames).mpr ⟨w_running, w_runnable, w_alone, w_named, w_hears, w_ripe, w_room, w_tables⟩
theorem atStart : AtStart classFile x code maxLocals ret World_1 tables_1 room_1 Calls_1 rest_1 Pre_1 launch0 p0 e0 about1 theMethod args0 below0 :=
  ⟨lists_1, trivial, launch0.admits_env _ _ _, launch0.least_env, fairChoices_fair.cas, fairChoices_fair.clock, w_frames, w_args, w_heap, w_applies, trivial, w_rest, w_case⟩
end start1
theorem witness_1 : WitnessClaimed_1 := ⟨start1.p0, start1.e0, start1.about1, start1.theMethod, start1.args0, start1.below0, start1.atStart⟩
end Jvm.Pilot.@@N@@
