import JvmDerived
import JvmDerived.Pilot.@@N@@Statement
import JvmDerived.Pilot.@@N@@Code
set_option linter.unusedVariables false
set_option linter.unusedSimpArgs false
set_option maxRecDepth 65536
set_option maxHeartbeats 40000000
namespace Jvm.Pilot.@@N@@
open Jvm Jvm.ClassFile Sem Op Lib Jvm.Free Jvm.Stand Jvm.LawKit Jvm.RoadKit Bundle Jvm.Pilot.@@N@@.Jvm.D
section OwnKit
variable {p : Program} {l : Launch} {e : Env} {R : Room} {s : State} {m : MethodId} {args : Array Value} {below : List Frame} {meth : Method} {c : Code} {T : State} {locs : List Loc} {cells slots : Nat}
abbrev vI (x : Int32) : Slot := .val (.int x)
abbrev vR (x : Addr) : Slot := .val (.ref x)
abbrev vN : Slot := .val .null
abbrev uS : Slot := .unset
def own_Goes (p : Program) (e : Env) (below : List Frame) (U : State) (Q : Outcome → State → Prop) : Prop := ∃ (t : State) (o : Outcome), Steps p.tables e below U t ∧ t.status = .running ∧ Ended t below o ∧ Q o t
theorem gg {U U' : State} {Q : Outcome → State → Prop} (k : ∀ t, Steps p.tables e below U' t → Steps p.tables e below U t) (h : own_Goes p e below U' Q) : own_Goes p e below U Q := by
  obtain ⟨t, o, h1, h2⟩ := h
  exact ⟨t, o, k t h1, h2⟩
theorem own_goS {U U' : State} {Q : Outcome → State → Prop} (k : Steps p.tables e below U U') (h : own_Goes p e below U' Q) : own_Goes p e below U Q := gg (fun t h => k.trans h) h
theorem own_cast {g g' : JFrame} {Q : Outcome → State → Prop} (q : g = g') (h : own_Goes p e below (T.setTop g') Q) : own_Goes p e below (T.setTop g) Q := q ▸ h
def own_PostN (s : State) (Qc : Option Value → Heap → List Loc → Prop) (k n : Nat) : Outcome → State → Prop := fun o t => ∃ v L, o = .returned v ∧ Qc v t.heap L ∧ FrameEnd s o t L k n
def own_PostW (s : State) (Qc : Option Value → Heap → List Loc → Prop) (k n : Nat) : Outcome → State → Prop := fun o t => ∃ v L, o = .returned v ∧ Qc v t.heap L ∧ ReturnedEndW s o t L k n
theorem own_endN (X : Stand p l e R s m args below meth c T locs cells slots) {v : Option Value} (hv : meth.sig.returnType = none → v = none) (hlocks : meth.locks = false) {Qc : Option Value → Heap → List Loc → Prop} {k n : Nat} (hk : cells ≤ k) (hn : slots ≤ n) (hQ : Qc v T.heap locs) {U : State}
    (st : ∀ fs, (∀ (f : JFrame) (acts : List Action), f.method = m → f.locked = none → f.entered = [] → (doReturn e (T.setTop f) acts v).1 = T.setFrames fs) → Steps p.tables e below U (T.setFrames fs)) : own_Goes p e below U (own_PostN s Qc k n) := by
  obtain ⟨fs, hr, hrun, hended, hW, hsame⟩ := X.leave hv hlocks
  exact ⟨_, _, st fs hr, hrun, hended, _, _, rfl, hQ, ⟨_, rfl⟩, hW, hsame.mono hk hn⟩
theorem own_endW {vm0 : Vm} (X : Stand p l e R (s.setVm vm0) m args below meth c T locs cells slots) {q : Nat} (hS : s.Since vm0 q) (hq : q ≤ T.heap.size) {v : Option Value} (hv : meth.sig.returnType = none → v = none) (hlocks : meth.locks = false) {Qc : Option Value → Heap → List Loc → Prop} {k n : Nat} (hk : cells ≤ k) (hn : slots ≤ n) (hQ : Qc v T.heap locs) {U : State}
    (st : ∀ fs, (∀ (f : JFrame) (acts : List Action), f.method = m → f.locked = none → f.entered = [] → (doReturn e (T.setTop f) acts v).1 = T.setFrames fs) → Steps p.tables e below U (T.setFrames fs)) : own_Goes p e below U (own_PostW s Qc k n) := by
  obtain ⟨fs, hr, hrun, hended, h1, h2, h3, h4⟩ := X.leaveW hS hq hv hlocks
  exact ⟨_, _, st fs hr, hrun, hended, _, _, rfl, hQ, h1, h2, h3, h4.mono hk hn⟩
def own_PostH (Z : State) (EL : List (String × Nat)) (s : State) (Qc : Option Value → Heap → List Loc → Prop) (k n : Nat) : Outcome → State → Prop := fun o t => ∃ v L, o = .returned v ∧ Qc v t.heap L ∧ CHr Z EL s.vm s.heap t.vm t.heap ∧ ReturnedEndW s o t L k n
theorem own_endH {Z : State} {a0 : Array Value} {EL : List (String × Nat)} {h0 h : Heap} {vm0 : Vm} (X : Stand p l e R (s.setVm vm0) m args below meth c T locs cells slots) {q : Nat} (hS : s.Since vm0 q) (hq : q ≤ T.heap.size) (eT : T.heap = h) (hh : s.heap = h0) (CR : CHr Z EL s.vm h0 vm0 h) (hZ : Z.Warmed39 vm0) (w : EW Z a0 EL) {v : Option Value} (hv : meth.sig.returnType = none → v = none) (hlocks : meth.locks = false) {Qc : Option Value → Heap → List Loc → Prop} {k n : Nat} (hk : cells ≤ k) (hn : slots ≤ n) (hQ : Qc v T.heap locs) {U : State}
    (st : ∀ fs, (∀ (f : JFrame) (acts : List Action), f.method = m → f.locked = none → f.entered = [] → (doReturn e (T.setTop f) acts v).1 = T.setFrames fs) → Steps p.tables e below U (T.setFrames fs)) : own_Goes p e below U (own_PostH Z EL s Qc k n) := by
  obtain ⟨fs, hr, hrun, hended, h1, h2, h3, h4⟩ := X.leaveW hS hq hv hlocks
  subst eT hh
  exact ⟨_, _, st fs hr, hrun, hended, _, _, rfl, hQ, (CHr.trans CR (CHv.at X hZ w CR.1) : CHr Z EL s.vm s.heap T.vm T.heap), h1, h2, h3, h4.mono hk hn⟩
theorem own_neor {x a b : Nat} (h : x ≠ a ∧ x ≠ b) : (x < a ∨ a < x) ∧ (x < b ∨ b < x) := ⟨Nat.lt_or_gt_of_ne h.1, Nat.lt_or_gt_of_ne h.2⟩
theorem own_safeNull {Z : State} {EL : List (String × Nat)} {vm : Vm} {h : Heap} {x : Addr} (hal : Z.vm.Alike vm) (E : Exa Z h x "java/lang/String") (F : Fld Z h x "java/lang/String" "value" "[B" .null) : Safe Z EL vm h x := fun B => by
  obtain ⟨pp, -, u, a, -, q, -, FF, rfl | rfl⟩ := B
  · have ha := FF.ha
    obtain ⟨cS, ⟨⟨-, -, -, ⟨c1, k1, i1, f1, -⟩, -, -, -, v1, -⟩, -⟩, -⟩ := FF
    obtain ⟨cell, cf, k, i, f, h1, h2, -, -, -, -, h7⟩ := F
    cases (show h[q.sa]? = some q.sC from ha).symm.trans h1
    obtain ⟨k3, e3, -⟩ := State.fieldFound?_setVm (s := Z) hal h2
    have e4 := (show (Wst Z vm h).fieldFound? "java/lang/String" "value" "[B" = _ from e3).symm.trans f1
    simp only [Option.some.injEq, Prod.mk.injEq] at e4
    rw [← e4.2.2.2, h7] at v1
    cases v1
  · have hd := FF.hd
    obtain ⟨cS, ⟨⟨-, -, -, -, -, -, -, -, -, -, ⟨-, kB, hkB, compB, hkindB⟩, -⟩, -, -⟩, ⟨kS, g1, g2, -⟩, hB, -⟩ := FF
    obtain ⟨cell, k, e1, e2, e3, -, -⟩ := E
    cases (show h[q.sd]? = some q.SA from hd).symm.trans e1
    have e2' : vm.findClass "java/lang/String" = some q.SA.cls := by rw [hal.findClass]; exact e2
    obtain ⟨ka, qa, na⟩ := Vm.findClass_spec e2'
    obtain ⟨kb, qb, nb⟩ := Vm.findClass_spec (show vm.findClass "[B" = some q.SA.cls from hB)
    cases qa.symm.trans qb
    exact absurd (na.symm.trans nb) (by decide)
theorem own_mvM {Z s : State} {a0 args : Array Value} {own host : String} {y : MethodName} {index : Nat} (hZ : Z.Warmed39 s.vm) (w : (Cond.methodLinkNest own index y host).before a0 Z = true) : (Cond.methodLinkNest own index y host).before args s = true := (Cond.methodLinkNest_wide hZ w :)
theorem own_nf {args : Array Value} {s : State} {C : String} {w z y : MethodName} (hsel : (Cond.selects C w z).before args s = true) (hc : z.cls = y.cls) : NotFace s y := fun r0 h0 => by
  obtain ⟨c2, r2, m2, q1, q2, q3, q4, kP, hkP, hkPi⟩ := Cond.selects_spec hsel
  have e1 := findClass_of_methodNamed h0
  have e2 := findClass_of_methodNamed q3
  rw [hc, e1] at e2
  have e3 := Option.some.inj e2
  exact ⟨kP, by rw [e3]; exact hkP, hkPi⟩
theorem own_ne {a b : Nat} (h : a < b ∨ b < a) : a ≠ b := by omega
theorem own_NSroot {Z : State} {a0 : Array Value} {O K : String} {n : Nat} (w : (Cond.noSuperclass O).before a0 Z = true) (wk : (Cond.instantiable K n).before a0 Z = true) (hn : O ≠ K) : NS Z O K := by
  obtain ⟨c, k, h1, h2, h3, -, -⟩ := Cond.noSuperclass_spec w
  obtain ⟨t, kt, g1, -⟩ := Cond.instantiable_spec wk
  have ne := ids_ne h1 g1 hn
  refine ⟨c, t, h1, g1, fun fuel => ?_⟩
  cases fuel with
  | zero => rfl
  | succ f => simp [Vm.isSubclassAux, ne, h2, h3]
theorem own_NSno {Z : State} {a0 : Array Value} {C S K : String} {m : Nat} (w : (Cond.superclass C S).before a0 Z = true) (wk : (Cond.instantiable K m).before a0 Z = true) (n : NS Z C K) (hn : C ≠ K) : ∃ c t, Z.vm.findClass C = some c ∧ Z.vm.findClass K = some t ∧ Z.vm.assignable c t = false := by
  obtain ⟨c, t, h0, g0, n3⟩ := n
  obtain ⟨p, k, kp, h1, h2, h3, h4, h5, -, h7⟩ := Cond.superclass_spec h0 w
  obtain ⟨t', k', g1, g2, g5, g7, -⟩ := Cond.instantiable_spec wk
  cases g0.symm.trans g1
  have g8 : k'.isInterface = false := (Bool.or_eq_false_iff.mp g7).1
  have ne := ids_ne h0 g0 hn
  refine ⟨c, t, h0, g0, ?_⟩
  show Z.vm.assignableAux (255 + 1) c t = false
  simp [Vm.assignableAux, ne, h2, g2, h5, g5, g8, Vm.isSubclass, n3]
theorem own_fitsR {v : Value} {t : FieldType} (h : v.isRef = true) (ht : t.isReference = true) : fits t v = true := by
  cases v <;> cases t <;> simp_all [Value.isRef, fits, FieldType.isReference]
theorem own_narR {v : Value} {t : FieldType} (h : v.isRef = true) (ht : t.isReference = true) : narrow t v = v := by
  cases v <;> cases t <;> simp_all [Value.isRef, narrow, FieldType.isReference]
end OwnKit
theorem nE (a b : Nat) (h : a < b ∨ b < a) : a ≠ b := own_ne h
abbrev B27 : ByteArray := jdk_52_method_3_code
abbrev B26 : ByteArray := jdk_52_method_2_code
abbrev B28 : ByteArray := jdk_52_method_4_code
abbrev B29 : ByteArray := jdk_52_method_5_code
abbrev B25 : ByteArray := jdk_52_method_14_code
abbrev B17 : ByteArray := jdk_52_method_21_code
abbrev B16 : ByteArray := jdk_52_method_16_code
abbrev B18 : ByteArray := jdk_52_method_15_code
abbrev B4 : ByteArray := jdk_42_method_149_code
abbrev B3 : ByteArray := jdk_42_method_3_code
abbrev B13 : ByteArray := jdk_42_method_152_code
abbrev B12 : ByteArray := jdk_42_method_54_code
abbrev B20 : ByteArray := jdk_42_method_154_code
abbrev B23 : ByteArray := jdk_41_method_11_code
abbrev B22 : ByteArray := jdk_42_method_155_code
abbrev B32 : ByteArray := jdk_52_method_6_code
abbrev B31 : ByteArray := jdk_52_method_91_code
abbrev B30 : ByteArray := jdk_52_method_83_code
abbrev B21 : ByteArray := jdk_43_method_2_code
abbrev B19 : ByteArray := jdk_42_method_56_code
abbrev B14 : ByteArray := method_3_code
abbrev B15 : ByteArray := method_4_code
abbrev B24 : ByteArray := jdk_89_method_16_code
abbrev B33 : ByteArray := jdk_89_method_14_code
abbrev B34 : ByteArray := jdk_89_method_15_code
abbrev B1 : ByteArray := method_2_code
abbrev B2 : ByteArray := method_5_code
abbrev B7 : ByteArray := jdk_43_method_3_code
abbrev B8 : ByteArray := jdk_43_method_46_code
abbrev B9 : ByteArray := jdk_42_method_151_code
abbrev B6 : ByteArray := jdk_42_method_139_code
abbrev B11 : ByteArray := jdk_31_method_11_code
abbrev B10 : ByteArray := prog_15_method_2_code
theorem own_sta {s : State} {args : Array Value} {C n d K : String} (h : (Cond.exactly (Term.static C n d) K).value args s none s [] = some true) (w1 : (Cond.initialized C).before args s = true) (w2 : (Cond.laysStatic C n d).before args s = true) : ∃ w, Sta s s.heap C n d (.ref w) ∧ Exa s s.heap w K := by
  obtain ⟨w, ev⟩ := exa_v h
  exact ⟨w, Sta.start ev (Or.inr ⟨w1, w2⟩), Exa.start ev h⟩
theorem wh {Z : State} {a0 : Array Value} (hw : ∀ d ∈ tables_1, d.before a0 Z = true) (i : Nat) {d : Jvm.Cond} (q : tables_1[i]? = some d) : d.before a0 Z = true := hw _ (List.mem_of_getElem? q)
abbrev own_Met (l : Launch) (Z : State) (y : MethodName) (bts : ByteArray) (ml : Nat) (RT : Option FieldType) (ws : List Jvm.Cond) (ROOM : Room) (A : Array Value) (h0 : Heap) (Q : Option Value → Heap → List Loc → Prop) : Prop := MetFree l y (head1 (Jvm.Cond.code y bts ml RT :: ws) ROOM) (fun as_ U_ => as_ = A ∧ Z.Warmed39 U_.vm ∧ U_.heap = h0) (fun _ _ _ _ _ => True) (fun _ U_ o_ U2_ => ∃ v_ L_, o_ = .returned v_ ∧ Q v_ U2_.heap L_ ∧ FrameEnd U_ o_ U2_ L_ ROOM.cells ROOM.slots)
theorem own_mk {l : Launch} {Z : State} {y : MethodName} {bts : ByteArray} {ml : Nat} {RT : Option FieldType} {ws : List Jvm.Cond} {ROOM : Room} {A : Array Value} {h0 : Heap} {n0 : Nat} {Q : Option Value → Heap → List Loc → Prop} (pl : plainFor y = true) (O0 : Old Z n0 h0)
    (H : ∀ (p : Program) (e : Env) (s : State) (m : MethodId) (below : List Frame) (meth : Method) (c : Code) (s₁ : State), p.tables.exec = Jvm.exec → c.code = bts → c.maxLocals = ml → Z.Warmed39 s.vm → s.vm.findClass y.cls = some m.cls → meth.name = y.name → meth.locks = false → meth.sig.returnType = RT → Stand p l e ROOM s m A below meth c s₁ [] 0 0 → s₁.heap = h0 → Fr n0 [] → Z.heap.size = n0 → n0 ≤ h0.size → own_Goes p e below (s₁.setTop (entryFrame m A ml)) (own_PostN s Q ROOM.cells ROOM.slots)) : own_Met l Z y bts ml RT ws ROOM A h0 Q := by
  refine MetFree.of_bodySF pl hisR ?_
  intro p e s m args below meth c s₁ Bd hml0 hP hK
  obtain ⟨rfl, hZ, hh⟩ := hP
  exact H p e s m below meth c s₁ Bd.exec Bd.bytes hml0 hZ (findClass_of_methodNamed Bd.named) (name_of_methodNamed Bd.named Bd.method).1 Bd.notSynchronized Bd.returns (Stand.of_body Bd) (by rw [← hh, Bd.state]; rfl) (Fr.nil n0) O0.1 (O0.1 ▸ O0.2.1)
section OwnKit2
variable {p : Program} {l : Launch} {e : Env} {R : Room} {s : State} {m : MethodId} {args : Array Value} {below : List Frame} {meth : Method} {c : Code} {T : State} {locs : List Loc} {cells slots : Nat}
theorem own_cI {Z : State} {a0 : Array Value} {h : Heap} {own : String} {index : Nat} {count : Nat} {C : String} {xi y : MethodName} (X : Stand p l e R s m args below meth c T locs cells slots) (hx : p.tables.exec = Jvm.exec) (hZ : Z.Warmed39 s.vm) (hown : s.vm.findClass own = some m.cls)
    (w1 : (Cond.methodLink own index xi).before a0 Z = true) (w2 : (Cond.declares xi).before a0 Z = true) (w3 : (Cond.interfaceMethod xi.cls xi.cls xi.name xi.desc).before a0 Z = true) (w4 : (Cond.selects C xi y).before a0 Z = true) (w5 : (Cond.instanceMethod y).before a0 Z = true) (w6 : (Cond.publicMethod y).before a0 Z = true) (w7 : (Cond.unhidden C xi.name xi.desc).before a0 Z = true) (w8 : (Cond.castable C xi.cls).before a0 Z = true) (hxi : xi.cls ≠ "java/lang/invoke/MethodHandle" ∧ xi.cls ≠ "java/lang/invoke/VarHandle") {bts : ByteArray} {maxL W ml : Nat} {ret : Option FieldType} {rm : Room} {as' : Array Value} {Q : Option Value → Heap → List Loc → Prop} (M : own_Met l Z y bts maxL ret [] rm as' h Q) (wc : (Cond.code y bts maxL ret).before a0 Z = true) (wz : (Cond.initialized (MethodName.cls y)).before a0 Z = true) (hf : rm.frames + 1 ≤ R.frames) (hl : W + (maxL + 11) + rm.locals ≤ R.locals) (eT : T.heap = h) {b : Addr} (E : Exa Z h b C) {g : JFrame} (hg : g.method = m) (hml : c.maxLocals = ml) (hsz : g.locals.size = ml) {argsL rest : List Value} {ps : List FieldType} {r : Option FieldType} (hd : parseMethodDescriptor (MethodName.desc xi) = some ⟨ps, r⟩) (hl2 : argsL.length = ps.length) (hstack : g.stack = argsL.reverse ++ .ref b :: rest) (hmr : g.monitorRoom = 0) (hW : (rest.map fun v => v.category).sum = W) (hdg : decode c.code g.pc = .ok (.invokeinterface index count, 5)) (ha : (.ref b :: argsL).toArray = as') (hc : cells + rm.cells ≤ R.cells) (hs : slots + rm.slots ≤ R.slots) :
    ∃ v T' L', Stand p l e R s m args below meth c T' (locs ++ L') (cells + rm.cells) (slots + rm.slots) ∧ Q v T'.heap L' ∧ ∀ P, own_Goes p e below (T'.setTop { g with pc := g.pc + 5, stack := v.toList ++ rest }) P → own_Goes p e below (T.setTop g) P := by
  obtain ⟨cB, kB, qa, qb, qc⟩ := isOf hZ eT E
  obtain ⟨v, _, ⟨T', L', k', n'⟩, -, X', ⟨Lc, hQ, l', y', z'⟩, st⟩ := X.interfaceBack hx hown (mvT hZ w1) (mvT hZ w2) (mvT hZ w3 (by simp [Cond.onTables, Cond.keepsFace, Cond.keeps, Cond.steady, Cond.faceAtom, hxi.1, hxi.2])) (mvT hZ w4) (mvT hZ w5) (mvT hZ w6) (mvT hZ w7) (mvT hZ w8) hxi (backOf (W := W) M hZ wc wz hf hl) qa qb qc hg (by rw [hml]; exact hsz) (Steps.refl _) (argsL := argsL) (rest := rest) (lenOf hd hl2) hstack (by rw [hmr, hW]; omega) hdg (fun _ _ => ⟨ha, eT, hc, hs⟩)
  dsimp only [Pt.U, Pt.locs, Pt.cells, Pt.slots] at X' l' y' z' st hQ
  subst l' y' z'
  exact ⟨v, T', Lc, X', hQ, fun _ h => own_goS st h⟩
theorem own_cV {Z : State} {a0 : Array Value} {h : Heap} {own : String} {index : Nat} {C : String} {y : MethodName} (X : Stand p l e R s m args below meth c T locs cells slots) (hx : p.tables.exec = Jvm.exec) (hZ : Z.Warmed39 s.vm) (hown : s.vm.findClass own = some m.cls)
    (w1 : (Cond.methodLink own index y).before a0 Z = true) (w2 : (Cond.declares y).before a0 Z = true) (w4 : (Cond.selects C y y).before a0 Z = true) (w5 : (Cond.instanceMethod y).before a0 Z = true) (hxi : y.cls ≠ "java/lang/invoke/MethodHandle" ∧ y.cls ≠ "java/lang/invoke/VarHandle") {bts : ByteArray} {maxL W ml : Nat} {ret : Option FieldType} {rm : Room} {as' : Array Value} {Q : Option Value → Heap → List Loc → Prop} (M : own_Met l Z y bts maxL ret [] rm as' h Q) (wc : (Cond.code y bts maxL ret).before a0 Z = true) (wz : (Cond.initialized (MethodName.cls y)).before a0 Z = true) (hf : rm.frames + 1 ≤ R.frames) (hl : W + (maxL + 11) + rm.locals ≤ R.locals) (eT : T.heap = h) {b : Addr} (E : Exa Z h b C) {g : JFrame} (hg : g.method = m) (hml : c.maxLocals = ml) (hsz : g.locals.size = ml) {argsL rest : List Value} {ps : List FieldType} {r : Option FieldType} (hd : parseMethodDescriptor (MethodName.desc y) = some ⟨ps, r⟩) (hl2 : argsL.length = ps.length) (hstack : g.stack = argsL.reverse ++ .ref b :: rest) (hmr : g.monitorRoom = 0) (hW : (rest.map fun v => v.category).sum = W) (hdg : decode c.code g.pc = .ok (.invokevirtual index, 3)) (ha : (.ref b :: argsL).toArray = as') (hc : cells + rm.cells ≤ R.cells) (hs : slots + rm.slots ≤ R.slots) :
    ∃ v T' L', Stand p l e R s m args below meth c T' (locs ++ L') (cells + rm.cells) (slots + rm.slots) ∧ Q v T'.heap L' ∧ ∀ P, own_Goes p e below (T'.setTop { g with pc := g.pc + 3, stack := v.toList ++ rest }) P → own_Goes p e below (T.setTop g) P := by
  obtain ⟨cB, kB, qa, qb, qc⟩ := isOf hZ eT E
  obtain ⟨v, _, ⟨T', L', k', n'⟩, -, X', ⟨Lc, hQ, l', y', z'⟩, st⟩ := X.virtualBack hx hown (mvT hZ w1) (mvT hZ w2) (notFace_of_selects (args := #[]) (mvT hZ w4)) (mvT hZ w4) (mvT hZ w5) hxi (backOf (W := W) M hZ wc wz hf hl) qa qc hg (by rw [hml]; exact hsz) (Steps.refl _) (argsL := argsL) (rest := rest) (lenOf hd hl2) hstack (by rw [hmr, hW]; omega) hdg (fun _ _ => ⟨ha, eT, hc, hs⟩)
  dsimp only [Pt.U, Pt.locs, Pt.cells, Pt.slots] at X' l' y' z' st hQ
  subst l' y' z'
  exact ⟨v, T', Lc, X', hQ, fun _ h => own_goS st h⟩
theorem own_cVn {Z : State} {a0 : Array Value} {h : Heap} {own : String} {index : Nat} {C C2 : String} {y z w2_ z2 : MethodName} (X : Stand p l e R s m args below meth c T locs cells slots) (hx : p.tables.exec = Jvm.exec) (hZ : Z.Warmed39 s.vm) (hown : s.vm.findClass own = some m.cls)
    (w1 : (Cond.methodLink own index y).before a0 Z = true) (w2 : (Cond.declares y).before a0 Z = true) (w3 : (Cond.selects C2 w2_ z2).before a0 Z = true) (w3c : z2.cls = y.cls) (w4 : (Cond.selects C y z).before a0 Z = true) (w5 : (Cond.instanceMethod z).before a0 Z = true) (hxi : y.cls ≠ "java/lang/invoke/MethodHandle" ∧ y.cls ≠ "java/lang/invoke/VarHandle") {bts : ByteArray} {maxL W ml : Nat} {ret : Option FieldType} {rm : Room} {as' : Array Value} {Q : Option Value → Heap → List Loc → Prop} (M : own_Met l Z z bts maxL ret [] rm as' h Q) (wc : (Cond.code z bts maxL ret).before a0 Z = true) (wz : (Cond.initialized (MethodName.cls z)).before a0 Z = true) (hf : rm.frames + 1 ≤ R.frames) (hl : W + (maxL + 11) + rm.locals ≤ R.locals) (eT : T.heap = h) {b : Addr} (E : Exa Z h b C) {g : JFrame} (hg : g.method = m) (hml : c.maxLocals = ml) (hsz : g.locals.size = ml) {argsL rest : List Value} {ps : List FieldType} {r : Option FieldType} (hd : parseMethodDescriptor (MethodName.desc y) = some ⟨ps, r⟩) (hl2 : argsL.length = ps.length) (hstack : g.stack = argsL.reverse ++ .ref b :: rest) (hmr : g.monitorRoom = 0) (hW : (rest.map fun v => v.category).sum = W) (hdg : decode c.code g.pc = .ok (.invokevirtual index, 3)) (ha : (.ref b :: argsL).toArray = as') (hc : cells + rm.cells ≤ R.cells) (hs : slots + rm.slots ≤ R.slots) :
    ∃ v T' L', Stand p l e R s m args below meth c T' (locs ++ L') (cells + rm.cells) (slots + rm.slots) ∧ Q v T'.heap L' ∧ ∀ P, own_Goes p e below (T'.setTop { g with pc := g.pc + 3, stack := v.toList ++ rest }) P → own_Goes p e below (T.setTop g) P := by
  obtain ⟨cB, kB, qa, qb, qc⟩ := isOf hZ eT E
  obtain ⟨v, _, ⟨T', L', k', n'⟩, -, X', ⟨Lc, hQ, l', y', z'⟩, st⟩ := X.virtualBack hx hown (mvT hZ w1) (mvT hZ w2) (own_nf (args := #[]) (mvT hZ w3) w3c) (mvT hZ w4) (mvT hZ w5) hxi (backOf (W := W) M hZ wc wz hf hl) qa qc hg (by rw [hml]; exact hsz) (Steps.refl _) (argsL := argsL) (rest := rest) (lenOf hd hl2) hstack (by rw [hmr, hW]; omega) hdg (fun _ _ => ⟨ha, eT, hc, hs⟩)
  dsimp only [Pt.U, Pt.locs, Pt.cells, Pt.slots] at X' l' y' z' st hQ
  subst l' y' z'
  exact ⟨v, T', Lc, X', hQ, fun _ h => own_goS st h⟩
theorem own_cVU {Z : State} {a0 : Array Value} {h : Heap} {own : String} {index : Nat} {C owner : String} {y z : MethodName} (X : Stand p l e R s m args below meth c T locs cells slots) (hx : p.tables.exec = Jvm.exec) (hZ : Z.Warmed39 s.vm) (hown : s.vm.findClass own = some m.cls)
    (w1 : (Cond.methodLink own index y).before a0 Z = true) (w2 : (Cond.sameMethod y.cls owner y.name y.desc).before a0 Z = true) (w3 : (Cond.declares ⟨owner, y.name, y.desc⟩).before a0 Z = true) (w4 : (Cond.selects C y z).before a0 Z = true) (w5 : (Cond.instanceMethod z).before a0 Z = true) (hxi : owner ≠ "java/lang/invoke/MethodHandle" ∧ owner ≠ "java/lang/invoke/VarHandle") {bts : ByteArray} {maxL W ml : Nat} {ret : Option FieldType} {rm : Room} {as' : Array Value} {Q : Option Value → Heap → List Loc → Prop} (M : own_Met l Z z bts maxL ret [] rm as' h Q) (wc : (Cond.code z bts maxL ret).before a0 Z = true) (wz : (Cond.initialized (MethodName.cls z)).before a0 Z = true) (hf : rm.frames + 1 ≤ R.frames) (hl : W + (maxL + 11) + rm.locals ≤ R.locals) (eT : T.heap = h) {b : Addr} (E : Exa Z h b C) {g : JFrame} (hg : g.method = m) (hml : c.maxLocals = ml) (hsz : g.locals.size = ml) {argsL rest : List Value} {ps : List FieldType} {r : Option FieldType} (hd : parseMethodDescriptor (MethodName.desc y) = some ⟨ps, r⟩) (hl2 : argsL.length = ps.length) (hstack : g.stack = argsL.reverse ++ .ref b :: rest) (hmr : g.monitorRoom = 0) (hW : (rest.map fun v => v.category).sum = W) (hdg : decode c.code g.pc = .ok (.invokevirtual index, 3)) (ha : (.ref b :: argsL).toArray = as') (hc : cells + rm.cells ≤ R.cells) (hs : slots + rm.slots ≤ R.slots) :
    ∃ v T' L', Stand p l e R s m args below meth c T' (locs ++ L') (cells + rm.cells) (slots + rm.slots) ∧ Q v T'.heap L' ∧ ∀ P, own_Goes p e below (T'.setTop { g with pc := g.pc + 3, stack := v.toList ++ rest }) P → own_Goes p e below (T.setTop g) P := by
  obtain ⟨cB, kB, qa, qb, qc⟩ := isOf hZ eT E
  obtain ⟨v, _, ⟨T', L', k', n'⟩, -, X', ⟨Lc, hQ, l', y', z'⟩, st⟩ := X.virtualBackUp hx hown (mvT hZ w1) (mvT hZ w2) (mvT hZ w3) hxi (mvT hZ w4) (mvT hZ w5) (backOf (W := W) M hZ wc wz hf hl) qa qc hg (by rw [hml]; exact hsz) (Steps.refl _) (argsL := argsL) (rest := rest) (lenOf hd hl2) hstack (by rw [hmr, hW]; omega) hdg (fun _ _ => ⟨ha, eT, hc, hs⟩)
  dsimp only [Pt.U, Pt.locs, Pt.cells, Pt.slots] at X' l' y' z' st hQ
  subst l' y' z'
  exact ⟨v, T', Lc, X', hQ, fun _ h => own_goS st h⟩
theorem own_cN {Z : State} {a0 : Array Value} {h : Heap} {own : String} {index : Nat} {y : MethodName} (X : Stand p l e R s m args below meth c T locs cells slots) (hx : p.tables.exec = Jvm.exec) (hZ : Z.Warmed39 s.vm) (hown : s.vm.findClass own = some m.cls)
    (w1 : (Cond.methodLink own index y).before a0 Z = true) (w5 : (Cond.instanceMethod y).before a0 Z = true) (hy1 : y.name = "<init>") (hxi : y.cls ≠ "java/lang/invoke/MethodHandle" ∧ y.cls ≠ "java/lang/invoke/VarHandle") {bts : ByteArray} {maxL W ml : Nat} {rm : Room} {as' : Array Value} {Q : Option Value → Heap → List Loc → Prop} (M : own_Met l Z y bts maxL none [] rm as' h Q) (wc : (Cond.code y bts maxL none).before a0 Z = true) (wz : (Cond.initialized (MethodName.cls y)).before a0 Z = true) (hf : rm.frames + 1 ≤ R.frames) (hl : W + (maxL + 11) + rm.locals ≤ R.locals) (eT : T.heap = h) {b : Addr} {g : JFrame} (hg : g.method = m) (hml : c.maxLocals = ml) (hsz : g.locals.size = ml) {argsL rest : List Value} {ps : List FieldType} {r : Option FieldType} (hd : parseMethodDescriptor (MethodName.desc y) = some ⟨ps, r⟩) (hl2 : argsL.length = ps.length) (hstack : g.stack = argsL.reverse ++ .ref b :: rest) (hmr : g.monitorRoom = 0) (hW : (rest.map fun v => v.category).sum = W) (hdg : decode c.code g.pc = .ok (.invokespecial index, 3)) (ha : (.ref b :: argsL).toArray = as') (hc : cells + rm.cells ≤ R.cells) (hs : slots + rm.slots ≤ R.slots) :
    ∃ v T' L', Stand p l e R s m args below meth c T' (locs ++ L') (cells + rm.cells) (slots + rm.slots) ∧ Q v T'.heap L' ∧ ∀ P, own_Goes p e below (T'.setTop { g with pc := g.pc + 3, stack := v.toList ++ rest }) P → own_Goes p e below (T.setTop g) P := by
  obtain ⟨v, _, ⟨T', L', k', n'⟩, -, X', ⟨Lc, hQ, l', y', z'⟩, st⟩ := X.specialBack hx hy1 hown (mvT hZ w1) (mvT hZ w5) (mvT hZ wc) hxi (backOf (W := W) M hZ wc wz hf hl) hg (by rw [hml]; exact hsz) (Steps.refl _) (a := b) (argsL := argsL) (rest := rest) (lenOf hd hl2) hstack (by rw [hmr, hW]; omega) hdg (fun _ _ => ⟨ha, eT, hc, hs⟩)
  dsimp only [Pt.U, Pt.locs, Pt.cells, Pt.slots] at X' l' y' z' st hQ
  subst l' y' z'
  exact ⟨v, T', Lc, X', hQ, fun _ h => own_goS st h⟩
theorem own_cS {Z : State} {a0 : Array Value} {h : Heap} {own : String} {index : Nat} {y : MethodName} (X : Stand p l e R s m args below meth c T locs cells slots) (hx : p.tables.exec = Jvm.exec) (hZ : Z.Warmed39 s.vm) (hown : s.vm.findClass own = some m.cls)
    (w1 : (Cond.methodLink own index y).before a0 Z = true) (w5 : (Cond.static y).before a0 Z = true) (hxi : y.cls ≠ "java/lang/invoke/MethodHandle" ∧ y.cls ≠ "java/lang/invoke/VarHandle") {bts : ByteArray} {maxL W ml : Nat} {ret : Option FieldType} {rm : Room} {as' : Array Value} {Q : Option Value → Heap → List Loc → Prop} (M : own_Met l Z y bts maxL ret [] rm as' h Q) (wc : (Cond.code y bts maxL ret).before a0 Z = true) (wz : (Cond.initialized (MethodName.cls y)).before a0 Z = true) (hf : rm.frames + 1 ≤ R.frames) (hl : W + (maxL + 11) + rm.locals ≤ R.locals) (eT : T.heap = h) {g : JFrame} (hg : g.method = m) (hml : c.maxLocals = ml) (hsz : g.locals.size = ml) {argsL rest : List Value} {ps : List FieldType} {r : Option FieldType} (hd : parseMethodDescriptor (MethodName.desc y) = some ⟨ps, r⟩) (hl2 : argsL.length = ps.length) (hstack : g.stack = argsL.reverse ++ rest) (hmr : g.monitorRoom = 0) (hW : (rest.map fun v => v.category).sum = W) (hdg : decode c.code g.pc = .ok (.invokestatic index, 3)) (ha : argsL.toArray = as') (hc : cells + rm.cells ≤ R.cells) (hs : slots + rm.slots ≤ R.slots) :
    ∃ v T' L', Stand p l e R s m args below meth c T' (locs ++ L') (cells + rm.cells) (slots + rm.slots) ∧ Q v T'.heap L' ∧ ∀ P, own_Goes p e below (T'.setTop { g with pc := g.pc + 3, stack := v.toList ++ rest }) P → own_Goes p e below (T.setTop g) P := by
  obtain ⟨v, _, ⟨T', L', k', n'⟩, -, X', ⟨Lc, hQ, l', y', z'⟩, st⟩ := Jvm.LawKit.callS X hx hown (mvT hZ w1) (mvT hZ w5) (mvT hZ wz) (mvT hZ wc) hxi (backOf (W := W) M hZ wc wz hf hl) hg (by rw [hml]; exact hsz) (argsL := argsL) (rest := rest) (lenOf hd hl2) hstack (by rw [hmr, hW]; omega) hdg (fun _ _ => ⟨ha, eT, hc, hs⟩)
  dsimp only [Pt.U, Pt.locs, Pt.cells, Pt.slots] at X' l' y' z' st hQ
  subst l' y' z'
  exact ⟨v, T', Lc, X', hQ, fun _ h => gg st h⟩
theorem q_aloadN {bts : ByteArray} {pc : Nat} {Ls : Array Slot} {P : Outcome → State → Prop} {S : List Value} {k : Fin 4} {v : Value} (X : Stand p l e R s m args below meth c T locs cells slots) (hx : p.tables.exec = Jvm.exec) (hby : c.code = bts) (d : decode bts pc = .ok (.aload_n k, 1)) (h1 : Ls[k.val]? = some (.val v)) (h2 : v.isRef = true) (K : own_Goes p e below (T.setTop (mkF m (pc + 1) Ls (v :: S))) P) : own_Goes p e below (T.setTop (mkF m pc Ls S)) P := gg (fun t k => XS.aloadN X.here hx rfl (hb hby d) h1 h2 k) K
theorem q_aload {bts : ByteArray} {pc : Nat} {Ls : Array Slot} {P : Outcome → State → Prop} {S : List Value} {k : Nat} {v : Value} (X : Stand p l e R s m args below meth c T locs cells slots) (hx : p.tables.exec = Jvm.exec) (hby : c.code = bts) (d : decode bts pc = .ok (.aload k, 2)) (h1 : Ls[k]? = some (.val v)) (h2 : v.isRef = true) (K : own_Goes p e below (T.setTop (mkF m (pc + 2) Ls (v :: S))) P) : own_Goes p e below (T.setTop (mkF m pc Ls S)) P := gg (fun t k => XS.aload X.here hx rfl (hb hby d) h1 h2 k) K
theorem q_iloadN {bts : ByteArray} {pc : Nat} {Ls : Array Slot} {P : Outcome → State → Prop} {S : List Value} {k : Fin 4} {v : Int32} (X : Stand p l e R s m args below meth c T locs cells slots) (hx : p.tables.exec = Jvm.exec) (hby : c.code = bts) (d : decode bts pc = .ok (.iload_n k, 1)) (h1 : Ls[k.val]? = some (vI v)) (K : own_Goes p e below (T.setTop (mkF m (pc + 1) Ls (.int v :: S))) P) : own_Goes p e below (T.setTop (mkF m pc Ls S)) P := gg (fun t k => XS.iloadN X.here hx rfl (hb hby d) h1 k) K
theorem q_iload {bts : ByteArray} {pc : Nat} {Ls : Array Slot} {P : Outcome → State → Prop} {S : List Value} {k : Nat} {v : Int32} (X : Stand p l e R s m args below meth c T locs cells slots) (hx : p.tables.exec = Jvm.exec) (hby : c.code = bts) (d : decode bts pc = .ok (.iload k, 2)) (h1 : Ls[k]? = some (vI v)) (K : own_Goes p e below (T.setTop (mkF m (pc + 2) Ls (.int v :: S))) P) : own_Goes p e below (T.setTop (mkF m pc Ls S)) P := gg (fun t k => XS.iload X.here hx rfl (hb hby d) h1 k) K
theorem q_iconst {bts : ByteArray} {pc : Nat} {Ls : Array Slot} {P : Outcome → State → Prop} {S : List Value} {i : Int} (X : Stand p l e R s m args below meth c T locs cells slots) (hx : p.tables.exec = Jvm.exec) (hby : c.code = bts) (d : decode bts pc = .ok (.iconst i, 1)) (K : own_Goes p e below (T.setTop (mkF m (pc + 1) Ls (.int (Int32.ofInt i) :: S))) P) : own_Goes p e below (T.setTop (mkF m pc Ls S)) P := gg (fun t k => XS.iconst X.here hx rfl (hb hby d) k) K
theorem q_bipush {bts : ByteArray} {pc : Nat} {Ls : Array Slot} {P : Outcome → State → Prop} {S : List Value} {i : Int} (X : Stand p l e R s m args below meth c T locs cells slots) (hx : p.tables.exec = Jvm.exec) (hby : c.code = bts) (d : decode bts pc = .ok (.bipush i, 2)) (K : own_Goes p e below (T.setTop (mkF m (pc + 2) Ls (.int (Int8.ofInt i).toInt32 :: S))) P) : own_Goes p e below (T.setTop (mkF m pc Ls S)) P := gg (fun t k => XS.bipush X.here hx rfl (hb hby d) k) K
theorem q_sipush {bts : ByteArray} {pc : Nat} {Ls : Array Slot} {P : Outcome → State → Prop} {S : List Value} {i : Int} (X : Stand p l e R s m args below meth c T locs cells slots) (hx : p.tables.exec = Jvm.exec) (hby : c.code = bts) (d : decode bts pc = .ok (.sipush i, 3)) (K : own_Goes p e below (T.setTop (mkF m (pc + 3) Ls (.int (Int16.ofInt i).toInt32 :: S))) P) : own_Goes p e below (T.setTop (mkF m pc Ls S)) P := gg (fun t k => XS.sipush X.here hx rfl (hb hby d) k) K
theorem q_aconstNull {bts : ByteArray} {pc : Nat} {Ls : Array Slot} {P : Outcome → State → Prop} {S : List Value}  (X : Stand p l e R s m args below meth c T locs cells slots) (hx : p.tables.exec = Jvm.exec) (hby : c.code = bts) (d : decode bts pc = .ok (.aconst_null, 1)) (K : own_Goes p e below (T.setTop (mkF m (pc + 1) Ls (.null :: S))) P) : own_Goes p e below (T.setTop (mkF m pc Ls S)) P := gg (fun t k => XS.aconstNull X.here hx rfl (hb hby d) k) K
theorem q_iadd {bts : ByteArray} {pc : Nat} {Ls : Array Slot} {P : Outcome → State → Prop} {S : List Value} {x y : Int32} (X : Stand p l e R s m args below meth c T locs cells slots) (hx : p.tables.exec = Jvm.exec) (hby : c.code = bts) (d : decode bts pc = .ok (.iadd, 1)) (K : own_Goes p e below (T.setTop (mkF m (pc + 1) Ls (.int (x + y) :: S))) P) : own_Goes p e below (T.setTop (mkF m pc Ls (.int y :: .int x :: S))) P := gg (fun t k => XS.iadd X.here hx rfl (hb hby d) rfl k) K
theorem q_isub {bts : ByteArray} {pc : Nat} {Ls : Array Slot} {P : Outcome → State → Prop} {S : List Value} {x y : Int32} (X : Stand p l e R s m args below meth c T locs cells slots) (hx : p.tables.exec = Jvm.exec) (hby : c.code = bts) (d : decode bts pc = .ok (.isub, 1)) (K : own_Goes p e below (T.setTop (mkF m (pc + 1) Ls (.int (x - y) :: S))) P) : own_Goes p e below (T.setTop (mkF m pc Ls (.int y :: .int x :: S))) P := gg (fun t k => XS.isub X.here hx rfl (hb hby d) rfl k) K
theorem q_iand {bts : ByteArray} {pc : Nat} {Ls : Array Slot} {P : Outcome → State → Prop} {S : List Value} {x y : Int32} (X : Stand p l e R s m args below meth c T locs cells slots) (hx : p.tables.exec = Jvm.exec) (hby : c.code = bts) (d : decode bts pc = .ok (.iand, 1)) (K : own_Goes p e below (T.setTop (mkF m (pc + 1) Ls (.int (x &&& y) :: S))) P) : own_Goes p e below (T.setTop (mkF m pc Ls (.int y :: .int x :: S))) P := gg (fun t k => XS.iand X.here hx rfl (hb hby d) rfl k) K
theorem q_imul {bts : ByteArray} {pc : Nat} {Ls : Array Slot} {P : Outcome → State → Prop} {S : List Value} {x y : Int32} (X : Stand p l e R s m args below meth c T locs cells slots) (hx : p.tables.exec = Jvm.exec) (hby : c.code = bts) (d : decode bts pc = .ok (.imul, 1)) (K : own_Goes p e below (T.setTop (mkF m (pc + 1) Ls (.int (x * y) :: S))) P) : own_Goes p e below (T.setTop (mkF m pc Ls (.int y :: .int x :: S))) P := gg (fun t k => XS.imul X.here hx rfl (hb hby d) rfl k) K
theorem q_dup {bts : ByteArray} {pc : Nat} {Ls : Array Slot} {P : Outcome → State → Prop} {S : List Value} {x : Value} (X : Stand p l e R s m args below meth c T locs cells slots) (hx : p.tables.exec = Jvm.exec) (hby : c.code = bts) (d : decode bts pc = .ok (.dup, 1)) (h1 : x.category = 1) (K : own_Goes p e below (T.setTop (mkF m (pc + 1) Ls (x :: x :: S))) P) : own_Goes p e below (T.setTop (mkF m pc Ls (x :: S))) P := gg (fun t k => XS.dup X.here hx rfl (hb hby d) rfl h1 k) K
theorem q_istoreN {bts : ByteArray} {pc : Nat} {Ls : Array Slot} {P : Outcome → State → Prop} {S : List Value} {k : Fin 4} {x : Int32} {l' : Array Slot} (X : Stand p l e R s m args below meth c T locs cells slots) (hx : p.tables.exec = Jvm.exec) (hby : c.code = bts) (d : decode bts pc = .ok (.istore_n k, 1)) (h1 : storeLocals Ls k.val (.int x) = some l') (K : own_Goes p e below (T.setTop (mkF m (pc + 1) l' S)) P) : own_Goes p e below (T.setTop (mkF m pc Ls (.int x :: S))) P := gg (fun t k => XS.istoreN X.here hx rfl (hb hby d) rfl h1 k) K
theorem q_istore {bts : ByteArray} {pc : Nat} {Ls : Array Slot} {P : Outcome → State → Prop} {S : List Value} {k : Nat} {x : Int32} {l' : Array Slot} (X : Stand p l e R s m args below meth c T locs cells slots) (hx : p.tables.exec = Jvm.exec) (hby : c.code = bts) (d : decode bts pc = .ok (.istore k, 2)) (h1 : storeLocals Ls k (.int x) = some l') (K : own_Goes p e below (T.setTop (mkF m (pc + 2) l' S)) P) : own_Goes p e below (T.setTop (mkF m pc Ls (.int x :: S))) P := gg (fun t k => XS.istore X.here hx rfl (hb hby d) rfl h1 k) K
theorem q_astoreN {bts : ByteArray} {pc : Nat} {Ls : Array Slot} {P : Outcome → State → Prop} {S : List Value} {k : Fin 4} {x : Value} {l' : Array Slot} (X : Stand p l e R s m args below meth c T locs cells slots) (hx : p.tables.exec = Jvm.exec) (hby : c.code = bts) (d : decode bts pc = .ok (.astore_n k, 1)) (h2 : x.isRef = true) (h1 : storeLocals Ls k.val x = some l') (K : own_Goes p e below (T.setTop (mkF m (pc + 1) l' S)) P) : own_Goes p e below (T.setTop (mkF m pc Ls (x :: S))) P := gg (fun t k => XS.astoreN X.here hx rfl (hb hby d) rfl h2 h1 k) K
theorem q_astore {bts : ByteArray} {pc : Nat} {Ls : Array Slot} {P : Outcome → State → Prop} {S : List Value} {k : Nat} {x : Value} {l' : Array Slot} (X : Stand p l e R s m args below meth c T locs cells slots) (hx : p.tables.exec = Jvm.exec) (hby : c.code = bts) (d : decode bts pc = .ok (.astore k, 2)) (h2 : x.isRef = true) (h1 : storeLocals Ls k x = some l') (K : own_Goes p e below (T.setTop (mkF m (pc + 2) l' S)) P) : own_Goes p e below (T.setTop (mkF m pc Ls (x :: S))) P := gg (fun t k => XS.astore X.here hx rfl (hb hby d) rfl h2 h1 k) K
theorem q_goto {bts : ByteArray} {pc : Nat} {Ls : Array Slot} {P : Outcome → State → Prop} {S : List Value} {o : Int} {pc' : Nat} (X : Stand p l e R s m args below meth c T locs cells slots) (hx : p.tables.exec = Jvm.exec) (hby : c.code = bts) (d : decode bts pc = .ok (.goto o, 3)) (ho : 0 ≤ (pc : Int) + o) (hp : ((pc : Int) + o).toNat = pc') (K : own_Goes p e below (T.setTop (mkF m pc' Ls S)) P) : own_Goes p e below (T.setTop (mkF m pc Ls S)) P := gg (fun t k => XS.goto X.here hx rfl rfl (hb hby d) ho hp k) K
theorem q_ifYes {bts : ByteArray} {pc : Nat} {Ls : Array Slot} {P : Outcome → State → Prop} {S : List Value} {cd : ClassFile.Cond} {x : Int32} {o : Int} {pc' : Nat} (X : Stand p l e R s m args below meth c T locs cells slots) (hx : p.tables.exec = Jvm.exec) (hby : c.code = bts) (d : decode bts pc = .ok (.ifCond cd o, 3)) (h1 : ifCond.holds cd x = true) (ho : 0 ≤ (pc : Int) + o) (hp : ((pc : Int) + o).toNat = pc') (K : own_Goes p e below (T.setTop (mkF m pc' Ls S)) P) : own_Goes p e below (T.setTop (mkF m pc Ls (.int x :: S))) P := gg (fun t k => XS.ifYes X.here hx rfl rfl (hb hby d) rfl h1 ho hp k) K
theorem q_ifNo {bts : ByteArray} {pc : Nat} {Ls : Array Slot} {P : Outcome → State → Prop} {S : List Value} {cd : ClassFile.Cond} {x : Int32} {o : Int} (X : Stand p l e R s m args below meth c T locs cells slots) (hx : p.tables.exec = Jvm.exec) (hby : c.code = bts) (d : decode bts pc = .ok (.ifCond cd o, 3)) (h1 : ifCond.holds cd x = false) (K : own_Goes p e below (T.setTop (mkF m (pc + 3) Ls S)) P) : own_Goes p e below (T.setTop (mkF m pc Ls (.int x :: S))) P := gg (fun t k => XS.ifNo X.here hx rfl (hb hby d) rfl h1 k) K
theorem q_icmpYes {bts : ByteArray} {pc : Nat} {Ls : Array Slot} {P : Outcome → State → Prop} {S : List Value} {cd : ClassFile.Cond} {x y : Int32} {o : Int} {pc' : Nat} (X : Stand p l e R s m args below meth c T locs cells slots) (hx : p.tables.exec = Jvm.exec) (hby : c.code = bts) (d : decode bts pc = .ok (.if_icmp cd o, 3)) (h1 : if_icmp.holds cd x y = true) (ho : 0 ≤ (pc : Int) + o) (hp : ((pc : Int) + o).toNat = pc') (K : own_Goes p e below (T.setTop (mkF m pc' Ls S)) P) : own_Goes p e below (T.setTop (mkF m pc Ls (.int y :: .int x :: S))) P := gg (fun t k => XS.icmpYes X.here hx rfl rfl (hb hby d) rfl h1 ho hp k) K
theorem q_icmpNo {bts : ByteArray} {pc : Nat} {Ls : Array Slot} {P : Outcome → State → Prop} {S : List Value} {cd : ClassFile.Cond} {x y : Int32} {o : Int} (X : Stand p l e R s m args below meth c T locs cells slots) (hx : p.tables.exec = Jvm.exec) (hby : c.code = bts) (d : decode bts pc = .ok (.if_icmp cd o, 3)) (h1 : if_icmp.holds cd x y = false) (K : own_Goes p e below (T.setTop (mkF m (pc + 3) Ls S)) P) : own_Goes p e below (T.setTop (mkF m pc Ls (.int y :: .int x :: S))) P := gg (fun t k => XS.icmpNo X.here hx rfl (hb hby d) rfl h1 k) K
theorem q_ifnullYes {bts : ByteArray} {pc : Nat} {Ls : Array Slot} {P : Outcome → State → Prop} {S : List Value} {o : Int} {pc' : Nat} (X : Stand p l e R s m args below meth c T locs cells slots) (hx : p.tables.exec = Jvm.exec) (hby : c.code = bts) (d : decode bts pc = .ok (.ifnull o, 3)) (ho : 0 ≤ (pc : Int) + o) (hp : ((pc : Int) + o).toNat = pc') (K : own_Goes p e below (T.setTop (mkF m pc' Ls S)) P) : own_Goes p e below (T.setTop (mkF m pc Ls (.null :: S))) P := gg (fun t k => XS.ifnullYes X.here hx rfl rfl (hb hby d) rfl ho hp k) K
theorem q_ifnullNo {bts : ByteArray} {pc : Nat} {Ls : Array Slot} {P : Outcome → State → Prop} {S : List Value} {o : Int} {b : Addr} (X : Stand p l e R s m args below meth c T locs cells slots) (hx : p.tables.exec = Jvm.exec) (hby : c.code = bts) (d : decode bts pc = .ok (.ifnull o, 3)) (K : own_Goes p e below (T.setTop (mkF m (pc + 3) Ls S)) P) : own_Goes p e below (T.setTop (mkF m pc Ls (.ref b :: S))) P := gg (fun t k => XS.ifnullNo X.here hx rfl (hb hby d) rfl k) K
theorem k_I {bt0 : ByteArray} {pc : Nat} {Ls : Array Slot} {S : List Value} {P : Outcome → State → Prop} {Z : State} {a0 : Array Value} {h : Heap} {own : String} {index : Nat} {count : Nat} {C : String} {xi y : MethodName} (X : Stand p l e R s m args below meth c T locs cells slots) (hx : p.tables.exec = Jvm.exec) (hby : c.code = bt0) (hZ : Z.Warmed39 s.vm) (hown : s.vm.findClass own = some m.cls) (w1 : (Cond.methodLink own index xi).before a0 Z = true) (w2 : (Cond.declares xi).before a0 Z = true) (w3 : (Cond.interfaceMethod xi.cls xi.cls xi.name xi.desc).before a0 Z = true) (w4 : (Cond.selects C xi y).before a0 Z = true) (w5 : (Cond.instanceMethod y).before a0 Z = true) (w6 : (Cond.publicMethod y).before a0 Z = true) (w7 : (Cond.unhidden C xi.name xi.desc).before a0 Z = true) (w8 : (Cond.castable C xi.cls).before a0 Z = true) {bts : ByteArray} {maxL W ml : Nat} {ret : Option FieldType} {rm : Room} {as' : Array Value} {Q : Option Value → Heap → List Loc → Prop} (M : own_Met l Z y bts maxL ret [] rm as' h Q) (wc : (Cond.code y bts maxL ret).before a0 Z = true) (wz : (Cond.initialized (MethodName.cls y)).before a0 Z = true) (eT : T.heap = h) {b : Addr} (E : Exa Z h b C) (hml : c.maxLocals = ml) {argsL rest : List Value} {ps : List FieldType} {r : Option FieldType} (hd : parseMethodDescriptor (MethodName.desc xi) = some ⟨ps, r⟩) (d : decode bt0 pc = .ok (.invokeinterface index count, 5)) (K : ∀ (v : Option Value) (T' : State) (L' : List Loc), Stand p l e R s m args below meth c T' (locs ++ L') (cells + rm.cells) (slots + rm.slots) → Q v T'.heap L' → own_Goes p e below (T'.setTop (mkF m (pc + 5) Ls (v.toList ++ rest))) P) (hxi : xi.cls ≠ "java/lang/invoke/MethodHandle" ∧ xi.cls ≠ "java/lang/invoke/VarHandle" := by decide) (hf : rm.frames + 1 ≤ R.frames := by decide) (hl : W + (maxL + 11) + rm.locals ≤ R.locals := by decide) (hg : (mkF m pc Ls S).method = m := by rfl) (hsz : (mkF m pc Ls S).locals.size = ml := by rfl) (hl2 : argsL.length = ps.length := by rfl) (hstack : (mkF m pc Ls S).stack = argsL.reverse ++ .ref b :: rest := by rfl) (hmr : (mkF m pc Ls S).monitorRoom = 0 := by rfl) (hW : (rest.map fun v => v.category).sum = W := by rfl) (ha : (.ref b :: argsL).toArray = as' := by rfl) (hc : cells + rm.cells ≤ R.cells := by decide) (hs : slots + rm.slots ≤ R.slots := by decide) : own_Goes p e below (T.setTop (mkF m pc Ls S)) P := by
  obtain ⟨v, T', L', X', hQ, st⟩ := own_cI X hx hZ hown w1 w2 w3 w4 w5 w6 w7 w8 hxi M wc wz hf hl eT E (g := (mkF m pc Ls S)) hg hml hsz hd hl2 hstack hmr hW (hb hby d) ha hc hs
  exact st _ (K v T' L' X' hQ)
theorem k_V {bt0 : ByteArray} {pc : Nat} {Ls : Array Slot} {S : List Value} {P : Outcome → State → Prop} {Z : State} {a0 : Array Value} {h : Heap} {own : String} {index : Nat} {C : String} {y : MethodName} (X : Stand p l e R s m args below meth c T locs cells slots) (hx : p.tables.exec = Jvm.exec) (hby : c.code = bt0) (hZ : Z.Warmed39 s.vm) (hown : s.vm.findClass own = some m.cls) (w1 : (Cond.methodLink own index y).before a0 Z = true) (w2 : (Cond.declares y).before a0 Z = true) (w4 : (Cond.selects C y y).before a0 Z = true) (w5 : (Cond.instanceMethod y).before a0 Z = true) {bts : ByteArray} {maxL W ml : Nat} {ret : Option FieldType} {rm : Room} {as' : Array Value} {Q : Option Value → Heap → List Loc → Prop} (M : own_Met l Z y bts maxL ret [] rm as' h Q) (wc : (Cond.code y bts maxL ret).before a0 Z = true) (wz : (Cond.initialized (MethodName.cls y)).before a0 Z = true) (eT : T.heap = h) {b : Addr} (E : Exa Z h b C) (hml : c.maxLocals = ml) {argsL rest : List Value} {ps : List FieldType} {r : Option FieldType} (hd : parseMethodDescriptor (MethodName.desc y) = some ⟨ps, r⟩) (d : decode bt0 pc = .ok (.invokevirtual index, 3)) (K : ∀ (v : Option Value) (T' : State) (L' : List Loc), Stand p l e R s m args below meth c T' (locs ++ L') (cells + rm.cells) (slots + rm.slots) → Q v T'.heap L' → own_Goes p e below (T'.setTop (mkF m (pc + 3) Ls (v.toList ++ rest))) P) (hxi : y.cls ≠ "java/lang/invoke/MethodHandle" ∧ y.cls ≠ "java/lang/invoke/VarHandle" := by decide) (hf : rm.frames + 1 ≤ R.frames := by decide) (hl : W + (maxL + 11) + rm.locals ≤ R.locals := by decide) (hg : (mkF m pc Ls S).method = m := by rfl) (hsz : (mkF m pc Ls S).locals.size = ml := by rfl) (hl2 : argsL.length = ps.length := by rfl) (hstack : (mkF m pc Ls S).stack = argsL.reverse ++ .ref b :: rest := by rfl) (hmr : (mkF m pc Ls S).monitorRoom = 0 := by rfl) (hW : (rest.map fun v => v.category).sum = W := by rfl) (ha : (.ref b :: argsL).toArray = as' := by rfl) (hc : cells + rm.cells ≤ R.cells := by decide) (hs : slots + rm.slots ≤ R.slots := by decide) : own_Goes p e below (T.setTop (mkF m pc Ls S)) P := by
  obtain ⟨v, T', L', X', hQ, st⟩ := own_cV X hx hZ hown w1 w2 w4 w5 hxi M wc wz hf hl eT E (g := (mkF m pc Ls S)) hg hml hsz hd hl2 hstack hmr hW (hb hby d) ha hc hs
  exact st _ (K v T' L' X' hQ)
theorem k_Vn {bt0 : ByteArray} {pc : Nat} {Ls : Array Slot} {S : List Value} {P : Outcome → State → Prop} {Z : State} {a0 : Array Value} {h : Heap} {own : String} {index : Nat} {C C2 : String} {y z w2_ z2 : MethodName} (X : Stand p l e R s m args below meth c T locs cells slots) (hx : p.tables.exec = Jvm.exec) (hby : c.code = bt0) (hZ : Z.Warmed39 s.vm) (hown : s.vm.findClass own = some m.cls) (w1 : (Cond.methodLink own index y).before a0 Z = true) (w2 : (Cond.declares y).before a0 Z = true) (w3 : (Cond.selects C2 w2_ z2).before a0 Z = true) (w4 : (Cond.selects C y z).before a0 Z = true) (w5 : (Cond.instanceMethod z).before a0 Z = true) {bts : ByteArray} {maxL W ml : Nat} {ret : Option FieldType} {rm : Room} {as' : Array Value} {Q : Option Value → Heap → List Loc → Prop} (M : own_Met l Z z bts maxL ret [] rm as' h Q) (wc : (Cond.code z bts maxL ret).before a0 Z = true) (wz : (Cond.initialized (MethodName.cls z)).before a0 Z = true) (eT : T.heap = h) {b : Addr} (E : Exa Z h b C) (hml : c.maxLocals = ml) {argsL rest : List Value} {ps : List FieldType} {r : Option FieldType} (hd : parseMethodDescriptor (MethodName.desc y) = some ⟨ps, r⟩) (d : decode bt0 pc = .ok (.invokevirtual index, 3)) (K : ∀ (v : Option Value) (T' : State) (L' : List Loc), Stand p l e R s m args below meth c T' (locs ++ L') (cells + rm.cells) (slots + rm.slots) → Q v T'.heap L' → own_Goes p e below (T'.setTop (mkF m (pc + 3) Ls (v.toList ++ rest))) P) (w3c : z2.cls = y.cls := by rfl) (hxi : y.cls ≠ "java/lang/invoke/MethodHandle" ∧ y.cls ≠ "java/lang/invoke/VarHandle" := by decide) (hf : rm.frames + 1 ≤ R.frames := by decide) (hl : W + (maxL + 11) + rm.locals ≤ R.locals := by decide) (hg : (mkF m pc Ls S).method = m := by rfl) (hsz : (mkF m pc Ls S).locals.size = ml := by rfl) (hl2 : argsL.length = ps.length := by rfl) (hstack : (mkF m pc Ls S).stack = argsL.reverse ++ .ref b :: rest := by rfl) (hmr : (mkF m pc Ls S).monitorRoom = 0 := by rfl) (hW : (rest.map fun v => v.category).sum = W := by rfl) (ha : (.ref b :: argsL).toArray = as' := by rfl) (hc : cells + rm.cells ≤ R.cells := by decide) (hs : slots + rm.slots ≤ R.slots := by decide) : own_Goes p e below (T.setTop (mkF m pc Ls S)) P := by
  obtain ⟨v, T', L', X', hQ, st⟩ := own_cVn X hx hZ hown w1 w2 w3 w3c w4 w5 hxi M wc wz hf hl eT E (g := (mkF m pc Ls S)) hg hml hsz hd hl2 hstack hmr hW (hb hby d) ha hc hs
  exact st _ (K v T' L' X' hQ)
theorem k_VU {bt0 : ByteArray} {pc : Nat} {Ls : Array Slot} {S : List Value} {P : Outcome → State → Prop} {Z : State} {a0 : Array Value} {h : Heap} {own : String} {index : Nat} {C owner : String} {y z : MethodName} (X : Stand p l e R s m args below meth c T locs cells slots) (hx : p.tables.exec = Jvm.exec) (hby : c.code = bt0) (hZ : Z.Warmed39 s.vm) (hown : s.vm.findClass own = some m.cls) (w1 : (Cond.methodLink own index y).before a0 Z = true) (w2 : (Cond.sameMethod y.cls owner y.name y.desc).before a0 Z = true) (w3 : (Cond.declares ⟨owner, y.name, y.desc⟩).before a0 Z = true) (w4 : (Cond.selects C y z).before a0 Z = true) (w5 : (Cond.instanceMethod z).before a0 Z = true) {bts : ByteArray} {maxL W ml : Nat} {ret : Option FieldType} {rm : Room} {as' : Array Value} {Q : Option Value → Heap → List Loc → Prop} (M : own_Met l Z z bts maxL ret [] rm as' h Q) (wc : (Cond.code z bts maxL ret).before a0 Z = true) (wz : (Cond.initialized (MethodName.cls z)).before a0 Z = true) (eT : T.heap = h) {b : Addr} (E : Exa Z h b C) (hml : c.maxLocals = ml) {argsL rest : List Value} {ps : List FieldType} {r : Option FieldType} (hd : parseMethodDescriptor (MethodName.desc y) = some ⟨ps, r⟩) (d : decode bt0 pc = .ok (.invokevirtual index, 3)) (K : ∀ (v : Option Value) (T' : State) (L' : List Loc), Stand p l e R s m args below meth c T' (locs ++ L') (cells + rm.cells) (slots + rm.slots) → Q v T'.heap L' → own_Goes p e below (T'.setTop (mkF m (pc + 3) Ls (v.toList ++ rest))) P) (hxi : owner ≠ "java/lang/invoke/MethodHandle" ∧ owner ≠ "java/lang/invoke/VarHandle" := by decide) (hf : rm.frames + 1 ≤ R.frames := by decide) (hl : W + (maxL + 11) + rm.locals ≤ R.locals := by decide) (hg : (mkF m pc Ls S).method = m := by rfl) (hsz : (mkF m pc Ls S).locals.size = ml := by rfl) (hl2 : argsL.length = ps.length := by rfl) (hstack : (mkF m pc Ls S).stack = argsL.reverse ++ .ref b :: rest := by rfl) (hmr : (mkF m pc Ls S).monitorRoom = 0 := by rfl) (hW : (rest.map fun v => v.category).sum = W := by rfl) (ha : (.ref b :: argsL).toArray = as' := by rfl) (hc : cells + rm.cells ≤ R.cells := by decide) (hs : slots + rm.slots ≤ R.slots := by decide) : own_Goes p e below (T.setTop (mkF m pc Ls S)) P := by
  obtain ⟨v, T', L', X', hQ, st⟩ := own_cVU X hx hZ hown w1 w2 w3 w4 w5 hxi M wc wz hf hl eT E (g := (mkF m pc Ls S)) hg hml hsz hd hl2 hstack hmr hW (hb hby d) ha hc hs
  exact st _ (K v T' L' X' hQ)
theorem k_N {bt0 : ByteArray} {pc : Nat} {Ls : Array Slot} {S : List Value} {P : Outcome → State → Prop} {Z : State} {a0 : Array Value} {h : Heap} {own : String} {index : Nat} {y : MethodName} (X : Stand p l e R s m args below meth c T locs cells slots) (hx : p.tables.exec = Jvm.exec) (hby : c.code = bt0) (hZ : Z.Warmed39 s.vm) (hown : s.vm.findClass own = some m.cls) (w1 : (Cond.methodLink own index y).before a0 Z = true) (w5 : (Cond.instanceMethod y).before a0 Z = true) {bts : ByteArray} {maxL W ml : Nat} {rm : Room} {as' : Array Value} {Q : Option Value → Heap → List Loc → Prop} (M : own_Met l Z y bts maxL none [] rm as' h Q) (wc : (Cond.code y bts maxL none).before a0 Z = true) (wz : (Cond.initialized (MethodName.cls y)).before a0 Z = true) (eT : T.heap = h) {b : Addr} (hml : c.maxLocals = ml) {argsL rest : List Value} {ps : List FieldType} {r : Option FieldType} (hd : parseMethodDescriptor (MethodName.desc y) = some ⟨ps, r⟩) (d : decode bt0 pc = .ok (.invokespecial index, 3)) (K : ∀ (v : Option Value) (T' : State) (L' : List Loc), Stand p l e R s m args below meth c T' (locs ++ L') (cells + rm.cells) (slots + rm.slots) → Q v T'.heap L' → own_Goes p e below (T'.setTop (mkF m (pc + 3) Ls (v.toList ++ rest))) P) (hy1 : y.name = "<init>" := by rfl) (hxi : y.cls ≠ "java/lang/invoke/MethodHandle" ∧ y.cls ≠ "java/lang/invoke/VarHandle" := by decide) (hf : rm.frames + 1 ≤ R.frames := by decide) (hl : W + (maxL + 11) + rm.locals ≤ R.locals := by decide) (hg : (mkF m pc Ls S).method = m := by rfl) (hsz : (mkF m pc Ls S).locals.size = ml := by rfl) (hl2 : argsL.length = ps.length := by rfl) (hstack : (mkF m pc Ls S).stack = argsL.reverse ++ .ref b :: rest := by rfl) (hmr : (mkF m pc Ls S).monitorRoom = 0 := by rfl) (hW : (rest.map fun v => v.category).sum = W := by rfl) (ha : (.ref b :: argsL).toArray = as' := by rfl) (hc : cells + rm.cells ≤ R.cells := by decide) (hs : slots + rm.slots ≤ R.slots := by decide) : own_Goes p e below (T.setTop (mkF m pc Ls S)) P := by
  obtain ⟨v, T', L', X', hQ, st⟩ := own_cN X hx hZ hown w1 w5 hy1 hxi M wc wz hf hl eT (g := (mkF m pc Ls S)) hg hml hsz hd hl2 hstack hmr hW (hb hby d) ha hc hs
  exact st _ (K v T' L' X' hQ)
theorem k_S {bt0 : ByteArray} {pc : Nat} {Ls : Array Slot} {S : List Value} {P : Outcome → State → Prop} {Z : State} {a0 : Array Value} {h : Heap} {own : String} {index : Nat} {y : MethodName} (X : Stand p l e R s m args below meth c T locs cells slots) (hx : p.tables.exec = Jvm.exec) (hby : c.code = bt0) (hZ : Z.Warmed39 s.vm) (hown : s.vm.findClass own = some m.cls) (w1 : (Cond.methodLink own index y).before a0 Z = true) (w5 : (Cond.static y).before a0 Z = true) {bts : ByteArray} {maxL W ml : Nat} {ret : Option FieldType} {rm : Room} {as' : Array Value} {Q : Option Value → Heap → List Loc → Prop} (M : own_Met l Z y bts maxL ret [] rm as' h Q) (wc : (Cond.code y bts maxL ret).before a0 Z = true) (wz : (Cond.initialized (MethodName.cls y)).before a0 Z = true) (eT : T.heap = h) (hml : c.maxLocals = ml) {argsL rest : List Value} {ps : List FieldType} {r : Option FieldType} (hd : parseMethodDescriptor (MethodName.desc y) = some ⟨ps, r⟩) (d : decode bt0 pc = .ok (.invokestatic index, 3)) (K : ∀ (v : Option Value) (T' : State) (L' : List Loc), Stand p l e R s m args below meth c T' (locs ++ L') (cells + rm.cells) (slots + rm.slots) → Q v T'.heap L' → own_Goes p e below (T'.setTop (mkF m (pc + 3) Ls (v.toList ++ rest))) P) (hxi : y.cls ≠ "java/lang/invoke/MethodHandle" ∧ y.cls ≠ "java/lang/invoke/VarHandle" := by decide) (hf : rm.frames + 1 ≤ R.frames := by decide) (hl : W + (maxL + 11) + rm.locals ≤ R.locals := by decide) (hg : (mkF m pc Ls S).method = m := by rfl) (hsz : (mkF m pc Ls S).locals.size = ml := by rfl) (hl2 : argsL.length = ps.length := by rfl) (hstack : (mkF m pc Ls S).stack = argsL.reverse ++ rest := by rfl) (hmr : (mkF m pc Ls S).monitorRoom = 0 := by rfl) (hW : (rest.map fun v => v.category).sum = W := by rfl) (ha : argsL.toArray = as' := by rfl) (hc : cells + rm.cells ≤ R.cells := by decide) (hs : slots + rm.slots ≤ R.slots := by decide) : own_Goes p e below (T.setTop (mkF m pc Ls S)) P := by
  obtain ⟨v, T', L', X', hQ, st⟩ := own_cS X hx hZ hown w1 w5 hxi M wc wz hf hl eT (g := (mkF m pc Ls S)) hg hml hsz hd hl2 hstack hmr hW (hb hby d) ha hc hs
  exact st _ (K v T' L' X' hQ)
theorem qF {bts : ByteArray} {pc : Nat} {Ls : Array Slot} {S : List Value} {P : Outcome → State → Prop} {Z : State} {h : Heap} {a0 : Array Value} {own R0 O n d_ host : String} {index : Nat} {a : Addr} {v : Value} (X : Stand p l e R s m args below meth c T locs cells slots) (hx : p.tables.exec = Jvm.exec) (hby : c.code = bts) (hZ : Z.Warmed39 s.vm) (hown : s.vm.findClass own = some m.cls) (w : (Cond.fieldLink own index R0 n d_).before a0 Z = true ∨ (Cond.fieldLinkNest own index R0 n d_ host).before a0 Z = true) (via : Via Z R0 O n d_) (eT : T.heap = h) (F : Fld Z h a O n d_ v) (d : decode bts pc = .ok (.getfield index, 3)) (K : ∀ T', Stand p l e R s m args below meth c T' locs cells slots → T'.heap = h → own_Goes p e below (T'.setTop (mkF m (pc + 3) Ls (v :: S))) P) : own_Goes p e below (T.setTop (mkF m pc Ls (.ref a :: S))) P := by
  obtain ⟨T', X', e', st⟩ := getF X hx hZ hown w via eT F (g := mkF m pc Ls (.ref a :: S)) rfl rfl (hb hby d)
  exact gg st (K T' X' e')
theorem qG {bts : ByteArray} {pc : Nat} {Ls : Array Slot} {S : List Value} {P : Outcome → State → Prop} {Z : State} {h : Heap} {a0 : Array Value} {own R0 n d_ : String} {index : Nat} {a : Addr} {v : Value} (X : Stand p l e R s m args below meth c T locs cells slots) (hx : p.tables.exec = Jvm.exec) (hby : c.code = bts) (hZ : Z.Warmed39 s.vm) (hown : s.vm.findClass own = some m.cls) (w : (Cond.fieldLink own index R0 n d_).before a0 Z = true) (eT : T.heap = h) (F : Fld Z h a R0 n d_ v) (d : decode bts pc = .ok (.getfield index, 3)) (K : ∀ T', Stand p l e R s m args below meth c T' locs cells slots → T'.heap = h → own_Goes p e below (T'.setTop (mkF m (pc + 3) Ls (v :: S))) P) : own_Goes p e below (T.setTop (mkF m pc Ls (.ref a :: S))) P := qF (host := "") X hx hby hZ hown (Or.inl w) Via.refl eT F d K
theorem qS {bts : ByteArray} {pc : Nat} {Ls : Array Slot} {S : List Value} {P : Outcome → State → Prop} {Z : State} {h : Heap} {a0 : Array Value} {own R0 O n d_ host : String} {index : Nat} {v : Value} (X : Stand p l e R s m args below meth c T locs cells slots) (hx : p.tables.exec = Jvm.exec) (hby : c.code = bts) (hZ : Z.Warmed39 s.vm) (hown : s.vm.findClass own = some m.cls) (w : (Cond.fieldLink own index R0 n d_).before a0 Z = true ∨ (Cond.fieldLinkNest own index R0 n d_ host).before a0 Z = true) (via : Via Z R0 O n d_) (eT : T.heap = h) (F : Sta Z h O n d_ v) (d : decode bts pc = .ok (.getstatic index, 3)) (K : ∀ T', Stand p l e R s m args below meth c T' locs cells slots → T'.heap = h → own_Goes p e below (T'.setTop (mkF m (pc + 3) Ls (v :: S))) P) : own_Goes p e below (T.setTop (mkF m pc Ls S)) P := by
  obtain ⟨T', X', e', st⟩ := getS2 X hx hZ hown w via eT F (g := mkF m pc Ls S) rfl (hb hby d)
  exact gg st (K T' X' e')
theorem qP {bts : ByteArray} {pc : Nat} {Ls : Array Slot} {S : List Value} {P : Outcome → State → Prop} {Z : State} {h : Heap} {a0 : Array Value} {own R0 O n d_ host : String} {index : Nat} {C : String} {kk : Nat} {ty : FieldType} {a : Addr} {v old : Value} (X : Stand p l e R s m args below meth c T locs cells slots) (hx : p.tables.exec = Jvm.exec) (hby : c.code = bts) (hZ : Z.Warmed39 s.vm) (hown : s.vm.findClass own = some m.cls) (w : (Cond.fieldLink own index R0 n d_).before a0 Z = true ∨ (Cond.fieldLinkNest own index R0 n d_ host).before a0 Z = true) (via : Via Z R0 O n d_) (eT : T.heap = h) (F : Fld Z h a O n d_ old) (E : Exa Z h a C) (LW : (Cond.lays C O n d_).before a0 Z = true ∨ ((Cond.laysFinal C O n d_).before a0 Z = true ∧ own = O ∧ meth.name = "<init>")) (wi : (Cond.instantiable C kk).before a0 Z = true) (d : decode bts pc = .ok (.putfield index, 3)) (K : ∀ T' h', Stand p l e R s m args below meth c T' (locs ++ [⟨a, Jvm.RoadKit.slotOf Z O n d_⟩]) cells slots → T'.heap = h' → Wr h h' a (Jvm.RoadKit.slotOf Z O n d_) v → own_Goes p e below (T'.setTop (mkF m (pc + 3) Ls S)) P) (hty : parseFieldDescriptor d_ = some ty := by decide) (hn : narrow ty v = v := by rfl) (hf : fits ty v = true := by rfl) : own_Goes p e below (T.setTop (mkF m pc Ls (v :: .ref a :: S))) P := by
  obtain ⟨T', h', X', e', W', st⟩ := putF X hx hZ hown w via eT F E LW wi hty hn hf (g := mkF m pc Ls (v :: .ref a :: S)) rfl rfl (hb hby d)
  exact gg st (K T' h' X' e' W')
theorem q_caload {bts : ByteArray} {pc : Nat} {Ls : Array Slot} {S : List Value} {P : Outcome → State → Prop} {Z : State} {h : Heap} {a : Addr} {k : ClassId} {n j : Int32} {vs : List Value} {dv : Value} (X : Stand p l e R s m args below meth c T locs cells slots) (hx : p.tables.exec = Jvm.exec) (hby : c.code = bts) (hZ : Z.Warmed39 s.vm) (eT : T.heap = h) (V : Arv Z h a k .char n vs dv) (d : decode bts pc = .ok (.caload, 1)) (v : Value) (K : own_Goes p e below (T.setTop (mkF m (pc + 1) Ls (v :: S))) P) (hj : ¬ j < 0 := by decide) (hn : j < n := by decide) (hv : vs.getD j.toNatClampNeg dv = v := by rfl) : own_Goes p e below (T.setTop (mkF m pc Ls (.int j :: .ref a :: S))) P := by
  obtain ⟨cl, Ar, q, Sz, Ng, Hs, Gs⟩ := V
  have inb : ¬ (j < 0 ∨ cl.slots.size ≤ j.toNatClampNeg) := inb_of Sz ⟨hj, hn⟩
  have at_ : cl.slots[j.toNatClampNeg]? = some v := Hs.at inb hv
  exact gg (fun t k => X.caload hx (j := j) (v := v) (by rw [eT]; exact Ar.1) (State.isArrayOf_alike hZ.alike Ar.2.1) Ar.2.2 inb at_ (g := mkF m pc Ls (.int j :: .ref a :: S)) rfl rfl (hb hby d) _ k) K
theorem q_iaload {bts : ByteArray} {pc : Nat} {Ls : Array Slot} {S : List Value} {P : Outcome → State → Prop} {Z : State} {h : Heap} {a : Addr} {k : ClassId} {n j : Int32} {vs : List Value} {dv : Value} (X : Stand p l e R s m args below meth c T locs cells slots) (hx : p.tables.exec = Jvm.exec) (hby : c.code = bts) (hZ : Z.Warmed39 s.vm) (eT : T.heap = h) (V : Arv Z h a k .int n vs dv) (d : decode bts pc = .ok (.iaload, 1)) (v : Value) (K : own_Goes p e below (T.setTop (mkF m (pc + 1) Ls (v :: S))) P) (hj : ¬ j < 0 := by decide) (hn : j < n := by decide) (hv : vs.getD j.toNatClampNeg dv = v := by rfl) : own_Goes p e below (T.setTop (mkF m pc Ls (.int j :: .ref a :: S))) P := by
  obtain ⟨cl, Ar, q, Sz, Ng, Hs, Gs⟩ := V
  have inb : ¬ (j < 0 ∨ cl.slots.size ≤ j.toNatClampNeg) := inb_of Sz ⟨hj, hn⟩
  have at_ : cl.slots[j.toNatClampNeg]? = some v := Hs.at inb hv
  exact gg (fun t k => X.iaload hx (j := j) (v := v) (by rw [eT]; exact Ar.1) (State.isArrayOf_alike hZ.alike Ar.2.1) Ar.2.2 inb at_ (g := mkF m pc Ls (.int j :: .ref a :: S)) rfl rfl (hb hby d) _ k) K
theorem q_saload {bts : ByteArray} {pc : Nat} {Ls : Array Slot} {S : List Value} {P : Outcome → State → Prop} {Z : State} {h : Heap} {a : Addr} {k : ClassId} {n j : Int32} {vs : List Value} {dv : Value} (X : Stand p l e R s m args below meth c T locs cells slots) (hx : p.tables.exec = Jvm.exec) (hby : c.code = bts) (hZ : Z.Warmed39 s.vm) (eT : T.heap = h) (V : Arv Z h a k .short n vs dv) (d : decode bts pc = .ok (.saload, 1)) (v : Value) (K : own_Goes p e below (T.setTop (mkF m (pc + 1) Ls (v :: S))) P) (hj : ¬ j < 0 := by decide) (hn : j < n := by decide) (hv : vs.getD j.toNatClampNeg dv = v := by rfl) : own_Goes p e below (T.setTop (mkF m pc Ls (.int j :: .ref a :: S))) P := by
  obtain ⟨cl, Ar, q, Sz, Ng, Hs, Gs⟩ := V
  have inb : ¬ (j < 0 ∨ cl.slots.size ≤ j.toNatClampNeg) := inb_of Sz ⟨hj, hn⟩
  have at_ : cl.slots[j.toNatClampNeg]? = some v := Hs.at inb hv
  exact gg (fun t k => X.saload hx (j := j) (v := v) (by rw [eT]; exact Ar.1) (State.isArrayOf_alike hZ.alike Ar.2.1) Ar.2.2 inb at_ (g := mkF m pc Ls (.int j :: .ref a :: S)) rfl rfl (hb hby d) _ k) K
theorem q_laload {bts : ByteArray} {pc : Nat} {Ls : Array Slot} {S : List Value} {P : Outcome → State → Prop} {Z : State} {h : Heap} {a : Addr} {k : ClassId} {n j : Int32} {vs : List Value} {dv : Value} (X : Stand p l e R s m args below meth c T locs cells slots) (hx : p.tables.exec = Jvm.exec) (hby : c.code = bts) (hZ : Z.Warmed39 s.vm) (eT : T.heap = h) (V : Arv Z h a k .long n vs dv) (d : decode bts pc = .ok (.laload, 1)) (v : Value) (K : own_Goes p e below (T.setTop (mkF m (pc + 1) Ls (v :: S))) P) (hj : ¬ j < 0 := by decide) (hn : j < n := by decide) (hv : vs.getD j.toNatClampNeg dv = v := by rfl) : own_Goes p e below (T.setTop (mkF m pc Ls (.int j :: .ref a :: S))) P := by
  obtain ⟨cl, Ar, q, Sz, Ng, Hs, Gs⟩ := V
  have inb : ¬ (j < 0 ∨ cl.slots.size ≤ j.toNatClampNeg) := inb_of Sz ⟨hj, hn⟩
  have at_ : cl.slots[j.toNatClampNeg]? = some v := Hs.at inb hv
  exact gg (fun t k => X.laload hx (j := j) (v := v) (by rw [eT]; exact Ar.1) (State.isArrayOf_alike hZ.alike Ar.2.1) Ar.2.2 inb at_ (g := mkF m pc Ls (.int j :: .ref a :: S)) rfl rfl (hb hby d) _ k) K
theorem q_baloadBytes {bts : ByteArray} {pc : Nat} {Ls : Array Slot} {S : List Value} {P : Outcome → State → Prop} {Z : State} {h : Heap} {a : Addr} {k : ClassId} {n j : Int32} {vs : List Value} {dv : Value} (X : Stand p l e R s m args below meth c T locs cells slots) (hx : p.tables.exec = Jvm.exec) (hby : c.code = bts) (hZ : Z.Warmed39 s.vm) (eT : T.heap = h) (V : Arv Z h a k .byte n vs dv) (d : decode bts pc = .ok (.baload, 1)) (v : Value) (K : own_Goes p e below (T.setTop (mkF m (pc + 1) Ls (v :: S))) P) (hj : ¬ j < 0 := by decide) (hn : j < n := by decide) (hv : vs.getD j.toNatClampNeg dv = v := by rfl) : own_Goes p e below (T.setTop (mkF m pc Ls (.int j :: .ref a :: S))) P := by
  obtain ⟨cl, Ar, q, Sz, Ng, Hs, Gs⟩ := V
  have inb : ¬ (j < 0 ∨ cl.slots.size ≤ j.toNatClampNeg) := inb_of Sz ⟨hj, hn⟩
  have at_ : cl.slots[j.toNatClampNeg]? = some v := Hs.at inb hv
  exact gg (fun t k => X.baloadBytes hx (j := j) (v := v) (by rw [eT]; exact Ar.1) (State.isArrayOf_alike hZ.alike Ar.2.1) Ar.2.2 inb at_ (g := mkF m pc Ls (.int j :: .ref a :: S)) rfl rfl (hb hby d) _ k) K
theorem q_aaload {bts : ByteArray} {pc : Nat} {Ls : Array Slot} {S : List Value} {P : Outcome → State → Prop} {Z : State} {h : Heap} {a : Addr} {k : ClassId} {n j : Int32} {vs : List Value} {dv : Value} {ty : FieldType} (X : Stand p l e R s m args below meth c T locs cells slots) (hx : p.tables.exec = Jvm.exec) (hby : c.code = bts) (hZ : Z.Warmed39 s.vm) (eT : T.heap = h) (V : Arv Z h a k ty n vs dv) (d : decode bts pc = .ok (.aaload, 1)) (v : Value) (K : own_Goes p e below (T.setTop (mkF m (pc + 1) Ls (v :: S))) P) (hty : ty.isReference = true := by rfl) (hj : ¬ j < 0 := by decide) (hn : j < n := by decide) (hv : vs.getD j.toNatClampNeg dv = v := by rfl) : own_Goes p e below (T.setTop (mkF m pc Ls (.int j :: .ref a :: S))) P := by
  obtain ⟨cl, Ar, q, Sz, Ng, Hs, Gs⟩ := V
  have inb : ¬ (j < 0 ∨ cl.slots.size ≤ j.toNatClampNeg) := inb_of Sz ⟨hj, hn⟩
  have at_ : cl.slots[j.toNatClampNeg]? = some v := Hs.at inb hv
  exact gg (fun t k => X.aaload hx (j := j) (v := v) (by rw [eT]; exact Ar.1) (State.isArrayOf_alike hZ.alike Ar.2.1) hty Ar.2.2 inb at_ (g := mkF m pc Ls (.int j :: .ref a :: S)) rfl rfl (hb hby d) _ k) K
theorem q_len {bts : ByteArray} {pc : Nat} {Ls : Array Slot} {S : List Value} {P : Outcome → State → Prop} {Z : State} {h : Heap} {a : Addr} {k : ClassId} {n : Int32} {vs : List Value} {dv : Value} {ty : FieldType} (X : Stand p l e R s m args below meth c T locs cells slots) (hx : p.tables.exec = Jvm.exec) (hby : c.code = bts) (hZ : Z.Warmed39 s.vm) (eT : T.heap = h) (V : Arv Z h a k ty n vs dv) (d : decode bts pc = .ok (.arraylength, 1)) (K : own_Goes p e below (T.setTop (mkF m (pc + 1) Ls (.int n :: S))) P) : own_Goes p e below (T.setTop (mkF m pc Ls (.ref a :: S))) P := by
  obtain ⟨cl, Ar, q, Sz, Ng, Hs, Gs⟩ := V
  refine gg (fun t k => X.arraylength hx (by rw [eT]; exact Ar.1) (State.isArrayOf_alike hZ.alike Ar.2.1) (g := mkF m pc Ls (.ref a :: S)) rfl rfl (hb hby d) _ k) ?_
  rw [len_of Sz Ng]
  exact K
theorem q_stB {bts : ByteArray} {pc : Nat} {Ls : Array Slot} {S : List Value} {P : Outcome → State → Prop} {Z : State} {h : Heap} {a : Addr} {k : ClassId} {n j x : Int32} {vs : List Value} {dv : Value} (X : Stand p l e R s m args below meth c T locs cells slots) (hx : p.tables.exec = Jvm.exec) (hby : c.code = bts) (hZ : Z.Warmed39 s.vm) (eT : T.heap = h) (V : Arv Z h a k .byte n vs dv) (i : Nat) (d : decode bts pc = .ok (.bastore, 1)) (K : ∀ T' h', Stand p l e R s m args below meth c T' (locs ++ [⟨a, j.toNatClampNeg⟩]) cells slots → T'.heap = h' → Wr h h' a j.toNatClampNeg (.int (nar .byte x)) → Arv Z h' a k .byte n (vs.set i (.int (nar .byte x))) dv → own_Goes p e below (T'.setTop (mkF m (pc + 1) Ls S)) P) (hj : ¬ j < 0 := by decide) (hn : j < n := by decide) (hi : j.toNatClampNeg = i := by rfl) (hl : i < vs.length := by exact Nat.le_of_ble_eq_true rfl) : own_Goes p e below (T.setTop (mkF m pc Ls (.int x :: .int j :: .ref a :: S))) P := by
  obtain ⟨cl, Ar, q, Sz, Ng, Hs, Gs⟩ := V
  have inb : ¬ (j < 0 ∨ cl.slots.size ≤ j.toNatClampNeg) := inb_of Sz ⟨hj, hn⟩
  obtain ⟨T', h', X', e', W', st⟩ := stB X hx hZ eT Ar (j := j) inb (g := mkF m pc Ls (.int x :: .int j :: .ref a :: S)) rfl rfl (hb hby d)
  exact gg st (K T' h' X' e' W' (Arv.set Ar q Sz Ng Hs Gs (fits_nar_byte _) W' i hi hl))
theorem q_stC {bts : ByteArray} {pc : Nat} {Ls : Array Slot} {S : List Value} {P : Outcome → State → Prop} {Z : State} {h : Heap} {a : Addr} {k : ClassId} {n j x : Int32} {vs : List Value} {dv : Value} (X : Stand p l e R s m args below meth c T locs cells slots) (hx : p.tables.exec = Jvm.exec) (hby : c.code = bts) (hZ : Z.Warmed39 s.vm) (eT : T.heap = h) (V : Arv Z h a k .char n vs dv) (i : Nat) (d : decode bts pc = .ok (.castore, 1)) (K : ∀ T' h', Stand p l e R s m args below meth c T' (locs ++ [⟨a, j.toNatClampNeg⟩]) cells slots → T'.heap = h' → Wr h h' a j.toNatClampNeg (.int (nar .char x)) → Arv Z h' a k .char n (vs.set i (.int (nar .char x))) dv → own_Goes p e below (T'.setTop (mkF m (pc + 1) Ls S)) P) (hj : ¬ j < 0 := by decide) (hn : j < n := by decide) (hi : j.toNatClampNeg = i := by rfl) (hl : i < vs.length := by exact Nat.le_of_ble_eq_true rfl) : own_Goes p e below (T.setTop (mkF m pc Ls (.int x :: .int j :: .ref a :: S))) P := by
  obtain ⟨cl, Ar, q, Sz, Ng, Hs, Gs⟩ := V
  have inb : ¬ (j < 0 ∨ cl.slots.size ≤ j.toNatClampNeg) := inb_of Sz ⟨hj, hn⟩
  obtain ⟨T', h', X', e', W', st⟩ := stC X hx hZ eT Ar (j := j) inb (g := mkF m pc Ls (.int x :: .int j :: .ref a :: S)) rfl rfl (hb hby d)
  exact gg st (K T' h' X' e' W' (Arv.set Ar q Sz Ng Hs Gs (fits_nar_char _) W' i hi hl))
theorem q_stI {bts : ByteArray} {pc : Nat} {Ls : Array Slot} {S : List Value} {P : Outcome → State → Prop} {Z : State} {h : Heap} {a : Addr} {k : ClassId} {n j x : Int32} {vs : List Value} {dv : Value} (X : Stand p l e R s m args below meth c T locs cells slots) (hx : p.tables.exec = Jvm.exec) (hby : c.code = bts) (hZ : Z.Warmed39 s.vm) (eT : T.heap = h) (V : Arv Z h a k .int n vs dv) (i : Nat) (d : decode bts pc = .ok (.iastore, 1)) (K : ∀ T' h', Stand p l e R s m args below meth c T' (locs ++ [⟨a, j.toNatClampNeg⟩]) cells slots → T'.heap = h' → Wr h h' a j.toNatClampNeg (.int (x)) → Arv Z h' a k .int n (vs.set i (.int (x))) dv → own_Goes p e below (T'.setTop (mkF m (pc + 1) Ls S)) P) (hj : ¬ j < 0 := by decide) (hn : j < n := by decide) (hi : j.toNatClampNeg = i := by rfl) (hl : i < vs.length := by exact Nat.le_of_ble_eq_true rfl) : own_Goes p e below (T.setTop (mkF m pc Ls (.int x :: .int j :: .ref a :: S))) P := by
  obtain ⟨cl, Ar, q, Sz, Ng, Hs, Gs⟩ := V
  have inb : ¬ (j < 0 ∨ cl.slots.size ≤ j.toNatClampNeg) := inb_of Sz ⟨hj, hn⟩
  obtain ⟨T', h', X', e', W', st⟩ := stI X hx hZ eT Ar (j := j) inb (g := mkF m pc Ls (.int x :: .int j :: .ref a :: S)) rfl rfl (hb hby d)
  exact gg st (K T' h' X' e' W' (Arv.set Ar q Sz Ng Hs Gs rfl W' i hi hl))
theorem r_I {bts : ByteArray} {pc : Nat} {Ls : Array Slot} {S : List Value} {h : Heap} {Qc : Option Value → Heap → List Loc → Prop} {k n : Nat} {z : Int32} (X : Stand p l e R s m args below meth c T locs cells slots) (hx : p.tables.exec = Jvm.exec) (hby : c.code = bts) (hret : meth.sig.returnType = some .int) (hlk : meth.locks = false) (d : decode bts pc = .ok (.ireturn, 1)) (eT : T.heap = h) (hQ : Qc (some (.int z)) h locs) (hn : narrow .int (.int z) = .int z := by rfl) (hk : cells ≤ k := by decide) (hs : slots ≤ n := by decide) : own_Goes p e below (T.setTop (mkF m pc Ls (.int z :: S))) (own_PostN s Qc k n) := by
  subst eT
  exact own_endN X (v := some (.int z)) (fun h => by rw [hret] at h; cases h) hlk hk hs hQ (fun fs hr => retOut X hx hret hn (Or.inl ⟨rfl, Or.inl rfl, _, rfl⟩) (hb hby d) hr)
theorem r_Z {bts : ByteArray} {pc : Nat} {Ls : Array Slot} {S : List Value} {h : Heap} {Qc : Option Value → Heap → List Loc → Prop} {k n : Nat} {z : Int32} (X : Stand p l e R s m args below meth c T locs cells slots) (hx : p.tables.exec = Jvm.exec) (hby : c.code = bts) (hret : meth.sig.returnType = some .boolean) (hlk : meth.locks = false) (d : decode bts pc = .ok (.ireturn, 1)) (eT : T.heap = h) (hQ : Qc (some (.int z)) h locs) (hn : narrow .boolean (.int z) = .int z := by rfl) (hk : cells ≤ k := by decide) (hs : slots ≤ n := by decide) : own_Goes p e below (T.setTop (mkF m pc Ls (.int z :: S))) (own_PostN s Qc k n) := by
  subst eT
  exact own_endN X (v := some (.int z)) (fun h => by rw [hret] at h; cases h) hlk hk hs hQ (fun fs hr => retOut X hx hret hn (Or.inl ⟨rfl, Or.inr (Or.inl rfl), _, rfl⟩) (hb hby d) hr)
theorem r_B {bts : ByteArray} {pc : Nat} {Ls : Array Slot} {S : List Value} {h : Heap} {Qc : Option Value → Heap → List Loc → Prop} {k n : Nat} {z : Int32} (X : Stand p l e R s m args below meth c T locs cells slots) (hx : p.tables.exec = Jvm.exec) (hby : c.code = bts) (hret : meth.sig.returnType = some .byte) (hlk : meth.locks = false) (d : decode bts pc = .ok (.ireturn, 1)) (eT : T.heap = h) (hQ : Qc (some (.int z)) h locs) (hn : narrow .byte (.int z) = .int z := by rfl) (hk : cells ≤ k := by decide) (hs : slots ≤ n := by decide) : own_Goes p e below (T.setTop (mkF m pc Ls (.int z :: S))) (own_PostN s Qc k n) := by
  subst eT
  exact own_endN X (v := some (.int z)) (fun h => by rw [hret] at h; cases h) hlk hk hs hQ (fun fs hr => retOut X hx hret hn (Or.inl ⟨rfl, Or.inr (Or.inr (Or.inl rfl)), _, rfl⟩) (hb hby d) hr)
theorem r_C {bts : ByteArray} {pc : Nat} {Ls : Array Slot} {S : List Value} {h : Heap} {Qc : Option Value → Heap → List Loc → Prop} {k n : Nat} {z : Int32} (X : Stand p l e R s m args below meth c T locs cells slots) (hx : p.tables.exec = Jvm.exec) (hby : c.code = bts) (hret : meth.sig.returnType = some .char) (hlk : meth.locks = false) (d : decode bts pc = .ok (.ireturn, 1)) (eT : T.heap = h) (hQ : Qc (some (.int z)) h locs) (hn : narrow .char (.int z) = .int z := by rfl) (hk : cells ≤ k := by decide) (hs : slots ≤ n := by decide) : own_Goes p e below (T.setTop (mkF m pc Ls (.int z :: S))) (own_PostN s Qc k n) := by
  subst eT
  exact own_endN X (v := some (.int z)) (fun h => by rw [hret] at h; cases h) hlk hk hs hQ (fun fs hr => retOut X hx hret hn (Or.inl ⟨rfl, Or.inr (Or.inr (Or.inr (Or.inl rfl))), _, rfl⟩) (hb hby d) hr)
theorem r_S {bts : ByteArray} {pc : Nat} {Ls : Array Slot} {S : List Value} {h : Heap} {Qc : Option Value → Heap → List Loc → Prop} {k n : Nat} {z : Int32} (X : Stand p l e R s m args below meth c T locs cells slots) (hx : p.tables.exec = Jvm.exec) (hby : c.code = bts) (hret : meth.sig.returnType = some .short) (hlk : meth.locks = false) (d : decode bts pc = .ok (.ireturn, 1)) (eT : T.heap = h) (hQ : Qc (some (.int z)) h locs) (hn : narrow .short (.int z) = .int z := by rfl) (hk : cells ≤ k := by decide) (hs : slots ≤ n := by decide) : own_Goes p e below (T.setTop (mkF m pc Ls (.int z :: S))) (own_PostN s Qc k n) := by
  subst eT
  exact own_endN X (v := some (.int z)) (fun h => by rw [hret] at h; cases h) hlk hk hs hQ (fun fs hr => retOut X hx hret hn (Or.inl ⟨rfl, Or.inr (Or.inr (Or.inr (Or.inr (rfl)))), _, rfl⟩) (hb hby d) hr)
theorem r_R {bts : ByteArray} {pc : Nat} {Ls : Array Slot} {S : List Value} {h : Heap} {Qc : Option Value → Heap → List Loc → Prop} {k n : Nat} {w : Value} {t : FieldType} (X : Stand p l e R s m args below meth c T locs cells slots) (hx : p.tables.exec = Jvm.exec) (hby : c.code = bts) (hret : meth.sig.returnType = some t) (hlk : meth.locks = false) (d : decode bts pc = .ok (.areturn, 1)) (eT : T.heap = h) (hQ : Qc (some w) h locs) (hn : narrow t w = w := by rfl) (ht : t.isReference = true := by rfl) (hw : w.isRef = true := by rfl) (hk : cells ≤ k := by decide) (hs : slots ≤ n := by decide) : own_Goes p e below (T.setTop (mkF m pc Ls (w :: S))) (own_PostN s Qc k n) := by
  subst eT
  exact own_endN X (v := some w) (fun h => by rw [hret] at h; cases h) hlk hk hs hQ (fun fs hr => retOut X hx hret hn (Or.inr (Or.inr (Or.inr (Or.inr ⟨rfl, ht, hw⟩)))) (hb hby d) hr)
theorem r_V {bts : ByteArray} {pc : Nat} {Ls : Array Slot} {h : Heap} {Qc : Option Value → Heap → List Loc → Prop} {k n : Nat} (X : Stand p l e R s m args below meth c T locs cells slots) (hx : p.tables.exec = Jvm.exec) (hby : c.code = bts) (hret : meth.sig.returnType = none) (hlk : meth.locks = false) (d : decode bts pc = .ok (.return_, 1)) (eT : T.heap = h) (hQ : Qc none h locs) (hk : cells ≤ k := by decide) (hs : slots ≤ n := by decide) : own_Goes p e below (T.setTop (mkF m pc Ls [])) (own_PostN s Qc k n) := by
  subst eT
  exact own_endN X (v := none) (fun _ => rfl) hlk hk hs hQ (fun fs hr => X.returnOut hx hret (hb hby d) hr)
end OwnKit2
def GG (Z : State) (gz : Int32) (gfm : Value) : Prop := Sta Z Z.heap "java/lang/String" "COMPACT_STRINGS" "Z" (.int gz) ∧ ¬ gz = (0 : Int32) ∧ Sta Z Z.heap "java/lang/StringUTF16" "$assertionsDisabled" "Z" (.int 1) ∧ Sta Z Z.heap "java/lang/StringUTF16" "HI_BYTE_SHIFT" "I" (.int 0) ∧ Sta Z Z.heap "java/lang/StringUTF16" "LO_BYTE_SHIFT" "I" (.int 8) ∧ Sta Z Z.heap "jdk/internal/util/Preconditions" "SIOOBE_FORMATTER" "Ljava/util/function/BiFunction;" gfm ∧ gfm.isRef = true
theorem own_strs {Z : State} {a0 : Array Value} (hw : ∀ d ∈ tables_1, d.before a0 Z = true) : ∀ a ∈ Bundle.stringAtoms, a.before a0 Z = true := by
  intro a ha
  simp only [Bundle.stringAtoms, List.mem_cons, List.not_mem_nil, or_false] at ha
  rcases ha with rfl | rfl | rfl | rfl | rfl | rfl | rfl
  · exact (wh hw 13 rfl)
  · exact (wh hw 12 rfl)
  · exact (wh hw 25 rfl)
  · exact (wh hw 26 rfl)
  · exact (wh hw 27 rfl)
  · exact (wh hw 28 rfl)
  · exact (wh hw 29 rfl)
theorem own_EW {Z : State} {a0 : Array Value} (hw : ∀ d ∈ tables_1, d.before a0 Z = true) : EW Z a0 consts_1 := (EW.cons (wh hw 24 rfl) (by decide) EW.nil)
theorem own_len {s : State} {args : Array Value} {t : Term} {w : Addr} {cl : Cell} {ty : FieldType} {n : Int32} (ev : t.eval args s none [] s = some (.ref w)) (A : Arr s s.heap w cl ty) (l : (Term.length t).eval args s none [] s = some (.int n)) : cl.slots.size.toInt32 = n ∧ cl.slots.size < 2 ^ 31 := by
  have ha : s.arrayAt? w = some cl := A.fin (Vm.Alike.refl _)
  by_cases hl : cl.slots.size < 2 ^ 31
  · exact ⟨Value.int.inj (Option.some.inj ((len_f ev ha hl).symm.trans l)), hl⟩
  · simp [Term.eval, ev, ha, hl] at l
theorem own_sub {s : State} {args : Array Value} {t : Term} {idx : List Nat} {j n : Int32} (e : t.eval args s none idx s = some (.int j)) : (Term.sub t (.int n)).eval args s none idx s = some (.int (j - n)) := by
  simp [Term.eval, e]
theorem own_fldNull {s : State} {args : Array Value} {t : Term} {C n d : String} {w : Addr} (ev : t.eval args s none [] s = some (.ref w)) (h : (Cond.eq (Term.field t C n d) .null).value args s none s [] = some true) : Fld s s.heap w C n d .null := Fld.start ((fld_at ev).symm.trans (null_v h))

def own_wide : List Int32 → List Value
  | [] => []
  | c :: cs => .int c.toInt8.toInt32 :: .int (c >>> ((8 : Int32) &&& 31)).toInt8.toInt32 :: own_wide cs
def own_CodA (cs : List Int32) (cd N2 : Int32) (vs : List Value) : Prop := (cd = 0 ∧ N2 = Int32.ofNat cs.length ∧ vs = (cs.map fun c => Value.int c.toInt8.toInt32) ∧ ∀ c ∈ cs, ¬ 255 < c) ∨ (cd = 1 ∧ N2 = Int32.ofNat (2 * cs.length) ∧ vs = own_wide cs ∧ ∃ c ∈ cs, 255 < c)

def own_Cod (Z : State) (h : Heap) (t : Addr) (cs : List Int32) : Prop := ∃ (kb : ClassId) (cd N2 : Int32) (vs : List Value), Arv Z h t kb .byte N2 vs (.int 0) ∧ own_CodA cs cd N2 vs
def own_Str (Z : State) (h : Heap) (x t : Addr) (cs : List Int32) : Prop := Exa Z h x "java/lang/String" ∧ Fld Z h x "java/lang/String" "value" "[B" (.ref t) ∧ ∃ (kb : ClassId) (cd N2 : Int32) (vs : List Value), Fld Z h x "java/lang/String" "coder" "B" (.int cd) ∧ Arv Z h t kb .byte N2 vs (.int 0) ∧ own_CodA cs cd N2 vs ∧ (∀ c ∈ cs, ¬ c < 0 ∧ ¬ (65535 : Int32) < c) ∧ cs.length ≤ 4000
theorem own_Str.lt2 {Z : State} {h : Heap} {x t : Addr} {cs : List Int32} (S : own_Str Z h x t cs) : t < h.size := by
  obtain ⟨-, -, _, _, _, _, -, A, -⟩ := S
  exact A.lt
theorem own_Str.ext {Z : State} {h h' : Heap} {x t : Addr} {cs : List Int32} (S : own_Str Z h x t cs) (E : Ext h h') : own_Str Z h' x t cs := by
  obtain ⟨a, b, kb, cd, N2, vs, c, d, r⟩ := S
  exact ⟨a.ext E, b.ext E, kb, cd, N2, vs, c.ext E, d.ext E, r⟩
theorem own_Str.other {Z : State} {h h' : Heap} {x t a : Addr} {sl : Nat} {v : Value} {cs : List Int32} (S : own_Str Z h x t cs) (W : Wr h h' a sl v) (n1 : x ≠ a) (n2 : t ≠ a) : own_Str Z h' x t cs := by
  obtain ⟨a1, b, kb, cd, N2, vs, c, d, r⟩ := S
  exact ⟨a1.wr W, b.other W (Or.inl n1), kb, cd, N2, vs, c.other W (Or.inl n1), d.other W n2, r⟩
theorem own_Str.keep {Z : State} {h h' : Heap} {x t : Addr} {ws : List Addr} {cs : List Int32} (S : own_Str Z h x t cs) (K : Keep h h' ws) (n1 : x ∉ ws) (n2 : t ∉ ws) : own_Str Z h' x t cs := by
  obtain ⟨a1, b, kb, cd, N2, vs, c, d, r⟩ := S
  exact ⟨a1.keep K, b.keep K n1, kb, cd, N2, vs, c.keep K n1, d.keep K n2, r⟩
def own_C16 (c : Int32) : Prop := ¬ c < 0 ∧ ¬ (65535 : Int32) < c
theorem own_e0 : (0 : Int32).toInt = 0 := by decide
theorem own_e255 : (255 : Int32).toInt = 255 := by decide
theorem own_e65 : (65535 : Int32).toInt = 65535 := by decide
theorem own_eqJ {a b : Int32} (h : a.toInt = b.toInt) : a = b := Int32.toInt_inj.mp h
theorem own_C16b {c : Int32} (h : own_C16 c) : 0 ≤ c.toInt ∧ c.toInt ≤ 65535 := by
  obtain ⟨h1, h2⟩ := h
  rw [Int32.lt_iff_toInt_lt] at h1 h2
  have := own_e0; have := own_e65; omega
theorem own_C16i (x : Int32) : own_C16 (x.toUInt32.toUInt16.toUInt32.toInt32) := by
  have q := c_i2c x
  have := own_e0; have := own_e65
  exact ⟨by rw [Int32.lt_iff_toInt_lt]; omega, by rw [Int32.lt_iff_toInt_lt]; omega⟩
theorem own_nar16 {x : Int32} (h : own_C16 x) : nar .char x = x := by
  have q := c_i2c x
  have b := own_C16b h
  have r : x.toUInt32.toUInt16.toUInt32.toInt32.toInt = x.toInt := by omega
  exact own_eqJ r
theorem own_narr16 {x : Int32} (h : own_C16 x) : narrow .char (.int x) = .int x := congrArg Value.int (own_nar16 h)
theorem own_sh0 (x : Int32) : (x >>> ((0 : Int32) &&& 31)) = x := by
  have q := c_ishr x 0 0 (by decide)
  apply own_eqJ
  omega
theorem own_i8i8 (x : Int32) : x.toInt8.toInt32.toInt8.toInt32 = x.toInt8.toInt32 := by
  have q := c_i2b x
  have r := c_i2b x.toInt8.toInt32
  apply own_eqJ
  omega
theorem own_b8 {c : Int32} (h : own_C16 c) (h2 : ¬ (255 : Int32) < c) : ((c.toInt8.toInt32) &&& (255 : Int32)) = c := by
  have b := own_C16b h
  rw [Int32.lt_iff_toInt_lt] at h2
  have q := c_i2b c
  have r := c_mask (c.toInt8.toInt32) 255 8 (by decide) (by decide)
  have := own_e255
  apply own_eqJ
  omega
theorem own_g16 {c : Int32} (h : own_C16 c) : (((((c.toInt8.toInt32) &&& (255 : Int32)) <<< ((0 : Int32) &&& 31)) ||| ((((c >>> ((8 : Int32) &&& 31)).toInt8.toInt32) &&& (255 : Int32)) <<< ((8 : Int32) &&& 31))).toUInt32.toUInt16.toUInt32.toInt32) = c := by
  have b := own_C16b h
  have q1 := c_i2b c
  have q2 := c_mask (c.toInt8.toInt32) 255 8 (by decide) (by decide)
  have q3 := c_ishr c 8 8 (by decide)
  have q4 := c_i2b (c >>> ((8 : Int32) &&& 31))
  have q5 := c_mask ((c >>> ((8 : Int32) &&& 31)).toInt8.toInt32) 255 8 (by decide) (by decide)
  have q6 := c_ishl ((c.toInt8.toInt32) &&& (255 : Int32)) 0 0 (by decide)
  have q7 := c_ishl (((c >>> ((8 : Int32) &&& 31)).toInt8.toInt32) &&& (255 : Int32)) 8 8 (by decide)
  have r6 := rng32 (((c.toInt8.toInt32) &&& (255 : Int32)) <<< ((0 : Int32) &&& 31))
  have r7 := rng32 ((((c >>> ((8 : Int32) &&& 31)).toInt8.toInt32) &&& (255 : Int32)) <<< ((8 : Int32) &&& 31))
  have q8 := c_or' (((c.toInt8.toInt32) &&& (255 : Int32)) <<< ((0 : Int32) &&& 31)) ((((c >>> ((8 : Int32) &&& 31)).toInt8.toInt32) &&& (255 : Int32)) <<< ((8 : Int32) &&& 31)) 8 (by decide) 256 (by decide) (by omega) (by omega) (by omega)
  have q9 := c_i2c ((((c.toInt8.toInt32) &&& (255 : Int32)) <<< ((0 : Int32) &&& 31)) ||| ((((c >>> ((8 : Int32) &&& 31)).toInt8.toInt32) &&& (255 : Int32)) <<< ((8 : Int32) &&& 31)))
  apply own_eqJ
  omega
theorem own_al0 {P : Int32 → Prop} : ∀ c ∈ ([] : List Int32), P c := fun _ h => nomatch h
theorem own_alS {P : Int32 → Prop} {x : Int32} {xs : List Int32} (h : P x) (t : ∀ c ∈ xs, P c) : ∀ c ∈ x :: xs, P c := List.forall_mem_cons.mpr ⟨h, t⟩

theorem d27_0 : decode B27 0 = .ok (.iload_n 0, 1) := by decide +kernel
theorem d27_1 : decode B27 1 = .ok (.ifCond .ge 11, 3) := by decide +kernel
theorem d27_12 : decode B27 12 = .ok (.iload_n 0, 1) := by decide +kernel
theorem d27_13 : decode B27 13 = .ok (.ldc 20, 2) := by decide +kernel
theorem d27_15 : decode B27 15 = .ok (.if_icmp .lt 40, 3) := by decide +kernel
theorem d27_55 : decode B27 55 = .ok (.iload_n 0, 1) := by decide +kernel
theorem d27_56 : decode B27 56 = .ok (.iconst 1, 1) := by decide +kernel
theorem d27_57 : decode B27 57 = .ok (.ishl, 1) := by decide +kernel
theorem d27_58 : decode B27 58 = .ok (.ireturn, 1) := by decide +kernel
theorem own_pn_java_lang_StringUTF16 : plainName "java/lang/StringUTF16" = true := by first | (simp [plainName, overriddenIn]; done) | decide +kernel
theorem own_ef_own_nbl1 (m : MethodId) : entryFrame m #[.int 1] 1 = mkF m 0 #[vI 1] [] := by first | (simp [entryFrame, mkF, argsToLocals, Value.category]; done) | rfl
def Q_own_nbl1 (Z : State) (h0 : Heap) (n0 : Nat) (v : Option Value) (h : Heap) (L : List Loc) : Prop := Fr n0 L ∧ h = h0 ∧ v = some (.int 2)
theorem own_nbl1 (l : Launch) (Z : State) (a0 : Array Value) (hw : ∀ d ∈ tables_1, d.before a0 Z = true) (ws : List Jvm.Cond) (h0 : Heap) (n0 : Nat) (O0 : Old Z n0 h0) : own_Met l Z (⟨"java/lang/StringUTF16", "newBytesLength", "(I)I"⟩ : MethodName) jdk_52_method_3_code 1 (some .int) ws ({ frames := 0, cells := 0, slots := 0, locals := 0 } : Room) #[.int 1] h0 (Q_own_nbl1 Z h0 n0) := by
  refine own_mk (plainFor_of_name own_pn_java_lang_StringUTF16) O0 ?_
  intro p e s m below meth c s₁ hx hby hml hZ hown hnm hlk hret X0 e0 N0 z0 z1
  refine own_cast (own_ef_own_nbl1 m) ?_
  show own_Goes p e below (s₁.setTop (mkF m 0 #[vI 1] [])) _
  refine q_iloadN X0 hx hby d27_0 rfl ?_
  refine q_ifYes (pc := 1) X0 hx hby d27_1 (pc' := 12) ((if0 _ _).trans (flt (show ¬ ((1 : Int32) < (0 : Int32)) from by decide)).2.1) (by decide) (by decide) ?_
  refine q_iloadN X0 hx hby d27_12 rfl ?_
  refine gg (fun t k => Jvm.Stand.ldcI X0 hx hown (mv hZ (wh hw 120 rfl)) rfl (hb hby d27_13) k) ?_
  refine q_icmpYes (pc := 15) X0 hx hby d27_15 (pc' := 55) (tlt (show ((1 : Int32) < (1073741823 : Int32)) from by decide)).1 (by decide) (by decide) ?_
  refine q_iloadN X0 hx hby d27_55 rfl ?_
  refine q_iconst X0 hx hby d27_56 ?_
  refine gg (fun t k => XS.ishl X0.here hx rfl (hb hby d27_57) rfl k) ?_
  show own_Goes p e below (s₁.setTop (mkF m 58 #[vI 1] [(.int ((1 : Int32) <<< ((1 : Int32) &&& 31)))])) _
  rw [show ((1 : Int32) <<< ((1 : Int32) &&& 31)) = (2 : Int32) from by decide]
  refine r_I X0 hx hby hret hlk d27_58 e0 ?_
  exact ⟨N0, rfl, rfl⟩
theorem d26_0 : decode B26 0 = .ok (.iload_n 0, 1) := by decide +kernel
theorem d26_1 : decode B26 1 = .ok (.invokestatic 11, 3) := by decide +kernel
theorem own_pd_0 : parseMethodDescriptor "(I)I" = some ⟨[.int], some .int⟩ := by decide +kernel
theorem d26_4 : decode B26 4 = .ok (.newarray .byte, 2) := by decide +kernel
theorem d26_6 : decode B26 6 = .ok (.areturn, 1) := by decide +kernel
theorem own_ef_own_nbf1 (m : MethodId) : entryFrame m #[.int 1] 1 = mkF m 0 #[vI 1] [] := by first | (simp [entryFrame, mkF, argsToLocals, Value.category]; done) | rfl
def Q_own_nbf1 (Z : State) (h0 : Heap) (n0 : Nat) (v : Option Value) (h : Heap) (L : List Loc) : Prop := Fr n0 L ∧ Keep h0 h [] ∧ ∃ (r : Addr), ∃ (rk : ClassId), v = some (.ref r) ∧ Arv Z h r rk .byte (2 : Int32) [.int 0, .int 0] (.int 0) ∧ h0.size ≤ r
theorem own_nbf1 (l : Launch) (Z : State) (a0 : Array Value) (hw : ∀ d ∈ tables_1, d.before a0 Z = true) (ws : List Jvm.Cond) (h0 : Heap) (n0 : Nat) (O0 : Old Z n0 h0) : own_Met l Z (⟨"java/lang/StringUTF16", "newBytesFor", "(I)[B"⟩ : MethodName) jdk_52_method_2_code 1 (some (.array .byte)) ws ({ frames := 1, cells := 1, slots := 2, locals := 12 } : Room) #[.int 1] h0 (Q_own_nbf1 Z h0 n0) := by
  refine own_mk (plainFor_of_name own_pn_java_lang_StringUTF16) O0 ?_
  intro p e s m below meth c s₁ hx hby hml hZ hown hnm hlk hret X0 e0 N0 z0 z1
  have K0 : Keep h0 h0 [] := Keep.refl _ _
  refine own_cast (own_ef_own_nbf1 m) ?_
  show own_Goes p e below (s₁.setTop (mkF m 0 #[vI 1] [])) _
  refine q_iloadN X0 hx hby d26_0 rfl ?_
  refine k_S X0 hx hby hZ hown (wh hw 117 rfl) (wh hw 118 rfl) (W := 0) (own_nbl1 l Z a0 hw []  h0 n0 O0) (wh hw 119 rfl) (wh hw 75 rfl) e0  hml (argsL := [.int 1]) (rest := []) own_pd_0 d26_1 (fun _ T1 L1 X1 hQ1 => ?_)
  obtain ⟨Nc1, e1, rfl⟩ := hQ1
  have N1 := Fr.app N0 Nc1
  obtain ⟨T2, h2, k2, X2, e2, E2, A2, st2⟩ := newP X1 hx hZ (wh hw 25 rfl) e1 (g := (mkF m 4 #[vI 1] [.int 2])) rfl (hb hby d26_4) rfl (by decide) (cap := 2) (by decide) (by decide) (by decide) (by decide)
  obtain ⟨b2, g2⟩ : ∃ z, z = h0.size := ⟨_, rfl⟩
  rw [← g2] at A2 st2
  refine gg st2 ?_
  have O3 := O0.ext E2
  have sz4 : h0.size ≤ h2.size := E2.1
  have K5 := K0.ext E2
  have l2 : @LT.lt Nat _ b2 h2.size := A2.lt
  have V2 : Arv Z h2 b2 k2 .byte (2 : Int32) [.int 0, .int 0] (.int 0) := (Arv.new A2 (by decide)).pad (pad_rep [] (.int 0) 2)
  refine r_R X2 hx hby hret hlk d26_6 e2 ?_
  exact ⟨N1, K5, b2, k2, rfl, V2, (show h0.size ≤ b2 by first | assumption | omega | decide)⟩
theorem d28_0 : decode B28 0 = .ok (.getstatic 44, 3) := by decide +kernel
theorem d28_3 : decode B28 3 = .ok (.ifCond .ne 25, 3) := by decide +kernel
theorem d28_28 : decode B28 28 = .ok (.iload_n 1, 1) := by decide +kernel
theorem d28_29 : decode B28 29 = .ok (.iconst 1, 1) := by decide +kernel
theorem d28_30 : decode B28 30 = .ok (.ishl, 1) := by decide +kernel
theorem d28_31 : decode B28 31 = .ok (.istore_n 1, 1) := by decide +kernel
theorem d28_32 : decode B28 32 = .ok (.aload_n 0, 1) := by decide +kernel
theorem d28_33 : decode B28 33 = .ok (.iload_n 1, 1) := by decide +kernel
theorem d28_34 : decode B28 34 = .ok (.iinc 1 1, 3) := by decide +kernel
theorem d28_37 : decode B28 37 = .ok (.iload_n 2, 1) := by decide +kernel
theorem d28_38 : decode B28 38 = .ok (.getstatic 59, 3) := by decide +kernel
theorem d28_41 : decode B28 41 = .ok (.ishr, 1) := by decide +kernel
theorem d28_42 : decode B28 42 = .ok (.i2b, 1) := by decide +kernel
theorem d28_43 : decode B28 43 = .ok (.bastore, 1) := by decide +kernel
theorem d28_44 : decode B28 44 = .ok (.aload_n 0, 1) := by decide +kernel
theorem d28_45 : decode B28 45 = .ok (.iload_n 1, 1) := by decide +kernel
theorem d28_46 : decode B28 46 = .ok (.iload_n 2, 1) := by decide +kernel
theorem d28_47 : decode B28 47 = .ok (.getstatic 63, 3) := by decide +kernel
theorem d28_50 : decode B28 50 = .ok (.ishr, 1) := by decide +kernel
theorem d28_51 : decode B28 51 = .ok (.i2b, 1) := by decide +kernel
theorem d28_52 : decode B28 52 = .ok (.bastore, 1) := by decide +kernel
theorem d28_53 : decode B28 53 = .ok (.return_, 1) := by decide +kernel
theorem own_ef_own_pc1_0 (m : MethodId) (xb : Addr) (xi : Int32) : entryFrame m #[.ref xb, .int 0, .int xi] 3 = mkF m 0 #[vR xb, vI 0, vI xi] [] := by first | (simp [entryFrame, mkF, argsToLocals, Value.category]; done) | rfl
def Q_own_pc1_0 (Z : State) (xb : Addr) (xq : ClassId) (xi : Int32) (y0 : Int32) (y1 : Int32) (gz : Int32) (gfm : Value) (h0 : Heap) (n0 : Nat) (v : Option Value) (h : Heap) (L : List Loc) : Prop := Fr n0 L ∧ Keep h0 h [xb] ∧ v = none ∧ Arv Z h xb xq .byte (2 : Int32) [(.int (xi.toInt8.toInt32)), (.int ((xi >>> ((8 : Int32) &&& 31)).toInt8.toInt32))] (.int 0)
theorem own_pc1_0 (l : Launch) (Z : State) (a0 : Array Value) (hw : ∀ d ∈ tables_1, d.before a0 Z = true) (ws : List Jvm.Cond) (xb : Addr) (xq : ClassId) (xi : Int32) (y0 : Int32) (y1 : Int32) (h0 : Heap) (n0 : Nat) (O0 : Old Z n0 h0) (gz : Int32) (gfm : Value) (G : GG Z gz gfm) (P0 : Arv Z h0 xb xq .byte (2 : Int32) [.int y0, .int y1] (.int 0)) (P1 : n0 ≤ xb) : own_Met l Z (⟨"java/lang/StringUTF16", "putChar", "([BII)V"⟩ : MethodName) jdk_52_method_4_code 3 none ws ({ frames := 0, cells := 0, slots := 0, locals := 0 } : Room) #[.ref xb, .int 0, .int xi] h0 (Q_own_pc1_0 Z xb xq xi y0 y1 gz gfm h0 n0) := by
  refine own_mk (plainFor_of_name own_pn_java_lang_StringUTF16) O0 ?_
  intro p e s m below meth c s₁ hx hby hml hZ hown hnm hlk hret X0 e0 N0 z0 z1
  have K0 : Keep h0 h0 [xb] := Keep.refl _ _
  refine own_cast (own_ef_own_pc1_0 m xb xi) ?_
  show own_Goes p e below (s₁.setTop (mkF m 0 #[vR xb, vI 0, vI xi] [])) _
  obtain ⟨G0, G1, G2, G3, G4, G5, G6⟩ := id G
  have ltP0 : @LT.lt Nat _ xb h0.size := P0.lt
  have q1 := G2.ext O0.2
  refine qS X0 hx hby hZ hown (host := "") (Or.inl (wh hw 124 rfl)) Via.refl e0 q1 d28_0 (fun T2 X2 e2 => ?_)
  refine q_ifYes (pc := 3) X2 hx hby d28_3 (pc' := 28) ((if0 _ _).trans (feq (show ¬ ((1 : Int32) = (0 : Int32)) from by decide)).2) (by decide) (by decide) ?_
  refine q_iloadN X2 hx hby d28_28 rfl ?_
  refine q_iconst X2 hx hby d28_29 ?_
  refine gg (fun t k => XS.ishl X2.here hx rfl (hb hby d28_30) rfl k) ?_
  show own_Goes p e below (T2.setTop (mkF m 31 #[vR xb, vI 0, vI xi] [(.int ((0 : Int32) <<< ((1 : Int32) &&& 31)))])) _
  rw [show ((0 : Int32) <<< ((1 : Int32) &&& 31)) = (0 : Int32) from by decide]
  refine q_istoreN X2 hx hby d28_31 (l' := #[vR xb, vI 0, vI xi]) rfl ?_
  refine q_aloadN X2 hx hby d28_32 rfl rfl ?_
  refine q_iloadN X2 hx hby d28_33 rfl ?_
  refine gg (fun t k => XS.iinc X2.here hx rfl (hb hby d28_34) rfl (l' := #[vR xb, vI ((0 : Int32) + (1 : Int32)), vI xi]) rfl k) ?_
  show own_Goes p e below (T2.setTop (mkF m 37 #[vR xb, vI ((0 : Int32) + (1 : Int32)), vI xi] [.int 0, .ref xb])) _
  rw [show ((0 : Int32) + (1 : Int32)) = (1 : Int32) from by decide]
  refine q_iloadN X2 hx hby d28_37 rfl ?_
  have q3 := G3.ext O0.2
  refine qS X2 hx hby hZ hown (host := "") (Or.inl (wh hw 125 rfl)) Via.refl e2 q3 d28_38 (fun T4 X4 e4 => ?_)
  refine gg (fun t k => XS.ishr X4.here hx rfl (hb hby d28_41) rfl k) ?_
  show own_Goes p e below (T4.setTop (mkF m 42 #[vR xb, vI 1, vI xi] [(.int (xi >>> ((0 : Int32) &&& 31))), .int 0, .ref xb])) _
  rw [show (xi >>> ((0 : Int32) &&& 31)) = xi from own_sh0 xi]
  refine gg (fun t k => XS.i2b X4.here hx rfl (hb hby d28_42) rfl k) ?_
  refine q_stB X4 hx hby hZ e4 P0 0 d28_43 (fun T6 h6 X6 e6 W6 V6 => ?_)
  have O7 := O0.wr W6 (show n0 ≤ xb by omega)
  have sz8 : h6.size = h0.size := Wr.size W6
  have K9 := K0.wr W6 (Or.inl (List.mem_of_getElem? (i := 0) rfl))
  have N6 := Fr.snoc X6 N0 (show n0 ≤ xb by omega)
  have V6 : Arv Z h6 xb xq .byte (2 : Int32) [(.int ((xi.toInt8.toInt32).toInt8.toInt32)), .int y1] (.int 0) := V6
  rw [show ((xi.toInt8.toInt32).toInt8.toInt32) = (xi.toInt8.toInt32) from own_i8i8 _] at V6
  refine q_aloadN X6 hx hby d28_44 rfl rfl ?_
  refine q_iloadN X6 hx hby d28_45 rfl ?_
  refine q_iloadN X6 hx hby d28_46 rfl ?_
  have q10 := G4.ext O7.2
  refine qS X6 hx hby hZ hown (host := "") (Or.inl (wh hw 126 rfl)) Via.refl e6 q10 d28_47 (fun T11 X11 e11 => ?_)
  refine gg (fun t k => XS.ishr X11.here hx rfl (hb hby d28_50) rfl k) ?_
  refine gg (fun t k => XS.i2b X11.here hx rfl (hb hby d28_51) rfl k) ?_
  refine q_stB X11 hx hby hZ e11 V6 1 d28_52 (fun T13 h13 X13 e13 W13 V13 => ?_)
  have O14 := O7.wr W13 (show n0 ≤ xb by omega)
  have sz15 : h13.size = h6.size := Wr.size W13
  have K16 := K9.wr W13 (Or.inl (List.mem_of_getElem? (i := 0) rfl))
  have N13 := Fr.snoc X13 N6 (show n0 ≤ xb by omega)
  have V13 : Arv Z h13 xb xq .byte (2 : Int32) [(.int (xi.toInt8.toInt32)), (.int (((xi >>> ((8 : Int32) &&& 31)).toInt8.toInt32).toInt8.toInt32))] (.int 0) := V13
  rw [show (((xi >>> ((8 : Int32) &&& 31)).toInt8.toInt32).toInt8.toInt32) = ((xi >>> ((8 : Int32) &&& 31)).toInt8.toInt32) from own_i8i8 _] at V13
  refine r_V X13 hx hby hret hlk d28_53 e13 ?_
  exact ⟨N13, K16, rfl, V13⟩
theorem d29_0 : decode B29 0 = .ok (.getstatic 44, 3) := by decide +kernel
theorem d29_3 : decode B29 3 = .ok (.ifCond .ne 25, 3) := by decide +kernel
theorem d29_28 : decode B29 28 = .ok (.iload_n 1, 1) := by decide +kernel
theorem d29_29 : decode B29 29 = .ok (.iconst 1, 1) := by decide +kernel
theorem d29_30 : decode B29 30 = .ok (.ishl, 1) := by decide +kernel
theorem d29_31 : decode B29 31 = .ok (.istore_n 1, 1) := by decide +kernel
theorem d29_32 : decode B29 32 = .ok (.aload_n 0, 1) := by decide +kernel
theorem d29_33 : decode B29 33 = .ok (.iload_n 1, 1) := by decide +kernel
theorem d29_34 : decode B29 34 = .ok (.iinc 1 1, 3) := by decide +kernel
theorem d29_37 : decode B29 37 = .ok (.baload, 1) := by decide +kernel
theorem d29_38 : decode B29 38 = .ok (.sipush 255, 3) := by decide +kernel
theorem d29_41 : decode B29 41 = .ok (.iand, 1) := by decide +kernel
theorem d29_42 : decode B29 42 = .ok (.getstatic 59, 3) := by decide +kernel
theorem d29_45 : decode B29 45 = .ok (.ishl, 1) := by decide +kernel
theorem d29_46 : decode B29 46 = .ok (.aload_n 0, 1) := by decide +kernel
theorem d29_47 : decode B29 47 = .ok (.iload_n 1, 1) := by decide +kernel
theorem d29_48 : decode B29 48 = .ok (.baload, 1) := by decide +kernel
theorem d29_49 : decode B29 49 = .ok (.sipush 255, 3) := by decide +kernel
theorem d29_52 : decode B29 52 = .ok (.iand, 1) := by decide +kernel
theorem d29_53 : decode B29 53 = .ok (.getstatic 63, 3) := by decide +kernel
theorem d29_56 : decode B29 56 = .ok (.ishl, 1) := by decide +kernel
theorem d29_57 : decode B29 57 = .ok (.ior, 1) := by decide +kernel
theorem d29_58 : decode B29 58 = .ok (.i2c, 1) := by decide +kernel
theorem d29_59 : decode B29 59 = .ok (.ireturn, 1) := by decide +kernel
theorem own_ef_own_gc1_0 (m : MethodId) (xb : Addr) : entryFrame m #[.ref xb, .int 0] 2 = mkF m 0 #[vR xb, vI 0] [] := by first | (simp [entryFrame, mkF, argsToLocals, Value.category]; done) | rfl
def Q_own_gc1_0 (Z : State) (xb : Addr) (xq : ClassId) (y0 : Int32) (y1 : Int32) (gz : Int32) (gfm : Value) (h0 : Heap) (n0 : Nat) (v : Option Value) (h : Heap) (L : List Loc) : Prop := Fr n0 L ∧ h = h0 ∧ v = some (.int ((((y0 &&& (255 : Int32)) <<< ((0 : Int32) &&& 31)) ||| ((y1 &&& (255 : Int32)) <<< ((8 : Int32) &&& 31))).toUInt32.toUInt16.toUInt32.toInt32))
theorem own_gc1_0 (l : Launch) (Z : State) (a0 : Array Value) (hw : ∀ d ∈ tables_1, d.before a0 Z = true) (ws : List Jvm.Cond) (xb : Addr) (xq : ClassId) (y0 : Int32) (y1 : Int32) (h0 : Heap) (n0 : Nat) (O0 : Old Z n0 h0) (gz : Int32) (gfm : Value) (G : GG Z gz gfm) (P0 : Arv Z h0 xb xq .byte (2 : Int32) [.int y0, .int y1] (.int 0)) : own_Met l Z (⟨"java/lang/StringUTF16", "getChar", "([BI)C"⟩ : MethodName) jdk_52_method_5_code 2 (some .char) ws ({ frames := 0, cells := 0, slots := 0, locals := 0 } : Room) #[.ref xb, .int 0] h0 (Q_own_gc1_0 Z xb xq y0 y1 gz gfm h0 n0) := by
  refine own_mk (plainFor_of_name own_pn_java_lang_StringUTF16) O0 ?_
  intro p e s m below meth c s₁ hx hby hml hZ hown hnm hlk hret X0 e0 N0 z0 z1
  refine own_cast (own_ef_own_gc1_0 m xb) ?_
  show own_Goes p e below (s₁.setTop (mkF m 0 #[vR xb, vI 0] [])) _
  obtain ⟨G0, G1, G2, G3, G4, G5, G6⟩ := id G
  have ltP0 : @LT.lt Nat _ xb h0.size := P0.lt
  have q1 := G2.ext O0.2
  refine qS X0 hx hby hZ hown (host := "") (Or.inl (wh hw 124 rfl)) Via.refl e0 q1 d29_0 (fun T2 X2 e2 => ?_)
  refine q_ifYes (pc := 3) X2 hx hby d29_3 (pc' := 28) ((if0 _ _).trans (feq (show ¬ ((1 : Int32) = (0 : Int32)) from by decide)).2) (by decide) (by decide) ?_
  refine q_iloadN X2 hx hby d29_28 rfl ?_
  refine q_iconst X2 hx hby d29_29 ?_
  refine gg (fun t k => XS.ishl X2.here hx rfl (hb hby d29_30) rfl k) ?_
  show own_Goes p e below (T2.setTop (mkF m 31 #[vR xb, vI 0] [(.int ((0 : Int32) <<< ((1 : Int32) &&& 31)))])) _
  rw [show ((0 : Int32) <<< ((1 : Int32) &&& 31)) = (0 : Int32) from by decide]
  refine q_istoreN X2 hx hby d29_31 (l' := #[vR xb, vI 0]) rfl ?_
  refine q_aloadN X2 hx hby d29_32 rfl rfl ?_
  refine q_iloadN X2 hx hby d29_33 rfl ?_
  refine gg (fun t k => XS.iinc X2.here hx rfl (hb hby d29_34) rfl (l' := #[vR xb, vI ((0 : Int32) + (1 : Int32))]) rfl k) ?_
  show own_Goes p e below (T2.setTop (mkF m 37 #[vR xb, vI ((0 : Int32) + (1 : Int32))] [.int 0, .ref xb])) _
  rw [show ((0 : Int32) + (1 : Int32)) = (1 : Int32) from by decide]
  refine q_baloadBytes X2 hx hby hZ e2 P0 d29_37 (.int y0) ?_
  refine q_sipush X2 hx hby d29_38 ?_
  refine q_iand X2 hx hby d29_41 ?_
  have q4 := G3.ext O0.2
  refine qS X2 hx hby hZ hown (host := "") (Or.inl (wh hw 125 rfl)) Via.refl e2 q4 d29_42 (fun T5 X5 e5 => ?_)
  refine gg (fun t k => XS.ishl X5.here hx rfl (hb hby d29_45) rfl k) ?_
  refine q_aloadN X5 hx hby d29_46 rfl rfl ?_
  refine q_iloadN X5 hx hby d29_47 rfl ?_
  refine q_baloadBytes X5 hx hby hZ e5 P0 d29_48 (.int y1) ?_
  refine q_sipush X5 hx hby d29_49 ?_
  refine q_iand X5 hx hby d29_52 ?_
  have q7 := G4.ext O0.2
  refine qS X5 hx hby hZ hown (host := "") (Or.inl (wh hw 126 rfl)) Via.refl e5 q7 d29_53 (fun T8 X8 e8 => ?_)
  refine gg (fun t k => XS.ishl X8.here hx rfl (hb hby d29_56) rfl k) ?_
  refine gg (fun t k => XS.ior X8.here hx rfl (hb hby d29_57) rfl k) ?_
  refine gg (fun t k => XS.i2c X8.here hx rfl (hb hby d29_58) rfl k) ?_
  show own_Goes p e below (T8.setTop (mkF m 59 #[vR xb, vI 1] [(.int ((((y0 &&& (255 : Int32)) <<< ((0 : Int32) &&& 31)) ||| ((y1 &&& (255 : Int32)) <<< ((8 : Int32) &&& 31))).toUInt32.toUInt16.toUInt32.toInt32))])) _
  refine r_C X8 hx hby hret hlk d29_59 e8 ?_ (hn := (own_narr16 (own_C16i _)))
  exact ⟨N0, rfl, rfl⟩
theorem d25_0 : decode B25 0 = .ok (.iload_n 2, 1) := by decide +kernel
theorem d25_1 : decode B25 1 = .ok (.invokestatic 107, 3) := by decide +kernel
theorem own_pd_1 : parseMethodDescriptor "(I)[B" = some ⟨[.int], some (.array .byte)⟩ := by decide +kernel
theorem d25_4 : decode B25 4 = .ok (.astore_n 3, 1) := by decide +kernel
theorem d25_5 : decode B25 5 = .ok (.iconst 0, 1) := by decide +kernel
theorem d25_6 : decode B25 6 = .ok (.istore 4, 2) := by decide +kernel
theorem d25_8 : decode B25 8 = .ok (.iload 4, 2) := by decide +kernel
theorem d25_10 : decode B25 10 = .ok (.iload_n 2, 1) := by decide +kernel
theorem d25_11 : decode B25 11 = .ok (.if_icmp .ge 21, 3) := by decide +kernel
theorem d25_14 : decode B25 14 = .ok (.aload_n 3, 1) := by decide +kernel
theorem d25_15 : decode B25 15 = .ok (.iload 4, 2) := by decide +kernel
theorem d25_17 : decode B25 17 = .ok (.aload_n 0, 1) := by decide +kernel
theorem d25_18 : decode B25 18 = .ok (.iload_n 1, 1) := by decide +kernel
theorem d25_19 : decode B25 19 = .ok (.caload, 1) := by decide +kernel
theorem d25_20 : decode B25 20 = .ok (.invokestatic 111, 3) := by decide +kernel
theorem own_pd_2 : parseMethodDescriptor "([BII)V" = some ⟨[(.array .byte), .int, .int], none⟩ := by decide +kernel
theorem d25_23 : decode B25 23 = .ok (.iinc 1 1, 3) := by decide +kernel
theorem d25_26 : decode B25 26 = .ok (.iinc 4 1, 3) := by decide +kernel
theorem d25_29 : decode B25 29 = .ok (.goto (-21), 3) := by decide +kernel
theorem d25_32 : decode B25 32 = .ok (.aload_n 3, 1) := by decide +kernel
theorem d25_33 : decode B25 33 = .ok (.areturn, 1) := by decide +kernel
theorem own_ef_own_toBy1 (m : MethodId) (xc : Addr) : entryFrame m #[.ref xc, .int 0, .int 1] 5 = mkF m 0 #[vR xc, vI 0, vI 1, uS, uS] [] := by first | (simp [entryFrame, mkF, argsToLocals, Value.category]; done) | rfl
def Q_own_toBy1 (Z : State) (xc : Addr) (xk : ClassId) (c0 : Int32) (gz : Int32) (gfm : Value) (h0 : Heap) (n0 : Nat) (v : Option Value) (h : Heap) (L : List Loc) : Prop := Fr n0 L ∧ Keep h0 h [] ∧ ∃ (r : Addr), ∃ (rk : ClassId), v = some (.ref r) ∧ Arv Z h r rk .byte (2 : Int32) [(.int (c0.toInt8.toInt32)), (.int ((c0 >>> ((8 : Int32) &&& 31)).toInt8.toInt32))] (.int 0) ∧ h0.size ≤ r
theorem own_toBy1 (l : Launch) (Z : State) (a0 : Array Value) (hw : ∀ d ∈ tables_1, d.before a0 Z = true) (ws : List Jvm.Cond) (xc : Addr) (xk : ClassId) (c0 : Int32) (h0 : Heap) (n0 : Nat) (O0 : Old Z n0 h0) (gz : Int32) (gfm : Value) (G : GG Z gz gfm) (P0 : Arv Z h0 xc xk .char (1 : Int32) [.int c0] (.int 0)) : own_Met l Z (⟨"java/lang/StringUTF16", "toBytes", "([CII)[B"⟩ : MethodName) jdk_52_method_14_code 5 (some (.array .byte)) ws ({ frames := 2, cells := 1, slots := 2, locals := 24 } : Room) #[.ref xc, .int 0, .int 1] h0 (Q_own_toBy1 Z xc xk c0 gz gfm h0 n0) := by
  refine own_mk (plainFor_of_name own_pn_java_lang_StringUTF16) O0 ?_
  intro p e s m below meth c s₁ hx hby hml hZ hown hnm hlk hret X0 e0 N0 z0 z1
  have K0 : Keep h0 h0 [] := Keep.refl _ _
  refine own_cast (own_ef_own_toBy1 m xc) ?_
  show own_Goes p e below (s₁.setTop (mkF m 0 #[vR xc, vI 0, vI 1, uS, uS] [])) _
  obtain ⟨G0, G1, G2, G3, G4, G5, G6⟩ := id G
  have ltP0 : @LT.lt Nat _ xc h0.size := P0.lt
  refine q_iloadN X0 hx hby d25_0 rfl ?_
  refine k_S X0 hx hby hZ hown (wh hw 114 rfl) (wh hw 115 rfl) (W := 0) (own_nbf1 l Z a0 hw []  h0 n0 O0) (wh hw 116 rfl) (wh hw 75 rfl) e0  hml (argsL := [.int 1]) (rest := []) own_pd_1 d25_1 (fun _ T1 L1 X1 hQ1 => ?_)
  obtain ⟨h1, e1⟩ : ∃ z, T1.heap = z := ⟨_, rfl⟩
  rw [e1] at hQ1
  obtain ⟨Nc1, Kc1, r_1, rk_1, rfl, c1_0, c1_1⟩ := hQ1
  have N1 := Fr.app N0 Nc1
  have O2 := O0.keep Kc1 all0
  have sz3 : h0.size ≤ h1.size := Kc1.1
  have K4 := Keep.trans K0 Kc1 all0
  have ltc1_0 : @LT.lt Nat _ r_1 h1.size := c1_0.lt
  refine q_astoreN X1 hx hby d25_4 rfl (l' := #[vR xc, vI 0, vI 1, vR r_1, uS]) rfl ?_
  refine q_iconst X1 hx hby d25_5 ?_
  refine q_istore X1 hx hby d25_6 (l' := #[vR xc, vI 0, vI 1, vR r_1, vI 0]) rfl ?_
  refine q_iload X1 hx hby d25_8 rfl ?_
  refine q_iloadN X1 hx hby d25_10 rfl ?_
  refine q_icmpNo X1 hx hby d25_11 (tlt (show ((0 : Int32) < (1 : Int32)) from by decide)).2.1 ?_
  refine q_aloadN X1 hx hby d25_14 rfl rfl ?_
  refine q_iload X1 hx hby d25_15 rfl ?_
  refine q_aloadN X1 hx hby d25_17 rfl rfl ?_
  refine q_iloadN X1 hx hby d25_18 rfl ?_
  have f5 := (P0.keep Kc1 nin0)
  refine q_caload X1 hx hby hZ e1 f5 d25_19 (.int c0) ?_
  refine k_S X1 hx hby hZ hown (wh hw 121 rfl) (wh hw 122 rfl) (W := 0) (own_pc1_0 l Z a0 hw [] r_1 rk_1 c0 (0 : Int32) (0 : Int32) h1 n0 O2 gz gfm G c1_0 (show n0 ≤ r_1 by first | assumption | omega | decide)) (wh hw 123 rfl) (wh hw 75 rfl) e1  hml (argsL := [.ref r_1, .int 0, .int c0]) (rest := []) own_pd_2 d25_20 (fun _ T7 L7 X7 hQ7 => ?_)
  obtain ⟨h7, e7⟩ : ∃ z, T7.heap = z := ⟨_, rfl⟩
  rw [e7] at hQ7
  obtain ⟨Nc7, Kc7, rfl, c7_0⟩ := hQ7
  have N7 := Fr.app N1 Nc7
  have O8 := O2.keep Kc7 (allS (show n0 ≤ r_1 by omega) all0)
  have sz9 : h1.size ≤ h7.size := Kc7.1
  have K10 := Keep.trans K4 Kc7 (allS (Or.inr (show h0.size ≤ r_1 by omega)) all0)
  have ltc7_0 : @LT.lt Nat _ r_1 h7.size := c7_0.lt
  show own_Goes p e below (T7.setTop (mkF m 23 #[vR xc, vI 0, vI 1, vR r_1, vI 0] [])) _
  refine gg (fun t k => XS.iinc X7.here hx rfl (hb hby d25_23) rfl (l' := #[vR xc, vI ((0 : Int32) + (1 : Int32)), vI 1, vR r_1, vI 0]) rfl k) ?_
  show own_Goes p e below (T7.setTop (mkF m 26 #[vR xc, vI ((0 : Int32) + (1 : Int32)), vI 1, vR r_1, vI 0] [])) _
  rw [show ((0 : Int32) + (1 : Int32)) = (1 : Int32) from by decide]
  refine gg (fun t k => XS.iinc X7.here hx rfl (hb hby d25_26) rfl (l' := #[vR xc, vI 1, vI 1, vR r_1, vI ((0 : Int32) + (1 : Int32))]) rfl k) ?_
  show own_Goes p e below (T7.setTop (mkF m 29 #[vR xc, vI 1, vI 1, vR r_1, vI ((0 : Int32) + (1 : Int32))] [])) _
  rw [show ((0 : Int32) + (1 : Int32)) = (1 : Int32) from by decide]
  refine q_goto (pc := 29) X7 hx hby d25_29 (pc' := 8) (by decide) (by decide) ?_
  refine q_iload X7 hx hby d25_8 rfl ?_
  refine q_iloadN X7 hx hby d25_10 rfl ?_
  refine q_icmpYes (pc := 11) X7 hx hby d25_11 (pc' := 32) (flt (show ¬ ((1 : Int32) < (1 : Int32)) from by decide)).2.1 (by decide) (by decide) ?_
  refine q_aloadN X7 hx hby d25_32 rfl rfl ?_
  refine r_R X7 hx hby hret hlk d25_33 e7 ?_
  exact ⟨N7, K10, r_1, rk_1, rfl, c7_0, (show h0.size ≤ r_1 by first | assumption | omega | decide)⟩
theorem d17_0 : decode B17 0 = .ok (.iconst 0, 1) := by decide +kernel
theorem d17_1 : decode B17 1 = .ok (.istore 5, 2) := by decide +kernel
theorem d17_3 : decode B17 3 = .ok (.iload 5, 2) := by decide +kernel
theorem d17_5 : decode B17 5 = .ok (.iload 4, 2) := by decide +kernel
theorem d17_7 : decode B17 7 = .ok (.if_icmp .ge 37, 3) := by decide +kernel
theorem d17_10 : decode B17 10 = .ok (.aload_n 0, 1) := by decide +kernel
theorem d17_11 : decode B17 11 = .ok (.iload_n 1, 1) := by decide +kernel
theorem d17_12 : decode B17 12 = .ok (.caload, 1) := by decide +kernel
theorem d17_13 : decode B17 13 = .ok (.istore 6, 2) := by decide +kernel
theorem d17_15 : decode B17 15 = .ok (.iload 6, 2) := by decide +kernel
theorem d17_17 : decode B17 17 = .ok (.sipush 255, 3) := by decide +kernel
theorem d17_20 : decode B17 20 = .ok (.if_icmp .le 6, 3) := by decide +kernel
theorem d17_23 : decode B17 23 = .ok (.iload 5, 2) := by decide +kernel
theorem d17_25 : decode B17 25 = .ok (.ireturn, 1) := by decide +kernel
theorem d17_26 : decode B17 26 = .ok (.aload_n 2, 1) := by decide +kernel
theorem d17_27 : decode B17 27 = .ok (.iload_n 3, 1) := by decide +kernel
theorem d17_28 : decode B17 28 = .ok (.iload 6, 2) := by decide +kernel
theorem d17_30 : decode B17 30 = .ok (.i2b, 1) := by decide +kernel
theorem d17_31 : decode B17 31 = .ok (.bastore, 1) := by decide +kernel
theorem d17_32 : decode B17 32 = .ok (.iinc 1 1, 3) := by decide +kernel
theorem d17_35 : decode B17 35 = .ok (.iinc 3 1, 3) := by decide +kernel
theorem d17_38 : decode B17 38 = .ok (.iinc 5 1, 3) := by decide +kernel
theorem d17_41 : decode B17 41 = .ok (.goto (-38), 3) := by decide +kernel
theorem d17_44 : decode B17 44 = .ok (.iload 4, 2) := by decide +kernel
theorem d17_46 : decode B17 46 = .ok (.ireturn, 1) := by decide +kernel
theorem own_ef_own_ci1 (m : MethodId) (xc : Addr) (xb : Addr) : entryFrame m #[.ref xc, .int 0, .ref xb, .int 0, .int 1] 7 = mkF m 0 #[vR xc, vI 0, vR xb, vI 0, vI 1, uS, uS] [] := by first | (simp [entryFrame, mkF, argsToLocals, Value.category]; done) | rfl
def Q_own_ci1 (Z : State) (xc : Addr) (xk : ClassId) (xb : Addr) (xq : ClassId) (c0 : Int32) (h0 : Heap) (n0 : Nat) (v : Option Value) (h : Heap) (L : List Loc) : Prop := Fr n0 L ∧ Keep h0 h [xb] ∧ ∃ (r : Int32), ∃ (y0 : Int32), v = some (.int r) ∧ Arv Z h xb xq .byte (1 : Int32) [.int y0] (.int 0) ∧ ((r = (1 : Int32) ∧ y0 = (c0.toInt8.toInt32) ∧ ¬ (255 : Int32) < c0) ∨ (r = (0 : Int32) ∧ (255 : Int32) < c0))
theorem own_ci1 (l : Launch) (Z : State) (a0 : Array Value) (hw : ∀ d ∈ tables_1, d.before a0 Z = true) (ws : List Jvm.Cond) (xc : Addr) (xk : ClassId) (xb : Addr) (xq : ClassId) (c0 : Int32) (h0 : Heap) (n0 : Nat) (O0 : Old Z n0 h0) (P0 : Arv Z h0 xc xk .char (1 : Int32) [.int c0] (.int 0)) (P1 : Arv Z h0 xb xq .byte (1 : Int32) [.int 0] (.int 0)) (P2 : @LT.lt Nat _ xc xb) (P3 : n0 ≤ xb) : own_Met l Z (⟨"java/lang/StringUTF16", "compress", "([CI[BII)I"⟩ : MethodName) jdk_52_method_21_code 7 (some .int) ws ({ frames := 0, cells := 0, slots := 0, locals := 0 } : Room) #[.ref xc, .int 0, .ref xb, .int 0, .int 1] h0 (Q_own_ci1 Z xc xk xb xq c0 h0 n0) := by
  refine own_mk (plainFor_of_name own_pn_java_lang_StringUTF16) O0 ?_
  intro p e s m below meth c s₁ hx hby hml hZ hown hnm hlk hret X0 e0 N0 z0 z1
  have K0 : Keep h0 h0 [xb] := Keep.refl _ _
  refine own_cast (own_ef_own_ci1 m xc xb) ?_
  show own_Goes p e below (s₁.setTop (mkF m 0 #[vR xc, vI 0, vR xb, vI 0, vI 1, uS, uS] [])) _
  have ltP0 : @LT.lt Nat _ xc h0.size := P0.lt
  have ltP1 : @LT.lt Nat _ xb h0.size := P1.lt
  refine q_iconst X0 hx hby d17_0 ?_
  refine q_istore X0 hx hby d17_1 (l' := #[vR xc, vI 0, vR xb, vI 0, vI 1, vI 0, uS]) rfl ?_
  refine q_iload X0 hx hby d17_3 rfl ?_
  refine q_iload X0 hx hby d17_5 rfl ?_
  refine q_icmpNo X0 hx hby d17_7 (tlt (show ((0 : Int32) < (1 : Int32)) from by decide)).2.1 ?_
  refine q_aloadN X0 hx hby d17_10 rfl rfl ?_
  refine q_iloadN X0 hx hby d17_11 rfl ?_
  refine q_caload X0 hx hby hZ e0 P0 d17_12 (.int c0) ?_
  refine q_istore X0 hx hby d17_13 (l' := #[vR xc, vI 0, vR xb, vI 0, vI 1, vI 0, vI c0]) rfl ?_
  refine q_iload X0 hx hby d17_15 rfl ?_
  refine q_sipush X0 hx hby d17_17 ?_
  by_cases hc2 : (255 : Int32) < c0
  · refine q_icmpNo X0 hx hby d17_20 (tlt hc2).2.2.2 ?_
    refine q_iload X0 hx hby d17_23 rfl ?_
    refine r_I X0 hx hby hret hlk d17_25 e0 ?_
    exact ⟨N0, K0, (0 : Int32), (0 : Int32), rfl, P1, (Or.inr ⟨rfl, hc2⟩)⟩
  · refine q_icmpYes (pc := 20) X0 hx hby d17_20 (pc' := 26) (flt hc2).2.2.2 (by decide) (by decide) ?_
    show own_Goes p e below (s₁.setTop (mkF m 26 #[vR xc, vI 0, vR xb, vI 0, vI 1, vI 0, vI c0] [])) _
    refine q_aloadN X0 hx hby d17_26 rfl rfl ?_
    refine q_iloadN X0 hx hby d17_27 rfl ?_
    refine q_iload X0 hx hby d17_28 rfl ?_
    refine gg (fun t k => XS.i2b X0.here hx rfl (hb hby d17_30) rfl k) ?_
    refine q_stB X0 hx hby hZ e0 P1 0 d17_31 (fun T4 h4 X4 e4 W4 V4 => ?_)
    have O5 := O0.wr W4 (show n0 ≤ xb by omega)
    have sz6 : h4.size = h0.size := Wr.size W4
    have K7 := K0.wr W4 (Or.inl (List.mem_of_getElem? (i := 0) rfl))
    have N4 := Fr.snoc X4 N0 (show n0 ≤ xb by omega)
    have V4 : Arv Z h4 xb xq .byte (1 : Int32) [(.int ((c0.toInt8.toInt32).toInt8.toInt32))] (.int 0) := V4
    rw [show ((c0.toInt8.toInt32).toInt8.toInt32) = (c0.toInt8.toInt32) from own_i8i8 _] at V4
    refine gg (fun t k => XS.iinc X4.here hx rfl (hb hby d17_32) rfl (l' := #[vR xc, vI ((0 : Int32) + (1 : Int32)), vR xb, vI 0, vI 1, vI 0, vI c0]) rfl k) ?_
    show own_Goes p e below (T4.setTop (mkF m 35 #[vR xc, vI ((0 : Int32) + (1 : Int32)), vR xb, vI 0, vI 1, vI 0, vI c0] [])) _
    rw [show ((0 : Int32) + (1 : Int32)) = (1 : Int32) from by decide]
    refine gg (fun t k => XS.iinc X4.here hx rfl (hb hby d17_35) rfl (l' := #[vR xc, vI 1, vR xb, vI ((0 : Int32) + (1 : Int32)), vI 1, vI 0, vI c0]) rfl k) ?_
    show own_Goes p e below (T4.setTop (mkF m 38 #[vR xc, vI 1, vR xb, vI ((0 : Int32) + (1 : Int32)), vI 1, vI 0, vI c0] [])) _
    rw [show ((0 : Int32) + (1 : Int32)) = (1 : Int32) from by decide]
    refine gg (fun t k => XS.iinc X4.here hx rfl (hb hby d17_38) rfl (l' := #[vR xc, vI 1, vR xb, vI 1, vI 1, vI ((0 : Int32) + (1 : Int32)), vI c0]) rfl k) ?_
    show own_Goes p e below (T4.setTop (mkF m 41 #[vR xc, vI 1, vR xb, vI 1, vI 1, vI ((0 : Int32) + (1 : Int32)), vI c0] [])) _
    rw [show ((0 : Int32) + (1 : Int32)) = (1 : Int32) from by decide]
    refine q_goto (pc := 41) X4 hx hby d17_41 (pc' := 3) (by decide) (by decide) ?_
    refine q_iload X4 hx hby d17_3 rfl ?_
    refine q_iload X4 hx hby d17_5 rfl ?_
    refine q_icmpYes (pc := 7) X4 hx hby d17_7 (pc' := 44) (flt (show ¬ ((1 : Int32) < (1 : Int32)) from by decide)).2.1 (by decide) (by decide) ?_
    refine q_iload X4 hx hby d17_44 rfl ?_
    refine r_I X4 hx hby hret hlk d17_46 e4 ?_
    exact ⟨N4, K7, (1 : Int32), (c0.toInt8.toInt32), rfl, V4, (Or.inl ⟨rfl, rfl, hc2⟩)⟩
theorem d16_0 : decode B16 0 = .ok (.iload_n 2, 1) := by decide +kernel
theorem d16_1 : decode B16 1 = .ok (.newarray .byte, 2) := by decide +kernel
theorem d16_3 : decode B16 3 = .ok (.astore_n 3, 1) := by decide +kernel
theorem d16_4 : decode B16 4 = .ok (.aload_n 0, 1) := by decide +kernel
theorem d16_5 : decode B16 5 = .ok (.iload_n 1, 1) := by decide +kernel
theorem d16_6 : decode B16 6 = .ok (.aload_n 3, 1) := by decide +kernel
theorem d16_7 : decode B16 7 = .ok (.iconst 0, 1) := by decide +kernel
theorem d16_8 : decode B16 8 = .ok (.iload_n 2, 1) := by decide +kernel
theorem d16_9 : decode B16 9 = .ok (.invokestatic 115, 3) := by decide +kernel
theorem own_pd_3 : parseMethodDescriptor "([CI[BII)I" = some ⟨[(.array .char), .int, (.array .byte), .int, .int], some .int⟩ := by decide +kernel
theorem d16_12 : decode B16 12 = .ok (.istore 4, 2) := by decide +kernel
theorem d16_14 : decode B16 14 = .ok (.iload 4, 2) := by decide +kernel
theorem d16_16 : decode B16 16 = .ok (.iload_n 2, 1) := by decide +kernel
theorem d16_17 : decode B16 17 = .ok (.if_icmp .eq 40, 3) := by decide +kernel
theorem d16_57 : decode B16 57 = .ok (.aload_n 3, 1) := by decide +kernel
theorem d16_58 : decode B16 58 = .ok (.areturn, 1) := by decide +kernel
theorem d16_20 : decode B16 20 = .ok (.aload_n 0, 1) := by decide +kernel
theorem d16_21 : decode B16 21 = .ok (.iload_n 1, 1) := by decide +kernel
theorem d16_22 : decode B16 22 = .ok (.iload_n 2, 1) := by decide +kernel
theorem d16_23 : decode B16 23 = .ok (.invokestatic 119, 3) := by decide +kernel
theorem own_pd_4 : parseMethodDescriptor "([CII)[B" = some ⟨[(.array .char), .int, .int], some (.array .byte)⟩ := by decide +kernel
theorem d16_26 : decode B16 26 = .ok (.astore 5, 2) := by decide +kernel
theorem d16_28 : decode B16 28 = .ok (.aload 5, 2) := by decide +kernel
theorem d16_30 : decode B16 30 = .ok (.iload 4, 2) := by decide +kernel
theorem d16_32 : decode B16 32 = .ok (.invokestatic 71, 3) := by decide +kernel
theorem own_pd_5 : parseMethodDescriptor "([BI)C" = some ⟨[(.array .byte), .int], some .char⟩ := by decide +kernel
theorem d16_35 : decode B16 35 = .ok (.sipush 255, 3) := by decide +kernel
theorem d16_38 : decode B16 38 = .ok (.if_icmp .gt 16, 3) := by decide +kernel
theorem d16_54 : decode B16 54 = .ok (.aload 5, 2) := by decide +kernel
theorem d16_56 : decode B16 56 = .ok (.areturn, 1) := by decide +kernel
theorem own_ef_own_co1 (m : MethodId) (xc : Addr) : entryFrame m #[.ref xc, .int 0, .int 1] 6 = mkF m 0 #[vR xc, vI 0, vI 1, uS, uS, uS] [] := by first | (simp [entryFrame, mkF, argsToLocals, Value.category]; done) | rfl
def Q_own_co1 (Z : State) (xc : Addr) (xk : ClassId) (c0 : Int32) (gz : Int32) (gfm : Value) (h0 : Heap) (n0 : Nat) (v : Option Value) (h : Heap) (L : List Loc) : Prop := Fr n0 L ∧ Keep h0 h [] ∧ ∃ (r : Addr), v = some (.ref r) ∧ own_Cod Z h r ([c0] : List Int32) ∧ h0.size ≤ r
theorem own_co1 (l : Launch) (Z : State) (a0 : Array Value) (hw : ∀ d ∈ tables_1, d.before a0 Z = true) (ws : List Jvm.Cond) (xc : Addr) (xk : ClassId) (c0 : Int32) (h0 : Heap) (n0 : Nat) (O0 : Old Z n0 h0) (gz : Int32) (gfm : Value) (G : GG Z gz gfm) (P0 : Arv Z h0 xc xk .char (1 : Int32) [.int c0] (.int 0)) (P1 : own_C16 c0) : own_Met l Z (⟨"java/lang/StringUTF16", "compress", "([CII)[B"⟩ : MethodName) jdk_52_method_16_code 6 (some (.array .byte)) ws ({ frames := 3, cells := 2, slots := 3, locals := 40 } : Room) #[.ref xc, .int 0, .int 1] h0 (Q_own_co1 Z xc xk c0 gz gfm h0 n0) := by
  refine own_mk (plainFor_of_name own_pn_java_lang_StringUTF16) O0 ?_
  intro p e s m below meth c s₁ hx hby hml hZ hown hnm hlk hret X0 e0 N0 z0 z1
  have K0 : Keep h0 h0 [] := Keep.refl _ _
  refine own_cast (own_ef_own_co1 m xc) ?_
  show own_Goes p e below (s₁.setTop (mkF m 0 #[vR xc, vI 0, vI 1, uS, uS, uS] [])) _
  obtain ⟨G0, G1, G2, G3, G4, G5, G6⟩ := id G
  have ltP0 : @LT.lt Nat _ xc h0.size := P0.lt
  refine q_iloadN X0 hx hby d16_0 rfl ?_
  obtain ⟨T1, h1, k1, X1, e1, E1, A1, st1⟩ := newP X0 hx hZ (wh hw 25 rfl) e0 (g := (mkF m 1 #[vR xc, vI 0, vI 1, uS, uS, uS] [.int 1])) rfl (hb hby d16_1) rfl (by decide) (cap := 1) (by decide) (by decide) (by decide) (by decide)
  obtain ⟨b1, g1⟩ : ∃ z, z = h0.size := ⟨_, rfl⟩
  rw [← g1] at A1 st1
  refine gg st1 ?_
  have O2 := O0.ext E1
  have sz3 : h0.size ≤ h1.size := E1.1
  have K4 := K0.ext E1
  have l1 : @LT.lt Nat _ b1 h1.size := A1.lt
  have V1 : Arv Z h1 b1 k1 .byte (1 : Int32) [.int 0] (.int 0) := (Arv.new A1 (by decide)).pad (pad_rep [] (.int 0) 1)
  refine q_astoreN X1 hx hby d16_3 rfl (l' := #[vR xc, vI 0, vI 1, vR b1, uS, uS]) rfl ?_
  refine q_aloadN X1 hx hby d16_4 rfl rfl ?_
  refine q_iloadN X1 hx hby d16_5 rfl ?_
  refine q_aloadN X1 hx hby d16_6 rfl rfl ?_
  refine q_iconst X1 hx hby d16_7 ?_
  refine q_iloadN X1 hx hby d16_8 rfl ?_
  have f5 := (P0.ext E1)
  refine k_S X1 hx hby hZ hown (wh hw 77 rfl) (wh hw 78 rfl) (W := 0) (own_ci1 l Z a0 hw [] xc xk b1 k1 c0 h1 n0 O2 f5 V1 (show @LT.lt Nat _ xc b1 by first | assumption | omega | decide) (show n0 ≤ b1 by first | assumption | omega | decide)) (wh hw 79 rfl) (wh hw 75 rfl) e1  hml (argsL := [.ref xc, .int 0, .ref b1, .int 0, .int 1]) (rest := []) own_pd_3 d16_9 (fun _ T6 L6 X6 hQ6 => ?_)
  obtain ⟨h6, e6⟩ : ∃ z, T6.heap = z := ⟨_, rfl⟩
  rw [e6] at hQ6
  obtain ⟨Nc6, Kc6, r_6, y0_6, rfl, c6_0, c6_1⟩ := hQ6
  have N6 := Fr.app N0 Nc6
  have O7 := O2.keep Kc6 (allS (show n0 ≤ b1 by omega) all0)
  have sz8 : h1.size ≤ h6.size := Kc6.1
  have K9 := Keep.trans K4 Kc6 (allS (Or.inr (show h0.size ≤ b1 by omega)) all0)
  have ltc6_0 : @LT.lt Nat _ b1 h6.size := c6_0.lt
  rcases c6_1 with ⟨rfl, rfl, hq10⟩ | ⟨rfl, hq10⟩
  · show own_Goes p e below (T6.setTop (mkF m 12 #[vR xc, vI 0, vI 1, vR b1, uS, uS] [.int 1])) _
    refine q_istore X6 hx hby d16_12 (l' := #[vR xc, vI 0, vI 1, vR b1, vI 1, uS]) rfl ?_
    refine q_iload X6 hx hby d16_14 rfl ?_
    refine q_iloadN X6 hx hby d16_16 rfl ?_
    refine q_icmpYes (pc := 17) X6 hx hby d16_17 (pc' := 57) (teq (show ((1 : Int32) = (1 : Int32)) from by decide)).1 (by decide) (by decide) ?_
    refine q_aloadN X6 hx hby d16_57 rfl rfl ?_
    refine r_R X6 hx hby hret hlk d16_58 e6 ?_
    exact ⟨N6, K9, b1, rfl, ⟨_, _, _, _, c6_0, Or.inl ⟨rfl, rfl, rfl, (own_alS hq10 own_al0)⟩⟩, (show h0.size ≤ b1 by first | assumption | omega | decide)⟩
  · show own_Goes p e below (T6.setTop (mkF m 12 #[vR xc, vI 0, vI 1, vR b1, uS, uS] [.int 0])) _
    refine q_istore X6 hx hby d16_12 (l' := #[vR xc, vI 0, vI 1, vR b1, vI 0, uS]) rfl ?_
    refine q_iload X6 hx hby d16_14 rfl ?_
    refine q_iloadN X6 hx hby d16_16 rfl ?_
    refine q_icmpNo X6 hx hby d16_17 (feq (show ¬ ((0 : Int32) = (1 : Int32)) from by decide)).1 ?_
    refine q_aloadN X6 hx hby d16_20 rfl rfl ?_
    refine q_iloadN X6 hx hby d16_21 rfl ?_
    refine q_iloadN X6 hx hby d16_22 rfl ?_
    have f11 := (f5.keep Kc6 (ninS (nE xc b1 (by omega)) nin0))
    refine k_S X6 hx hby hZ hown (wh hw 111 rfl) (wh hw 112 rfl) (W := 0) (own_toBy1 l Z a0 hw [] xc xk c0 h6 n0 O7 gz gfm G f11) (wh hw 113 rfl) (wh hw 75 rfl) e6  hml (argsL := [.ref xc, .int 0, .int 1]) (rest := []) own_pd_4 d16_23 (fun _ T12 L12 X12 hQ12 => ?_)
    obtain ⟨h12, e12⟩ : ∃ z, T12.heap = z := ⟨_, rfl⟩
    rw [e12] at hQ12
    obtain ⟨Nc12, Kc12, r_12, rk_12, rfl, c12_0, c12_1⟩ := hQ12
    have N12 := Fr.app N6 Nc12
    have O13 := O7.keep Kc12 all0
    have sz14 : h6.size ≤ h12.size := Kc12.1
    have K15 := Keep.trans K9 Kc12 all0
    have ltc12_0 : @LT.lt Nat _ r_12 h12.size := c12_0.lt
    refine q_astore X12 hx hby d16_26 rfl (l' := #[vR xc, vI 0, vI 1, vR b1, vI 0, vR r_12]) rfl ?_
    refine q_aload X12 hx hby d16_28 rfl rfl ?_
    refine q_iload X12 hx hby d16_30 rfl ?_
    refine k_S X12 hx hby hZ hown (wh hw 127 rfl) (wh hw 128 rfl) (W := 0) (own_gc1_0 l Z a0 hw [] r_12 rk_12 (c0.toInt8.toInt32) ((c0 >>> ((8 : Int32) &&& 31)).toInt8.toInt32) h12 n0 O13 gz gfm G c12_0) (wh hw 129 rfl) (wh hw 75 rfl) e12  hml (argsL := [.ref r_12, .int 0]) (rest := []) own_pd_5 d16_32 (fun _ T16 L16 X16 hQ16 => ?_)
    obtain ⟨Nc16, e16, rfl⟩ := hQ16
    have N16 := Fr.app N12 Nc16
    show own_Goes p e below (T16.setTop (mkF m 35 #[vR xc, vI 0, vI 1, vR b1, vI 0, vR r_12] [(.int (((((c0.toInt8.toInt32) &&& (255 : Int32)) <<< ((0 : Int32) &&& 31)) ||| ((((c0 >>> ((8 : Int32) &&& 31)).toInt8.toInt32) &&& (255 : Int32)) <<< ((8 : Int32) &&& 31))).toUInt32.toUInt16.toUInt32.toInt32))])) _
    rw [show (((((c0.toInt8.toInt32) &&& (255 : Int32)) <<< ((0 : Int32) &&& 31)) ||| ((((c0 >>> ((8 : Int32) &&& 31)).toInt8.toInt32) &&& (255 : Int32)) <<< ((8 : Int32) &&& 31))).toUInt32.toUInt16.toUInt32.toInt32) = c0 from own_g16 P1]
    refine q_sipush X16 hx hby d16_35 ?_
    refine q_icmpYes (pc := 38) X16 hx hby d16_38 (pc' := 54) (tlt hq10).2.2.1 (by decide) (by decide) ?_
    refine q_aload X16 hx hby d16_54 rfl rfl ?_
    refine r_R X16 hx hby hret hlk d16_56 e16 ?_
    exact ⟨N16, K15, r_12, rfl, ⟨_, _, _, _, c12_0, Or.inr ⟨rfl, rfl, rfl, c0, by simp, hq10⟩⟩, (show h0.size ≤ r_12 by first | assumption | omega | decide)⟩
theorem d18_0 : decode B18 0 = .ok (.iload_n 1, 1) := by decide +kernel
theorem d18_1 : decode B18 1 = .ok (.aload_n 0, 1) := by decide +kernel
theorem d18_2 : decode B18 2 = .ok (.arraylength, 1) := by decide +kernel
theorem d18_3 : decode B18 3 = .ok (.isub, 1) := by decide +kernel
theorem d18_4 : decode B18 4 = .ok (.bipush 31, 2) := by decide +kernel
theorem d18_6 : decode B18 6 = .ok (.iushr, 1) := by decide +kernel
theorem d18_7 : decode B18 7 = .ok (.i2b, 1) := by decide +kernel
theorem d18_8 : decode B18 8 = .ok (.ireturn, 1) := by decide +kernel
theorem own_ef_own_cfa1a (m : MethodId) (xb : Addr) : entryFrame m #[.ref xb, .int 1] 2 = mkF m 0 #[vR xb, vI 1] [] := by first | (simp [entryFrame, mkF, argsToLocals, Value.category]; done) | rfl
def Q_own_cfa1a (Z : State) (xb : Addr) (xq : ClassId) (y0 : Int32) (h0 : Heap) (n0 : Nat) (v : Option Value) (h : Heap) (L : List Loc) : Prop := Fr n0 L ∧ h = h0 ∧ v = some (.int 0)
theorem own_cfa1a (l : Launch) (Z : State) (a0 : Array Value) (hw : ∀ d ∈ tables_1, d.before a0 Z = true) (ws : List Jvm.Cond) (xb : Addr) (xq : ClassId) (y0 : Int32) (h0 : Heap) (n0 : Nat) (O0 : Old Z n0 h0) (P0 : Arv Z h0 xb xq .byte (1 : Int32) [.int y0] (.int 0)) : own_Met l Z (⟨"java/lang/StringUTF16", "coderFromArrayLen", "([BI)B"⟩ : MethodName) jdk_52_method_15_code 2 (some .byte) ws ({ frames := 0, cells := 0, slots := 0, locals := 0 } : Room) #[.ref xb, .int 1] h0 (Q_own_cfa1a Z xb xq y0 h0 n0) := by
  refine own_mk (plainFor_of_name own_pn_java_lang_StringUTF16) O0 ?_
  intro p e s m below meth c s₁ hx hby hml hZ hown hnm hlk hret X0 e0 N0 z0 z1
  refine own_cast (own_ef_own_cfa1a m xb) ?_
  show own_Goes p e below (s₁.setTop (mkF m 0 #[vR xb, vI 1] [])) _
  have ltP0 : @LT.lt Nat _ xb h0.size := P0.lt
  refine q_iloadN X0 hx hby d18_0 rfl ?_
  refine q_aloadN X0 hx hby d18_1 rfl rfl ?_
  refine q_len X0 hx hby hZ e0 P0 d18_2 ?_
  refine q_isub X0 hx hby d18_3 ?_
  show own_Goes p e below (s₁.setTop (mkF m 4 #[vR xb, vI 1] [(.int ((1 : Int32) - (1 : Int32)))])) _
  rw [show ((1 : Int32) - (1 : Int32)) = (0 : Int32) from by decide]
  refine q_bipush X0 hx hby d18_4 ?_
  refine gg (fun t k => XS.iushr X0.here hx rfl (hb hby d18_6) rfl k) ?_
  show own_Goes p e below (s₁.setTop (mkF m 7 #[vR xb, vI 1] [(.int (((0 : Int32).toUInt32 >>> ((31 : Int32) &&& 31).toUInt32).toInt32))])) _
  rw [show (((0 : Int32).toUInt32 >>> ((31 : Int32) &&& 31).toUInt32).toInt32) = (0 : Int32) from by decide]
  refine gg (fun t k => XS.i2b X0.here hx rfl (hb hby d18_7) rfl k) ?_
  show own_Goes p e below (s₁.setTop (mkF m 8 #[vR xb, vI 1] [(.int ((0 : Int32).toInt8.toInt32))])) _
  rw [show ((0 : Int32).toInt8.toInt32) = (0 : Int32) from by decide]
  refine r_B X0 hx hby hret hlk d18_8 e0 ?_
  exact ⟨N0, rfl, rfl⟩
theorem own_ef_own_cfa1b (m : MethodId) (xb : Addr) : entryFrame m #[.ref xb, .int 1] 2 = mkF m 0 #[vR xb, vI 1] [] := by first | (simp [entryFrame, mkF, argsToLocals, Value.category]; done) | rfl
def Q_own_cfa1b (Z : State) (xb : Addr) (xq : ClassId) (y0 : Int32) (y1 : Int32) (h0 : Heap) (n0 : Nat) (v : Option Value) (h : Heap) (L : List Loc) : Prop := Fr n0 L ∧ h = h0 ∧ v = some (.int 1)
theorem own_cfa1b (l : Launch) (Z : State) (a0 : Array Value) (hw : ∀ d ∈ tables_1, d.before a0 Z = true) (ws : List Jvm.Cond) (xb : Addr) (xq : ClassId) (y0 : Int32) (y1 : Int32) (h0 : Heap) (n0 : Nat) (O0 : Old Z n0 h0) (P0 : Arv Z h0 xb xq .byte (2 : Int32) [.int y0, .int y1] (.int 0)) : own_Met l Z (⟨"java/lang/StringUTF16", "coderFromArrayLen", "([BI)B"⟩ : MethodName) jdk_52_method_15_code 2 (some .byte) ws ({ frames := 0, cells := 0, slots := 0, locals := 0 } : Room) #[.ref xb, .int 1] h0 (Q_own_cfa1b Z xb xq y0 y1 h0 n0) := by
  refine own_mk (plainFor_of_name own_pn_java_lang_StringUTF16) O0 ?_
  intro p e s m below meth c s₁ hx hby hml hZ hown hnm hlk hret X0 e0 N0 z0 z1
  refine own_cast (own_ef_own_cfa1b m xb) ?_
  show own_Goes p e below (s₁.setTop (mkF m 0 #[vR xb, vI 1] [])) _
  have ltP0 : @LT.lt Nat _ xb h0.size := P0.lt
  refine q_iloadN X0 hx hby d18_0 rfl ?_
  refine q_aloadN X0 hx hby d18_1 rfl rfl ?_
  refine q_len X0 hx hby hZ e0 P0 d18_2 ?_
  refine q_isub X0 hx hby d18_3 ?_
  show own_Goes p e below (s₁.setTop (mkF m 4 #[vR xb, vI 1] [(.int ((1 : Int32) - (2 : Int32)))])) _
  rw [show ((1 : Int32) - (2 : Int32)) = (-1 : Int32) from by decide]
  refine q_bipush X0 hx hby d18_4 ?_
  refine gg (fun t k => XS.iushr X0.here hx rfl (hb hby d18_6) rfl k) ?_
  show own_Goes p e below (s₁.setTop (mkF m 7 #[vR xb, vI 1] [(.int (((-1 : Int32).toUInt32 >>> ((31 : Int32) &&& 31).toUInt32).toInt32))])) _
  rw [show (((-1 : Int32).toUInt32 >>> ((31 : Int32) &&& 31).toUInt32).toInt32) = (1 : Int32) from by decide]
  refine gg (fun t k => XS.i2b X0.here hx rfl (hb hby d18_7) rfl k) ?_
  show own_Goes p e below (s₁.setTop (mkF m 8 #[vR xb, vI 1] [(.int ((1 : Int32).toInt8.toInt32))])) _
  rw [show ((1 : Int32).toInt8.toInt32) = (1 : Int32) from by decide]
  refine r_B X0 hx hby hret hlk d18_8 e0 ?_
  exact ⟨N0, rfl, rfl⟩
theorem d4_0 : decode B4 0 = .ok (.aload_n 0, 1) := by decide +kernel
theorem d4_1 : decode B4 1 = .ok (.invokespecial 1, 3) := by decide +kernel
theorem d4_4 : decode B4 4 = .ok (.iload_n 3, 1) := by decide +kernel
theorem d4_5 : decode B4 5 = .ok (.ifCond .ne 22, 3) := by decide +kernel
theorem d4_27 : decode B4 27 = .ok (.getstatic 38, 3) := by decide +kernel
theorem d4_30 : decode B4 30 = .ok (.ifCond .eq 28, 3) := by decide +kernel
theorem d4_33 : decode B4 33 = .ok (.aload_n 1, 1) := by decide +kernel
theorem d4_34 : decode B4 34 = .ok (.iload_n 2, 1) := by decide +kernel
theorem d4_35 : decode B4 35 = .ok (.iload_n 3, 1) := by decide +kernel
theorem d4_36 : decode B4 36 = .ok (.invokestatic 177, 3) := by decide +kernel
theorem d4_39 : decode B4 39 = .ok (.astore 5, 2) := by decide +kernel
theorem d4_41 : decode B4 41 = .ok (.aload_n 0, 1) := by decide +kernel
theorem d4_42 : decode B4 42 = .ok (.aload 5, 2) := by decide +kernel
theorem d4_44 : decode B4 44 = .ok (.iload_n 3, 1) := by decide +kernel
theorem d4_45 : decode B4 45 = .ok (.invokestatic 47, 3) := by decide +kernel
theorem own_pd_6 : parseMethodDescriptor "([BI)B" = some ⟨[(.array .byte), .int], some .byte⟩ := by decide +kernel
theorem d4_48 : decode B4 48 = .ok (.putfield 15, 3) := by decide +kernel
theorem d4_51 : decode B4 51 = .ok (.aload_n 0, 1) := by decide +kernel
theorem d4_52 : decode B4 52 = .ok (.aload 5, 2) := by decide +kernel
theorem d4_54 : decode B4 54 = .ok (.putfield 9, 3) := by decide +kernel
theorem d4_57 : decode B4 57 = .ok (.return_, 1) := by decide +kernel
theorem own_pn_java_lang_String : plainName "java/lang/String" = true := by first | (simp [plainName, overriddenIn]; done) | decide +kernel
theorem own_ef_own_si1 (m : MethodId) (xa : Addr) (xc : Addr) : entryFrame m #[.ref xa, .ref xc, .int 0, .int 1, .null] 6 = mkF m 0 #[vR xa, vR xc, vI 0, vI 1, vN, uS] [] := by first | (simp [entryFrame, mkF, argsToLocals, Value.category]; done) | rfl
def Q_own_si1 (Z : State) (xa : Addr) (xc : Addr) (xk : ClassId) (c0 : Int32) (gz : Int32) (gfm : Value) (h0 : Heap) (n0 : Nat) (v : Option Value) (h : Heap) (L : List Loc) : Prop := Fr n0 L ∧ Keep h0 h [xa] ∧ ∃ (rb : Addr), v = none ∧ own_Str Z h xa rb ([c0] : List Int32)
theorem own_si1 (l : Launch) (Z : State) (a0 : Array Value) (hw : ∀ d ∈ tables_1, d.before a0 Z = true) (ws : List Jvm.Cond) (xa : Addr) (xc : Addr) (xk : ClassId) (c0 : Int32) (h0 : Heap) (n0 : Nat) (O0 : Old Z n0 h0) (gz : Int32) (gfm : Value) (G : GG Z gz gfm) (P0 : Exa Z h0 xa "java/lang/String") (P1 : Fld Z h0 xa "java/lang/String" "value" "[B" .null) (P2 : Fld Z h0 xa "java/lang/String" "coder" "B" (.int 0)) (P3 : n0 ≤ xa) (P4 : Arv Z h0 xc xk .char (1 : Int32) [.int c0] (.int 0)) (P5 : (@LT.lt Nat _ xc xa ∨ @LT.lt Nat _ xa xc)) (P6 : own_C16 c0) : own_Met l Z (⟨"java/lang/String", "<init>", "([CIILjava/lang/Void;)V"⟩ : MethodName) jdk_42_method_149_code 6 none ws ({ frames := 4, cells := 2, slots := 3, locals := 57 } : Room) #[.ref xa, .ref xc, .int 0, .int 1, .null] h0 (Q_own_si1 Z xa xc xk c0 gz gfm h0 n0) := by
  refine own_mk (plainFor_of_name own_pn_java_lang_String) O0 ?_
  intro p e s m below meth c s₁ hx hby hml hZ hown hnm hlk hret X0 e0 N0 z0 z1
  have K0 : Keep h0 h0 [xa] := Keep.refl _ _
  refine own_cast (own_ef_own_si1 m xa xc) ?_
  show own_Goes p e below (s₁.setTop (mkF m 0 #[vR xa, vR xc, vI 0, vI 1, vN, uS] [])) _
  obtain ⟨G0, G1, G2, G3, G4, G5, G6⟩ := id G
  have ltP0 : @LT.lt Nat _ xa h0.size := P0.lt
  have ltP4 : @LT.lt Nat _ xc h0.size := P4.lt
  refine q_aloadN X0 hx hby d4_0 rfl rfl ?_
  obtain ⟨T1, X1, e1, st1⟩ := initO X0 hx hZ hown (wh hw 21 rfl) (wh hw 22 rfl) (wh hw 23 rfl) e0 (g := (mkF m 1 #[vR xa, vR xc, vI 0, vI 1, vN, uS] [.ref xa])) rfl (by rw [hml]; rfl) rfl (hb hby d4_1) (by decide) (W := 0) (by show 2 * 0 + _ ≤ _; exact Nat.le_of_eq rfl) (by decide)
  refine gg st1 ?_
  refine q_iloadN X1 hx hby d4_4 rfl ?_
  refine q_ifYes (pc := 5) X1 hx hby d4_5 (pc' := 27) ((if0 _ _).trans (feq (show ¬ ((1 : Int32) = (0 : Int32)) from by decide)).2) (by decide) (by decide) ?_
  have q2 := G0.ext O0.2
  refine qS X1 hx hby hZ hown (host := "") (Or.inl (wh hw 35 rfl)) Via.refl e1 q2 d4_27 (fun T3 X3 e3 => ?_)
  refine q_ifNo X3 hx hby d4_30 ((if0 _ _).trans (feq (show ¬ (gz = (0 : Int32)) from G1)).1) ?_
  refine q_aloadN X3 hx hby d4_33 rfl rfl ?_
  refine q_iloadN X3 hx hby d4_34 rfl ?_
  refine q_iloadN X3 hx hby d4_35 rfl ?_
  refine k_S X3 hx hby hZ hown (wh hw 73 rfl) (wh hw 74 rfl) (W := 0) (own_co1 l Z a0 hw [] xc xk c0 h0 n0 O0 gz gfm G P4 (show own_C16 c0 from P6)) (wh hw 76 rfl) (wh hw 75 rfl) e3  hml (argsL := [.ref xc, .int 0, .int 1]) (rest := []) own_pd_4 d4_36 (fun _ T4 L4 X4 hQ4 => ?_)
  obtain ⟨h4, e4⟩ : ∃ z, T4.heap = z := ⟨_, rfl⟩
  rw [e4] at hQ4
  obtain ⟨Nc4, Kc4, r_4, rfl, c4_0, c4_1⟩ := hQ4
  have N4 := Fr.app N0 Nc4
  have O5 := O0.keep Kc4 all0
  have sz6 : h0.size ≤ h4.size := Kc4.1
  have K7 := Keep.trans K0 Kc4 all0
  obtain ⟨kbs8, cds8, Ns8, vss8, As8, hCs8⟩ := id c4_0
  rcases hCs8 with ⟨rfl, rfl, rfl, hLs8⟩ | ⟨rfl, rfl, rfl, hWs8⟩
  · have Bs8 : Arv Z h4 r_4 kbs8 .byte (1 : Int32) [(.int (c0.toInt8.toInt32))] (.int 0) := As8
    show own_Goes p e below (T4.setTop (mkF m 39 #[vR xa, vR xc, vI 0, vI 1, vN, uS] [.ref r_4])) _
    refine q_astore X4 hx hby d4_39 rfl (l' := #[vR xa, vR xc, vI 0, vI 1, vN, vR r_4]) rfl ?_
    refine q_aloadN X4 hx hby d4_41 rfl rfl ?_
    refine q_aload X4 hx hby d4_42 rfl rfl ?_
    refine q_iloadN X4 hx hby d4_44 rfl ?_
    refine k_S X4 hx hby hZ hown (wh hw 80 rfl) (wh hw 81 rfl) (W := 1) (own_cfa1a l Z a0 hw [] r_4 kbs8 (c0.toInt8.toInt32) h4 n0 O5 Bs8) (wh hw 82 rfl) (wh hw 75 rfl) e4  hml (argsL := [.ref r_4, .int 1]) (rest := [.ref xa]) own_pd_6 d4_45 (fun _ T9 L9 X9 hQ9 => ?_)
    obtain ⟨Nc9, e9, rfl⟩ := hQ9
    have N9 := Fr.app N4 Nc9
    have f10 := (P2.keep Kc4 nin0)
    have f11 := (P0.keep Kc4)
    obtain ⟨T12, h12, X12, e12, W12, st12⟩ := putFN X9 hx hZ hown (wh hw 31 rfl) Via.refl e9 f10 f11 (Or.inr ⟨(wh hw 27 rfl), rfl, hnm⟩) (wh hw 12 rfl) (ty := .byte) (v' := (.int 0)) (by decide) rfl rfl (g := (mkF m 48 #[vR xa, vR xc, vI 0, vI 1, vN, vR r_4] [.int 0, .ref xa])) rfl rfl (hb hby d4_48)
    refine gg st12 ?_
    have O13 := O5.wr W12 (show n0 ≤ xa by omega)
    have sz14 : h12.size = h4.size := Wr.size W12
    have K15 := K7.wr W12 (Or.inl (List.mem_of_getElem? (i := 0) rfl))
    have N12 := Fr.snoc X12 N9 (show n0 ≤ xa by omega)
    have Fw12 := f10.same W12
    refine q_aloadN X12 hx hby d4_51 rfl rfl ?_
    refine q_aload X12 hx hby d4_52 rfl rfl ?_
    have f16 := ((P1.keep Kc4 nin0).other W12 (Or.inr (slot_ne (Or.inr (wh hw 26 rfl)) (Or.inr (wh hw 27 rfl)) (by decide) (t := (.array .byte)) (t' := .byte) (by decide) (by decide))))
    have f17 := (f11.wr W12)
    refine qP X12 hx hby hZ hown (host := "") (Or.inl (wh hw 30 rfl)) Via.refl e12 f16 f17 (Or.inr ⟨(wh hw 26 rfl), rfl, hnm⟩) (wh hw 12 rfl) (ty := (.array .byte)) d4_54 (fun T18 h18 X18 e18 W18 => ?_)
    have O19 := O13.wr W18 (show n0 ≤ xa by omega)
    have sz20 : h18.size = h12.size := Wr.size W18
    have K21 := K15.wr W18 (Or.inl (List.mem_of_getElem? (i := 0) rfl))
    have N18 := Fr.snoc X18 N12 (show n0 ≤ xa by omega)
    have Fw18 := f16.same W18
    refine r_V X18 hx hby hret hlk d4_57 e18 ?_
    have f22 := (f17.wr W18)
    have f23 := (Fw12.other W18 (Or.inr (slot_ne (Or.inr (wh hw 27 rfl)) (Or.inr (wh hw 26 rfl)) (by decide) (t := .byte) (t' := (.array .byte)) (by decide) (by decide))))
    have f24 := ((Bs8.other W12 (nE r_4 xa (by omega))).other W18 (nE r_4 xa (by omega)))
    exact ⟨N18, K21, r_4, rfl, ⟨f22, Fw18, _, _, _, _, f23, f24, Or.inl ⟨rfl, rfl, rfl, hLs8⟩, (own_alS P6 own_al0), Nat.le_of_ble_eq_true rfl⟩⟩
  · have Bs8 : Arv Z h4 r_4 kbs8 .byte (2 : Int32) [(.int (c0.toInt8.toInt32)), (.int ((c0 >>> ((8 : Int32) &&& 31)).toInt8.toInt32))] (.int 0) := As8
    show own_Goes p e below (T4.setTop (mkF m 39 #[vR xa, vR xc, vI 0, vI 1, vN, uS] [.ref r_4])) _
    refine q_astore X4 hx hby d4_39 rfl (l' := #[vR xa, vR xc, vI 0, vI 1, vN, vR r_4]) rfl ?_
    refine q_aloadN X4 hx hby d4_41 rfl rfl ?_
    refine q_aload X4 hx hby d4_42 rfl rfl ?_
    refine q_iloadN X4 hx hby d4_44 rfl ?_
    refine k_S X4 hx hby hZ hown (wh hw 80 rfl) (wh hw 81 rfl) (W := 1) (own_cfa1b l Z a0 hw [] r_4 kbs8 (c0.toInt8.toInt32) ((c0 >>> ((8 : Int32) &&& 31)).toInt8.toInt32) h4 n0 O5 Bs8) (wh hw 82 rfl) (wh hw 75 rfl) e4  hml (argsL := [.ref r_4, .int 1]) (rest := [.ref xa]) own_pd_6 d4_45 (fun _ T25 L25 X25 hQ25 => ?_)
    obtain ⟨Nc25, e25, rfl⟩ := hQ25
    have N25 := Fr.app N4 Nc25
    have f26 := (P2.keep Kc4 nin0)
    have f27 := (P0.keep Kc4)
    obtain ⟨T28, h28, X28, e28, W28, st28⟩ := putFN X25 hx hZ hown (wh hw 31 rfl) Via.refl e25 f26 f27 (Or.inr ⟨(wh hw 27 rfl), rfl, hnm⟩) (wh hw 12 rfl) (ty := .byte) (v' := (.int 1)) (by decide) rfl rfl (g := (mkF m 48 #[vR xa, vR xc, vI 0, vI 1, vN, vR r_4] [.int 1, .ref xa])) rfl rfl (hb hby d4_48)
    refine gg st28 ?_
    have O29 := O5.wr W28 (show n0 ≤ xa by omega)
    have sz30 : h28.size = h4.size := Wr.size W28
    have K31 := K7.wr W28 (Or.inl (List.mem_of_getElem? (i := 0) rfl))
    have N28 := Fr.snoc X28 N25 (show n0 ≤ xa by omega)
    have Fw28 := f26.same W28
    refine q_aloadN X28 hx hby d4_51 rfl rfl ?_
    refine q_aload X28 hx hby d4_52 rfl rfl ?_
    have f32 := ((P1.keep Kc4 nin0).other W28 (Or.inr (slot_ne (Or.inr (wh hw 26 rfl)) (Or.inr (wh hw 27 rfl)) (by decide) (t := (.array .byte)) (t' := .byte) (by decide) (by decide))))
    have f33 := (f27.wr W28)
    refine qP X28 hx hby hZ hown (host := "") (Or.inl (wh hw 30 rfl)) Via.refl e28 f32 f33 (Or.inr ⟨(wh hw 26 rfl), rfl, hnm⟩) (wh hw 12 rfl) (ty := (.array .byte)) d4_54 (fun T34 h34 X34 e34 W34 => ?_)
    have O35 := O29.wr W34 (show n0 ≤ xa by omega)
    have sz36 : h34.size = h28.size := Wr.size W34
    have K37 := K31.wr W34 (Or.inl (List.mem_of_getElem? (i := 0) rfl))
    have N34 := Fr.snoc X34 N28 (show n0 ≤ xa by omega)
    have Fw34 := f32.same W34
    refine r_V X34 hx hby hret hlk d4_57 e34 ?_
    have f38 := (f33.wr W34)
    have f39 := (Fw28.other W34 (Or.inr (slot_ne (Or.inr (wh hw 27 rfl)) (Or.inr (wh hw 26 rfl)) (by decide) (t := .byte) (t' := (.array .byte)) (by decide) (by decide))))
    have f40 := ((Bs8.other W28 (nE r_4 xa (by omega))).other W34 (nE r_4 xa (by omega)))
    exact ⟨N34, K37, r_4, rfl, ⟨f38, Fw34, _, _, _, _, f39, f40, Or.inr ⟨rfl, rfl, rfl, hWs8⟩, (own_alS P6 own_al0), Nat.le_of_ble_eq_true rfl⟩⟩
theorem d3_0 : decode B3 0 = .ok (.aload_n 0, 1) := by decide +kernel
theorem d3_1 : decode B3 1 = .ok (.aload_n 1, 1) := by decide +kernel
theorem d3_2 : decode B3 2 = .ok (.iconst 0, 1) := by decide +kernel
theorem d3_3 : decode B3 3 = .ok (.aload_n 1, 1) := by decide +kernel
theorem d3_4 : decode B3 4 = .ok (.arraylength, 1) := by decide +kernel
theorem d3_5 : decode B3 5 = .ok (.aconst_null, 1) := by decide +kernel
theorem d3_6 : decode B3 6 = .ok (.invokespecial 27, 3) := by decide +kernel
theorem own_pd_7 : parseMethodDescriptor "([CIILjava/lang/Void;)V" = some ⟨[(.array .char), .int, .int, (.object "java/lang/Void")], none⟩ := by decide +kernel
theorem d3_9 : decode B3 9 = .ok (.return_, 1) := by decide +kernel
theorem own_ef_own_sc1 (m : MethodId) (xa : Addr) (xc : Addr) : entryFrame m #[.ref xa, .ref xc] 2 = mkF m 0 #[vR xa, vR xc] [] := by first | (simp [entryFrame, mkF, argsToLocals, Value.category]; done) | rfl
def Q_own_sc1 (Z : State) (xa : Addr) (xc : Addr) (xk : ClassId) (c0 : Int32) (gz : Int32) (gfm : Value) (h0 : Heap) (n0 : Nat) (v : Option Value) (h : Heap) (L : List Loc) : Prop := Fr n0 L ∧ Keep h0 h [xa] ∧ ∃ (rb : Addr), v = none ∧ own_Str Z h xa rb ([c0] : List Int32)
theorem own_sc1 (l : Launch) (Z : State) (a0 : Array Value) (hw : ∀ d ∈ tables_1, d.before a0 Z = true) (ws : List Jvm.Cond) (xa : Addr) (xc : Addr) (xk : ClassId) (c0 : Int32) (h0 : Heap) (n0 : Nat) (O0 : Old Z n0 h0) (gz : Int32) (gfm : Value) (G : GG Z gz gfm) (P0 : Exa Z h0 xa "java/lang/String") (P1 : Fld Z h0 xa "java/lang/String" "value" "[B" .null) (P2 : Fld Z h0 xa "java/lang/String" "coder" "B" (.int 0)) (P3 : n0 ≤ xa) (P4 : Arv Z h0 xc xk .char (1 : Int32) [.int c0] (.int 0)) (P5 : (@LT.lt Nat _ xc xa ∨ @LT.lt Nat _ xa xc)) (P6 : own_C16 c0) : own_Met l Z (⟨"java/lang/String", "<init>", "([C)V"⟩ : MethodName) jdk_42_method_3_code 2 none ws ({ frames := 5, cells := 2, slots := 3, locals := 74 } : Room) #[.ref xa, .ref xc] h0 (Q_own_sc1 Z xa xc xk c0 gz gfm h0 n0) := by
  refine own_mk (plainFor_of_name own_pn_java_lang_String) O0 ?_
  intro p e s m below meth c s₁ hx hby hml hZ hown hnm hlk hret X0 e0 N0 z0 z1
  have K0 : Keep h0 h0 [xa] := Keep.refl _ _
  refine own_cast (own_ef_own_sc1 m xa xc) ?_
  show own_Goes p e below (s₁.setTop (mkF m 0 #[vR xa, vR xc] [])) _
  obtain ⟨G0, G1, G2, G3, G4, G5, G6⟩ := id G
  have ltP0 : @LT.lt Nat _ xa h0.size := P0.lt
  have ltP4 : @LT.lt Nat _ xc h0.size := P4.lt
  refine q_aloadN X0 hx hby d3_0 rfl rfl ?_
  refine q_aloadN X0 hx hby d3_1 rfl rfl ?_
  refine q_iconst X0 hx hby d3_2 ?_
  refine q_aloadN X0 hx hby d3_3 rfl rfl ?_
  refine q_len X0 hx hby hZ e0 P4 d3_4 ?_
  refine q_aconstNull X0 hx hby d3_5 ?_
  refine k_N X0 hx hby hZ hown (wh hw 17 rfl) (wh hw 18 rfl) (W := 0) (own_si1 l Z a0 hw [] xa xc xk c0 h0 n0 O0 gz gfm G P0 P1 P2 (show n0 ≤ xa by first | assumption | omega | decide) P4 (show (@LT.lt Nat _ xc xa ∨ @LT.lt Nat _ xa xc) by first | assumption | omega | decide) (show own_C16 c0 from P6)) (wh hw 20 rfl) (wh hw 13 rfl) e0  hml (argsL := [.ref xc, .int 0, .int 1, .null]) (rest := []) own_pd_7 d3_6 (fun _ T2 L2 X2 hQ2 => ?_)
  obtain ⟨h2, e2⟩ : ∃ z, T2.heap = z := ⟨_, rfl⟩
  rw [e2] at hQ2
  obtain ⟨Nc2, Kc2, rb_2, rfl, c2_0⟩ := hQ2
  have N2 := Fr.app N0 Nc2
  have O3 := O0.keep Kc2 (allS (show n0 ≤ xa by omega) all0)
  have sz4 : h0.size ≤ h2.size := Kc2.1
  have K5 := Keep.trans K0 Kc2 (allS (Or.inl (List.mem_of_getElem? (i := 0) rfl)) all0)
  have ltc2_0 : @LT.lt Nat _ xa h2.size := c2_0.1.lt
  have luc2_0 : @LT.lt Nat _ rb_2 h2.size := c2_0.lt2
  refine r_V X2 hx hby hret hlk d3_9 e2 ?_
  exact ⟨N2, K5, rb_2, rfl, c2_0⟩
theorem own_ef_own_nbl2 (m : MethodId) : entryFrame m #[.int 2] 1 = mkF m 0 #[vI 2] [] := by first | (simp [entryFrame, mkF, argsToLocals, Value.category]; done) | rfl
def Q_own_nbl2 (Z : State) (h0 : Heap) (n0 : Nat) (v : Option Value) (h : Heap) (L : List Loc) : Prop := Fr n0 L ∧ h = h0 ∧ v = some (.int 4)
theorem own_nbl2 (l : Launch) (Z : State) (a0 : Array Value) (hw : ∀ d ∈ tables_1, d.before a0 Z = true) (ws : List Jvm.Cond) (h0 : Heap) (n0 : Nat) (O0 : Old Z n0 h0) : own_Met l Z (⟨"java/lang/StringUTF16", "newBytesLength", "(I)I"⟩ : MethodName) jdk_52_method_3_code 1 (some .int) ws ({ frames := 0, cells := 0, slots := 0, locals := 0 } : Room) #[.int 2] h0 (Q_own_nbl2 Z h0 n0) := by
  refine own_mk (plainFor_of_name own_pn_java_lang_StringUTF16) O0 ?_
  intro p e s m below meth c s₁ hx hby hml hZ hown hnm hlk hret X0 e0 N0 z0 z1
  refine own_cast (own_ef_own_nbl2 m) ?_
  show own_Goes p e below (s₁.setTop (mkF m 0 #[vI 2] [])) _
  refine q_iloadN X0 hx hby d27_0 rfl ?_
  refine q_ifYes (pc := 1) X0 hx hby d27_1 (pc' := 12) ((if0 _ _).trans (flt (show ¬ ((2 : Int32) < (0 : Int32)) from by decide)).2.1) (by decide) (by decide) ?_
  refine q_iloadN X0 hx hby d27_12 rfl ?_
  refine gg (fun t k => Jvm.Stand.ldcI X0 hx hown (mv hZ (wh hw 120 rfl)) rfl (hb hby d27_13) k) ?_
  refine q_icmpYes (pc := 15) X0 hx hby d27_15 (pc' := 55) (tlt (show ((2 : Int32) < (1073741823 : Int32)) from by decide)).1 (by decide) (by decide) ?_
  refine q_iloadN X0 hx hby d27_55 rfl ?_
  refine q_iconst X0 hx hby d27_56 ?_
  refine gg (fun t k => XS.ishl X0.here hx rfl (hb hby d27_57) rfl k) ?_
  show own_Goes p e below (s₁.setTop (mkF m 58 #[vI 2] [(.int ((2 : Int32) <<< ((1 : Int32) &&& 31)))])) _
  rw [show ((2 : Int32) <<< ((1 : Int32) &&& 31)) = (4 : Int32) from by decide]
  refine r_I X0 hx hby hret hlk d27_58 e0 ?_
  exact ⟨N0, rfl, rfl⟩
theorem own_ef_own_nbf2 (m : MethodId) : entryFrame m #[.int 2] 1 = mkF m 0 #[vI 2] [] := by first | (simp [entryFrame, mkF, argsToLocals, Value.category]; done) | rfl
def Q_own_nbf2 (Z : State) (h0 : Heap) (n0 : Nat) (v : Option Value) (h : Heap) (L : List Loc) : Prop := Fr n0 L ∧ Keep h0 h [] ∧ ∃ (r : Addr), ∃ (rk : ClassId), v = some (.ref r) ∧ Arv Z h r rk .byte (4 : Int32) [.int 0, .int 0, .int 0, .int 0] (.int 0) ∧ h0.size ≤ r
theorem own_nbf2 (l : Launch) (Z : State) (a0 : Array Value) (hw : ∀ d ∈ tables_1, d.before a0 Z = true) (ws : List Jvm.Cond) (h0 : Heap) (n0 : Nat) (O0 : Old Z n0 h0) : own_Met l Z (⟨"java/lang/StringUTF16", "newBytesFor", "(I)[B"⟩ : MethodName) jdk_52_method_2_code 1 (some (.array .byte)) ws ({ frames := 1, cells := 1, slots := 4, locals := 12 } : Room) #[.int 2] h0 (Q_own_nbf2 Z h0 n0) := by
  refine own_mk (plainFor_of_name own_pn_java_lang_StringUTF16) O0 ?_
  intro p e s m below meth c s₁ hx hby hml hZ hown hnm hlk hret X0 e0 N0 z0 z1
  have K0 : Keep h0 h0 [] := Keep.refl _ _
  refine own_cast (own_ef_own_nbf2 m) ?_
  show own_Goes p e below (s₁.setTop (mkF m 0 #[vI 2] [])) _
  refine q_iloadN X0 hx hby d26_0 rfl ?_
  refine k_S X0 hx hby hZ hown (wh hw 117 rfl) (wh hw 118 rfl) (W := 0) (own_nbl2 l Z a0 hw []  h0 n0 O0) (wh hw 119 rfl) (wh hw 75 rfl) e0  hml (argsL := [.int 2]) (rest := []) own_pd_0 d26_1 (fun _ T1 L1 X1 hQ1 => ?_)
  obtain ⟨Nc1, e1, rfl⟩ := hQ1
  have N1 := Fr.app N0 Nc1
  obtain ⟨T2, h2, k2, X2, e2, E2, A2, st2⟩ := newP X1 hx hZ (wh hw 25 rfl) e1 (g := (mkF m 4 #[vI 2] [.int 4])) rfl (hb hby d26_4) rfl (by decide) (cap := 4) (by decide) (by decide) (by decide) (by decide)
  obtain ⟨b2, g2⟩ : ∃ z, z = h0.size := ⟨_, rfl⟩
  rw [← g2] at A2 st2
  refine gg st2 ?_
  have O3 := O0.ext E2
  have sz4 : h0.size ≤ h2.size := E2.1
  have K5 := K0.ext E2
  have l2 : @LT.lt Nat _ b2 h2.size := A2.lt
  have V2 : Arv Z h2 b2 k2 .byte (4 : Int32) [.int 0, .int 0, .int 0, .int 0] (.int 0) := (Arv.new A2 (by decide)).pad (pad_rep [] (.int 0) 4)
  refine r_R X2 hx hby hret hlk d26_6 e2 ?_
  exact ⟨N1, K5, b2, k2, rfl, V2, (show h0.size ≤ b2 by first | assumption | omega | decide)⟩
theorem own_ef_own_pc2_0 (m : MethodId) (xb : Addr) (xi : Int32) : entryFrame m #[.ref xb, .int 0, .int xi] 3 = mkF m 0 #[vR xb, vI 0, vI xi] [] := by first | (simp [entryFrame, mkF, argsToLocals, Value.category]; done) | rfl
def Q_own_pc2_0 (Z : State) (xb : Addr) (xq : ClassId) (xi : Int32) (y0 : Int32) (y1 : Int32) (y2 : Int32) (y3 : Int32) (gz : Int32) (gfm : Value) (h0 : Heap) (n0 : Nat) (v : Option Value) (h : Heap) (L : List Loc) : Prop := Fr n0 L ∧ Keep h0 h [xb] ∧ v = none ∧ Arv Z h xb xq .byte (4 : Int32) [(.int (xi.toInt8.toInt32)), (.int ((xi >>> ((8 : Int32) &&& 31)).toInt8.toInt32)), .int y2, .int y3] (.int 0)
theorem own_pc2_0 (l : Launch) (Z : State) (a0 : Array Value) (hw : ∀ d ∈ tables_1, d.before a0 Z = true) (ws : List Jvm.Cond) (xb : Addr) (xq : ClassId) (xi : Int32) (y0 : Int32) (y1 : Int32) (y2 : Int32) (y3 : Int32) (h0 : Heap) (n0 : Nat) (O0 : Old Z n0 h0) (gz : Int32) (gfm : Value) (G : GG Z gz gfm) (P0 : Arv Z h0 xb xq .byte (4 : Int32) [.int y0, .int y1, .int y2, .int y3] (.int 0)) (P1 : n0 ≤ xb) : own_Met l Z (⟨"java/lang/StringUTF16", "putChar", "([BII)V"⟩ : MethodName) jdk_52_method_4_code 3 none ws ({ frames := 0, cells := 0, slots := 0, locals := 0 } : Room) #[.ref xb, .int 0, .int xi] h0 (Q_own_pc2_0 Z xb xq xi y0 y1 y2 y3 gz gfm h0 n0) := by
  refine own_mk (plainFor_of_name own_pn_java_lang_StringUTF16) O0 ?_
  intro p e s m below meth c s₁ hx hby hml hZ hown hnm hlk hret X0 e0 N0 z0 z1
  have K0 : Keep h0 h0 [xb] := Keep.refl _ _
  refine own_cast (own_ef_own_pc2_0 m xb xi) ?_
  show own_Goes p e below (s₁.setTop (mkF m 0 #[vR xb, vI 0, vI xi] [])) _
  obtain ⟨G0, G1, G2, G3, G4, G5, G6⟩ := id G
  have ltP0 : @LT.lt Nat _ xb h0.size := P0.lt
  have q1 := G2.ext O0.2
  refine qS X0 hx hby hZ hown (host := "") (Or.inl (wh hw 124 rfl)) Via.refl e0 q1 d28_0 (fun T2 X2 e2 => ?_)
  refine q_ifYes (pc := 3) X2 hx hby d28_3 (pc' := 28) ((if0 _ _).trans (feq (show ¬ ((1 : Int32) = (0 : Int32)) from by decide)).2) (by decide) (by decide) ?_
  refine q_iloadN X2 hx hby d28_28 rfl ?_
  refine q_iconst X2 hx hby d28_29 ?_
  refine gg (fun t k => XS.ishl X2.here hx rfl (hb hby d28_30) rfl k) ?_
  show own_Goes p e below (T2.setTop (mkF m 31 #[vR xb, vI 0, vI xi] [(.int ((0 : Int32) <<< ((1 : Int32) &&& 31)))])) _
  rw [show ((0 : Int32) <<< ((1 : Int32) &&& 31)) = (0 : Int32) from by decide]
  refine q_istoreN X2 hx hby d28_31 (l' := #[vR xb, vI 0, vI xi]) rfl ?_
  refine q_aloadN X2 hx hby d28_32 rfl rfl ?_
  refine q_iloadN X2 hx hby d28_33 rfl ?_
  refine gg (fun t k => XS.iinc X2.here hx rfl (hb hby d28_34) rfl (l' := #[vR xb, vI ((0 : Int32) + (1 : Int32)), vI xi]) rfl k) ?_
  show own_Goes p e below (T2.setTop (mkF m 37 #[vR xb, vI ((0 : Int32) + (1 : Int32)), vI xi] [.int 0, .ref xb])) _
  rw [show ((0 : Int32) + (1 : Int32)) = (1 : Int32) from by decide]
  refine q_iloadN X2 hx hby d28_37 rfl ?_
  have q3 := G3.ext O0.2
  refine qS X2 hx hby hZ hown (host := "") (Or.inl (wh hw 125 rfl)) Via.refl e2 q3 d28_38 (fun T4 X4 e4 => ?_)
  refine gg (fun t k => XS.ishr X4.here hx rfl (hb hby d28_41) rfl k) ?_
  show own_Goes p e below (T4.setTop (mkF m 42 #[vR xb, vI 1, vI xi] [(.int (xi >>> ((0 : Int32) &&& 31))), .int 0, .ref xb])) _
  rw [show (xi >>> ((0 : Int32) &&& 31)) = xi from own_sh0 xi]
  refine gg (fun t k => XS.i2b X4.here hx rfl (hb hby d28_42) rfl k) ?_
  refine q_stB X4 hx hby hZ e4 P0 0 d28_43 (fun T6 h6 X6 e6 W6 V6 => ?_)
  have O7 := O0.wr W6 (show n0 ≤ xb by omega)
  have sz8 : h6.size = h0.size := Wr.size W6
  have K9 := K0.wr W6 (Or.inl (List.mem_of_getElem? (i := 0) rfl))
  have N6 := Fr.snoc X6 N0 (show n0 ≤ xb by omega)
  have V6 : Arv Z h6 xb xq .byte (4 : Int32) [(.int ((xi.toInt8.toInt32).toInt8.toInt32)), .int y1, .int y2, .int y3] (.int 0) := V6
  rw [show ((xi.toInt8.toInt32).toInt8.toInt32) = (xi.toInt8.toInt32) from own_i8i8 _] at V6
  refine q_aloadN X6 hx hby d28_44 rfl rfl ?_
  refine q_iloadN X6 hx hby d28_45 rfl ?_
  refine q_iloadN X6 hx hby d28_46 rfl ?_
  have q10 := G4.ext O7.2
  refine qS X6 hx hby hZ hown (host := "") (Or.inl (wh hw 126 rfl)) Via.refl e6 q10 d28_47 (fun T11 X11 e11 => ?_)
  refine gg (fun t k => XS.ishr X11.here hx rfl (hb hby d28_50) rfl k) ?_
  refine gg (fun t k => XS.i2b X11.here hx rfl (hb hby d28_51) rfl k) ?_
  refine q_stB X11 hx hby hZ e11 V6 1 d28_52 (fun T13 h13 X13 e13 W13 V13 => ?_)
  have O14 := O7.wr W13 (show n0 ≤ xb by omega)
  have sz15 : h13.size = h6.size := Wr.size W13
  have K16 := K9.wr W13 (Or.inl (List.mem_of_getElem? (i := 0) rfl))
  have N13 := Fr.snoc X13 N6 (show n0 ≤ xb by omega)
  have V13 : Arv Z h13 xb xq .byte (4 : Int32) [(.int (xi.toInt8.toInt32)), (.int (((xi >>> ((8 : Int32) &&& 31)).toInt8.toInt32).toInt8.toInt32)), .int y2, .int y3] (.int 0) := V13
  rw [show (((xi >>> ((8 : Int32) &&& 31)).toInt8.toInt32).toInt8.toInt32) = ((xi >>> ((8 : Int32) &&& 31)).toInt8.toInt32) from own_i8i8 _] at V13
  refine r_V X13 hx hby hret hlk d28_53 e13 ?_
  exact ⟨N13, K16, rfl, V13⟩
theorem own_ef_own_gc2_0 (m : MethodId) (xb : Addr) : entryFrame m #[.ref xb, .int 0] 2 = mkF m 0 #[vR xb, vI 0] [] := by first | (simp [entryFrame, mkF, argsToLocals, Value.category]; done) | rfl
def Q_own_gc2_0 (Z : State) (xb : Addr) (xq : ClassId) (y0 : Int32) (y1 : Int32) (y2 : Int32) (y3 : Int32) (gz : Int32) (gfm : Value) (h0 : Heap) (n0 : Nat) (v : Option Value) (h : Heap) (L : List Loc) : Prop := Fr n0 L ∧ h = h0 ∧ v = some (.int ((((y0 &&& (255 : Int32)) <<< ((0 : Int32) &&& 31)) ||| ((y1 &&& (255 : Int32)) <<< ((8 : Int32) &&& 31))).toUInt32.toUInt16.toUInt32.toInt32))
theorem own_gc2_0 (l : Launch) (Z : State) (a0 : Array Value) (hw : ∀ d ∈ tables_1, d.before a0 Z = true) (ws : List Jvm.Cond) (xb : Addr) (xq : ClassId) (y0 : Int32) (y1 : Int32) (y2 : Int32) (y3 : Int32) (h0 : Heap) (n0 : Nat) (O0 : Old Z n0 h0) (gz : Int32) (gfm : Value) (G : GG Z gz gfm) (P0 : Arv Z h0 xb xq .byte (4 : Int32) [.int y0, .int y1, .int y2, .int y3] (.int 0)) : own_Met l Z (⟨"java/lang/StringUTF16", "getChar", "([BI)C"⟩ : MethodName) jdk_52_method_5_code 2 (some .char) ws ({ frames := 0, cells := 0, slots := 0, locals := 0 } : Room) #[.ref xb, .int 0] h0 (Q_own_gc2_0 Z xb xq y0 y1 y2 y3 gz gfm h0 n0) := by
  refine own_mk (plainFor_of_name own_pn_java_lang_StringUTF16) O0 ?_
  intro p e s m below meth c s₁ hx hby hml hZ hown hnm hlk hret X0 e0 N0 z0 z1
  refine own_cast (own_ef_own_gc2_0 m xb) ?_
  show own_Goes p e below (s₁.setTop (mkF m 0 #[vR xb, vI 0] [])) _
  obtain ⟨G0, G1, G2, G3, G4, G5, G6⟩ := id G
  have ltP0 : @LT.lt Nat _ xb h0.size := P0.lt
  have q1 := G2.ext O0.2
  refine qS X0 hx hby hZ hown (host := "") (Or.inl (wh hw 124 rfl)) Via.refl e0 q1 d29_0 (fun T2 X2 e2 => ?_)
  refine q_ifYes (pc := 3) X2 hx hby d29_3 (pc' := 28) ((if0 _ _).trans (feq (show ¬ ((1 : Int32) = (0 : Int32)) from by decide)).2) (by decide) (by decide) ?_
  refine q_iloadN X2 hx hby d29_28 rfl ?_
  refine q_iconst X2 hx hby d29_29 ?_
  refine gg (fun t k => XS.ishl X2.here hx rfl (hb hby d29_30) rfl k) ?_
  show own_Goes p e below (T2.setTop (mkF m 31 #[vR xb, vI 0] [(.int ((0 : Int32) <<< ((1 : Int32) &&& 31)))])) _
  rw [show ((0 : Int32) <<< ((1 : Int32) &&& 31)) = (0 : Int32) from by decide]
  refine q_istoreN X2 hx hby d29_31 (l' := #[vR xb, vI 0]) rfl ?_
  refine q_aloadN X2 hx hby d29_32 rfl rfl ?_
  refine q_iloadN X2 hx hby d29_33 rfl ?_
  refine gg (fun t k => XS.iinc X2.here hx rfl (hb hby d29_34) rfl (l' := #[vR xb, vI ((0 : Int32) + (1 : Int32))]) rfl k) ?_
  show own_Goes p e below (T2.setTop (mkF m 37 #[vR xb, vI ((0 : Int32) + (1 : Int32))] [.int 0, .ref xb])) _
  rw [show ((0 : Int32) + (1 : Int32)) = (1 : Int32) from by decide]
  refine q_baloadBytes X2 hx hby hZ e2 P0 d29_37 (.int y0) ?_
  refine q_sipush X2 hx hby d29_38 ?_
  refine q_iand X2 hx hby d29_41 ?_
  have q4 := G3.ext O0.2
  refine qS X2 hx hby hZ hown (host := "") (Or.inl (wh hw 125 rfl)) Via.refl e2 q4 d29_42 (fun T5 X5 e5 => ?_)
  refine gg (fun t k => XS.ishl X5.here hx rfl (hb hby d29_45) rfl k) ?_
  refine q_aloadN X5 hx hby d29_46 rfl rfl ?_
  refine q_iloadN X5 hx hby d29_47 rfl ?_
  refine q_baloadBytes X5 hx hby hZ e5 P0 d29_48 (.int y1) ?_
  refine q_sipush X5 hx hby d29_49 ?_
  refine q_iand X5 hx hby d29_52 ?_
  have q7 := G4.ext O0.2
  refine qS X5 hx hby hZ hown (host := "") (Or.inl (wh hw 126 rfl)) Via.refl e5 q7 d29_53 (fun T8 X8 e8 => ?_)
  refine gg (fun t k => XS.ishl X8.here hx rfl (hb hby d29_56) rfl k) ?_
  refine gg (fun t k => XS.ior X8.here hx rfl (hb hby d29_57) rfl k) ?_
  refine gg (fun t k => XS.i2c X8.here hx rfl (hb hby d29_58) rfl k) ?_
  show own_Goes p e below (T8.setTop (mkF m 59 #[vR xb, vI 1] [(.int ((((y0 &&& (255 : Int32)) <<< ((0 : Int32) &&& 31)) ||| ((y1 &&& (255 : Int32)) <<< ((8 : Int32) &&& 31))).toUInt32.toUInt16.toUInt32.toInt32))])) _
  refine r_C X8 hx hby hret hlk d29_59 e8 ?_ (hn := (own_narr16 (own_C16i _)))
  exact ⟨N0, rfl, rfl⟩
theorem own_ef_own_pc2_1 (m : MethodId) (xb : Addr) (xi : Int32) : entryFrame m #[.ref xb, .int 1, .int xi] 3 = mkF m 0 #[vR xb, vI 1, vI xi] [] := by first | (simp [entryFrame, mkF, argsToLocals, Value.category]; done) | rfl
def Q_own_pc2_1 (Z : State) (xb : Addr) (xq : ClassId) (xi : Int32) (y0 : Int32) (y1 : Int32) (y2 : Int32) (y3 : Int32) (gz : Int32) (gfm : Value) (h0 : Heap) (n0 : Nat) (v : Option Value) (h : Heap) (L : List Loc) : Prop := Fr n0 L ∧ Keep h0 h [xb] ∧ v = none ∧ Arv Z h xb xq .byte (4 : Int32) [.int y0, .int y1, (.int (xi.toInt8.toInt32)), (.int ((xi >>> ((8 : Int32) &&& 31)).toInt8.toInt32))] (.int 0)
theorem own_pc2_1 (l : Launch) (Z : State) (a0 : Array Value) (hw : ∀ d ∈ tables_1, d.before a0 Z = true) (ws : List Jvm.Cond) (xb : Addr) (xq : ClassId) (xi : Int32) (y0 : Int32) (y1 : Int32) (y2 : Int32) (y3 : Int32) (h0 : Heap) (n0 : Nat) (O0 : Old Z n0 h0) (gz : Int32) (gfm : Value) (G : GG Z gz gfm) (P0 : Arv Z h0 xb xq .byte (4 : Int32) [.int y0, .int y1, .int y2, .int y3] (.int 0)) (P1 : n0 ≤ xb) : own_Met l Z (⟨"java/lang/StringUTF16", "putChar", "([BII)V"⟩ : MethodName) jdk_52_method_4_code 3 none ws ({ frames := 0, cells := 0, slots := 0, locals := 0 } : Room) #[.ref xb, .int 1, .int xi] h0 (Q_own_pc2_1 Z xb xq xi y0 y1 y2 y3 gz gfm h0 n0) := by
  refine own_mk (plainFor_of_name own_pn_java_lang_StringUTF16) O0 ?_
  intro p e s m below meth c s₁ hx hby hml hZ hown hnm hlk hret X0 e0 N0 z0 z1
  have K0 : Keep h0 h0 [xb] := Keep.refl _ _
  refine own_cast (own_ef_own_pc2_1 m xb xi) ?_
  show own_Goes p e below (s₁.setTop (mkF m 0 #[vR xb, vI 1, vI xi] [])) _
  obtain ⟨G0, G1, G2, G3, G4, G5, G6⟩ := id G
  have ltP0 : @LT.lt Nat _ xb h0.size := P0.lt
  have q1 := G2.ext O0.2
  refine qS X0 hx hby hZ hown (host := "") (Or.inl (wh hw 124 rfl)) Via.refl e0 q1 d28_0 (fun T2 X2 e2 => ?_)
  refine q_ifYes (pc := 3) X2 hx hby d28_3 (pc' := 28) ((if0 _ _).trans (feq (show ¬ ((1 : Int32) = (0 : Int32)) from by decide)).2) (by decide) (by decide) ?_
  refine q_iloadN X2 hx hby d28_28 rfl ?_
  refine q_iconst X2 hx hby d28_29 ?_
  refine gg (fun t k => XS.ishl X2.here hx rfl (hb hby d28_30) rfl k) ?_
  show own_Goes p e below (T2.setTop (mkF m 31 #[vR xb, vI 1, vI xi] [(.int ((1 : Int32) <<< ((1 : Int32) &&& 31)))])) _
  rw [show ((1 : Int32) <<< ((1 : Int32) &&& 31)) = (2 : Int32) from by decide]
  refine q_istoreN X2 hx hby d28_31 (l' := #[vR xb, vI 2, vI xi]) rfl ?_
  refine q_aloadN X2 hx hby d28_32 rfl rfl ?_
  refine q_iloadN X2 hx hby d28_33 rfl ?_
  refine gg (fun t k => XS.iinc X2.here hx rfl (hb hby d28_34) rfl (l' := #[vR xb, vI ((2 : Int32) + (1 : Int32)), vI xi]) rfl k) ?_
  show own_Goes p e below (T2.setTop (mkF m 37 #[vR xb, vI ((2 : Int32) + (1 : Int32)), vI xi] [.int 2, .ref xb])) _
  rw [show ((2 : Int32) + (1 : Int32)) = (3 : Int32) from by decide]
  refine q_iloadN X2 hx hby d28_37 rfl ?_
  have q3 := G3.ext O0.2
  refine qS X2 hx hby hZ hown (host := "") (Or.inl (wh hw 125 rfl)) Via.refl e2 q3 d28_38 (fun T4 X4 e4 => ?_)
  refine gg (fun t k => XS.ishr X4.here hx rfl (hb hby d28_41) rfl k) ?_
  show own_Goes p e below (T4.setTop (mkF m 42 #[vR xb, vI 3, vI xi] [(.int (xi >>> ((0 : Int32) &&& 31))), .int 2, .ref xb])) _
  rw [show (xi >>> ((0 : Int32) &&& 31)) = xi from own_sh0 xi]
  refine gg (fun t k => XS.i2b X4.here hx rfl (hb hby d28_42) rfl k) ?_
  refine q_stB X4 hx hby hZ e4 P0 2 d28_43 (fun T6 h6 X6 e6 W6 V6 => ?_)
  have O7 := O0.wr W6 (show n0 ≤ xb by omega)
  have sz8 : h6.size = h0.size := Wr.size W6
  have K9 := K0.wr W6 (Or.inl (List.mem_of_getElem? (i := 0) rfl))
  have N6 := Fr.snoc X6 N0 (show n0 ≤ xb by omega)
  have V6 : Arv Z h6 xb xq .byte (4 : Int32) [.int y0, .int y1, (.int ((xi.toInt8.toInt32).toInt8.toInt32)), .int y3] (.int 0) := V6
  rw [show ((xi.toInt8.toInt32).toInt8.toInt32) = (xi.toInt8.toInt32) from own_i8i8 _] at V6
  refine q_aloadN X6 hx hby d28_44 rfl rfl ?_
  refine q_iloadN X6 hx hby d28_45 rfl ?_
  refine q_iloadN X6 hx hby d28_46 rfl ?_
  have q10 := G4.ext O7.2
  refine qS X6 hx hby hZ hown (host := "") (Or.inl (wh hw 126 rfl)) Via.refl e6 q10 d28_47 (fun T11 X11 e11 => ?_)
  refine gg (fun t k => XS.ishr X11.here hx rfl (hb hby d28_50) rfl k) ?_
  refine gg (fun t k => XS.i2b X11.here hx rfl (hb hby d28_51) rfl k) ?_
  refine q_stB X11 hx hby hZ e11 V6 3 d28_52 (fun T13 h13 X13 e13 W13 V13 => ?_)
  have O14 := O7.wr W13 (show n0 ≤ xb by omega)
  have sz15 : h13.size = h6.size := Wr.size W13
  have K16 := K9.wr W13 (Or.inl (List.mem_of_getElem? (i := 0) rfl))
  have N13 := Fr.snoc X13 N6 (show n0 ≤ xb by omega)
  have V13 : Arv Z h13 xb xq .byte (4 : Int32) [.int y0, .int y1, (.int (xi.toInt8.toInt32)), (.int (((xi >>> ((8 : Int32) &&& 31)).toInt8.toInt32).toInt8.toInt32))] (.int 0) := V13
  rw [show (((xi >>> ((8 : Int32) &&& 31)).toInt8.toInt32).toInt8.toInt32) = ((xi >>> ((8 : Int32) &&& 31)).toInt8.toInt32) from own_i8i8 _] at V13
  refine r_V X13 hx hby hret hlk d28_53 e13 ?_
  exact ⟨N13, K16, rfl, V13⟩
theorem own_ef_own_gc2_1 (m : MethodId) (xb : Addr) : entryFrame m #[.ref xb, .int 1] 2 = mkF m 0 #[vR xb, vI 1] [] := by first | (simp [entryFrame, mkF, argsToLocals, Value.category]; done) | rfl
def Q_own_gc2_1 (Z : State) (xb : Addr) (xq : ClassId) (y0 : Int32) (y1 : Int32) (y2 : Int32) (y3 : Int32) (gz : Int32) (gfm : Value) (h0 : Heap) (n0 : Nat) (v : Option Value) (h : Heap) (L : List Loc) : Prop := Fr n0 L ∧ h = h0 ∧ v = some (.int ((((y2 &&& (255 : Int32)) <<< ((0 : Int32) &&& 31)) ||| ((y3 &&& (255 : Int32)) <<< ((8 : Int32) &&& 31))).toUInt32.toUInt16.toUInt32.toInt32))
theorem own_gc2_1 (l : Launch) (Z : State) (a0 : Array Value) (hw : ∀ d ∈ tables_1, d.before a0 Z = true) (ws : List Jvm.Cond) (xb : Addr) (xq : ClassId) (y0 : Int32) (y1 : Int32) (y2 : Int32) (y3 : Int32) (h0 : Heap) (n0 : Nat) (O0 : Old Z n0 h0) (gz : Int32) (gfm : Value) (G : GG Z gz gfm) (P0 : Arv Z h0 xb xq .byte (4 : Int32) [.int y0, .int y1, .int y2, .int y3] (.int 0)) : own_Met l Z (⟨"java/lang/StringUTF16", "getChar", "([BI)C"⟩ : MethodName) jdk_52_method_5_code 2 (some .char) ws ({ frames := 0, cells := 0, slots := 0, locals := 0 } : Room) #[.ref xb, .int 1] h0 (Q_own_gc2_1 Z xb xq y0 y1 y2 y3 gz gfm h0 n0) := by
  refine own_mk (plainFor_of_name own_pn_java_lang_StringUTF16) O0 ?_
  intro p e s m below meth c s₁ hx hby hml hZ hown hnm hlk hret X0 e0 N0 z0 z1
  refine own_cast (own_ef_own_gc2_1 m xb) ?_
  show own_Goes p e below (s₁.setTop (mkF m 0 #[vR xb, vI 1] [])) _
  obtain ⟨G0, G1, G2, G3, G4, G5, G6⟩ := id G
  have ltP0 : @LT.lt Nat _ xb h0.size := P0.lt
  have q1 := G2.ext O0.2
  refine qS X0 hx hby hZ hown (host := "") (Or.inl (wh hw 124 rfl)) Via.refl e0 q1 d29_0 (fun T2 X2 e2 => ?_)
  refine q_ifYes (pc := 3) X2 hx hby d29_3 (pc' := 28) ((if0 _ _).trans (feq (show ¬ ((1 : Int32) = (0 : Int32)) from by decide)).2) (by decide) (by decide) ?_
  refine q_iloadN X2 hx hby d29_28 rfl ?_
  refine q_iconst X2 hx hby d29_29 ?_
  refine gg (fun t k => XS.ishl X2.here hx rfl (hb hby d29_30) rfl k) ?_
  show own_Goes p e below (T2.setTop (mkF m 31 #[vR xb, vI 1] [(.int ((1 : Int32) <<< ((1 : Int32) &&& 31)))])) _
  rw [show ((1 : Int32) <<< ((1 : Int32) &&& 31)) = (2 : Int32) from by decide]
  refine q_istoreN X2 hx hby d29_31 (l' := #[vR xb, vI 2]) rfl ?_
  refine q_aloadN X2 hx hby d29_32 rfl rfl ?_
  refine q_iloadN X2 hx hby d29_33 rfl ?_
  refine gg (fun t k => XS.iinc X2.here hx rfl (hb hby d29_34) rfl (l' := #[vR xb, vI ((2 : Int32) + (1 : Int32))]) rfl k) ?_
  show own_Goes p e below (T2.setTop (mkF m 37 #[vR xb, vI ((2 : Int32) + (1 : Int32))] [.int 2, .ref xb])) _
  rw [show ((2 : Int32) + (1 : Int32)) = (3 : Int32) from by decide]
  refine q_baloadBytes X2 hx hby hZ e2 P0 d29_37 (.int y2) ?_
  refine q_sipush X2 hx hby d29_38 ?_
  refine q_iand X2 hx hby d29_41 ?_
  have q4 := G3.ext O0.2
  refine qS X2 hx hby hZ hown (host := "") (Or.inl (wh hw 125 rfl)) Via.refl e2 q4 d29_42 (fun T5 X5 e5 => ?_)
  refine gg (fun t k => XS.ishl X5.here hx rfl (hb hby d29_45) rfl k) ?_
  refine q_aloadN X5 hx hby d29_46 rfl rfl ?_
  refine q_iloadN X5 hx hby d29_47 rfl ?_
  refine q_baloadBytes X5 hx hby hZ e5 P0 d29_48 (.int y3) ?_
  refine q_sipush X5 hx hby d29_49 ?_
  refine q_iand X5 hx hby d29_52 ?_
  have q7 := G4.ext O0.2
  refine qS X5 hx hby hZ hown (host := "") (Or.inl (wh hw 126 rfl)) Via.refl e5 q7 d29_53 (fun T8 X8 e8 => ?_)
  refine gg (fun t k => XS.ishl X8.here hx rfl (hb hby d29_56) rfl k) ?_
  refine gg (fun t k => XS.ior X8.here hx rfl (hb hby d29_57) rfl k) ?_
  refine gg (fun t k => XS.i2c X8.here hx rfl (hb hby d29_58) rfl k) ?_
  show own_Goes p e below (T8.setTop (mkF m 59 #[vR xb, vI 3] [(.int ((((y2 &&& (255 : Int32)) <<< ((0 : Int32) &&& 31)) ||| ((y3 &&& (255 : Int32)) <<< ((8 : Int32) &&& 31))).toUInt32.toUInt16.toUInt32.toInt32))])) _
  refine r_C X8 hx hby hret hlk d29_59 e8 ?_ (hn := (own_narr16 (own_C16i _)))
  exact ⟨N0, rfl, rfl⟩
theorem own_ef_own_toBy2 (m : MethodId) (xc : Addr) : entryFrame m #[.ref xc, .int 0, .int 2] 5 = mkF m 0 #[vR xc, vI 0, vI 2, uS, uS] [] := by first | (simp [entryFrame, mkF, argsToLocals, Value.category]; done) | rfl
def Q_own_toBy2 (Z : State) (xc : Addr) (xk : ClassId) (c0 : Int32) (c1 : Int32) (gz : Int32) (gfm : Value) (h0 : Heap) (n0 : Nat) (v : Option Value) (h : Heap) (L : List Loc) : Prop := Fr n0 L ∧ Keep h0 h [] ∧ ∃ (r : Addr), ∃ (rk : ClassId), v = some (.ref r) ∧ Arv Z h r rk .byte (4 : Int32) [(.int (c0.toInt8.toInt32)), (.int ((c0 >>> ((8 : Int32) &&& 31)).toInt8.toInt32)), (.int (c1.toInt8.toInt32)), (.int ((c1 >>> ((8 : Int32) &&& 31)).toInt8.toInt32))] (.int 0) ∧ h0.size ≤ r
theorem own_toBy2 (l : Launch) (Z : State) (a0 : Array Value) (hw : ∀ d ∈ tables_1, d.before a0 Z = true) (ws : List Jvm.Cond) (xc : Addr) (xk : ClassId) (c0 : Int32) (c1 : Int32) (h0 : Heap) (n0 : Nat) (O0 : Old Z n0 h0) (gz : Int32) (gfm : Value) (G : GG Z gz gfm) (P0 : Arv Z h0 xc xk .char (2 : Int32) [.int c0, .int c1] (.int 0)) : own_Met l Z (⟨"java/lang/StringUTF16", "toBytes", "([CII)[B"⟩ : MethodName) jdk_52_method_14_code 5 (some (.array .byte)) ws ({ frames := 2, cells := 1, slots := 4, locals := 24 } : Room) #[.ref xc, .int 0, .int 2] h0 (Q_own_toBy2 Z xc xk c0 c1 gz gfm h0 n0) := by
  refine own_mk (plainFor_of_name own_pn_java_lang_StringUTF16) O0 ?_
  intro p e s m below meth c s₁ hx hby hml hZ hown hnm hlk hret X0 e0 N0 z0 z1
  have K0 : Keep h0 h0 [] := Keep.refl _ _
  refine own_cast (own_ef_own_toBy2 m xc) ?_
  show own_Goes p e below (s₁.setTop (mkF m 0 #[vR xc, vI 0, vI 2, uS, uS] [])) _
  obtain ⟨G0, G1, G2, G3, G4, G5, G6⟩ := id G
  have ltP0 : @LT.lt Nat _ xc h0.size := P0.lt
  refine q_iloadN X0 hx hby d25_0 rfl ?_
  refine k_S X0 hx hby hZ hown (wh hw 114 rfl) (wh hw 115 rfl) (W := 0) (own_nbf2 l Z a0 hw []  h0 n0 O0) (wh hw 116 rfl) (wh hw 75 rfl) e0  hml (argsL := [.int 2]) (rest := []) own_pd_1 d25_1 (fun _ T1 L1 X1 hQ1 => ?_)
  obtain ⟨h1, e1⟩ : ∃ z, T1.heap = z := ⟨_, rfl⟩
  rw [e1] at hQ1
  obtain ⟨Nc1, Kc1, r_1, rk_1, rfl, c1_0, c1_1⟩ := hQ1
  have N1 := Fr.app N0 Nc1
  have O2 := O0.keep Kc1 all0
  have sz3 : h0.size ≤ h1.size := Kc1.1
  have K4 := Keep.trans K0 Kc1 all0
  have ltc1_0 : @LT.lt Nat _ r_1 h1.size := c1_0.lt
  refine q_astoreN X1 hx hby d25_4 rfl (l' := #[vR xc, vI 0, vI 2, vR r_1, uS]) rfl ?_
  refine q_iconst X1 hx hby d25_5 ?_
  refine q_istore X1 hx hby d25_6 (l' := #[vR xc, vI 0, vI 2, vR r_1, vI 0]) rfl ?_
  refine q_iload X1 hx hby d25_8 rfl ?_
  refine q_iloadN X1 hx hby d25_10 rfl ?_
  refine q_icmpNo X1 hx hby d25_11 (tlt (show ((0 : Int32) < (2 : Int32)) from by decide)).2.1 ?_
  refine q_aloadN X1 hx hby d25_14 rfl rfl ?_
  refine q_iload X1 hx hby d25_15 rfl ?_
  refine q_aloadN X1 hx hby d25_17 rfl rfl ?_
  refine q_iloadN X1 hx hby d25_18 rfl ?_
  have f5 := (P0.keep Kc1 nin0)
  refine q_caload X1 hx hby hZ e1 f5 d25_19 (.int c0) ?_
  refine k_S X1 hx hby hZ hown (wh hw 121 rfl) (wh hw 122 rfl) (W := 0) (own_pc2_0 l Z a0 hw [] r_1 rk_1 c0 (0 : Int32) (0 : Int32) (0 : Int32) (0 : Int32) h1 n0 O2 gz gfm G c1_0 (show n0 ≤ r_1 by first | assumption | omega | decide)) (wh hw 123 rfl) (wh hw 75 rfl) e1  hml (argsL := [.ref r_1, .int 0, .int c0]) (rest := []) own_pd_2 d25_20 (fun _ T7 L7 X7 hQ7 => ?_)
  obtain ⟨h7, e7⟩ : ∃ z, T7.heap = z := ⟨_, rfl⟩
  rw [e7] at hQ7
  obtain ⟨Nc7, Kc7, rfl, c7_0⟩ := hQ7
  have N7 := Fr.app N1 Nc7
  have O8 := O2.keep Kc7 (allS (show n0 ≤ r_1 by omega) all0)
  have sz9 : h1.size ≤ h7.size := Kc7.1
  have K10 := Keep.trans K4 Kc7 (allS (Or.inr (show h0.size ≤ r_1 by omega)) all0)
  have ltc7_0 : @LT.lt Nat _ r_1 h7.size := c7_0.lt
  show own_Goes p e below (T7.setTop (mkF m 23 #[vR xc, vI 0, vI 2, vR r_1, vI 0] [])) _
  refine gg (fun t k => XS.iinc X7.here hx rfl (hb hby d25_23) rfl (l' := #[vR xc, vI ((0 : Int32) + (1 : Int32)), vI 2, vR r_1, vI 0]) rfl k) ?_
  show own_Goes p e below (T7.setTop (mkF m 26 #[vR xc, vI ((0 : Int32) + (1 : Int32)), vI 2, vR r_1, vI 0] [])) _
  rw [show ((0 : Int32) + (1 : Int32)) = (1 : Int32) from by decide]
  refine gg (fun t k => XS.iinc X7.here hx rfl (hb hby d25_26) rfl (l' := #[vR xc, vI 1, vI 2, vR r_1, vI ((0 : Int32) + (1 : Int32))]) rfl k) ?_
  show own_Goes p e below (T7.setTop (mkF m 29 #[vR xc, vI 1, vI 2, vR r_1, vI ((0 : Int32) + (1 : Int32))] [])) _
  rw [show ((0 : Int32) + (1 : Int32)) = (1 : Int32) from by decide]
  refine q_goto (pc := 29) X7 hx hby d25_29 (pc' := 8) (by decide) (by decide) ?_
  refine q_iload X7 hx hby d25_8 rfl ?_
  refine q_iloadN X7 hx hby d25_10 rfl ?_
  refine q_icmpNo X7 hx hby d25_11 (tlt (show ((1 : Int32) < (2 : Int32)) from by decide)).2.1 ?_
  refine q_aloadN X7 hx hby d25_14 rfl rfl ?_
  refine q_iload X7 hx hby d25_15 rfl ?_
  refine q_aloadN X7 hx hby d25_17 rfl rfl ?_
  refine q_iloadN X7 hx hby d25_18 rfl ?_
  have f11 := (f5.keep Kc7 (ninS (nE xc r_1 (by omega)) nin0))
  refine q_caload X7 hx hby hZ e7 f11 d25_19 (.int c1) ?_
  refine k_S X7 hx hby hZ hown (wh hw 121 rfl) (wh hw 122 rfl) (W := 0) (own_pc2_1 l Z a0 hw [] r_1 rk_1 c1 (c0.toInt8.toInt32) ((c0 >>> ((8 : Int32) &&& 31)).toInt8.toInt32) (0 : Int32) (0 : Int32) h7 n0 O8 gz gfm G c7_0 (show n0 ≤ r_1 by first | assumption | omega | decide)) (wh hw 123 rfl) (wh hw 75 rfl) e7  hml (argsL := [.ref r_1, .int 1, .int c1]) (rest := []) own_pd_2 d25_20 (fun _ T13 L13 X13 hQ13 => ?_)
  obtain ⟨h13, e13⟩ : ∃ z, T13.heap = z := ⟨_, rfl⟩
  rw [e13] at hQ13
  obtain ⟨Nc13, Kc13, rfl, c13_0⟩ := hQ13
  have N13 := Fr.app N7 Nc13
  have O14 := O8.keep Kc13 (allS (show n0 ≤ r_1 by omega) all0)
  have sz15 : h7.size ≤ h13.size := Kc13.1
  have K16 := Keep.trans K10 Kc13 (allS (Or.inr (show h0.size ≤ r_1 by omega)) all0)
  have ltc13_0 : @LT.lt Nat _ r_1 h13.size := c13_0.lt
  refine gg (fun t k => XS.iinc X13.here hx rfl (hb hby d25_23) rfl (l' := #[vR xc, vI ((1 : Int32) + (1 : Int32)), vI 2, vR r_1, vI 1]) rfl k) ?_
  show own_Goes p e below (T13.setTop (mkF m 26 #[vR xc, vI ((1 : Int32) + (1 : Int32)), vI 2, vR r_1, vI 1] [])) _
  rw [show ((1 : Int32) + (1 : Int32)) = (2 : Int32) from by decide]
  refine gg (fun t k => XS.iinc X13.here hx rfl (hb hby d25_26) rfl (l' := #[vR xc, vI 2, vI 2, vR r_1, vI ((1 : Int32) + (1 : Int32))]) rfl k) ?_
  show own_Goes p e below (T13.setTop (mkF m 29 #[vR xc, vI 2, vI 2, vR r_1, vI ((1 : Int32) + (1 : Int32))] [])) _
  rw [show ((1 : Int32) + (1 : Int32)) = (2 : Int32) from by decide]
  refine q_goto (pc := 29) X13 hx hby d25_29 (pc' := 8) (by decide) (by decide) ?_
  refine q_iload X13 hx hby d25_8 rfl ?_
  refine q_iloadN X13 hx hby d25_10 rfl ?_
  refine q_icmpYes (pc := 11) X13 hx hby d25_11 (pc' := 32) (flt (show ¬ ((2 : Int32) < (2 : Int32)) from by decide)).2.1 (by decide) (by decide) ?_
  refine q_aloadN X13 hx hby d25_32 rfl rfl ?_
  refine r_R X13 hx hby hret hlk d25_33 e13 ?_
  exact ⟨N13, K16, r_1, rk_1, rfl, c13_0, (show h0.size ≤ r_1 by first | assumption | omega | decide)⟩
theorem own_ef_own_ci2 (m : MethodId) (xc : Addr) (xb : Addr) : entryFrame m #[.ref xc, .int 0, .ref xb, .int 0, .int 2] 7 = mkF m 0 #[vR xc, vI 0, vR xb, vI 0, vI 2, uS, uS] [] := by first | (simp [entryFrame, mkF, argsToLocals, Value.category]; done) | rfl
def Q_own_ci2 (Z : State) (xc : Addr) (xk : ClassId) (xb : Addr) (xq : ClassId) (c0 : Int32) (c1 : Int32) (h0 : Heap) (n0 : Nat) (v : Option Value) (h : Heap) (L : List Loc) : Prop := Fr n0 L ∧ Keep h0 h [xb] ∧ ∃ (r : Int32), ∃ (y0 : Int32), ∃ (y1 : Int32), v = some (.int r) ∧ Arv Z h xb xq .byte (2 : Int32) [.int y0, .int y1] (.int 0) ∧ ((r = (2 : Int32) ∧ y0 = (c0.toInt8.toInt32) ∧ y1 = (c1.toInt8.toInt32) ∧ ¬ (255 : Int32) < c0 ∧ ¬ (255 : Int32) < c1) ∨ (r = (0 : Int32) ∧ (255 : Int32) < c0) ∨ (r = (1 : Int32) ∧ (255 : Int32) < c1))
theorem own_ci2 (l : Launch) (Z : State) (a0 : Array Value) (hw : ∀ d ∈ tables_1, d.before a0 Z = true) (ws : List Jvm.Cond) (xc : Addr) (xk : ClassId) (xb : Addr) (xq : ClassId) (c0 : Int32) (c1 : Int32) (h0 : Heap) (n0 : Nat) (O0 : Old Z n0 h0) (P0 : Arv Z h0 xc xk .char (2 : Int32) [.int c0, .int c1] (.int 0)) (P1 : Arv Z h0 xb xq .byte (2 : Int32) [.int 0, .int 0] (.int 0)) (P2 : @LT.lt Nat _ xc xb) (P3 : n0 ≤ xb) : own_Met l Z (⟨"java/lang/StringUTF16", "compress", "([CI[BII)I"⟩ : MethodName) jdk_52_method_21_code 7 (some .int) ws ({ frames := 0, cells := 0, slots := 0, locals := 0 } : Room) #[.ref xc, .int 0, .ref xb, .int 0, .int 2] h0 (Q_own_ci2 Z xc xk xb xq c0 c1 h0 n0) := by
  refine own_mk (plainFor_of_name own_pn_java_lang_StringUTF16) O0 ?_
  intro p e s m below meth c s₁ hx hby hml hZ hown hnm hlk hret X0 e0 N0 z0 z1
  have K0 : Keep h0 h0 [xb] := Keep.refl _ _
  refine own_cast (own_ef_own_ci2 m xc xb) ?_
  show own_Goes p e below (s₁.setTop (mkF m 0 #[vR xc, vI 0, vR xb, vI 0, vI 2, uS, uS] [])) _
  have ltP0 : @LT.lt Nat _ xc h0.size := P0.lt
  have ltP1 : @LT.lt Nat _ xb h0.size := P1.lt
  refine q_iconst X0 hx hby d17_0 ?_
  refine q_istore X0 hx hby d17_1 (l' := #[vR xc, vI 0, vR xb, vI 0, vI 2, vI 0, uS]) rfl ?_
  refine q_iload X0 hx hby d17_3 rfl ?_
  refine q_iload X0 hx hby d17_5 rfl ?_
  refine q_icmpNo X0 hx hby d17_7 (tlt (show ((0 : Int32) < (2 : Int32)) from by decide)).2.1 ?_
  refine q_aloadN X0 hx hby d17_10 rfl rfl ?_
  refine q_iloadN X0 hx hby d17_11 rfl ?_
  refine q_caload X0 hx hby hZ e0 P0 d17_12 (.int c0) ?_
  refine q_istore X0 hx hby d17_13 (l' := #[vR xc, vI 0, vR xb, vI 0, vI 2, vI 0, vI c0]) rfl ?_
  refine q_iload X0 hx hby d17_15 rfl ?_
  refine q_sipush X0 hx hby d17_17 ?_
  by_cases hc2 : (255 : Int32) < c0
  · refine q_icmpNo X0 hx hby d17_20 (tlt hc2).2.2.2 ?_
    refine q_iload X0 hx hby d17_23 rfl ?_
    refine r_I X0 hx hby hret hlk d17_25 e0 ?_
    exact ⟨N0, K0, (0 : Int32), (0 : Int32), (0 : Int32), rfl, P1, (Or.inr (Or.inl ⟨rfl, hc2⟩))⟩
  · refine q_icmpYes (pc := 20) X0 hx hby d17_20 (pc' := 26) (flt hc2).2.2.2 (by decide) (by decide) ?_
    show own_Goes p e below (s₁.setTop (mkF m 26 #[vR xc, vI 0, vR xb, vI 0, vI 2, vI 0, vI c0] [])) _
    refine q_aloadN X0 hx hby d17_26 rfl rfl ?_
    refine q_iloadN X0 hx hby d17_27 rfl ?_
    refine q_iload X0 hx hby d17_28 rfl ?_
    refine gg (fun t k => XS.i2b X0.here hx rfl (hb hby d17_30) rfl k) ?_
    refine q_stB X0 hx hby hZ e0 P1 0 d17_31 (fun T4 h4 X4 e4 W4 V4 => ?_)
    have O5 := O0.wr W4 (show n0 ≤ xb by omega)
    have sz6 : h4.size = h0.size := Wr.size W4
    have K7 := K0.wr W4 (Or.inl (List.mem_of_getElem? (i := 0) rfl))
    have N4 := Fr.snoc X4 N0 (show n0 ≤ xb by omega)
    have V4 : Arv Z h4 xb xq .byte (2 : Int32) [(.int ((c0.toInt8.toInt32).toInt8.toInt32)), .int 0] (.int 0) := V4
    rw [show ((c0.toInt8.toInt32).toInt8.toInt32) = (c0.toInt8.toInt32) from own_i8i8 _] at V4
    refine gg (fun t k => XS.iinc X4.here hx rfl (hb hby d17_32) rfl (l' := #[vR xc, vI ((0 : Int32) + (1 : Int32)), vR xb, vI 0, vI 2, vI 0, vI c0]) rfl k) ?_
    show own_Goes p e below (T4.setTop (mkF m 35 #[vR xc, vI ((0 : Int32) + (1 : Int32)), vR xb, vI 0, vI 2, vI 0, vI c0] [])) _
    rw [show ((0 : Int32) + (1 : Int32)) = (1 : Int32) from by decide]
    refine gg (fun t k => XS.iinc X4.here hx rfl (hb hby d17_35) rfl (l' := #[vR xc, vI 1, vR xb, vI ((0 : Int32) + (1 : Int32)), vI 2, vI 0, vI c0]) rfl k) ?_
    show own_Goes p e below (T4.setTop (mkF m 38 #[vR xc, vI 1, vR xb, vI ((0 : Int32) + (1 : Int32)), vI 2, vI 0, vI c0] [])) _
    rw [show ((0 : Int32) + (1 : Int32)) = (1 : Int32) from by decide]
    refine gg (fun t k => XS.iinc X4.here hx rfl (hb hby d17_38) rfl (l' := #[vR xc, vI 1, vR xb, vI 1, vI 2, vI ((0 : Int32) + (1 : Int32)), vI c0]) rfl k) ?_
    show own_Goes p e below (T4.setTop (mkF m 41 #[vR xc, vI 1, vR xb, vI 1, vI 2, vI ((0 : Int32) + (1 : Int32)), vI c0] [])) _
    rw [show ((0 : Int32) + (1 : Int32)) = (1 : Int32) from by decide]
    refine q_goto (pc := 41) X4 hx hby d17_41 (pc' := 3) (by decide) (by decide) ?_
    refine q_iload X4 hx hby d17_3 rfl ?_
    refine q_iload X4 hx hby d17_5 rfl ?_
    refine q_icmpNo X4 hx hby d17_7 (tlt (show ((1 : Int32) < (2 : Int32)) from by decide)).2.1 ?_
    refine q_aloadN X4 hx hby d17_10 rfl rfl ?_
    refine q_iloadN X4 hx hby d17_11 rfl ?_
    have f8 := (P0.other W4 (nE xc xb (by omega)))
    refine q_caload X4 hx hby hZ e4 f8 d17_12 (.int c1) ?_
    refine q_istore X4 hx hby d17_13 (l' := #[vR xc, vI 1, vR xb, vI 1, vI 2, vI 1, vI c1]) rfl ?_
    refine q_iload X4 hx hby d17_15 rfl ?_
    refine q_sipush X4 hx hby d17_17 ?_
    by_cases hc10 : (255 : Int32) < c1
    · refine q_icmpNo X4 hx hby d17_20 (tlt hc10).2.2.2 ?_
      refine q_iload X4 hx hby d17_23 rfl ?_
      refine r_I X4 hx hby hret hlk d17_25 e4 ?_
      exact ⟨N4, K7, (1 : Int32), (c0.toInt8.toInt32), (0 : Int32), rfl, V4, (Or.inr (Or.inr ⟨rfl, hc10⟩))⟩
    · refine q_icmpYes (pc := 20) X4 hx hby d17_20 (pc' := 26) (flt hc10).2.2.2 (by decide) (by decide) ?_
      refine q_aloadN X4 hx hby d17_26 rfl rfl ?_
      show own_Goes p e below (T4.setTop (mkF m 27 #[vR xc, vI 1, vR xb, vI 1, vI 2, vI 1, vI c1] [.ref xb])) _
      refine q_iloadN X4 hx hby d17_27 rfl ?_
      refine q_iload X4 hx hby d17_28 rfl ?_
      refine gg (fun t k => XS.i2b X4.here hx rfl (hb hby d17_30) rfl k) ?_
      refine q_stB X4 hx hby hZ e4 V4 1 d17_31 (fun T12 h12 X12 e12 W12 V12 => ?_)
      have O13 := O5.wr W12 (show n0 ≤ xb by omega)
      have sz14 : h12.size = h4.size := Wr.size W12
      have K15 := K7.wr W12 (Or.inl (List.mem_of_getElem? (i := 0) rfl))
      have N12 := Fr.snoc X12 N4 (show n0 ≤ xb by omega)
      have V12 : Arv Z h12 xb xq .byte (2 : Int32) [(.int (c0.toInt8.toInt32)), (.int ((c1.toInt8.toInt32).toInt8.toInt32))] (.int 0) := V12
      rw [show ((c1.toInt8.toInt32).toInt8.toInt32) = (c1.toInt8.toInt32) from own_i8i8 _] at V12
      refine gg (fun t k => XS.iinc X12.here hx rfl (hb hby d17_32) rfl (l' := #[vR xc, vI ((1 : Int32) + (1 : Int32)), vR xb, vI 1, vI 2, vI 1, vI c1]) rfl k) ?_
      show own_Goes p e below (T12.setTop (mkF m 35 #[vR xc, vI ((1 : Int32) + (1 : Int32)), vR xb, vI 1, vI 2, vI 1, vI c1] [])) _
      rw [show ((1 : Int32) + (1 : Int32)) = (2 : Int32) from by decide]
      refine gg (fun t k => XS.iinc X12.here hx rfl (hb hby d17_35) rfl (l' := #[vR xc, vI 2, vR xb, vI ((1 : Int32) + (1 : Int32)), vI 2, vI 1, vI c1]) rfl k) ?_
      show own_Goes p e below (T12.setTop (mkF m 38 #[vR xc, vI 2, vR xb, vI ((1 : Int32) + (1 : Int32)), vI 2, vI 1, vI c1] [])) _
      rw [show ((1 : Int32) + (1 : Int32)) = (2 : Int32) from by decide]
      refine gg (fun t k => XS.iinc X12.here hx rfl (hb hby d17_38) rfl (l' := #[vR xc, vI 2, vR xb, vI 2, vI 2, vI ((1 : Int32) + (1 : Int32)), vI c1]) rfl k) ?_
      show own_Goes p e below (T12.setTop (mkF m 41 #[vR xc, vI 2, vR xb, vI 2, vI 2, vI ((1 : Int32) + (1 : Int32)), vI c1] [])) _
      rw [show ((1 : Int32) + (1 : Int32)) = (2 : Int32) from by decide]
      refine q_goto (pc := 41) X12 hx hby d17_41 (pc' := 3) (by decide) (by decide) ?_
      refine q_iload X12 hx hby d17_3 rfl ?_
      refine q_iload X12 hx hby d17_5 rfl ?_
      refine q_icmpYes (pc := 7) X12 hx hby d17_7 (pc' := 44) (flt (show ¬ ((2 : Int32) < (2 : Int32)) from by decide)).2.1 (by decide) (by decide) ?_
      refine q_iload X12 hx hby d17_44 rfl ?_
      refine r_I X12 hx hby hret hlk d17_46 e12 ?_
      exact ⟨N12, K15, (2 : Int32), (c0.toInt8.toInt32), (c1.toInt8.toInt32), rfl, V12, (Or.inl ⟨rfl, rfl, rfl, hc2, hc10⟩)⟩
theorem own_ef_own_co2 (m : MethodId) (xc : Addr) : entryFrame m #[.ref xc, .int 0, .int 2] 6 = mkF m 0 #[vR xc, vI 0, vI 2, uS, uS, uS] [] := by first | (simp [entryFrame, mkF, argsToLocals, Value.category]; done) | rfl
def Q_own_co2 (Z : State) (xc : Addr) (xk : ClassId) (c0 : Int32) (c1 : Int32) (gz : Int32) (gfm : Value) (h0 : Heap) (n0 : Nat) (v : Option Value) (h : Heap) (L : List Loc) : Prop := Fr n0 L ∧ Keep h0 h [] ∧ ∃ (r : Addr), v = some (.ref r) ∧ own_Cod Z h r ([c0, c1] : List Int32) ∧ h0.size ≤ r
theorem own_co2 (l : Launch) (Z : State) (a0 : Array Value) (hw : ∀ d ∈ tables_1, d.before a0 Z = true) (ws : List Jvm.Cond) (xc : Addr) (xk : ClassId) (c0 : Int32) (c1 : Int32) (h0 : Heap) (n0 : Nat) (O0 : Old Z n0 h0) (gz : Int32) (gfm : Value) (G : GG Z gz gfm) (P0 : Arv Z h0 xc xk .char (2 : Int32) [.int c0, .int c1] (.int 0)) (P1 : own_C16 c0) (P2 : own_C16 c1) : own_Met l Z (⟨"java/lang/StringUTF16", "compress", "([CII)[B"⟩ : MethodName) jdk_52_method_16_code 6 (some (.array .byte)) ws ({ frames := 3, cells := 2, slots := 6, locals := 40 } : Room) #[.ref xc, .int 0, .int 2] h0 (Q_own_co2 Z xc xk c0 c1 gz gfm h0 n0) := by
  refine own_mk (plainFor_of_name own_pn_java_lang_StringUTF16) O0 ?_
  intro p e s m below meth c s₁ hx hby hml hZ hown hnm hlk hret X0 e0 N0 z0 z1
  have K0 : Keep h0 h0 [] := Keep.refl _ _
  refine own_cast (own_ef_own_co2 m xc) ?_
  show own_Goes p e below (s₁.setTop (mkF m 0 #[vR xc, vI 0, vI 2, uS, uS, uS] [])) _
  obtain ⟨G0, G1, G2, G3, G4, G5, G6⟩ := id G
  have ltP0 : @LT.lt Nat _ xc h0.size := P0.lt
  refine q_iloadN X0 hx hby d16_0 rfl ?_
  obtain ⟨T1, h1, k1, X1, e1, E1, A1, st1⟩ := newP X0 hx hZ (wh hw 25 rfl) e0 (g := (mkF m 1 #[vR xc, vI 0, vI 2, uS, uS, uS] [.int 2])) rfl (hb hby d16_1) rfl (by decide) (cap := 2) (by decide) (by decide) (by decide) (by decide)
  obtain ⟨b1, g1⟩ : ∃ z, z = h0.size := ⟨_, rfl⟩
  rw [← g1] at A1 st1
  refine gg st1 ?_
  have O2 := O0.ext E1
  have sz3 : h0.size ≤ h1.size := E1.1
  have K4 := K0.ext E1
  have l1 : @LT.lt Nat _ b1 h1.size := A1.lt
  have V1 : Arv Z h1 b1 k1 .byte (2 : Int32) [.int 0, .int 0] (.int 0) := (Arv.new A1 (by decide)).pad (pad_rep [] (.int 0) 2)
  refine q_astoreN X1 hx hby d16_3 rfl (l' := #[vR xc, vI 0, vI 2, vR b1, uS, uS]) rfl ?_
  refine q_aloadN X1 hx hby d16_4 rfl rfl ?_
  refine q_iloadN X1 hx hby d16_5 rfl ?_
  refine q_aloadN X1 hx hby d16_6 rfl rfl ?_
  refine q_iconst X1 hx hby d16_7 ?_
  refine q_iloadN X1 hx hby d16_8 rfl ?_
  have f5 := (P0.ext E1)
  refine k_S X1 hx hby hZ hown (wh hw 77 rfl) (wh hw 78 rfl) (W := 0) (own_ci2 l Z a0 hw [] xc xk b1 k1 c0 c1 h1 n0 O2 f5 V1 (show @LT.lt Nat _ xc b1 by first | assumption | omega | decide) (show n0 ≤ b1 by first | assumption | omega | decide)) (wh hw 79 rfl) (wh hw 75 rfl) e1  hml (argsL := [.ref xc, .int 0, .ref b1, .int 0, .int 2]) (rest := []) own_pd_3 d16_9 (fun _ T6 L6 X6 hQ6 => ?_)
  obtain ⟨h6, e6⟩ : ∃ z, T6.heap = z := ⟨_, rfl⟩
  rw [e6] at hQ6
  obtain ⟨Nc6, Kc6, r_6, y0_6, y1_6, rfl, c6_0, c6_1⟩ := hQ6
  have N6 := Fr.app N0 Nc6
  have O7 := O2.keep Kc6 (allS (show n0 ≤ b1 by omega) all0)
  have sz8 : h1.size ≤ h6.size := Kc6.1
  have K9 := Keep.trans K4 Kc6 (allS (Or.inr (show h0.size ≤ b1 by omega)) all0)
  have ltc6_0 : @LT.lt Nat _ b1 h6.size := c6_0.lt
  rcases c6_1 with ⟨rfl, rfl, rfl, hq10, hq11⟩ | ⟨rfl, hq10⟩ | ⟨rfl, hq11⟩
  · show own_Goes p e below (T6.setTop (mkF m 12 #[vR xc, vI 0, vI 2, vR b1, uS, uS] [.int 2])) _
    refine q_istore X6 hx hby d16_12 (l' := #[vR xc, vI 0, vI 2, vR b1, vI 2, uS]) rfl ?_
    refine q_iload X6 hx hby d16_14 rfl ?_
    refine q_iloadN X6 hx hby d16_16 rfl ?_
    refine q_icmpYes (pc := 17) X6 hx hby d16_17 (pc' := 57) (teq (show ((2 : Int32) = (2 : Int32)) from by decide)).1 (by decide) (by decide) ?_
    refine q_aloadN X6 hx hby d16_57 rfl rfl ?_
    refine r_R X6 hx hby hret hlk d16_58 e6 ?_
    exact ⟨N6, K9, b1, rfl, ⟨_, _, _, _, c6_0, Or.inl ⟨rfl, rfl, rfl, (own_alS hq10 (own_alS hq11 own_al0))⟩⟩, (show h0.size ≤ b1 by first | assumption | omega | decide)⟩
  · show own_Goes p e below (T6.setTop (mkF m 12 #[vR xc, vI 0, vI 2, vR b1, uS, uS] [.int 0])) _
    refine q_istore X6 hx hby d16_12 (l' := #[vR xc, vI 0, vI 2, vR b1, vI 0, uS]) rfl ?_
    refine q_iload X6 hx hby d16_14 rfl ?_
    refine q_iloadN X6 hx hby d16_16 rfl ?_
    refine q_icmpNo X6 hx hby d16_17 (feq (show ¬ ((0 : Int32) = (2 : Int32)) from by decide)).1 ?_
    refine q_aloadN X6 hx hby d16_20 rfl rfl ?_
    refine q_iloadN X6 hx hby d16_21 rfl ?_
    refine q_iloadN X6 hx hby d16_22 rfl ?_
    have f12 := (f5.keep Kc6 (ninS (nE xc b1 (by omega)) nin0))
    refine k_S X6 hx hby hZ hown (wh hw 111 rfl) (wh hw 112 rfl) (W := 0) (own_toBy2 l Z a0 hw [] xc xk c0 c1 h6 n0 O7 gz gfm G f12) (wh hw 113 rfl) (wh hw 75 rfl) e6  hml (argsL := [.ref xc, .int 0, .int 2]) (rest := []) own_pd_4 d16_23 (fun _ T13 L13 X13 hQ13 => ?_)
    obtain ⟨h13, e13⟩ : ∃ z, T13.heap = z := ⟨_, rfl⟩
    rw [e13] at hQ13
    obtain ⟨Nc13, Kc13, r_13, rk_13, rfl, c13_0, c13_1⟩ := hQ13
    have N13 := Fr.app N6 Nc13
    have O14 := O7.keep Kc13 all0
    have sz15 : h6.size ≤ h13.size := Kc13.1
    have K16 := Keep.trans K9 Kc13 all0
    have ltc13_0 : @LT.lt Nat _ r_13 h13.size := c13_0.lt
    refine q_astore X13 hx hby d16_26 rfl (l' := #[vR xc, vI 0, vI 2, vR b1, vI 0, vR r_13]) rfl ?_
    refine q_aload X13 hx hby d16_28 rfl rfl ?_
    refine q_iload X13 hx hby d16_30 rfl ?_
    refine k_S X13 hx hby hZ hown (wh hw 127 rfl) (wh hw 128 rfl) (W := 0) (own_gc2_0 l Z a0 hw [] r_13 rk_13 (c0.toInt8.toInt32) ((c0 >>> ((8 : Int32) &&& 31)).toInt8.toInt32) (c1.toInt8.toInt32) ((c1 >>> ((8 : Int32) &&& 31)).toInt8.toInt32) h13 n0 O14 gz gfm G c13_0) (wh hw 129 rfl) (wh hw 75 rfl) e13  hml (argsL := [.ref r_13, .int 0]) (rest := []) own_pd_5 d16_32 (fun _ T17 L17 X17 hQ17 => ?_)
    obtain ⟨Nc17, e17, rfl⟩ := hQ17
    have N17 := Fr.app N13 Nc17
    show own_Goes p e below (T17.setTop (mkF m 35 #[vR xc, vI 0, vI 2, vR b1, vI 0, vR r_13] [(.int (((((c0.toInt8.toInt32) &&& (255 : Int32)) <<< ((0 : Int32) &&& 31)) ||| ((((c0 >>> ((8 : Int32) &&& 31)).toInt8.toInt32) &&& (255 : Int32)) <<< ((8 : Int32) &&& 31))).toUInt32.toUInt16.toUInt32.toInt32))])) _
    rw [show (((((c0.toInt8.toInt32) &&& (255 : Int32)) <<< ((0 : Int32) &&& 31)) ||| ((((c0 >>> ((8 : Int32) &&& 31)).toInt8.toInt32) &&& (255 : Int32)) <<< ((8 : Int32) &&& 31))).toUInt32.toUInt16.toUInt32.toInt32) = c0 from own_g16 P1]
    refine q_sipush X17 hx hby d16_35 ?_
    refine q_icmpYes (pc := 38) X17 hx hby d16_38 (pc' := 54) (tlt hq10).2.2.1 (by decide) (by decide) ?_
    refine q_aload X17 hx hby d16_54 rfl rfl ?_
    refine r_R X17 hx hby hret hlk d16_56 e17 ?_
    exact ⟨N17, K16, r_13, rfl, ⟨_, _, _, _, c13_0, Or.inr ⟨rfl, rfl, rfl, c0, by simp, hq10⟩⟩, (show h0.size ≤ r_13 by first | assumption | omega | decide)⟩
  · show own_Goes p e below (T6.setTop (mkF m 12 #[vR xc, vI 0, vI 2, vR b1, uS, uS] [.int 1])) _
    refine q_istore X6 hx hby d16_12 (l' := #[vR xc, vI 0, vI 2, vR b1, vI 1, uS]) rfl ?_
    refine q_iload X6 hx hby d16_14 rfl ?_
    refine q_iloadN X6 hx hby d16_16 rfl ?_
    refine q_icmpNo X6 hx hby d16_17 (feq (show ¬ ((1 : Int32) = (2 : Int32)) from by decide)).1 ?_
    refine q_aloadN X6 hx hby d16_20 rfl rfl ?_
    refine q_iloadN X6 hx hby d16_21 rfl ?_
    refine q_iloadN X6 hx hby d16_22 rfl ?_
    have f18 := (f5.keep Kc6 (ninS (nE xc b1 (by omega)) nin0))
    refine k_S X6 hx hby hZ hown (wh hw 111 rfl) (wh hw 112 rfl) (W := 0) (own_toBy2 l Z a0 hw [] xc xk c0 c1 h6 n0 O7 gz gfm G f18) (wh hw 113 rfl) (wh hw 75 rfl) e6  hml (argsL := [.ref xc, .int 0, .int 2]) (rest := []) own_pd_4 d16_23 (fun _ T19 L19 X19 hQ19 => ?_)
    obtain ⟨h19, e19⟩ : ∃ z, T19.heap = z := ⟨_, rfl⟩
    rw [e19] at hQ19
    obtain ⟨Nc19, Kc19, r_19, rk_19, rfl, c19_0, c19_1⟩ := hQ19
    have N19 := Fr.app N6 Nc19
    have O20 := O7.keep Kc19 all0
    have sz21 : h6.size ≤ h19.size := Kc19.1
    have K22 := Keep.trans K9 Kc19 all0
    have ltc19_0 : @LT.lt Nat _ r_19 h19.size := c19_0.lt
    refine q_astore X19 hx hby d16_26 rfl (l' := #[vR xc, vI 0, vI 2, vR b1, vI 1, vR r_19]) rfl ?_
    refine q_aload X19 hx hby d16_28 rfl rfl ?_
    refine q_iload X19 hx hby d16_30 rfl ?_
    refine k_S X19 hx hby hZ hown (wh hw 127 rfl) (wh hw 128 rfl) (W := 0) (own_gc2_1 l Z a0 hw [] r_19 rk_19 (c0.toInt8.toInt32) ((c0 >>> ((8 : Int32) &&& 31)).toInt8.toInt32) (c1.toInt8.toInt32) ((c1 >>> ((8 : Int32) &&& 31)).toInt8.toInt32) h19 n0 O20 gz gfm G c19_0) (wh hw 129 rfl) (wh hw 75 rfl) e19  hml (argsL := [.ref r_19, .int 1]) (rest := []) own_pd_5 d16_32 (fun _ T23 L23 X23 hQ23 => ?_)
    obtain ⟨Nc23, e23, rfl⟩ := hQ23
    have N23 := Fr.app N19 Nc23
    show own_Goes p e below (T23.setTop (mkF m 35 #[vR xc, vI 0, vI 2, vR b1, vI 1, vR r_19] [(.int (((((c1.toInt8.toInt32) &&& (255 : Int32)) <<< ((0 : Int32) &&& 31)) ||| ((((c1 >>> ((8 : Int32) &&& 31)).toInt8.toInt32) &&& (255 : Int32)) <<< ((8 : Int32) &&& 31))).toUInt32.toUInt16.toUInt32.toInt32))])) _
    rw [show (((((c1.toInt8.toInt32) &&& (255 : Int32)) <<< ((0 : Int32) &&& 31)) ||| ((((c1 >>> ((8 : Int32) &&& 31)).toInt8.toInt32) &&& (255 : Int32)) <<< ((8 : Int32) &&& 31))).toUInt32.toUInt16.toUInt32.toInt32) = c1 from own_g16 P2]
    refine q_sipush X23 hx hby d16_35 ?_
    refine q_icmpYes (pc := 38) X23 hx hby d16_38 (pc' := 54) (tlt hq11).2.2.1 (by decide) (by decide) ?_
    refine q_aload X23 hx hby d16_54 rfl rfl ?_
    refine r_R X23 hx hby hret hlk d16_56 e23 ?_
    exact ⟨N23, K22, r_19, rfl, ⟨_, _, _, _, c19_0, Or.inr ⟨rfl, rfl, rfl, c1, by simp, hq11⟩⟩, (show h0.size ≤ r_19 by first | assumption | omega | decide)⟩
theorem own_ef_own_cfa2a (m : MethodId) (xb : Addr) : entryFrame m #[.ref xb, .int 2] 2 = mkF m 0 #[vR xb, vI 2] [] := by first | (simp [entryFrame, mkF, argsToLocals, Value.category]; done) | rfl
def Q_own_cfa2a (Z : State) (xb : Addr) (xq : ClassId) (y0 : Int32) (y1 : Int32) (h0 : Heap) (n0 : Nat) (v : Option Value) (h : Heap) (L : List Loc) : Prop := Fr n0 L ∧ h = h0 ∧ v = some (.int 0)
theorem own_cfa2a (l : Launch) (Z : State) (a0 : Array Value) (hw : ∀ d ∈ tables_1, d.before a0 Z = true) (ws : List Jvm.Cond) (xb : Addr) (xq : ClassId) (y0 : Int32) (y1 : Int32) (h0 : Heap) (n0 : Nat) (O0 : Old Z n0 h0) (P0 : Arv Z h0 xb xq .byte (2 : Int32) [.int y0, .int y1] (.int 0)) : own_Met l Z (⟨"java/lang/StringUTF16", "coderFromArrayLen", "([BI)B"⟩ : MethodName) jdk_52_method_15_code 2 (some .byte) ws ({ frames := 0, cells := 0, slots := 0, locals := 0 } : Room) #[.ref xb, .int 2] h0 (Q_own_cfa2a Z xb xq y0 y1 h0 n0) := by
  refine own_mk (plainFor_of_name own_pn_java_lang_StringUTF16) O0 ?_
  intro p e s m below meth c s₁ hx hby hml hZ hown hnm hlk hret X0 e0 N0 z0 z1
  refine own_cast (own_ef_own_cfa2a m xb) ?_
  show own_Goes p e below (s₁.setTop (mkF m 0 #[vR xb, vI 2] [])) _
  have ltP0 : @LT.lt Nat _ xb h0.size := P0.lt
  refine q_iloadN X0 hx hby d18_0 rfl ?_
  refine q_aloadN X0 hx hby d18_1 rfl rfl ?_
  refine q_len X0 hx hby hZ e0 P0 d18_2 ?_
  refine q_isub X0 hx hby d18_3 ?_
  show own_Goes p e below (s₁.setTop (mkF m 4 #[vR xb, vI 2] [(.int ((2 : Int32) - (2 : Int32)))])) _
  rw [show ((2 : Int32) - (2 : Int32)) = (0 : Int32) from by decide]
  refine q_bipush X0 hx hby d18_4 ?_
  refine gg (fun t k => XS.iushr X0.here hx rfl (hb hby d18_6) rfl k) ?_
  show own_Goes p e below (s₁.setTop (mkF m 7 #[vR xb, vI 2] [(.int (((0 : Int32).toUInt32 >>> ((31 : Int32) &&& 31).toUInt32).toInt32))])) _
  rw [show (((0 : Int32).toUInt32 >>> ((31 : Int32) &&& 31).toUInt32).toInt32) = (0 : Int32) from by decide]
  refine gg (fun t k => XS.i2b X0.here hx rfl (hb hby d18_7) rfl k) ?_
  show own_Goes p e below (s₁.setTop (mkF m 8 #[vR xb, vI 2] [(.int ((0 : Int32).toInt8.toInt32))])) _
  rw [show ((0 : Int32).toInt8.toInt32) = (0 : Int32) from by decide]
  refine r_B X0 hx hby hret hlk d18_8 e0 ?_
  exact ⟨N0, rfl, rfl⟩
theorem own_ef_own_cfa2b (m : MethodId) (xb : Addr) : entryFrame m #[.ref xb, .int 2] 2 = mkF m 0 #[vR xb, vI 2] [] := by first | (simp [entryFrame, mkF, argsToLocals, Value.category]; done) | rfl
def Q_own_cfa2b (Z : State) (xb : Addr) (xq : ClassId) (y0 : Int32) (y1 : Int32) (y2 : Int32) (y3 : Int32) (h0 : Heap) (n0 : Nat) (v : Option Value) (h : Heap) (L : List Loc) : Prop := Fr n0 L ∧ h = h0 ∧ v = some (.int 1)
theorem own_cfa2b (l : Launch) (Z : State) (a0 : Array Value) (hw : ∀ d ∈ tables_1, d.before a0 Z = true) (ws : List Jvm.Cond) (xb : Addr) (xq : ClassId) (y0 : Int32) (y1 : Int32) (y2 : Int32) (y3 : Int32) (h0 : Heap) (n0 : Nat) (O0 : Old Z n0 h0) (P0 : Arv Z h0 xb xq .byte (4 : Int32) [.int y0, .int y1, .int y2, .int y3] (.int 0)) : own_Met l Z (⟨"java/lang/StringUTF16", "coderFromArrayLen", "([BI)B"⟩ : MethodName) jdk_52_method_15_code 2 (some .byte) ws ({ frames := 0, cells := 0, slots := 0, locals := 0 } : Room) #[.ref xb, .int 2] h0 (Q_own_cfa2b Z xb xq y0 y1 y2 y3 h0 n0) := by
  refine own_mk (plainFor_of_name own_pn_java_lang_StringUTF16) O0 ?_
  intro p e s m below meth c s₁ hx hby hml hZ hown hnm hlk hret X0 e0 N0 z0 z1
  refine own_cast (own_ef_own_cfa2b m xb) ?_
  show own_Goes p e below (s₁.setTop (mkF m 0 #[vR xb, vI 2] [])) _
  have ltP0 : @LT.lt Nat _ xb h0.size := P0.lt
  refine q_iloadN X0 hx hby d18_0 rfl ?_
  refine q_aloadN X0 hx hby d18_1 rfl rfl ?_
  refine q_len X0 hx hby hZ e0 P0 d18_2 ?_
  refine q_isub X0 hx hby d18_3 ?_
  show own_Goes p e below (s₁.setTop (mkF m 4 #[vR xb, vI 2] [(.int ((2 : Int32) - (4 : Int32)))])) _
  rw [show ((2 : Int32) - (4 : Int32)) = (-2 : Int32) from by decide]
  refine q_bipush X0 hx hby d18_4 ?_
  refine gg (fun t k => XS.iushr X0.here hx rfl (hb hby d18_6) rfl k) ?_
  show own_Goes p e below (s₁.setTop (mkF m 7 #[vR xb, vI 2] [(.int (((-2 : Int32).toUInt32 >>> ((31 : Int32) &&& 31).toUInt32).toInt32))])) _
  rw [show (((-2 : Int32).toUInt32 >>> ((31 : Int32) &&& 31).toUInt32).toInt32) = (1 : Int32) from by decide]
  refine gg (fun t k => XS.i2b X0.here hx rfl (hb hby d18_7) rfl k) ?_
  show own_Goes p e below (s₁.setTop (mkF m 8 #[vR xb, vI 2] [(.int ((1 : Int32).toInt8.toInt32))])) _
  rw [show ((1 : Int32).toInt8.toInt32) = (1 : Int32) from by decide]
  refine r_B X0 hx hby hret hlk d18_8 e0 ?_
  exact ⟨N0, rfl, rfl⟩
theorem own_ef_own_si2 (m : MethodId) (xa : Addr) (xc : Addr) : entryFrame m #[.ref xa, .ref xc, .int 0, .int 2, .null] 6 = mkF m 0 #[vR xa, vR xc, vI 0, vI 2, vN, uS] [] := by first | (simp [entryFrame, mkF, argsToLocals, Value.category]; done) | rfl
def Q_own_si2 (Z : State) (xa : Addr) (xc : Addr) (xk : ClassId) (c0 : Int32) (c1 : Int32) (gz : Int32) (gfm : Value) (h0 : Heap) (n0 : Nat) (v : Option Value) (h : Heap) (L : List Loc) : Prop := Fr n0 L ∧ Keep h0 h [xa] ∧ ∃ (rb : Addr), v = none ∧ own_Str Z h xa rb ([c0, c1] : List Int32)
theorem own_si2 (l : Launch) (Z : State) (a0 : Array Value) (hw : ∀ d ∈ tables_1, d.before a0 Z = true) (ws : List Jvm.Cond) (xa : Addr) (xc : Addr) (xk : ClassId) (c0 : Int32) (c1 : Int32) (h0 : Heap) (n0 : Nat) (O0 : Old Z n0 h0) (gz : Int32) (gfm : Value) (G : GG Z gz gfm) (P0 : Exa Z h0 xa "java/lang/String") (P1 : Fld Z h0 xa "java/lang/String" "value" "[B" .null) (P2 : Fld Z h0 xa "java/lang/String" "coder" "B" (.int 0)) (P3 : n0 ≤ xa) (P4 : Arv Z h0 xc xk .char (2 : Int32) [.int c0, .int c1] (.int 0)) (P5 : (@LT.lt Nat _ xc xa ∨ @LT.lt Nat _ xa xc)) (P6 : own_C16 c0) (P7 : own_C16 c1) : own_Met l Z (⟨"java/lang/String", "<init>", "([CIILjava/lang/Void;)V"⟩ : MethodName) jdk_42_method_149_code 6 none ws ({ frames := 4, cells := 2, slots := 6, locals := 57 } : Room) #[.ref xa, .ref xc, .int 0, .int 2, .null] h0 (Q_own_si2 Z xa xc xk c0 c1 gz gfm h0 n0) := by
  refine own_mk (plainFor_of_name own_pn_java_lang_String) O0 ?_
  intro p e s m below meth c s₁ hx hby hml hZ hown hnm hlk hret X0 e0 N0 z0 z1
  have K0 : Keep h0 h0 [xa] := Keep.refl _ _
  refine own_cast (own_ef_own_si2 m xa xc) ?_
  show own_Goes p e below (s₁.setTop (mkF m 0 #[vR xa, vR xc, vI 0, vI 2, vN, uS] [])) _
  obtain ⟨G0, G1, G2, G3, G4, G5, G6⟩ := id G
  have ltP0 : @LT.lt Nat _ xa h0.size := P0.lt
  have ltP4 : @LT.lt Nat _ xc h0.size := P4.lt
  refine q_aloadN X0 hx hby d4_0 rfl rfl ?_
  obtain ⟨T1, X1, e1, st1⟩ := initO X0 hx hZ hown (wh hw 21 rfl) (wh hw 22 rfl) (wh hw 23 rfl) e0 (g := (mkF m 1 #[vR xa, vR xc, vI 0, vI 2, vN, uS] [.ref xa])) rfl (by rw [hml]; rfl) rfl (hb hby d4_1) (by decide) (W := 0) (by show 2 * 0 + _ ≤ _; exact Nat.le_of_eq rfl) (by decide)
  refine gg st1 ?_
  refine q_iloadN X1 hx hby d4_4 rfl ?_
  refine q_ifYes (pc := 5) X1 hx hby d4_5 (pc' := 27) ((if0 _ _).trans (feq (show ¬ ((2 : Int32) = (0 : Int32)) from by decide)).2) (by decide) (by decide) ?_
  have q2 := G0.ext O0.2
  refine qS X1 hx hby hZ hown (host := "") (Or.inl (wh hw 35 rfl)) Via.refl e1 q2 d4_27 (fun T3 X3 e3 => ?_)
  refine q_ifNo X3 hx hby d4_30 ((if0 _ _).trans (feq (show ¬ (gz = (0 : Int32)) from G1)).1) ?_
  refine q_aloadN X3 hx hby d4_33 rfl rfl ?_
  refine q_iloadN X3 hx hby d4_34 rfl ?_
  refine q_iloadN X3 hx hby d4_35 rfl ?_
  refine k_S X3 hx hby hZ hown (wh hw 73 rfl) (wh hw 74 rfl) (W := 0) (own_co2 l Z a0 hw [] xc xk c0 c1 h0 n0 O0 gz gfm G P4 (show own_C16 c0 from P6) (show own_C16 c1 from P7)) (wh hw 76 rfl) (wh hw 75 rfl) e3  hml (argsL := [.ref xc, .int 0, .int 2]) (rest := []) own_pd_4 d4_36 (fun _ T4 L4 X4 hQ4 => ?_)
  obtain ⟨h4, e4⟩ : ∃ z, T4.heap = z := ⟨_, rfl⟩
  rw [e4] at hQ4
  obtain ⟨Nc4, Kc4, r_4, rfl, c4_0, c4_1⟩ := hQ4
  have N4 := Fr.app N0 Nc4
  have O5 := O0.keep Kc4 all0
  have sz6 : h0.size ≤ h4.size := Kc4.1
  have K7 := Keep.trans K0 Kc4 all0
  obtain ⟨kbs8, cds8, Ns8, vss8, As8, hCs8⟩ := id c4_0
  rcases hCs8 with ⟨rfl, rfl, rfl, hLs8⟩ | ⟨rfl, rfl, rfl, hWs8⟩
  · have Bs8 : Arv Z h4 r_4 kbs8 .byte (2 : Int32) [(.int (c0.toInt8.toInt32)), (.int (c1.toInt8.toInt32))] (.int 0) := As8
    show own_Goes p e below (T4.setTop (mkF m 39 #[vR xa, vR xc, vI 0, vI 2, vN, uS] [.ref r_4])) _
    refine q_astore X4 hx hby d4_39 rfl (l' := #[vR xa, vR xc, vI 0, vI 2, vN, vR r_4]) rfl ?_
    refine q_aloadN X4 hx hby d4_41 rfl rfl ?_
    refine q_aload X4 hx hby d4_42 rfl rfl ?_
    refine q_iloadN X4 hx hby d4_44 rfl ?_
    refine k_S X4 hx hby hZ hown (wh hw 80 rfl) (wh hw 81 rfl) (W := 1) (own_cfa2a l Z a0 hw [] r_4 kbs8 (c0.toInt8.toInt32) (c1.toInt8.toInt32) h4 n0 O5 Bs8) (wh hw 82 rfl) (wh hw 75 rfl) e4  hml (argsL := [.ref r_4, .int 2]) (rest := [.ref xa]) own_pd_6 d4_45 (fun _ T9 L9 X9 hQ9 => ?_)
    obtain ⟨Nc9, e9, rfl⟩ := hQ9
    have N9 := Fr.app N4 Nc9
    have f10 := (P2.keep Kc4 nin0)
    have f11 := (P0.keep Kc4)
    obtain ⟨T12, h12, X12, e12, W12, st12⟩ := putFN X9 hx hZ hown (wh hw 31 rfl) Via.refl e9 f10 f11 (Or.inr ⟨(wh hw 27 rfl), rfl, hnm⟩) (wh hw 12 rfl) (ty := .byte) (v' := (.int 0)) (by decide) rfl rfl (g := (mkF m 48 #[vR xa, vR xc, vI 0, vI 2, vN, vR r_4] [.int 0, .ref xa])) rfl rfl (hb hby d4_48)
    refine gg st12 ?_
    have O13 := O5.wr W12 (show n0 ≤ xa by omega)
    have sz14 : h12.size = h4.size := Wr.size W12
    have K15 := K7.wr W12 (Or.inl (List.mem_of_getElem? (i := 0) rfl))
    have N12 := Fr.snoc X12 N9 (show n0 ≤ xa by omega)
    have Fw12 := f10.same W12
    refine q_aloadN X12 hx hby d4_51 rfl rfl ?_
    refine q_aload X12 hx hby d4_52 rfl rfl ?_
    have f16 := ((P1.keep Kc4 nin0).other W12 (Or.inr (slot_ne (Or.inr (wh hw 26 rfl)) (Or.inr (wh hw 27 rfl)) (by decide) (t := (.array .byte)) (t' := .byte) (by decide) (by decide))))
    have f17 := (f11.wr W12)
    refine qP X12 hx hby hZ hown (host := "") (Or.inl (wh hw 30 rfl)) Via.refl e12 f16 f17 (Or.inr ⟨(wh hw 26 rfl), rfl, hnm⟩) (wh hw 12 rfl) (ty := (.array .byte)) d4_54 (fun T18 h18 X18 e18 W18 => ?_)
    have O19 := O13.wr W18 (show n0 ≤ xa by omega)
    have sz20 : h18.size = h12.size := Wr.size W18
    have K21 := K15.wr W18 (Or.inl (List.mem_of_getElem? (i := 0) rfl))
    have N18 := Fr.snoc X18 N12 (show n0 ≤ xa by omega)
    have Fw18 := f16.same W18
    refine r_V X18 hx hby hret hlk d4_57 e18 ?_
    have f22 := (f17.wr W18)
    have f23 := (Fw12.other W18 (Or.inr (slot_ne (Or.inr (wh hw 27 rfl)) (Or.inr (wh hw 26 rfl)) (by decide) (t := .byte) (t' := (.array .byte)) (by decide) (by decide))))
    have f24 := ((Bs8.other W12 (nE r_4 xa (by omega))).other W18 (nE r_4 xa (by omega)))
    exact ⟨N18, K21, r_4, rfl, ⟨f22, Fw18, _, _, _, _, f23, f24, Or.inl ⟨rfl, rfl, rfl, hLs8⟩, (own_alS P6 (own_alS P7 own_al0)), Nat.le_of_ble_eq_true rfl⟩⟩
  · have Bs8 : Arv Z h4 r_4 kbs8 .byte (4 : Int32) [(.int (c0.toInt8.toInt32)), (.int ((c0 >>> ((8 : Int32) &&& 31)).toInt8.toInt32)), (.int (c1.toInt8.toInt32)), (.int ((c1 >>> ((8 : Int32) &&& 31)).toInt8.toInt32))] (.int 0) := As8
    show own_Goes p e below (T4.setTop (mkF m 39 #[vR xa, vR xc, vI 0, vI 2, vN, uS] [.ref r_4])) _
    refine q_astore X4 hx hby d4_39 rfl (l' := #[vR xa, vR xc, vI 0, vI 2, vN, vR r_4]) rfl ?_
    refine q_aloadN X4 hx hby d4_41 rfl rfl ?_
    refine q_aload X4 hx hby d4_42 rfl rfl ?_
    refine q_iloadN X4 hx hby d4_44 rfl ?_
    refine k_S X4 hx hby hZ hown (wh hw 80 rfl) (wh hw 81 rfl) (W := 1) (own_cfa2b l Z a0 hw [] r_4 kbs8 (c0.toInt8.toInt32) ((c0 >>> ((8 : Int32) &&& 31)).toInt8.toInt32) (c1.toInt8.toInt32) ((c1 >>> ((8 : Int32) &&& 31)).toInt8.toInt32) h4 n0 O5 Bs8) (wh hw 82 rfl) (wh hw 75 rfl) e4  hml (argsL := [.ref r_4, .int 2]) (rest := [.ref xa]) own_pd_6 d4_45 (fun _ T25 L25 X25 hQ25 => ?_)
    obtain ⟨Nc25, e25, rfl⟩ := hQ25
    have N25 := Fr.app N4 Nc25
    have f26 := (P2.keep Kc4 nin0)
    have f27 := (P0.keep Kc4)
    obtain ⟨T28, h28, X28, e28, W28, st28⟩ := putFN X25 hx hZ hown (wh hw 31 rfl) Via.refl e25 f26 f27 (Or.inr ⟨(wh hw 27 rfl), rfl, hnm⟩) (wh hw 12 rfl) (ty := .byte) (v' := (.int 1)) (by decide) rfl rfl (g := (mkF m 48 #[vR xa, vR xc, vI 0, vI 2, vN, vR r_4] [.int 1, .ref xa])) rfl rfl (hb hby d4_48)
    refine gg st28 ?_
    have O29 := O5.wr W28 (show n0 ≤ xa by omega)
    have sz30 : h28.size = h4.size := Wr.size W28
    have K31 := K7.wr W28 (Or.inl (List.mem_of_getElem? (i := 0) rfl))
    have N28 := Fr.snoc X28 N25 (show n0 ≤ xa by omega)
    have Fw28 := f26.same W28
    refine q_aloadN X28 hx hby d4_51 rfl rfl ?_
    refine q_aload X28 hx hby d4_52 rfl rfl ?_
    have f32 := ((P1.keep Kc4 nin0).other W28 (Or.inr (slot_ne (Or.inr (wh hw 26 rfl)) (Or.inr (wh hw 27 rfl)) (by decide) (t := (.array .byte)) (t' := .byte) (by decide) (by decide))))
    have f33 := (f27.wr W28)
    refine qP X28 hx hby hZ hown (host := "") (Or.inl (wh hw 30 rfl)) Via.refl e28 f32 f33 (Or.inr ⟨(wh hw 26 rfl), rfl, hnm⟩) (wh hw 12 rfl) (ty := (.array .byte)) d4_54 (fun T34 h34 X34 e34 W34 => ?_)
    have O35 := O29.wr W34 (show n0 ≤ xa by omega)
    have sz36 : h34.size = h28.size := Wr.size W34
    have K37 := K31.wr W34 (Or.inl (List.mem_of_getElem? (i := 0) rfl))
    have N34 := Fr.snoc X34 N28 (show n0 ≤ xa by omega)
    have Fw34 := f32.same W34
    refine r_V X34 hx hby hret hlk d4_57 e34 ?_
    have f38 := (f33.wr W34)
    have f39 := (Fw28.other W34 (Or.inr (slot_ne (Or.inr (wh hw 27 rfl)) (Or.inr (wh hw 26 rfl)) (by decide) (t := .byte) (t' := (.array .byte)) (by decide) (by decide))))
    have f40 := ((Bs8.other W28 (nE r_4 xa (by omega))).other W34 (nE r_4 xa (by omega)))
    exact ⟨N34, K37, r_4, rfl, ⟨f38, Fw34, _, _, _, _, f39, f40, Or.inr ⟨rfl, rfl, rfl, hWs8⟩, (own_alS P6 (own_alS P7 own_al0)), Nat.le_of_ble_eq_true rfl⟩⟩
theorem own_ef_own_sc2 (m : MethodId) (xa : Addr) (xc : Addr) : entryFrame m #[.ref xa, .ref xc] 2 = mkF m 0 #[vR xa, vR xc] [] := by first | (simp [entryFrame, mkF, argsToLocals, Value.category]; done) | rfl
def Q_own_sc2 (Z : State) (xa : Addr) (xc : Addr) (xk : ClassId) (c0 : Int32) (c1 : Int32) (gz : Int32) (gfm : Value) (h0 : Heap) (n0 : Nat) (v : Option Value) (h : Heap) (L : List Loc) : Prop := Fr n0 L ∧ Keep h0 h [xa] ∧ ∃ (rb : Addr), v = none ∧ own_Str Z h xa rb ([c0, c1] : List Int32)
theorem own_sc2 (l : Launch) (Z : State) (a0 : Array Value) (hw : ∀ d ∈ tables_1, d.before a0 Z = true) (ws : List Jvm.Cond) (xa : Addr) (xc : Addr) (xk : ClassId) (c0 : Int32) (c1 : Int32) (h0 : Heap) (n0 : Nat) (O0 : Old Z n0 h0) (gz : Int32) (gfm : Value) (G : GG Z gz gfm) (P0 : Exa Z h0 xa "java/lang/String") (P1 : Fld Z h0 xa "java/lang/String" "value" "[B" .null) (P2 : Fld Z h0 xa "java/lang/String" "coder" "B" (.int 0)) (P3 : n0 ≤ xa) (P4 : Arv Z h0 xc xk .char (2 : Int32) [.int c0, .int c1] (.int 0)) (P5 : (@LT.lt Nat _ xc xa ∨ @LT.lt Nat _ xa xc)) (P6 : own_C16 c0) (P7 : own_C16 c1) : own_Met l Z (⟨"java/lang/String", "<init>", "([C)V"⟩ : MethodName) jdk_42_method_3_code 2 none ws ({ frames := 5, cells := 2, slots := 6, locals := 74 } : Room) #[.ref xa, .ref xc] h0 (Q_own_sc2 Z xa xc xk c0 c1 gz gfm h0 n0) := by
  refine own_mk (plainFor_of_name own_pn_java_lang_String) O0 ?_
  intro p e s m below meth c s₁ hx hby hml hZ hown hnm hlk hret X0 e0 N0 z0 z1
  have K0 : Keep h0 h0 [xa] := Keep.refl _ _
  refine own_cast (own_ef_own_sc2 m xa xc) ?_
  show own_Goes p e below (s₁.setTop (mkF m 0 #[vR xa, vR xc] [])) _
  obtain ⟨G0, G1, G2, G3, G4, G5, G6⟩ := id G
  have ltP0 : @LT.lt Nat _ xa h0.size := P0.lt
  have ltP4 : @LT.lt Nat _ xc h0.size := P4.lt
  refine q_aloadN X0 hx hby d3_0 rfl rfl ?_
  refine q_aloadN X0 hx hby d3_1 rfl rfl ?_
  refine q_iconst X0 hx hby d3_2 ?_
  refine q_aloadN X0 hx hby d3_3 rfl rfl ?_
  refine q_len X0 hx hby hZ e0 P4 d3_4 ?_
  refine q_aconstNull X0 hx hby d3_5 ?_
  refine k_N X0 hx hby hZ hown (wh hw 17 rfl) (wh hw 18 rfl) (W := 0) (own_si2 l Z a0 hw [] xa xc xk c0 c1 h0 n0 O0 gz gfm G P0 P1 P2 (show n0 ≤ xa by first | assumption | omega | decide) P4 (show (@LT.lt Nat _ xc xa ∨ @LT.lt Nat _ xa xc) by first | assumption | omega | decide) (show own_C16 c0 from P6) (show own_C16 c1 from P7)) (wh hw 20 rfl) (wh hw 13 rfl) e0  hml (argsL := [.ref xc, .int 0, .int 2, .null]) (rest := []) own_pd_7 d3_6 (fun _ T2 L2 X2 hQ2 => ?_)
  obtain ⟨h2, e2⟩ : ∃ z, T2.heap = z := ⟨_, rfl⟩
  rw [e2] at hQ2
  obtain ⟨Nc2, Kc2, rb_2, rfl, c2_0⟩ := hQ2
  have N2 := Fr.app N0 Nc2
  have O3 := O0.keep Kc2 (allS (show n0 ≤ xa by omega) all0)
  have sz4 : h0.size ≤ h2.size := Kc2.1
  have K5 := Keep.trans K0 Kc2 (allS (Or.inl (List.mem_of_getElem? (i := 0) rfl)) all0)
  have ltc2_0 : @LT.lt Nat _ xa h2.size := c2_0.1.lt
  have luc2_0 : @LT.lt Nat _ rb_2 h2.size := c2_0.lt2
  refine r_V X2 hx hby hret hlk d3_9 e2 ?_
  exact ⟨N2, K5, rb_2, rfl, c2_0⟩
theorem own_ef_own_nbl3 (m : MethodId) : entryFrame m #[.int 3] 1 = mkF m 0 #[vI 3] [] := by first | (simp [entryFrame, mkF, argsToLocals, Value.category]; done) | rfl
def Q_own_nbl3 (Z : State) (h0 : Heap) (n0 : Nat) (v : Option Value) (h : Heap) (L : List Loc) : Prop := Fr n0 L ∧ h = h0 ∧ v = some (.int 6)
theorem own_nbl3 (l : Launch) (Z : State) (a0 : Array Value) (hw : ∀ d ∈ tables_1, d.before a0 Z = true) (ws : List Jvm.Cond) (h0 : Heap) (n0 : Nat) (O0 : Old Z n0 h0) : own_Met l Z (⟨"java/lang/StringUTF16", "newBytesLength", "(I)I"⟩ : MethodName) jdk_52_method_3_code 1 (some .int) ws ({ frames := 0, cells := 0, slots := 0, locals := 0 } : Room) #[.int 3] h0 (Q_own_nbl3 Z h0 n0) := by
  refine own_mk (plainFor_of_name own_pn_java_lang_StringUTF16) O0 ?_
  intro p e s m below meth c s₁ hx hby hml hZ hown hnm hlk hret X0 e0 N0 z0 z1
  refine own_cast (own_ef_own_nbl3 m) ?_
  show own_Goes p e below (s₁.setTop (mkF m 0 #[vI 3] [])) _
  refine q_iloadN X0 hx hby d27_0 rfl ?_
  refine q_ifYes (pc := 1) X0 hx hby d27_1 (pc' := 12) ((if0 _ _).trans (flt (show ¬ ((3 : Int32) < (0 : Int32)) from by decide)).2.1) (by decide) (by decide) ?_
  refine q_iloadN X0 hx hby d27_12 rfl ?_
  refine gg (fun t k => Jvm.Stand.ldcI X0 hx hown (mv hZ (wh hw 120 rfl)) rfl (hb hby d27_13) k) ?_
  refine q_icmpYes (pc := 15) X0 hx hby d27_15 (pc' := 55) (tlt (show ((3 : Int32) < (1073741823 : Int32)) from by decide)).1 (by decide) (by decide) ?_
  refine q_iloadN X0 hx hby d27_55 rfl ?_
  refine q_iconst X0 hx hby d27_56 ?_
  refine gg (fun t k => XS.ishl X0.here hx rfl (hb hby d27_57) rfl k) ?_
  show own_Goes p e below (s₁.setTop (mkF m 58 #[vI 3] [(.int ((3 : Int32) <<< ((1 : Int32) &&& 31)))])) _
  rw [show ((3 : Int32) <<< ((1 : Int32) &&& 31)) = (6 : Int32) from by decide]
  refine r_I X0 hx hby hret hlk d27_58 e0 ?_
  exact ⟨N0, rfl, rfl⟩
theorem own_ef_own_nbf3 (m : MethodId) : entryFrame m #[.int 3] 1 = mkF m 0 #[vI 3] [] := by first | (simp [entryFrame, mkF, argsToLocals, Value.category]; done) | rfl
def Q_own_nbf3 (Z : State) (h0 : Heap) (n0 : Nat) (v : Option Value) (h : Heap) (L : List Loc) : Prop := Fr n0 L ∧ Keep h0 h [] ∧ ∃ (r : Addr), ∃ (rk : ClassId), v = some (.ref r) ∧ Arv Z h r rk .byte (6 : Int32) [.int 0, .int 0, .int 0, .int 0, .int 0, .int 0] (.int 0) ∧ h0.size ≤ r
theorem own_nbf3 (l : Launch) (Z : State) (a0 : Array Value) (hw : ∀ d ∈ tables_1, d.before a0 Z = true) (ws : List Jvm.Cond) (h0 : Heap) (n0 : Nat) (O0 : Old Z n0 h0) : own_Met l Z (⟨"java/lang/StringUTF16", "newBytesFor", "(I)[B"⟩ : MethodName) jdk_52_method_2_code 1 (some (.array .byte)) ws ({ frames := 1, cells := 1, slots := 6, locals := 12 } : Room) #[.int 3] h0 (Q_own_nbf3 Z h0 n0) := by
  refine own_mk (plainFor_of_name own_pn_java_lang_StringUTF16) O0 ?_
  intro p e s m below meth c s₁ hx hby hml hZ hown hnm hlk hret X0 e0 N0 z0 z1
  have K0 : Keep h0 h0 [] := Keep.refl _ _
  refine own_cast (own_ef_own_nbf3 m) ?_
  show own_Goes p e below (s₁.setTop (mkF m 0 #[vI 3] [])) _
  refine q_iloadN X0 hx hby d26_0 rfl ?_
  refine k_S X0 hx hby hZ hown (wh hw 117 rfl) (wh hw 118 rfl) (W := 0) (own_nbl3 l Z a0 hw []  h0 n0 O0) (wh hw 119 rfl) (wh hw 75 rfl) e0  hml (argsL := [.int 3]) (rest := []) own_pd_0 d26_1 (fun _ T1 L1 X1 hQ1 => ?_)
  obtain ⟨Nc1, e1, rfl⟩ := hQ1
  have N1 := Fr.app N0 Nc1
  obtain ⟨T2, h2, k2, X2, e2, E2, A2, st2⟩ := newP X1 hx hZ (wh hw 25 rfl) e1 (g := (mkF m 4 #[vI 3] [.int 6])) rfl (hb hby d26_4) rfl (by decide) (cap := 6) (by decide) (by decide) (by decide) (by decide)
  obtain ⟨b2, g2⟩ : ∃ z, z = h0.size := ⟨_, rfl⟩
  rw [← g2] at A2 st2
  refine gg st2 ?_
  have O3 := O0.ext E2
  have sz4 : h0.size ≤ h2.size := E2.1
  have K5 := K0.ext E2
  have l2 : @LT.lt Nat _ b2 h2.size := A2.lt
  have V2 : Arv Z h2 b2 k2 .byte (6 : Int32) [.int 0, .int 0, .int 0, .int 0, .int 0, .int 0] (.int 0) := (Arv.new A2 (by decide)).pad (pad_rep [] (.int 0) 6)
  refine r_R X2 hx hby hret hlk d26_6 e2 ?_
  exact ⟨N1, K5, b2, k2, rfl, V2, (show h0.size ≤ b2 by first | assumption | omega | decide)⟩
theorem own_ef_own_pc3_0 (m : MethodId) (xb : Addr) (xi : Int32) : entryFrame m #[.ref xb, .int 0, .int xi] 3 = mkF m 0 #[vR xb, vI 0, vI xi] [] := by first | (simp [entryFrame, mkF, argsToLocals, Value.category]; done) | rfl
def Q_own_pc3_0 (Z : State) (xb : Addr) (xq : ClassId) (xi : Int32) (y0 : Int32) (y1 : Int32) (y2 : Int32) (y3 : Int32) (y4 : Int32) (y5 : Int32) (gz : Int32) (gfm : Value) (h0 : Heap) (n0 : Nat) (v : Option Value) (h : Heap) (L : List Loc) : Prop := Fr n0 L ∧ Keep h0 h [xb] ∧ v = none ∧ Arv Z h xb xq .byte (6 : Int32) [(.int (xi.toInt8.toInt32)), (.int ((xi >>> ((8 : Int32) &&& 31)).toInt8.toInt32)), .int y2, .int y3, .int y4, .int y5] (.int 0)
theorem own_pc3_0 (l : Launch) (Z : State) (a0 : Array Value) (hw : ∀ d ∈ tables_1, d.before a0 Z = true) (ws : List Jvm.Cond) (xb : Addr) (xq : ClassId) (xi : Int32) (y0 : Int32) (y1 : Int32) (y2 : Int32) (y3 : Int32) (y4 : Int32) (y5 : Int32) (h0 : Heap) (n0 : Nat) (O0 : Old Z n0 h0) (gz : Int32) (gfm : Value) (G : GG Z gz gfm) (P0 : Arv Z h0 xb xq .byte (6 : Int32) [.int y0, .int y1, .int y2, .int y3, .int y4, .int y5] (.int 0)) (P1 : n0 ≤ xb) : own_Met l Z (⟨"java/lang/StringUTF16", "putChar", "([BII)V"⟩ : MethodName) jdk_52_method_4_code 3 none ws ({ frames := 0, cells := 0, slots := 0, locals := 0 } : Room) #[.ref xb, .int 0, .int xi] h0 (Q_own_pc3_0 Z xb xq xi y0 y1 y2 y3 y4 y5 gz gfm h0 n0) := by
  refine own_mk (plainFor_of_name own_pn_java_lang_StringUTF16) O0 ?_
  intro p e s m below meth c s₁ hx hby hml hZ hown hnm hlk hret X0 e0 N0 z0 z1
  have K0 : Keep h0 h0 [xb] := Keep.refl _ _
  refine own_cast (own_ef_own_pc3_0 m xb xi) ?_
  show own_Goes p e below (s₁.setTop (mkF m 0 #[vR xb, vI 0, vI xi] [])) _
  obtain ⟨G0, G1, G2, G3, G4, G5, G6⟩ := id G
  have ltP0 : @LT.lt Nat _ xb h0.size := P0.lt
  have q1 := G2.ext O0.2
  refine qS X0 hx hby hZ hown (host := "") (Or.inl (wh hw 124 rfl)) Via.refl e0 q1 d28_0 (fun T2 X2 e2 => ?_)
  refine q_ifYes (pc := 3) X2 hx hby d28_3 (pc' := 28) ((if0 _ _).trans (feq (show ¬ ((1 : Int32) = (0 : Int32)) from by decide)).2) (by decide) (by decide) ?_
  refine q_iloadN X2 hx hby d28_28 rfl ?_
  refine q_iconst X2 hx hby d28_29 ?_
  refine gg (fun t k => XS.ishl X2.here hx rfl (hb hby d28_30) rfl k) ?_
  show own_Goes p e below (T2.setTop (mkF m 31 #[vR xb, vI 0, vI xi] [(.int ((0 : Int32) <<< ((1 : Int32) &&& 31)))])) _
  rw [show ((0 : Int32) <<< ((1 : Int32) &&& 31)) = (0 : Int32) from by decide]
  refine q_istoreN X2 hx hby d28_31 (l' := #[vR xb, vI 0, vI xi]) rfl ?_
  refine q_aloadN X2 hx hby d28_32 rfl rfl ?_
  refine q_iloadN X2 hx hby d28_33 rfl ?_
  refine gg (fun t k => XS.iinc X2.here hx rfl (hb hby d28_34) rfl (l' := #[vR xb, vI ((0 : Int32) + (1 : Int32)), vI xi]) rfl k) ?_
  show own_Goes p e below (T2.setTop (mkF m 37 #[vR xb, vI ((0 : Int32) + (1 : Int32)), vI xi] [.int 0, .ref xb])) _
  rw [show ((0 : Int32) + (1 : Int32)) = (1 : Int32) from by decide]
  refine q_iloadN X2 hx hby d28_37 rfl ?_
  have q3 := G3.ext O0.2
  refine qS X2 hx hby hZ hown (host := "") (Or.inl (wh hw 125 rfl)) Via.refl e2 q3 d28_38 (fun T4 X4 e4 => ?_)
  refine gg (fun t k => XS.ishr X4.here hx rfl (hb hby d28_41) rfl k) ?_
  show own_Goes p e below (T4.setTop (mkF m 42 #[vR xb, vI 1, vI xi] [(.int (xi >>> ((0 : Int32) &&& 31))), .int 0, .ref xb])) _
  rw [show (xi >>> ((0 : Int32) &&& 31)) = xi from own_sh0 xi]
  refine gg (fun t k => XS.i2b X4.here hx rfl (hb hby d28_42) rfl k) ?_
  refine q_stB X4 hx hby hZ e4 P0 0 d28_43 (fun T6 h6 X6 e6 W6 V6 => ?_)
  have O7 := O0.wr W6 (show n0 ≤ xb by omega)
  have sz8 : h6.size = h0.size := Wr.size W6
  have K9 := K0.wr W6 (Or.inl (List.mem_of_getElem? (i := 0) rfl))
  have N6 := Fr.snoc X6 N0 (show n0 ≤ xb by omega)
  have V6 : Arv Z h6 xb xq .byte (6 : Int32) [(.int ((xi.toInt8.toInt32).toInt8.toInt32)), .int y1, .int y2, .int y3, .int y4, .int y5] (.int 0) := V6
  rw [show ((xi.toInt8.toInt32).toInt8.toInt32) = (xi.toInt8.toInt32) from own_i8i8 _] at V6
  refine q_aloadN X6 hx hby d28_44 rfl rfl ?_
  refine q_iloadN X6 hx hby d28_45 rfl ?_
  refine q_iloadN X6 hx hby d28_46 rfl ?_
  have q10 := G4.ext O7.2
  refine qS X6 hx hby hZ hown (host := "") (Or.inl (wh hw 126 rfl)) Via.refl e6 q10 d28_47 (fun T11 X11 e11 => ?_)
  refine gg (fun t k => XS.ishr X11.here hx rfl (hb hby d28_50) rfl k) ?_
  refine gg (fun t k => XS.i2b X11.here hx rfl (hb hby d28_51) rfl k) ?_
  refine q_stB X11 hx hby hZ e11 V6 1 d28_52 (fun T13 h13 X13 e13 W13 V13 => ?_)
  have O14 := O7.wr W13 (show n0 ≤ xb by omega)
  have sz15 : h13.size = h6.size := Wr.size W13
  have K16 := K9.wr W13 (Or.inl (List.mem_of_getElem? (i := 0) rfl))
  have N13 := Fr.snoc X13 N6 (show n0 ≤ xb by omega)
  have V13 : Arv Z h13 xb xq .byte (6 : Int32) [(.int (xi.toInt8.toInt32)), (.int (((xi >>> ((8 : Int32) &&& 31)).toInt8.toInt32).toInt8.toInt32)), .int y2, .int y3, .int y4, .int y5] (.int 0) := V13
  rw [show (((xi >>> ((8 : Int32) &&& 31)).toInt8.toInt32).toInt8.toInt32) = ((xi >>> ((8 : Int32) &&& 31)).toInt8.toInt32) from own_i8i8 _] at V13
  refine r_V X13 hx hby hret hlk d28_53 e13 ?_
  exact ⟨N13, K16, rfl, V13⟩
theorem own_ef_own_gc3_0 (m : MethodId) (xb : Addr) : entryFrame m #[.ref xb, .int 0] 2 = mkF m 0 #[vR xb, vI 0] [] := by first | (simp [entryFrame, mkF, argsToLocals, Value.category]; done) | rfl
def Q_own_gc3_0 (Z : State) (xb : Addr) (xq : ClassId) (y0 : Int32) (y1 : Int32) (y2 : Int32) (y3 : Int32) (y4 : Int32) (y5 : Int32) (gz : Int32) (gfm : Value) (h0 : Heap) (n0 : Nat) (v : Option Value) (h : Heap) (L : List Loc) : Prop := Fr n0 L ∧ h = h0 ∧ v = some (.int ((((y0 &&& (255 : Int32)) <<< ((0 : Int32) &&& 31)) ||| ((y1 &&& (255 : Int32)) <<< ((8 : Int32) &&& 31))).toUInt32.toUInt16.toUInt32.toInt32))
theorem own_gc3_0 (l : Launch) (Z : State) (a0 : Array Value) (hw : ∀ d ∈ tables_1, d.before a0 Z = true) (ws : List Jvm.Cond) (xb : Addr) (xq : ClassId) (y0 : Int32) (y1 : Int32) (y2 : Int32) (y3 : Int32) (y4 : Int32) (y5 : Int32) (h0 : Heap) (n0 : Nat) (O0 : Old Z n0 h0) (gz : Int32) (gfm : Value) (G : GG Z gz gfm) (P0 : Arv Z h0 xb xq .byte (6 : Int32) [.int y0, .int y1, .int y2, .int y3, .int y4, .int y5] (.int 0)) : own_Met l Z (⟨"java/lang/StringUTF16", "getChar", "([BI)C"⟩ : MethodName) jdk_52_method_5_code 2 (some .char) ws ({ frames := 0, cells := 0, slots := 0, locals := 0 } : Room) #[.ref xb, .int 0] h0 (Q_own_gc3_0 Z xb xq y0 y1 y2 y3 y4 y5 gz gfm h0 n0) := by
  refine own_mk (plainFor_of_name own_pn_java_lang_StringUTF16) O0 ?_
  intro p e s m below meth c s₁ hx hby hml hZ hown hnm hlk hret X0 e0 N0 z0 z1
  refine own_cast (own_ef_own_gc3_0 m xb) ?_
  show own_Goes p e below (s₁.setTop (mkF m 0 #[vR xb, vI 0] [])) _
  obtain ⟨G0, G1, G2, G3, G4, G5, G6⟩ := id G
  have ltP0 : @LT.lt Nat _ xb h0.size := P0.lt
  have q1 := G2.ext O0.2
  refine qS X0 hx hby hZ hown (host := "") (Or.inl (wh hw 124 rfl)) Via.refl e0 q1 d29_0 (fun T2 X2 e2 => ?_)
  refine q_ifYes (pc := 3) X2 hx hby d29_3 (pc' := 28) ((if0 _ _).trans (feq (show ¬ ((1 : Int32) = (0 : Int32)) from by decide)).2) (by decide) (by decide) ?_
  refine q_iloadN X2 hx hby d29_28 rfl ?_
  refine q_iconst X2 hx hby d29_29 ?_
  refine gg (fun t k => XS.ishl X2.here hx rfl (hb hby d29_30) rfl k) ?_
  show own_Goes p e below (T2.setTop (mkF m 31 #[vR xb, vI 0] [(.int ((0 : Int32) <<< ((1 : Int32) &&& 31)))])) _
  rw [show ((0 : Int32) <<< ((1 : Int32) &&& 31)) = (0 : Int32) from by decide]
  refine q_istoreN X2 hx hby d29_31 (l' := #[vR xb, vI 0]) rfl ?_
  refine q_aloadN X2 hx hby d29_32 rfl rfl ?_
  refine q_iloadN X2 hx hby d29_33 rfl ?_
  refine gg (fun t k => XS.iinc X2.here hx rfl (hb hby d29_34) rfl (l' := #[vR xb, vI ((0 : Int32) + (1 : Int32))]) rfl k) ?_
  show own_Goes p e below (T2.setTop (mkF m 37 #[vR xb, vI ((0 : Int32) + (1 : Int32))] [.int 0, .ref xb])) _
  rw [show ((0 : Int32) + (1 : Int32)) = (1 : Int32) from by decide]
  refine q_baloadBytes X2 hx hby hZ e2 P0 d29_37 (.int y0) ?_
  refine q_sipush X2 hx hby d29_38 ?_
  refine q_iand X2 hx hby d29_41 ?_
  have q4 := G3.ext O0.2
  refine qS X2 hx hby hZ hown (host := "") (Or.inl (wh hw 125 rfl)) Via.refl e2 q4 d29_42 (fun T5 X5 e5 => ?_)
  refine gg (fun t k => XS.ishl X5.here hx rfl (hb hby d29_45) rfl k) ?_
  refine q_aloadN X5 hx hby d29_46 rfl rfl ?_
  refine q_iloadN X5 hx hby d29_47 rfl ?_
  refine q_baloadBytes X5 hx hby hZ e5 P0 d29_48 (.int y1) ?_
  refine q_sipush X5 hx hby d29_49 ?_
  refine q_iand X5 hx hby d29_52 ?_
  have q7 := G4.ext O0.2
  refine qS X5 hx hby hZ hown (host := "") (Or.inl (wh hw 126 rfl)) Via.refl e5 q7 d29_53 (fun T8 X8 e8 => ?_)
  refine gg (fun t k => XS.ishl X8.here hx rfl (hb hby d29_56) rfl k) ?_
  refine gg (fun t k => XS.ior X8.here hx rfl (hb hby d29_57) rfl k) ?_
  refine gg (fun t k => XS.i2c X8.here hx rfl (hb hby d29_58) rfl k) ?_
  show own_Goes p e below (T8.setTop (mkF m 59 #[vR xb, vI 1] [(.int ((((y0 &&& (255 : Int32)) <<< ((0 : Int32) &&& 31)) ||| ((y1 &&& (255 : Int32)) <<< ((8 : Int32) &&& 31))).toUInt32.toUInt16.toUInt32.toInt32))])) _
  refine r_C X8 hx hby hret hlk d29_59 e8 ?_ (hn := (own_narr16 (own_C16i _)))
  exact ⟨N0, rfl, rfl⟩
theorem own_ef_own_pc3_1 (m : MethodId) (xb : Addr) (xi : Int32) : entryFrame m #[.ref xb, .int 1, .int xi] 3 = mkF m 0 #[vR xb, vI 1, vI xi] [] := by first | (simp [entryFrame, mkF, argsToLocals, Value.category]; done) | rfl
def Q_own_pc3_1 (Z : State) (xb : Addr) (xq : ClassId) (xi : Int32) (y0 : Int32) (y1 : Int32) (y2 : Int32) (y3 : Int32) (y4 : Int32) (y5 : Int32) (gz : Int32) (gfm : Value) (h0 : Heap) (n0 : Nat) (v : Option Value) (h : Heap) (L : List Loc) : Prop := Fr n0 L ∧ Keep h0 h [xb] ∧ v = none ∧ Arv Z h xb xq .byte (6 : Int32) [.int y0, .int y1, (.int (xi.toInt8.toInt32)), (.int ((xi >>> ((8 : Int32) &&& 31)).toInt8.toInt32)), .int y4, .int y5] (.int 0)
theorem own_pc3_1 (l : Launch) (Z : State) (a0 : Array Value) (hw : ∀ d ∈ tables_1, d.before a0 Z = true) (ws : List Jvm.Cond) (xb : Addr) (xq : ClassId) (xi : Int32) (y0 : Int32) (y1 : Int32) (y2 : Int32) (y3 : Int32) (y4 : Int32) (y5 : Int32) (h0 : Heap) (n0 : Nat) (O0 : Old Z n0 h0) (gz : Int32) (gfm : Value) (G : GG Z gz gfm) (P0 : Arv Z h0 xb xq .byte (6 : Int32) [.int y0, .int y1, .int y2, .int y3, .int y4, .int y5] (.int 0)) (P1 : n0 ≤ xb) : own_Met l Z (⟨"java/lang/StringUTF16", "putChar", "([BII)V"⟩ : MethodName) jdk_52_method_4_code 3 none ws ({ frames := 0, cells := 0, slots := 0, locals := 0 } : Room) #[.ref xb, .int 1, .int xi] h0 (Q_own_pc3_1 Z xb xq xi y0 y1 y2 y3 y4 y5 gz gfm h0 n0) := by
  refine own_mk (plainFor_of_name own_pn_java_lang_StringUTF16) O0 ?_
  intro p e s m below meth c s₁ hx hby hml hZ hown hnm hlk hret X0 e0 N0 z0 z1
  have K0 : Keep h0 h0 [xb] := Keep.refl _ _
  refine own_cast (own_ef_own_pc3_1 m xb xi) ?_
  show own_Goes p e below (s₁.setTop (mkF m 0 #[vR xb, vI 1, vI xi] [])) _
  obtain ⟨G0, G1, G2, G3, G4, G5, G6⟩ := id G
  have ltP0 : @LT.lt Nat _ xb h0.size := P0.lt
  have q1 := G2.ext O0.2
  refine qS X0 hx hby hZ hown (host := "") (Or.inl (wh hw 124 rfl)) Via.refl e0 q1 d28_0 (fun T2 X2 e2 => ?_)
  refine q_ifYes (pc := 3) X2 hx hby d28_3 (pc' := 28) ((if0 _ _).trans (feq (show ¬ ((1 : Int32) = (0 : Int32)) from by decide)).2) (by decide) (by decide) ?_
  refine q_iloadN X2 hx hby d28_28 rfl ?_
  refine q_iconst X2 hx hby d28_29 ?_
  refine gg (fun t k => XS.ishl X2.here hx rfl (hb hby d28_30) rfl k) ?_
  show own_Goes p e below (T2.setTop (mkF m 31 #[vR xb, vI 1, vI xi] [(.int ((1 : Int32) <<< ((1 : Int32) &&& 31)))])) _
  rw [show ((1 : Int32) <<< ((1 : Int32) &&& 31)) = (2 : Int32) from by decide]
  refine q_istoreN X2 hx hby d28_31 (l' := #[vR xb, vI 2, vI xi]) rfl ?_
  refine q_aloadN X2 hx hby d28_32 rfl rfl ?_
  refine q_iloadN X2 hx hby d28_33 rfl ?_
  refine gg (fun t k => XS.iinc X2.here hx rfl (hb hby d28_34) rfl (l' := #[vR xb, vI ((2 : Int32) + (1 : Int32)), vI xi]) rfl k) ?_
  show own_Goes p e below (T2.setTop (mkF m 37 #[vR xb, vI ((2 : Int32) + (1 : Int32)), vI xi] [.int 2, .ref xb])) _
  rw [show ((2 : Int32) + (1 : Int32)) = (3 : Int32) from by decide]
  refine q_iloadN X2 hx hby d28_37 rfl ?_
  have q3 := G3.ext O0.2
  refine qS X2 hx hby hZ hown (host := "") (Or.inl (wh hw 125 rfl)) Via.refl e2 q3 d28_38 (fun T4 X4 e4 => ?_)
  refine gg (fun t k => XS.ishr X4.here hx rfl (hb hby d28_41) rfl k) ?_
  show own_Goes p e below (T4.setTop (mkF m 42 #[vR xb, vI 3, vI xi] [(.int (xi >>> ((0 : Int32) &&& 31))), .int 2, .ref xb])) _
  rw [show (xi >>> ((0 : Int32) &&& 31)) = xi from own_sh0 xi]
  refine gg (fun t k => XS.i2b X4.here hx rfl (hb hby d28_42) rfl k) ?_
  refine q_stB X4 hx hby hZ e4 P0 2 d28_43 (fun T6 h6 X6 e6 W6 V6 => ?_)
  have O7 := O0.wr W6 (show n0 ≤ xb by omega)
  have sz8 : h6.size = h0.size := Wr.size W6
  have K9 := K0.wr W6 (Or.inl (List.mem_of_getElem? (i := 0) rfl))
  have N6 := Fr.snoc X6 N0 (show n0 ≤ xb by omega)
  have V6 : Arv Z h6 xb xq .byte (6 : Int32) [.int y0, .int y1, (.int ((xi.toInt8.toInt32).toInt8.toInt32)), .int y3, .int y4, .int y5] (.int 0) := V6
  rw [show ((xi.toInt8.toInt32).toInt8.toInt32) = (xi.toInt8.toInt32) from own_i8i8 _] at V6
  refine q_aloadN X6 hx hby d28_44 rfl rfl ?_
  refine q_iloadN X6 hx hby d28_45 rfl ?_
  refine q_iloadN X6 hx hby d28_46 rfl ?_
  have q10 := G4.ext O7.2
  refine qS X6 hx hby hZ hown (host := "") (Or.inl (wh hw 126 rfl)) Via.refl e6 q10 d28_47 (fun T11 X11 e11 => ?_)
  refine gg (fun t k => XS.ishr X11.here hx rfl (hb hby d28_50) rfl k) ?_
  refine gg (fun t k => XS.i2b X11.here hx rfl (hb hby d28_51) rfl k) ?_
  refine q_stB X11 hx hby hZ e11 V6 3 d28_52 (fun T13 h13 X13 e13 W13 V13 => ?_)
  have O14 := O7.wr W13 (show n0 ≤ xb by omega)
  have sz15 : h13.size = h6.size := Wr.size W13
  have K16 := K9.wr W13 (Or.inl (List.mem_of_getElem? (i := 0) rfl))
  have N13 := Fr.snoc X13 N6 (show n0 ≤ xb by omega)
  have V13 : Arv Z h13 xb xq .byte (6 : Int32) [.int y0, .int y1, (.int (xi.toInt8.toInt32)), (.int (((xi >>> ((8 : Int32) &&& 31)).toInt8.toInt32).toInt8.toInt32)), .int y4, .int y5] (.int 0) := V13
  rw [show (((xi >>> ((8 : Int32) &&& 31)).toInt8.toInt32).toInt8.toInt32) = ((xi >>> ((8 : Int32) &&& 31)).toInt8.toInt32) from own_i8i8 _] at V13
  refine r_V X13 hx hby hret hlk d28_53 e13 ?_
  exact ⟨N13, K16, rfl, V13⟩
theorem own_ef_own_gc3_1 (m : MethodId) (xb : Addr) : entryFrame m #[.ref xb, .int 1] 2 = mkF m 0 #[vR xb, vI 1] [] := by first | (simp [entryFrame, mkF, argsToLocals, Value.category]; done) | rfl
def Q_own_gc3_1 (Z : State) (xb : Addr) (xq : ClassId) (y0 : Int32) (y1 : Int32) (y2 : Int32) (y3 : Int32) (y4 : Int32) (y5 : Int32) (gz : Int32) (gfm : Value) (h0 : Heap) (n0 : Nat) (v : Option Value) (h : Heap) (L : List Loc) : Prop := Fr n0 L ∧ h = h0 ∧ v = some (.int ((((y2 &&& (255 : Int32)) <<< ((0 : Int32) &&& 31)) ||| ((y3 &&& (255 : Int32)) <<< ((8 : Int32) &&& 31))).toUInt32.toUInt16.toUInt32.toInt32))
theorem own_gc3_1 (l : Launch) (Z : State) (a0 : Array Value) (hw : ∀ d ∈ tables_1, d.before a0 Z = true) (ws : List Jvm.Cond) (xb : Addr) (xq : ClassId) (y0 : Int32) (y1 : Int32) (y2 : Int32) (y3 : Int32) (y4 : Int32) (y5 : Int32) (h0 : Heap) (n0 : Nat) (O0 : Old Z n0 h0) (gz : Int32) (gfm : Value) (G : GG Z gz gfm) (P0 : Arv Z h0 xb xq .byte (6 : Int32) [.int y0, .int y1, .int y2, .int y3, .int y4, .int y5] (.int 0)) : own_Met l Z (⟨"java/lang/StringUTF16", "getChar", "([BI)C"⟩ : MethodName) jdk_52_method_5_code 2 (some .char) ws ({ frames := 0, cells := 0, slots := 0, locals := 0 } : Room) #[.ref xb, .int 1] h0 (Q_own_gc3_1 Z xb xq y0 y1 y2 y3 y4 y5 gz gfm h0 n0) := by
  refine own_mk (plainFor_of_name own_pn_java_lang_StringUTF16) O0 ?_
  intro p e s m below meth c s₁ hx hby hml hZ hown hnm hlk hret X0 e0 N0 z0 z1
  refine own_cast (own_ef_own_gc3_1 m xb) ?_
  show own_Goes p e below (s₁.setTop (mkF m 0 #[vR xb, vI 1] [])) _
  obtain ⟨G0, G1, G2, G3, G4, G5, G6⟩ := id G
  have ltP0 : @LT.lt Nat _ xb h0.size := P0.lt
  have q1 := G2.ext O0.2
  refine qS X0 hx hby hZ hown (host := "") (Or.inl (wh hw 124 rfl)) Via.refl e0 q1 d29_0 (fun T2 X2 e2 => ?_)
  refine q_ifYes (pc := 3) X2 hx hby d29_3 (pc' := 28) ((if0 _ _).trans (feq (show ¬ ((1 : Int32) = (0 : Int32)) from by decide)).2) (by decide) (by decide) ?_
  refine q_iloadN X2 hx hby d29_28 rfl ?_
  refine q_iconst X2 hx hby d29_29 ?_
  refine gg (fun t k => XS.ishl X2.here hx rfl (hb hby d29_30) rfl k) ?_
  show own_Goes p e below (T2.setTop (mkF m 31 #[vR xb, vI 1] [(.int ((1 : Int32) <<< ((1 : Int32) &&& 31)))])) _
  rw [show ((1 : Int32) <<< ((1 : Int32) &&& 31)) = (2 : Int32) from by decide]
  refine q_istoreN X2 hx hby d29_31 (l' := #[vR xb, vI 2]) rfl ?_
  refine q_aloadN X2 hx hby d29_32 rfl rfl ?_
  refine q_iloadN X2 hx hby d29_33 rfl ?_
  refine gg (fun t k => XS.iinc X2.here hx rfl (hb hby d29_34) rfl (l' := #[vR xb, vI ((2 : Int32) + (1 : Int32))]) rfl k) ?_
  show own_Goes p e below (T2.setTop (mkF m 37 #[vR xb, vI ((2 : Int32) + (1 : Int32))] [.int 2, .ref xb])) _
  rw [show ((2 : Int32) + (1 : Int32)) = (3 : Int32) from by decide]
  refine q_baloadBytes X2 hx hby hZ e2 P0 d29_37 (.int y2) ?_
  refine q_sipush X2 hx hby d29_38 ?_
  refine q_iand X2 hx hby d29_41 ?_
  have q4 := G3.ext O0.2
  refine qS X2 hx hby hZ hown (host := "") (Or.inl (wh hw 125 rfl)) Via.refl e2 q4 d29_42 (fun T5 X5 e5 => ?_)
  refine gg (fun t k => XS.ishl X5.here hx rfl (hb hby d29_45) rfl k) ?_
  refine q_aloadN X5 hx hby d29_46 rfl rfl ?_
  refine q_iloadN X5 hx hby d29_47 rfl ?_
  refine q_baloadBytes X5 hx hby hZ e5 P0 d29_48 (.int y3) ?_
  refine q_sipush X5 hx hby d29_49 ?_
  refine q_iand X5 hx hby d29_52 ?_
  have q7 := G4.ext O0.2
  refine qS X5 hx hby hZ hown (host := "") (Or.inl (wh hw 126 rfl)) Via.refl e5 q7 d29_53 (fun T8 X8 e8 => ?_)
  refine gg (fun t k => XS.ishl X8.here hx rfl (hb hby d29_56) rfl k) ?_
  refine gg (fun t k => XS.ior X8.here hx rfl (hb hby d29_57) rfl k) ?_
  refine gg (fun t k => XS.i2c X8.here hx rfl (hb hby d29_58) rfl k) ?_
  show own_Goes p e below (T8.setTop (mkF m 59 #[vR xb, vI 3] [(.int ((((y2 &&& (255 : Int32)) <<< ((0 : Int32) &&& 31)) ||| ((y3 &&& (255 : Int32)) <<< ((8 : Int32) &&& 31))).toUInt32.toUInt16.toUInt32.toInt32))])) _
  refine r_C X8 hx hby hret hlk d29_59 e8 ?_ (hn := (own_narr16 (own_C16i _)))
  exact ⟨N0, rfl, rfl⟩
theorem own_ef_own_pc3_2 (m : MethodId) (xb : Addr) (xi : Int32) : entryFrame m #[.ref xb, .int 2, .int xi] 3 = mkF m 0 #[vR xb, vI 2, vI xi] [] := by first | (simp [entryFrame, mkF, argsToLocals, Value.category]; done) | rfl
def Q_own_pc3_2 (Z : State) (xb : Addr) (xq : ClassId) (xi : Int32) (y0 : Int32) (y1 : Int32) (y2 : Int32) (y3 : Int32) (y4 : Int32) (y5 : Int32) (gz : Int32) (gfm : Value) (h0 : Heap) (n0 : Nat) (v : Option Value) (h : Heap) (L : List Loc) : Prop := Fr n0 L ∧ Keep h0 h [xb] ∧ v = none ∧ Arv Z h xb xq .byte (6 : Int32) [.int y0, .int y1, .int y2, .int y3, (.int (xi.toInt8.toInt32)), (.int ((xi >>> ((8 : Int32) &&& 31)).toInt8.toInt32))] (.int 0)
theorem own_pc3_2 (l : Launch) (Z : State) (a0 : Array Value) (hw : ∀ d ∈ tables_1, d.before a0 Z = true) (ws : List Jvm.Cond) (xb : Addr) (xq : ClassId) (xi : Int32) (y0 : Int32) (y1 : Int32) (y2 : Int32) (y3 : Int32) (y4 : Int32) (y5 : Int32) (h0 : Heap) (n0 : Nat) (O0 : Old Z n0 h0) (gz : Int32) (gfm : Value) (G : GG Z gz gfm) (P0 : Arv Z h0 xb xq .byte (6 : Int32) [.int y0, .int y1, .int y2, .int y3, .int y4, .int y5] (.int 0)) (P1 : n0 ≤ xb) : own_Met l Z (⟨"java/lang/StringUTF16", "putChar", "([BII)V"⟩ : MethodName) jdk_52_method_4_code 3 none ws ({ frames := 0, cells := 0, slots := 0, locals := 0 } : Room) #[.ref xb, .int 2, .int xi] h0 (Q_own_pc3_2 Z xb xq xi y0 y1 y2 y3 y4 y5 gz gfm h0 n0) := by
  refine own_mk (plainFor_of_name own_pn_java_lang_StringUTF16) O0 ?_
  intro p e s m below meth c s₁ hx hby hml hZ hown hnm hlk hret X0 e0 N0 z0 z1
  have K0 : Keep h0 h0 [xb] := Keep.refl _ _
  refine own_cast (own_ef_own_pc3_2 m xb xi) ?_
  show own_Goes p e below (s₁.setTop (mkF m 0 #[vR xb, vI 2, vI xi] [])) _
  obtain ⟨G0, G1, G2, G3, G4, G5, G6⟩ := id G
  have ltP0 : @LT.lt Nat _ xb h0.size := P0.lt
  have q1 := G2.ext O0.2
  refine qS X0 hx hby hZ hown (host := "") (Or.inl (wh hw 124 rfl)) Via.refl e0 q1 d28_0 (fun T2 X2 e2 => ?_)
  refine q_ifYes (pc := 3) X2 hx hby d28_3 (pc' := 28) ((if0 _ _).trans (feq (show ¬ ((1 : Int32) = (0 : Int32)) from by decide)).2) (by decide) (by decide) ?_
  refine q_iloadN X2 hx hby d28_28 rfl ?_
  refine q_iconst X2 hx hby d28_29 ?_
  refine gg (fun t k => XS.ishl X2.here hx rfl (hb hby d28_30) rfl k) ?_
  show own_Goes p e below (T2.setTop (mkF m 31 #[vR xb, vI 2, vI xi] [(.int ((2 : Int32) <<< ((1 : Int32) &&& 31)))])) _
  rw [show ((2 : Int32) <<< ((1 : Int32) &&& 31)) = (4 : Int32) from by decide]
  refine q_istoreN X2 hx hby d28_31 (l' := #[vR xb, vI 4, vI xi]) rfl ?_
  refine q_aloadN X2 hx hby d28_32 rfl rfl ?_
  refine q_iloadN X2 hx hby d28_33 rfl ?_
  refine gg (fun t k => XS.iinc X2.here hx rfl (hb hby d28_34) rfl (l' := #[vR xb, vI ((4 : Int32) + (1 : Int32)), vI xi]) rfl k) ?_
  show own_Goes p e below (T2.setTop (mkF m 37 #[vR xb, vI ((4 : Int32) + (1 : Int32)), vI xi] [.int 4, .ref xb])) _
  rw [show ((4 : Int32) + (1 : Int32)) = (5 : Int32) from by decide]
  refine q_iloadN X2 hx hby d28_37 rfl ?_
  have q3 := G3.ext O0.2
  refine qS X2 hx hby hZ hown (host := "") (Or.inl (wh hw 125 rfl)) Via.refl e2 q3 d28_38 (fun T4 X4 e4 => ?_)
  refine gg (fun t k => XS.ishr X4.here hx rfl (hb hby d28_41) rfl k) ?_
  show own_Goes p e below (T4.setTop (mkF m 42 #[vR xb, vI 5, vI xi] [(.int (xi >>> ((0 : Int32) &&& 31))), .int 4, .ref xb])) _
  rw [show (xi >>> ((0 : Int32) &&& 31)) = xi from own_sh0 xi]
  refine gg (fun t k => XS.i2b X4.here hx rfl (hb hby d28_42) rfl k) ?_
  refine q_stB X4 hx hby hZ e4 P0 4 d28_43 (fun T6 h6 X6 e6 W6 V6 => ?_)
  have O7 := O0.wr W6 (show n0 ≤ xb by omega)
  have sz8 : h6.size = h0.size := Wr.size W6
  have K9 := K0.wr W6 (Or.inl (List.mem_of_getElem? (i := 0) rfl))
  have N6 := Fr.snoc X6 N0 (show n0 ≤ xb by omega)
  have V6 : Arv Z h6 xb xq .byte (6 : Int32) [.int y0, .int y1, .int y2, .int y3, (.int ((xi.toInt8.toInt32).toInt8.toInt32)), .int y5] (.int 0) := V6
  rw [show ((xi.toInt8.toInt32).toInt8.toInt32) = (xi.toInt8.toInt32) from own_i8i8 _] at V6
  refine q_aloadN X6 hx hby d28_44 rfl rfl ?_
  refine q_iloadN X6 hx hby d28_45 rfl ?_
  refine q_iloadN X6 hx hby d28_46 rfl ?_
  have q10 := G4.ext O7.2
  refine qS X6 hx hby hZ hown (host := "") (Or.inl (wh hw 126 rfl)) Via.refl e6 q10 d28_47 (fun T11 X11 e11 => ?_)
  refine gg (fun t k => XS.ishr X11.here hx rfl (hb hby d28_50) rfl k) ?_
  refine gg (fun t k => XS.i2b X11.here hx rfl (hb hby d28_51) rfl k) ?_
  refine q_stB X11 hx hby hZ e11 V6 5 d28_52 (fun T13 h13 X13 e13 W13 V13 => ?_)
  have O14 := O7.wr W13 (show n0 ≤ xb by omega)
  have sz15 : h13.size = h6.size := Wr.size W13
  have K16 := K9.wr W13 (Or.inl (List.mem_of_getElem? (i := 0) rfl))
  have N13 := Fr.snoc X13 N6 (show n0 ≤ xb by omega)
  have V13 : Arv Z h13 xb xq .byte (6 : Int32) [.int y0, .int y1, .int y2, .int y3, (.int (xi.toInt8.toInt32)), (.int (((xi >>> ((8 : Int32) &&& 31)).toInt8.toInt32).toInt8.toInt32))] (.int 0) := V13
  rw [show (((xi >>> ((8 : Int32) &&& 31)).toInt8.toInt32).toInt8.toInt32) = ((xi >>> ((8 : Int32) &&& 31)).toInt8.toInt32) from own_i8i8 _] at V13
  refine r_V X13 hx hby hret hlk d28_53 e13 ?_
  exact ⟨N13, K16, rfl, V13⟩
theorem own_ef_own_gc3_2 (m : MethodId) (xb : Addr) : entryFrame m #[.ref xb, .int 2] 2 = mkF m 0 #[vR xb, vI 2] [] := by first | (simp [entryFrame, mkF, argsToLocals, Value.category]; done) | rfl
def Q_own_gc3_2 (Z : State) (xb : Addr) (xq : ClassId) (y0 : Int32) (y1 : Int32) (y2 : Int32) (y3 : Int32) (y4 : Int32) (y5 : Int32) (gz : Int32) (gfm : Value) (h0 : Heap) (n0 : Nat) (v : Option Value) (h : Heap) (L : List Loc) : Prop := Fr n0 L ∧ h = h0 ∧ v = some (.int ((((y4 &&& (255 : Int32)) <<< ((0 : Int32) &&& 31)) ||| ((y5 &&& (255 : Int32)) <<< ((8 : Int32) &&& 31))).toUInt32.toUInt16.toUInt32.toInt32))
theorem own_gc3_2 (l : Launch) (Z : State) (a0 : Array Value) (hw : ∀ d ∈ tables_1, d.before a0 Z = true) (ws : List Jvm.Cond) (xb : Addr) (xq : ClassId) (y0 : Int32) (y1 : Int32) (y2 : Int32) (y3 : Int32) (y4 : Int32) (y5 : Int32) (h0 : Heap) (n0 : Nat) (O0 : Old Z n0 h0) (gz : Int32) (gfm : Value) (G : GG Z gz gfm) (P0 : Arv Z h0 xb xq .byte (6 : Int32) [.int y0, .int y1, .int y2, .int y3, .int y4, .int y5] (.int 0)) : own_Met l Z (⟨"java/lang/StringUTF16", "getChar", "([BI)C"⟩ : MethodName) jdk_52_method_5_code 2 (some .char) ws ({ frames := 0, cells := 0, slots := 0, locals := 0 } : Room) #[.ref xb, .int 2] h0 (Q_own_gc3_2 Z xb xq y0 y1 y2 y3 y4 y5 gz gfm h0 n0) := by
  refine own_mk (plainFor_of_name own_pn_java_lang_StringUTF16) O0 ?_
  intro p e s m below meth c s₁ hx hby hml hZ hown hnm hlk hret X0 e0 N0 z0 z1
  refine own_cast (own_ef_own_gc3_2 m xb) ?_
  show own_Goes p e below (s₁.setTop (mkF m 0 #[vR xb, vI 2] [])) _
  obtain ⟨G0, G1, G2, G3, G4, G5, G6⟩ := id G
  have ltP0 : @LT.lt Nat _ xb h0.size := P0.lt
  have q1 := G2.ext O0.2
  refine qS X0 hx hby hZ hown (host := "") (Or.inl (wh hw 124 rfl)) Via.refl e0 q1 d29_0 (fun T2 X2 e2 => ?_)
  refine q_ifYes (pc := 3) X2 hx hby d29_3 (pc' := 28) ((if0 _ _).trans (feq (show ¬ ((1 : Int32) = (0 : Int32)) from by decide)).2) (by decide) (by decide) ?_
  refine q_iloadN X2 hx hby d29_28 rfl ?_
  refine q_iconst X2 hx hby d29_29 ?_
  refine gg (fun t k => XS.ishl X2.here hx rfl (hb hby d29_30) rfl k) ?_
  show own_Goes p e below (T2.setTop (mkF m 31 #[vR xb, vI 2] [(.int ((2 : Int32) <<< ((1 : Int32) &&& 31)))])) _
  rw [show ((2 : Int32) <<< ((1 : Int32) &&& 31)) = (4 : Int32) from by decide]
  refine q_istoreN X2 hx hby d29_31 (l' := #[vR xb, vI 4]) rfl ?_
  refine q_aloadN X2 hx hby d29_32 rfl rfl ?_
  refine q_iloadN X2 hx hby d29_33 rfl ?_
  refine gg (fun t k => XS.iinc X2.here hx rfl (hb hby d29_34) rfl (l' := #[vR xb, vI ((4 : Int32) + (1 : Int32))]) rfl k) ?_
  show own_Goes p e below (T2.setTop (mkF m 37 #[vR xb, vI ((4 : Int32) + (1 : Int32))] [.int 4, .ref xb])) _
  rw [show ((4 : Int32) + (1 : Int32)) = (5 : Int32) from by decide]
  refine q_baloadBytes X2 hx hby hZ e2 P0 d29_37 (.int y4) ?_
  refine q_sipush X2 hx hby d29_38 ?_
  refine q_iand X2 hx hby d29_41 ?_
  have q4 := G3.ext O0.2
  refine qS X2 hx hby hZ hown (host := "") (Or.inl (wh hw 125 rfl)) Via.refl e2 q4 d29_42 (fun T5 X5 e5 => ?_)
  refine gg (fun t k => XS.ishl X5.here hx rfl (hb hby d29_45) rfl k) ?_
  refine q_aloadN X5 hx hby d29_46 rfl rfl ?_
  refine q_iloadN X5 hx hby d29_47 rfl ?_
  refine q_baloadBytes X5 hx hby hZ e5 P0 d29_48 (.int y5) ?_
  refine q_sipush X5 hx hby d29_49 ?_
  refine q_iand X5 hx hby d29_52 ?_
  have q7 := G4.ext O0.2
  refine qS X5 hx hby hZ hown (host := "") (Or.inl (wh hw 126 rfl)) Via.refl e5 q7 d29_53 (fun T8 X8 e8 => ?_)
  refine gg (fun t k => XS.ishl X8.here hx rfl (hb hby d29_56) rfl k) ?_
  refine gg (fun t k => XS.ior X8.here hx rfl (hb hby d29_57) rfl k) ?_
  refine gg (fun t k => XS.i2c X8.here hx rfl (hb hby d29_58) rfl k) ?_
  show own_Goes p e below (T8.setTop (mkF m 59 #[vR xb, vI 5] [(.int ((((y4 &&& (255 : Int32)) <<< ((0 : Int32) &&& 31)) ||| ((y5 &&& (255 : Int32)) <<< ((8 : Int32) &&& 31))).toUInt32.toUInt16.toUInt32.toInt32))])) _
  refine r_C X8 hx hby hret hlk d29_59 e8 ?_ (hn := (own_narr16 (own_C16i _)))
  exact ⟨N0, rfl, rfl⟩
theorem own_ef_own_toBy3 (m : MethodId) (xc : Addr) : entryFrame m #[.ref xc, .int 0, .int 3] 5 = mkF m 0 #[vR xc, vI 0, vI 3, uS, uS] [] := by first | (simp [entryFrame, mkF, argsToLocals, Value.category]; done) | rfl
def Q_own_toBy3 (Z : State) (xc : Addr) (xk : ClassId) (c0 : Int32) (c1 : Int32) (c2 : Int32) (gz : Int32) (gfm : Value) (h0 : Heap) (n0 : Nat) (v : Option Value) (h : Heap) (L : List Loc) : Prop := Fr n0 L ∧ Keep h0 h [] ∧ ∃ (r : Addr), ∃ (rk : ClassId), v = some (.ref r) ∧ Arv Z h r rk .byte (6 : Int32) [(.int (c0.toInt8.toInt32)), (.int ((c0 >>> ((8 : Int32) &&& 31)).toInt8.toInt32)), (.int (c1.toInt8.toInt32)), (.int ((c1 >>> ((8 : Int32) &&& 31)).toInt8.toInt32)), (.int (c2.toInt8.toInt32)), (.int ((c2 >>> ((8 : Int32) &&& 31)).toInt8.toInt32))] (.int 0) ∧ h0.size ≤ r
theorem own_toBy3 (l : Launch) (Z : State) (a0 : Array Value) (hw : ∀ d ∈ tables_1, d.before a0 Z = true) (ws : List Jvm.Cond) (xc : Addr) (xk : ClassId) (c0 : Int32) (c1 : Int32) (c2 : Int32) (h0 : Heap) (n0 : Nat) (O0 : Old Z n0 h0) (gz : Int32) (gfm : Value) (G : GG Z gz gfm) (P0 : Arv Z h0 xc xk .char (3 : Int32) [.int c0, .int c1, .int c2] (.int 0)) : own_Met l Z (⟨"java/lang/StringUTF16", "toBytes", "([CII)[B"⟩ : MethodName) jdk_52_method_14_code 5 (some (.array .byte)) ws ({ frames := 2, cells := 1, slots := 6, locals := 24 } : Room) #[.ref xc, .int 0, .int 3] h0 (Q_own_toBy3 Z xc xk c0 c1 c2 gz gfm h0 n0) := by
  refine own_mk (plainFor_of_name own_pn_java_lang_StringUTF16) O0 ?_
  intro p e s m below meth c s₁ hx hby hml hZ hown hnm hlk hret X0 e0 N0 z0 z1
  have K0 : Keep h0 h0 [] := Keep.refl _ _
  refine own_cast (own_ef_own_toBy3 m xc) ?_
  show own_Goes p e below (s₁.setTop (mkF m 0 #[vR xc, vI 0, vI 3, uS, uS] [])) _
  obtain ⟨G0, G1, G2, G3, G4, G5, G6⟩ := id G
  have ltP0 : @LT.lt Nat _ xc h0.size := P0.lt
  refine q_iloadN X0 hx hby d25_0 rfl ?_
  refine k_S X0 hx hby hZ hown (wh hw 114 rfl) (wh hw 115 rfl) (W := 0) (own_nbf3 l Z a0 hw []  h0 n0 O0) (wh hw 116 rfl) (wh hw 75 rfl) e0  hml (argsL := [.int 3]) (rest := []) own_pd_1 d25_1 (fun _ T1 L1 X1 hQ1 => ?_)
  obtain ⟨h1, e1⟩ : ∃ z, T1.heap = z := ⟨_, rfl⟩
  rw [e1] at hQ1
  obtain ⟨Nc1, Kc1, r_1, rk_1, rfl, c1_0, c1_1⟩ := hQ1
  have N1 := Fr.app N0 Nc1
  have O2 := O0.keep Kc1 all0
  have sz3 : h0.size ≤ h1.size := Kc1.1
  have K4 := Keep.trans K0 Kc1 all0
  have ltc1_0 : @LT.lt Nat _ r_1 h1.size := c1_0.lt
  refine q_astoreN X1 hx hby d25_4 rfl (l' := #[vR xc, vI 0, vI 3, vR r_1, uS]) rfl ?_
  refine q_iconst X1 hx hby d25_5 ?_
  refine q_istore X1 hx hby d25_6 (l' := #[vR xc, vI 0, vI 3, vR r_1, vI 0]) rfl ?_
  refine q_iload X1 hx hby d25_8 rfl ?_
  refine q_iloadN X1 hx hby d25_10 rfl ?_
  refine q_icmpNo X1 hx hby d25_11 (tlt (show ((0 : Int32) < (3 : Int32)) from by decide)).2.1 ?_
  refine q_aloadN X1 hx hby d25_14 rfl rfl ?_
  refine q_iload X1 hx hby d25_15 rfl ?_
  refine q_aloadN X1 hx hby d25_17 rfl rfl ?_
  refine q_iloadN X1 hx hby d25_18 rfl ?_
  have f5 := (P0.keep Kc1 nin0)
  refine q_caload X1 hx hby hZ e1 f5 d25_19 (.int c0) ?_
  refine k_S X1 hx hby hZ hown (wh hw 121 rfl) (wh hw 122 rfl) (W := 0) (own_pc3_0 l Z a0 hw [] r_1 rk_1 c0 (0 : Int32) (0 : Int32) (0 : Int32) (0 : Int32) (0 : Int32) (0 : Int32) h1 n0 O2 gz gfm G c1_0 (show n0 ≤ r_1 by first | assumption | omega | decide)) (wh hw 123 rfl) (wh hw 75 rfl) e1  hml (argsL := [.ref r_1, .int 0, .int c0]) (rest := []) own_pd_2 d25_20 (fun _ T7 L7 X7 hQ7 => ?_)
  obtain ⟨h7, e7⟩ : ∃ z, T7.heap = z := ⟨_, rfl⟩
  rw [e7] at hQ7
  obtain ⟨Nc7, Kc7, rfl, c7_0⟩ := hQ7
  have N7 := Fr.app N1 Nc7
  have O8 := O2.keep Kc7 (allS (show n0 ≤ r_1 by omega) all0)
  have sz9 : h1.size ≤ h7.size := Kc7.1
  have K10 := Keep.trans K4 Kc7 (allS (Or.inr (show h0.size ≤ r_1 by omega)) all0)
  have ltc7_0 : @LT.lt Nat _ r_1 h7.size := c7_0.lt
  show own_Goes p e below (T7.setTop (mkF m 23 #[vR xc, vI 0, vI 3, vR r_1, vI 0] [])) _
  refine gg (fun t k => XS.iinc X7.here hx rfl (hb hby d25_23) rfl (l' := #[vR xc, vI ((0 : Int32) + (1 : Int32)), vI 3, vR r_1, vI 0]) rfl k) ?_
  show own_Goes p e below (T7.setTop (mkF m 26 #[vR xc, vI ((0 : Int32) + (1 : Int32)), vI 3, vR r_1, vI 0] [])) _
  rw [show ((0 : Int32) + (1 : Int32)) = (1 : Int32) from by decide]
  refine gg (fun t k => XS.iinc X7.here hx rfl (hb hby d25_26) rfl (l' := #[vR xc, vI 1, vI 3, vR r_1, vI ((0 : Int32) + (1 : Int32))]) rfl k) ?_
  show own_Goes p e below (T7.setTop (mkF m 29 #[vR xc, vI 1, vI 3, vR r_1, vI ((0 : Int32) + (1 : Int32))] [])) _
  rw [show ((0 : Int32) + (1 : Int32)) = (1 : Int32) from by decide]
  refine q_goto (pc := 29) X7 hx hby d25_29 (pc' := 8) (by decide) (by decide) ?_
  refine q_iload X7 hx hby d25_8 rfl ?_
  refine q_iloadN X7 hx hby d25_10 rfl ?_
  refine q_icmpNo X7 hx hby d25_11 (tlt (show ((1 : Int32) < (3 : Int32)) from by decide)).2.1 ?_
  refine q_aloadN X7 hx hby d25_14 rfl rfl ?_
  refine q_iload X7 hx hby d25_15 rfl ?_
  refine q_aloadN X7 hx hby d25_17 rfl rfl ?_
  refine q_iloadN X7 hx hby d25_18 rfl ?_
  have f11 := (f5.keep Kc7 (ninS (nE xc r_1 (by omega)) nin0))
  refine q_caload X7 hx hby hZ e7 f11 d25_19 (.int c1) ?_
  refine k_S X7 hx hby hZ hown (wh hw 121 rfl) (wh hw 122 rfl) (W := 0) (own_pc3_1 l Z a0 hw [] r_1 rk_1 c1 (c0.toInt8.toInt32) ((c0 >>> ((8 : Int32) &&& 31)).toInt8.toInt32) (0 : Int32) (0 : Int32) (0 : Int32) (0 : Int32) h7 n0 O8 gz gfm G c7_0 (show n0 ≤ r_1 by first | assumption | omega | decide)) (wh hw 123 rfl) (wh hw 75 rfl) e7  hml (argsL := [.ref r_1, .int 1, .int c1]) (rest := []) own_pd_2 d25_20 (fun _ T13 L13 X13 hQ13 => ?_)
  obtain ⟨h13, e13⟩ : ∃ z, T13.heap = z := ⟨_, rfl⟩
  rw [e13] at hQ13
  obtain ⟨Nc13, Kc13, rfl, c13_0⟩ := hQ13
  have N13 := Fr.app N7 Nc13
  have O14 := O8.keep Kc13 (allS (show n0 ≤ r_1 by omega) all0)
  have sz15 : h7.size ≤ h13.size := Kc13.1
  have K16 := Keep.trans K10 Kc13 (allS (Or.inr (show h0.size ≤ r_1 by omega)) all0)
  have ltc13_0 : @LT.lt Nat _ r_1 h13.size := c13_0.lt
  refine gg (fun t k => XS.iinc X13.here hx rfl (hb hby d25_23) rfl (l' := #[vR xc, vI ((1 : Int32) + (1 : Int32)), vI 3, vR r_1, vI 1]) rfl k) ?_
  show own_Goes p e below (T13.setTop (mkF m 26 #[vR xc, vI ((1 : Int32) + (1 : Int32)), vI 3, vR r_1, vI 1] [])) _
  rw [show ((1 : Int32) + (1 : Int32)) = (2 : Int32) from by decide]
  refine gg (fun t k => XS.iinc X13.here hx rfl (hb hby d25_26) rfl (l' := #[vR xc, vI 2, vI 3, vR r_1, vI ((1 : Int32) + (1 : Int32))]) rfl k) ?_
  show own_Goes p e below (T13.setTop (mkF m 29 #[vR xc, vI 2, vI 3, vR r_1, vI ((1 : Int32) + (1 : Int32))] [])) _
  rw [show ((1 : Int32) + (1 : Int32)) = (2 : Int32) from by decide]
  refine q_goto (pc := 29) X13 hx hby d25_29 (pc' := 8) (by decide) (by decide) ?_
  refine q_iload X13 hx hby d25_8 rfl ?_
  refine q_iloadN X13 hx hby d25_10 rfl ?_
  refine q_icmpNo X13 hx hby d25_11 (tlt (show ((2 : Int32) < (3 : Int32)) from by decide)).2.1 ?_
  refine q_aloadN X13 hx hby d25_14 rfl rfl ?_
  refine q_iload X13 hx hby d25_15 rfl ?_
  refine q_aloadN X13 hx hby d25_17 rfl rfl ?_
  refine q_iloadN X13 hx hby d25_18 rfl ?_
  have f17 := (f11.keep Kc13 (ninS (nE xc r_1 (by omega)) nin0))
  refine q_caload X13 hx hby hZ e13 f17 d25_19 (.int c2) ?_
  refine k_S X13 hx hby hZ hown (wh hw 121 rfl) (wh hw 122 rfl) (W := 0) (own_pc3_2 l Z a0 hw [] r_1 rk_1 c2 (c0.toInt8.toInt32) ((c0 >>> ((8 : Int32) &&& 31)).toInt8.toInt32) (c1.toInt8.toInt32) ((c1 >>> ((8 : Int32) &&& 31)).toInt8.toInt32) (0 : Int32) (0 : Int32) h13 n0 O14 gz gfm G c13_0 (show n0 ≤ r_1 by first | assumption | omega | decide)) (wh hw 123 rfl) (wh hw 75 rfl) e13  hml (argsL := [.ref r_1, .int 2, .int c2]) (rest := []) own_pd_2 d25_20 (fun _ T19 L19 X19 hQ19 => ?_)
  obtain ⟨h19, e19⟩ : ∃ z, T19.heap = z := ⟨_, rfl⟩
  rw [e19] at hQ19
  obtain ⟨Nc19, Kc19, rfl, c19_0⟩ := hQ19
  have N19 := Fr.app N13 Nc19
  have O20 := O14.keep Kc19 (allS (show n0 ≤ r_1 by omega) all0)
  have sz21 : h13.size ≤ h19.size := Kc19.1
  have K22 := Keep.trans K16 Kc19 (allS (Or.inr (show h0.size ≤ r_1 by omega)) all0)
  have ltc19_0 : @LT.lt Nat _ r_1 h19.size := c19_0.lt
  refine gg (fun t k => XS.iinc X19.here hx rfl (hb hby d25_23) rfl (l' := #[vR xc, vI ((2 : Int32) + (1 : Int32)), vI 3, vR r_1, vI 2]) rfl k) ?_
  show own_Goes p e below (T19.setTop (mkF m 26 #[vR xc, vI ((2 : Int32) + (1 : Int32)), vI 3, vR r_1, vI 2] [])) _
  rw [show ((2 : Int32) + (1 : Int32)) = (3 : Int32) from by decide]
  refine gg (fun t k => XS.iinc X19.here hx rfl (hb hby d25_26) rfl (l' := #[vR xc, vI 3, vI 3, vR r_1, vI ((2 : Int32) + (1 : Int32))]) rfl k) ?_
  show own_Goes p e below (T19.setTop (mkF m 29 #[vR xc, vI 3, vI 3, vR r_1, vI ((2 : Int32) + (1 : Int32))] [])) _
  rw [show ((2 : Int32) + (1 : Int32)) = (3 : Int32) from by decide]
  refine q_goto (pc := 29) X19 hx hby d25_29 (pc' := 8) (by decide) (by decide) ?_
  refine q_iload X19 hx hby d25_8 rfl ?_
  refine q_iloadN X19 hx hby d25_10 rfl ?_
  refine q_icmpYes (pc := 11) X19 hx hby d25_11 (pc' := 32) (flt (show ¬ ((3 : Int32) < (3 : Int32)) from by decide)).2.1 (by decide) (by decide) ?_
  refine q_aloadN X19 hx hby d25_32 rfl rfl ?_
  refine r_R X19 hx hby hret hlk d25_33 e19 ?_
  exact ⟨N19, K22, r_1, rk_1, rfl, c19_0, (show h0.size ≤ r_1 by first | assumption | omega | decide)⟩
theorem own_ef_own_ci3 (m : MethodId) (xc : Addr) (xb : Addr) : entryFrame m #[.ref xc, .int 0, .ref xb, .int 0, .int 3] 7 = mkF m 0 #[vR xc, vI 0, vR xb, vI 0, vI 3, uS, uS] [] := by first | (simp [entryFrame, mkF, argsToLocals, Value.category]; done) | rfl
def Q_own_ci3 (Z : State) (xc : Addr) (xk : ClassId) (xb : Addr) (xq : ClassId) (c0 : Int32) (c1 : Int32) (c2 : Int32) (h0 : Heap) (n0 : Nat) (v : Option Value) (h : Heap) (L : List Loc) : Prop := Fr n0 L ∧ Keep h0 h [xb] ∧ ∃ (r : Int32), ∃ (y0 : Int32), ∃ (y1 : Int32), ∃ (y2 : Int32), v = some (.int r) ∧ Arv Z h xb xq .byte (3 : Int32) [.int y0, .int y1, .int y2] (.int 0) ∧ ((r = (3 : Int32) ∧ y0 = (c0.toInt8.toInt32) ∧ y1 = (c1.toInt8.toInt32) ∧ y2 = (c2.toInt8.toInt32) ∧ ¬ (255 : Int32) < c0 ∧ ¬ (255 : Int32) < c1 ∧ ¬ (255 : Int32) < c2) ∨ (r = (0 : Int32) ∧ (255 : Int32) < c0) ∨ (r = (1 : Int32) ∧ (255 : Int32) < c1) ∨ (r = (2 : Int32) ∧ (255 : Int32) < c2))
theorem own_ci3 (l : Launch) (Z : State) (a0 : Array Value) (hw : ∀ d ∈ tables_1, d.before a0 Z = true) (ws : List Jvm.Cond) (xc : Addr) (xk : ClassId) (xb : Addr) (xq : ClassId) (c0 : Int32) (c1 : Int32) (c2 : Int32) (h0 : Heap) (n0 : Nat) (O0 : Old Z n0 h0) (P0 : Arv Z h0 xc xk .char (3 : Int32) [.int c0, .int c1, .int c2] (.int 0)) (P1 : Arv Z h0 xb xq .byte (3 : Int32) [.int 0, .int 0, .int 0] (.int 0)) (P2 : @LT.lt Nat _ xc xb) (P3 : n0 ≤ xb) : own_Met l Z (⟨"java/lang/StringUTF16", "compress", "([CI[BII)I"⟩ : MethodName) jdk_52_method_21_code 7 (some .int) ws ({ frames := 0, cells := 0, slots := 0, locals := 0 } : Room) #[.ref xc, .int 0, .ref xb, .int 0, .int 3] h0 (Q_own_ci3 Z xc xk xb xq c0 c1 c2 h0 n0) := by
  refine own_mk (plainFor_of_name own_pn_java_lang_StringUTF16) O0 ?_
  intro p e s m below meth c s₁ hx hby hml hZ hown hnm hlk hret X0 e0 N0 z0 z1
  have K0 : Keep h0 h0 [xb] := Keep.refl _ _
  refine own_cast (own_ef_own_ci3 m xc xb) ?_
  show own_Goes p e below (s₁.setTop (mkF m 0 #[vR xc, vI 0, vR xb, vI 0, vI 3, uS, uS] [])) _
  have ltP0 : @LT.lt Nat _ xc h0.size := P0.lt
  have ltP1 : @LT.lt Nat _ xb h0.size := P1.lt
  refine q_iconst X0 hx hby d17_0 ?_
  refine q_istore X0 hx hby d17_1 (l' := #[vR xc, vI 0, vR xb, vI 0, vI 3, vI 0, uS]) rfl ?_
  refine q_iload X0 hx hby d17_3 rfl ?_
  refine q_iload X0 hx hby d17_5 rfl ?_
  refine q_icmpNo X0 hx hby d17_7 (tlt (show ((0 : Int32) < (3 : Int32)) from by decide)).2.1 ?_
  refine q_aloadN X0 hx hby d17_10 rfl rfl ?_
  refine q_iloadN X0 hx hby d17_11 rfl ?_
  refine q_caload X0 hx hby hZ e0 P0 d17_12 (.int c0) ?_
  refine q_istore X0 hx hby d17_13 (l' := #[vR xc, vI 0, vR xb, vI 0, vI 3, vI 0, vI c0]) rfl ?_
  refine q_iload X0 hx hby d17_15 rfl ?_
  refine q_sipush X0 hx hby d17_17 ?_
  by_cases hc2 : (255 : Int32) < c0
  · refine q_icmpNo X0 hx hby d17_20 (tlt hc2).2.2.2 ?_
    refine q_iload X0 hx hby d17_23 rfl ?_
    refine r_I X0 hx hby hret hlk d17_25 e0 ?_
    exact ⟨N0, K0, (0 : Int32), (0 : Int32), (0 : Int32), (0 : Int32), rfl, P1, (Or.inr (Or.inl ⟨rfl, hc2⟩))⟩
  · refine q_icmpYes (pc := 20) X0 hx hby d17_20 (pc' := 26) (flt hc2).2.2.2 (by decide) (by decide) ?_
    show own_Goes p e below (s₁.setTop (mkF m 26 #[vR xc, vI 0, vR xb, vI 0, vI 3, vI 0, vI c0] [])) _
    refine q_aloadN X0 hx hby d17_26 rfl rfl ?_
    refine q_iloadN X0 hx hby d17_27 rfl ?_
    refine q_iload X0 hx hby d17_28 rfl ?_
    refine gg (fun t k => XS.i2b X0.here hx rfl (hb hby d17_30) rfl k) ?_
    refine q_stB X0 hx hby hZ e0 P1 0 d17_31 (fun T4 h4 X4 e4 W4 V4 => ?_)
    have O5 := O0.wr W4 (show n0 ≤ xb by omega)
    have sz6 : h4.size = h0.size := Wr.size W4
    have K7 := K0.wr W4 (Or.inl (List.mem_of_getElem? (i := 0) rfl))
    have N4 := Fr.snoc X4 N0 (show n0 ≤ xb by omega)
    have V4 : Arv Z h4 xb xq .byte (3 : Int32) [(.int ((c0.toInt8.toInt32).toInt8.toInt32)), .int 0, .int 0] (.int 0) := V4
    rw [show ((c0.toInt8.toInt32).toInt8.toInt32) = (c0.toInt8.toInt32) from own_i8i8 _] at V4
    refine gg (fun t k => XS.iinc X4.here hx rfl (hb hby d17_32) rfl (l' := #[vR xc, vI ((0 : Int32) + (1 : Int32)), vR xb, vI 0, vI 3, vI 0, vI c0]) rfl k) ?_
    show own_Goes p e below (T4.setTop (mkF m 35 #[vR xc, vI ((0 : Int32) + (1 : Int32)), vR xb, vI 0, vI 3, vI 0, vI c0] [])) _
    rw [show ((0 : Int32) + (1 : Int32)) = (1 : Int32) from by decide]
    refine gg (fun t k => XS.iinc X4.here hx rfl (hb hby d17_35) rfl (l' := #[vR xc, vI 1, vR xb, vI ((0 : Int32) + (1 : Int32)), vI 3, vI 0, vI c0]) rfl k) ?_
    show own_Goes p e below (T4.setTop (mkF m 38 #[vR xc, vI 1, vR xb, vI ((0 : Int32) + (1 : Int32)), vI 3, vI 0, vI c0] [])) _
    rw [show ((0 : Int32) + (1 : Int32)) = (1 : Int32) from by decide]
    refine gg (fun t k => XS.iinc X4.here hx rfl (hb hby d17_38) rfl (l' := #[vR xc, vI 1, vR xb, vI 1, vI 3, vI ((0 : Int32) + (1 : Int32)), vI c0]) rfl k) ?_
    show own_Goes p e below (T4.setTop (mkF m 41 #[vR xc, vI 1, vR xb, vI 1, vI 3, vI ((0 : Int32) + (1 : Int32)), vI c0] [])) _
    rw [show ((0 : Int32) + (1 : Int32)) = (1 : Int32) from by decide]
    refine q_goto (pc := 41) X4 hx hby d17_41 (pc' := 3) (by decide) (by decide) ?_
    refine q_iload X4 hx hby d17_3 rfl ?_
    refine q_iload X4 hx hby d17_5 rfl ?_
    refine q_icmpNo X4 hx hby d17_7 (tlt (show ((1 : Int32) < (3 : Int32)) from by decide)).2.1 ?_
    refine q_aloadN X4 hx hby d17_10 rfl rfl ?_
    refine q_iloadN X4 hx hby d17_11 rfl ?_
    have f8 := (P0.other W4 (nE xc xb (by omega)))
    refine q_caload X4 hx hby hZ e4 f8 d17_12 (.int c1) ?_
    refine q_istore X4 hx hby d17_13 (l' := #[vR xc, vI 1, vR xb, vI 1, vI 3, vI 1, vI c1]) rfl ?_
    refine q_iload X4 hx hby d17_15 rfl ?_
    refine q_sipush X4 hx hby d17_17 ?_
    by_cases hc10 : (255 : Int32) < c1
    · refine q_icmpNo X4 hx hby d17_20 (tlt hc10).2.2.2 ?_
      refine q_iload X4 hx hby d17_23 rfl ?_
      refine r_I X4 hx hby hret hlk d17_25 e4 ?_
      exact ⟨N4, K7, (1 : Int32), (c0.toInt8.toInt32), (0 : Int32), (0 : Int32), rfl, V4, (Or.inr (Or.inr (Or.inl ⟨rfl, hc10⟩)))⟩
    · refine q_icmpYes (pc := 20) X4 hx hby d17_20 (pc' := 26) (flt hc10).2.2.2 (by decide) (by decide) ?_
      refine q_aloadN X4 hx hby d17_26 rfl rfl ?_
      show own_Goes p e below (T4.setTop (mkF m 27 #[vR xc, vI 1, vR xb, vI 1, vI 3, vI 1, vI c1] [.ref xb])) _
      refine q_iloadN X4 hx hby d17_27 rfl ?_
      refine q_iload X4 hx hby d17_28 rfl ?_
      refine gg (fun t k => XS.i2b X4.here hx rfl (hb hby d17_30) rfl k) ?_
      refine q_stB X4 hx hby hZ e4 V4 1 d17_31 (fun T12 h12 X12 e12 W12 V12 => ?_)
      have O13 := O5.wr W12 (show n0 ≤ xb by omega)
      have sz14 : h12.size = h4.size := Wr.size W12
      have K15 := K7.wr W12 (Or.inl (List.mem_of_getElem? (i := 0) rfl))
      have N12 := Fr.snoc X12 N4 (show n0 ≤ xb by omega)
      have V12 : Arv Z h12 xb xq .byte (3 : Int32) [(.int (c0.toInt8.toInt32)), (.int ((c1.toInt8.toInt32).toInt8.toInt32)), .int 0] (.int 0) := V12
      rw [show ((c1.toInt8.toInt32).toInt8.toInt32) = (c1.toInt8.toInt32) from own_i8i8 _] at V12
      refine gg (fun t k => XS.iinc X12.here hx rfl (hb hby d17_32) rfl (l' := #[vR xc, vI ((1 : Int32) + (1 : Int32)), vR xb, vI 1, vI 3, vI 1, vI c1]) rfl k) ?_
      show own_Goes p e below (T12.setTop (mkF m 35 #[vR xc, vI ((1 : Int32) + (1 : Int32)), vR xb, vI 1, vI 3, vI 1, vI c1] [])) _
      rw [show ((1 : Int32) + (1 : Int32)) = (2 : Int32) from by decide]
      refine gg (fun t k => XS.iinc X12.here hx rfl (hb hby d17_35) rfl (l' := #[vR xc, vI 2, vR xb, vI ((1 : Int32) + (1 : Int32)), vI 3, vI 1, vI c1]) rfl k) ?_
      show own_Goes p e below (T12.setTop (mkF m 38 #[vR xc, vI 2, vR xb, vI ((1 : Int32) + (1 : Int32)), vI 3, vI 1, vI c1] [])) _
      rw [show ((1 : Int32) + (1 : Int32)) = (2 : Int32) from by decide]
      refine gg (fun t k => XS.iinc X12.here hx rfl (hb hby d17_38) rfl (l' := #[vR xc, vI 2, vR xb, vI 2, vI 3, vI ((1 : Int32) + (1 : Int32)), vI c1]) rfl k) ?_
      show own_Goes p e below (T12.setTop (mkF m 41 #[vR xc, vI 2, vR xb, vI 2, vI 3, vI ((1 : Int32) + (1 : Int32)), vI c1] [])) _
      rw [show ((1 : Int32) + (1 : Int32)) = (2 : Int32) from by decide]
      refine q_goto (pc := 41) X12 hx hby d17_41 (pc' := 3) (by decide) (by decide) ?_
      refine q_iload X12 hx hby d17_3 rfl ?_
      refine q_iload X12 hx hby d17_5 rfl ?_
      refine q_icmpNo X12 hx hby d17_7 (tlt (show ((2 : Int32) < (3 : Int32)) from by decide)).2.1 ?_
      refine q_aloadN X12 hx hby d17_10 rfl rfl ?_
      refine q_iloadN X12 hx hby d17_11 rfl ?_
      have f16 := (f8.other W12 (nE xc xb (by omega)))
      refine q_caload X12 hx hby hZ e12 f16 d17_12 (.int c2) ?_
      refine q_istore X12 hx hby d17_13 (l' := #[vR xc, vI 2, vR xb, vI 2, vI 3, vI 2, vI c2]) rfl ?_
      refine q_iload X12 hx hby d17_15 rfl ?_
      refine q_sipush X12 hx hby d17_17 ?_
      by_cases hc18 : (255 : Int32) < c2
      · refine q_icmpNo X12 hx hby d17_20 (tlt hc18).2.2.2 ?_
        refine q_iload X12 hx hby d17_23 rfl ?_
        refine r_I X12 hx hby hret hlk d17_25 e12 ?_
        exact ⟨N12, K15, (2 : Int32), (c0.toInt8.toInt32), (c1.toInt8.toInt32), (0 : Int32), rfl, V12, (Or.inr (Or.inr (Or.inr ⟨rfl, hc18⟩)))⟩
      · refine q_icmpYes (pc := 20) X12 hx hby d17_20 (pc' := 26) (flt hc18).2.2.2 (by decide) (by decide) ?_
        refine q_aloadN X12 hx hby d17_26 rfl rfl ?_
        show own_Goes p e below (T12.setTop (mkF m 27 #[vR xc, vI 2, vR xb, vI 2, vI 3, vI 2, vI c2] [.ref xb])) _
        refine q_iloadN X12 hx hby d17_27 rfl ?_
        refine q_iload X12 hx hby d17_28 rfl ?_
        refine gg (fun t k => XS.i2b X12.here hx rfl (hb hby d17_30) rfl k) ?_
        refine q_stB X12 hx hby hZ e12 V12 2 d17_31 (fun T20 h20 X20 e20 W20 V20 => ?_)
        have O21 := O13.wr W20 (show n0 ≤ xb by omega)
        have sz22 : h20.size = h12.size := Wr.size W20
        have K23 := K15.wr W20 (Or.inl (List.mem_of_getElem? (i := 0) rfl))
        have N20 := Fr.snoc X20 N12 (show n0 ≤ xb by omega)
        have V20 : Arv Z h20 xb xq .byte (3 : Int32) [(.int (c0.toInt8.toInt32)), (.int (c1.toInt8.toInt32)), (.int ((c2.toInt8.toInt32).toInt8.toInt32))] (.int 0) := V20
        rw [show ((c2.toInt8.toInt32).toInt8.toInt32) = (c2.toInt8.toInt32) from own_i8i8 _] at V20
        refine gg (fun t k => XS.iinc X20.here hx rfl (hb hby d17_32) rfl (l' := #[vR xc, vI ((2 : Int32) + (1 : Int32)), vR xb, vI 2, vI 3, vI 2, vI c2]) rfl k) ?_
        show own_Goes p e below (T20.setTop (mkF m 35 #[vR xc, vI ((2 : Int32) + (1 : Int32)), vR xb, vI 2, vI 3, vI 2, vI c2] [])) _
        rw [show ((2 : Int32) + (1 : Int32)) = (3 : Int32) from by decide]
        refine gg (fun t k => XS.iinc X20.here hx rfl (hb hby d17_35) rfl (l' := #[vR xc, vI 3, vR xb, vI ((2 : Int32) + (1 : Int32)), vI 3, vI 2, vI c2]) rfl k) ?_
        show own_Goes p e below (T20.setTop (mkF m 38 #[vR xc, vI 3, vR xb, vI ((2 : Int32) + (1 : Int32)), vI 3, vI 2, vI c2] [])) _
        rw [show ((2 : Int32) + (1 : Int32)) = (3 : Int32) from by decide]
        refine gg (fun t k => XS.iinc X20.here hx rfl (hb hby d17_38) rfl (l' := #[vR xc, vI 3, vR xb, vI 3, vI 3, vI ((2 : Int32) + (1 : Int32)), vI c2]) rfl k) ?_
        show own_Goes p e below (T20.setTop (mkF m 41 #[vR xc, vI 3, vR xb, vI 3, vI 3, vI ((2 : Int32) + (1 : Int32)), vI c2] [])) _
        rw [show ((2 : Int32) + (1 : Int32)) = (3 : Int32) from by decide]
        refine q_goto (pc := 41) X20 hx hby d17_41 (pc' := 3) (by decide) (by decide) ?_
        refine q_iload X20 hx hby d17_3 rfl ?_
        refine q_iload X20 hx hby d17_5 rfl ?_
        refine q_icmpYes (pc := 7) X20 hx hby d17_7 (pc' := 44) (flt (show ¬ ((3 : Int32) < (3 : Int32)) from by decide)).2.1 (by decide) (by decide) ?_
        refine q_iload X20 hx hby d17_44 rfl ?_
        refine r_I X20 hx hby hret hlk d17_46 e20 ?_
        exact ⟨N20, K23, (3 : Int32), (c0.toInt8.toInt32), (c1.toInt8.toInt32), (c2.toInt8.toInt32), rfl, V20, (Or.inl ⟨rfl, rfl, rfl, rfl, hc2, hc10, hc18⟩)⟩
theorem own_ef_own_co3 (m : MethodId) (xc : Addr) : entryFrame m #[.ref xc, .int 0, .int 3] 6 = mkF m 0 #[vR xc, vI 0, vI 3, uS, uS, uS] [] := by first | (simp [entryFrame, mkF, argsToLocals, Value.category]; done) | rfl
def Q_own_co3 (Z : State) (xc : Addr) (xk : ClassId) (c0 : Int32) (c1 : Int32) (c2 : Int32) (gz : Int32) (gfm : Value) (h0 : Heap) (n0 : Nat) (v : Option Value) (h : Heap) (L : List Loc) : Prop := Fr n0 L ∧ Keep h0 h [] ∧ ∃ (r : Addr), v = some (.ref r) ∧ own_Cod Z h r ([c0, c1, c2] : List Int32) ∧ h0.size ≤ r
theorem own_co3 (l : Launch) (Z : State) (a0 : Array Value) (hw : ∀ d ∈ tables_1, d.before a0 Z = true) (ws : List Jvm.Cond) (xc : Addr) (xk : ClassId) (c0 : Int32) (c1 : Int32) (c2 : Int32) (h0 : Heap) (n0 : Nat) (O0 : Old Z n0 h0) (gz : Int32) (gfm : Value) (G : GG Z gz gfm) (P0 : Arv Z h0 xc xk .char (3 : Int32) [.int c0, .int c1, .int c2] (.int 0)) (P1 : own_C16 c0) (P2 : own_C16 c1) (P3 : own_C16 c2) : own_Met l Z (⟨"java/lang/StringUTF16", "compress", "([CII)[B"⟩ : MethodName) jdk_52_method_16_code 6 (some (.array .byte)) ws ({ frames := 3, cells := 2, slots := 9, locals := 40 } : Room) #[.ref xc, .int 0, .int 3] h0 (Q_own_co3 Z xc xk c0 c1 c2 gz gfm h0 n0) := by
  refine own_mk (plainFor_of_name own_pn_java_lang_StringUTF16) O0 ?_
  intro p e s m below meth c s₁ hx hby hml hZ hown hnm hlk hret X0 e0 N0 z0 z1
  have K0 : Keep h0 h0 [] := Keep.refl _ _
  refine own_cast (own_ef_own_co3 m xc) ?_
  show own_Goes p e below (s₁.setTop (mkF m 0 #[vR xc, vI 0, vI 3, uS, uS, uS] [])) _
  obtain ⟨G0, G1, G2, G3, G4, G5, G6⟩ := id G
  have ltP0 : @LT.lt Nat _ xc h0.size := P0.lt
  refine q_iloadN X0 hx hby d16_0 rfl ?_
  obtain ⟨T1, h1, k1, X1, e1, E1, A1, st1⟩ := newP X0 hx hZ (wh hw 25 rfl) e0 (g := (mkF m 1 #[vR xc, vI 0, vI 3, uS, uS, uS] [.int 3])) rfl (hb hby d16_1) rfl (by decide) (cap := 3) (by decide) (by decide) (by decide) (by decide)
  obtain ⟨b1, g1⟩ : ∃ z, z = h0.size := ⟨_, rfl⟩
  rw [← g1] at A1 st1
  refine gg st1 ?_
  have O2 := O0.ext E1
  have sz3 : h0.size ≤ h1.size := E1.1
  have K4 := K0.ext E1
  have l1 : @LT.lt Nat _ b1 h1.size := A1.lt
  have V1 : Arv Z h1 b1 k1 .byte (3 : Int32) [.int 0, .int 0, .int 0] (.int 0) := (Arv.new A1 (by decide)).pad (pad_rep [] (.int 0) 3)
  refine q_astoreN X1 hx hby d16_3 rfl (l' := #[vR xc, vI 0, vI 3, vR b1, uS, uS]) rfl ?_
  refine q_aloadN X1 hx hby d16_4 rfl rfl ?_
  refine q_iloadN X1 hx hby d16_5 rfl ?_
  refine q_aloadN X1 hx hby d16_6 rfl rfl ?_
  refine q_iconst X1 hx hby d16_7 ?_
  refine q_iloadN X1 hx hby d16_8 rfl ?_
  have f5 := (P0.ext E1)
  refine k_S X1 hx hby hZ hown (wh hw 77 rfl) (wh hw 78 rfl) (W := 0) (own_ci3 l Z a0 hw [] xc xk b1 k1 c0 c1 c2 h1 n0 O2 f5 V1 (show @LT.lt Nat _ xc b1 by first | assumption | omega | decide) (show n0 ≤ b1 by first | assumption | omega | decide)) (wh hw 79 rfl) (wh hw 75 rfl) e1  hml (argsL := [.ref xc, .int 0, .ref b1, .int 0, .int 3]) (rest := []) own_pd_3 d16_9 (fun _ T6 L6 X6 hQ6 => ?_)
  obtain ⟨h6, e6⟩ : ∃ z, T6.heap = z := ⟨_, rfl⟩
  rw [e6] at hQ6
  obtain ⟨Nc6, Kc6, r_6, y0_6, y1_6, y2_6, rfl, c6_0, c6_1⟩ := hQ6
  have N6 := Fr.app N0 Nc6
  have O7 := O2.keep Kc6 (allS (show n0 ≤ b1 by omega) all0)
  have sz8 : h1.size ≤ h6.size := Kc6.1
  have K9 := Keep.trans K4 Kc6 (allS (Or.inr (show h0.size ≤ b1 by omega)) all0)
  have ltc6_0 : @LT.lt Nat _ b1 h6.size := c6_0.lt
  rcases c6_1 with ⟨rfl, rfl, rfl, rfl, hq10, hq11, hq12⟩ | ⟨rfl, hq10⟩ | ⟨rfl, hq11⟩ | ⟨rfl, hq12⟩
  · show own_Goes p e below (T6.setTop (mkF m 12 #[vR xc, vI 0, vI 3, vR b1, uS, uS] [.int 3])) _
    refine q_istore X6 hx hby d16_12 (l' := #[vR xc, vI 0, vI 3, vR b1, vI 3, uS]) rfl ?_
    refine q_iload X6 hx hby d16_14 rfl ?_
    refine q_iloadN X6 hx hby d16_16 rfl ?_
    refine q_icmpYes (pc := 17) X6 hx hby d16_17 (pc' := 57) (teq (show ((3 : Int32) = (3 : Int32)) from by decide)).1 (by decide) (by decide) ?_
    refine q_aloadN X6 hx hby d16_57 rfl rfl ?_
    refine r_R X6 hx hby hret hlk d16_58 e6 ?_
    exact ⟨N6, K9, b1, rfl, ⟨_, _, _, _, c6_0, Or.inl ⟨rfl, rfl, rfl, (own_alS hq10 (own_alS hq11 (own_alS hq12 own_al0)))⟩⟩, (show h0.size ≤ b1 by first | assumption | omega | decide)⟩
  · show own_Goes p e below (T6.setTop (mkF m 12 #[vR xc, vI 0, vI 3, vR b1, uS, uS] [.int 0])) _
    refine q_istore X6 hx hby d16_12 (l' := #[vR xc, vI 0, vI 3, vR b1, vI 0, uS]) rfl ?_
    refine q_iload X6 hx hby d16_14 rfl ?_
    refine q_iloadN X6 hx hby d16_16 rfl ?_
    refine q_icmpNo X6 hx hby d16_17 (feq (show ¬ ((0 : Int32) = (3 : Int32)) from by decide)).1 ?_
    refine q_aloadN X6 hx hby d16_20 rfl rfl ?_
    refine q_iloadN X6 hx hby d16_21 rfl ?_
    refine q_iloadN X6 hx hby d16_22 rfl ?_
    have f13 := (f5.keep Kc6 (ninS (nE xc b1 (by omega)) nin0))
    refine k_S X6 hx hby hZ hown (wh hw 111 rfl) (wh hw 112 rfl) (W := 0) (own_toBy3 l Z a0 hw [] xc xk c0 c1 c2 h6 n0 O7 gz gfm G f13) (wh hw 113 rfl) (wh hw 75 rfl) e6  hml (argsL := [.ref xc, .int 0, .int 3]) (rest := []) own_pd_4 d16_23 (fun _ T14 L14 X14 hQ14 => ?_)
    obtain ⟨h14, e14⟩ : ∃ z, T14.heap = z := ⟨_, rfl⟩
    rw [e14] at hQ14
    obtain ⟨Nc14, Kc14, r_14, rk_14, rfl, c14_0, c14_1⟩ := hQ14
    have N14 := Fr.app N6 Nc14
    have O15 := O7.keep Kc14 all0
    have sz16 : h6.size ≤ h14.size := Kc14.1
    have K17 := Keep.trans K9 Kc14 all0
    have ltc14_0 : @LT.lt Nat _ r_14 h14.size := c14_0.lt
    refine q_astore X14 hx hby d16_26 rfl (l' := #[vR xc, vI 0, vI 3, vR b1, vI 0, vR r_14]) rfl ?_
    refine q_aload X14 hx hby d16_28 rfl rfl ?_
    refine q_iload X14 hx hby d16_30 rfl ?_
    refine k_S X14 hx hby hZ hown (wh hw 127 rfl) (wh hw 128 rfl) (W := 0) (own_gc3_0 l Z a0 hw [] r_14 rk_14 (c0.toInt8.toInt32) ((c0 >>> ((8 : Int32) &&& 31)).toInt8.toInt32) (c1.toInt8.toInt32) ((c1 >>> ((8 : Int32) &&& 31)).toInt8.toInt32) (c2.toInt8.toInt32) ((c2 >>> ((8 : Int32) &&& 31)).toInt8.toInt32) h14 n0 O15 gz gfm G c14_0) (wh hw 129 rfl) (wh hw 75 rfl) e14  hml (argsL := [.ref r_14, .int 0]) (rest := []) own_pd_5 d16_32 (fun _ T18 L18 X18 hQ18 => ?_)
    obtain ⟨Nc18, e18, rfl⟩ := hQ18
    have N18 := Fr.app N14 Nc18
    show own_Goes p e below (T18.setTop (mkF m 35 #[vR xc, vI 0, vI 3, vR b1, vI 0, vR r_14] [(.int (((((c0.toInt8.toInt32) &&& (255 : Int32)) <<< ((0 : Int32) &&& 31)) ||| ((((c0 >>> ((8 : Int32) &&& 31)).toInt8.toInt32) &&& (255 : Int32)) <<< ((8 : Int32) &&& 31))).toUInt32.toUInt16.toUInt32.toInt32))])) _
    rw [show (((((c0.toInt8.toInt32) &&& (255 : Int32)) <<< ((0 : Int32) &&& 31)) ||| ((((c0 >>> ((8 : Int32) &&& 31)).toInt8.toInt32) &&& (255 : Int32)) <<< ((8 : Int32) &&& 31))).toUInt32.toUInt16.toUInt32.toInt32) = c0 from own_g16 P1]
    refine q_sipush X18 hx hby d16_35 ?_
    refine q_icmpYes (pc := 38) X18 hx hby d16_38 (pc' := 54) (tlt hq10).2.2.1 (by decide) (by decide) ?_
    refine q_aload X18 hx hby d16_54 rfl rfl ?_
    refine r_R X18 hx hby hret hlk d16_56 e18 ?_
    exact ⟨N18, K17, r_14, rfl, ⟨_, _, _, _, c14_0, Or.inr ⟨rfl, rfl, rfl, c0, by simp, hq10⟩⟩, (show h0.size ≤ r_14 by first | assumption | omega | decide)⟩
  · show own_Goes p e below (T6.setTop (mkF m 12 #[vR xc, vI 0, vI 3, vR b1, uS, uS] [.int 1])) _
    refine q_istore X6 hx hby d16_12 (l' := #[vR xc, vI 0, vI 3, vR b1, vI 1, uS]) rfl ?_
    refine q_iload X6 hx hby d16_14 rfl ?_
    refine q_iloadN X6 hx hby d16_16 rfl ?_
    refine q_icmpNo X6 hx hby d16_17 (feq (show ¬ ((1 : Int32) = (3 : Int32)) from by decide)).1 ?_
    refine q_aloadN X6 hx hby d16_20 rfl rfl ?_
    refine q_iloadN X6 hx hby d16_21 rfl ?_
    refine q_iloadN X6 hx hby d16_22 rfl ?_
    have f19 := (f5.keep Kc6 (ninS (nE xc b1 (by omega)) nin0))
    refine k_S X6 hx hby hZ hown (wh hw 111 rfl) (wh hw 112 rfl) (W := 0) (own_toBy3 l Z a0 hw [] xc xk c0 c1 c2 h6 n0 O7 gz gfm G f19) (wh hw 113 rfl) (wh hw 75 rfl) e6  hml (argsL := [.ref xc, .int 0, .int 3]) (rest := []) own_pd_4 d16_23 (fun _ T20 L20 X20 hQ20 => ?_)
    obtain ⟨h20, e20⟩ : ∃ z, T20.heap = z := ⟨_, rfl⟩
    rw [e20] at hQ20
    obtain ⟨Nc20, Kc20, r_20, rk_20, rfl, c20_0, c20_1⟩ := hQ20
    have N20 := Fr.app N6 Nc20
    have O21 := O7.keep Kc20 all0
    have sz22 : h6.size ≤ h20.size := Kc20.1
    have K23 := Keep.trans K9 Kc20 all0
    have ltc20_0 : @LT.lt Nat _ r_20 h20.size := c20_0.lt
    refine q_astore X20 hx hby d16_26 rfl (l' := #[vR xc, vI 0, vI 3, vR b1, vI 1, vR r_20]) rfl ?_
    refine q_aload X20 hx hby d16_28 rfl rfl ?_
    refine q_iload X20 hx hby d16_30 rfl ?_
    refine k_S X20 hx hby hZ hown (wh hw 127 rfl) (wh hw 128 rfl) (W := 0) (own_gc3_1 l Z a0 hw [] r_20 rk_20 (c0.toInt8.toInt32) ((c0 >>> ((8 : Int32) &&& 31)).toInt8.toInt32) (c1.toInt8.toInt32) ((c1 >>> ((8 : Int32) &&& 31)).toInt8.toInt32) (c2.toInt8.toInt32) ((c2 >>> ((8 : Int32) &&& 31)).toInt8.toInt32) h20 n0 O21 gz gfm G c20_0) (wh hw 129 rfl) (wh hw 75 rfl) e20  hml (argsL := [.ref r_20, .int 1]) (rest := []) own_pd_5 d16_32 (fun _ T24 L24 X24 hQ24 => ?_)
    obtain ⟨Nc24, e24, rfl⟩ := hQ24
    have N24 := Fr.app N20 Nc24
    show own_Goes p e below (T24.setTop (mkF m 35 #[vR xc, vI 0, vI 3, vR b1, vI 1, vR r_20] [(.int (((((c1.toInt8.toInt32) &&& (255 : Int32)) <<< ((0 : Int32) &&& 31)) ||| ((((c1 >>> ((8 : Int32) &&& 31)).toInt8.toInt32) &&& (255 : Int32)) <<< ((8 : Int32) &&& 31))).toUInt32.toUInt16.toUInt32.toInt32))])) _
    rw [show (((((c1.toInt8.toInt32) &&& (255 : Int32)) <<< ((0 : Int32) &&& 31)) ||| ((((c1 >>> ((8 : Int32) &&& 31)).toInt8.toInt32) &&& (255 : Int32)) <<< ((8 : Int32) &&& 31))).toUInt32.toUInt16.toUInt32.toInt32) = c1 from own_g16 P2]
    refine q_sipush X24 hx hby d16_35 ?_
    refine q_icmpYes (pc := 38) X24 hx hby d16_38 (pc' := 54) (tlt hq11).2.2.1 (by decide) (by decide) ?_
    refine q_aload X24 hx hby d16_54 rfl rfl ?_
    refine r_R X24 hx hby hret hlk d16_56 e24 ?_
    exact ⟨N24, K23, r_20, rfl, ⟨_, _, _, _, c20_0, Or.inr ⟨rfl, rfl, rfl, c1, by simp, hq11⟩⟩, (show h0.size ≤ r_20 by first | assumption | omega | decide)⟩
  · show own_Goes p e below (T6.setTop (mkF m 12 #[vR xc, vI 0, vI 3, vR b1, uS, uS] [.int 2])) _
    refine q_istore X6 hx hby d16_12 (l' := #[vR xc, vI 0, vI 3, vR b1, vI 2, uS]) rfl ?_
    refine q_iload X6 hx hby d16_14 rfl ?_
    refine q_iloadN X6 hx hby d16_16 rfl ?_
    refine q_icmpNo X6 hx hby d16_17 (feq (show ¬ ((2 : Int32) = (3 : Int32)) from by decide)).1 ?_
    refine q_aloadN X6 hx hby d16_20 rfl rfl ?_
    refine q_iloadN X6 hx hby d16_21 rfl ?_
    refine q_iloadN X6 hx hby d16_22 rfl ?_
    have f25 := (f5.keep Kc6 (ninS (nE xc b1 (by omega)) nin0))
    refine k_S X6 hx hby hZ hown (wh hw 111 rfl) (wh hw 112 rfl) (W := 0) (own_toBy3 l Z a0 hw [] xc xk c0 c1 c2 h6 n0 O7 gz gfm G f25) (wh hw 113 rfl) (wh hw 75 rfl) e6  hml (argsL := [.ref xc, .int 0, .int 3]) (rest := []) own_pd_4 d16_23 (fun _ T26 L26 X26 hQ26 => ?_)
    obtain ⟨h26, e26⟩ : ∃ z, T26.heap = z := ⟨_, rfl⟩
    rw [e26] at hQ26
    obtain ⟨Nc26, Kc26, r_26, rk_26, rfl, c26_0, c26_1⟩ := hQ26
    have N26 := Fr.app N6 Nc26
    have O27 := O7.keep Kc26 all0
    have sz28 : h6.size ≤ h26.size := Kc26.1
    have K29 := Keep.trans K9 Kc26 all0
    have ltc26_0 : @LT.lt Nat _ r_26 h26.size := c26_0.lt
    refine q_astore X26 hx hby d16_26 rfl (l' := #[vR xc, vI 0, vI 3, vR b1, vI 2, vR r_26]) rfl ?_
    refine q_aload X26 hx hby d16_28 rfl rfl ?_
    refine q_iload X26 hx hby d16_30 rfl ?_
    refine k_S X26 hx hby hZ hown (wh hw 127 rfl) (wh hw 128 rfl) (W := 0) (own_gc3_2 l Z a0 hw [] r_26 rk_26 (c0.toInt8.toInt32) ((c0 >>> ((8 : Int32) &&& 31)).toInt8.toInt32) (c1.toInt8.toInt32) ((c1 >>> ((8 : Int32) &&& 31)).toInt8.toInt32) (c2.toInt8.toInt32) ((c2 >>> ((8 : Int32) &&& 31)).toInt8.toInt32) h26 n0 O27 gz gfm G c26_0) (wh hw 129 rfl) (wh hw 75 rfl) e26  hml (argsL := [.ref r_26, .int 2]) (rest := []) own_pd_5 d16_32 (fun _ T30 L30 X30 hQ30 => ?_)
    obtain ⟨Nc30, e30, rfl⟩ := hQ30
    have N30 := Fr.app N26 Nc30
    show own_Goes p e below (T30.setTop (mkF m 35 #[vR xc, vI 0, vI 3, vR b1, vI 2, vR r_26] [(.int (((((c2.toInt8.toInt32) &&& (255 : Int32)) <<< ((0 : Int32) &&& 31)) ||| ((((c2 >>> ((8 : Int32) &&& 31)).toInt8.toInt32) &&& (255 : Int32)) <<< ((8 : Int32) &&& 31))).toUInt32.toUInt16.toUInt32.toInt32))])) _
    rw [show (((((c2.toInt8.toInt32) &&& (255 : Int32)) <<< ((0 : Int32) &&& 31)) ||| ((((c2 >>> ((8 : Int32) &&& 31)).toInt8.toInt32) &&& (255 : Int32)) <<< ((8 : Int32) &&& 31))).toUInt32.toUInt16.toUInt32.toInt32) = c2 from own_g16 P3]
    refine q_sipush X30 hx hby d16_35 ?_
    refine q_icmpYes (pc := 38) X30 hx hby d16_38 (pc' := 54) (tlt hq12).2.2.1 (by decide) (by decide) ?_
    refine q_aload X30 hx hby d16_54 rfl rfl ?_
    refine r_R X30 hx hby hret hlk d16_56 e30 ?_
    exact ⟨N30, K29, r_26, rfl, ⟨_, _, _, _, c26_0, Or.inr ⟨rfl, rfl, rfl, c2, by simp, hq12⟩⟩, (show h0.size ≤ r_26 by first | assumption | omega | decide)⟩
theorem own_ef_own_cfa3a (m : MethodId) (xb : Addr) : entryFrame m #[.ref xb, .int 3] 2 = mkF m 0 #[vR xb, vI 3] [] := by first | (simp [entryFrame, mkF, argsToLocals, Value.category]; done) | rfl
def Q_own_cfa3a (Z : State) (xb : Addr) (xq : ClassId) (y0 : Int32) (y1 : Int32) (y2 : Int32) (h0 : Heap) (n0 : Nat) (v : Option Value) (h : Heap) (L : List Loc) : Prop := Fr n0 L ∧ h = h0 ∧ v = some (.int 0)
theorem own_cfa3a (l : Launch) (Z : State) (a0 : Array Value) (hw : ∀ d ∈ tables_1, d.before a0 Z = true) (ws : List Jvm.Cond) (xb : Addr) (xq : ClassId) (y0 : Int32) (y1 : Int32) (y2 : Int32) (h0 : Heap) (n0 : Nat) (O0 : Old Z n0 h0) (P0 : Arv Z h0 xb xq .byte (3 : Int32) [.int y0, .int y1, .int y2] (.int 0)) : own_Met l Z (⟨"java/lang/StringUTF16", "coderFromArrayLen", "([BI)B"⟩ : MethodName) jdk_52_method_15_code 2 (some .byte) ws ({ frames := 0, cells := 0, slots := 0, locals := 0 } : Room) #[.ref xb, .int 3] h0 (Q_own_cfa3a Z xb xq y0 y1 y2 h0 n0) := by
  refine own_mk (plainFor_of_name own_pn_java_lang_StringUTF16) O0 ?_
  intro p e s m below meth c s₁ hx hby hml hZ hown hnm hlk hret X0 e0 N0 z0 z1
  refine own_cast (own_ef_own_cfa3a m xb) ?_
  show own_Goes p e below (s₁.setTop (mkF m 0 #[vR xb, vI 3] [])) _
  have ltP0 : @LT.lt Nat _ xb h0.size := P0.lt
  refine q_iloadN X0 hx hby d18_0 rfl ?_
  refine q_aloadN X0 hx hby d18_1 rfl rfl ?_
  refine q_len X0 hx hby hZ e0 P0 d18_2 ?_
  refine q_isub X0 hx hby d18_3 ?_
  show own_Goes p e below (s₁.setTop (mkF m 4 #[vR xb, vI 3] [(.int ((3 : Int32) - (3 : Int32)))])) _
  rw [show ((3 : Int32) - (3 : Int32)) = (0 : Int32) from by decide]
  refine q_bipush X0 hx hby d18_4 ?_
  refine gg (fun t k => XS.iushr X0.here hx rfl (hb hby d18_6) rfl k) ?_
  show own_Goes p e below (s₁.setTop (mkF m 7 #[vR xb, vI 3] [(.int (((0 : Int32).toUInt32 >>> ((31 : Int32) &&& 31).toUInt32).toInt32))])) _
  rw [show (((0 : Int32).toUInt32 >>> ((31 : Int32) &&& 31).toUInt32).toInt32) = (0 : Int32) from by decide]
  refine gg (fun t k => XS.i2b X0.here hx rfl (hb hby d18_7) rfl k) ?_
  show own_Goes p e below (s₁.setTop (mkF m 8 #[vR xb, vI 3] [(.int ((0 : Int32).toInt8.toInt32))])) _
  rw [show ((0 : Int32).toInt8.toInt32) = (0 : Int32) from by decide]
  refine r_B X0 hx hby hret hlk d18_8 e0 ?_
  exact ⟨N0, rfl, rfl⟩
theorem own_ef_own_cfa3b (m : MethodId) (xb : Addr) : entryFrame m #[.ref xb, .int 3] 2 = mkF m 0 #[vR xb, vI 3] [] := by first | (simp [entryFrame, mkF, argsToLocals, Value.category]; done) | rfl
def Q_own_cfa3b (Z : State) (xb : Addr) (xq : ClassId) (y0 : Int32) (y1 : Int32) (y2 : Int32) (y3 : Int32) (y4 : Int32) (y5 : Int32) (h0 : Heap) (n0 : Nat) (v : Option Value) (h : Heap) (L : List Loc) : Prop := Fr n0 L ∧ h = h0 ∧ v = some (.int 1)
theorem own_cfa3b (l : Launch) (Z : State) (a0 : Array Value) (hw : ∀ d ∈ tables_1, d.before a0 Z = true) (ws : List Jvm.Cond) (xb : Addr) (xq : ClassId) (y0 : Int32) (y1 : Int32) (y2 : Int32) (y3 : Int32) (y4 : Int32) (y5 : Int32) (h0 : Heap) (n0 : Nat) (O0 : Old Z n0 h0) (P0 : Arv Z h0 xb xq .byte (6 : Int32) [.int y0, .int y1, .int y2, .int y3, .int y4, .int y5] (.int 0)) : own_Met l Z (⟨"java/lang/StringUTF16", "coderFromArrayLen", "([BI)B"⟩ : MethodName) jdk_52_method_15_code 2 (some .byte) ws ({ frames := 0, cells := 0, slots := 0, locals := 0 } : Room) #[.ref xb, .int 3] h0 (Q_own_cfa3b Z xb xq y0 y1 y2 y3 y4 y5 h0 n0) := by
  refine own_mk (plainFor_of_name own_pn_java_lang_StringUTF16) O0 ?_
  intro p e s m below meth c s₁ hx hby hml hZ hown hnm hlk hret X0 e0 N0 z0 z1
  refine own_cast (own_ef_own_cfa3b m xb) ?_
  show own_Goes p e below (s₁.setTop (mkF m 0 #[vR xb, vI 3] [])) _
  have ltP0 : @LT.lt Nat _ xb h0.size := P0.lt
  refine q_iloadN X0 hx hby d18_0 rfl ?_
  refine q_aloadN X0 hx hby d18_1 rfl rfl ?_
  refine q_len X0 hx hby hZ e0 P0 d18_2 ?_
  refine q_isub X0 hx hby d18_3 ?_
  show own_Goes p e below (s₁.setTop (mkF m 4 #[vR xb, vI 3] [(.int ((3 : Int32) - (6 : Int32)))])) _
  rw [show ((3 : Int32) - (6 : Int32)) = (-3 : Int32) from by decide]
  refine q_bipush X0 hx hby d18_4 ?_
  refine gg (fun t k => XS.iushr X0.here hx rfl (hb hby d18_6) rfl k) ?_
  show own_Goes p e below (s₁.setTop (mkF m 7 #[vR xb, vI 3] [(.int (((-3 : Int32).toUInt32 >>> ((31 : Int32) &&& 31).toUInt32).toInt32))])) _
  rw [show (((-3 : Int32).toUInt32 >>> ((31 : Int32) &&& 31).toUInt32).toInt32) = (1 : Int32) from by decide]
  refine gg (fun t k => XS.i2b X0.here hx rfl (hb hby d18_7) rfl k) ?_
  show own_Goes p e below (s₁.setTop (mkF m 8 #[vR xb, vI 3] [(.int ((1 : Int32).toInt8.toInt32))])) _
  rw [show ((1 : Int32).toInt8.toInt32) = (1 : Int32) from by decide]
  refine r_B X0 hx hby hret hlk d18_8 e0 ?_
  exact ⟨N0, rfl, rfl⟩
theorem own_ef_own_si3 (m : MethodId) (xa : Addr) (xc : Addr) : entryFrame m #[.ref xa, .ref xc, .int 0, .int 3, .null] 6 = mkF m 0 #[vR xa, vR xc, vI 0, vI 3, vN, uS] [] := by first | (simp [entryFrame, mkF, argsToLocals, Value.category]; done) | rfl
def Q_own_si3 (Z : State) (xa : Addr) (xc : Addr) (xk : ClassId) (c0 : Int32) (c1 : Int32) (c2 : Int32) (gz : Int32) (gfm : Value) (h0 : Heap) (n0 : Nat) (v : Option Value) (h : Heap) (L : List Loc) : Prop := Fr n0 L ∧ Keep h0 h [xa] ∧ ∃ (rb : Addr), v = none ∧ own_Str Z h xa rb ([c0, c1, c2] : List Int32)
theorem own_si3 (l : Launch) (Z : State) (a0 : Array Value) (hw : ∀ d ∈ tables_1, d.before a0 Z = true) (ws : List Jvm.Cond) (xa : Addr) (xc : Addr) (xk : ClassId) (c0 : Int32) (c1 : Int32) (c2 : Int32) (h0 : Heap) (n0 : Nat) (O0 : Old Z n0 h0) (gz : Int32) (gfm : Value) (G : GG Z gz gfm) (P0 : Exa Z h0 xa "java/lang/String") (P1 : Fld Z h0 xa "java/lang/String" "value" "[B" .null) (P2 : Fld Z h0 xa "java/lang/String" "coder" "B" (.int 0)) (P3 : n0 ≤ xa) (P4 : Arv Z h0 xc xk .char (3 : Int32) [.int c0, .int c1, .int c2] (.int 0)) (P5 : (@LT.lt Nat _ xc xa ∨ @LT.lt Nat _ xa xc)) (P6 : own_C16 c0) (P7 : own_C16 c1) (P8 : own_C16 c2) : own_Met l Z (⟨"java/lang/String", "<init>", "([CIILjava/lang/Void;)V"⟩ : MethodName) jdk_42_method_149_code 6 none ws ({ frames := 4, cells := 2, slots := 9, locals := 57 } : Room) #[.ref xa, .ref xc, .int 0, .int 3, .null] h0 (Q_own_si3 Z xa xc xk c0 c1 c2 gz gfm h0 n0) := by
  refine own_mk (plainFor_of_name own_pn_java_lang_String) O0 ?_
  intro p e s m below meth c s₁ hx hby hml hZ hown hnm hlk hret X0 e0 N0 z0 z1
  have K0 : Keep h0 h0 [xa] := Keep.refl _ _
  refine own_cast (own_ef_own_si3 m xa xc) ?_
  show own_Goes p e below (s₁.setTop (mkF m 0 #[vR xa, vR xc, vI 0, vI 3, vN, uS] [])) _
  obtain ⟨G0, G1, G2, G3, G4, G5, G6⟩ := id G
  have ltP0 : @LT.lt Nat _ xa h0.size := P0.lt
  have ltP4 : @LT.lt Nat _ xc h0.size := P4.lt
  refine q_aloadN X0 hx hby d4_0 rfl rfl ?_
  obtain ⟨T1, X1, e1, st1⟩ := initO X0 hx hZ hown (wh hw 21 rfl) (wh hw 22 rfl) (wh hw 23 rfl) e0 (g := (mkF m 1 #[vR xa, vR xc, vI 0, vI 3, vN, uS] [.ref xa])) rfl (by rw [hml]; rfl) rfl (hb hby d4_1) (by decide) (W := 0) (by show 2 * 0 + _ ≤ _; exact Nat.le_of_eq rfl) (by decide)
  refine gg st1 ?_
  refine q_iloadN X1 hx hby d4_4 rfl ?_
  refine q_ifYes (pc := 5) X1 hx hby d4_5 (pc' := 27) ((if0 _ _).trans (feq (show ¬ ((3 : Int32) = (0 : Int32)) from by decide)).2) (by decide) (by decide) ?_
  have q2 := G0.ext O0.2
  refine qS X1 hx hby hZ hown (host := "") (Or.inl (wh hw 35 rfl)) Via.refl e1 q2 d4_27 (fun T3 X3 e3 => ?_)
  refine q_ifNo X3 hx hby d4_30 ((if0 _ _).trans (feq (show ¬ (gz = (0 : Int32)) from G1)).1) ?_
  refine q_aloadN X3 hx hby d4_33 rfl rfl ?_
  refine q_iloadN X3 hx hby d4_34 rfl ?_
  refine q_iloadN X3 hx hby d4_35 rfl ?_
  refine k_S X3 hx hby hZ hown (wh hw 73 rfl) (wh hw 74 rfl) (W := 0) (own_co3 l Z a0 hw [] xc xk c0 c1 c2 h0 n0 O0 gz gfm G P4 (show own_C16 c0 from P6) (show own_C16 c1 from P7) (show own_C16 c2 from P8)) (wh hw 76 rfl) (wh hw 75 rfl) e3  hml (argsL := [.ref xc, .int 0, .int 3]) (rest := []) own_pd_4 d4_36 (fun _ T4 L4 X4 hQ4 => ?_)
  obtain ⟨h4, e4⟩ : ∃ z, T4.heap = z := ⟨_, rfl⟩
  rw [e4] at hQ4
  obtain ⟨Nc4, Kc4, r_4, rfl, c4_0, c4_1⟩ := hQ4
  have N4 := Fr.app N0 Nc4
  have O5 := O0.keep Kc4 all0
  have sz6 : h0.size ≤ h4.size := Kc4.1
  have K7 := Keep.trans K0 Kc4 all0
  obtain ⟨kbs8, cds8, Ns8, vss8, As8, hCs8⟩ := id c4_0
  rcases hCs8 with ⟨rfl, rfl, rfl, hLs8⟩ | ⟨rfl, rfl, rfl, hWs8⟩
  · have Bs8 : Arv Z h4 r_4 kbs8 .byte (3 : Int32) [(.int (c0.toInt8.toInt32)), (.int (c1.toInt8.toInt32)), (.int (c2.toInt8.toInt32))] (.int 0) := As8
    show own_Goes p e below (T4.setTop (mkF m 39 #[vR xa, vR xc, vI 0, vI 3, vN, uS] [.ref r_4])) _
    refine q_astore X4 hx hby d4_39 rfl (l' := #[vR xa, vR xc, vI 0, vI 3, vN, vR r_4]) rfl ?_
    refine q_aloadN X4 hx hby d4_41 rfl rfl ?_
    refine q_aload X4 hx hby d4_42 rfl rfl ?_
    refine q_iloadN X4 hx hby d4_44 rfl ?_
    refine k_S X4 hx hby hZ hown (wh hw 80 rfl) (wh hw 81 rfl) (W := 1) (own_cfa3a l Z a0 hw [] r_4 kbs8 (c0.toInt8.toInt32) (c1.toInt8.toInt32) (c2.toInt8.toInt32) h4 n0 O5 Bs8) (wh hw 82 rfl) (wh hw 75 rfl) e4  hml (argsL := [.ref r_4, .int 3]) (rest := [.ref xa]) own_pd_6 d4_45 (fun _ T9 L9 X9 hQ9 => ?_)
    obtain ⟨Nc9, e9, rfl⟩ := hQ9
    have N9 := Fr.app N4 Nc9
    have f10 := (P2.keep Kc4 nin0)
    have f11 := (P0.keep Kc4)
    obtain ⟨T12, h12, X12, e12, W12, st12⟩ := putFN X9 hx hZ hown (wh hw 31 rfl) Via.refl e9 f10 f11 (Or.inr ⟨(wh hw 27 rfl), rfl, hnm⟩) (wh hw 12 rfl) (ty := .byte) (v' := (.int 0)) (by decide) rfl rfl (g := (mkF m 48 #[vR xa, vR xc, vI 0, vI 3, vN, vR r_4] [.int 0, .ref xa])) rfl rfl (hb hby d4_48)
    refine gg st12 ?_
    have O13 := O5.wr W12 (show n0 ≤ xa by omega)
    have sz14 : h12.size = h4.size := Wr.size W12
    have K15 := K7.wr W12 (Or.inl (List.mem_of_getElem? (i := 0) rfl))
    have N12 := Fr.snoc X12 N9 (show n0 ≤ xa by omega)
    have Fw12 := f10.same W12
    refine q_aloadN X12 hx hby d4_51 rfl rfl ?_
    refine q_aload X12 hx hby d4_52 rfl rfl ?_
    have f16 := ((P1.keep Kc4 nin0).other W12 (Or.inr (slot_ne (Or.inr (wh hw 26 rfl)) (Or.inr (wh hw 27 rfl)) (by decide) (t := (.array .byte)) (t' := .byte) (by decide) (by decide))))
    have f17 := (f11.wr W12)
    refine qP X12 hx hby hZ hown (host := "") (Or.inl (wh hw 30 rfl)) Via.refl e12 f16 f17 (Or.inr ⟨(wh hw 26 rfl), rfl, hnm⟩) (wh hw 12 rfl) (ty := (.array .byte)) d4_54 (fun T18 h18 X18 e18 W18 => ?_)
    have O19 := O13.wr W18 (show n0 ≤ xa by omega)
    have sz20 : h18.size = h12.size := Wr.size W18
    have K21 := K15.wr W18 (Or.inl (List.mem_of_getElem? (i := 0) rfl))
    have N18 := Fr.snoc X18 N12 (show n0 ≤ xa by omega)
    have Fw18 := f16.same W18
    refine r_V X18 hx hby hret hlk d4_57 e18 ?_
    have f22 := (f17.wr W18)
    have f23 := (Fw12.other W18 (Or.inr (slot_ne (Or.inr (wh hw 27 rfl)) (Or.inr (wh hw 26 rfl)) (by decide) (t := .byte) (t' := (.array .byte)) (by decide) (by decide))))
    have f24 := ((Bs8.other W12 (nE r_4 xa (by omega))).other W18 (nE r_4 xa (by omega)))
    exact ⟨N18, K21, r_4, rfl, ⟨f22, Fw18, _, _, _, _, f23, f24, Or.inl ⟨rfl, rfl, rfl, hLs8⟩, (own_alS P6 (own_alS P7 (own_alS P8 own_al0))), Nat.le_of_ble_eq_true rfl⟩⟩
  · have Bs8 : Arv Z h4 r_4 kbs8 .byte (6 : Int32) [(.int (c0.toInt8.toInt32)), (.int ((c0 >>> ((8 : Int32) &&& 31)).toInt8.toInt32)), (.int (c1.toInt8.toInt32)), (.int ((c1 >>> ((8 : Int32) &&& 31)).toInt8.toInt32)), (.int (c2.toInt8.toInt32)), (.int ((c2 >>> ((8 : Int32) &&& 31)).toInt8.toInt32))] (.int 0) := As8
    show own_Goes p e below (T4.setTop (mkF m 39 #[vR xa, vR xc, vI 0, vI 3, vN, uS] [.ref r_4])) _
    refine q_astore X4 hx hby d4_39 rfl (l' := #[vR xa, vR xc, vI 0, vI 3, vN, vR r_4]) rfl ?_
    refine q_aloadN X4 hx hby d4_41 rfl rfl ?_
    refine q_aload X4 hx hby d4_42 rfl rfl ?_
    refine q_iloadN X4 hx hby d4_44 rfl ?_
    refine k_S X4 hx hby hZ hown (wh hw 80 rfl) (wh hw 81 rfl) (W := 1) (own_cfa3b l Z a0 hw [] r_4 kbs8 (c0.toInt8.toInt32) ((c0 >>> ((8 : Int32) &&& 31)).toInt8.toInt32) (c1.toInt8.toInt32) ((c1 >>> ((8 : Int32) &&& 31)).toInt8.toInt32) (c2.toInt8.toInt32) ((c2 >>> ((8 : Int32) &&& 31)).toInt8.toInt32) h4 n0 O5 Bs8) (wh hw 82 rfl) (wh hw 75 rfl) e4  hml (argsL := [.ref r_4, .int 3]) (rest := [.ref xa]) own_pd_6 d4_45 (fun _ T25 L25 X25 hQ25 => ?_)
    obtain ⟨Nc25, e25, rfl⟩ := hQ25
    have N25 := Fr.app N4 Nc25
    have f26 := (P2.keep Kc4 nin0)
    have f27 := (P0.keep Kc4)
    obtain ⟨T28, h28, X28, e28, W28, st28⟩ := putFN X25 hx hZ hown (wh hw 31 rfl) Via.refl e25 f26 f27 (Or.inr ⟨(wh hw 27 rfl), rfl, hnm⟩) (wh hw 12 rfl) (ty := .byte) (v' := (.int 1)) (by decide) rfl rfl (g := (mkF m 48 #[vR xa, vR xc, vI 0, vI 3, vN, vR r_4] [.int 1, .ref xa])) rfl rfl (hb hby d4_48)
    refine gg st28 ?_
    have O29 := O5.wr W28 (show n0 ≤ xa by omega)
    have sz30 : h28.size = h4.size := Wr.size W28
    have K31 := K7.wr W28 (Or.inl (List.mem_of_getElem? (i := 0) rfl))
    have N28 := Fr.snoc X28 N25 (show n0 ≤ xa by omega)
    have Fw28 := f26.same W28
    refine q_aloadN X28 hx hby d4_51 rfl rfl ?_
    refine q_aload X28 hx hby d4_52 rfl rfl ?_
    have f32 := ((P1.keep Kc4 nin0).other W28 (Or.inr (slot_ne (Or.inr (wh hw 26 rfl)) (Or.inr (wh hw 27 rfl)) (by decide) (t := (.array .byte)) (t' := .byte) (by decide) (by decide))))
    have f33 := (f27.wr W28)
    refine qP X28 hx hby hZ hown (host := "") (Or.inl (wh hw 30 rfl)) Via.refl e28 f32 f33 (Or.inr ⟨(wh hw 26 rfl), rfl, hnm⟩) (wh hw 12 rfl) (ty := (.array .byte)) d4_54 (fun T34 h34 X34 e34 W34 => ?_)
    have O35 := O29.wr W34 (show n0 ≤ xa by omega)
    have sz36 : h34.size = h28.size := Wr.size W34
    have K37 := K31.wr W34 (Or.inl (List.mem_of_getElem? (i := 0) rfl))
    have N34 := Fr.snoc X34 N28 (show n0 ≤ xa by omega)
    have Fw34 := f32.same W34
    refine r_V X34 hx hby hret hlk d4_57 e34 ?_
    have f38 := (f33.wr W34)
    have f39 := (Fw28.other W34 (Or.inr (slot_ne (Or.inr (wh hw 27 rfl)) (Or.inr (wh hw 26 rfl)) (by decide) (t := .byte) (t' := (.array .byte)) (by decide) (by decide))))
    have f40 := ((Bs8.other W28 (nE r_4 xa (by omega))).other W34 (nE r_4 xa (by omega)))
    exact ⟨N34, K37, r_4, rfl, ⟨f38, Fw34, _, _, _, _, f39, f40, Or.inr ⟨rfl, rfl, rfl, hWs8⟩, (own_alS P6 (own_alS P7 (own_alS P8 own_al0))), Nat.le_of_ble_eq_true rfl⟩⟩
theorem own_ef_own_sc3 (m : MethodId) (xa : Addr) (xc : Addr) : entryFrame m #[.ref xa, .ref xc] 2 = mkF m 0 #[vR xa, vR xc] [] := by first | (simp [entryFrame, mkF, argsToLocals, Value.category]; done) | rfl
def Q_own_sc3 (Z : State) (xa : Addr) (xc : Addr) (xk : ClassId) (c0 : Int32) (c1 : Int32) (c2 : Int32) (gz : Int32) (gfm : Value) (h0 : Heap) (n0 : Nat) (v : Option Value) (h : Heap) (L : List Loc) : Prop := Fr n0 L ∧ Keep h0 h [xa] ∧ ∃ (rb : Addr), v = none ∧ own_Str Z h xa rb ([c0, c1, c2] : List Int32)
theorem own_sc3 (l : Launch) (Z : State) (a0 : Array Value) (hw : ∀ d ∈ tables_1, d.before a0 Z = true) (ws : List Jvm.Cond) (xa : Addr) (xc : Addr) (xk : ClassId) (c0 : Int32) (c1 : Int32) (c2 : Int32) (h0 : Heap) (n0 : Nat) (O0 : Old Z n0 h0) (gz : Int32) (gfm : Value) (G : GG Z gz gfm) (P0 : Exa Z h0 xa "java/lang/String") (P1 : Fld Z h0 xa "java/lang/String" "value" "[B" .null) (P2 : Fld Z h0 xa "java/lang/String" "coder" "B" (.int 0)) (P3 : n0 ≤ xa) (P4 : Arv Z h0 xc xk .char (3 : Int32) [.int c0, .int c1, .int c2] (.int 0)) (P5 : (@LT.lt Nat _ xc xa ∨ @LT.lt Nat _ xa xc)) (P6 : own_C16 c0) (P7 : own_C16 c1) (P8 : own_C16 c2) : own_Met l Z (⟨"java/lang/String", "<init>", "([C)V"⟩ : MethodName) jdk_42_method_3_code 2 none ws ({ frames := 5, cells := 2, slots := 9, locals := 74 } : Room) #[.ref xa, .ref xc] h0 (Q_own_sc3 Z xa xc xk c0 c1 c2 gz gfm h0 n0) := by
  refine own_mk (plainFor_of_name own_pn_java_lang_String) O0 ?_
  intro p e s m below meth c s₁ hx hby hml hZ hown hnm hlk hret X0 e0 N0 z0 z1
  have K0 : Keep h0 h0 [xa] := Keep.refl _ _
  refine own_cast (own_ef_own_sc3 m xa xc) ?_
  show own_Goes p e below (s₁.setTop (mkF m 0 #[vR xa, vR xc] [])) _
  obtain ⟨G0, G1, G2, G3, G4, G5, G6⟩ := id G
  have ltP0 : @LT.lt Nat _ xa h0.size := P0.lt
  have ltP4 : @LT.lt Nat _ xc h0.size := P4.lt
  refine q_aloadN X0 hx hby d3_0 rfl rfl ?_
  refine q_aloadN X0 hx hby d3_1 rfl rfl ?_
  refine q_iconst X0 hx hby d3_2 ?_
  refine q_aloadN X0 hx hby d3_3 rfl rfl ?_
  refine q_len X0 hx hby hZ e0 P4 d3_4 ?_
  refine q_aconstNull X0 hx hby d3_5 ?_
  refine k_N X0 hx hby hZ hown (wh hw 17 rfl) (wh hw 18 rfl) (W := 0) (own_si3 l Z a0 hw [] xa xc xk c0 c1 c2 h0 n0 O0 gz gfm G P0 P1 P2 (show n0 ≤ xa by first | assumption | omega | decide) P4 (show (@LT.lt Nat _ xc xa ∨ @LT.lt Nat _ xa xc) by first | assumption | omega | decide) (show own_C16 c0 from P6) (show own_C16 c1 from P7) (show own_C16 c2 from P8)) (wh hw 20 rfl) (wh hw 13 rfl) e0  hml (argsL := [.ref xc, .int 0, .int 3, .null]) (rest := []) own_pd_7 d3_6 (fun _ T2 L2 X2 hQ2 => ?_)
  obtain ⟨h2, e2⟩ : ∃ z, T2.heap = z := ⟨_, rfl⟩
  rw [e2] at hQ2
  obtain ⟨Nc2, Kc2, rb_2, rfl, c2_0⟩ := hQ2
  have N2 := Fr.app N0 Nc2
  have O3 := O0.keep Kc2 (allS (show n0 ≤ xa by omega) all0)
  have sz4 : h0.size ≤ h2.size := Kc2.1
  have K5 := Keep.trans K0 Kc2 (allS (Or.inl (List.mem_of_getElem? (i := 0) rfl)) all0)
  have ltc2_0 : @LT.lt Nat _ xa h2.size := c2_0.1.lt
  have luc2_0 : @LT.lt Nat _ rb_2 h2.size := c2_0.lt2
  refine r_V X2 hx hby hret hlk d3_9 e2 ?_
  exact ⟨N2, K5, rb_2, rfl, c2_0⟩
theorem own_ef_own_nbl4 (m : MethodId) : entryFrame m #[.int 4] 1 = mkF m 0 #[vI 4] [] := by first | (simp [entryFrame, mkF, argsToLocals, Value.category]; done) | rfl
def Q_own_nbl4 (Z : State) (h0 : Heap) (n0 : Nat) (v : Option Value) (h : Heap) (L : List Loc) : Prop := Fr n0 L ∧ h = h0 ∧ v = some (.int 8)
theorem own_nbl4 (l : Launch) (Z : State) (a0 : Array Value) (hw : ∀ d ∈ tables_1, d.before a0 Z = true) (ws : List Jvm.Cond) (h0 : Heap) (n0 : Nat) (O0 : Old Z n0 h0) : own_Met l Z (⟨"java/lang/StringUTF16", "newBytesLength", "(I)I"⟩ : MethodName) jdk_52_method_3_code 1 (some .int) ws ({ frames := 0, cells := 0, slots := 0, locals := 0 } : Room) #[.int 4] h0 (Q_own_nbl4 Z h0 n0) := by
  refine own_mk (plainFor_of_name own_pn_java_lang_StringUTF16) O0 ?_
  intro p e s m below meth c s₁ hx hby hml hZ hown hnm hlk hret X0 e0 N0 z0 z1
  refine own_cast (own_ef_own_nbl4 m) ?_
  show own_Goes p e below (s₁.setTop (mkF m 0 #[vI 4] [])) _
  refine q_iloadN X0 hx hby d27_0 rfl ?_
  refine q_ifYes (pc := 1) X0 hx hby d27_1 (pc' := 12) ((if0 _ _).trans (flt (show ¬ ((4 : Int32) < (0 : Int32)) from by decide)).2.1) (by decide) (by decide) ?_
  refine q_iloadN X0 hx hby d27_12 rfl ?_
  refine gg (fun t k => Jvm.Stand.ldcI X0 hx hown (mv hZ (wh hw 120 rfl)) rfl (hb hby d27_13) k) ?_
  refine q_icmpYes (pc := 15) X0 hx hby d27_15 (pc' := 55) (tlt (show ((4 : Int32) < (1073741823 : Int32)) from by decide)).1 (by decide) (by decide) ?_
  refine q_iloadN X0 hx hby d27_55 rfl ?_
  refine q_iconst X0 hx hby d27_56 ?_
  refine gg (fun t k => XS.ishl X0.here hx rfl (hb hby d27_57) rfl k) ?_
  show own_Goes p e below (s₁.setTop (mkF m 58 #[vI 4] [(.int ((4 : Int32) <<< ((1 : Int32) &&& 31)))])) _
  rw [show ((4 : Int32) <<< ((1 : Int32) &&& 31)) = (8 : Int32) from by decide]
  refine r_I X0 hx hby hret hlk d27_58 e0 ?_
  exact ⟨N0, rfl, rfl⟩
theorem own_ef_own_nbf4 (m : MethodId) : entryFrame m #[.int 4] 1 = mkF m 0 #[vI 4] [] := by first | (simp [entryFrame, mkF, argsToLocals, Value.category]; done) | rfl
def Q_own_nbf4 (Z : State) (h0 : Heap) (n0 : Nat) (v : Option Value) (h : Heap) (L : List Loc) : Prop := Fr n0 L ∧ Keep h0 h [] ∧ ∃ (r : Addr), ∃ (rk : ClassId), v = some (.ref r) ∧ Arv Z h r rk .byte (8 : Int32) [.int 0, .int 0, .int 0, .int 0, .int 0, .int 0, .int 0, .int 0] (.int 0) ∧ h0.size ≤ r
theorem own_nbf4 (l : Launch) (Z : State) (a0 : Array Value) (hw : ∀ d ∈ tables_1, d.before a0 Z = true) (ws : List Jvm.Cond) (h0 : Heap) (n0 : Nat) (O0 : Old Z n0 h0) : own_Met l Z (⟨"java/lang/StringUTF16", "newBytesFor", "(I)[B"⟩ : MethodName) jdk_52_method_2_code 1 (some (.array .byte)) ws ({ frames := 1, cells := 1, slots := 8, locals := 12 } : Room) #[.int 4] h0 (Q_own_nbf4 Z h0 n0) := by
  refine own_mk (plainFor_of_name own_pn_java_lang_StringUTF16) O0 ?_
  intro p e s m below meth c s₁ hx hby hml hZ hown hnm hlk hret X0 e0 N0 z0 z1
  have K0 : Keep h0 h0 [] := Keep.refl _ _
  refine own_cast (own_ef_own_nbf4 m) ?_
  show own_Goes p e below (s₁.setTop (mkF m 0 #[vI 4] [])) _
  refine q_iloadN X0 hx hby d26_0 rfl ?_
  refine k_S X0 hx hby hZ hown (wh hw 117 rfl) (wh hw 118 rfl) (W := 0) (own_nbl4 l Z a0 hw []  h0 n0 O0) (wh hw 119 rfl) (wh hw 75 rfl) e0  hml (argsL := [.int 4]) (rest := []) own_pd_0 d26_1 (fun _ T1 L1 X1 hQ1 => ?_)
  obtain ⟨Nc1, e1, rfl⟩ := hQ1
  have N1 := Fr.app N0 Nc1
  obtain ⟨T2, h2, k2, X2, e2, E2, A2, st2⟩ := newP X1 hx hZ (wh hw 25 rfl) e1 (g := (mkF m 4 #[vI 4] [.int 8])) rfl (hb hby d26_4) rfl (by decide) (cap := 8) (by decide) (by decide) (by decide) (by decide)
  obtain ⟨b2, g2⟩ : ∃ z, z = h0.size := ⟨_, rfl⟩
  rw [← g2] at A2 st2
  refine gg st2 ?_
  have O3 := O0.ext E2
  have sz4 : h0.size ≤ h2.size := E2.1
  have K5 := K0.ext E2
  have l2 : @LT.lt Nat _ b2 h2.size := A2.lt
  have V2 : Arv Z h2 b2 k2 .byte (8 : Int32) [.int 0, .int 0, .int 0, .int 0, .int 0, .int 0, .int 0, .int 0] (.int 0) := (Arv.new A2 (by decide)).pad (pad_rep [] (.int 0) 8)
  refine r_R X2 hx hby hret hlk d26_6 e2 ?_
  exact ⟨N1, K5, b2, k2, rfl, V2, (show h0.size ≤ b2 by first | assumption | omega | decide)⟩
theorem own_ef_own_pc4_0 (m : MethodId) (xb : Addr) (xi : Int32) : entryFrame m #[.ref xb, .int 0, .int xi] 3 = mkF m 0 #[vR xb, vI 0, vI xi] [] := by first | (simp [entryFrame, mkF, argsToLocals, Value.category]; done) | rfl
def Q_own_pc4_0 (Z : State) (xb : Addr) (xq : ClassId) (xi : Int32) (y0 : Int32) (y1 : Int32) (y2 : Int32) (y3 : Int32) (y4 : Int32) (y5 : Int32) (y6 : Int32) (y7 : Int32) (gz : Int32) (gfm : Value) (h0 : Heap) (n0 : Nat) (v : Option Value) (h : Heap) (L : List Loc) : Prop := Fr n0 L ∧ Keep h0 h [xb] ∧ v = none ∧ Arv Z h xb xq .byte (8 : Int32) [(.int (xi.toInt8.toInt32)), (.int ((xi >>> ((8 : Int32) &&& 31)).toInt8.toInt32)), .int y2, .int y3, .int y4, .int y5, .int y6, .int y7] (.int 0)
theorem own_pc4_0 (l : Launch) (Z : State) (a0 : Array Value) (hw : ∀ d ∈ tables_1, d.before a0 Z = true) (ws : List Jvm.Cond) (xb : Addr) (xq : ClassId) (xi : Int32) (y0 : Int32) (y1 : Int32) (y2 : Int32) (y3 : Int32) (y4 : Int32) (y5 : Int32) (y6 : Int32) (y7 : Int32) (h0 : Heap) (n0 : Nat) (O0 : Old Z n0 h0) (gz : Int32) (gfm : Value) (G : GG Z gz gfm) (P0 : Arv Z h0 xb xq .byte (8 : Int32) [.int y0, .int y1, .int y2, .int y3, .int y4, .int y5, .int y6, .int y7] (.int 0)) (P1 : n0 ≤ xb) : own_Met l Z (⟨"java/lang/StringUTF16", "putChar", "([BII)V"⟩ : MethodName) jdk_52_method_4_code 3 none ws ({ frames := 0, cells := 0, slots := 0, locals := 0 } : Room) #[.ref xb, .int 0, .int xi] h0 (Q_own_pc4_0 Z xb xq xi y0 y1 y2 y3 y4 y5 y6 y7 gz gfm h0 n0) := by
  refine own_mk (plainFor_of_name own_pn_java_lang_StringUTF16) O0 ?_
  intro p e s m below meth c s₁ hx hby hml hZ hown hnm hlk hret X0 e0 N0 z0 z1
  have K0 : Keep h0 h0 [xb] := Keep.refl _ _
  refine own_cast (own_ef_own_pc4_0 m xb xi) ?_
  show own_Goes p e below (s₁.setTop (mkF m 0 #[vR xb, vI 0, vI xi] [])) _
  obtain ⟨G0, G1, G2, G3, G4, G5, G6⟩ := id G
  have ltP0 : @LT.lt Nat _ xb h0.size := P0.lt
  have q1 := G2.ext O0.2
  refine qS X0 hx hby hZ hown (host := "") (Or.inl (wh hw 124 rfl)) Via.refl e0 q1 d28_0 (fun T2 X2 e2 => ?_)
  refine q_ifYes (pc := 3) X2 hx hby d28_3 (pc' := 28) ((if0 _ _).trans (feq (show ¬ ((1 : Int32) = (0 : Int32)) from by decide)).2) (by decide) (by decide) ?_
  refine q_iloadN X2 hx hby d28_28 rfl ?_
  refine q_iconst X2 hx hby d28_29 ?_
  refine gg (fun t k => XS.ishl X2.here hx rfl (hb hby d28_30) rfl k) ?_
  show own_Goes p e below (T2.setTop (mkF m 31 #[vR xb, vI 0, vI xi] [(.int ((0 : Int32) <<< ((1 : Int32) &&& 31)))])) _
  rw [show ((0 : Int32) <<< ((1 : Int32) &&& 31)) = (0 : Int32) from by decide]
  refine q_istoreN X2 hx hby d28_31 (l' := #[vR xb, vI 0, vI xi]) rfl ?_
  refine q_aloadN X2 hx hby d28_32 rfl rfl ?_
  refine q_iloadN X2 hx hby d28_33 rfl ?_
  refine gg (fun t k => XS.iinc X2.here hx rfl (hb hby d28_34) rfl (l' := #[vR xb, vI ((0 : Int32) + (1 : Int32)), vI xi]) rfl k) ?_
  show own_Goes p e below (T2.setTop (mkF m 37 #[vR xb, vI ((0 : Int32) + (1 : Int32)), vI xi] [.int 0, .ref xb])) _
  rw [show ((0 : Int32) + (1 : Int32)) = (1 : Int32) from by decide]
  refine q_iloadN X2 hx hby d28_37 rfl ?_
  have q3 := G3.ext O0.2
  refine qS X2 hx hby hZ hown (host := "") (Or.inl (wh hw 125 rfl)) Via.refl e2 q3 d28_38 (fun T4 X4 e4 => ?_)
  refine gg (fun t k => XS.ishr X4.here hx rfl (hb hby d28_41) rfl k) ?_
  show own_Goes p e below (T4.setTop (mkF m 42 #[vR xb, vI 1, vI xi] [(.int (xi >>> ((0 : Int32) &&& 31))), .int 0, .ref xb])) _
  rw [show (xi >>> ((0 : Int32) &&& 31)) = xi from own_sh0 xi]
  refine gg (fun t k => XS.i2b X4.here hx rfl (hb hby d28_42) rfl k) ?_
  refine q_stB X4 hx hby hZ e4 P0 0 d28_43 (fun T6 h6 X6 e6 W6 V6 => ?_)
  have O7 := O0.wr W6 (show n0 ≤ xb by omega)
  have sz8 : h6.size = h0.size := Wr.size W6
  have K9 := K0.wr W6 (Or.inl (List.mem_of_getElem? (i := 0) rfl))
  have N6 := Fr.snoc X6 N0 (show n0 ≤ xb by omega)
  have V6 : Arv Z h6 xb xq .byte (8 : Int32) [(.int ((xi.toInt8.toInt32).toInt8.toInt32)), .int y1, .int y2, .int y3, .int y4, .int y5, .int y6, .int y7] (.int 0) := V6
  rw [show ((xi.toInt8.toInt32).toInt8.toInt32) = (xi.toInt8.toInt32) from own_i8i8 _] at V6
  refine q_aloadN X6 hx hby d28_44 rfl rfl ?_
  refine q_iloadN X6 hx hby d28_45 rfl ?_
  refine q_iloadN X6 hx hby d28_46 rfl ?_
  have q10 := G4.ext O7.2
  refine qS X6 hx hby hZ hown (host := "") (Or.inl (wh hw 126 rfl)) Via.refl e6 q10 d28_47 (fun T11 X11 e11 => ?_)
  refine gg (fun t k => XS.ishr X11.here hx rfl (hb hby d28_50) rfl k) ?_
  refine gg (fun t k => XS.i2b X11.here hx rfl (hb hby d28_51) rfl k) ?_
  refine q_stB X11 hx hby hZ e11 V6 1 d28_52 (fun T13 h13 X13 e13 W13 V13 => ?_)
  have O14 := O7.wr W13 (show n0 ≤ xb by omega)
  have sz15 : h13.size = h6.size := Wr.size W13
  have K16 := K9.wr W13 (Or.inl (List.mem_of_getElem? (i := 0) rfl))
  have N13 := Fr.snoc X13 N6 (show n0 ≤ xb by omega)
  have V13 : Arv Z h13 xb xq .byte (8 : Int32) [(.int (xi.toInt8.toInt32)), (.int (((xi >>> ((8 : Int32) &&& 31)).toInt8.toInt32).toInt8.toInt32)), .int y2, .int y3, .int y4, .int y5, .int y6, .int y7] (.int 0) := V13
  rw [show (((xi >>> ((8 : Int32) &&& 31)).toInt8.toInt32).toInt8.toInt32) = ((xi >>> ((8 : Int32) &&& 31)).toInt8.toInt32) from own_i8i8 _] at V13
  refine r_V X13 hx hby hret hlk d28_53 e13 ?_
  exact ⟨N13, K16, rfl, V13⟩
theorem own_ef_own_gc4_0 (m : MethodId) (xb : Addr) : entryFrame m #[.ref xb, .int 0] 2 = mkF m 0 #[vR xb, vI 0] [] := by first | (simp [entryFrame, mkF, argsToLocals, Value.category]; done) | rfl
def Q_own_gc4_0 (Z : State) (xb : Addr) (xq : ClassId) (y0 : Int32) (y1 : Int32) (y2 : Int32) (y3 : Int32) (y4 : Int32) (y5 : Int32) (y6 : Int32) (y7 : Int32) (gz : Int32) (gfm : Value) (h0 : Heap) (n0 : Nat) (v : Option Value) (h : Heap) (L : List Loc) : Prop := Fr n0 L ∧ h = h0 ∧ v = some (.int ((((y0 &&& (255 : Int32)) <<< ((0 : Int32) &&& 31)) ||| ((y1 &&& (255 : Int32)) <<< ((8 : Int32) &&& 31))).toUInt32.toUInt16.toUInt32.toInt32))
theorem own_gc4_0 (l : Launch) (Z : State) (a0 : Array Value) (hw : ∀ d ∈ tables_1, d.before a0 Z = true) (ws : List Jvm.Cond) (xb : Addr) (xq : ClassId) (y0 : Int32) (y1 : Int32) (y2 : Int32) (y3 : Int32) (y4 : Int32) (y5 : Int32) (y6 : Int32) (y7 : Int32) (h0 : Heap) (n0 : Nat) (O0 : Old Z n0 h0) (gz : Int32) (gfm : Value) (G : GG Z gz gfm) (P0 : Arv Z h0 xb xq .byte (8 : Int32) [.int y0, .int y1, .int y2, .int y3, .int y4, .int y5, .int y6, .int y7] (.int 0)) : own_Met l Z (⟨"java/lang/StringUTF16", "getChar", "([BI)C"⟩ : MethodName) jdk_52_method_5_code 2 (some .char) ws ({ frames := 0, cells := 0, slots := 0, locals := 0 } : Room) #[.ref xb, .int 0] h0 (Q_own_gc4_0 Z xb xq y0 y1 y2 y3 y4 y5 y6 y7 gz gfm h0 n0) := by
  refine own_mk (plainFor_of_name own_pn_java_lang_StringUTF16) O0 ?_
  intro p e s m below meth c s₁ hx hby hml hZ hown hnm hlk hret X0 e0 N0 z0 z1
  refine own_cast (own_ef_own_gc4_0 m xb) ?_
  show own_Goes p e below (s₁.setTop (mkF m 0 #[vR xb, vI 0] [])) _
  obtain ⟨G0, G1, G2, G3, G4, G5, G6⟩ := id G
  have ltP0 : @LT.lt Nat _ xb h0.size := P0.lt
  have q1 := G2.ext O0.2
  refine qS X0 hx hby hZ hown (host := "") (Or.inl (wh hw 124 rfl)) Via.refl e0 q1 d29_0 (fun T2 X2 e2 => ?_)
  refine q_ifYes (pc := 3) X2 hx hby d29_3 (pc' := 28) ((if0 _ _).trans (feq (show ¬ ((1 : Int32) = (0 : Int32)) from by decide)).2) (by decide) (by decide) ?_
  refine q_iloadN X2 hx hby d29_28 rfl ?_
  refine q_iconst X2 hx hby d29_29 ?_
  refine gg (fun t k => XS.ishl X2.here hx rfl (hb hby d29_30) rfl k) ?_
  show own_Goes p e below (T2.setTop (mkF m 31 #[vR xb, vI 0] [(.int ((0 : Int32) <<< ((1 : Int32) &&& 31)))])) _
  rw [show ((0 : Int32) <<< ((1 : Int32) &&& 31)) = (0 : Int32) from by decide]
  refine q_istoreN X2 hx hby d29_31 (l' := #[vR xb, vI 0]) rfl ?_
  refine q_aloadN X2 hx hby d29_32 rfl rfl ?_
  refine q_iloadN X2 hx hby d29_33 rfl ?_
  refine gg (fun t k => XS.iinc X2.here hx rfl (hb hby d29_34) rfl (l' := #[vR xb, vI ((0 : Int32) + (1 : Int32))]) rfl k) ?_
  show own_Goes p e below (T2.setTop (mkF m 37 #[vR xb, vI ((0 : Int32) + (1 : Int32))] [.int 0, .ref xb])) _
  rw [show ((0 : Int32) + (1 : Int32)) = (1 : Int32) from by decide]
  refine q_baloadBytes X2 hx hby hZ e2 P0 d29_37 (.int y0) ?_
  refine q_sipush X2 hx hby d29_38 ?_
  refine q_iand X2 hx hby d29_41 ?_
  have q4 := G3.ext O0.2
  refine qS X2 hx hby hZ hown (host := "") (Or.inl (wh hw 125 rfl)) Via.refl e2 q4 d29_42 (fun T5 X5 e5 => ?_)
  refine gg (fun t k => XS.ishl X5.here hx rfl (hb hby d29_45) rfl k) ?_
  refine q_aloadN X5 hx hby d29_46 rfl rfl ?_
  refine q_iloadN X5 hx hby d29_47 rfl ?_
  refine q_baloadBytes X5 hx hby hZ e5 P0 d29_48 (.int y1) ?_
  refine q_sipush X5 hx hby d29_49 ?_
  refine q_iand X5 hx hby d29_52 ?_
  have q7 := G4.ext O0.2
  refine qS X5 hx hby hZ hown (host := "") (Or.inl (wh hw 126 rfl)) Via.refl e5 q7 d29_53 (fun T8 X8 e8 => ?_)
  refine gg (fun t k => XS.ishl X8.here hx rfl (hb hby d29_56) rfl k) ?_
  refine gg (fun t k => XS.ior X8.here hx rfl (hb hby d29_57) rfl k) ?_
  refine gg (fun t k => XS.i2c X8.here hx rfl (hb hby d29_58) rfl k) ?_
  show own_Goes p e below (T8.setTop (mkF m 59 #[vR xb, vI 1] [(.int ((((y0 &&& (255 : Int32)) <<< ((0 : Int32) &&& 31)) ||| ((y1 &&& (255 : Int32)) <<< ((8 : Int32) &&& 31))).toUInt32.toUInt16.toUInt32.toInt32))])) _
  refine r_C X8 hx hby hret hlk d29_59 e8 ?_ (hn := (own_narr16 (own_C16i _)))
  exact ⟨N0, rfl, rfl⟩
theorem own_ef_own_pc4_1 (m : MethodId) (xb : Addr) (xi : Int32) : entryFrame m #[.ref xb, .int 1, .int xi] 3 = mkF m 0 #[vR xb, vI 1, vI xi] [] := by first | (simp [entryFrame, mkF, argsToLocals, Value.category]; done) | rfl
def Q_own_pc4_1 (Z : State) (xb : Addr) (xq : ClassId) (xi : Int32) (y0 : Int32) (y1 : Int32) (y2 : Int32) (y3 : Int32) (y4 : Int32) (y5 : Int32) (y6 : Int32) (y7 : Int32) (gz : Int32) (gfm : Value) (h0 : Heap) (n0 : Nat) (v : Option Value) (h : Heap) (L : List Loc) : Prop := Fr n0 L ∧ Keep h0 h [xb] ∧ v = none ∧ Arv Z h xb xq .byte (8 : Int32) [.int y0, .int y1, (.int (xi.toInt8.toInt32)), (.int ((xi >>> ((8 : Int32) &&& 31)).toInt8.toInt32)), .int y4, .int y5, .int y6, .int y7] (.int 0)
theorem own_pc4_1 (l : Launch) (Z : State) (a0 : Array Value) (hw : ∀ d ∈ tables_1, d.before a0 Z = true) (ws : List Jvm.Cond) (xb : Addr) (xq : ClassId) (xi : Int32) (y0 : Int32) (y1 : Int32) (y2 : Int32) (y3 : Int32) (y4 : Int32) (y5 : Int32) (y6 : Int32) (y7 : Int32) (h0 : Heap) (n0 : Nat) (O0 : Old Z n0 h0) (gz : Int32) (gfm : Value) (G : GG Z gz gfm) (P0 : Arv Z h0 xb xq .byte (8 : Int32) [.int y0, .int y1, .int y2, .int y3, .int y4, .int y5, .int y6, .int y7] (.int 0)) (P1 : n0 ≤ xb) : own_Met l Z (⟨"java/lang/StringUTF16", "putChar", "([BII)V"⟩ : MethodName) jdk_52_method_4_code 3 none ws ({ frames := 0, cells := 0, slots := 0, locals := 0 } : Room) #[.ref xb, .int 1, .int xi] h0 (Q_own_pc4_1 Z xb xq xi y0 y1 y2 y3 y4 y5 y6 y7 gz gfm h0 n0) := by
  refine own_mk (plainFor_of_name own_pn_java_lang_StringUTF16) O0 ?_
  intro p e s m below meth c s₁ hx hby hml hZ hown hnm hlk hret X0 e0 N0 z0 z1
  have K0 : Keep h0 h0 [xb] := Keep.refl _ _
  refine own_cast (own_ef_own_pc4_1 m xb xi) ?_
  show own_Goes p e below (s₁.setTop (mkF m 0 #[vR xb, vI 1, vI xi] [])) _
  obtain ⟨G0, G1, G2, G3, G4, G5, G6⟩ := id G
  have ltP0 : @LT.lt Nat _ xb h0.size := P0.lt
  have q1 := G2.ext O0.2
  refine qS X0 hx hby hZ hown (host := "") (Or.inl (wh hw 124 rfl)) Via.refl e0 q1 d28_0 (fun T2 X2 e2 => ?_)
  refine q_ifYes (pc := 3) X2 hx hby d28_3 (pc' := 28) ((if0 _ _).trans (feq (show ¬ ((1 : Int32) = (0 : Int32)) from by decide)).2) (by decide) (by decide) ?_
  refine q_iloadN X2 hx hby d28_28 rfl ?_
  refine q_iconst X2 hx hby d28_29 ?_
  refine gg (fun t k => XS.ishl X2.here hx rfl (hb hby d28_30) rfl k) ?_
  show own_Goes p e below (T2.setTop (mkF m 31 #[vR xb, vI 1, vI xi] [(.int ((1 : Int32) <<< ((1 : Int32) &&& 31)))])) _
  rw [show ((1 : Int32) <<< ((1 : Int32) &&& 31)) = (2 : Int32) from by decide]
  refine q_istoreN X2 hx hby d28_31 (l' := #[vR xb, vI 2, vI xi]) rfl ?_
  refine q_aloadN X2 hx hby d28_32 rfl rfl ?_
  refine q_iloadN X2 hx hby d28_33 rfl ?_
  refine gg (fun t k => XS.iinc X2.here hx rfl (hb hby d28_34) rfl (l' := #[vR xb, vI ((2 : Int32) + (1 : Int32)), vI xi]) rfl k) ?_
  show own_Goes p e below (T2.setTop (mkF m 37 #[vR xb, vI ((2 : Int32) + (1 : Int32)), vI xi] [.int 2, .ref xb])) _
  rw [show ((2 : Int32) + (1 : Int32)) = (3 : Int32) from by decide]
  refine q_iloadN X2 hx hby d28_37 rfl ?_
  have q3 := G3.ext O0.2
  refine qS X2 hx hby hZ hown (host := "") (Or.inl (wh hw 125 rfl)) Via.refl e2 q3 d28_38 (fun T4 X4 e4 => ?_)
  refine gg (fun t k => XS.ishr X4.here hx rfl (hb hby d28_41) rfl k) ?_
  show own_Goes p e below (T4.setTop (mkF m 42 #[vR xb, vI 3, vI xi] [(.int (xi >>> ((0 : Int32) &&& 31))), .int 2, .ref xb])) _
  rw [show (xi >>> ((0 : Int32) &&& 31)) = xi from own_sh0 xi]
  refine gg (fun t k => XS.i2b X4.here hx rfl (hb hby d28_42) rfl k) ?_
  refine q_stB X4 hx hby hZ e4 P0 2 d28_43 (fun T6 h6 X6 e6 W6 V6 => ?_)
  have O7 := O0.wr W6 (show n0 ≤ xb by omega)
  have sz8 : h6.size = h0.size := Wr.size W6
  have K9 := K0.wr W6 (Or.inl (List.mem_of_getElem? (i := 0) rfl))
  have N6 := Fr.snoc X6 N0 (show n0 ≤ xb by omega)
  have V6 : Arv Z h6 xb xq .byte (8 : Int32) [.int y0, .int y1, (.int ((xi.toInt8.toInt32).toInt8.toInt32)), .int y3, .int y4, .int y5, .int y6, .int y7] (.int 0) := V6
  rw [show ((xi.toInt8.toInt32).toInt8.toInt32) = (xi.toInt8.toInt32) from own_i8i8 _] at V6
  refine q_aloadN X6 hx hby d28_44 rfl rfl ?_
  refine q_iloadN X6 hx hby d28_45 rfl ?_
  refine q_iloadN X6 hx hby d28_46 rfl ?_
  have q10 := G4.ext O7.2
  refine qS X6 hx hby hZ hown (host := "") (Or.inl (wh hw 126 rfl)) Via.refl e6 q10 d28_47 (fun T11 X11 e11 => ?_)
  refine gg (fun t k => XS.ishr X11.here hx rfl (hb hby d28_50) rfl k) ?_
  refine gg (fun t k => XS.i2b X11.here hx rfl (hb hby d28_51) rfl k) ?_
  refine q_stB X11 hx hby hZ e11 V6 3 d28_52 (fun T13 h13 X13 e13 W13 V13 => ?_)
  have O14 := O7.wr W13 (show n0 ≤ xb by omega)
  have sz15 : h13.size = h6.size := Wr.size W13
  have K16 := K9.wr W13 (Or.inl (List.mem_of_getElem? (i := 0) rfl))
  have N13 := Fr.snoc X13 N6 (show n0 ≤ xb by omega)
  have V13 : Arv Z h13 xb xq .byte (8 : Int32) [.int y0, .int y1, (.int (xi.toInt8.toInt32)), (.int (((xi >>> ((8 : Int32) &&& 31)).toInt8.toInt32).toInt8.toInt32)), .int y4, .int y5, .int y6, .int y7] (.int 0) := V13
  rw [show (((xi >>> ((8 : Int32) &&& 31)).toInt8.toInt32).toInt8.toInt32) = ((xi >>> ((8 : Int32) &&& 31)).toInt8.toInt32) from own_i8i8 _] at V13
  refine r_V X13 hx hby hret hlk d28_53 e13 ?_
  exact ⟨N13, K16, rfl, V13⟩
theorem own_ef_own_gc4_1 (m : MethodId) (xb : Addr) : entryFrame m #[.ref xb, .int 1] 2 = mkF m 0 #[vR xb, vI 1] [] := by first | (simp [entryFrame, mkF, argsToLocals, Value.category]; done) | rfl
def Q_own_gc4_1 (Z : State) (xb : Addr) (xq : ClassId) (y0 : Int32) (y1 : Int32) (y2 : Int32) (y3 : Int32) (y4 : Int32) (y5 : Int32) (y6 : Int32) (y7 : Int32) (gz : Int32) (gfm : Value) (h0 : Heap) (n0 : Nat) (v : Option Value) (h : Heap) (L : List Loc) : Prop := Fr n0 L ∧ h = h0 ∧ v = some (.int ((((y2 &&& (255 : Int32)) <<< ((0 : Int32) &&& 31)) ||| ((y3 &&& (255 : Int32)) <<< ((8 : Int32) &&& 31))).toUInt32.toUInt16.toUInt32.toInt32))
theorem own_gc4_1 (l : Launch) (Z : State) (a0 : Array Value) (hw : ∀ d ∈ tables_1, d.before a0 Z = true) (ws : List Jvm.Cond) (xb : Addr) (xq : ClassId) (y0 : Int32) (y1 : Int32) (y2 : Int32) (y3 : Int32) (y4 : Int32) (y5 : Int32) (y6 : Int32) (y7 : Int32) (h0 : Heap) (n0 : Nat) (O0 : Old Z n0 h0) (gz : Int32) (gfm : Value) (G : GG Z gz gfm) (P0 : Arv Z h0 xb xq .byte (8 : Int32) [.int y0, .int y1, .int y2, .int y3, .int y4, .int y5, .int y6, .int y7] (.int 0)) : own_Met l Z (⟨"java/lang/StringUTF16", "getChar", "([BI)C"⟩ : MethodName) jdk_52_method_5_code 2 (some .char) ws ({ frames := 0, cells := 0, slots := 0, locals := 0 } : Room) #[.ref xb, .int 1] h0 (Q_own_gc4_1 Z xb xq y0 y1 y2 y3 y4 y5 y6 y7 gz gfm h0 n0) := by
  refine own_mk (plainFor_of_name own_pn_java_lang_StringUTF16) O0 ?_
  intro p e s m below meth c s₁ hx hby hml hZ hown hnm hlk hret X0 e0 N0 z0 z1
  refine own_cast (own_ef_own_gc4_1 m xb) ?_
  show own_Goes p e below (s₁.setTop (mkF m 0 #[vR xb, vI 1] [])) _
  obtain ⟨G0, G1, G2, G3, G4, G5, G6⟩ := id G
  have ltP0 : @LT.lt Nat _ xb h0.size := P0.lt
  have q1 := G2.ext O0.2
  refine qS X0 hx hby hZ hown (host := "") (Or.inl (wh hw 124 rfl)) Via.refl e0 q1 d29_0 (fun T2 X2 e2 => ?_)
  refine q_ifYes (pc := 3) X2 hx hby d29_3 (pc' := 28) ((if0 _ _).trans (feq (show ¬ ((1 : Int32) = (0 : Int32)) from by decide)).2) (by decide) (by decide) ?_
  refine q_iloadN X2 hx hby d29_28 rfl ?_
  refine q_iconst X2 hx hby d29_29 ?_
  refine gg (fun t k => XS.ishl X2.here hx rfl (hb hby d29_30) rfl k) ?_
  show own_Goes p e below (T2.setTop (mkF m 31 #[vR xb, vI 1] [(.int ((1 : Int32) <<< ((1 : Int32) &&& 31)))])) _
  rw [show ((1 : Int32) <<< ((1 : Int32) &&& 31)) = (2 : Int32) from by decide]
  refine q_istoreN X2 hx hby d29_31 (l' := #[vR xb, vI 2]) rfl ?_
  refine q_aloadN X2 hx hby d29_32 rfl rfl ?_
  refine q_iloadN X2 hx hby d29_33 rfl ?_
  refine gg (fun t k => XS.iinc X2.here hx rfl (hb hby d29_34) rfl (l' := #[vR xb, vI ((2 : Int32) + (1 : Int32))]) rfl k) ?_
  show own_Goes p e below (T2.setTop (mkF m 37 #[vR xb, vI ((2 : Int32) + (1 : Int32))] [.int 2, .ref xb])) _
  rw [show ((2 : Int32) + (1 : Int32)) = (3 : Int32) from by decide]
  refine q_baloadBytes X2 hx hby hZ e2 P0 d29_37 (.int y2) ?_
  refine q_sipush X2 hx hby d29_38 ?_
  refine q_iand X2 hx hby d29_41 ?_
  have q4 := G3.ext O0.2
  refine qS X2 hx hby hZ hown (host := "") (Or.inl (wh hw 125 rfl)) Via.refl e2 q4 d29_42 (fun T5 X5 e5 => ?_)
  refine gg (fun t k => XS.ishl X5.here hx rfl (hb hby d29_45) rfl k) ?_
  refine q_aloadN X5 hx hby d29_46 rfl rfl ?_
  refine q_iloadN X5 hx hby d29_47 rfl ?_
  refine q_baloadBytes X5 hx hby hZ e5 P0 d29_48 (.int y3) ?_
  refine q_sipush X5 hx hby d29_49 ?_
  refine q_iand X5 hx hby d29_52 ?_
  have q7 := G4.ext O0.2
  refine qS X5 hx hby hZ hown (host := "") (Or.inl (wh hw 126 rfl)) Via.refl e5 q7 d29_53 (fun T8 X8 e8 => ?_)
  refine gg (fun t k => XS.ishl X8.here hx rfl (hb hby d29_56) rfl k) ?_
  refine gg (fun t k => XS.ior X8.here hx rfl (hb hby d29_57) rfl k) ?_
  refine gg (fun t k => XS.i2c X8.here hx rfl (hb hby d29_58) rfl k) ?_
  show own_Goes p e below (T8.setTop (mkF m 59 #[vR xb, vI 3] [(.int ((((y2 &&& (255 : Int32)) <<< ((0 : Int32) &&& 31)) ||| ((y3 &&& (255 : Int32)) <<< ((8 : Int32) &&& 31))).toUInt32.toUInt16.toUInt32.toInt32))])) _
  refine r_C X8 hx hby hret hlk d29_59 e8 ?_ (hn := (own_narr16 (own_C16i _)))
  exact ⟨N0, rfl, rfl⟩
theorem own_ef_own_pc4_2 (m : MethodId) (xb : Addr) (xi : Int32) : entryFrame m #[.ref xb, .int 2, .int xi] 3 = mkF m 0 #[vR xb, vI 2, vI xi] [] := by first | (simp [entryFrame, mkF, argsToLocals, Value.category]; done) | rfl
def Q_own_pc4_2 (Z : State) (xb : Addr) (xq : ClassId) (xi : Int32) (y0 : Int32) (y1 : Int32) (y2 : Int32) (y3 : Int32) (y4 : Int32) (y5 : Int32) (y6 : Int32) (y7 : Int32) (gz : Int32) (gfm : Value) (h0 : Heap) (n0 : Nat) (v : Option Value) (h : Heap) (L : List Loc) : Prop := Fr n0 L ∧ Keep h0 h [xb] ∧ v = none ∧ Arv Z h xb xq .byte (8 : Int32) [.int y0, .int y1, .int y2, .int y3, (.int (xi.toInt8.toInt32)), (.int ((xi >>> ((8 : Int32) &&& 31)).toInt8.toInt32)), .int y6, .int y7] (.int 0)
theorem own_pc4_2 (l : Launch) (Z : State) (a0 : Array Value) (hw : ∀ d ∈ tables_1, d.before a0 Z = true) (ws : List Jvm.Cond) (xb : Addr) (xq : ClassId) (xi : Int32) (y0 : Int32) (y1 : Int32) (y2 : Int32) (y3 : Int32) (y4 : Int32) (y5 : Int32) (y6 : Int32) (y7 : Int32) (h0 : Heap) (n0 : Nat) (O0 : Old Z n0 h0) (gz : Int32) (gfm : Value) (G : GG Z gz gfm) (P0 : Arv Z h0 xb xq .byte (8 : Int32) [.int y0, .int y1, .int y2, .int y3, .int y4, .int y5, .int y6, .int y7] (.int 0)) (P1 : n0 ≤ xb) : own_Met l Z (⟨"java/lang/StringUTF16", "putChar", "([BII)V"⟩ : MethodName) jdk_52_method_4_code 3 none ws ({ frames := 0, cells := 0, slots := 0, locals := 0 } : Room) #[.ref xb, .int 2, .int xi] h0 (Q_own_pc4_2 Z xb xq xi y0 y1 y2 y3 y4 y5 y6 y7 gz gfm h0 n0) := by
  refine own_mk (plainFor_of_name own_pn_java_lang_StringUTF16) O0 ?_
  intro p e s m below meth c s₁ hx hby hml hZ hown hnm hlk hret X0 e0 N0 z0 z1
  have K0 : Keep h0 h0 [xb] := Keep.refl _ _
  refine own_cast (own_ef_own_pc4_2 m xb xi) ?_
  show own_Goes p e below (s₁.setTop (mkF m 0 #[vR xb, vI 2, vI xi] [])) _
  obtain ⟨G0, G1, G2, G3, G4, G5, G6⟩ := id G
  have ltP0 : @LT.lt Nat _ xb h0.size := P0.lt
  have q1 := G2.ext O0.2
  refine qS X0 hx hby hZ hown (host := "") (Or.inl (wh hw 124 rfl)) Via.refl e0 q1 d28_0 (fun T2 X2 e2 => ?_)
  refine q_ifYes (pc := 3) X2 hx hby d28_3 (pc' := 28) ((if0 _ _).trans (feq (show ¬ ((1 : Int32) = (0 : Int32)) from by decide)).2) (by decide) (by decide) ?_
  refine q_iloadN X2 hx hby d28_28 rfl ?_
  refine q_iconst X2 hx hby d28_29 ?_
  refine gg (fun t k => XS.ishl X2.here hx rfl (hb hby d28_30) rfl k) ?_
  show own_Goes p e below (T2.setTop (mkF m 31 #[vR xb, vI 2, vI xi] [(.int ((2 : Int32) <<< ((1 : Int32) &&& 31)))])) _
  rw [show ((2 : Int32) <<< ((1 : Int32) &&& 31)) = (4 : Int32) from by decide]
  refine q_istoreN X2 hx hby d28_31 (l' := #[vR xb, vI 4, vI xi]) rfl ?_
  refine q_aloadN X2 hx hby d28_32 rfl rfl ?_
  refine q_iloadN X2 hx hby d28_33 rfl ?_
  refine gg (fun t k => XS.iinc X2.here hx rfl (hb hby d28_34) rfl (l' := #[vR xb, vI ((4 : Int32) + (1 : Int32)), vI xi]) rfl k) ?_
  show own_Goes p e below (T2.setTop (mkF m 37 #[vR xb, vI ((4 : Int32) + (1 : Int32)), vI xi] [.int 4, .ref xb])) _
  rw [show ((4 : Int32) + (1 : Int32)) = (5 : Int32) from by decide]
  refine q_iloadN X2 hx hby d28_37 rfl ?_
  have q3 := G3.ext O0.2
  refine qS X2 hx hby hZ hown (host := "") (Or.inl (wh hw 125 rfl)) Via.refl e2 q3 d28_38 (fun T4 X4 e4 => ?_)
  refine gg (fun t k => XS.ishr X4.here hx rfl (hb hby d28_41) rfl k) ?_
  show own_Goes p e below (T4.setTop (mkF m 42 #[vR xb, vI 5, vI xi] [(.int (xi >>> ((0 : Int32) &&& 31))), .int 4, .ref xb])) _
  rw [show (xi >>> ((0 : Int32) &&& 31)) = xi from own_sh0 xi]
  refine gg (fun t k => XS.i2b X4.here hx rfl (hb hby d28_42) rfl k) ?_
  refine q_stB X4 hx hby hZ e4 P0 4 d28_43 (fun T6 h6 X6 e6 W6 V6 => ?_)
  have O7 := O0.wr W6 (show n0 ≤ xb by omega)
  have sz8 : h6.size = h0.size := Wr.size W6
  have K9 := K0.wr W6 (Or.inl (List.mem_of_getElem? (i := 0) rfl))
  have N6 := Fr.snoc X6 N0 (show n0 ≤ xb by omega)
  have V6 : Arv Z h6 xb xq .byte (8 : Int32) [.int y0, .int y1, .int y2, .int y3, (.int ((xi.toInt8.toInt32).toInt8.toInt32)), .int y5, .int y6, .int y7] (.int 0) := V6
  rw [show ((xi.toInt8.toInt32).toInt8.toInt32) = (xi.toInt8.toInt32) from own_i8i8 _] at V6
  refine q_aloadN X6 hx hby d28_44 rfl rfl ?_
  refine q_iloadN X6 hx hby d28_45 rfl ?_
  refine q_iloadN X6 hx hby d28_46 rfl ?_
  have q10 := G4.ext O7.2
  refine qS X6 hx hby hZ hown (host := "") (Or.inl (wh hw 126 rfl)) Via.refl e6 q10 d28_47 (fun T11 X11 e11 => ?_)
  refine gg (fun t k => XS.ishr X11.here hx rfl (hb hby d28_50) rfl k) ?_
  refine gg (fun t k => XS.i2b X11.here hx rfl (hb hby d28_51) rfl k) ?_
  refine q_stB X11 hx hby hZ e11 V6 5 d28_52 (fun T13 h13 X13 e13 W13 V13 => ?_)
  have O14 := O7.wr W13 (show n0 ≤ xb by omega)
  have sz15 : h13.size = h6.size := Wr.size W13
  have K16 := K9.wr W13 (Or.inl (List.mem_of_getElem? (i := 0) rfl))
  have N13 := Fr.snoc X13 N6 (show n0 ≤ xb by omega)
  have V13 : Arv Z h13 xb xq .byte (8 : Int32) [.int y0, .int y1, .int y2, .int y3, (.int (xi.toInt8.toInt32)), (.int (((xi >>> ((8 : Int32) &&& 31)).toInt8.toInt32).toInt8.toInt32)), .int y6, .int y7] (.int 0) := V13
  rw [show (((xi >>> ((8 : Int32) &&& 31)).toInt8.toInt32).toInt8.toInt32) = ((xi >>> ((8 : Int32) &&& 31)).toInt8.toInt32) from own_i8i8 _] at V13
  refine r_V X13 hx hby hret hlk d28_53 e13 ?_
  exact ⟨N13, K16, rfl, V13⟩
theorem own_ef_own_gc4_2 (m : MethodId) (xb : Addr) : entryFrame m #[.ref xb, .int 2] 2 = mkF m 0 #[vR xb, vI 2] [] := by first | (simp [entryFrame, mkF, argsToLocals, Value.category]; done) | rfl
def Q_own_gc4_2 (Z : State) (xb : Addr) (xq : ClassId) (y0 : Int32) (y1 : Int32) (y2 : Int32) (y3 : Int32) (y4 : Int32) (y5 : Int32) (y6 : Int32) (y7 : Int32) (gz : Int32) (gfm : Value) (h0 : Heap) (n0 : Nat) (v : Option Value) (h : Heap) (L : List Loc) : Prop := Fr n0 L ∧ h = h0 ∧ v = some (.int ((((y4 &&& (255 : Int32)) <<< ((0 : Int32) &&& 31)) ||| ((y5 &&& (255 : Int32)) <<< ((8 : Int32) &&& 31))).toUInt32.toUInt16.toUInt32.toInt32))
theorem own_gc4_2 (l : Launch) (Z : State) (a0 : Array Value) (hw : ∀ d ∈ tables_1, d.before a0 Z = true) (ws : List Jvm.Cond) (xb : Addr) (xq : ClassId) (y0 : Int32) (y1 : Int32) (y2 : Int32) (y3 : Int32) (y4 : Int32) (y5 : Int32) (y6 : Int32) (y7 : Int32) (h0 : Heap) (n0 : Nat) (O0 : Old Z n0 h0) (gz : Int32) (gfm : Value) (G : GG Z gz gfm) (P0 : Arv Z h0 xb xq .byte (8 : Int32) [.int y0, .int y1, .int y2, .int y3, .int y4, .int y5, .int y6, .int y7] (.int 0)) : own_Met l Z (⟨"java/lang/StringUTF16", "getChar", "([BI)C"⟩ : MethodName) jdk_52_method_5_code 2 (some .char) ws ({ frames := 0, cells := 0, slots := 0, locals := 0 } : Room) #[.ref xb, .int 2] h0 (Q_own_gc4_2 Z xb xq y0 y1 y2 y3 y4 y5 y6 y7 gz gfm h0 n0) := by
  refine own_mk (plainFor_of_name own_pn_java_lang_StringUTF16) O0 ?_
  intro p e s m below meth c s₁ hx hby hml hZ hown hnm hlk hret X0 e0 N0 z0 z1
  refine own_cast (own_ef_own_gc4_2 m xb) ?_
  show own_Goes p e below (s₁.setTop (mkF m 0 #[vR xb, vI 2] [])) _
  obtain ⟨G0, G1, G2, G3, G4, G5, G6⟩ := id G
  have ltP0 : @LT.lt Nat _ xb h0.size := P0.lt
  have q1 := G2.ext O0.2
  refine qS X0 hx hby hZ hown (host := "") (Or.inl (wh hw 124 rfl)) Via.refl e0 q1 d29_0 (fun T2 X2 e2 => ?_)
  refine q_ifYes (pc := 3) X2 hx hby d29_3 (pc' := 28) ((if0 _ _).trans (feq (show ¬ ((1 : Int32) = (0 : Int32)) from by decide)).2) (by decide) (by decide) ?_
  refine q_iloadN X2 hx hby d29_28 rfl ?_
  refine q_iconst X2 hx hby d29_29 ?_
  refine gg (fun t k => XS.ishl X2.here hx rfl (hb hby d29_30) rfl k) ?_
  show own_Goes p e below (T2.setTop (mkF m 31 #[vR xb, vI 2] [(.int ((2 : Int32) <<< ((1 : Int32) &&& 31)))])) _
  rw [show ((2 : Int32) <<< ((1 : Int32) &&& 31)) = (4 : Int32) from by decide]
  refine q_istoreN X2 hx hby d29_31 (l' := #[vR xb, vI 4]) rfl ?_
  refine q_aloadN X2 hx hby d29_32 rfl rfl ?_
  refine q_iloadN X2 hx hby d29_33 rfl ?_
  refine gg (fun t k => XS.iinc X2.here hx rfl (hb hby d29_34) rfl (l' := #[vR xb, vI ((4 : Int32) + (1 : Int32))]) rfl k) ?_
  show own_Goes p e below (T2.setTop (mkF m 37 #[vR xb, vI ((4 : Int32) + (1 : Int32))] [.int 4, .ref xb])) _
  rw [show ((4 : Int32) + (1 : Int32)) = (5 : Int32) from by decide]
  refine q_baloadBytes X2 hx hby hZ e2 P0 d29_37 (.int y4) ?_
  refine q_sipush X2 hx hby d29_38 ?_
  refine q_iand X2 hx hby d29_41 ?_
  have q4 := G3.ext O0.2
  refine qS X2 hx hby hZ hown (host := "") (Or.inl (wh hw 125 rfl)) Via.refl e2 q4 d29_42 (fun T5 X5 e5 => ?_)
  refine gg (fun t k => XS.ishl X5.here hx rfl (hb hby d29_45) rfl k) ?_
  refine q_aloadN X5 hx hby d29_46 rfl rfl ?_
  refine q_iloadN X5 hx hby d29_47 rfl ?_
  refine q_baloadBytes X5 hx hby hZ e5 P0 d29_48 (.int y5) ?_
  refine q_sipush X5 hx hby d29_49 ?_
  refine q_iand X5 hx hby d29_52 ?_
  have q7 := G4.ext O0.2
  refine qS X5 hx hby hZ hown (host := "") (Or.inl (wh hw 126 rfl)) Via.refl e5 q7 d29_53 (fun T8 X8 e8 => ?_)
  refine gg (fun t k => XS.ishl X8.here hx rfl (hb hby d29_56) rfl k) ?_
  refine gg (fun t k => XS.ior X8.here hx rfl (hb hby d29_57) rfl k) ?_
  refine gg (fun t k => XS.i2c X8.here hx rfl (hb hby d29_58) rfl k) ?_
  show own_Goes p e below (T8.setTop (mkF m 59 #[vR xb, vI 5] [(.int ((((y4 &&& (255 : Int32)) <<< ((0 : Int32) &&& 31)) ||| ((y5 &&& (255 : Int32)) <<< ((8 : Int32) &&& 31))).toUInt32.toUInt16.toUInt32.toInt32))])) _
  refine r_C X8 hx hby hret hlk d29_59 e8 ?_ (hn := (own_narr16 (own_C16i _)))
  exact ⟨N0, rfl, rfl⟩
theorem own_ef_own_pc4_3 (m : MethodId) (xb : Addr) (xi : Int32) : entryFrame m #[.ref xb, .int 3, .int xi] 3 = mkF m 0 #[vR xb, vI 3, vI xi] [] := by first | (simp [entryFrame, mkF, argsToLocals, Value.category]; done) | rfl
def Q_own_pc4_3 (Z : State) (xb : Addr) (xq : ClassId) (xi : Int32) (y0 : Int32) (y1 : Int32) (y2 : Int32) (y3 : Int32) (y4 : Int32) (y5 : Int32) (y6 : Int32) (y7 : Int32) (gz : Int32) (gfm : Value) (h0 : Heap) (n0 : Nat) (v : Option Value) (h : Heap) (L : List Loc) : Prop := Fr n0 L ∧ Keep h0 h [xb] ∧ v = none ∧ Arv Z h xb xq .byte (8 : Int32) [.int y0, .int y1, .int y2, .int y3, .int y4, .int y5, (.int (xi.toInt8.toInt32)), (.int ((xi >>> ((8 : Int32) &&& 31)).toInt8.toInt32))] (.int 0)
theorem own_pc4_3 (l : Launch) (Z : State) (a0 : Array Value) (hw : ∀ d ∈ tables_1, d.before a0 Z = true) (ws : List Jvm.Cond) (xb : Addr) (xq : ClassId) (xi : Int32) (y0 : Int32) (y1 : Int32) (y2 : Int32) (y3 : Int32) (y4 : Int32) (y5 : Int32) (y6 : Int32) (y7 : Int32) (h0 : Heap) (n0 : Nat) (O0 : Old Z n0 h0) (gz : Int32) (gfm : Value) (G : GG Z gz gfm) (P0 : Arv Z h0 xb xq .byte (8 : Int32) [.int y0, .int y1, .int y2, .int y3, .int y4, .int y5, .int y6, .int y7] (.int 0)) (P1 : n0 ≤ xb) : own_Met l Z (⟨"java/lang/StringUTF16", "putChar", "([BII)V"⟩ : MethodName) jdk_52_method_4_code 3 none ws ({ frames := 0, cells := 0, slots := 0, locals := 0 } : Room) #[.ref xb, .int 3, .int xi] h0 (Q_own_pc4_3 Z xb xq xi y0 y1 y2 y3 y4 y5 y6 y7 gz gfm h0 n0) := by
  refine own_mk (plainFor_of_name own_pn_java_lang_StringUTF16) O0 ?_
  intro p e s m below meth c s₁ hx hby hml hZ hown hnm hlk hret X0 e0 N0 z0 z1
  have K0 : Keep h0 h0 [xb] := Keep.refl _ _
  refine own_cast (own_ef_own_pc4_3 m xb xi) ?_
  show own_Goes p e below (s₁.setTop (mkF m 0 #[vR xb, vI 3, vI xi] [])) _
  obtain ⟨G0, G1, G2, G3, G4, G5, G6⟩ := id G
  have ltP0 : @LT.lt Nat _ xb h0.size := P0.lt
  have q1 := G2.ext O0.2
  refine qS X0 hx hby hZ hown (host := "") (Or.inl (wh hw 124 rfl)) Via.refl e0 q1 d28_0 (fun T2 X2 e2 => ?_)
  refine q_ifYes (pc := 3) X2 hx hby d28_3 (pc' := 28) ((if0 _ _).trans (feq (show ¬ ((1 : Int32) = (0 : Int32)) from by decide)).2) (by decide) (by decide) ?_
  refine q_iloadN X2 hx hby d28_28 rfl ?_
  refine q_iconst X2 hx hby d28_29 ?_
  refine gg (fun t k => XS.ishl X2.here hx rfl (hb hby d28_30) rfl k) ?_
  show own_Goes p e below (T2.setTop (mkF m 31 #[vR xb, vI 3, vI xi] [(.int ((3 : Int32) <<< ((1 : Int32) &&& 31)))])) _
  rw [show ((3 : Int32) <<< ((1 : Int32) &&& 31)) = (6 : Int32) from by decide]
  refine q_istoreN X2 hx hby d28_31 (l' := #[vR xb, vI 6, vI xi]) rfl ?_
  refine q_aloadN X2 hx hby d28_32 rfl rfl ?_
  refine q_iloadN X2 hx hby d28_33 rfl ?_
  refine gg (fun t k => XS.iinc X2.here hx rfl (hb hby d28_34) rfl (l' := #[vR xb, vI ((6 : Int32) + (1 : Int32)), vI xi]) rfl k) ?_
  show own_Goes p e below (T2.setTop (mkF m 37 #[vR xb, vI ((6 : Int32) + (1 : Int32)), vI xi] [.int 6, .ref xb])) _
  rw [show ((6 : Int32) + (1 : Int32)) = (7 : Int32) from by decide]
  refine q_iloadN X2 hx hby d28_37 rfl ?_
  have q3 := G3.ext O0.2
  refine qS X2 hx hby hZ hown (host := "") (Or.inl (wh hw 125 rfl)) Via.refl e2 q3 d28_38 (fun T4 X4 e4 => ?_)
  refine gg (fun t k => XS.ishr X4.here hx rfl (hb hby d28_41) rfl k) ?_
  show own_Goes p e below (T4.setTop (mkF m 42 #[vR xb, vI 7, vI xi] [(.int (xi >>> ((0 : Int32) &&& 31))), .int 6, .ref xb])) _
  rw [show (xi >>> ((0 : Int32) &&& 31)) = xi from own_sh0 xi]
  refine gg (fun t k => XS.i2b X4.here hx rfl (hb hby d28_42) rfl k) ?_
  refine q_stB X4 hx hby hZ e4 P0 6 d28_43 (fun T6 h6 X6 e6 W6 V6 => ?_)
  have O7 := O0.wr W6 (show n0 ≤ xb by omega)
  have sz8 : h6.size = h0.size := Wr.size W6
  have K9 := K0.wr W6 (Or.inl (List.mem_of_getElem? (i := 0) rfl))
  have N6 := Fr.snoc X6 N0 (show n0 ≤ xb by omega)
  have V6 : Arv Z h6 xb xq .byte (8 : Int32) [.int y0, .int y1, .int y2, .int y3, .int y4, .int y5, (.int ((xi.toInt8.toInt32).toInt8.toInt32)), .int y7] (.int 0) := V6
  rw [show ((xi.toInt8.toInt32).toInt8.toInt32) = (xi.toInt8.toInt32) from own_i8i8 _] at V6
  refine q_aloadN X6 hx hby d28_44 rfl rfl ?_
  refine q_iloadN X6 hx hby d28_45 rfl ?_
  refine q_iloadN X6 hx hby d28_46 rfl ?_
  have q10 := G4.ext O7.2
  refine qS X6 hx hby hZ hown (host := "") (Or.inl (wh hw 126 rfl)) Via.refl e6 q10 d28_47 (fun T11 X11 e11 => ?_)
  refine gg (fun t k => XS.ishr X11.here hx rfl (hb hby d28_50) rfl k) ?_
  refine gg (fun t k => XS.i2b X11.here hx rfl (hb hby d28_51) rfl k) ?_
  refine q_stB X11 hx hby hZ e11 V6 7 d28_52 (fun T13 h13 X13 e13 W13 V13 => ?_)
  have O14 := O7.wr W13 (show n0 ≤ xb by omega)
  have sz15 : h13.size = h6.size := Wr.size W13
  have K16 := K9.wr W13 (Or.inl (List.mem_of_getElem? (i := 0) rfl))
  have N13 := Fr.snoc X13 N6 (show n0 ≤ xb by omega)
  have V13 : Arv Z h13 xb xq .byte (8 : Int32) [.int y0, .int y1, .int y2, .int y3, .int y4, .int y5, (.int (xi.toInt8.toInt32)), (.int (((xi >>> ((8 : Int32) &&& 31)).toInt8.toInt32).toInt8.toInt32))] (.int 0) := V13
  rw [show (((xi >>> ((8 : Int32) &&& 31)).toInt8.toInt32).toInt8.toInt32) = ((xi >>> ((8 : Int32) &&& 31)).toInt8.toInt32) from own_i8i8 _] at V13
  refine r_V X13 hx hby hret hlk d28_53 e13 ?_
  exact ⟨N13, K16, rfl, V13⟩
theorem own_ef_own_gc4_3 (m : MethodId) (xb : Addr) : entryFrame m #[.ref xb, .int 3] 2 = mkF m 0 #[vR xb, vI 3] [] := by first | (simp [entryFrame, mkF, argsToLocals, Value.category]; done) | rfl
def Q_own_gc4_3 (Z : State) (xb : Addr) (xq : ClassId) (y0 : Int32) (y1 : Int32) (y2 : Int32) (y3 : Int32) (y4 : Int32) (y5 : Int32) (y6 : Int32) (y7 : Int32) (gz : Int32) (gfm : Value) (h0 : Heap) (n0 : Nat) (v : Option Value) (h : Heap) (L : List Loc) : Prop := Fr n0 L ∧ h = h0 ∧ v = some (.int ((((y6 &&& (255 : Int32)) <<< ((0 : Int32) &&& 31)) ||| ((y7 &&& (255 : Int32)) <<< ((8 : Int32) &&& 31))).toUInt32.toUInt16.toUInt32.toInt32))
theorem own_gc4_3 (l : Launch) (Z : State) (a0 : Array Value) (hw : ∀ d ∈ tables_1, d.before a0 Z = true) (ws : List Jvm.Cond) (xb : Addr) (xq : ClassId) (y0 : Int32) (y1 : Int32) (y2 : Int32) (y3 : Int32) (y4 : Int32) (y5 : Int32) (y6 : Int32) (y7 : Int32) (h0 : Heap) (n0 : Nat) (O0 : Old Z n0 h0) (gz : Int32) (gfm : Value) (G : GG Z gz gfm) (P0 : Arv Z h0 xb xq .byte (8 : Int32) [.int y0, .int y1, .int y2, .int y3, .int y4, .int y5, .int y6, .int y7] (.int 0)) : own_Met l Z (⟨"java/lang/StringUTF16", "getChar", "([BI)C"⟩ : MethodName) jdk_52_method_5_code 2 (some .char) ws ({ frames := 0, cells := 0, slots := 0, locals := 0 } : Room) #[.ref xb, .int 3] h0 (Q_own_gc4_3 Z xb xq y0 y1 y2 y3 y4 y5 y6 y7 gz gfm h0 n0) := by
  refine own_mk (plainFor_of_name own_pn_java_lang_StringUTF16) O0 ?_
  intro p e s m below meth c s₁ hx hby hml hZ hown hnm hlk hret X0 e0 N0 z0 z1
  refine own_cast (own_ef_own_gc4_3 m xb) ?_
  show own_Goes p e below (s₁.setTop (mkF m 0 #[vR xb, vI 3] [])) _
  obtain ⟨G0, G1, G2, G3, G4, G5, G6⟩ := id G
  have ltP0 : @LT.lt Nat _ xb h0.size := P0.lt
  have q1 := G2.ext O0.2
  refine qS X0 hx hby hZ hown (host := "") (Or.inl (wh hw 124 rfl)) Via.refl e0 q1 d29_0 (fun T2 X2 e2 => ?_)
  refine q_ifYes (pc := 3) X2 hx hby d29_3 (pc' := 28) ((if0 _ _).trans (feq (show ¬ ((1 : Int32) = (0 : Int32)) from by decide)).2) (by decide) (by decide) ?_
  refine q_iloadN X2 hx hby d29_28 rfl ?_
  refine q_iconst X2 hx hby d29_29 ?_
  refine gg (fun t k => XS.ishl X2.here hx rfl (hb hby d29_30) rfl k) ?_
  show own_Goes p e below (T2.setTop (mkF m 31 #[vR xb, vI 3] [(.int ((3 : Int32) <<< ((1 : Int32) &&& 31)))])) _
  rw [show ((3 : Int32) <<< ((1 : Int32) &&& 31)) = (6 : Int32) from by decide]
  refine q_istoreN X2 hx hby d29_31 (l' := #[vR xb, vI 6]) rfl ?_
  refine q_aloadN X2 hx hby d29_32 rfl rfl ?_
  refine q_iloadN X2 hx hby d29_33 rfl ?_
  refine gg (fun t k => XS.iinc X2.here hx rfl (hb hby d29_34) rfl (l' := #[vR xb, vI ((6 : Int32) + (1 : Int32))]) rfl k) ?_
  show own_Goes p e below (T2.setTop (mkF m 37 #[vR xb, vI ((6 : Int32) + (1 : Int32))] [.int 6, .ref xb])) _
  rw [show ((6 : Int32) + (1 : Int32)) = (7 : Int32) from by decide]
  refine q_baloadBytes X2 hx hby hZ e2 P0 d29_37 (.int y6) ?_
  refine q_sipush X2 hx hby d29_38 ?_
  refine q_iand X2 hx hby d29_41 ?_
  have q4 := G3.ext O0.2
  refine qS X2 hx hby hZ hown (host := "") (Or.inl (wh hw 125 rfl)) Via.refl e2 q4 d29_42 (fun T5 X5 e5 => ?_)
  refine gg (fun t k => XS.ishl X5.here hx rfl (hb hby d29_45) rfl k) ?_
  refine q_aloadN X5 hx hby d29_46 rfl rfl ?_
  refine q_iloadN X5 hx hby d29_47 rfl ?_
  refine q_baloadBytes X5 hx hby hZ e5 P0 d29_48 (.int y7) ?_
  refine q_sipush X5 hx hby d29_49 ?_
  refine q_iand X5 hx hby d29_52 ?_
  have q7 := G4.ext O0.2
  refine qS X5 hx hby hZ hown (host := "") (Or.inl (wh hw 126 rfl)) Via.refl e5 q7 d29_53 (fun T8 X8 e8 => ?_)
  refine gg (fun t k => XS.ishl X8.here hx rfl (hb hby d29_56) rfl k) ?_
  refine gg (fun t k => XS.ior X8.here hx rfl (hb hby d29_57) rfl k) ?_
  refine gg (fun t k => XS.i2c X8.here hx rfl (hb hby d29_58) rfl k) ?_
  show own_Goes p e below (T8.setTop (mkF m 59 #[vR xb, vI 7] [(.int ((((y6 &&& (255 : Int32)) <<< ((0 : Int32) &&& 31)) ||| ((y7 &&& (255 : Int32)) <<< ((8 : Int32) &&& 31))).toUInt32.toUInt16.toUInt32.toInt32))])) _
  refine r_C X8 hx hby hret hlk d29_59 e8 ?_ (hn := (own_narr16 (own_C16i _)))
  exact ⟨N0, rfl, rfl⟩
theorem own_ef_own_toBy4 (m : MethodId) (xc : Addr) : entryFrame m #[.ref xc, .int 0, .int 4] 5 = mkF m 0 #[vR xc, vI 0, vI 4, uS, uS] [] := by first | (simp [entryFrame, mkF, argsToLocals, Value.category]; done) | rfl
def Q_own_toBy4 (Z : State) (xc : Addr) (xk : ClassId) (c0 : Int32) (c1 : Int32) (c2 : Int32) (c3 : Int32) (gz : Int32) (gfm : Value) (h0 : Heap) (n0 : Nat) (v : Option Value) (h : Heap) (L : List Loc) : Prop := Fr n0 L ∧ Keep h0 h [] ∧ ∃ (r : Addr), ∃ (rk : ClassId), v = some (.ref r) ∧ Arv Z h r rk .byte (8 : Int32) [(.int (c0.toInt8.toInt32)), (.int ((c0 >>> ((8 : Int32) &&& 31)).toInt8.toInt32)), (.int (c1.toInt8.toInt32)), (.int ((c1 >>> ((8 : Int32) &&& 31)).toInt8.toInt32)), (.int (c2.toInt8.toInt32)), (.int ((c2 >>> ((8 : Int32) &&& 31)).toInt8.toInt32)), (.int (c3.toInt8.toInt32)), (.int ((c3 >>> ((8 : Int32) &&& 31)).toInt8.toInt32))] (.int 0) ∧ h0.size ≤ r
theorem own_toBy4 (l : Launch) (Z : State) (a0 : Array Value) (hw : ∀ d ∈ tables_1, d.before a0 Z = true) (ws : List Jvm.Cond) (xc : Addr) (xk : ClassId) (c0 : Int32) (c1 : Int32) (c2 : Int32) (c3 : Int32) (h0 : Heap) (n0 : Nat) (O0 : Old Z n0 h0) (gz : Int32) (gfm : Value) (G : GG Z gz gfm) (P0 : Arv Z h0 xc xk .char (4 : Int32) [.int c0, .int c1, .int c2, .int c3] (.int 0)) : own_Met l Z (⟨"java/lang/StringUTF16", "toBytes", "([CII)[B"⟩ : MethodName) jdk_52_method_14_code 5 (some (.array .byte)) ws ({ frames := 2, cells := 1, slots := 8, locals := 24 } : Room) #[.ref xc, .int 0, .int 4] h0 (Q_own_toBy4 Z xc xk c0 c1 c2 c3 gz gfm h0 n0) := by
  refine own_mk (plainFor_of_name own_pn_java_lang_StringUTF16) O0 ?_
  intro p e s m below meth c s₁ hx hby hml hZ hown hnm hlk hret X0 e0 N0 z0 z1
  have K0 : Keep h0 h0 [] := Keep.refl _ _
  refine own_cast (own_ef_own_toBy4 m xc) ?_
  show own_Goes p e below (s₁.setTop (mkF m 0 #[vR xc, vI 0, vI 4, uS, uS] [])) _
  obtain ⟨G0, G1, G2, G3, G4, G5, G6⟩ := id G
  have ltP0 : @LT.lt Nat _ xc h0.size := P0.lt
  refine q_iloadN X0 hx hby d25_0 rfl ?_
  refine k_S X0 hx hby hZ hown (wh hw 114 rfl) (wh hw 115 rfl) (W := 0) (own_nbf4 l Z a0 hw []  h0 n0 O0) (wh hw 116 rfl) (wh hw 75 rfl) e0  hml (argsL := [.int 4]) (rest := []) own_pd_1 d25_1 (fun _ T1 L1 X1 hQ1 => ?_)
  obtain ⟨h1, e1⟩ : ∃ z, T1.heap = z := ⟨_, rfl⟩
  rw [e1] at hQ1
  obtain ⟨Nc1, Kc1, r_1, rk_1, rfl, c1_0, c1_1⟩ := hQ1
  have N1 := Fr.app N0 Nc1
  have O2 := O0.keep Kc1 all0
  have sz3 : h0.size ≤ h1.size := Kc1.1
  have K4 := Keep.trans K0 Kc1 all0
  have ltc1_0 : @LT.lt Nat _ r_1 h1.size := c1_0.lt
  refine q_astoreN X1 hx hby d25_4 rfl (l' := #[vR xc, vI 0, vI 4, vR r_1, uS]) rfl ?_
  refine q_iconst X1 hx hby d25_5 ?_
  refine q_istore X1 hx hby d25_6 (l' := #[vR xc, vI 0, vI 4, vR r_1, vI 0]) rfl ?_
  refine q_iload X1 hx hby d25_8 rfl ?_
  refine q_iloadN X1 hx hby d25_10 rfl ?_
  refine q_icmpNo X1 hx hby d25_11 (tlt (show ((0 : Int32) < (4 : Int32)) from by decide)).2.1 ?_
  refine q_aloadN X1 hx hby d25_14 rfl rfl ?_
  refine q_iload X1 hx hby d25_15 rfl ?_
  refine q_aloadN X1 hx hby d25_17 rfl rfl ?_
  refine q_iloadN X1 hx hby d25_18 rfl ?_
  have f5 := (P0.keep Kc1 nin0)
  refine q_caload X1 hx hby hZ e1 f5 d25_19 (.int c0) ?_
  refine k_S X1 hx hby hZ hown (wh hw 121 rfl) (wh hw 122 rfl) (W := 0) (own_pc4_0 l Z a0 hw [] r_1 rk_1 c0 (0 : Int32) (0 : Int32) (0 : Int32) (0 : Int32) (0 : Int32) (0 : Int32) (0 : Int32) (0 : Int32) h1 n0 O2 gz gfm G c1_0 (show n0 ≤ r_1 by first | assumption | omega | decide)) (wh hw 123 rfl) (wh hw 75 rfl) e1  hml (argsL := [.ref r_1, .int 0, .int c0]) (rest := []) own_pd_2 d25_20 (fun _ T7 L7 X7 hQ7 => ?_)
  obtain ⟨h7, e7⟩ : ∃ z, T7.heap = z := ⟨_, rfl⟩
  rw [e7] at hQ7
  obtain ⟨Nc7, Kc7, rfl, c7_0⟩ := hQ7
  have N7 := Fr.app N1 Nc7
  have O8 := O2.keep Kc7 (allS (show n0 ≤ r_1 by omega) all0)
  have sz9 : h1.size ≤ h7.size := Kc7.1
  have K10 := Keep.trans K4 Kc7 (allS (Or.inr (show h0.size ≤ r_1 by omega)) all0)
  have ltc7_0 : @LT.lt Nat _ r_1 h7.size := c7_0.lt
  show own_Goes p e below (T7.setTop (mkF m 23 #[vR xc, vI 0, vI 4, vR r_1, vI 0] [])) _
  refine gg (fun t k => XS.iinc X7.here hx rfl (hb hby d25_23) rfl (l' := #[vR xc, vI ((0 : Int32) + (1 : Int32)), vI 4, vR r_1, vI 0]) rfl k) ?_
  show own_Goes p e below (T7.setTop (mkF m 26 #[vR xc, vI ((0 : Int32) + (1 : Int32)), vI 4, vR r_1, vI 0] [])) _
  rw [show ((0 : Int32) + (1 : Int32)) = (1 : Int32) from by decide]
  refine gg (fun t k => XS.iinc X7.here hx rfl (hb hby d25_26) rfl (l' := #[vR xc, vI 1, vI 4, vR r_1, vI ((0 : Int32) + (1 : Int32))]) rfl k) ?_
  show own_Goes p e below (T7.setTop (mkF m 29 #[vR xc, vI 1, vI 4, vR r_1, vI ((0 : Int32) + (1 : Int32))] [])) _
  rw [show ((0 : Int32) + (1 : Int32)) = (1 : Int32) from by decide]
  refine q_goto (pc := 29) X7 hx hby d25_29 (pc' := 8) (by decide) (by decide) ?_
  refine q_iload X7 hx hby d25_8 rfl ?_
  refine q_iloadN X7 hx hby d25_10 rfl ?_
  refine q_icmpNo X7 hx hby d25_11 (tlt (show ((1 : Int32) < (4 : Int32)) from by decide)).2.1 ?_
  refine q_aloadN X7 hx hby d25_14 rfl rfl ?_
  refine q_iload X7 hx hby d25_15 rfl ?_
  refine q_aloadN X7 hx hby d25_17 rfl rfl ?_
  refine q_iloadN X7 hx hby d25_18 rfl ?_
  have f11 := (f5.keep Kc7 (ninS (nE xc r_1 (by omega)) nin0))
  refine q_caload X7 hx hby hZ e7 f11 d25_19 (.int c1) ?_
  refine k_S X7 hx hby hZ hown (wh hw 121 rfl) (wh hw 122 rfl) (W := 0) (own_pc4_1 l Z a0 hw [] r_1 rk_1 c1 (c0.toInt8.toInt32) ((c0 >>> ((8 : Int32) &&& 31)).toInt8.toInt32) (0 : Int32) (0 : Int32) (0 : Int32) (0 : Int32) (0 : Int32) (0 : Int32) h7 n0 O8 gz gfm G c7_0 (show n0 ≤ r_1 by first | assumption | omega | decide)) (wh hw 123 rfl) (wh hw 75 rfl) e7  hml (argsL := [.ref r_1, .int 1, .int c1]) (rest := []) own_pd_2 d25_20 (fun _ T13 L13 X13 hQ13 => ?_)
  obtain ⟨h13, e13⟩ : ∃ z, T13.heap = z := ⟨_, rfl⟩
  rw [e13] at hQ13
  obtain ⟨Nc13, Kc13, rfl, c13_0⟩ := hQ13
  have N13 := Fr.app N7 Nc13
  have O14 := O8.keep Kc13 (allS (show n0 ≤ r_1 by omega) all0)
  have sz15 : h7.size ≤ h13.size := Kc13.1
  have K16 := Keep.trans K10 Kc13 (allS (Or.inr (show h0.size ≤ r_1 by omega)) all0)
  have ltc13_0 : @LT.lt Nat _ r_1 h13.size := c13_0.lt
  refine gg (fun t k => XS.iinc X13.here hx rfl (hb hby d25_23) rfl (l' := #[vR xc, vI ((1 : Int32) + (1 : Int32)), vI 4, vR r_1, vI 1]) rfl k) ?_
  show own_Goes p e below (T13.setTop (mkF m 26 #[vR xc, vI ((1 : Int32) + (1 : Int32)), vI 4, vR r_1, vI 1] [])) _
  rw [show ((1 : Int32) + (1 : Int32)) = (2 : Int32) from by decide]
  refine gg (fun t k => XS.iinc X13.here hx rfl (hb hby d25_26) rfl (l' := #[vR xc, vI 2, vI 4, vR r_1, vI ((1 : Int32) + (1 : Int32))]) rfl k) ?_
  show own_Goes p e below (T13.setTop (mkF m 29 #[vR xc, vI 2, vI 4, vR r_1, vI ((1 : Int32) + (1 : Int32))] [])) _
  rw [show ((1 : Int32) + (1 : Int32)) = (2 : Int32) from by decide]
  refine q_goto (pc := 29) X13 hx hby d25_29 (pc' := 8) (by decide) (by decide) ?_
  refine q_iload X13 hx hby d25_8 rfl ?_
  refine q_iloadN X13 hx hby d25_10 rfl ?_
  refine q_icmpNo X13 hx hby d25_11 (tlt (show ((2 : Int32) < (4 : Int32)) from by decide)).2.1 ?_
  refine q_aloadN X13 hx hby d25_14 rfl rfl ?_
  refine q_iload X13 hx hby d25_15 rfl ?_
  refine q_aloadN X13 hx hby d25_17 rfl rfl ?_
  refine q_iloadN X13 hx hby d25_18 rfl ?_
  have f17 := (f11.keep Kc13 (ninS (nE xc r_1 (by omega)) nin0))
  refine q_caload X13 hx hby hZ e13 f17 d25_19 (.int c2) ?_
  refine k_S X13 hx hby hZ hown (wh hw 121 rfl) (wh hw 122 rfl) (W := 0) (own_pc4_2 l Z a0 hw [] r_1 rk_1 c2 (c0.toInt8.toInt32) ((c0 >>> ((8 : Int32) &&& 31)).toInt8.toInt32) (c1.toInt8.toInt32) ((c1 >>> ((8 : Int32) &&& 31)).toInt8.toInt32) (0 : Int32) (0 : Int32) (0 : Int32) (0 : Int32) h13 n0 O14 gz gfm G c13_0 (show n0 ≤ r_1 by first | assumption | omega | decide)) (wh hw 123 rfl) (wh hw 75 rfl) e13  hml (argsL := [.ref r_1, .int 2, .int c2]) (rest := []) own_pd_2 d25_20 (fun _ T19 L19 X19 hQ19 => ?_)
  obtain ⟨h19, e19⟩ : ∃ z, T19.heap = z := ⟨_, rfl⟩
  rw [e19] at hQ19
  obtain ⟨Nc19, Kc19, rfl, c19_0⟩ := hQ19
  have N19 := Fr.app N13 Nc19
  have O20 := O14.keep Kc19 (allS (show n0 ≤ r_1 by omega) all0)
  have sz21 : h13.size ≤ h19.size := Kc19.1
  have K22 := Keep.trans K16 Kc19 (allS (Or.inr (show h0.size ≤ r_1 by omega)) all0)
  have ltc19_0 : @LT.lt Nat _ r_1 h19.size := c19_0.lt
  refine gg (fun t k => XS.iinc X19.here hx rfl (hb hby d25_23) rfl (l' := #[vR xc, vI ((2 : Int32) + (1 : Int32)), vI 4, vR r_1, vI 2]) rfl k) ?_
  show own_Goes p e below (T19.setTop (mkF m 26 #[vR xc, vI ((2 : Int32) + (1 : Int32)), vI 4, vR r_1, vI 2] [])) _
  rw [show ((2 : Int32) + (1 : Int32)) = (3 : Int32) from by decide]
  refine gg (fun t k => XS.iinc X19.here hx rfl (hb hby d25_26) rfl (l' := #[vR xc, vI 3, vI 4, vR r_1, vI ((2 : Int32) + (1 : Int32))]) rfl k) ?_
  show own_Goes p e below (T19.setTop (mkF m 29 #[vR xc, vI 3, vI 4, vR r_1, vI ((2 : Int32) + (1 : Int32))] [])) _
  rw [show ((2 : Int32) + (1 : Int32)) = (3 : Int32) from by decide]
  refine q_goto (pc := 29) X19 hx hby d25_29 (pc' := 8) (by decide) (by decide) ?_
  refine q_iload X19 hx hby d25_8 rfl ?_
  refine q_iloadN X19 hx hby d25_10 rfl ?_
  refine q_icmpNo X19 hx hby d25_11 (tlt (show ((3 : Int32) < (4 : Int32)) from by decide)).2.1 ?_
  refine q_aloadN X19 hx hby d25_14 rfl rfl ?_
  refine q_iload X19 hx hby d25_15 rfl ?_
  refine q_aloadN X19 hx hby d25_17 rfl rfl ?_
  refine q_iloadN X19 hx hby d25_18 rfl ?_
  have f23 := (f17.keep Kc19 (ninS (nE xc r_1 (by omega)) nin0))
  refine q_caload X19 hx hby hZ e19 f23 d25_19 (.int c3) ?_
  refine k_S X19 hx hby hZ hown (wh hw 121 rfl) (wh hw 122 rfl) (W := 0) (own_pc4_3 l Z a0 hw [] r_1 rk_1 c3 (c0.toInt8.toInt32) ((c0 >>> ((8 : Int32) &&& 31)).toInt8.toInt32) (c1.toInt8.toInt32) ((c1 >>> ((8 : Int32) &&& 31)).toInt8.toInt32) (c2.toInt8.toInt32) ((c2 >>> ((8 : Int32) &&& 31)).toInt8.toInt32) (0 : Int32) (0 : Int32) h19 n0 O20 gz gfm G c19_0 (show n0 ≤ r_1 by first | assumption | omega | decide)) (wh hw 123 rfl) (wh hw 75 rfl) e19  hml (argsL := [.ref r_1, .int 3, .int c3]) (rest := []) own_pd_2 d25_20 (fun _ T25 L25 X25 hQ25 => ?_)
  obtain ⟨h25, e25⟩ : ∃ z, T25.heap = z := ⟨_, rfl⟩
  rw [e25] at hQ25
  obtain ⟨Nc25, Kc25, rfl, c25_0⟩ := hQ25
  have N25 := Fr.app N19 Nc25
  have O26 := O20.keep Kc25 (allS (show n0 ≤ r_1 by omega) all0)
  have sz27 : h19.size ≤ h25.size := Kc25.1
  have K28 := Keep.trans K22 Kc25 (allS (Or.inr (show h0.size ≤ r_1 by omega)) all0)
  have ltc25_0 : @LT.lt Nat _ r_1 h25.size := c25_0.lt
  refine gg (fun t k => XS.iinc X25.here hx rfl (hb hby d25_23) rfl (l' := #[vR xc, vI ((3 : Int32) + (1 : Int32)), vI 4, vR r_1, vI 3]) rfl k) ?_
  show own_Goes p e below (T25.setTop (mkF m 26 #[vR xc, vI ((3 : Int32) + (1 : Int32)), vI 4, vR r_1, vI 3] [])) _
  rw [show ((3 : Int32) + (1 : Int32)) = (4 : Int32) from by decide]
  refine gg (fun t k => XS.iinc X25.here hx rfl (hb hby d25_26) rfl (l' := #[vR xc, vI 4, vI 4, vR r_1, vI ((3 : Int32) + (1 : Int32))]) rfl k) ?_
  show own_Goes p e below (T25.setTop (mkF m 29 #[vR xc, vI 4, vI 4, vR r_1, vI ((3 : Int32) + (1 : Int32))] [])) _
  rw [show ((3 : Int32) + (1 : Int32)) = (4 : Int32) from by decide]
  refine q_goto (pc := 29) X25 hx hby d25_29 (pc' := 8) (by decide) (by decide) ?_
  refine q_iload X25 hx hby d25_8 rfl ?_
  refine q_iloadN X25 hx hby d25_10 rfl ?_
  refine q_icmpYes (pc := 11) X25 hx hby d25_11 (pc' := 32) (flt (show ¬ ((4 : Int32) < (4 : Int32)) from by decide)).2.1 (by decide) (by decide) ?_
  refine q_aloadN X25 hx hby d25_32 rfl rfl ?_
  refine r_R X25 hx hby hret hlk d25_33 e25 ?_
  exact ⟨N25, K28, r_1, rk_1, rfl, c25_0, (show h0.size ≤ r_1 by first | assumption | omega | decide)⟩
theorem own_ef_own_ci4 (m : MethodId) (xc : Addr) (xb : Addr) : entryFrame m #[.ref xc, .int 0, .ref xb, .int 0, .int 4] 7 = mkF m 0 #[vR xc, vI 0, vR xb, vI 0, vI 4, uS, uS] [] := by first | (simp [entryFrame, mkF, argsToLocals, Value.category]; done) | rfl
def Q_own_ci4 (Z : State) (xc : Addr) (xk : ClassId) (xb : Addr) (xq : ClassId) (c0 : Int32) (c1 : Int32) (c2 : Int32) (c3 : Int32) (h0 : Heap) (n0 : Nat) (v : Option Value) (h : Heap) (L : List Loc) : Prop := Fr n0 L ∧ Keep h0 h [xb] ∧ ∃ (r : Int32), ∃ (y0 : Int32), ∃ (y1 : Int32), ∃ (y2 : Int32), ∃ (y3 : Int32), v = some (.int r) ∧ Arv Z h xb xq .byte (4 : Int32) [.int y0, .int y1, .int y2, .int y3] (.int 0) ∧ ((r = (4 : Int32) ∧ y0 = (c0.toInt8.toInt32) ∧ y1 = (c1.toInt8.toInt32) ∧ y2 = (c2.toInt8.toInt32) ∧ y3 = (c3.toInt8.toInt32) ∧ ¬ (255 : Int32) < c0 ∧ ¬ (255 : Int32) < c1 ∧ ¬ (255 : Int32) < c2 ∧ ¬ (255 : Int32) < c3) ∨ (r = (0 : Int32) ∧ (255 : Int32) < c0) ∨ (r = (1 : Int32) ∧ (255 : Int32) < c1) ∨ (r = (2 : Int32) ∧ (255 : Int32) < c2) ∨ (r = (3 : Int32) ∧ (255 : Int32) < c3))
theorem own_ci4 (l : Launch) (Z : State) (a0 : Array Value) (hw : ∀ d ∈ tables_1, d.before a0 Z = true) (ws : List Jvm.Cond) (xc : Addr) (xk : ClassId) (xb : Addr) (xq : ClassId) (c0 : Int32) (c1 : Int32) (c2 : Int32) (c3 : Int32) (h0 : Heap) (n0 : Nat) (O0 : Old Z n0 h0) (P0 : Arv Z h0 xc xk .char (4 : Int32) [.int c0, .int c1, .int c2, .int c3] (.int 0)) (P1 : Arv Z h0 xb xq .byte (4 : Int32) [.int 0, .int 0, .int 0, .int 0] (.int 0)) (P2 : @LT.lt Nat _ xc xb) (P3 : n0 ≤ xb) : own_Met l Z (⟨"java/lang/StringUTF16", "compress", "([CI[BII)I"⟩ : MethodName) jdk_52_method_21_code 7 (some .int) ws ({ frames := 0, cells := 0, slots := 0, locals := 0 } : Room) #[.ref xc, .int 0, .ref xb, .int 0, .int 4] h0 (Q_own_ci4 Z xc xk xb xq c0 c1 c2 c3 h0 n0) := by
  refine own_mk (plainFor_of_name own_pn_java_lang_StringUTF16) O0 ?_
  intro p e s m below meth c s₁ hx hby hml hZ hown hnm hlk hret X0 e0 N0 z0 z1
  have K0 : Keep h0 h0 [xb] := Keep.refl _ _
  refine own_cast (own_ef_own_ci4 m xc xb) ?_
  show own_Goes p e below (s₁.setTop (mkF m 0 #[vR xc, vI 0, vR xb, vI 0, vI 4, uS, uS] [])) _
  have ltP0 : @LT.lt Nat _ xc h0.size := P0.lt
  have ltP1 : @LT.lt Nat _ xb h0.size := P1.lt
  refine q_iconst X0 hx hby d17_0 ?_
  refine q_istore X0 hx hby d17_1 (l' := #[vR xc, vI 0, vR xb, vI 0, vI 4, vI 0, uS]) rfl ?_
  refine q_iload X0 hx hby d17_3 rfl ?_
  refine q_iload X0 hx hby d17_5 rfl ?_
  refine q_icmpNo X0 hx hby d17_7 (tlt (show ((0 : Int32) < (4 : Int32)) from by decide)).2.1 ?_
  refine q_aloadN X0 hx hby d17_10 rfl rfl ?_
  refine q_iloadN X0 hx hby d17_11 rfl ?_
  refine q_caload X0 hx hby hZ e0 P0 d17_12 (.int c0) ?_
  refine q_istore X0 hx hby d17_13 (l' := #[vR xc, vI 0, vR xb, vI 0, vI 4, vI 0, vI c0]) rfl ?_
  refine q_iload X0 hx hby d17_15 rfl ?_
  refine q_sipush X0 hx hby d17_17 ?_
  by_cases hc2 : (255 : Int32) < c0
  · refine q_icmpNo X0 hx hby d17_20 (tlt hc2).2.2.2 ?_
    refine q_iload X0 hx hby d17_23 rfl ?_
    refine r_I X0 hx hby hret hlk d17_25 e0 ?_
    exact ⟨N0, K0, (0 : Int32), (0 : Int32), (0 : Int32), (0 : Int32), (0 : Int32), rfl, P1, (Or.inr (Or.inl ⟨rfl, hc2⟩))⟩
  · refine q_icmpYes (pc := 20) X0 hx hby d17_20 (pc' := 26) (flt hc2).2.2.2 (by decide) (by decide) ?_
    show own_Goes p e below (s₁.setTop (mkF m 26 #[vR xc, vI 0, vR xb, vI 0, vI 4, vI 0, vI c0] [])) _
    refine q_aloadN X0 hx hby d17_26 rfl rfl ?_
    refine q_iloadN X0 hx hby d17_27 rfl ?_
    refine q_iload X0 hx hby d17_28 rfl ?_
    refine gg (fun t k => XS.i2b X0.here hx rfl (hb hby d17_30) rfl k) ?_
    refine q_stB X0 hx hby hZ e0 P1 0 d17_31 (fun T4 h4 X4 e4 W4 V4 => ?_)
    have O5 := O0.wr W4 (show n0 ≤ xb by omega)
    have sz6 : h4.size = h0.size := Wr.size W4
    have K7 := K0.wr W4 (Or.inl (List.mem_of_getElem? (i := 0) rfl))
    have N4 := Fr.snoc X4 N0 (show n0 ≤ xb by omega)
    have V4 : Arv Z h4 xb xq .byte (4 : Int32) [(.int ((c0.toInt8.toInt32).toInt8.toInt32)), .int 0, .int 0, .int 0] (.int 0) := V4
    rw [show ((c0.toInt8.toInt32).toInt8.toInt32) = (c0.toInt8.toInt32) from own_i8i8 _] at V4
    refine gg (fun t k => XS.iinc X4.here hx rfl (hb hby d17_32) rfl (l' := #[vR xc, vI ((0 : Int32) + (1 : Int32)), vR xb, vI 0, vI 4, vI 0, vI c0]) rfl k) ?_
    show own_Goes p e below (T4.setTop (mkF m 35 #[vR xc, vI ((0 : Int32) + (1 : Int32)), vR xb, vI 0, vI 4, vI 0, vI c0] [])) _
    rw [show ((0 : Int32) + (1 : Int32)) = (1 : Int32) from by decide]
    refine gg (fun t k => XS.iinc X4.here hx rfl (hb hby d17_35) rfl (l' := #[vR xc, vI 1, vR xb, vI ((0 : Int32) + (1 : Int32)), vI 4, vI 0, vI c0]) rfl k) ?_
    show own_Goes p e below (T4.setTop (mkF m 38 #[vR xc, vI 1, vR xb, vI ((0 : Int32) + (1 : Int32)), vI 4, vI 0, vI c0] [])) _
    rw [show ((0 : Int32) + (1 : Int32)) = (1 : Int32) from by decide]
    refine gg (fun t k => XS.iinc X4.here hx rfl (hb hby d17_38) rfl (l' := #[vR xc, vI 1, vR xb, vI 1, vI 4, vI ((0 : Int32) + (1 : Int32)), vI c0]) rfl k) ?_
    show own_Goes p e below (T4.setTop (mkF m 41 #[vR xc, vI 1, vR xb, vI 1, vI 4, vI ((0 : Int32) + (1 : Int32)), vI c0] [])) _
    rw [show ((0 : Int32) + (1 : Int32)) = (1 : Int32) from by decide]
    refine q_goto (pc := 41) X4 hx hby d17_41 (pc' := 3) (by decide) (by decide) ?_
    refine q_iload X4 hx hby d17_3 rfl ?_
    refine q_iload X4 hx hby d17_5 rfl ?_
    refine q_icmpNo X4 hx hby d17_7 (tlt (show ((1 : Int32) < (4 : Int32)) from by decide)).2.1 ?_
    refine q_aloadN X4 hx hby d17_10 rfl rfl ?_
    refine q_iloadN X4 hx hby d17_11 rfl ?_
    have f8 := (P0.other W4 (nE xc xb (by omega)))
    refine q_caload X4 hx hby hZ e4 f8 d17_12 (.int c1) ?_
    refine q_istore X4 hx hby d17_13 (l' := #[vR xc, vI 1, vR xb, vI 1, vI 4, vI 1, vI c1]) rfl ?_
    refine q_iload X4 hx hby d17_15 rfl ?_
    refine q_sipush X4 hx hby d17_17 ?_
    by_cases hc10 : (255 : Int32) < c1
    · refine q_icmpNo X4 hx hby d17_20 (tlt hc10).2.2.2 ?_
      refine q_iload X4 hx hby d17_23 rfl ?_
      refine r_I X4 hx hby hret hlk d17_25 e4 ?_
      exact ⟨N4, K7, (1 : Int32), (c0.toInt8.toInt32), (0 : Int32), (0 : Int32), (0 : Int32), rfl, V4, (Or.inr (Or.inr (Or.inl ⟨rfl, hc10⟩)))⟩
    · refine q_icmpYes (pc := 20) X4 hx hby d17_20 (pc' := 26) (flt hc10).2.2.2 (by decide) (by decide) ?_
      refine q_aloadN X4 hx hby d17_26 rfl rfl ?_
      show own_Goes p e below (T4.setTop (mkF m 27 #[vR xc, vI 1, vR xb, vI 1, vI 4, vI 1, vI c1] [.ref xb])) _
      refine q_iloadN X4 hx hby d17_27 rfl ?_
      refine q_iload X4 hx hby d17_28 rfl ?_
      refine gg (fun t k => XS.i2b X4.here hx rfl (hb hby d17_30) rfl k) ?_
      refine q_stB X4 hx hby hZ e4 V4 1 d17_31 (fun T12 h12 X12 e12 W12 V12 => ?_)
      have O13 := O5.wr W12 (show n0 ≤ xb by omega)
      have sz14 : h12.size = h4.size := Wr.size W12
      have K15 := K7.wr W12 (Or.inl (List.mem_of_getElem? (i := 0) rfl))
      have N12 := Fr.snoc X12 N4 (show n0 ≤ xb by omega)
      have V12 : Arv Z h12 xb xq .byte (4 : Int32) [(.int (c0.toInt8.toInt32)), (.int ((c1.toInt8.toInt32).toInt8.toInt32)), .int 0, .int 0] (.int 0) := V12
      rw [show ((c1.toInt8.toInt32).toInt8.toInt32) = (c1.toInt8.toInt32) from own_i8i8 _] at V12
      refine gg (fun t k => XS.iinc X12.here hx rfl (hb hby d17_32) rfl (l' := #[vR xc, vI ((1 : Int32) + (1 : Int32)), vR xb, vI 1, vI 4, vI 1, vI c1]) rfl k) ?_
      show own_Goes p e below (T12.setTop (mkF m 35 #[vR xc, vI ((1 : Int32) + (1 : Int32)), vR xb, vI 1, vI 4, vI 1, vI c1] [])) _
      rw [show ((1 : Int32) + (1 : Int32)) = (2 : Int32) from by decide]
      refine gg (fun t k => XS.iinc X12.here hx rfl (hb hby d17_35) rfl (l' := #[vR xc, vI 2, vR xb, vI ((1 : Int32) + (1 : Int32)), vI 4, vI 1, vI c1]) rfl k) ?_
      show own_Goes p e below (T12.setTop (mkF m 38 #[vR xc, vI 2, vR xb, vI ((1 : Int32) + (1 : Int32)), vI 4, vI 1, vI c1] [])) _
      rw [show ((1 : Int32) + (1 : Int32)) = (2 : Int32) from by decide]
      refine gg (fun t k => XS.iinc X12.here hx rfl (hb hby d17_38) rfl (l' := #[vR xc, vI 2, vR xb, vI 2, vI 4, vI ((1 : Int32) + (1 : Int32)), vI c1]) rfl k) ?_
      show own_Goes p e below (T12.setTop (mkF m 41 #[vR xc, vI 2, vR xb, vI 2, vI 4, vI ((1 : Int32) + (1 : Int32)), vI c1] [])) _
      rw [show ((1 : Int32) + (1 : Int32)) = (2 : Int32) from by decide]
      refine q_goto (pc := 41) X12 hx hby d17_41 (pc' := 3) (by decide) (by decide) ?_
      refine q_iload X12 hx hby d17_3 rfl ?_
      refine q_iload X12 hx hby d17_5 rfl ?_
      refine q_icmpNo X12 hx hby d17_7 (tlt (show ((2 : Int32) < (4 : Int32)) from by decide)).2.1 ?_
      refine q_aloadN X12 hx hby d17_10 rfl rfl ?_
      refine q_iloadN X12 hx hby d17_11 rfl ?_
      have f16 := (f8.other W12 (nE xc xb (by omega)))
      refine q_caload X12 hx hby hZ e12 f16 d17_12 (.int c2) ?_
      refine q_istore X12 hx hby d17_13 (l' := #[vR xc, vI 2, vR xb, vI 2, vI 4, vI 2, vI c2]) rfl ?_
      refine q_iload X12 hx hby d17_15 rfl ?_
      refine q_sipush X12 hx hby d17_17 ?_
      by_cases hc18 : (255 : Int32) < c2
      · refine q_icmpNo X12 hx hby d17_20 (tlt hc18).2.2.2 ?_
        refine q_iload X12 hx hby d17_23 rfl ?_
        refine r_I X12 hx hby hret hlk d17_25 e12 ?_
        exact ⟨N12, K15, (2 : Int32), (c0.toInt8.toInt32), (c1.toInt8.toInt32), (0 : Int32), (0 : Int32), rfl, V12, (Or.inr (Or.inr (Or.inr (Or.inl ⟨rfl, hc18⟩))))⟩
      · refine q_icmpYes (pc := 20) X12 hx hby d17_20 (pc' := 26) (flt hc18).2.2.2 (by decide) (by decide) ?_
        refine q_aloadN X12 hx hby d17_26 rfl rfl ?_
        show own_Goes p e below (T12.setTop (mkF m 27 #[vR xc, vI 2, vR xb, vI 2, vI 4, vI 2, vI c2] [.ref xb])) _
        refine q_iloadN X12 hx hby d17_27 rfl ?_
        refine q_iload X12 hx hby d17_28 rfl ?_
        refine gg (fun t k => XS.i2b X12.here hx rfl (hb hby d17_30) rfl k) ?_
        refine q_stB X12 hx hby hZ e12 V12 2 d17_31 (fun T20 h20 X20 e20 W20 V20 => ?_)
        have O21 := O13.wr W20 (show n0 ≤ xb by omega)
        have sz22 : h20.size = h12.size := Wr.size W20
        have K23 := K15.wr W20 (Or.inl (List.mem_of_getElem? (i := 0) rfl))
        have N20 := Fr.snoc X20 N12 (show n0 ≤ xb by omega)
        have V20 : Arv Z h20 xb xq .byte (4 : Int32) [(.int (c0.toInt8.toInt32)), (.int (c1.toInt8.toInt32)), (.int ((c2.toInt8.toInt32).toInt8.toInt32)), .int 0] (.int 0) := V20
        rw [show ((c2.toInt8.toInt32).toInt8.toInt32) = (c2.toInt8.toInt32) from own_i8i8 _] at V20
        refine gg (fun t k => XS.iinc X20.here hx rfl (hb hby d17_32) rfl (l' := #[vR xc, vI ((2 : Int32) + (1 : Int32)), vR xb, vI 2, vI 4, vI 2, vI c2]) rfl k) ?_
        show own_Goes p e below (T20.setTop (mkF m 35 #[vR xc, vI ((2 : Int32) + (1 : Int32)), vR xb, vI 2, vI 4, vI 2, vI c2] [])) _
        rw [show ((2 : Int32) + (1 : Int32)) = (3 : Int32) from by decide]
        refine gg (fun t k => XS.iinc X20.here hx rfl (hb hby d17_35) rfl (l' := #[vR xc, vI 3, vR xb, vI ((2 : Int32) + (1 : Int32)), vI 4, vI 2, vI c2]) rfl k) ?_
        show own_Goes p e below (T20.setTop (mkF m 38 #[vR xc, vI 3, vR xb, vI ((2 : Int32) + (1 : Int32)), vI 4, vI 2, vI c2] [])) _
        rw [show ((2 : Int32) + (1 : Int32)) = (3 : Int32) from by decide]
        refine gg (fun t k => XS.iinc X20.here hx rfl (hb hby d17_38) rfl (l' := #[vR xc, vI 3, vR xb, vI 3, vI 4, vI ((2 : Int32) + (1 : Int32)), vI c2]) rfl k) ?_
        show own_Goes p e below (T20.setTop (mkF m 41 #[vR xc, vI 3, vR xb, vI 3, vI 4, vI ((2 : Int32) + (1 : Int32)), vI c2] [])) _
        rw [show ((2 : Int32) + (1 : Int32)) = (3 : Int32) from by decide]
        refine q_goto (pc := 41) X20 hx hby d17_41 (pc' := 3) (by decide) (by decide) ?_
        refine q_iload X20 hx hby d17_3 rfl ?_
        refine q_iload X20 hx hby d17_5 rfl ?_
        refine q_icmpNo X20 hx hby d17_7 (tlt (show ((3 : Int32) < (4 : Int32)) from by decide)).2.1 ?_
        refine q_aloadN X20 hx hby d17_10 rfl rfl ?_
        refine q_iloadN X20 hx hby d17_11 rfl ?_
        have f24 := (f16.other W20 (nE xc xb (by omega)))
        refine q_caload X20 hx hby hZ e20 f24 d17_12 (.int c3) ?_
        refine q_istore X20 hx hby d17_13 (l' := #[vR xc, vI 3, vR xb, vI 3, vI 4, vI 3, vI c3]) rfl ?_
        refine q_iload X20 hx hby d17_15 rfl ?_
        refine q_sipush X20 hx hby d17_17 ?_
        by_cases hc26 : (255 : Int32) < c3
        · refine q_icmpNo X20 hx hby d17_20 (tlt hc26).2.2.2 ?_
          refine q_iload X20 hx hby d17_23 rfl ?_
          refine r_I X20 hx hby hret hlk d17_25 e20 ?_
          exact ⟨N20, K23, (3 : Int32), (c0.toInt8.toInt32), (c1.toInt8.toInt32), (c2.toInt8.toInt32), (0 : Int32), rfl, V20, (Or.inr (Or.inr (Or.inr (Or.inr ⟨rfl, hc26⟩))))⟩
        · refine q_icmpYes (pc := 20) X20 hx hby d17_20 (pc' := 26) (flt hc26).2.2.2 (by decide) (by decide) ?_
          refine q_aloadN X20 hx hby d17_26 rfl rfl ?_
          show own_Goes p e below (T20.setTop (mkF m 27 #[vR xc, vI 3, vR xb, vI 3, vI 4, vI 3, vI c3] [.ref xb])) _
          refine q_iloadN X20 hx hby d17_27 rfl ?_
          refine q_iload X20 hx hby d17_28 rfl ?_
          refine gg (fun t k => XS.i2b X20.here hx rfl (hb hby d17_30) rfl k) ?_
          refine q_stB X20 hx hby hZ e20 V20 3 d17_31 (fun T28 h28 X28 e28 W28 V28 => ?_)
          have O29 := O21.wr W28 (show n0 ≤ xb by omega)
          have sz30 : h28.size = h20.size := Wr.size W28
          have K31 := K23.wr W28 (Or.inl (List.mem_of_getElem? (i := 0) rfl))
          have N28 := Fr.snoc X28 N20 (show n0 ≤ xb by omega)
          have V28 : Arv Z h28 xb xq .byte (4 : Int32) [(.int (c0.toInt8.toInt32)), (.int (c1.toInt8.toInt32)), (.int (c2.toInt8.toInt32)), (.int ((c3.toInt8.toInt32).toInt8.toInt32))] (.int 0) := V28
          rw [show ((c3.toInt8.toInt32).toInt8.toInt32) = (c3.toInt8.toInt32) from own_i8i8 _] at V28
          refine gg (fun t k => XS.iinc X28.here hx rfl (hb hby d17_32) rfl (l' := #[vR xc, vI ((3 : Int32) + (1 : Int32)), vR xb, vI 3, vI 4, vI 3, vI c3]) rfl k) ?_
          show own_Goes p e below (T28.setTop (mkF m 35 #[vR xc, vI ((3 : Int32) + (1 : Int32)), vR xb, vI 3, vI 4, vI 3, vI c3] [])) _
          rw [show ((3 : Int32) + (1 : Int32)) = (4 : Int32) from by decide]
          refine gg (fun t k => XS.iinc X28.here hx rfl (hb hby d17_35) rfl (l' := #[vR xc, vI 4, vR xb, vI ((3 : Int32) + (1 : Int32)), vI 4, vI 3, vI c3]) rfl k) ?_
          show own_Goes p e below (T28.setTop (mkF m 38 #[vR xc, vI 4, vR xb, vI ((3 : Int32) + (1 : Int32)), vI 4, vI 3, vI c3] [])) _
          rw [show ((3 : Int32) + (1 : Int32)) = (4 : Int32) from by decide]
          refine gg (fun t k => XS.iinc X28.here hx rfl (hb hby d17_38) rfl (l' := #[vR xc, vI 4, vR xb, vI 4, vI 4, vI ((3 : Int32) + (1 : Int32)), vI c3]) rfl k) ?_
          show own_Goes p e below (T28.setTop (mkF m 41 #[vR xc, vI 4, vR xb, vI 4, vI 4, vI ((3 : Int32) + (1 : Int32)), vI c3] [])) _
          rw [show ((3 : Int32) + (1 : Int32)) = (4 : Int32) from by decide]
          refine q_goto (pc := 41) X28 hx hby d17_41 (pc' := 3) (by decide) (by decide) ?_
          refine q_iload X28 hx hby d17_3 rfl ?_
          refine q_iload X28 hx hby d17_5 rfl ?_
          refine q_icmpYes (pc := 7) X28 hx hby d17_7 (pc' := 44) (flt (show ¬ ((4 : Int32) < (4 : Int32)) from by decide)).2.1 (by decide) (by decide) ?_
          refine q_iload X28 hx hby d17_44 rfl ?_
          refine r_I X28 hx hby hret hlk d17_46 e28 ?_
          exact ⟨N28, K31, (4 : Int32), (c0.toInt8.toInt32), (c1.toInt8.toInt32), (c2.toInt8.toInt32), (c3.toInt8.toInt32), rfl, V28, (Or.inl ⟨rfl, rfl, rfl, rfl, rfl, hc2, hc10, hc18, hc26⟩)⟩
theorem own_ef_own_co4 (m : MethodId) (xc : Addr) : entryFrame m #[.ref xc, .int 0, .int 4] 6 = mkF m 0 #[vR xc, vI 0, vI 4, uS, uS, uS] [] := by first | (simp [entryFrame, mkF, argsToLocals, Value.category]; done) | rfl
def Q_own_co4 (Z : State) (xc : Addr) (xk : ClassId) (c0 : Int32) (c1 : Int32) (c2 : Int32) (c3 : Int32) (gz : Int32) (gfm : Value) (h0 : Heap) (n0 : Nat) (v : Option Value) (h : Heap) (L : List Loc) : Prop := Fr n0 L ∧ Keep h0 h [] ∧ ∃ (r : Addr), v = some (.ref r) ∧ own_Cod Z h r ([c0, c1, c2, c3] : List Int32) ∧ h0.size ≤ r
theorem own_co4 (l : Launch) (Z : State) (a0 : Array Value) (hw : ∀ d ∈ tables_1, d.before a0 Z = true) (ws : List Jvm.Cond) (xc : Addr) (xk : ClassId) (c0 : Int32) (c1 : Int32) (c2 : Int32) (c3 : Int32) (h0 : Heap) (n0 : Nat) (O0 : Old Z n0 h0) (gz : Int32) (gfm : Value) (G : GG Z gz gfm) (P0 : Arv Z h0 xc xk .char (4 : Int32) [.int c0, .int c1, .int c2, .int c3] (.int 0)) (P1 : own_C16 c0) (P2 : own_C16 c1) (P3 : own_C16 c2) (P4 : own_C16 c3) : own_Met l Z (⟨"java/lang/StringUTF16", "compress", "([CII)[B"⟩ : MethodName) jdk_52_method_16_code 6 (some (.array .byte)) ws ({ frames := 3, cells := 2, slots := 12, locals := 40 } : Room) #[.ref xc, .int 0, .int 4] h0 (Q_own_co4 Z xc xk c0 c1 c2 c3 gz gfm h0 n0) := by
  refine own_mk (plainFor_of_name own_pn_java_lang_StringUTF16) O0 ?_
  intro p e s m below meth c s₁ hx hby hml hZ hown hnm hlk hret X0 e0 N0 z0 z1
  have K0 : Keep h0 h0 [] := Keep.refl _ _
  refine own_cast (own_ef_own_co4 m xc) ?_
  show own_Goes p e below (s₁.setTop (mkF m 0 #[vR xc, vI 0, vI 4, uS, uS, uS] [])) _
  obtain ⟨G0, G1, G2, G3, G4, G5, G6⟩ := id G
  have ltP0 : @LT.lt Nat _ xc h0.size := P0.lt
  refine q_iloadN X0 hx hby d16_0 rfl ?_
  obtain ⟨T1, h1, k1, X1, e1, E1, A1, st1⟩ := newP X0 hx hZ (wh hw 25 rfl) e0 (g := (mkF m 1 #[vR xc, vI 0, vI 4, uS, uS, uS] [.int 4])) rfl (hb hby d16_1) rfl (by decide) (cap := 4) (by decide) (by decide) (by decide) (by decide)
  obtain ⟨b1, g1⟩ : ∃ z, z = h0.size := ⟨_, rfl⟩
  rw [← g1] at A1 st1
  refine gg st1 ?_
  have O2 := O0.ext E1
  have sz3 : h0.size ≤ h1.size := E1.1
  have K4 := K0.ext E1
  have l1 : @LT.lt Nat _ b1 h1.size := A1.lt
  have V1 : Arv Z h1 b1 k1 .byte (4 : Int32) [.int 0, .int 0, .int 0, .int 0] (.int 0) := (Arv.new A1 (by decide)).pad (pad_rep [] (.int 0) 4)
  refine q_astoreN X1 hx hby d16_3 rfl (l' := #[vR xc, vI 0, vI 4, vR b1, uS, uS]) rfl ?_
  refine q_aloadN X1 hx hby d16_4 rfl rfl ?_
  refine q_iloadN X1 hx hby d16_5 rfl ?_
  refine q_aloadN X1 hx hby d16_6 rfl rfl ?_
  refine q_iconst X1 hx hby d16_7 ?_
  refine q_iloadN X1 hx hby d16_8 rfl ?_
  have f5 := (P0.ext E1)
  refine k_S X1 hx hby hZ hown (wh hw 77 rfl) (wh hw 78 rfl) (W := 0) (own_ci4 l Z a0 hw [] xc xk b1 k1 c0 c1 c2 c3 h1 n0 O2 f5 V1 (show @LT.lt Nat _ xc b1 by first | assumption | omega | decide) (show n0 ≤ b1 by first | assumption | omega | decide)) (wh hw 79 rfl) (wh hw 75 rfl) e1  hml (argsL := [.ref xc, .int 0, .ref b1, .int 0, .int 4]) (rest := []) own_pd_3 d16_9 (fun _ T6 L6 X6 hQ6 => ?_)
  obtain ⟨h6, e6⟩ : ∃ z, T6.heap = z := ⟨_, rfl⟩
  rw [e6] at hQ6
  obtain ⟨Nc6, Kc6, r_6, y0_6, y1_6, y2_6, y3_6, rfl, c6_0, c6_1⟩ := hQ6
  have N6 := Fr.app N0 Nc6
  have O7 := O2.keep Kc6 (allS (show n0 ≤ b1 by omega) all0)
  have sz8 : h1.size ≤ h6.size := Kc6.1
  have K9 := Keep.trans K4 Kc6 (allS (Or.inr (show h0.size ≤ b1 by omega)) all0)
  have ltc6_0 : @LT.lt Nat _ b1 h6.size := c6_0.lt
  rcases c6_1 with ⟨rfl, rfl, rfl, rfl, rfl, hq10, hq11, hq12, hq13⟩ | ⟨rfl, hq10⟩ | ⟨rfl, hq11⟩ | ⟨rfl, hq12⟩ | ⟨rfl, hq13⟩
  · show own_Goes p e below (T6.setTop (mkF m 12 #[vR xc, vI 0, vI 4, vR b1, uS, uS] [.int 4])) _
    refine q_istore X6 hx hby d16_12 (l' := #[vR xc, vI 0, vI 4, vR b1, vI 4, uS]) rfl ?_
    refine q_iload X6 hx hby d16_14 rfl ?_
    refine q_iloadN X6 hx hby d16_16 rfl ?_
    refine q_icmpYes (pc := 17) X6 hx hby d16_17 (pc' := 57) (teq (show ((4 : Int32) = (4 : Int32)) from by decide)).1 (by decide) (by decide) ?_
    refine q_aloadN X6 hx hby d16_57 rfl rfl ?_
    refine r_R X6 hx hby hret hlk d16_58 e6 ?_
    exact ⟨N6, K9, b1, rfl, ⟨_, _, _, _, c6_0, Or.inl ⟨rfl, rfl, rfl, (own_alS hq10 (own_alS hq11 (own_alS hq12 (own_alS hq13 own_al0))))⟩⟩, (show h0.size ≤ b1 by first | assumption | omega | decide)⟩
  · show own_Goes p e below (T6.setTop (mkF m 12 #[vR xc, vI 0, vI 4, vR b1, uS, uS] [.int 0])) _
    refine q_istore X6 hx hby d16_12 (l' := #[vR xc, vI 0, vI 4, vR b1, vI 0, uS]) rfl ?_
    refine q_iload X6 hx hby d16_14 rfl ?_
    refine q_iloadN X6 hx hby d16_16 rfl ?_
    refine q_icmpNo X6 hx hby d16_17 (feq (show ¬ ((0 : Int32) = (4 : Int32)) from by decide)).1 ?_
    refine q_aloadN X6 hx hby d16_20 rfl rfl ?_
    refine q_iloadN X6 hx hby d16_21 rfl ?_
    refine q_iloadN X6 hx hby d16_22 rfl ?_
    have f14 := (f5.keep Kc6 (ninS (nE xc b1 (by omega)) nin0))
    refine k_S X6 hx hby hZ hown (wh hw 111 rfl) (wh hw 112 rfl) (W := 0) (own_toBy4 l Z a0 hw [] xc xk c0 c1 c2 c3 h6 n0 O7 gz gfm G f14) (wh hw 113 rfl) (wh hw 75 rfl) e6  hml (argsL := [.ref xc, .int 0, .int 4]) (rest := []) own_pd_4 d16_23 (fun _ T15 L15 X15 hQ15 => ?_)
    obtain ⟨h15, e15⟩ : ∃ z, T15.heap = z := ⟨_, rfl⟩
    rw [e15] at hQ15
    obtain ⟨Nc15, Kc15, r_15, rk_15, rfl, c15_0, c15_1⟩ := hQ15
    have N15 := Fr.app N6 Nc15
    have O16 := O7.keep Kc15 all0
    have sz17 : h6.size ≤ h15.size := Kc15.1
    have K18 := Keep.trans K9 Kc15 all0
    have ltc15_0 : @LT.lt Nat _ r_15 h15.size := c15_0.lt
    refine q_astore X15 hx hby d16_26 rfl (l' := #[vR xc, vI 0, vI 4, vR b1, vI 0, vR r_15]) rfl ?_
    refine q_aload X15 hx hby d16_28 rfl rfl ?_
    refine q_iload X15 hx hby d16_30 rfl ?_
    refine k_S X15 hx hby hZ hown (wh hw 127 rfl) (wh hw 128 rfl) (W := 0) (own_gc4_0 l Z a0 hw [] r_15 rk_15 (c0.toInt8.toInt32) ((c0 >>> ((8 : Int32) &&& 31)).toInt8.toInt32) (c1.toInt8.toInt32) ((c1 >>> ((8 : Int32) &&& 31)).toInt8.toInt32) (c2.toInt8.toInt32) ((c2 >>> ((8 : Int32) &&& 31)).toInt8.toInt32) (c3.toInt8.toInt32) ((c3 >>> ((8 : Int32) &&& 31)).toInt8.toInt32) h15 n0 O16 gz gfm G c15_0) (wh hw 129 rfl) (wh hw 75 rfl) e15  hml (argsL := [.ref r_15, .int 0]) (rest := []) own_pd_5 d16_32 (fun _ T19 L19 X19 hQ19 => ?_)
    obtain ⟨Nc19, e19, rfl⟩ := hQ19
    have N19 := Fr.app N15 Nc19
    show own_Goes p e below (T19.setTop (mkF m 35 #[vR xc, vI 0, vI 4, vR b1, vI 0, vR r_15] [(.int (((((c0.toInt8.toInt32) &&& (255 : Int32)) <<< ((0 : Int32) &&& 31)) ||| ((((c0 >>> ((8 : Int32) &&& 31)).toInt8.toInt32) &&& (255 : Int32)) <<< ((8 : Int32) &&& 31))).toUInt32.toUInt16.toUInt32.toInt32))])) _
    rw [show (((((c0.toInt8.toInt32) &&& (255 : Int32)) <<< ((0 : Int32) &&& 31)) ||| ((((c0 >>> ((8 : Int32) &&& 31)).toInt8.toInt32) &&& (255 : Int32)) <<< ((8 : Int32) &&& 31))).toUInt32.toUInt16.toUInt32.toInt32) = c0 from own_g16 P1]
    refine q_sipush X19 hx hby d16_35 ?_
    refine q_icmpYes (pc := 38) X19 hx hby d16_38 (pc' := 54) (tlt hq10).2.2.1 (by decide) (by decide) ?_
    refine q_aload X19 hx hby d16_54 rfl rfl ?_
    refine r_R X19 hx hby hret hlk d16_56 e19 ?_
    exact ⟨N19, K18, r_15, rfl, ⟨_, _, _, _, c15_0, Or.inr ⟨rfl, rfl, rfl, c0, by simp, hq10⟩⟩, (show h0.size ≤ r_15 by first | assumption | omega | decide)⟩
  · show own_Goes p e below (T6.setTop (mkF m 12 #[vR xc, vI 0, vI 4, vR b1, uS, uS] [.int 1])) _
    refine q_istore X6 hx hby d16_12 (l' := #[vR xc, vI 0, vI 4, vR b1, vI 1, uS]) rfl ?_
    refine q_iload X6 hx hby d16_14 rfl ?_
    refine q_iloadN X6 hx hby d16_16 rfl ?_
    refine q_icmpNo X6 hx hby d16_17 (feq (show ¬ ((1 : Int32) = (4 : Int32)) from by decide)).1 ?_
    refine q_aloadN X6 hx hby d16_20 rfl rfl ?_
    refine q_iloadN X6 hx hby d16_21 rfl ?_
    refine q_iloadN X6 hx hby d16_22 rfl ?_
    have f20 := (f5.keep Kc6 (ninS (nE xc b1 (by omega)) nin0))
    refine k_S X6 hx hby hZ hown (wh hw 111 rfl) (wh hw 112 rfl) (W := 0) (own_toBy4 l Z a0 hw [] xc xk c0 c1 c2 c3 h6 n0 O7 gz gfm G f20) (wh hw 113 rfl) (wh hw 75 rfl) e6  hml (argsL := [.ref xc, .int 0, .int 4]) (rest := []) own_pd_4 d16_23 (fun _ T21 L21 X21 hQ21 => ?_)
    obtain ⟨h21, e21⟩ : ∃ z, T21.heap = z := ⟨_, rfl⟩
    rw [e21] at hQ21
    obtain ⟨Nc21, Kc21, r_21, rk_21, rfl, c21_0, c21_1⟩ := hQ21
    have N21 := Fr.app N6 Nc21
    have O22 := O7.keep Kc21 all0
    have sz23 : h6.size ≤ h21.size := Kc21.1
    have K24 := Keep.trans K9 Kc21 all0
    have ltc21_0 : @LT.lt Nat _ r_21 h21.size := c21_0.lt
    refine q_astore X21 hx hby d16_26 rfl (l' := #[vR xc, vI 0, vI 4, vR b1, vI 1, vR r_21]) rfl ?_
    refine q_aload X21 hx hby d16_28 rfl rfl ?_
    refine q_iload X21 hx hby d16_30 rfl ?_
    refine k_S X21 hx hby hZ hown (wh hw 127 rfl) (wh hw 128 rfl) (W := 0) (own_gc4_1 l Z a0 hw [] r_21 rk_21 (c0.toInt8.toInt32) ((c0 >>> ((8 : Int32) &&& 31)).toInt8.toInt32) (c1.toInt8.toInt32) ((c1 >>> ((8 : Int32) &&& 31)).toInt8.toInt32) (c2.toInt8.toInt32) ((c2 >>> ((8 : Int32) &&& 31)).toInt8.toInt32) (c3.toInt8.toInt32) ((c3 >>> ((8 : Int32) &&& 31)).toInt8.toInt32) h21 n0 O22 gz gfm G c21_0) (wh hw 129 rfl) (wh hw 75 rfl) e21  hml (argsL := [.ref r_21, .int 1]) (rest := []) own_pd_5 d16_32 (fun _ T25 L25 X25 hQ25 => ?_)
    obtain ⟨Nc25, e25, rfl⟩ := hQ25
    have N25 := Fr.app N21 Nc25
    show own_Goes p e below (T25.setTop (mkF m 35 #[vR xc, vI 0, vI 4, vR b1, vI 1, vR r_21] [(.int (((((c1.toInt8.toInt32) &&& (255 : Int32)) <<< ((0 : Int32) &&& 31)) ||| ((((c1 >>> ((8 : Int32) &&& 31)).toInt8.toInt32) &&& (255 : Int32)) <<< ((8 : Int32) &&& 31))).toUInt32.toUInt16.toUInt32.toInt32))])) _
    rw [show (((((c1.toInt8.toInt32) &&& (255 : Int32)) <<< ((0 : Int32) &&& 31)) ||| ((((c1 >>> ((8 : Int32) &&& 31)).toInt8.toInt32) &&& (255 : Int32)) <<< ((8 : Int32) &&& 31))).toUInt32.toUInt16.toUInt32.toInt32) = c1 from own_g16 P2]
    refine q_sipush X25 hx hby d16_35 ?_
    refine q_icmpYes (pc := 38) X25 hx hby d16_38 (pc' := 54) (tlt hq11).2.2.1 (by decide) (by decide) ?_
    refine q_aload X25 hx hby d16_54 rfl rfl ?_
    refine r_R X25 hx hby hret hlk d16_56 e25 ?_
    exact ⟨N25, K24, r_21, rfl, ⟨_, _, _, _, c21_0, Or.inr ⟨rfl, rfl, rfl, c1, by simp, hq11⟩⟩, (show h0.size ≤ r_21 by first | assumption | omega | decide)⟩
  · show own_Goes p e below (T6.setTop (mkF m 12 #[vR xc, vI 0, vI 4, vR b1, uS, uS] [.int 2])) _
    refine q_istore X6 hx hby d16_12 (l' := #[vR xc, vI 0, vI 4, vR b1, vI 2, uS]) rfl ?_
    refine q_iload X6 hx hby d16_14 rfl ?_
    refine q_iloadN X6 hx hby d16_16 rfl ?_
    refine q_icmpNo X6 hx hby d16_17 (feq (show ¬ ((2 : Int32) = (4 : Int32)) from by decide)).1 ?_
    refine q_aloadN X6 hx hby d16_20 rfl rfl ?_
    refine q_iloadN X6 hx hby d16_21 rfl ?_
    refine q_iloadN X6 hx hby d16_22 rfl ?_
    have f26 := (f5.keep Kc6 (ninS (nE xc b1 (by omega)) nin0))
    refine k_S X6 hx hby hZ hown (wh hw 111 rfl) (wh hw 112 rfl) (W := 0) (own_toBy4 l Z a0 hw [] xc xk c0 c1 c2 c3 h6 n0 O7 gz gfm G f26) (wh hw 113 rfl) (wh hw 75 rfl) e6  hml (argsL := [.ref xc, .int 0, .int 4]) (rest := []) own_pd_4 d16_23 (fun _ T27 L27 X27 hQ27 => ?_)
    obtain ⟨h27, e27⟩ : ∃ z, T27.heap = z := ⟨_, rfl⟩
    rw [e27] at hQ27
    obtain ⟨Nc27, Kc27, r_27, rk_27, rfl, c27_0, c27_1⟩ := hQ27
    have N27 := Fr.app N6 Nc27
    have O28 := O7.keep Kc27 all0
    have sz29 : h6.size ≤ h27.size := Kc27.1
    have K30 := Keep.trans K9 Kc27 all0
    have ltc27_0 : @LT.lt Nat _ r_27 h27.size := c27_0.lt
    refine q_astore X27 hx hby d16_26 rfl (l' := #[vR xc, vI 0, vI 4, vR b1, vI 2, vR r_27]) rfl ?_
    refine q_aload X27 hx hby d16_28 rfl rfl ?_
    refine q_iload X27 hx hby d16_30 rfl ?_
    refine k_S X27 hx hby hZ hown (wh hw 127 rfl) (wh hw 128 rfl) (W := 0) (own_gc4_2 l Z a0 hw [] r_27 rk_27 (c0.toInt8.toInt32) ((c0 >>> ((8 : Int32) &&& 31)).toInt8.toInt32) (c1.toInt8.toInt32) ((c1 >>> ((8 : Int32) &&& 31)).toInt8.toInt32) (c2.toInt8.toInt32) ((c2 >>> ((8 : Int32) &&& 31)).toInt8.toInt32) (c3.toInt8.toInt32) ((c3 >>> ((8 : Int32) &&& 31)).toInt8.toInt32) h27 n0 O28 gz gfm G c27_0) (wh hw 129 rfl) (wh hw 75 rfl) e27  hml (argsL := [.ref r_27, .int 2]) (rest := []) own_pd_5 d16_32 (fun _ T31 L31 X31 hQ31 => ?_)
    obtain ⟨Nc31, e31, rfl⟩ := hQ31
    have N31 := Fr.app N27 Nc31
    show own_Goes p e below (T31.setTop (mkF m 35 #[vR xc, vI 0, vI 4, vR b1, vI 2, vR r_27] [(.int (((((c2.toInt8.toInt32) &&& (255 : Int32)) <<< ((0 : Int32) &&& 31)) ||| ((((c2 >>> ((8 : Int32) &&& 31)).toInt8.toInt32) &&& (255 : Int32)) <<< ((8 : Int32) &&& 31))).toUInt32.toUInt16.toUInt32.toInt32))])) _
    rw [show (((((c2.toInt8.toInt32) &&& (255 : Int32)) <<< ((0 : Int32) &&& 31)) ||| ((((c2 >>> ((8 : Int32) &&& 31)).toInt8.toInt32) &&& (255 : Int32)) <<< ((8 : Int32) &&& 31))).toUInt32.toUInt16.toUInt32.toInt32) = c2 from own_g16 P3]
    refine q_sipush X31 hx hby d16_35 ?_
    refine q_icmpYes (pc := 38) X31 hx hby d16_38 (pc' := 54) (tlt hq12).2.2.1 (by decide) (by decide) ?_
    refine q_aload X31 hx hby d16_54 rfl rfl ?_
    refine r_R X31 hx hby hret hlk d16_56 e31 ?_
    exact ⟨N31, K30, r_27, rfl, ⟨_, _, _, _, c27_0, Or.inr ⟨rfl, rfl, rfl, c2, by simp, hq12⟩⟩, (show h0.size ≤ r_27 by first | assumption | omega | decide)⟩
  · show own_Goes p e below (T6.setTop (mkF m 12 #[vR xc, vI 0, vI 4, vR b1, uS, uS] [.int 3])) _
    refine q_istore X6 hx hby d16_12 (l' := #[vR xc, vI 0, vI 4, vR b1, vI 3, uS]) rfl ?_
    refine q_iload X6 hx hby d16_14 rfl ?_
    refine q_iloadN X6 hx hby d16_16 rfl ?_
    refine q_icmpNo X6 hx hby d16_17 (feq (show ¬ ((3 : Int32) = (4 : Int32)) from by decide)).1 ?_
    refine q_aloadN X6 hx hby d16_20 rfl rfl ?_
    refine q_iloadN X6 hx hby d16_21 rfl ?_
    refine q_iloadN X6 hx hby d16_22 rfl ?_
    have f32 := (f5.keep Kc6 (ninS (nE xc b1 (by omega)) nin0))
    refine k_S X6 hx hby hZ hown (wh hw 111 rfl) (wh hw 112 rfl) (W := 0) (own_toBy4 l Z a0 hw [] xc xk c0 c1 c2 c3 h6 n0 O7 gz gfm G f32) (wh hw 113 rfl) (wh hw 75 rfl) e6  hml (argsL := [.ref xc, .int 0, .int 4]) (rest := []) own_pd_4 d16_23 (fun _ T33 L33 X33 hQ33 => ?_)
    obtain ⟨h33, e33⟩ : ∃ z, T33.heap = z := ⟨_, rfl⟩
    rw [e33] at hQ33
    obtain ⟨Nc33, Kc33, r_33, rk_33, rfl, c33_0, c33_1⟩ := hQ33
    have N33 := Fr.app N6 Nc33
    have O34 := O7.keep Kc33 all0
    have sz35 : h6.size ≤ h33.size := Kc33.1
    have K36 := Keep.trans K9 Kc33 all0
    have ltc33_0 : @LT.lt Nat _ r_33 h33.size := c33_0.lt
    refine q_astore X33 hx hby d16_26 rfl (l' := #[vR xc, vI 0, vI 4, vR b1, vI 3, vR r_33]) rfl ?_
    refine q_aload X33 hx hby d16_28 rfl rfl ?_
    refine q_iload X33 hx hby d16_30 rfl ?_
    refine k_S X33 hx hby hZ hown (wh hw 127 rfl) (wh hw 128 rfl) (W := 0) (own_gc4_3 l Z a0 hw [] r_33 rk_33 (c0.toInt8.toInt32) ((c0 >>> ((8 : Int32) &&& 31)).toInt8.toInt32) (c1.toInt8.toInt32) ((c1 >>> ((8 : Int32) &&& 31)).toInt8.toInt32) (c2.toInt8.toInt32) ((c2 >>> ((8 : Int32) &&& 31)).toInt8.toInt32) (c3.toInt8.toInt32) ((c3 >>> ((8 : Int32) &&& 31)).toInt8.toInt32) h33 n0 O34 gz gfm G c33_0) (wh hw 129 rfl) (wh hw 75 rfl) e33  hml (argsL := [.ref r_33, .int 3]) (rest := []) own_pd_5 d16_32 (fun _ T37 L37 X37 hQ37 => ?_)
    obtain ⟨Nc37, e37, rfl⟩ := hQ37
    have N37 := Fr.app N33 Nc37
    show own_Goes p e below (T37.setTop (mkF m 35 #[vR xc, vI 0, vI 4, vR b1, vI 3, vR r_33] [(.int (((((c3.toInt8.toInt32) &&& (255 : Int32)) <<< ((0 : Int32) &&& 31)) ||| ((((c3 >>> ((8 : Int32) &&& 31)).toInt8.toInt32) &&& (255 : Int32)) <<< ((8 : Int32) &&& 31))).toUInt32.toUInt16.toUInt32.toInt32))])) _
    rw [show (((((c3.toInt8.toInt32) &&& (255 : Int32)) <<< ((0 : Int32) &&& 31)) ||| ((((c3 >>> ((8 : Int32) &&& 31)).toInt8.toInt32) &&& (255 : Int32)) <<< ((8 : Int32) &&& 31))).toUInt32.toUInt16.toUInt32.toInt32) = c3 from own_g16 P4]
    refine q_sipush X37 hx hby d16_35 ?_
    refine q_icmpYes (pc := 38) X37 hx hby d16_38 (pc' := 54) (tlt hq13).2.2.1 (by decide) (by decide) ?_
    refine q_aload X37 hx hby d16_54 rfl rfl ?_
    refine r_R X37 hx hby hret hlk d16_56 e37 ?_
    exact ⟨N37, K36, r_33, rfl, ⟨_, _, _, _, c33_0, Or.inr ⟨rfl, rfl, rfl, c3, by simp, hq13⟩⟩, (show h0.size ≤ r_33 by first | assumption | omega | decide)⟩
theorem own_ef_own_cfa4a (m : MethodId) (xb : Addr) : entryFrame m #[.ref xb, .int 4] 2 = mkF m 0 #[vR xb, vI 4] [] := by first | (simp [entryFrame, mkF, argsToLocals, Value.category]; done) | rfl
def Q_own_cfa4a (Z : State) (xb : Addr) (xq : ClassId) (y0 : Int32) (y1 : Int32) (y2 : Int32) (y3 : Int32) (h0 : Heap) (n0 : Nat) (v : Option Value) (h : Heap) (L : List Loc) : Prop := Fr n0 L ∧ h = h0 ∧ v = some (.int 0)
theorem own_cfa4a (l : Launch) (Z : State) (a0 : Array Value) (hw : ∀ d ∈ tables_1, d.before a0 Z = true) (ws : List Jvm.Cond) (xb : Addr) (xq : ClassId) (y0 : Int32) (y1 : Int32) (y2 : Int32) (y3 : Int32) (h0 : Heap) (n0 : Nat) (O0 : Old Z n0 h0) (P0 : Arv Z h0 xb xq .byte (4 : Int32) [.int y0, .int y1, .int y2, .int y3] (.int 0)) : own_Met l Z (⟨"java/lang/StringUTF16", "coderFromArrayLen", "([BI)B"⟩ : MethodName) jdk_52_method_15_code 2 (some .byte) ws ({ frames := 0, cells := 0, slots := 0, locals := 0 } : Room) #[.ref xb, .int 4] h0 (Q_own_cfa4a Z xb xq y0 y1 y2 y3 h0 n0) := by
  refine own_mk (plainFor_of_name own_pn_java_lang_StringUTF16) O0 ?_
  intro p e s m below meth c s₁ hx hby hml hZ hown hnm hlk hret X0 e0 N0 z0 z1
  refine own_cast (own_ef_own_cfa4a m xb) ?_
  show own_Goes p e below (s₁.setTop (mkF m 0 #[vR xb, vI 4] [])) _
  have ltP0 : @LT.lt Nat _ xb h0.size := P0.lt
  refine q_iloadN X0 hx hby d18_0 rfl ?_
  refine q_aloadN X0 hx hby d18_1 rfl rfl ?_
  refine q_len X0 hx hby hZ e0 P0 d18_2 ?_
  refine q_isub X0 hx hby d18_3 ?_
  show own_Goes p e below (s₁.setTop (mkF m 4 #[vR xb, vI 4] [(.int ((4 : Int32) - (4 : Int32)))])) _
  rw [show ((4 : Int32) - (4 : Int32)) = (0 : Int32) from by decide]
  refine q_bipush X0 hx hby d18_4 ?_
  refine gg (fun t k => XS.iushr X0.here hx rfl (hb hby d18_6) rfl k) ?_
  show own_Goes p e below (s₁.setTop (mkF m 7 #[vR xb, vI 4] [(.int (((0 : Int32).toUInt32 >>> ((31 : Int32) &&& 31).toUInt32).toInt32))])) _
  rw [show (((0 : Int32).toUInt32 >>> ((31 : Int32) &&& 31).toUInt32).toInt32) = (0 : Int32) from by decide]
  refine gg (fun t k => XS.i2b X0.here hx rfl (hb hby d18_7) rfl k) ?_
  show own_Goes p e below (s₁.setTop (mkF m 8 #[vR xb, vI 4] [(.int ((0 : Int32).toInt8.toInt32))])) _
  rw [show ((0 : Int32).toInt8.toInt32) = (0 : Int32) from by decide]
  refine r_B X0 hx hby hret hlk d18_8 e0 ?_
  exact ⟨N0, rfl, rfl⟩
theorem own_ef_own_cfa4b (m : MethodId) (xb : Addr) : entryFrame m #[.ref xb, .int 4] 2 = mkF m 0 #[vR xb, vI 4] [] := by first | (simp [entryFrame, mkF, argsToLocals, Value.category]; done) | rfl
def Q_own_cfa4b (Z : State) (xb : Addr) (xq : ClassId) (y0 : Int32) (y1 : Int32) (y2 : Int32) (y3 : Int32) (y4 : Int32) (y5 : Int32) (y6 : Int32) (y7 : Int32) (h0 : Heap) (n0 : Nat) (v : Option Value) (h : Heap) (L : List Loc) : Prop := Fr n0 L ∧ h = h0 ∧ v = some (.int 1)
theorem own_cfa4b (l : Launch) (Z : State) (a0 : Array Value) (hw : ∀ d ∈ tables_1, d.before a0 Z = true) (ws : List Jvm.Cond) (xb : Addr) (xq : ClassId) (y0 : Int32) (y1 : Int32) (y2 : Int32) (y3 : Int32) (y4 : Int32) (y5 : Int32) (y6 : Int32) (y7 : Int32) (h0 : Heap) (n0 : Nat) (O0 : Old Z n0 h0) (P0 : Arv Z h0 xb xq .byte (8 : Int32) [.int y0, .int y1, .int y2, .int y3, .int y4, .int y5, .int y6, .int y7] (.int 0)) : own_Met l Z (⟨"java/lang/StringUTF16", "coderFromArrayLen", "([BI)B"⟩ : MethodName) jdk_52_method_15_code 2 (some .byte) ws ({ frames := 0, cells := 0, slots := 0, locals := 0 } : Room) #[.ref xb, .int 4] h0 (Q_own_cfa4b Z xb xq y0 y1 y2 y3 y4 y5 y6 y7 h0 n0) := by
  refine own_mk (plainFor_of_name own_pn_java_lang_StringUTF16) O0 ?_
  intro p e s m below meth c s₁ hx hby hml hZ hown hnm hlk hret X0 e0 N0 z0 z1
  refine own_cast (own_ef_own_cfa4b m xb) ?_
  show own_Goes p e below (s₁.setTop (mkF m 0 #[vR xb, vI 4] [])) _
  have ltP0 : @LT.lt Nat _ xb h0.size := P0.lt
  refine q_iloadN X0 hx hby d18_0 rfl ?_
  refine q_aloadN X0 hx hby d18_1 rfl rfl ?_
  refine q_len X0 hx hby hZ e0 P0 d18_2 ?_
  refine q_isub X0 hx hby d18_3 ?_
  show own_Goes p e below (s₁.setTop (mkF m 4 #[vR xb, vI 4] [(.int ((4 : Int32) - (8 : Int32)))])) _
  rw [show ((4 : Int32) - (8 : Int32)) = (-4 : Int32) from by decide]
  refine q_bipush X0 hx hby d18_4 ?_
  refine gg (fun t k => XS.iushr X0.here hx rfl (hb hby d18_6) rfl k) ?_
  show own_Goes p e below (s₁.setTop (mkF m 7 #[vR xb, vI 4] [(.int (((-4 : Int32).toUInt32 >>> ((31 : Int32) &&& 31).toUInt32).toInt32))])) _
  rw [show (((-4 : Int32).toUInt32 >>> ((31 : Int32) &&& 31).toUInt32).toInt32) = (1 : Int32) from by decide]
  refine gg (fun t k => XS.i2b X0.here hx rfl (hb hby d18_7) rfl k) ?_
  show own_Goes p e below (s₁.setTop (mkF m 8 #[vR xb, vI 4] [(.int ((1 : Int32).toInt8.toInt32))])) _
  rw [show ((1 : Int32).toInt8.toInt32) = (1 : Int32) from by decide]
  refine r_B X0 hx hby hret hlk d18_8 e0 ?_
  exact ⟨N0, rfl, rfl⟩
theorem own_ef_own_si4 (m : MethodId) (xa : Addr) (xc : Addr) : entryFrame m #[.ref xa, .ref xc, .int 0, .int 4, .null] 6 = mkF m 0 #[vR xa, vR xc, vI 0, vI 4, vN, uS] [] := by first | (simp [entryFrame, mkF, argsToLocals, Value.category]; done) | rfl
def Q_own_si4 (Z : State) (xa : Addr) (xc : Addr) (xk : ClassId) (c0 : Int32) (c1 : Int32) (c2 : Int32) (c3 : Int32) (gz : Int32) (gfm : Value) (h0 : Heap) (n0 : Nat) (v : Option Value) (h : Heap) (L : List Loc) : Prop := Fr n0 L ∧ Keep h0 h [xa] ∧ ∃ (rb : Addr), v = none ∧ own_Str Z h xa rb ([c0, c1, c2, c3] : List Int32)
theorem own_si4 (l : Launch) (Z : State) (a0 : Array Value) (hw : ∀ d ∈ tables_1, d.before a0 Z = true) (ws : List Jvm.Cond) (xa : Addr) (xc : Addr) (xk : ClassId) (c0 : Int32) (c1 : Int32) (c2 : Int32) (c3 : Int32) (h0 : Heap) (n0 : Nat) (O0 : Old Z n0 h0) (gz : Int32) (gfm : Value) (G : GG Z gz gfm) (P0 : Exa Z h0 xa "java/lang/String") (P1 : Fld Z h0 xa "java/lang/String" "value" "[B" .null) (P2 : Fld Z h0 xa "java/lang/String" "coder" "B" (.int 0)) (P3 : n0 ≤ xa) (P4 : Arv Z h0 xc xk .char (4 : Int32) [.int c0, .int c1, .int c2, .int c3] (.int 0)) (P5 : (@LT.lt Nat _ xc xa ∨ @LT.lt Nat _ xa xc)) (P6 : own_C16 c0) (P7 : own_C16 c1) (P8 : own_C16 c2) (P9 : own_C16 c3) : own_Met l Z (⟨"java/lang/String", "<init>", "([CIILjava/lang/Void;)V"⟩ : MethodName) jdk_42_method_149_code 6 none ws ({ frames := 4, cells := 2, slots := 12, locals := 57 } : Room) #[.ref xa, .ref xc, .int 0, .int 4, .null] h0 (Q_own_si4 Z xa xc xk c0 c1 c2 c3 gz gfm h0 n0) := by
  refine own_mk (plainFor_of_name own_pn_java_lang_String) O0 ?_
  intro p e s m below meth c s₁ hx hby hml hZ hown hnm hlk hret X0 e0 N0 z0 z1
  have K0 : Keep h0 h0 [xa] := Keep.refl _ _
  refine own_cast (own_ef_own_si4 m xa xc) ?_
  show own_Goes p e below (s₁.setTop (mkF m 0 #[vR xa, vR xc, vI 0, vI 4, vN, uS] [])) _
  obtain ⟨G0, G1, G2, G3, G4, G5, G6⟩ := id G
  have ltP0 : @LT.lt Nat _ xa h0.size := P0.lt
  have ltP4 : @LT.lt Nat _ xc h0.size := P4.lt
  refine q_aloadN X0 hx hby d4_0 rfl rfl ?_
  obtain ⟨T1, X1, e1, st1⟩ := initO X0 hx hZ hown (wh hw 21 rfl) (wh hw 22 rfl) (wh hw 23 rfl) e0 (g := (mkF m 1 #[vR xa, vR xc, vI 0, vI 4, vN, uS] [.ref xa])) rfl (by rw [hml]; rfl) rfl (hb hby d4_1) (by decide) (W := 0) (by show 2 * 0 + _ ≤ _; exact Nat.le_of_eq rfl) (by decide)
  refine gg st1 ?_
  refine q_iloadN X1 hx hby d4_4 rfl ?_
  refine q_ifYes (pc := 5) X1 hx hby d4_5 (pc' := 27) ((if0 _ _).trans (feq (show ¬ ((4 : Int32) = (0 : Int32)) from by decide)).2) (by decide) (by decide) ?_
  have q2 := G0.ext O0.2
  refine qS X1 hx hby hZ hown (host := "") (Or.inl (wh hw 35 rfl)) Via.refl e1 q2 d4_27 (fun T3 X3 e3 => ?_)
  refine q_ifNo X3 hx hby d4_30 ((if0 _ _).trans (feq (show ¬ (gz = (0 : Int32)) from G1)).1) ?_
  refine q_aloadN X3 hx hby d4_33 rfl rfl ?_
  refine q_iloadN X3 hx hby d4_34 rfl ?_
  refine q_iloadN X3 hx hby d4_35 rfl ?_
  refine k_S X3 hx hby hZ hown (wh hw 73 rfl) (wh hw 74 rfl) (W := 0) (own_co4 l Z a0 hw [] xc xk c0 c1 c2 c3 h0 n0 O0 gz gfm G P4 (show own_C16 c0 from P6) (show own_C16 c1 from P7) (show own_C16 c2 from P8) (show own_C16 c3 from P9)) (wh hw 76 rfl) (wh hw 75 rfl) e3  hml (argsL := [.ref xc, .int 0, .int 4]) (rest := []) own_pd_4 d4_36 (fun _ T4 L4 X4 hQ4 => ?_)
  obtain ⟨h4, e4⟩ : ∃ z, T4.heap = z := ⟨_, rfl⟩
  rw [e4] at hQ4
  obtain ⟨Nc4, Kc4, r_4, rfl, c4_0, c4_1⟩ := hQ4
  have N4 := Fr.app N0 Nc4
  have O5 := O0.keep Kc4 all0
  have sz6 : h0.size ≤ h4.size := Kc4.1
  have K7 := Keep.trans K0 Kc4 all0
  obtain ⟨kbs8, cds8, Ns8, vss8, As8, hCs8⟩ := id c4_0
  rcases hCs8 with ⟨rfl, rfl, rfl, hLs8⟩ | ⟨rfl, rfl, rfl, hWs8⟩
  · have Bs8 : Arv Z h4 r_4 kbs8 .byte (4 : Int32) [(.int (c0.toInt8.toInt32)), (.int (c1.toInt8.toInt32)), (.int (c2.toInt8.toInt32)), (.int (c3.toInt8.toInt32))] (.int 0) := As8
    show own_Goes p e below (T4.setTop (mkF m 39 #[vR xa, vR xc, vI 0, vI 4, vN, uS] [.ref r_4])) _
    refine q_astore X4 hx hby d4_39 rfl (l' := #[vR xa, vR xc, vI 0, vI 4, vN, vR r_4]) rfl ?_
    refine q_aloadN X4 hx hby d4_41 rfl rfl ?_
    refine q_aload X4 hx hby d4_42 rfl rfl ?_
    refine q_iloadN X4 hx hby d4_44 rfl ?_
    refine k_S X4 hx hby hZ hown (wh hw 80 rfl) (wh hw 81 rfl) (W := 1) (own_cfa4a l Z a0 hw [] r_4 kbs8 (c0.toInt8.toInt32) (c1.toInt8.toInt32) (c2.toInt8.toInt32) (c3.toInt8.toInt32) h4 n0 O5 Bs8) (wh hw 82 rfl) (wh hw 75 rfl) e4  hml (argsL := [.ref r_4, .int 4]) (rest := [.ref xa]) own_pd_6 d4_45 (fun _ T9 L9 X9 hQ9 => ?_)
    obtain ⟨Nc9, e9, rfl⟩ := hQ9
    have N9 := Fr.app N4 Nc9
    have f10 := (P2.keep Kc4 nin0)
    have f11 := (P0.keep Kc4)
    obtain ⟨T12, h12, X12, e12, W12, st12⟩ := putFN X9 hx hZ hown (wh hw 31 rfl) Via.refl e9 f10 f11 (Or.inr ⟨(wh hw 27 rfl), rfl, hnm⟩) (wh hw 12 rfl) (ty := .byte) (v' := (.int 0)) (by decide) rfl rfl (g := (mkF m 48 #[vR xa, vR xc, vI 0, vI 4, vN, vR r_4] [.int 0, .ref xa])) rfl rfl (hb hby d4_48)
    refine gg st12 ?_
    have O13 := O5.wr W12 (show n0 ≤ xa by omega)
    have sz14 : h12.size = h4.size := Wr.size W12
    have K15 := K7.wr W12 (Or.inl (List.mem_of_getElem? (i := 0) rfl))
    have N12 := Fr.snoc X12 N9 (show n0 ≤ xa by omega)
    have Fw12 := f10.same W12
    refine q_aloadN X12 hx hby d4_51 rfl rfl ?_
    refine q_aload X12 hx hby d4_52 rfl rfl ?_
    have f16 := ((P1.keep Kc4 nin0).other W12 (Or.inr (slot_ne (Or.inr (wh hw 26 rfl)) (Or.inr (wh hw 27 rfl)) (by decide) (t := (.array .byte)) (t' := .byte) (by decide) (by decide))))
    have f17 := (f11.wr W12)
    refine qP X12 hx hby hZ hown (host := "") (Or.inl (wh hw 30 rfl)) Via.refl e12 f16 f17 (Or.inr ⟨(wh hw 26 rfl), rfl, hnm⟩) (wh hw 12 rfl) (ty := (.array .byte)) d4_54 (fun T18 h18 X18 e18 W18 => ?_)
    have O19 := O13.wr W18 (show n0 ≤ xa by omega)
    have sz20 : h18.size = h12.size := Wr.size W18
    have K21 := K15.wr W18 (Or.inl (List.mem_of_getElem? (i := 0) rfl))
    have N18 := Fr.snoc X18 N12 (show n0 ≤ xa by omega)
    have Fw18 := f16.same W18
    refine r_V X18 hx hby hret hlk d4_57 e18 ?_
    have f22 := (f17.wr W18)
    have f23 := (Fw12.other W18 (Or.inr (slot_ne (Or.inr (wh hw 27 rfl)) (Or.inr (wh hw 26 rfl)) (by decide) (t := .byte) (t' := (.array .byte)) (by decide) (by decide))))
    have f24 := ((Bs8.other W12 (nE r_4 xa (by omega))).other W18 (nE r_4 xa (by omega)))
    exact ⟨N18, K21, r_4, rfl, ⟨f22, Fw18, _, _, _, _, f23, f24, Or.inl ⟨rfl, rfl, rfl, hLs8⟩, (own_alS P6 (own_alS P7 (own_alS P8 (own_alS P9 own_al0)))), Nat.le_of_ble_eq_true rfl⟩⟩
  · have Bs8 : Arv Z h4 r_4 kbs8 .byte (8 : Int32) [(.int (c0.toInt8.toInt32)), (.int ((c0 >>> ((8 : Int32) &&& 31)).toInt8.toInt32)), (.int (c1.toInt8.toInt32)), (.int ((c1 >>> ((8 : Int32) &&& 31)).toInt8.toInt32)), (.int (c2.toInt8.toInt32)), (.int ((c2 >>> ((8 : Int32) &&& 31)).toInt8.toInt32)), (.int (c3.toInt8.toInt32)), (.int ((c3 >>> ((8 : Int32) &&& 31)).toInt8.toInt32))] (.int 0) := As8
    show own_Goes p e below (T4.setTop (mkF m 39 #[vR xa, vR xc, vI 0, vI 4, vN, uS] [.ref r_4])) _
    refine q_astore X4 hx hby d4_39 rfl (l' := #[vR xa, vR xc, vI 0, vI 4, vN, vR r_4]) rfl ?_
    refine q_aloadN X4 hx hby d4_41 rfl rfl ?_
    refine q_aload X4 hx hby d4_42 rfl rfl ?_
    refine q_iloadN X4 hx hby d4_44 rfl ?_
    refine k_S X4 hx hby hZ hown (wh hw 80 rfl) (wh hw 81 rfl) (W := 1) (own_cfa4b l Z a0 hw [] r_4 kbs8 (c0.toInt8.toInt32) ((c0 >>> ((8 : Int32) &&& 31)).toInt8.toInt32) (c1.toInt8.toInt32) ((c1 >>> ((8 : Int32) &&& 31)).toInt8.toInt32) (c2.toInt8.toInt32) ((c2 >>> ((8 : Int32) &&& 31)).toInt8.toInt32) (c3.toInt8.toInt32) ((c3 >>> ((8 : Int32) &&& 31)).toInt8.toInt32) h4 n0 O5 Bs8) (wh hw 82 rfl) (wh hw 75 rfl) e4  hml (argsL := [.ref r_4, .int 4]) (rest := [.ref xa]) own_pd_6 d4_45 (fun _ T25 L25 X25 hQ25 => ?_)
    obtain ⟨Nc25, e25, rfl⟩ := hQ25
    have N25 := Fr.app N4 Nc25
    have f26 := (P2.keep Kc4 nin0)
    have f27 := (P0.keep Kc4)
    obtain ⟨T28, h28, X28, e28, W28, st28⟩ := putFN X25 hx hZ hown (wh hw 31 rfl) Via.refl e25 f26 f27 (Or.inr ⟨(wh hw 27 rfl), rfl, hnm⟩) (wh hw 12 rfl) (ty := .byte) (v' := (.int 1)) (by decide) rfl rfl (g := (mkF m 48 #[vR xa, vR xc, vI 0, vI 4, vN, vR r_4] [.int 1, .ref xa])) rfl rfl (hb hby d4_48)
    refine gg st28 ?_
    have O29 := O5.wr W28 (show n0 ≤ xa by omega)
    have sz30 : h28.size = h4.size := Wr.size W28
    have K31 := K7.wr W28 (Or.inl (List.mem_of_getElem? (i := 0) rfl))
    have N28 := Fr.snoc X28 N25 (show n0 ≤ xa by omega)
    have Fw28 := f26.same W28
    refine q_aloadN X28 hx hby d4_51 rfl rfl ?_
    refine q_aload X28 hx hby d4_52 rfl rfl ?_
    have f32 := ((P1.keep Kc4 nin0).other W28 (Or.inr (slot_ne (Or.inr (wh hw 26 rfl)) (Or.inr (wh hw 27 rfl)) (by decide) (t := (.array .byte)) (t' := .byte) (by decide) (by decide))))
    have f33 := (f27.wr W28)
    refine qP X28 hx hby hZ hown (host := "") (Or.inl (wh hw 30 rfl)) Via.refl e28 f32 f33 (Or.inr ⟨(wh hw 26 rfl), rfl, hnm⟩) (wh hw 12 rfl) (ty := (.array .byte)) d4_54 (fun T34 h34 X34 e34 W34 => ?_)
    have O35 := O29.wr W34 (show n0 ≤ xa by omega)
    have sz36 : h34.size = h28.size := Wr.size W34
    have K37 := K31.wr W34 (Or.inl (List.mem_of_getElem? (i := 0) rfl))
    have N34 := Fr.snoc X34 N28 (show n0 ≤ xa by omega)
    have Fw34 := f32.same W34
    refine r_V X34 hx hby hret hlk d4_57 e34 ?_
    have f38 := (f33.wr W34)
    have f39 := (Fw28.other W34 (Or.inr (slot_ne (Or.inr (wh hw 27 rfl)) (Or.inr (wh hw 26 rfl)) (by decide) (t := .byte) (t' := (.array .byte)) (by decide) (by decide))))
    have f40 := ((Bs8.other W28 (nE r_4 xa (by omega))).other W34 (nE r_4 xa (by omega)))
    exact ⟨N34, K37, r_4, rfl, ⟨f38, Fw34, _, _, _, _, f39, f40, Or.inr ⟨rfl, rfl, rfl, hWs8⟩, (own_alS P6 (own_alS P7 (own_alS P8 (own_alS P9 own_al0)))), Nat.le_of_ble_eq_true rfl⟩⟩
theorem own_ef_own_sc4 (m : MethodId) (xa : Addr) (xc : Addr) : entryFrame m #[.ref xa, .ref xc] 2 = mkF m 0 #[vR xa, vR xc] [] := by first | (simp [entryFrame, mkF, argsToLocals, Value.category]; done) | rfl
def Q_own_sc4 (Z : State) (xa : Addr) (xc : Addr) (xk : ClassId) (c0 : Int32) (c1 : Int32) (c2 : Int32) (c3 : Int32) (gz : Int32) (gfm : Value) (h0 : Heap) (n0 : Nat) (v : Option Value) (h : Heap) (L : List Loc) : Prop := Fr n0 L ∧ Keep h0 h [xa] ∧ ∃ (rb : Addr), v = none ∧ own_Str Z h xa rb ([c0, c1, c2, c3] : List Int32)
theorem own_sc4 (l : Launch) (Z : State) (a0 : Array Value) (hw : ∀ d ∈ tables_1, d.before a0 Z = true) (ws : List Jvm.Cond) (xa : Addr) (xc : Addr) (xk : ClassId) (c0 : Int32) (c1 : Int32) (c2 : Int32) (c3 : Int32) (h0 : Heap) (n0 : Nat) (O0 : Old Z n0 h0) (gz : Int32) (gfm : Value) (G : GG Z gz gfm) (P0 : Exa Z h0 xa "java/lang/String") (P1 : Fld Z h0 xa "java/lang/String" "value" "[B" .null) (P2 : Fld Z h0 xa "java/lang/String" "coder" "B" (.int 0)) (P3 : n0 ≤ xa) (P4 : Arv Z h0 xc xk .char (4 : Int32) [.int c0, .int c1, .int c2, .int c3] (.int 0)) (P5 : (@LT.lt Nat _ xc xa ∨ @LT.lt Nat _ xa xc)) (P6 : own_C16 c0) (P7 : own_C16 c1) (P8 : own_C16 c2) (P9 : own_C16 c3) : own_Met l Z (⟨"java/lang/String", "<init>", "([C)V"⟩ : MethodName) jdk_42_method_3_code 2 none ws ({ frames := 5, cells := 2, slots := 12, locals := 74 } : Room) #[.ref xa, .ref xc] h0 (Q_own_sc4 Z xa xc xk c0 c1 c2 c3 gz gfm h0 n0) := by
  refine own_mk (plainFor_of_name own_pn_java_lang_String) O0 ?_
  intro p e s m below meth c s₁ hx hby hml hZ hown hnm hlk hret X0 e0 N0 z0 z1
  have K0 : Keep h0 h0 [xa] := Keep.refl _ _
  refine own_cast (own_ef_own_sc4 m xa xc) ?_
  show own_Goes p e below (s₁.setTop (mkF m 0 #[vR xa, vR xc] [])) _
  obtain ⟨G0, G1, G2, G3, G4, G5, G6⟩ := id G
  have ltP0 : @LT.lt Nat _ xa h0.size := P0.lt
  have ltP4 : @LT.lt Nat _ xc h0.size := P4.lt
  refine q_aloadN X0 hx hby d3_0 rfl rfl ?_
  refine q_aloadN X0 hx hby d3_1 rfl rfl ?_
  refine q_iconst X0 hx hby d3_2 ?_
  refine q_aloadN X0 hx hby d3_3 rfl rfl ?_
  refine q_len X0 hx hby hZ e0 P4 d3_4 ?_
  refine q_aconstNull X0 hx hby d3_5 ?_
  refine k_N X0 hx hby hZ hown (wh hw 17 rfl) (wh hw 18 rfl) (W := 0) (own_si4 l Z a0 hw [] xa xc xk c0 c1 c2 c3 h0 n0 O0 gz gfm G P0 P1 P2 (show n0 ≤ xa by first | assumption | omega | decide) P4 (show (@LT.lt Nat _ xc xa ∨ @LT.lt Nat _ xa xc) by first | assumption | omega | decide) (show own_C16 c0 from P6) (show own_C16 c1 from P7) (show own_C16 c2 from P8) (show own_C16 c3 from P9)) (wh hw 20 rfl) (wh hw 13 rfl) e0  hml (argsL := [.ref xc, .int 0, .int 4, .null]) (rest := []) own_pd_7 d3_6 (fun _ T2 L2 X2 hQ2 => ?_)
  obtain ⟨h2, e2⟩ : ∃ z, T2.heap = z := ⟨_, rfl⟩
  rw [e2] at hQ2
  obtain ⟨Nc2, Kc2, rb_2, rfl, c2_0⟩ := hQ2
  have N2 := Fr.app N0 Nc2
  have O3 := O0.keep Kc2 (allS (show n0 ≤ xa by omega) all0)
  have sz4 : h0.size ≤ h2.size := Kc2.1
  have K5 := Keep.trans K0 Kc2 (allS (Or.inl (List.mem_of_getElem? (i := 0) rfl)) all0)
  have ltc2_0 : @LT.lt Nat _ xa h2.size := c2_0.1.lt
  have luc2_0 : @LT.lt Nat _ rb_2 h2.size := c2_0.lt2
  refine r_V X2 hx hby hret hlk d3_9 e2 ?_
  exact ⟨N2, K5, rb_2, rfl, c2_0⟩
theorem d4_8 : decode B4 8 = .ok (.aload_n 0, 1) := by decide +kernel
theorem d4_9 : decode B4 9 = .ok (.ldc 7, 2) := by decide +kernel
theorem d4_11 : decode B4 11 = .ok (.getfield 9, 3) := by decide +kernel
theorem d4_14 : decode B4 14 = .ok (.putfield 9, 3) := by decide +kernel
theorem d4_17 : decode B4 17 = .ok (.aload_n 0, 1) := by decide +kernel
theorem d4_18 : decode B4 18 = .ok (.ldc 7, 2) := by decide +kernel
theorem d4_20 : decode B4 20 = .ok (.getfield 15, 3) := by decide +kernel
theorem d4_23 : decode B4 23 = .ok (.putfield 15, 3) := by decide +kernel
theorem d4_26 : decode B4 26 = .ok (.return_, 1) := by decide +kernel
theorem own_ef_own_si0 (m : MethodId) (xa : Addr) (xc : Addr) : entryFrame m #[.ref xa, .ref xc, .int 0, .int 0, .null] 6 = mkF m 0 #[vR xa, vR xc, vI 0, vI 0, vN, uS] [] := by first | (simp [entryFrame, mkF, argsToLocals, Value.category]; done) | rfl
def Q_own_si0 (Z : State) (xa : Addr) (xc : Addr) (h0 : Heap) (n0 : Nat) (v : Option Value) (h : Heap) (L : List Loc) : Prop := Fr n0 L ∧ Keep h0 h [xa] ∧ ∃ (rb : Addr), v = none ∧ own_Str Z h xa rb ([] : List Int32)
theorem own_si0 (l : Launch) (Z : State) (a0 : Array Value) (hw : ∀ d ∈ tables_1, d.before a0 Z = true) (ws : List Jvm.Cond) (xa : Addr) (xc : Addr) (h0 : Heap) (n0 : Nat) (O0 : Old Z n0 h0) (P0 : Exa Z h0 xa "java/lang/String") (P1 : Fld Z h0 xa "java/lang/String" "value" "[B" .null) (P2 : Fld Z h0 xa "java/lang/String" "coder" "B" (.int 0)) (P3 : n0 ≤ xa) :
    MetFree l (⟨"java/lang/String", "<init>", "([CIILjava/lang/Void;)V"⟩ : MethodName) (head1 (Jvm.Cond.code (⟨"java/lang/String", "<init>", "([CIILjava/lang/Void;)V"⟩ : MethodName) jdk_42_method_149_code 6 none :: ws) ({ frames := 1, cells := 4, slots := 8, locals := 12 } : Room)) (fun as_ U_ => as_ = #[.ref xa, .ref xc, .int 0, .int 0, .null] ∧ Z.Warmed39 U_.vm ∧ U_.heap = h0 ∧ CHv Z consts_1 U_.vm h0) (fun _ _ _ _ _ => True) (fun _ U_ o_ U2_ => ∃ v_ L_, o_ = .returned v_ ∧ Q_own_si0 Z xa xc h0 n0 v_ U2_.heap L_ ∧ CHr Z consts_1 U_.vm U_.heap U2_.vm U2_.heap ∧ ReturnedEndW U_ o_ U2_ L_ ({ frames := 1, cells := 4, slots := 8, locals := 12 } : Room).cells ({ frames := 1, cells := 4, slots := 8, locals := 12 } : Room).slots) := by
  refine MetFree.of_bodySF (plainFor_of_name own_pn_java_lang_String) hisR ?_
  intro p e s m args below meth c s₁ Bd hml0 hP hK
  obtain ⟨rfl, hZ, hh, hC0⟩ := hP
  have hx := Bd.exec
  have hby := Bd.bytes
  have hml : c.maxLocals = 6 := hml0
  have hown : s.vm.findClass "java/lang/String" = some m.cls := findClass_of_methodNamed Bd.named
  have hnm := (name_of_methodNamed Bd.named Bd.method).1
  have hlk : meth.locks = false := Bd.notSynchronized
  have hret := Bd.returns
  have X0 : Stand p l e ({ frames := 1, cells := 4, slots := 8, locals := 12 } : Room) s m #[.ref xa, .ref xc, .int 0, .int 0, .null] below meth c s₁ [] 0 0 := Stand.of_body Bd
  have e0 : s₁.heap = h0 := by rw [← hh, Bd.state]; rfl
  have N0 := Fr.nil n0
  have z0 : Z.heap.size = n0 := O0.1
  have z1 : n0 ≤ h0.size := z0 ▸ O0.2.1
  have K0 : Keep h0 h0 [xa] := Keep.refl _ _
  have hS0 : s.Since s.vm 0 := (State.WarmedH.refl s).since 0
  have hk0 : 0 ≤ h0.size := Nat.zero_le _
  replace X0 : Stand p l e ({ frames := 1, cells := 4, slots := 8, locals := 12 } : Room) (s.setVm s.vm) m #[.ref xa, .ref xc, .int 0, .int 0, .null] below meth c s₁ [] 0 0 := X0
  have CR0 := CHr.refl hC0
  show own_Goes p e below (s₁.setTop (entryFrame m #[.ref xa, .ref xc, .int 0, .int 0, .null] 6)) (own_PostH Z consts_1 s (Q_own_si0 Z xa xc h0 n0) ({ frames := 1, cells := 4, slots := 8, locals := 12 } : Room).cells ({ frames := 1, cells := 4, slots := 8, locals := 12 } : Room).slots)
  refine own_cast (own_ef_own_si0 m xa xc) ?_
  show own_Goes p e below (s₁.setTop (mkF m 0 #[vR xa, vR xc, vI 0, vI 0, vN, uS] [])) _
  have ltP0 : @LT.lt Nat _ xa h0.size := P0.lt
  refine q_aloadN X0 hx hby d4_0 rfl rfl ?_
  obtain ⟨T1, X1, e1, st1⟩ := initO X0 hx hZ hown (wh hw 21 rfl) (wh hw 22 rfl) (wh hw 23 rfl) e0 (g := (mkF m 1 #[vR xa, vR xc, vI 0, vI 0, vN, uS] [.ref xa])) rfl (by rw [hml]; rfl) rfl (hb hby d4_1) (by decide) (W := 0) (by show 2 * 0 + _ ≤ _; exact Nat.le_of_eq rfl) (by decide)
  refine gg st1 ?_
  refine q_iloadN X1 hx hby d4_4 rfl ?_
  refine q_ifNo X1 hx hby d4_5 ((if0 _ _).trans (teq (show ((0 : Int32) = (0 : Int32)) from by decide)).2) ?_
  refine q_aloadN X1 hx hby d4_8 rfl rfl ?_
  have SF3 : Safe Z consts_1 _ h0 xa := own_safeNull hZ.alike P0 P1
  obtain ⟨a2, T2, h2, k2, bb2, kb2, X2, e2, E2, hS2, hk2, hZ2, hown2, Es2, Cs2, Vs2, As2, la2, lb2, cs2, -, ns2, st2⟩ := ldcCH (s := s) (vm0 := s.vm) X1 hx hZ hown (wh hw 24 rfl) (own_strs hw) e1 hS0 hk0 (own_EW hw) (List.mem_of_getElem? (i := 0) rfl) CR0.1 (vs := []) (z := (0 : Int32)) ⟨by decide, by first | rfl | decide⟩ (by decide) rfl (g := (mkF m 9 #[vR xa, vR xc, vI 0, vI 0, vN, uS] [.ref xa])) rfl (hb hby d4_9) (n := 0) (by decide) (by decide) (by decide) (by decide)
  refine gg st2 ?_
  have O4 := O0.ext E2
  have sz5 : h0.size ≤ h2.size := E2.1
  have CR6 := CHr.trans CR0 cs2
  have SF7 := CHr.safe cs2 (show @LT.lt Nat _ xa h0.size by omega) SF3
  have K8 := K0.ext E2
  have nn9 := own_neor (ns2 xa SF7)
  refine qG X2 hx hby hZ2 hown2 (wh hw 30 rfl) e2 Vs2 d4_11 (fun T10 X10 e10 => ?_)
  have f11 := (P1.ext E2)
  have f12 := (P0.ext E2)
  refine qP X10 hx hby hZ2 hown2 (host := "") (Or.inl (wh hw 30 rfl)) Via.refl e10 f11 f12 (Or.inr ⟨(wh hw 26 rfl), rfl, hnm⟩) (wh hw 12 rfl) (ty := (.array .byte)) d4_14 (fun T13 h13 X13 e13 W13 => ?_)
  have O14 := O4.wr W13 (show n0 ≤ xa by omega)
  have sz15 : h13.size = h2.size := Wr.size W13
  have cs16 := CHr.wr W13 SF7 CR6.1
  have CR17 := CHr.trans CR6 cs16
  have SF18 := CHr.safe cs16 (show @LT.lt Nat _ xa h2.size by omega) SF7
  have hk19 := Nat.le_trans hk2 (Nat.le_of_eq (Wr.size W13).symm)
  have K20 := K8.wr W13 (Or.inl (List.mem_of_getElem? (i := 0) rfl))
  have N13 := Fr.snoc X13 N0 (show n0 ≤ xa by omega)
  have Fw13 := f11.same W13
  refine q_aloadN X13 hx hby d4_17 rfl rfl ?_
  obtain ⟨a21, T21, h21, k21, bb21, kb21, X21, e21, E21, hS21, hk21, hZ21, hown21, Es21, Cs21, Vs21, As21, la21, lb21, cs21, -, ns21, st21⟩ := ldcCH (s := s) (vm0 := T2.vm) X13 hx hZ2 hown2 (wh hw 24 rfl) (own_strs hw) e13 hS2 hk19 (own_EW hw) (List.mem_of_getElem? (i := 0) rfl) CR17.1 (vs := []) (z := (0 : Int32)) ⟨by decide, by first | rfl | decide⟩ (by decide) rfl (g := (mkF m 18 #[vR xa, vR xc, vI 0, vI 0, vN, uS] [.ref xa])) rfl (hb hby d4_18) (n := 0) (by decide) (by decide) (by decide) (by decide)
  refine gg st21 ?_
  have O22 := O14.ext E21
  have sz23 : h13.size ≤ h21.size := E21.1
  have CR24 := CHr.trans CR17 cs21
  have SF25 := CHr.safe cs21 (show @LT.lt Nat _ xa h13.size by omega) SF18
  have K26 := K20.ext E21
  have nn27 := own_neor (ns21 xa SF25)
  refine qG X21 hx hby hZ21 hown21 (wh hw 31 rfl) e21 Cs21 d4_20 (fun T28 X28 e28 => ?_)
  have f29 := (((P2.ext E2).other W13 (Or.inr (slot_ne (Or.inr (wh hw 27 rfl)) (Or.inr (wh hw 26 rfl)) (by decide) (t := .byte) (t' := (.array .byte)) (by decide) (by decide)))).ext E21)
  have f30 := ((f12.wr W13).ext E21)
  obtain ⟨T31, h31, X31, e31, W31, st31⟩ := putFN X28 hx hZ21 hown21 (wh hw 31 rfl) Via.refl e28 f29 f30 (Or.inr ⟨(wh hw 27 rfl), rfl, hnm⟩) (wh hw 12 rfl) (ty := .byte) (v' := (.int 0)) (by decide) rfl rfl (g := (mkF m 23 #[vR xa, vR xc, vI 0, vI 0, vN, uS] [.int 0, .ref xa])) rfl rfl (hb hby d4_23)
  refine gg st31 ?_
  have O32 := O22.wr W31 (show n0 ≤ xa by omega)
  have sz33 : h31.size = h21.size := Wr.size W31
  have cs34 := CHr.wr W31 SF25 CR24.1
  have CR35 := CHr.trans CR24 cs34
  have SF36 := CHr.safe cs34 (show @LT.lt Nat _ xa h21.size by omega) SF25
  have hk37 := Nat.le_trans hk21 (Nat.le_of_eq (Wr.size W31).symm)
  have K38 := K26.wr W31 (Or.inl (List.mem_of_getElem? (i := 0) rfl))
  have N31 := Fr.snoc X31 N13 (show n0 ≤ xa by omega)
  have Fw31 := f29.same W31
  refine own_endH X31 hS21 (show _ ≤ T31.heap.size by rw [e31]; exact hk37) e31 hh CR35 hZ21 (own_EW hw) (v := none) (fun _ => rfl) hlk (by decide) (by decide) ?_ (fun fs hr => X31.returnOut hx hret (hb hby d4_26) hr)
  show Q_own_si0 Z xa xc h0 n0 _ T31.heap _
  rw [e31]
  have f39 := (f30.wr W31)
  have f40 := ((Fw13.ext E21).other W31 (Or.inr (slot_ne (Or.inr (wh hw 26 rfl)) (Or.inr (wh hw 27 rfl)) (by decide) (t := (.array .byte)) (t' := .byte) (by decide) (by decide))))
  have f41 := (((As2.other W13 (nE bb2 xa (by omega))).ext E21).other W31 (nE bb2 xa (by omega)))
  exact ⟨N31, K38, bb2, rfl, ⟨f39, f40, _, _, _, _, Fw31, f41, Or.inl ⟨rfl, rfl, rfl, own_al0⟩, own_al0, Nat.le_of_ble_eq_true rfl⟩⟩
abbrev own_m8 : MethodName := ⟨"java/lang/String", "<init>", "([CIILjava/lang/Void;)V"⟩
theorem own_ef_own_sc0 (m : MethodId) (xa : Addr) (xc : Addr) : entryFrame m #[.ref xa, .ref xc] 2 = mkF m 0 #[vR xa, vR xc] [] := by first | (simp [entryFrame, mkF, argsToLocals, Value.category]; done) | rfl
def Q_own_sc0 (Z : State) (xa : Addr) (xc : Addr) (xk : ClassId) (h0 : Heap) (n0 : Nat) (v : Option Value) (h : Heap) (L : List Loc) : Prop := Fr n0 L ∧ Keep h0 h [xa] ∧ ∃ (rb : Addr), v = none ∧ own_Str Z h xa rb ([] : List Int32)
theorem own_sc0 (l : Launch) (Z : State) (a0 : Array Value) (hw : ∀ d ∈ tables_1, d.before a0 Z = true) (ws : List Jvm.Cond) (xa : Addr) (xc : Addr) (xk : ClassId) (h0 : Heap) (n0 : Nat) (O0 : Old Z n0 h0) (P0 : Exa Z h0 xa "java/lang/String") (P1 : Fld Z h0 xa "java/lang/String" "value" "[B" .null) (P2 : Fld Z h0 xa "java/lang/String" "coder" "B" (.int 0)) (P3 : n0 ≤ xa) (P4 : Arv Z h0 xc xk .char (0 : Int32) [] (.int 0)) :
    MetFree l (⟨"java/lang/String", "<init>", "([C)V"⟩ : MethodName) (head1 (Jvm.Cond.code (⟨"java/lang/String", "<init>", "([C)V"⟩ : MethodName) jdk_42_method_3_code 2 none :: ws) ({ frames := 2, cells := 4, slots := 8, locals := 29 } : Room)) (fun as_ U_ => as_ = #[.ref xa, .ref xc] ∧ Z.Warmed39 U_.vm ∧ U_.heap = h0 ∧ CHv Z consts_1 U_.vm h0) (fun _ _ _ _ _ => True) (fun _ U_ o_ U2_ => ∃ v_ L_, o_ = .returned v_ ∧ Q_own_sc0 Z xa xc xk h0 n0 v_ U2_.heap L_ ∧ CHr Z consts_1 U_.vm U_.heap U2_.vm U2_.heap ∧ ReturnedEndW U_ o_ U2_ L_ ({ frames := 2, cells := 4, slots := 8, locals := 29 } : Room).cells ({ frames := 2, cells := 4, slots := 8, locals := 29 } : Room).slots) := by
  refine MetFree.of_bodySF (plainFor_of_name own_pn_java_lang_String) hisR ?_
  intro p e s m args below meth c s₁ Bd hml0 hP hK
  obtain ⟨rfl, hZ, hh, hC0⟩ := hP
  have hx := Bd.exec
  have hby := Bd.bytes
  have hml : c.maxLocals = 2 := hml0
  have hown : s.vm.findClass "java/lang/String" = some m.cls := findClass_of_methodNamed Bd.named
  have hnm := (name_of_methodNamed Bd.named Bd.method).1
  have hlk : meth.locks = false := Bd.notSynchronized
  have hret := Bd.returns
  have X0 : Stand p l e ({ frames := 2, cells := 4, slots := 8, locals := 29 } : Room) s m #[.ref xa, .ref xc] below meth c s₁ [] 0 0 := Stand.of_body Bd
  have e0 : s₁.heap = h0 := by rw [← hh, Bd.state]; rfl
  have N0 := Fr.nil n0
  have z0 : Z.heap.size = n0 := O0.1
  have z1 : n0 ≤ h0.size := z0 ▸ O0.2.1
  have K0 : Keep h0 h0 [xa] := Keep.refl _ _
  have hS0 : s.Since s.vm 0 := (State.WarmedH.refl s).since 0
  have hk0 : 0 ≤ h0.size := Nat.zero_le _
  replace X0 : Stand p l e ({ frames := 2, cells := 4, slots := 8, locals := 29 } : Room) (s.setVm s.vm) m #[.ref xa, .ref xc] below meth c s₁ [] 0 0 := X0
  have CR0 := CHr.refl hC0
  show own_Goes p e below (s₁.setTop (entryFrame m #[.ref xa, .ref xc] 2)) (own_PostH Z consts_1 s (Q_own_sc0 Z xa xc xk h0 n0) ({ frames := 2, cells := 4, slots := 8, locals := 29 } : Room).cells ({ frames := 2, cells := 4, slots := 8, locals := 29 } : Room).slots)
  refine own_cast (own_ef_own_sc0 m xa xc) ?_
  show own_Goes p e below (s₁.setTop (mkF m 0 #[vR xa, vR xc] [])) _
  have ltP0 : @LT.lt Nat _ xa h0.size := P0.lt
  have ltP4 : @LT.lt Nat _ xc h0.size := P4.lt
  refine q_aloadN X0 hx hby d3_0 rfl rfl ?_
  refine q_aloadN X0 hx hby d3_1 rfl rfl ?_
  refine q_iconst X0 hx hby d3_2 ?_
  refine q_aloadN X0 hx hby d3_3 rfl rfl ?_
  refine q_len X0 hx hby hZ e0 P4 d3_4 ?_
  refine q_aconstNull X0 hx hby d3_5 ?_
  obtain ⟨_, _, ⟨T2, L2, k2, n2⟩, -, X2, hS2, gr2, ⟨Lc2, hQ2, l2, y2, z2, cs2⟩, st2⟩ := X0.specialBackS hx (y := own_m8) rfl hown (mvT hZ (wh hw 17 rfl)) (mvT hZ (wh hw 18 rfl)) (mvT hZ (wh hw 20 rfl)) (by decide) (backOfSH (W := 0) (own_si0 l Z a0 hw [] xa xc h0 n0 O0 P0 P1 P2 (show n0 ≤ xa by first | assumption | omega | decide)) hZ (wh hw 20 rfl) (wh hw 13 rfl) (by decide) (by decide) (own_EW hw) CR0.1) (g := (mkF m 6 #[vR xa, vR xc] [.null, .int 0, .int 0, .ref xc, .ref xa])) rfl (by rw [hml]; rfl) (Steps.refl _) (a := xa) (argsL := [.ref xc, .int 0, .int 0, .null]) (rest := []) (lenOf own_pd_7 rfl) rfl (by show 2 * 0 + _ ≤ _; exact Nat.le_of_eq rfl) (hb hby d3_6) (fun _ _ => ⟨rfl, e0, (by decide : 0 + 4 ≤ _), (by decide : 0 + 8 ≤ _)⟩)
  dsimp only [Pt.U, Pt.locs, Pt.cells, Pt.slots] at X2 l2 y2 z2 st2 hQ2 hS2 gr2 cs2
  subst l2 y2 z2
  obtain ⟨h2, e2⟩ : ∃ z, T2.heap = z := ⟨_, rfl⟩
  rw [e2] at hQ2 hS2 gr2 cs2
  obtain ⟨Nc2, Kc2, rb_2, rfl, c2_0⟩ := hQ2
  obtain ⟨X2, hS2, hZ2, hown2⟩ := rebS (own := "java/lang/String") hS0 (show _ ≤ s₁.heap.size by rw [e0]; exact hk0) X2 hS2 gr2 hZ hown
  have hk2 : h2.size ≤ h2.size := Nat.le_refl _
  have N2 := Fr.app N0 Nc2
  have O3 := O0.keep Kc2 (allS (show n0 ≤ xa by omega) all0)
  have sz4 : h0.size ≤ h2.size := Kc2.1
  have CR5 := CHr.trans CR0 cs2
  have K6 := Keep.trans K0 Kc2 (allS (Or.inl (List.mem_of_getElem? (i := 0) rfl)) all0)
  have ltc2_0 : @LT.lt Nat _ xa h2.size := c2_0.1.lt
  have luc2_0 : @LT.lt Nat _ rb_2 h2.size := c2_0.lt2
  refine own_goS st2 ?_
  refine own_endH X2 hS2 (show _ ≤ T2.heap.size by rw [e2]; exact hk2) e2 hh CR5 hZ2 (own_EW hw) (v := none) (fun _ => rfl) hlk (by decide) (by decide) ?_ (fun fs hr => X2.returnOut hx hret (hb hby d3_9) hr)
  show Q_own_sc0 Z xa xc xk h0 n0 _ T2.heap _
  rw [e2]
  exact ⟨N2, K6, rb_2, rfl, c2_0⟩
theorem d13_0 : decode B13 0 = .ok (.getstatic 38, 3) := by decide +kernel
theorem d13_3 : decode B13 3 = .ok (.ifCond .eq 10, 3) := by decide +kernel
theorem d13_6 : decode B13 6 = .ok (.aload_n 0, 1) := by decide +kernel
theorem d13_7 : decode B13 7 = .ok (.getfield 15, 3) := by decide +kernel
theorem d13_10 : decode B13 10 = .ok (.goto 4, 3) := by decide +kernel
theorem d13_14 : decode B13 14 = .ok (.ireturn, 1) := by decide +kernel
theorem own_ef_own_coder0 (m : MethodId) (xa : Addr) : entryFrame m #[.ref xa] 1 = mkF m 0 #[vR xa] [] := by first | (simp [entryFrame, mkF, argsToLocals, Value.category]; done) | rfl
def Q_own_coder0 (Z : State) (xa : Addr) (gz : Int32) (gfm : Value) (h0 : Heap) (n0 : Nat) (v : Option Value) (h : Heap) (L : List Loc) : Prop := Fr n0 L ∧ h = h0 ∧ v = some (.int 0)
theorem own_coder0 (l : Launch) (Z : State) (a0 : Array Value) (hw : ∀ d ∈ tables_1, d.before a0 Z = true) (ws : List Jvm.Cond) (xa : Addr) (h0 : Heap) (n0 : Nat) (O0 : Old Z n0 h0) (gz : Int32) (gfm : Value) (G : GG Z gz gfm) (P0 : Fld Z h0 xa "java/lang/String" "coder" "B" (.int 0)) : own_Met l Z (⟨"java/lang/String", "coder", "()B"⟩ : MethodName) jdk_42_method_152_code 1 (some .byte) ws ({ frames := 0, cells := 0, slots := 0, locals := 0 } : Room) #[.ref xa] h0 (Q_own_coder0 Z xa gz gfm h0 n0) := by
  refine own_mk (plainFor_of_name own_pn_java_lang_String) O0 ?_
  intro p e s m below meth c s₁ hx hby hml hZ hown hnm hlk hret X0 e0 N0 z0 z1
  refine own_cast (own_ef_own_coder0 m xa) ?_
  show own_Goes p e below (s₁.setTop (mkF m 0 #[vR xa] [])) _
  obtain ⟨G0, G1, G2, G3, G4, G5, G6⟩ := id G
  have q1 := G0.ext O0.2
  refine qS X0 hx hby hZ hown (host := "") (Or.inl (wh hw 35 rfl)) Via.refl e0 q1 d13_0 (fun T2 X2 e2 => ?_)
  refine q_ifNo X2 hx hby d13_3 ((if0 _ _).trans (feq (show ¬ (gz = (0 : Int32)) from G1)).1) ?_
  refine q_aloadN X2 hx hby d13_6 rfl rfl ?_
  refine qG X2 hx hby hZ hown (wh hw 31 rfl) e2 P0 d13_7 (fun T3 X3 e3 => ?_)
  refine q_goto (pc := 10) X3 hx hby d13_10 (pc' := 14) (by decide) (by decide) ?_
  refine r_B X3 hx hby hret hlk d13_14 e3 ?_
  exact ⟨N0, rfl, rfl⟩
theorem own_ef_own_coder1 (m : MethodId) (xa : Addr) : entryFrame m #[.ref xa] 1 = mkF m 0 #[vR xa] [] := by first | (simp [entryFrame, mkF, argsToLocals, Value.category]; done) | rfl
def Q_own_coder1 (Z : State) (xa : Addr) (gz : Int32) (gfm : Value) (h0 : Heap) (n0 : Nat) (v : Option Value) (h : Heap) (L : List Loc) : Prop := Fr n0 L ∧ h = h0 ∧ v = some (.int 1)
theorem own_coder1 (l : Launch) (Z : State) (a0 : Array Value) (hw : ∀ d ∈ tables_1, d.before a0 Z = true) (ws : List Jvm.Cond) (xa : Addr) (h0 : Heap) (n0 : Nat) (O0 : Old Z n0 h0) (gz : Int32) (gfm : Value) (G : GG Z gz gfm) (P0 : Fld Z h0 xa "java/lang/String" "coder" "B" (.int 1)) : own_Met l Z (⟨"java/lang/String", "coder", "()B"⟩ : MethodName) jdk_42_method_152_code 1 (some .byte) ws ({ frames := 0, cells := 0, slots := 0, locals := 0 } : Room) #[.ref xa] h0 (Q_own_coder1 Z xa gz gfm h0 n0) := by
  refine own_mk (plainFor_of_name own_pn_java_lang_String) O0 ?_
  intro p e s m below meth c s₁ hx hby hml hZ hown hnm hlk hret X0 e0 N0 z0 z1
  refine own_cast (own_ef_own_coder1 m xa) ?_
  show own_Goes p e below (s₁.setTop (mkF m 0 #[vR xa] [])) _
  obtain ⟨G0, G1, G2, G3, G4, G5, G6⟩ := id G
  have q1 := G0.ext O0.2
  refine qS X0 hx hby hZ hown (host := "") (Or.inl (wh hw 35 rfl)) Via.refl e0 q1 d13_0 (fun T2 X2 e2 => ?_)
  refine q_ifNo X2 hx hby d13_3 ((if0 _ _).trans (feq (show ¬ (gz = (0 : Int32)) from G1)).1) ?_
  refine q_aloadN X2 hx hby d13_6 rfl rfl ?_
  refine qG X2 hx hby hZ hown (wh hw 31 rfl) e2 P0 d13_7 (fun T3 X3 e3 => ?_)
  refine q_goto (pc := 10) X3 hx hby d13_10 (pc' := 14) (by decide) (by decide) ?_
  refine r_B X3 hx hby hret hlk d13_14 e3 ?_
  exact ⟨N0, rfl, rfl⟩
theorem d12_0 : decode B12 0 = .ok (.aload_n 0, 1) := by decide +kernel
theorem d12_1 : decode B12 1 = .ok (.getfield 9, 3) := by decide +kernel
theorem d12_4 : decode B12 4 = .ok (.arraylength, 1) := by decide +kernel
theorem d12_5 : decode B12 5 = .ok (.aload_n 0, 1) := by decide +kernel
theorem d12_6 : decode B12 6 = .ok (.invokevirtual 335, 3) := by decide +kernel
theorem own_pd_9 : parseMethodDescriptor "()B" = some ⟨[], some .byte⟩ := by decide +kernel
theorem d12_9 : decode B12 9 = .ok (.ishr, 1) := by decide +kernel
theorem d12_10 : decode B12 10 = .ok (.ireturn, 1) := by decide +kernel
theorem own_ef_own_len0 (m : MethodId) (xa : Addr) : entryFrame m #[.ref xa] 1 = mkF m 0 #[vR xa] [] := by first | (simp [entryFrame, mkF, argsToLocals, Value.category]; done) | rfl
def Q_own_len0 (Z : State) (xa : Addr) (xt : Addr) (gz : Int32) (gfm : Value) (h0 : Heap) (n0 : Nat) (v : Option Value) (h : Heap) (L : List Loc) : Prop := Fr n0 L ∧ h = h0 ∧ v = some (.int 0)
theorem own_len0 (l : Launch) (Z : State) (a0 : Array Value) (hw : ∀ d ∈ tables_1, d.before a0 Z = true) (ws : List Jvm.Cond) (xa : Addr) (xt : Addr) (h0 : Heap) (n0 : Nat) (O0 : Old Z n0 h0) (gz : Int32) (gfm : Value) (G : GG Z gz gfm) (P0 : own_Str Z h0 xa xt ([] : List Int32)) : own_Met l Z (⟨"java/lang/String", "length", "()I"⟩ : MethodName) jdk_42_method_54_code 1 (some .int) ws ({ frames := 1, cells := 0, slots := 0, locals := 13 } : Room) #[.ref xa] h0 (Q_own_len0 Z xa xt gz gfm h0 n0) := by
  refine own_mk (plainFor_of_name own_pn_java_lang_String) O0 ?_
  intro p e s m below meth c s₁ hx hby hml hZ hown hnm hlk hret X0 e0 N0 z0 z1
  refine own_cast (own_ef_own_len0 m xa) ?_
  show own_Goes p e below (s₁.setTop (mkF m 0 #[vR xa] [])) _
  obtain ⟨G0, G1, G2, G3, G4, G5, G6⟩ := id G
  have ltP0 : @LT.lt Nat _ xa h0.size := P0.1.lt
  have luP0 : @LT.lt Nat _ xt h0.size := P0.lt2
  obtain ⟨Es1, Vs1, kbs1, cds1, Ns1, vss1, Cs1, As1, hCs1, hbs1, hls1⟩ := id P0
  rcases hCs1 with ⟨rfl, rfl, rfl, hLs1⟩ | ⟨rfl, rfl, rfl, hWs1⟩
  · have Bs1 : Arv Z h0 xt kbs1 .byte (0 : Int32) [] (.int 0) := As1
    have Ds1 : Fld Z h0 xa "java/lang/String" "coder" "B" (.int 0) := Cs1
    show own_Goes p e below (s₁.setTop (mkF m 0 #[vR xa] [])) _
    refine q_aloadN X0 hx hby d12_0 rfl rfl ?_
    refine qG X0 hx hby hZ hown (wh hw 30 rfl) e0 Vs1 d12_1 (fun T2 X2 e2 => ?_)
    refine q_len X2 hx hby hZ e2 Bs1 d12_4 ?_
    refine q_aloadN X2 hx hby d12_5 rfl rfl ?_
    refine k_V X2 hx hby hZ hown (wh hw 60 rfl) (wh hw 61 rfl) (wh hw 63 rfl) (wh hw 62 rfl) (W := 1) (own_coder0 l Z a0 hw [] xa h0 n0 O0 gz gfm G Ds1) (wh hw 64 rfl) (wh hw 13 rfl) e2 Es1  hml (argsL := []) (rest := [.int 0]) own_pd_9 d12_6 (fun _ T4 L4 X4 hQ4 => ?_)
    obtain ⟨Nc4, e4, rfl⟩ := hQ4
    have N4 := Fr.app N0 Nc4
    refine gg (fun t k => XS.ishr X4.here hx rfl (hb hby d12_9) rfl k) ?_
    show own_Goes p e below (T4.setTop (mkF m 10 #[vR xa] [(.int ((0 : Int32) >>> ((0 : Int32) &&& 31)))])) _
    rw [show ((0 : Int32) >>> ((0 : Int32) &&& 31)) = (0 : Int32) from by decide]
    refine r_I X4 hx hby hret hlk d12_10 e4 ?_
    exact ⟨N4, rfl, rfl⟩
  · have Bs1 : Arv Z h0 xt kbs1 .byte (0 : Int32) [] (.int 0) := As1
    have Ds1 : Fld Z h0 xa "java/lang/String" "coder" "B" (.int 1) := Cs1
    show own_Goes p e below (s₁.setTop (mkF m 0 #[vR xa] [])) _
    refine q_aloadN X0 hx hby d12_0 rfl rfl ?_
    refine qG X0 hx hby hZ hown (wh hw 30 rfl) e0 Vs1 d12_1 (fun T5 X5 e5 => ?_)
    refine q_len X5 hx hby hZ e5 Bs1 d12_4 ?_
    refine q_aloadN X5 hx hby d12_5 rfl rfl ?_
    refine k_V X5 hx hby hZ hown (wh hw 60 rfl) (wh hw 61 rfl) (wh hw 63 rfl) (wh hw 62 rfl) (W := 1) (own_coder1 l Z a0 hw [] xa h0 n0 O0 gz gfm G Ds1) (wh hw 64 rfl) (wh hw 13 rfl) e5 Es1  hml (argsL := []) (rest := [.int 0]) own_pd_9 d12_6 (fun _ T7 L7 X7 hQ7 => ?_)
    obtain ⟨Nc7, e7, rfl⟩ := hQ7
    have N7 := Fr.app N0 Nc7
    refine gg (fun t k => XS.ishr X7.here hx rfl (hb hby d12_9) rfl k) ?_
    show own_Goes p e below (T7.setTop (mkF m 10 #[vR xa] [(.int ((0 : Int32) >>> ((1 : Int32) &&& 31)))])) _
    rw [show ((0 : Int32) >>> ((1 : Int32) &&& 31)) = (0 : Int32) from by decide]
    refine r_I X7 hx hby hret hlk d12_10 e7 ?_
    exact ⟨N7, rfl, rfl⟩
theorem own_ef_own_len1 (m : MethodId) (xa : Addr) : entryFrame m #[.ref xa] 1 = mkF m 0 #[vR xa] [] := by first | (simp [entryFrame, mkF, argsToLocals, Value.category]; done) | rfl
def Q_own_len1 (Z : State) (xa : Addr) (xt : Addr) (c0 : Int32) (gz : Int32) (gfm : Value) (h0 : Heap) (n0 : Nat) (v : Option Value) (h : Heap) (L : List Loc) : Prop := Fr n0 L ∧ h = h0 ∧ v = some (.int 1)
theorem own_len1 (l : Launch) (Z : State) (a0 : Array Value) (hw : ∀ d ∈ tables_1, d.before a0 Z = true) (ws : List Jvm.Cond) (xa : Addr) (xt : Addr) (c0 : Int32) (h0 : Heap) (n0 : Nat) (O0 : Old Z n0 h0) (gz : Int32) (gfm : Value) (G : GG Z gz gfm) (P0 : own_Str Z h0 xa xt ([c0] : List Int32)) : own_Met l Z (⟨"java/lang/String", "length", "()I"⟩ : MethodName) jdk_42_method_54_code 1 (some .int) ws ({ frames := 1, cells := 0, slots := 0, locals := 13 } : Room) #[.ref xa] h0 (Q_own_len1 Z xa xt c0 gz gfm h0 n0) := by
  refine own_mk (plainFor_of_name own_pn_java_lang_String) O0 ?_
  intro p e s m below meth c s₁ hx hby hml hZ hown hnm hlk hret X0 e0 N0 z0 z1
  refine own_cast (own_ef_own_len1 m xa) ?_
  show own_Goes p e below (s₁.setTop (mkF m 0 #[vR xa] [])) _
  obtain ⟨G0, G1, G2, G3, G4, G5, G6⟩ := id G
  have ltP0 : @LT.lt Nat _ xa h0.size := P0.1.lt
  have luP0 : @LT.lt Nat _ xt h0.size := P0.lt2
  obtain ⟨Es1, Vs1, kbs1, cds1, Ns1, vss1, Cs1, As1, hCs1, hbs1, hls1⟩ := id P0
  rcases hCs1 with ⟨rfl, rfl, rfl, hLs1⟩ | ⟨rfl, rfl, rfl, hWs1⟩
  · have Bs1 : Arv Z h0 xt kbs1 .byte (1 : Int32) [(.int (c0.toInt8.toInt32))] (.int 0) := As1
    have Ds1 : Fld Z h0 xa "java/lang/String" "coder" "B" (.int 0) := Cs1
    show own_Goes p e below (s₁.setTop (mkF m 0 #[vR xa] [])) _
    refine q_aloadN X0 hx hby d12_0 rfl rfl ?_
    refine qG X0 hx hby hZ hown (wh hw 30 rfl) e0 Vs1 d12_1 (fun T2 X2 e2 => ?_)
    refine q_len X2 hx hby hZ e2 Bs1 d12_4 ?_
    refine q_aloadN X2 hx hby d12_5 rfl rfl ?_
    refine k_V X2 hx hby hZ hown (wh hw 60 rfl) (wh hw 61 rfl) (wh hw 63 rfl) (wh hw 62 rfl) (W := 1) (own_coder0 l Z a0 hw [] xa h0 n0 O0 gz gfm G Ds1) (wh hw 64 rfl) (wh hw 13 rfl) e2 Es1  hml (argsL := []) (rest := [.int 1]) own_pd_9 d12_6 (fun _ T4 L4 X4 hQ4 => ?_)
    obtain ⟨Nc4, e4, rfl⟩ := hQ4
    have N4 := Fr.app N0 Nc4
    refine gg (fun t k => XS.ishr X4.here hx rfl (hb hby d12_9) rfl k) ?_
    show own_Goes p e below (T4.setTop (mkF m 10 #[vR xa] [(.int ((1 : Int32) >>> ((0 : Int32) &&& 31)))])) _
    rw [show ((1 : Int32) >>> ((0 : Int32) &&& 31)) = (1 : Int32) from by decide]
    refine r_I X4 hx hby hret hlk d12_10 e4 ?_
    exact ⟨N4, rfl, rfl⟩
  · have Bs1 : Arv Z h0 xt kbs1 .byte (2 : Int32) [(.int (c0.toInt8.toInt32)), (.int ((c0 >>> ((8 : Int32) &&& 31)).toInt8.toInt32))] (.int 0) := As1
    have Ds1 : Fld Z h0 xa "java/lang/String" "coder" "B" (.int 1) := Cs1
    show own_Goes p e below (s₁.setTop (mkF m 0 #[vR xa] [])) _
    refine q_aloadN X0 hx hby d12_0 rfl rfl ?_
    refine qG X0 hx hby hZ hown (wh hw 30 rfl) e0 Vs1 d12_1 (fun T5 X5 e5 => ?_)
    refine q_len X5 hx hby hZ e5 Bs1 d12_4 ?_
    refine q_aloadN X5 hx hby d12_5 rfl rfl ?_
    refine k_V X5 hx hby hZ hown (wh hw 60 rfl) (wh hw 61 rfl) (wh hw 63 rfl) (wh hw 62 rfl) (W := 1) (own_coder1 l Z a0 hw [] xa h0 n0 O0 gz gfm G Ds1) (wh hw 64 rfl) (wh hw 13 rfl) e5 Es1  hml (argsL := []) (rest := [.int 2]) own_pd_9 d12_6 (fun _ T7 L7 X7 hQ7 => ?_)
    obtain ⟨Nc7, e7, rfl⟩ := hQ7
    have N7 := Fr.app N0 Nc7
    refine gg (fun t k => XS.ishr X7.here hx rfl (hb hby d12_9) rfl k) ?_
    show own_Goes p e below (T7.setTop (mkF m 10 #[vR xa] [(.int ((2 : Int32) >>> ((1 : Int32) &&& 31)))])) _
    rw [show ((2 : Int32) >>> ((1 : Int32) &&& 31)) = (1 : Int32) from by decide]
    refine r_I X7 hx hby hret hlk d12_10 e7 ?_
    exact ⟨N7, rfl, rfl⟩
theorem own_ef_own_len2 (m : MethodId) (xa : Addr) : entryFrame m #[.ref xa] 1 = mkF m 0 #[vR xa] [] := by first | (simp [entryFrame, mkF, argsToLocals, Value.category]; done) | rfl
def Q_own_len2 (Z : State) (xa : Addr) (xt : Addr) (c0 : Int32) (c1 : Int32) (gz : Int32) (gfm : Value) (h0 : Heap) (n0 : Nat) (v : Option Value) (h : Heap) (L : List Loc) : Prop := Fr n0 L ∧ h = h0 ∧ v = some (.int 2)
theorem own_len2 (l : Launch) (Z : State) (a0 : Array Value) (hw : ∀ d ∈ tables_1, d.before a0 Z = true) (ws : List Jvm.Cond) (xa : Addr) (xt : Addr) (c0 : Int32) (c1 : Int32) (h0 : Heap) (n0 : Nat) (O0 : Old Z n0 h0) (gz : Int32) (gfm : Value) (G : GG Z gz gfm) (P0 : own_Str Z h0 xa xt ([c0, c1] : List Int32)) : own_Met l Z (⟨"java/lang/String", "length", "()I"⟩ : MethodName) jdk_42_method_54_code 1 (some .int) ws ({ frames := 1, cells := 0, slots := 0, locals := 13 } : Room) #[.ref xa] h0 (Q_own_len2 Z xa xt c0 c1 gz gfm h0 n0) := by
  refine own_mk (plainFor_of_name own_pn_java_lang_String) O0 ?_
  intro p e s m below meth c s₁ hx hby hml hZ hown hnm hlk hret X0 e0 N0 z0 z1
  refine own_cast (own_ef_own_len2 m xa) ?_
  show own_Goes p e below (s₁.setTop (mkF m 0 #[vR xa] [])) _
  obtain ⟨G0, G1, G2, G3, G4, G5, G6⟩ := id G
  have ltP0 : @LT.lt Nat _ xa h0.size := P0.1.lt
  have luP0 : @LT.lt Nat _ xt h0.size := P0.lt2
  obtain ⟨Es1, Vs1, kbs1, cds1, Ns1, vss1, Cs1, As1, hCs1, hbs1, hls1⟩ := id P0
  rcases hCs1 with ⟨rfl, rfl, rfl, hLs1⟩ | ⟨rfl, rfl, rfl, hWs1⟩
  · have Bs1 : Arv Z h0 xt kbs1 .byte (2 : Int32) [(.int (c0.toInt8.toInt32)), (.int (c1.toInt8.toInt32))] (.int 0) := As1
    have Ds1 : Fld Z h0 xa "java/lang/String" "coder" "B" (.int 0) := Cs1
    show own_Goes p e below (s₁.setTop (mkF m 0 #[vR xa] [])) _
    refine q_aloadN X0 hx hby d12_0 rfl rfl ?_
    refine qG X0 hx hby hZ hown (wh hw 30 rfl) e0 Vs1 d12_1 (fun T2 X2 e2 => ?_)
    refine q_len X2 hx hby hZ e2 Bs1 d12_4 ?_
    refine q_aloadN X2 hx hby d12_5 rfl rfl ?_
    refine k_V X2 hx hby hZ hown (wh hw 60 rfl) (wh hw 61 rfl) (wh hw 63 rfl) (wh hw 62 rfl) (W := 1) (own_coder0 l Z a0 hw [] xa h0 n0 O0 gz gfm G Ds1) (wh hw 64 rfl) (wh hw 13 rfl) e2 Es1  hml (argsL := []) (rest := [.int 2]) own_pd_9 d12_6 (fun _ T4 L4 X4 hQ4 => ?_)
    obtain ⟨Nc4, e4, rfl⟩ := hQ4
    have N4 := Fr.app N0 Nc4
    refine gg (fun t k => XS.ishr X4.here hx rfl (hb hby d12_9) rfl k) ?_
    show own_Goes p e below (T4.setTop (mkF m 10 #[vR xa] [(.int ((2 : Int32) >>> ((0 : Int32) &&& 31)))])) _
    rw [show ((2 : Int32) >>> ((0 : Int32) &&& 31)) = (2 : Int32) from by decide]
    refine r_I X4 hx hby hret hlk d12_10 e4 ?_
    exact ⟨N4, rfl, rfl⟩
  · have Bs1 : Arv Z h0 xt kbs1 .byte (4 : Int32) [(.int (c0.toInt8.toInt32)), (.int ((c0 >>> ((8 : Int32) &&& 31)).toInt8.toInt32)), (.int (c1.toInt8.toInt32)), (.int ((c1 >>> ((8 : Int32) &&& 31)).toInt8.toInt32))] (.int 0) := As1
    have Ds1 : Fld Z h0 xa "java/lang/String" "coder" "B" (.int 1) := Cs1
    show own_Goes p e below (s₁.setTop (mkF m 0 #[vR xa] [])) _
    refine q_aloadN X0 hx hby d12_0 rfl rfl ?_
    refine qG X0 hx hby hZ hown (wh hw 30 rfl) e0 Vs1 d12_1 (fun T5 X5 e5 => ?_)
    refine q_len X5 hx hby hZ e5 Bs1 d12_4 ?_
    refine q_aloadN X5 hx hby d12_5 rfl rfl ?_
    refine k_V X5 hx hby hZ hown (wh hw 60 rfl) (wh hw 61 rfl) (wh hw 63 rfl) (wh hw 62 rfl) (W := 1) (own_coder1 l Z a0 hw [] xa h0 n0 O0 gz gfm G Ds1) (wh hw 64 rfl) (wh hw 13 rfl) e5 Es1  hml (argsL := []) (rest := [.int 4]) own_pd_9 d12_6 (fun _ T7 L7 X7 hQ7 => ?_)
    obtain ⟨Nc7, e7, rfl⟩ := hQ7
    have N7 := Fr.app N0 Nc7
    refine gg (fun t k => XS.ishr X7.here hx rfl (hb hby d12_9) rfl k) ?_
    show own_Goes p e below (T7.setTop (mkF m 10 #[vR xa] [(.int ((4 : Int32) >>> ((1 : Int32) &&& 31)))])) _
    rw [show ((4 : Int32) >>> ((1 : Int32) &&& 31)) = (2 : Int32) from by decide]
    refine r_I X7 hx hby hret hlk d12_10 e7 ?_
    exact ⟨N7, rfl, rfl⟩
theorem own_ef_own_len3 (m : MethodId) (xa : Addr) : entryFrame m #[.ref xa] 1 = mkF m 0 #[vR xa] [] := by first | (simp [entryFrame, mkF, argsToLocals, Value.category]; done) | rfl
def Q_own_len3 (Z : State) (xa : Addr) (xt : Addr) (c0 : Int32) (c1 : Int32) (c2 : Int32) (gz : Int32) (gfm : Value) (h0 : Heap) (n0 : Nat) (v : Option Value) (h : Heap) (L : List Loc) : Prop := Fr n0 L ∧ h = h0 ∧ v = some (.int 3)
theorem own_len3 (l : Launch) (Z : State) (a0 : Array Value) (hw : ∀ d ∈ tables_1, d.before a0 Z = true) (ws : List Jvm.Cond) (xa : Addr) (xt : Addr) (c0 : Int32) (c1 : Int32) (c2 : Int32) (h0 : Heap) (n0 : Nat) (O0 : Old Z n0 h0) (gz : Int32) (gfm : Value) (G : GG Z gz gfm) (P0 : own_Str Z h0 xa xt ([c0, c1, c2] : List Int32)) : own_Met l Z (⟨"java/lang/String", "length", "()I"⟩ : MethodName) jdk_42_method_54_code 1 (some .int) ws ({ frames := 1, cells := 0, slots := 0, locals := 13 } : Room) #[.ref xa] h0 (Q_own_len3 Z xa xt c0 c1 c2 gz gfm h0 n0) := by
  refine own_mk (plainFor_of_name own_pn_java_lang_String) O0 ?_
  intro p e s m below meth c s₁ hx hby hml hZ hown hnm hlk hret X0 e0 N0 z0 z1
  refine own_cast (own_ef_own_len3 m xa) ?_
  show own_Goes p e below (s₁.setTop (mkF m 0 #[vR xa] [])) _
  obtain ⟨G0, G1, G2, G3, G4, G5, G6⟩ := id G
  have ltP0 : @LT.lt Nat _ xa h0.size := P0.1.lt
  have luP0 : @LT.lt Nat _ xt h0.size := P0.lt2
  obtain ⟨Es1, Vs1, kbs1, cds1, Ns1, vss1, Cs1, As1, hCs1, hbs1, hls1⟩ := id P0
  rcases hCs1 with ⟨rfl, rfl, rfl, hLs1⟩ | ⟨rfl, rfl, rfl, hWs1⟩
  · have Bs1 : Arv Z h0 xt kbs1 .byte (3 : Int32) [(.int (c0.toInt8.toInt32)), (.int (c1.toInt8.toInt32)), (.int (c2.toInt8.toInt32))] (.int 0) := As1
    have Ds1 : Fld Z h0 xa "java/lang/String" "coder" "B" (.int 0) := Cs1
    show own_Goes p e below (s₁.setTop (mkF m 0 #[vR xa] [])) _
    refine q_aloadN X0 hx hby d12_0 rfl rfl ?_
    refine qG X0 hx hby hZ hown (wh hw 30 rfl) e0 Vs1 d12_1 (fun T2 X2 e2 => ?_)
    refine q_len X2 hx hby hZ e2 Bs1 d12_4 ?_
    refine q_aloadN X2 hx hby d12_5 rfl rfl ?_
    refine k_V X2 hx hby hZ hown (wh hw 60 rfl) (wh hw 61 rfl) (wh hw 63 rfl) (wh hw 62 rfl) (W := 1) (own_coder0 l Z a0 hw [] xa h0 n0 O0 gz gfm G Ds1) (wh hw 64 rfl) (wh hw 13 rfl) e2 Es1  hml (argsL := []) (rest := [.int 3]) own_pd_9 d12_6 (fun _ T4 L4 X4 hQ4 => ?_)
    obtain ⟨Nc4, e4, rfl⟩ := hQ4
    have N4 := Fr.app N0 Nc4
    refine gg (fun t k => XS.ishr X4.here hx rfl (hb hby d12_9) rfl k) ?_
    show own_Goes p e below (T4.setTop (mkF m 10 #[vR xa] [(.int ((3 : Int32) >>> ((0 : Int32) &&& 31)))])) _
    rw [show ((3 : Int32) >>> ((0 : Int32) &&& 31)) = (3 : Int32) from by decide]
    refine r_I X4 hx hby hret hlk d12_10 e4 ?_
    exact ⟨N4, rfl, rfl⟩
  · have Bs1 : Arv Z h0 xt kbs1 .byte (6 : Int32) [(.int (c0.toInt8.toInt32)), (.int ((c0 >>> ((8 : Int32) &&& 31)).toInt8.toInt32)), (.int (c1.toInt8.toInt32)), (.int ((c1 >>> ((8 : Int32) &&& 31)).toInt8.toInt32)), (.int (c2.toInt8.toInt32)), (.int ((c2 >>> ((8 : Int32) &&& 31)).toInt8.toInt32))] (.int 0) := As1
    have Ds1 : Fld Z h0 xa "java/lang/String" "coder" "B" (.int 1) := Cs1
    show own_Goes p e below (s₁.setTop (mkF m 0 #[vR xa] [])) _
    refine q_aloadN X0 hx hby d12_0 rfl rfl ?_
    refine qG X0 hx hby hZ hown (wh hw 30 rfl) e0 Vs1 d12_1 (fun T5 X5 e5 => ?_)
    refine q_len X5 hx hby hZ e5 Bs1 d12_4 ?_
    refine q_aloadN X5 hx hby d12_5 rfl rfl ?_
    refine k_V X5 hx hby hZ hown (wh hw 60 rfl) (wh hw 61 rfl) (wh hw 63 rfl) (wh hw 62 rfl) (W := 1) (own_coder1 l Z a0 hw [] xa h0 n0 O0 gz gfm G Ds1) (wh hw 64 rfl) (wh hw 13 rfl) e5 Es1  hml (argsL := []) (rest := [.int 6]) own_pd_9 d12_6 (fun _ T7 L7 X7 hQ7 => ?_)
    obtain ⟨Nc7, e7, rfl⟩ := hQ7
    have N7 := Fr.app N0 Nc7
    refine gg (fun t k => XS.ishr X7.here hx rfl (hb hby d12_9) rfl k) ?_
    show own_Goes p e below (T7.setTop (mkF m 10 #[vR xa] [(.int ((6 : Int32) >>> ((1 : Int32) &&& 31)))])) _
    rw [show ((6 : Int32) >>> ((1 : Int32) &&& 31)) = (3 : Int32) from by decide]
    refine r_I X7 hx hby hret hlk d12_10 e7 ?_
    exact ⟨N7, rfl, rfl⟩
theorem own_ef_own_len4 (m : MethodId) (xa : Addr) : entryFrame m #[.ref xa] 1 = mkF m 0 #[vR xa] [] := by first | (simp [entryFrame, mkF, argsToLocals, Value.category]; done) | rfl
def Q_own_len4 (Z : State) (xa : Addr) (xt : Addr) (c0 : Int32) (c1 : Int32) (c2 : Int32) (c3 : Int32) (gz : Int32) (gfm : Value) (h0 : Heap) (n0 : Nat) (v : Option Value) (h : Heap) (L : List Loc) : Prop := Fr n0 L ∧ h = h0 ∧ v = some (.int 4)
theorem own_len4 (l : Launch) (Z : State) (a0 : Array Value) (hw : ∀ d ∈ tables_1, d.before a0 Z = true) (ws : List Jvm.Cond) (xa : Addr) (xt : Addr) (c0 : Int32) (c1 : Int32) (c2 : Int32) (c3 : Int32) (h0 : Heap) (n0 : Nat) (O0 : Old Z n0 h0) (gz : Int32) (gfm : Value) (G : GG Z gz gfm) (P0 : own_Str Z h0 xa xt ([c0, c1, c2, c3] : List Int32)) : own_Met l Z (⟨"java/lang/String", "length", "()I"⟩ : MethodName) jdk_42_method_54_code 1 (some .int) ws ({ frames := 1, cells := 0, slots := 0, locals := 13 } : Room) #[.ref xa] h0 (Q_own_len4 Z xa xt c0 c1 c2 c3 gz gfm h0 n0) := by
  refine own_mk (plainFor_of_name own_pn_java_lang_String) O0 ?_
  intro p e s m below meth c s₁ hx hby hml hZ hown hnm hlk hret X0 e0 N0 z0 z1
  refine own_cast (own_ef_own_len4 m xa) ?_
  show own_Goes p e below (s₁.setTop (mkF m 0 #[vR xa] [])) _
  obtain ⟨G0, G1, G2, G3, G4, G5, G6⟩ := id G
  have ltP0 : @LT.lt Nat _ xa h0.size := P0.1.lt
  have luP0 : @LT.lt Nat _ xt h0.size := P0.lt2
  obtain ⟨Es1, Vs1, kbs1, cds1, Ns1, vss1, Cs1, As1, hCs1, hbs1, hls1⟩ := id P0
  rcases hCs1 with ⟨rfl, rfl, rfl, hLs1⟩ | ⟨rfl, rfl, rfl, hWs1⟩
  · have Bs1 : Arv Z h0 xt kbs1 .byte (4 : Int32) [(.int (c0.toInt8.toInt32)), (.int (c1.toInt8.toInt32)), (.int (c2.toInt8.toInt32)), (.int (c3.toInt8.toInt32))] (.int 0) := As1
    have Ds1 : Fld Z h0 xa "java/lang/String" "coder" "B" (.int 0) := Cs1
    show own_Goes p e below (s₁.setTop (mkF m 0 #[vR xa] [])) _
    refine q_aloadN X0 hx hby d12_0 rfl rfl ?_
    refine qG X0 hx hby hZ hown (wh hw 30 rfl) e0 Vs1 d12_1 (fun T2 X2 e2 => ?_)
    refine q_len X2 hx hby hZ e2 Bs1 d12_4 ?_
    refine q_aloadN X2 hx hby d12_5 rfl rfl ?_
    refine k_V X2 hx hby hZ hown (wh hw 60 rfl) (wh hw 61 rfl) (wh hw 63 rfl) (wh hw 62 rfl) (W := 1) (own_coder0 l Z a0 hw [] xa h0 n0 O0 gz gfm G Ds1) (wh hw 64 rfl) (wh hw 13 rfl) e2 Es1  hml (argsL := []) (rest := [.int 4]) own_pd_9 d12_6 (fun _ T4 L4 X4 hQ4 => ?_)
    obtain ⟨Nc4, e4, rfl⟩ := hQ4
    have N4 := Fr.app N0 Nc4
    refine gg (fun t k => XS.ishr X4.here hx rfl (hb hby d12_9) rfl k) ?_
    show own_Goes p e below (T4.setTop (mkF m 10 #[vR xa] [(.int ((4 : Int32) >>> ((0 : Int32) &&& 31)))])) _
    rw [show ((4 : Int32) >>> ((0 : Int32) &&& 31)) = (4 : Int32) from by decide]
    refine r_I X4 hx hby hret hlk d12_10 e4 ?_
    exact ⟨N4, rfl, rfl⟩
  · have Bs1 : Arv Z h0 xt kbs1 .byte (8 : Int32) [(.int (c0.toInt8.toInt32)), (.int ((c0 >>> ((8 : Int32) &&& 31)).toInt8.toInt32)), (.int (c1.toInt8.toInt32)), (.int ((c1 >>> ((8 : Int32) &&& 31)).toInt8.toInt32)), (.int (c2.toInt8.toInt32)), (.int ((c2 >>> ((8 : Int32) &&& 31)).toInt8.toInt32)), (.int (c3.toInt8.toInt32)), (.int ((c3 >>> ((8 : Int32) &&& 31)).toInt8.toInt32))] (.int 0) := As1
    have Ds1 : Fld Z h0 xa "java/lang/String" "coder" "B" (.int 1) := Cs1
    show own_Goes p e below (s₁.setTop (mkF m 0 #[vR xa] [])) _
    refine q_aloadN X0 hx hby d12_0 rfl rfl ?_
    refine qG X0 hx hby hZ hown (wh hw 30 rfl) e0 Vs1 d12_1 (fun T5 X5 e5 => ?_)
    refine q_len X5 hx hby hZ e5 Bs1 d12_4 ?_
    refine q_aloadN X5 hx hby d12_5 rfl rfl ?_
    refine k_V X5 hx hby hZ hown (wh hw 60 rfl) (wh hw 61 rfl) (wh hw 63 rfl) (wh hw 62 rfl) (W := 1) (own_coder1 l Z a0 hw [] xa h0 n0 O0 gz gfm G Ds1) (wh hw 64 rfl) (wh hw 13 rfl) e5 Es1  hml (argsL := []) (rest := [.int 8]) own_pd_9 d12_6 (fun _ T7 L7 X7 hQ7 => ?_)
    obtain ⟨Nc7, e7, rfl⟩ := hQ7
    have N7 := Fr.app N0 Nc7
    refine gg (fun t k => XS.ishr X7.here hx rfl (hb hby d12_9) rfl k) ?_
    show own_Goes p e below (T7.setTop (mkF m 10 #[vR xa] [(.int ((8 : Int32) >>> ((1 : Int32) &&& 31)))])) _
    rw [show ((8 : Int32) >>> ((1 : Int32) &&& 31)) = (4 : Int32) from by decide]
    refine r_I X7 hx hby hret hlk d12_10 e7 ?_
    exact ⟨N7, rfl, rfl⟩
theorem d20_0 : decode B20 0 = .ok (.getstatic 38, 3) := by decide +kernel
theorem d20_3 : decode B20 3 = .ok (.ifCond .eq 14, 3) := by decide +kernel
theorem d20_6 : decode B20 6 = .ok (.aload_n 0, 1) := by decide +kernel
theorem d20_7 : decode B20 7 = .ok (.getfield 15, 3) := by decide +kernel
theorem d20_10 : decode B20 10 = .ok (.ifCond .ne 7, 3) := by decide +kernel
theorem d20_13 : decode B20 13 = .ok (.iconst 1, 1) := by decide +kernel
theorem d20_14 : decode B20 14 = .ok (.goto 4, 3) := by decide +kernel
theorem d20_18 : decode B20 18 = .ok (.ireturn, 1) := by decide +kernel
theorem own_ef_own_isL0 (m : MethodId) (xa : Addr) : entryFrame m #[.ref xa] 1 = mkF m 0 #[vR xa] [] := by first | (simp [entryFrame, mkF, argsToLocals, Value.category]; done) | rfl
def Q_own_isL0 (Z : State) (xa : Addr) (gz : Int32) (gfm : Value) (h0 : Heap) (n0 : Nat) (v : Option Value) (h : Heap) (L : List Loc) : Prop := Fr n0 L ∧ h = h0 ∧ v = some (.int 1)
theorem own_isL0 (l : Launch) (Z : State) (a0 : Array Value) (hw : ∀ d ∈ tables_1, d.before a0 Z = true) (ws : List Jvm.Cond) (xa : Addr) (h0 : Heap) (n0 : Nat) (O0 : Old Z n0 h0) (gz : Int32) (gfm : Value) (G : GG Z gz gfm) (P0 : Fld Z h0 xa "java/lang/String" "coder" "B" (.int 0)) : own_Met l Z (⟨"java/lang/String", "isLatin1", "()Z"⟩ : MethodName) jdk_42_method_154_code 1 (some .boolean) ws ({ frames := 0, cells := 0, slots := 0, locals := 0 } : Room) #[.ref xa] h0 (Q_own_isL0 Z xa gz gfm h0 n0) := by
  refine own_mk (plainFor_of_name own_pn_java_lang_String) O0 ?_
  intro p e s m below meth c s₁ hx hby hml hZ hown hnm hlk hret X0 e0 N0 z0 z1
  refine own_cast (own_ef_own_isL0 m xa) ?_
  show own_Goes p e below (s₁.setTop (mkF m 0 #[vR xa] [])) _
  obtain ⟨G0, G1, G2, G3, G4, G5, G6⟩ := id G
  have q1 := G0.ext O0.2
  refine qS X0 hx hby hZ hown (host := "") (Or.inl (wh hw 35 rfl)) Via.refl e0 q1 d20_0 (fun T2 X2 e2 => ?_)
  refine q_ifNo X2 hx hby d20_3 ((if0 _ _).trans (feq (show ¬ (gz = (0 : Int32)) from G1)).1) ?_
  refine q_aloadN X2 hx hby d20_6 rfl rfl ?_
  refine qG X2 hx hby hZ hown (wh hw 31 rfl) e2 P0 d20_7 (fun T3 X3 e3 => ?_)
  refine q_ifNo X3 hx hby d20_10 ((if0 _ _).trans (teq (show ((0 : Int32) = (0 : Int32)) from by decide)).2) ?_
  refine q_iconst X3 hx hby d20_13 ?_
  refine q_goto (pc := 14) X3 hx hby d20_14 (pc' := 18) (by decide) (by decide) ?_
  refine r_Z X3 hx hby hret hlk d20_18 e3 ?_
  exact ⟨N0, rfl, rfl⟩
theorem d20_17 : decode B20 17 = .ok (.iconst 0, 1) := by decide +kernel
theorem own_ef_own_isL1 (m : MethodId) (xa : Addr) : entryFrame m #[.ref xa] 1 = mkF m 0 #[vR xa] [] := by first | (simp [entryFrame, mkF, argsToLocals, Value.category]; done) | rfl
def Q_own_isL1 (Z : State) (xa : Addr) (gz : Int32) (gfm : Value) (h0 : Heap) (n0 : Nat) (v : Option Value) (h : Heap) (L : List Loc) : Prop := Fr n0 L ∧ h = h0 ∧ v = some (.int 0)
theorem own_isL1 (l : Launch) (Z : State) (a0 : Array Value) (hw : ∀ d ∈ tables_1, d.before a0 Z = true) (ws : List Jvm.Cond) (xa : Addr) (h0 : Heap) (n0 : Nat) (O0 : Old Z n0 h0) (gz : Int32) (gfm : Value) (G : GG Z gz gfm) (P0 : Fld Z h0 xa "java/lang/String" "coder" "B" (.int 1)) : own_Met l Z (⟨"java/lang/String", "isLatin1", "()Z"⟩ : MethodName) jdk_42_method_154_code 1 (some .boolean) ws ({ frames := 0, cells := 0, slots := 0, locals := 0 } : Room) #[.ref xa] h0 (Q_own_isL1 Z xa gz gfm h0 n0) := by
  refine own_mk (plainFor_of_name own_pn_java_lang_String) O0 ?_
  intro p e s m below meth c s₁ hx hby hml hZ hown hnm hlk hret X0 e0 N0 z0 z1
  refine own_cast (own_ef_own_isL1 m xa) ?_
  show own_Goes p e below (s₁.setTop (mkF m 0 #[vR xa] [])) _
  obtain ⟨G0, G1, G2, G3, G4, G5, G6⟩ := id G
  have q1 := G0.ext O0.2
  refine qS X0 hx hby hZ hown (host := "") (Or.inl (wh hw 35 rfl)) Via.refl e0 q1 d20_0 (fun T2 X2 e2 => ?_)
  refine q_ifNo X2 hx hby d20_3 ((if0 _ _).trans (feq (show ¬ (gz = (0 : Int32)) from G1)).1) ?_
  refine q_aloadN X2 hx hby d20_6 rfl rfl ?_
  refine qG X2 hx hby hZ hown (wh hw 31 rfl) e2 P0 d20_7 (fun T3 X3 e3 => ?_)
  refine q_ifYes (pc := 10) X3 hx hby d20_10 (pc' := 17) ((if0 _ _).trans (feq (show ¬ ((1 : Int32) = (0 : Int32)) from by decide)).2) (by decide) (by decide) ?_
  refine q_iconst X3 hx hby d20_17 ?_
  refine r_Z X3 hx hby hret hlk d20_18 e3 ?_
  exact ⟨N0, rfl, rfl⟩
theorem d23_0 : decode B23 0 = .ok (.iload_n 0, 1) := by decide +kernel
theorem d23_1 : decode B23 1 = .ok (.ifCond .lt 8, 3) := by decide +kernel
theorem d23_4 : decode B23 4 = .ok (.iload_n 0, 1) := by decide +kernel
theorem d23_5 : decode B23 5 = .ok (.iload_n 1, 1) := by decide +kernel
theorem d23_6 : decode B23 6 = .ok (.if_icmp .lt 10, 3) := by decide +kernel
theorem d23_16 : decode B23 16 = .ok (.iload_n 0, 1) := by decide +kernel
theorem d23_17 : decode B23 17 = .ok (.ireturn, 1) := by decide +kernel
theorem own_pn_jdk_internal_util_Preconditions : plainName "jdk/internal/util/Preconditions" = true := by first | (simp [plainName, overriddenIn]; done) | decide +kernel
theorem own_ef_own_pci (m : MethodId) (xi : Int32) (xj : Int32) (xf : Value) (hr_xf : xf.isRef = true) : entryFrame m #[.int xi, .int xj, xf] 3 = mkF m 0 #[vI xi, vI xj, .val xf] [] := by rcases ref_cases hr_xf with rfl | ⟨_, rfl⟩ <;> first | (simp [entryFrame, mkF, argsToLocals, Value.category]; done) | rfl
def Q_own_pci (Z : State) (xi : Int32) (xj : Int32) (xf : Value) (h0 : Heap) (n0 : Nat) (v : Option Value) (h : Heap) (L : List Loc) : Prop := Fr n0 L ∧ h = h0 ∧ v = some (.int xi)
theorem own_pci (l : Launch) (Z : State) (a0 : Array Value) (hw : ∀ d ∈ tables_1, d.before a0 Z = true) (ws : List Jvm.Cond) (xi : Int32) (xj : Int32) (xf : Value) (h0 : Heap) (n0 : Nat) (O0 : Old Z n0 h0) (P0 : xf.isRef = true) (P1 : ¬ xi < (0 : Int32)) (P2 : xi < xj) : own_Met l Z (⟨"jdk/internal/util/Preconditions", "checkIndex", "(IILjava/util/function/BiFunction;)I"⟩ : MethodName) jdk_41_method_11_code 3 (some .int) ws ({ frames := 0, cells := 0, slots := 0, locals := 0 } : Room) #[.int xi, .int xj, xf] h0 (Q_own_pci Z xi xj xf h0 n0) := by
  refine own_mk (plainFor_of_name own_pn_jdk_internal_util_Preconditions) O0 ?_
  intro p e s m below meth c s₁ hx hby hml hZ hown hnm hlk hret X0 e0 N0 z0 z1
  refine own_cast (own_ef_own_pci m xi xj xf P0) ?_
  show own_Goes p e below (s₁.setTop (mkF m 0 #[vI xi, vI xj, .val xf] [])) _
  refine q_iloadN X0 hx hby d23_0 rfl ?_
  refine q_ifNo X0 hx hby d23_1 ((if0 _ _).trans (flt (show ¬ (xi < (0 : Int32)) from P1)).1) ?_
  refine q_iloadN X0 hx hby d23_4 rfl ?_
  refine q_iloadN X0 hx hby d23_5 rfl ?_
  refine q_icmpYes (pc := 6) X0 hx hby d23_6 (pc' := 16) (tlt (show (xi < xj) from P2)).1 (by decide) (by decide) ?_
  refine q_iloadN X0 hx hby d23_16 rfl ?_
  refine r_I X0 hx hby hret hlk d23_17 e0 ?_
  exact ⟨N0, rfl, rfl⟩
theorem d22_0 : decode B22 0 = .ok (.iload_n 0, 1) := by decide +kernel
theorem d22_1 : decode B22 1 = .ok (.iload_n 1, 1) := by decide +kernel
theorem d22_2 : decode B22 2 = .ok (.getstatic 1053, 3) := by decide +kernel
theorem d22_5 : decode B22 5 = .ok (.invokestatic 1059, 3) := by decide +kernel
theorem own_pd_10 : parseMethodDescriptor "(IILjava/util/function/BiFunction;)I" = some ⟨[.int, .int, (.object "java/util/function/BiFunction")], some .int⟩ := by decide +kernel
theorem d22_8 : decode B22 8 = .ok (.pop, 1) := by decide +kernel
theorem d22_9 : decode B22 9 = .ok (.return_, 1) := by decide +kernel
theorem own_ef_own_sci (m : MethodId) (xi : Int32) (xj : Int32) : entryFrame m #[.int xi, .int xj] 2 = mkF m 0 #[vI xi, vI xj] [] := by first | (simp [entryFrame, mkF, argsToLocals, Value.category]; done) | rfl
def Q_own_sci (Z : State) (xi : Int32) (xj : Int32) (gz : Int32) (gfm : Value) (h0 : Heap) (n0 : Nat) (v : Option Value) (h : Heap) (L : List Loc) : Prop := Fr n0 L ∧ h = h0 ∧ v = none
theorem own_sci (l : Launch) (Z : State) (a0 : Array Value) (hw : ∀ d ∈ tables_1, d.before a0 Z = true) (ws : List Jvm.Cond) (xi : Int32) (xj : Int32) (h0 : Heap) (n0 : Nat) (O0 : Old Z n0 h0) (gz : Int32) (gfm : Value) (G : GG Z gz gfm) (P0 : ¬ xi < (0 : Int32)) (P1 : xi < xj) : own_Met l Z (⟨"java/lang/String", "checkIndex", "(II)V"⟩ : MethodName) jdk_42_method_155_code 2 none ws ({ frames := 1, cells := 0, slots := 0, locals := 14 } : Room) #[.int xi, .int xj] h0 (Q_own_sci Z xi xj gz gfm h0 n0) := by
  refine own_mk (plainFor_of_name own_pn_java_lang_String) O0 ?_
  intro p e s m below meth c s₁ hx hby hml hZ hown hnm hlk hret X0 e0 N0 z0 z1
  refine own_cast (own_ef_own_sci m xi xj) ?_
  show own_Goes p e below (s₁.setTop (mkF m 0 #[vI xi, vI xj] [])) _
  obtain ⟨G0, G1, G2, G3, G4, G5, G6⟩ := id G
  refine q_iloadN X0 hx hby d22_0 rfl ?_
  refine q_iloadN X0 hx hby d22_1 rfl ?_
  have q1 := G5.ext O0.2
  refine qS X0 hx hby hZ hown (host := "") (Or.inl (wh hw 99 rfl)) Via.refl e0 q1 d22_2 (fun T2 X2 e2 => ?_)
  refine k_S X2 hx hby hZ hown (wh hw 101 rfl) (wh hw 102 rfl) (W := 0) (own_pci l Z a0 hw [] xi xj gfm h0 n0 O0 G6 (show ¬ xi < (0 : Int32) from (by first | assumption | decide)) (show xi < xj from (by first | assumption | decide))) (wh hw 103 rfl) (wh hw 100 rfl) e2  hml (argsL := [.int xi, .int xj, gfm]) (rest := []) own_pd_10 d22_5 (fun _ T3 L3 X3 hQ3 => ?_)
  obtain ⟨Nc3, e3, rfl⟩ := hQ3
  have N3 := Fr.app N0 Nc3
  refine gg (fun t k => XS.pop X3.here hx rfl (hb hby d22_8) rfl rfl k) ?_
  refine r_V X3 hx hby hret hlk d22_9 e3 ?_
  exact ⟨N3, rfl, rfl⟩
theorem d32_0 : decode B32 0 = .ok (.aload_n 0, 1) := by decide +kernel
theorem d32_1 : decode B32 1 = .ok (.arraylength, 1) := by decide +kernel
theorem d32_2 : decode B32 2 = .ok (.iconst 1, 1) := by decide +kernel
theorem d32_3 : decode B32 3 = .ok (.ishr, 1) := by decide +kernel
theorem d32_4 : decode B32 4 = .ok (.ireturn, 1) := by decide +kernel
theorem own_ef_own_ul1 (m : MethodId) (xb : Addr) : entryFrame m #[.ref xb] 1 = mkF m 0 #[vR xb] [] := by first | (simp [entryFrame, mkF, argsToLocals, Value.category]; done) | rfl
def Q_own_ul1 (Z : State) (xb : Addr) (xq : ClassId) (y0 : Int32) (y1 : Int32) (h0 : Heap) (n0 : Nat) (v : Option Value) (h : Heap) (L : List Loc) : Prop := Fr n0 L ∧ h = h0 ∧ v = some (.int 1)
theorem own_ul1 (l : Launch) (Z : State) (a0 : Array Value) (hw : ∀ d ∈ tables_1, d.before a0 Z = true) (ws : List Jvm.Cond) (xb : Addr) (xq : ClassId) (y0 : Int32) (y1 : Int32) (h0 : Heap) (n0 : Nat) (O0 : Old Z n0 h0) (P0 : Arv Z h0 xb xq .byte (2 : Int32) [.int y0, .int y1] (.int 0)) : own_Met l Z (⟨"java/lang/StringUTF16", "length", "([B)I"⟩ : MethodName) jdk_52_method_6_code 1 (some .int) ws ({ frames := 0, cells := 0, slots := 0, locals := 0 } : Room) #[.ref xb] h0 (Q_own_ul1 Z xb xq y0 y1 h0 n0) := by
  refine own_mk (plainFor_of_name own_pn_java_lang_StringUTF16) O0 ?_
  intro p e s m below meth c s₁ hx hby hml hZ hown hnm hlk hret X0 e0 N0 z0 z1
  refine own_cast (own_ef_own_ul1 m xb) ?_
  show own_Goes p e below (s₁.setTop (mkF m 0 #[vR xb] [])) _
  have ltP0 : @LT.lt Nat _ xb h0.size := P0.lt
  refine q_aloadN X0 hx hby d32_0 rfl rfl ?_
  refine q_len X0 hx hby hZ e0 P0 d32_1 ?_
  refine q_iconst X0 hx hby d32_2 ?_
  refine gg (fun t k => XS.ishr X0.here hx rfl (hb hby d32_3) rfl k) ?_
  show own_Goes p e below (s₁.setTop (mkF m 4 #[vR xb] [(.int ((2 : Int32) >>> ((1 : Int32) &&& 31)))])) _
  rw [show ((2 : Int32) >>> ((1 : Int32) &&& 31)) = (1 : Int32) from by decide]
  refine r_I X0 hx hby hret hlk d32_4 e0 ?_
  exact ⟨N0, rfl, rfl⟩
theorem d31_0 : decode B31 0 = .ok (.iload_n 0, 1) := by decide +kernel
theorem d31_1 : decode B31 1 = .ok (.aload_n 1, 1) := by decide +kernel
theorem d31_2 : decode B31 2 = .ok (.invokestatic 48, 3) := by decide +kernel
theorem own_pd_11 : parseMethodDescriptor "([B)I" = some ⟨[(.array .byte)], some .int⟩ := by decide +kernel
theorem d31_5 : decode B31 5 = .ok (.invokestatic 414, 3) := by decide +kernel
theorem own_pd_12 : parseMethodDescriptor "(II)V" = some ⟨[.int, .int], none⟩ := by decide +kernel
theorem d31_8 : decode B31 8 = .ok (.return_, 1) := by decide +kernel
theorem own_ef_own_uci1 (m : MethodId) (xi : Int32) (xb : Addr) : entryFrame m #[.int xi, .ref xb] 2 = mkF m 0 #[vI xi, vR xb] [] := by first | (simp [entryFrame, mkF, argsToLocals, Value.category]; done) | rfl
def Q_own_uci1 (Z : State) (xi : Int32) (xb : Addr) (xq : ClassId) (y0 : Int32) (y1 : Int32) (gz : Int32) (gfm : Value) (h0 : Heap) (n0 : Nat) (v : Option Value) (h : Heap) (L : List Loc) : Prop := Fr n0 L ∧ h = h0 ∧ v = none
theorem own_uci1 (l : Launch) (Z : State) (a0 : Array Value) (hw : ∀ d ∈ tables_1, d.before a0 Z = true) (ws : List Jvm.Cond) (xi : Int32) (xb : Addr) (xq : ClassId) (y0 : Int32) (y1 : Int32) (h0 : Heap) (n0 : Nat) (O0 : Old Z n0 h0) (gz : Int32) (gfm : Value) (G : GG Z gz gfm) (P0 : Arv Z h0 xb xq .byte (2 : Int32) [.int y0, .int y1] (.int 0)) (P1 : ¬ xi < (0 : Int32)) (P2 : xi < (1 : Int32)) : own_Met l Z (⟨"java/lang/StringUTF16", "checkIndex", "(I[B)V"⟩ : MethodName) jdk_52_method_91_code 2 none ws ({ frames := 2, cells := 0, slots := 0, locals := 27 } : Room) #[.int xi, .ref xb] h0 (Q_own_uci1 Z xi xb xq y0 y1 gz gfm h0 n0) := by
  refine own_mk (plainFor_of_name own_pn_java_lang_StringUTF16) O0 ?_
  intro p e s m below meth c s₁ hx hby hml hZ hown hnm hlk hret X0 e0 N0 z0 z1
  refine own_cast (own_ef_own_uci1 m xi xb) ?_
  show own_Goes p e below (s₁.setTop (mkF m 0 #[vI xi, vR xb] [])) _
  obtain ⟨G0, G1, G2, G3, G4, G5, G6⟩ := id G
  have ltP0 : @LT.lt Nat _ xb h0.size := P0.lt
  refine q_iloadN X0 hx hby d31_0 rfl ?_
  refine q_aloadN X0 hx hby d31_1 rfl rfl ?_
  refine k_S X0 hx hby hZ hown (wh hw 136 rfl) (wh hw 137 rfl) (W := 1) (own_ul1 l Z a0 hw [] xb xq y0 y1 h0 n0 O0 P0) (wh hw 138 rfl) (wh hw 75 rfl) e0  hml (argsL := [.ref xb]) (rest := [.int xi]) own_pd_11 d31_2 (fun _ T1 L1 X1 hQ1 => ?_)
  obtain ⟨Nc1, e1, rfl⟩ := hQ1
  have N1 := Fr.app N0 Nc1
  refine k_S X1 hx hby hZ hown (wh hw 139 rfl) (wh hw 97 rfl) (W := 0) (own_sci l Z a0 hw [] xi (1 : Int32) h0 n0 O0 gz gfm G (show ¬ xi < (0 : Int32) from (by first | assumption | decide)) (show xi < (1 : Int32) from (by first | assumption | decide))) (wh hw 98 rfl) (wh hw 13 rfl) e1  hml (argsL := [.int xi, .int 1]) (rest := []) own_pd_12 d31_5 (fun _ T2 L2 X2 hQ2 => ?_)
  obtain ⟨Nc2, e2, rfl⟩ := hQ2
  have N2 := Fr.app N1 Nc2
  refine r_V X2 hx hby hret hlk d31_8 e2 ?_
  exact ⟨N2, rfl, rfl⟩
theorem d30_0 : decode B30 0 = .ok (.iload_n 1, 1) := by decide +kernel
theorem d30_1 : decode B30 1 = .ok (.aload_n 0, 1) := by decide +kernel
theorem d30_2 : decode B30 2 = .ok (.invokestatic 67, 3) := by decide +kernel
theorem own_pd_13 : parseMethodDescriptor "(I[B)V" = some ⟨[.int, (.array .byte)], none⟩ := by decide +kernel
theorem d30_5 : decode B30 5 = .ok (.aload_n 0, 1) := by decide +kernel
theorem d30_6 : decode B30 6 = .ok (.iload_n 1, 1) := by decide +kernel
theorem d30_7 : decode B30 7 = .ok (.invokestatic 71, 3) := by decide +kernel
theorem d30_10 : decode B30 10 = .ok (.ireturn, 1) := by decide +kernel
theorem own_ef_own_uca1_0 (m : MethodId) (xb : Addr) : entryFrame m #[.ref xb, .int 0] 2 = mkF m 0 #[vR xb, vI 0] [] := by first | (simp [entryFrame, mkF, argsToLocals, Value.category]; done) | rfl
def Q_own_uca1_0 (Z : State) (xb : Addr) (xq : ClassId) (y0 : Int32) (y1 : Int32) (gz : Int32) (gfm : Value) (h0 : Heap) (n0 : Nat) (v : Option Value) (h : Heap) (L : List Loc) : Prop := Fr n0 L ∧ h = h0 ∧ v = some (.int ((((y0 &&& (255 : Int32)) <<< ((0 : Int32) &&& 31)) ||| ((y1 &&& (255 : Int32)) <<< ((8 : Int32) &&& 31))).toUInt32.toUInt16.toUInt32.toInt32))
theorem own_uca1_0 (l : Launch) (Z : State) (a0 : Array Value) (hw : ∀ d ∈ tables_1, d.before a0 Z = true) (ws : List Jvm.Cond) (xb : Addr) (xq : ClassId) (y0 : Int32) (y1 : Int32) (h0 : Heap) (n0 : Nat) (O0 : Old Z n0 h0) (gz : Int32) (gfm : Value) (G : GG Z gz gfm) (P0 : Arv Z h0 xb xq .byte (2 : Int32) [.int y0, .int y1] (.int 0)) : own_Met l Z (⟨"java/lang/StringUTF16", "charAt", "([BI)C"⟩ : MethodName) jdk_52_method_83_code 2 (some .char) ws ({ frames := 3, cells := 0, slots := 0, locals := 40 } : Room) #[.ref xb, .int 0] h0 (Q_own_uca1_0 Z xb xq y0 y1 gz gfm h0 n0) := by
  refine own_mk (plainFor_of_name own_pn_java_lang_StringUTF16) O0 ?_
  intro p e s m below meth c s₁ hx hby hml hZ hown hnm hlk hret X0 e0 N0 z0 z1
  refine own_cast (own_ef_own_uca1_0 m xb) ?_
  show own_Goes p e below (s₁.setTop (mkF m 0 #[vR xb, vI 0] [])) _
  obtain ⟨G0, G1, G2, G3, G4, G5, G6⟩ := id G
  have ltP0 : @LT.lt Nat _ xb h0.size := P0.lt
  refine q_iloadN X0 hx hby d30_0 rfl ?_
  refine q_aloadN X0 hx hby d30_1 rfl rfl ?_
  refine k_S X0 hx hby hZ hown (wh hw 133 rfl) (wh hw 134 rfl) (W := 0) (own_uci1 l Z a0 hw [] (0 : Int32) xb xq y0 y1 h0 n0 O0 gz gfm G P0 (show ¬ (0 : Int32) < (0 : Int32) from (by first | assumption | decide)) (show (0 : Int32) < (1 : Int32) from (by first | assumption | decide))) (wh hw 135 rfl) (wh hw 75 rfl) e0  hml (argsL := [.int 0, .ref xb]) (rest := []) own_pd_13 d30_2 (fun _ T1 L1 X1 hQ1 => ?_)
  obtain ⟨Nc1, e1, rfl⟩ := hQ1
  have N1 := Fr.app N0 Nc1
  refine q_aloadN X1 hx hby d30_5 rfl rfl ?_
  refine q_iloadN X1 hx hby d30_6 rfl ?_
  refine k_S X1 hx hby hZ hown (wh hw 127 rfl) (wh hw 128 rfl) (W := 0) (own_gc1_0 l Z a0 hw [] xb xq y0 y1 h0 n0 O0 gz gfm G P0) (wh hw 129 rfl) (wh hw 75 rfl) e1  hml (argsL := [.ref xb, .int 0]) (rest := []) own_pd_5 d30_7 (fun _ T2 L2 X2 hQ2 => ?_)
  obtain ⟨Nc2, e2, rfl⟩ := hQ2
  have N2 := Fr.app N1 Nc2
  refine r_C X2 hx hby hret hlk d30_10 e2 ?_ (hn := (own_narr16 (own_C16i _)))
  exact ⟨N2, rfl, rfl⟩
theorem d21_0 : decode B21 0 = .ok (.iload_n 1, 1) := by decide +kernel
theorem d21_1 : decode B21 1 = .ok (.aload_n 0, 1) := by decide +kernel
theorem d21_2 : decode B21 2 = .ok (.arraylength, 1) := by decide +kernel
theorem d21_3 : decode B21 3 = .ok (.invokestatic 9, 3) := by decide +kernel
theorem d21_6 : decode B21 6 = .ok (.aload_n 0, 1) := by decide +kernel
theorem d21_7 : decode B21 7 = .ok (.iload_n 1, 1) := by decide +kernel
theorem d21_8 : decode B21 8 = .ok (.baload, 1) := by decide +kernel
theorem d21_9 : decode B21 9 = .ok (.sipush 255, 3) := by decide +kernel
theorem d21_12 : decode B21 12 = .ok (.iand, 1) := by decide +kernel
theorem d21_13 : decode B21 13 = .ok (.i2c, 1) := by decide +kernel
theorem d21_14 : decode B21 14 = .ok (.ireturn, 1) := by decide +kernel
theorem own_pn_java_lang_StringLatin1 : plainName "java/lang/StringLatin1" = true := by first | (simp [plainName, overriddenIn]; done) | decide +kernel
theorem own_ef_own_lca1_0 (m : MethodId) (xb : Addr) : entryFrame m #[.ref xb, .int 0] 2 = mkF m 0 #[vR xb, vI 0] [] := by first | (simp [entryFrame, mkF, argsToLocals, Value.category]; done) | rfl
def Q_own_lca1_0 (Z : State) (xb : Addr) (xq : ClassId) (y0 : Int32) (gz : Int32) (gfm : Value) (h0 : Heap) (n0 : Nat) (v : Option Value) (h : Heap) (L : List Loc) : Prop := Fr n0 L ∧ h = h0 ∧ v = some (.int (y0 &&& (255 : Int32)))
theorem own_lca1_0 (l : Launch) (Z : State) (a0 : Array Value) (hw : ∀ d ∈ tables_1, d.before a0 Z = true) (ws : List Jvm.Cond) (xb : Addr) (xq : ClassId) (y0 : Int32) (h0 : Heap) (n0 : Nat) (O0 : Old Z n0 h0) (gz : Int32) (gfm : Value) (G : GG Z gz gfm) (P0 : Arv Z h0 xb xq .byte (1 : Int32) [.int y0] (.int 0)) : own_Met l Z (⟨"java/lang/StringLatin1", "charAt", "([BI)C"⟩ : MethodName) jdk_43_method_2_code 2 (some .char) ws ({ frames := 2, cells := 0, slots := 0, locals := 27 } : Room) #[.ref xb, .int 0] h0 (Q_own_lca1_0 Z xb xq y0 gz gfm h0 n0) := by
  refine own_mk (plainFor_of_name own_pn_java_lang_StringLatin1) O0 ?_
  intro p e s m below meth c s₁ hx hby hml hZ hown hnm hlk hret X0 e0 N0 z0 z1
  refine own_cast (own_ef_own_lca1_0 m xb) ?_
  show own_Goes p e below (s₁.setTop (mkF m 0 #[vR xb, vI 0] [])) _
  obtain ⟨G0, G1, G2, G3, G4, G5, G6⟩ := id G
  have ltP0 : @LT.lt Nat _ xb h0.size := P0.lt
  refine q_iloadN X0 hx hby d21_0 rfl ?_
  refine q_aloadN X0 hx hby d21_1 rfl rfl ?_
  refine q_len X0 hx hby hZ e0 P0 d21_2 ?_
  refine k_S X0 hx hby hZ hown (wh hw 96 rfl) (wh hw 97 rfl) (W := 0) (own_sci l Z a0 hw [] (0 : Int32) (1 : Int32) h0 n0 O0 gz gfm G (show ¬ (0 : Int32) < (0 : Int32) from (by first | assumption | decide)) (show (0 : Int32) < (1 : Int32) from (by first | assumption | decide))) (wh hw 98 rfl) (wh hw 13 rfl) e0  hml (argsL := [.int 0, .int 1]) (rest := []) own_pd_12 d21_3 (fun _ T2 L2 X2 hQ2 => ?_)
  obtain ⟨Nc2, e2, rfl⟩ := hQ2
  have N2 := Fr.app N0 Nc2
  refine q_aloadN X2 hx hby d21_6 rfl rfl ?_
  refine q_iloadN X2 hx hby d21_7 rfl ?_
  refine q_baloadBytes X2 hx hby hZ e2 P0 d21_8 (.int y0) ?_
  refine q_sipush X2 hx hby d21_9 ?_
  refine q_iand X2 hx hby d21_12 ?_
  refine gg (fun t k => XS.i2c X2.here hx rfl (hb hby d21_13) rfl k) ?_
  show own_Goes p e below (T2.setTop (mkF m 14 #[vR xb, vI 0] [(.int ((y0 &&& (255 : Int32)).toUInt32.toUInt16.toUInt32.toInt32))])) _
  rw [i2c_mask]
  show own_Goes p e below (T2.setTop (mkF m 14 #[vR xb, vI 0] [(.int (y0 &&& (255 : Int32)))])) _
  refine r_C X2 hx hby hret hlk d21_14 e2 ?_ (hn := (congrArg Value.int (i2c_mask _)))
  exact ⟨N2, rfl, rfl⟩
theorem d19_0 : decode B19 0 = .ok (.aload_n 0, 1) := by decide +kernel
theorem d19_1 : decode B19 1 = .ok (.invokevirtual 492, 3) := by decide +kernel
theorem own_pd_14 : parseMethodDescriptor "()Z" = some ⟨[], some .boolean⟩ := by decide +kernel
theorem d19_4 : decode B19 4 = .ok (.ifCond .eq 12, 3) := by decide +kernel
theorem d19_7 : decode B19 7 = .ok (.aload_n 0, 1) := by decide +kernel
theorem d19_8 : decode B19 8 = .ok (.getfield 9, 3) := by decide +kernel
theorem d19_11 : decode B19 11 = .ok (.iload_n 1, 1) := by decide +kernel
theorem d19_12 : decode B19 12 = .ok (.invokestatic 495, 3) := by decide +kernel
theorem d19_15 : decode B19 15 = .ok (.ireturn, 1) := by decide +kernel
theorem d19_16 : decode B19 16 = .ok (.aload_n 0, 1) := by decide +kernel
theorem d19_17 : decode B19 17 = .ok (.getfield 9, 3) := by decide +kernel
theorem d19_20 : decode B19 20 = .ok (.iload_n 1, 1) := by decide +kernel
theorem d19_21 : decode B19 21 = .ok (.invokestatic 498, 3) := by decide +kernel
theorem d19_24 : decode B19 24 = .ok (.ireturn, 1) := by decide +kernel
theorem own_ef_own_ca1_0 (m : MethodId) (xa : Addr) : entryFrame m #[.ref xa, .int 0] 2 = mkF m 0 #[vR xa, vI 0] [] := by first | (simp [entryFrame, mkF, argsToLocals, Value.category]; done) | rfl
def Q_own_ca1_0 (Z : State) (xa : Addr) (xt : Addr) (c0 : Int32) (gz : Int32) (gfm : Value) (h0 : Heap) (n0 : Nat) (v : Option Value) (h : Heap) (L : List Loc) : Prop := Fr n0 L ∧ h = h0 ∧ v = some (.int c0)
theorem own_ca1_0 (l : Launch) (Z : State) (a0 : Array Value) (hw : ∀ d ∈ tables_1, d.before a0 Z = true) (ws : List Jvm.Cond) (xa : Addr) (xt : Addr) (c0 : Int32) (h0 : Heap) (n0 : Nat) (O0 : Old Z n0 h0) (gz : Int32) (gfm : Value) (G : GG Z gz gfm) (P0 : own_Str Z h0 xa xt ([c0] : List Int32)) : own_Met l Z (⟨"java/lang/String", "charAt", "(I)C"⟩ : MethodName) jdk_42_method_56_code 2 (some .char) ws ({ frames := 4, cells := 0, slots := 0, locals := 53 } : Room) #[.ref xa, .int 0] h0 (Q_own_ca1_0 Z xa xt c0 gz gfm h0 n0) := by
  refine own_mk (plainFor_of_name own_pn_java_lang_String) O0 ?_
  intro p e s m below meth c s₁ hx hby hml hZ hown hnm hlk hret X0 e0 N0 z0 z1
  refine own_cast (own_ef_own_ca1_0 m xa) ?_
  show own_Goes p e below (s₁.setTop (mkF m 0 #[vR xa, vI 0] [])) _
  obtain ⟨G0, G1, G2, G3, G4, G5, G6⟩ := id G
  have ltP0 : @LT.lt Nat _ xa h0.size := P0.1.lt
  have luP0 : @LT.lt Nat _ xt h0.size := P0.lt2
  obtain ⟨Es1, Vs1, kbs1, cds1, Ns1, vss1, Cs1, As1, hCs1, hbs1, hls1⟩ := id P0
  rcases hCs1 with ⟨rfl, rfl, rfl, hLs1⟩ | ⟨rfl, rfl, rfl, hWs1⟩
  · have Bs1 : Arv Z h0 xt kbs1 .byte (1 : Int32) [(.int (c0.toInt8.toInt32))] (.int 0) := As1
    have Ds1 : Fld Z h0 xa "java/lang/String" "coder" "B" (.int 0) := Cs1
    show own_Goes p e below (s₁.setTop (mkF m 0 #[vR xa, vI 0] [])) _
    refine q_aloadN X0 hx hby d19_0 rfl rfl ?_
    refine k_V X0 hx hby hZ hown (wh hw 88 rfl) (wh hw 89 rfl) (wh hw 91 rfl) (wh hw 90 rfl) (W := 0) (own_isL0 l Z a0 hw [] xa h0 n0 O0 gz gfm G Ds1) (wh hw 92 rfl) (wh hw 13 rfl) e0 Es1  hml (argsL := []) (rest := []) own_pd_14 d19_1 (fun _ T2 L2 X2 hQ2 => ?_)
    obtain ⟨Nc2, e2, rfl⟩ := hQ2
    have N2 := Fr.app N0 Nc2
    refine q_ifNo X2 hx hby d19_4 ((if0 _ _).trans (feq (show ¬ ((1 : Int32) = (0 : Int32)) from by decide)).1) ?_
    refine q_aloadN X2 hx hby d19_7 rfl rfl ?_
    refine qG X2 hx hby hZ hown (wh hw 30 rfl) e2 Vs1 d19_8 (fun T3 X3 e3 => ?_)
    refine q_iloadN X3 hx hby d19_11 rfl ?_
    refine k_S X3 hx hby hZ hown (wh hw 93 rfl) (wh hw 94 rfl) (W := 0) (own_lca1_0 l Z a0 hw [] xt kbs1 (c0.toInt8.toInt32) h0 n0 O0 gz gfm G Bs1) (wh hw 95 rfl) (wh hw 38 rfl) e3  hml (argsL := [.ref xt, .int 0]) (rest := []) own_pd_5 d19_12 (fun _ T4 L4 X4 hQ4 => ?_)
    obtain ⟨Nc4, e4, rfl⟩ := hQ4
    have N4 := Fr.app N2 Nc4
    show own_Goes p e below (T4.setTop (mkF m 15 #[vR xa, vI 0] [(.int ((c0.toInt8.toInt32) &&& (255 : Int32)))])) _
    rw [show ((c0.toInt8.toInt32) &&& (255 : Int32)) = c0 from own_b8 (hbs1 c0 (by simp)) (hLs1 c0 (by simp))]
    refine r_C X4 hx hby hret hlk d19_15 e4 ?_ (hn := (own_narr16 (hbs1 c0 (by simp))))
    exact ⟨N4, rfl, rfl⟩
  · have Bs1 : Arv Z h0 xt kbs1 .byte (2 : Int32) [(.int (c0.toInt8.toInt32)), (.int ((c0 >>> ((8 : Int32) &&& 31)).toInt8.toInt32))] (.int 0) := As1
    have Ds1 : Fld Z h0 xa "java/lang/String" "coder" "B" (.int 1) := Cs1
    show own_Goes p e below (s₁.setTop (mkF m 0 #[vR xa, vI 0] [])) _
    refine q_aloadN X0 hx hby d19_0 rfl rfl ?_
    refine k_V X0 hx hby hZ hown (wh hw 88 rfl) (wh hw 89 rfl) (wh hw 91 rfl) (wh hw 90 rfl) (W := 0) (own_isL1 l Z a0 hw [] xa h0 n0 O0 gz gfm G Ds1) (wh hw 92 rfl) (wh hw 13 rfl) e0 Es1  hml (argsL := []) (rest := []) own_pd_14 d19_1 (fun _ T5 L5 X5 hQ5 => ?_)
    obtain ⟨Nc5, e5, rfl⟩ := hQ5
    have N5 := Fr.app N0 Nc5
    refine q_ifYes (pc := 4) X5 hx hby d19_4 (pc' := 16) ((if0 _ _).trans (teq (show ((0 : Int32) = (0 : Int32)) from by decide)).1) (by decide) (by decide) ?_
    refine q_aloadN X5 hx hby d19_16 rfl rfl ?_
    refine qG X5 hx hby hZ hown (wh hw 30 rfl) e5 Vs1 d19_17 (fun T6 X6 e6 => ?_)
    refine q_iloadN X6 hx hby d19_20 rfl ?_
    refine k_S X6 hx hby hZ hown (wh hw 130 rfl) (wh hw 131 rfl) (W := 0) (own_uca1_0 l Z a0 hw [] xt kbs1 (c0.toInt8.toInt32) ((c0 >>> ((8 : Int32) &&& 31)).toInt8.toInt32) h0 n0 O0 gz gfm G Bs1) (wh hw 132 rfl) (wh hw 75 rfl) e6  hml (argsL := [.ref xt, .int 0]) (rest := []) own_pd_5 d19_21 (fun _ T7 L7 X7 hQ7 => ?_)
    obtain ⟨Nc7, e7, rfl⟩ := hQ7
    have N7 := Fr.app N5 Nc7
    show own_Goes p e below (T7.setTop (mkF m 24 #[vR xa, vI 0] [(.int (((((c0.toInt8.toInt32) &&& (255 : Int32)) <<< ((0 : Int32) &&& 31)) ||| ((((c0 >>> ((8 : Int32) &&& 31)).toInt8.toInt32) &&& (255 : Int32)) <<< ((8 : Int32) &&& 31))).toUInt32.toUInt16.toUInt32.toInt32))])) _
    rw [show (((((c0.toInt8.toInt32) &&& (255 : Int32)) <<< ((0 : Int32) &&& 31)) ||| ((((c0 >>> ((8 : Int32) &&& 31)).toInt8.toInt32) &&& (255 : Int32)) <<< ((8 : Int32) &&& 31))).toUInt32.toUInt16.toUInt32.toInt32) = c0 from own_g16 (hbs1 c0 (by simp))]
    refine r_C X7 hx hby hret hlk d19_24 e7 ?_ (hn := (own_narr16 (hbs1 c0 (by simp))))
    exact ⟨N7, rfl, rfl⟩
theorem own_ef_own_ul2 (m : MethodId) (xb : Addr) : entryFrame m #[.ref xb] 1 = mkF m 0 #[vR xb] [] := by first | (simp [entryFrame, mkF, argsToLocals, Value.category]; done) | rfl
def Q_own_ul2 (Z : State) (xb : Addr) (xq : ClassId) (y0 : Int32) (y1 : Int32) (y2 : Int32) (y3 : Int32) (h0 : Heap) (n0 : Nat) (v : Option Value) (h : Heap) (L : List Loc) : Prop := Fr n0 L ∧ h = h0 ∧ v = some (.int 2)
theorem own_ul2 (l : Launch) (Z : State) (a0 : Array Value) (hw : ∀ d ∈ tables_1, d.before a0 Z = true) (ws : List Jvm.Cond) (xb : Addr) (xq : ClassId) (y0 : Int32) (y1 : Int32) (y2 : Int32) (y3 : Int32) (h0 : Heap) (n0 : Nat) (O0 : Old Z n0 h0) (P0 : Arv Z h0 xb xq .byte (4 : Int32) [.int y0, .int y1, .int y2, .int y3] (.int 0)) : own_Met l Z (⟨"java/lang/StringUTF16", "length", "([B)I"⟩ : MethodName) jdk_52_method_6_code 1 (some .int) ws ({ frames := 0, cells := 0, slots := 0, locals := 0 } : Room) #[.ref xb] h0 (Q_own_ul2 Z xb xq y0 y1 y2 y3 h0 n0) := by
  refine own_mk (plainFor_of_name own_pn_java_lang_StringUTF16) O0 ?_
  intro p e s m below meth c s₁ hx hby hml hZ hown hnm hlk hret X0 e0 N0 z0 z1
  refine own_cast (own_ef_own_ul2 m xb) ?_
  show own_Goes p e below (s₁.setTop (mkF m 0 #[vR xb] [])) _
  have ltP0 : @LT.lt Nat _ xb h0.size := P0.lt
  refine q_aloadN X0 hx hby d32_0 rfl rfl ?_
  refine q_len X0 hx hby hZ e0 P0 d32_1 ?_
  refine q_iconst X0 hx hby d32_2 ?_
  refine gg (fun t k => XS.ishr X0.here hx rfl (hb hby d32_3) rfl k) ?_
  show own_Goes p e below (s₁.setTop (mkF m 4 #[vR xb] [(.int ((4 : Int32) >>> ((1 : Int32) &&& 31)))])) _
  rw [show ((4 : Int32) >>> ((1 : Int32) &&& 31)) = (2 : Int32) from by decide]
  refine r_I X0 hx hby hret hlk d32_4 e0 ?_
  exact ⟨N0, rfl, rfl⟩
theorem own_ef_own_uci2 (m : MethodId) (xi : Int32) (xb : Addr) : entryFrame m #[.int xi, .ref xb] 2 = mkF m 0 #[vI xi, vR xb] [] := by first | (simp [entryFrame, mkF, argsToLocals, Value.category]; done) | rfl
def Q_own_uci2 (Z : State) (xi : Int32) (xb : Addr) (xq : ClassId) (y0 : Int32) (y1 : Int32) (y2 : Int32) (y3 : Int32) (gz : Int32) (gfm : Value) (h0 : Heap) (n0 : Nat) (v : Option Value) (h : Heap) (L : List Loc) : Prop := Fr n0 L ∧ h = h0 ∧ v = none
theorem own_uci2 (l : Launch) (Z : State) (a0 : Array Value) (hw : ∀ d ∈ tables_1, d.before a0 Z = true) (ws : List Jvm.Cond) (xi : Int32) (xb : Addr) (xq : ClassId) (y0 : Int32) (y1 : Int32) (y2 : Int32) (y3 : Int32) (h0 : Heap) (n0 : Nat) (O0 : Old Z n0 h0) (gz : Int32) (gfm : Value) (G : GG Z gz gfm) (P0 : Arv Z h0 xb xq .byte (4 : Int32) [.int y0, .int y1, .int y2, .int y3] (.int 0)) (P1 : ¬ xi < (0 : Int32)) (P2 : xi < (2 : Int32)) : own_Met l Z (⟨"java/lang/StringUTF16", "checkIndex", "(I[B)V"⟩ : MethodName) jdk_52_method_91_code 2 none ws ({ frames := 2, cells := 0, slots := 0, locals := 27 } : Room) #[.int xi, .ref xb] h0 (Q_own_uci2 Z xi xb xq y0 y1 y2 y3 gz gfm h0 n0) := by
  refine own_mk (plainFor_of_name own_pn_java_lang_StringUTF16) O0 ?_
  intro p e s m below meth c s₁ hx hby hml hZ hown hnm hlk hret X0 e0 N0 z0 z1
  refine own_cast (own_ef_own_uci2 m xi xb) ?_
  show own_Goes p e below (s₁.setTop (mkF m 0 #[vI xi, vR xb] [])) _
  obtain ⟨G0, G1, G2, G3, G4, G5, G6⟩ := id G
  have ltP0 : @LT.lt Nat _ xb h0.size := P0.lt
  refine q_iloadN X0 hx hby d31_0 rfl ?_
  refine q_aloadN X0 hx hby d31_1 rfl rfl ?_
  refine k_S X0 hx hby hZ hown (wh hw 136 rfl) (wh hw 137 rfl) (W := 1) (own_ul2 l Z a0 hw [] xb xq y0 y1 y2 y3 h0 n0 O0 P0) (wh hw 138 rfl) (wh hw 75 rfl) e0  hml (argsL := [.ref xb]) (rest := [.int xi]) own_pd_11 d31_2 (fun _ T1 L1 X1 hQ1 => ?_)
  obtain ⟨Nc1, e1, rfl⟩ := hQ1
  have N1 := Fr.app N0 Nc1
  refine k_S X1 hx hby hZ hown (wh hw 139 rfl) (wh hw 97 rfl) (W := 0) (own_sci l Z a0 hw [] xi (2 : Int32) h0 n0 O0 gz gfm G (show ¬ xi < (0 : Int32) from (by first | assumption | decide)) (show xi < (2 : Int32) from (by first | assumption | decide))) (wh hw 98 rfl) (wh hw 13 rfl) e1  hml (argsL := [.int xi, .int 2]) (rest := []) own_pd_12 d31_5 (fun _ T2 L2 X2 hQ2 => ?_)
  obtain ⟨Nc2, e2, rfl⟩ := hQ2
  have N2 := Fr.app N1 Nc2
  refine r_V X2 hx hby hret hlk d31_8 e2 ?_
  exact ⟨N2, rfl, rfl⟩
theorem own_ef_own_uca2_0 (m : MethodId) (xb : Addr) : entryFrame m #[.ref xb, .int 0] 2 = mkF m 0 #[vR xb, vI 0] [] := by first | (simp [entryFrame, mkF, argsToLocals, Value.category]; done) | rfl
def Q_own_uca2_0 (Z : State) (xb : Addr) (xq : ClassId) (y0 : Int32) (y1 : Int32) (y2 : Int32) (y3 : Int32) (gz : Int32) (gfm : Value) (h0 : Heap) (n0 : Nat) (v : Option Value) (h : Heap) (L : List Loc) : Prop := Fr n0 L ∧ h = h0 ∧ v = some (.int ((((y0 &&& (255 : Int32)) <<< ((0 : Int32) &&& 31)) ||| ((y1 &&& (255 : Int32)) <<< ((8 : Int32) &&& 31))).toUInt32.toUInt16.toUInt32.toInt32))
theorem own_uca2_0 (l : Launch) (Z : State) (a0 : Array Value) (hw : ∀ d ∈ tables_1, d.before a0 Z = true) (ws : List Jvm.Cond) (xb : Addr) (xq : ClassId) (y0 : Int32) (y1 : Int32) (y2 : Int32) (y3 : Int32) (h0 : Heap) (n0 : Nat) (O0 : Old Z n0 h0) (gz : Int32) (gfm : Value) (G : GG Z gz gfm) (P0 : Arv Z h0 xb xq .byte (4 : Int32) [.int y0, .int y1, .int y2, .int y3] (.int 0)) : own_Met l Z (⟨"java/lang/StringUTF16", "charAt", "([BI)C"⟩ : MethodName) jdk_52_method_83_code 2 (some .char) ws ({ frames := 3, cells := 0, slots := 0, locals := 40 } : Room) #[.ref xb, .int 0] h0 (Q_own_uca2_0 Z xb xq y0 y1 y2 y3 gz gfm h0 n0) := by
  refine own_mk (plainFor_of_name own_pn_java_lang_StringUTF16) O0 ?_
  intro p e s m below meth c s₁ hx hby hml hZ hown hnm hlk hret X0 e0 N0 z0 z1
  refine own_cast (own_ef_own_uca2_0 m xb) ?_
  show own_Goes p e below (s₁.setTop (mkF m 0 #[vR xb, vI 0] [])) _
  obtain ⟨G0, G1, G2, G3, G4, G5, G6⟩ := id G
  have ltP0 : @LT.lt Nat _ xb h0.size := P0.lt
  refine q_iloadN X0 hx hby d30_0 rfl ?_
  refine q_aloadN X0 hx hby d30_1 rfl rfl ?_
  refine k_S X0 hx hby hZ hown (wh hw 133 rfl) (wh hw 134 rfl) (W := 0) (own_uci2 l Z a0 hw [] (0 : Int32) xb xq y0 y1 y2 y3 h0 n0 O0 gz gfm G P0 (show ¬ (0 : Int32) < (0 : Int32) from (by first | assumption | decide)) (show (0 : Int32) < (2 : Int32) from (by first | assumption | decide))) (wh hw 135 rfl) (wh hw 75 rfl) e0  hml (argsL := [.int 0, .ref xb]) (rest := []) own_pd_13 d30_2 (fun _ T1 L1 X1 hQ1 => ?_)
  obtain ⟨Nc1, e1, rfl⟩ := hQ1
  have N1 := Fr.app N0 Nc1
  refine q_aloadN X1 hx hby d30_5 rfl rfl ?_
  refine q_iloadN X1 hx hby d30_6 rfl ?_
  refine k_S X1 hx hby hZ hown (wh hw 127 rfl) (wh hw 128 rfl) (W := 0) (own_gc2_0 l Z a0 hw [] xb xq y0 y1 y2 y3 h0 n0 O0 gz gfm G P0) (wh hw 129 rfl) (wh hw 75 rfl) e1  hml (argsL := [.ref xb, .int 0]) (rest := []) own_pd_5 d30_7 (fun _ T2 L2 X2 hQ2 => ?_)
  obtain ⟨Nc2, e2, rfl⟩ := hQ2
  have N2 := Fr.app N1 Nc2
  refine r_C X2 hx hby hret hlk d30_10 e2 ?_ (hn := (own_narr16 (own_C16i _)))
  exact ⟨N2, rfl, rfl⟩
theorem own_ef_own_lca2_0 (m : MethodId) (xb : Addr) : entryFrame m #[.ref xb, .int 0] 2 = mkF m 0 #[vR xb, vI 0] [] := by first | (simp [entryFrame, mkF, argsToLocals, Value.category]; done) | rfl
def Q_own_lca2_0 (Z : State) (xb : Addr) (xq : ClassId) (y0 : Int32) (y1 : Int32) (gz : Int32) (gfm : Value) (h0 : Heap) (n0 : Nat) (v : Option Value) (h : Heap) (L : List Loc) : Prop := Fr n0 L ∧ h = h0 ∧ v = some (.int (y0 &&& (255 : Int32)))
theorem own_lca2_0 (l : Launch) (Z : State) (a0 : Array Value) (hw : ∀ d ∈ tables_1, d.before a0 Z = true) (ws : List Jvm.Cond) (xb : Addr) (xq : ClassId) (y0 : Int32) (y1 : Int32) (h0 : Heap) (n0 : Nat) (O0 : Old Z n0 h0) (gz : Int32) (gfm : Value) (G : GG Z gz gfm) (P0 : Arv Z h0 xb xq .byte (2 : Int32) [.int y0, .int y1] (.int 0)) : own_Met l Z (⟨"java/lang/StringLatin1", "charAt", "([BI)C"⟩ : MethodName) jdk_43_method_2_code 2 (some .char) ws ({ frames := 2, cells := 0, slots := 0, locals := 27 } : Room) #[.ref xb, .int 0] h0 (Q_own_lca2_0 Z xb xq y0 y1 gz gfm h0 n0) := by
  refine own_mk (plainFor_of_name own_pn_java_lang_StringLatin1) O0 ?_
  intro p e s m below meth c s₁ hx hby hml hZ hown hnm hlk hret X0 e0 N0 z0 z1
  refine own_cast (own_ef_own_lca2_0 m xb) ?_
  show own_Goes p e below (s₁.setTop (mkF m 0 #[vR xb, vI 0] [])) _
  obtain ⟨G0, G1, G2, G3, G4, G5, G6⟩ := id G
  have ltP0 : @LT.lt Nat _ xb h0.size := P0.lt
  refine q_iloadN X0 hx hby d21_0 rfl ?_
  refine q_aloadN X0 hx hby d21_1 rfl rfl ?_
  refine q_len X0 hx hby hZ e0 P0 d21_2 ?_
  refine k_S X0 hx hby hZ hown (wh hw 96 rfl) (wh hw 97 rfl) (W := 0) (own_sci l Z a0 hw [] (0 : Int32) (2 : Int32) h0 n0 O0 gz gfm G (show ¬ (0 : Int32) < (0 : Int32) from (by first | assumption | decide)) (show (0 : Int32) < (2 : Int32) from (by first | assumption | decide))) (wh hw 98 rfl) (wh hw 13 rfl) e0  hml (argsL := [.int 0, .int 2]) (rest := []) own_pd_12 d21_3 (fun _ T2 L2 X2 hQ2 => ?_)
  obtain ⟨Nc2, e2, rfl⟩ := hQ2
  have N2 := Fr.app N0 Nc2
  refine q_aloadN X2 hx hby d21_6 rfl rfl ?_
  refine q_iloadN X2 hx hby d21_7 rfl ?_
  refine q_baloadBytes X2 hx hby hZ e2 P0 d21_8 (.int y0) ?_
  refine q_sipush X2 hx hby d21_9 ?_
  refine q_iand X2 hx hby d21_12 ?_
  refine gg (fun t k => XS.i2c X2.here hx rfl (hb hby d21_13) rfl k) ?_
  show own_Goes p e below (T2.setTop (mkF m 14 #[vR xb, vI 0] [(.int ((y0 &&& (255 : Int32)).toUInt32.toUInt16.toUInt32.toInt32))])) _
  rw [i2c_mask]
  show own_Goes p e below (T2.setTop (mkF m 14 #[vR xb, vI 0] [(.int (y0 &&& (255 : Int32)))])) _
  refine r_C X2 hx hby hret hlk d21_14 e2 ?_ (hn := (congrArg Value.int (i2c_mask _)))
  exact ⟨N2, rfl, rfl⟩
theorem own_ef_own_ca2_0 (m : MethodId) (xa : Addr) : entryFrame m #[.ref xa, .int 0] 2 = mkF m 0 #[vR xa, vI 0] [] := by first | (simp [entryFrame, mkF, argsToLocals, Value.category]; done) | rfl
def Q_own_ca2_0 (Z : State) (xa : Addr) (xt : Addr) (c0 : Int32) (c1 : Int32) (gz : Int32) (gfm : Value) (h0 : Heap) (n0 : Nat) (v : Option Value) (h : Heap) (L : List Loc) : Prop := Fr n0 L ∧ h = h0 ∧ v = some (.int c0)
theorem own_ca2_0 (l : Launch) (Z : State) (a0 : Array Value) (hw : ∀ d ∈ tables_1, d.before a0 Z = true) (ws : List Jvm.Cond) (xa : Addr) (xt : Addr) (c0 : Int32) (c1 : Int32) (h0 : Heap) (n0 : Nat) (O0 : Old Z n0 h0) (gz : Int32) (gfm : Value) (G : GG Z gz gfm) (P0 : own_Str Z h0 xa xt ([c0, c1] : List Int32)) : own_Met l Z (⟨"java/lang/String", "charAt", "(I)C"⟩ : MethodName) jdk_42_method_56_code 2 (some .char) ws ({ frames := 4, cells := 0, slots := 0, locals := 53 } : Room) #[.ref xa, .int 0] h0 (Q_own_ca2_0 Z xa xt c0 c1 gz gfm h0 n0) := by
  refine own_mk (plainFor_of_name own_pn_java_lang_String) O0 ?_
  intro p e s m below meth c s₁ hx hby hml hZ hown hnm hlk hret X0 e0 N0 z0 z1
  refine own_cast (own_ef_own_ca2_0 m xa) ?_
  show own_Goes p e below (s₁.setTop (mkF m 0 #[vR xa, vI 0] [])) _
  obtain ⟨G0, G1, G2, G3, G4, G5, G6⟩ := id G
  have ltP0 : @LT.lt Nat _ xa h0.size := P0.1.lt
  have luP0 : @LT.lt Nat _ xt h0.size := P0.lt2
  obtain ⟨Es1, Vs1, kbs1, cds1, Ns1, vss1, Cs1, As1, hCs1, hbs1, hls1⟩ := id P0
  rcases hCs1 with ⟨rfl, rfl, rfl, hLs1⟩ | ⟨rfl, rfl, rfl, hWs1⟩
  · have Bs1 : Arv Z h0 xt kbs1 .byte (2 : Int32) [(.int (c0.toInt8.toInt32)), (.int (c1.toInt8.toInt32))] (.int 0) := As1
    have Ds1 : Fld Z h0 xa "java/lang/String" "coder" "B" (.int 0) := Cs1
    show own_Goes p e below (s₁.setTop (mkF m 0 #[vR xa, vI 0] [])) _
    refine q_aloadN X0 hx hby d19_0 rfl rfl ?_
    refine k_V X0 hx hby hZ hown (wh hw 88 rfl) (wh hw 89 rfl) (wh hw 91 rfl) (wh hw 90 rfl) (W := 0) (own_isL0 l Z a0 hw [] xa h0 n0 O0 gz gfm G Ds1) (wh hw 92 rfl) (wh hw 13 rfl) e0 Es1  hml (argsL := []) (rest := []) own_pd_14 d19_1 (fun _ T2 L2 X2 hQ2 => ?_)
    obtain ⟨Nc2, e2, rfl⟩ := hQ2
    have N2 := Fr.app N0 Nc2
    refine q_ifNo X2 hx hby d19_4 ((if0 _ _).trans (feq (show ¬ ((1 : Int32) = (0 : Int32)) from by decide)).1) ?_
    refine q_aloadN X2 hx hby d19_7 rfl rfl ?_
    refine qG X2 hx hby hZ hown (wh hw 30 rfl) e2 Vs1 d19_8 (fun T3 X3 e3 => ?_)
    refine q_iloadN X3 hx hby d19_11 rfl ?_
    refine k_S X3 hx hby hZ hown (wh hw 93 rfl) (wh hw 94 rfl) (W := 0) (own_lca2_0 l Z a0 hw [] xt kbs1 (c0.toInt8.toInt32) (c1.toInt8.toInt32) h0 n0 O0 gz gfm G Bs1) (wh hw 95 rfl) (wh hw 38 rfl) e3  hml (argsL := [.ref xt, .int 0]) (rest := []) own_pd_5 d19_12 (fun _ T4 L4 X4 hQ4 => ?_)
    obtain ⟨Nc4, e4, rfl⟩ := hQ4
    have N4 := Fr.app N2 Nc4
    show own_Goes p e below (T4.setTop (mkF m 15 #[vR xa, vI 0] [(.int ((c0.toInt8.toInt32) &&& (255 : Int32)))])) _
    rw [show ((c0.toInt8.toInt32) &&& (255 : Int32)) = c0 from own_b8 (hbs1 c0 (by simp)) (hLs1 c0 (by simp))]
    refine r_C X4 hx hby hret hlk d19_15 e4 ?_ (hn := (own_narr16 (hbs1 c0 (by simp))))
    exact ⟨N4, rfl, rfl⟩
  · have Bs1 : Arv Z h0 xt kbs1 .byte (4 : Int32) [(.int (c0.toInt8.toInt32)), (.int ((c0 >>> ((8 : Int32) &&& 31)).toInt8.toInt32)), (.int (c1.toInt8.toInt32)), (.int ((c1 >>> ((8 : Int32) &&& 31)).toInt8.toInt32))] (.int 0) := As1
    have Ds1 : Fld Z h0 xa "java/lang/String" "coder" "B" (.int 1) := Cs1
    show own_Goes p e below (s₁.setTop (mkF m 0 #[vR xa, vI 0] [])) _
    refine q_aloadN X0 hx hby d19_0 rfl rfl ?_
    refine k_V X0 hx hby hZ hown (wh hw 88 rfl) (wh hw 89 rfl) (wh hw 91 rfl) (wh hw 90 rfl) (W := 0) (own_isL1 l Z a0 hw [] xa h0 n0 O0 gz gfm G Ds1) (wh hw 92 rfl) (wh hw 13 rfl) e0 Es1  hml (argsL := []) (rest := []) own_pd_14 d19_1 (fun _ T5 L5 X5 hQ5 => ?_)
    obtain ⟨Nc5, e5, rfl⟩ := hQ5
    have N5 := Fr.app N0 Nc5
    refine q_ifYes (pc := 4) X5 hx hby d19_4 (pc' := 16) ((if0 _ _).trans (teq (show ((0 : Int32) = (0 : Int32)) from by decide)).1) (by decide) (by decide) ?_
    refine q_aloadN X5 hx hby d19_16 rfl rfl ?_
    refine qG X5 hx hby hZ hown (wh hw 30 rfl) e5 Vs1 d19_17 (fun T6 X6 e6 => ?_)
    refine q_iloadN X6 hx hby d19_20 rfl ?_
    refine k_S X6 hx hby hZ hown (wh hw 130 rfl) (wh hw 131 rfl) (W := 0) (own_uca2_0 l Z a0 hw [] xt kbs1 (c0.toInt8.toInt32) ((c0 >>> ((8 : Int32) &&& 31)).toInt8.toInt32) (c1.toInt8.toInt32) ((c1 >>> ((8 : Int32) &&& 31)).toInt8.toInt32) h0 n0 O0 gz gfm G Bs1) (wh hw 132 rfl) (wh hw 75 rfl) e6  hml (argsL := [.ref xt, .int 0]) (rest := []) own_pd_5 d19_21 (fun _ T7 L7 X7 hQ7 => ?_)
    obtain ⟨Nc7, e7, rfl⟩ := hQ7
    have N7 := Fr.app N5 Nc7
    show own_Goes p e below (T7.setTop (mkF m 24 #[vR xa, vI 0] [(.int (((((c0.toInt8.toInt32) &&& (255 : Int32)) <<< ((0 : Int32) &&& 31)) ||| ((((c0 >>> ((8 : Int32) &&& 31)).toInt8.toInt32) &&& (255 : Int32)) <<< ((8 : Int32) &&& 31))).toUInt32.toUInt16.toUInt32.toInt32))])) _
    rw [show (((((c0.toInt8.toInt32) &&& (255 : Int32)) <<< ((0 : Int32) &&& 31)) ||| ((((c0 >>> ((8 : Int32) &&& 31)).toInt8.toInt32) &&& (255 : Int32)) <<< ((8 : Int32) &&& 31))).toUInt32.toUInt16.toUInt32.toInt32) = c0 from own_g16 (hbs1 c0 (by simp))]
    refine r_C X7 hx hby hret hlk d19_24 e7 ?_ (hn := (own_narr16 (hbs1 c0 (by simp))))
    exact ⟨N7, rfl, rfl⟩
theorem own_ef_own_uca2_1 (m : MethodId) (xb : Addr) : entryFrame m #[.ref xb, .int 1] 2 = mkF m 0 #[vR xb, vI 1] [] := by first | (simp [entryFrame, mkF, argsToLocals, Value.category]; done) | rfl
def Q_own_uca2_1 (Z : State) (xb : Addr) (xq : ClassId) (y0 : Int32) (y1 : Int32) (y2 : Int32) (y3 : Int32) (gz : Int32) (gfm : Value) (h0 : Heap) (n0 : Nat) (v : Option Value) (h : Heap) (L : List Loc) : Prop := Fr n0 L ∧ h = h0 ∧ v = some (.int ((((y2 &&& (255 : Int32)) <<< ((0 : Int32) &&& 31)) ||| ((y3 &&& (255 : Int32)) <<< ((8 : Int32) &&& 31))).toUInt32.toUInt16.toUInt32.toInt32))
theorem own_uca2_1 (l : Launch) (Z : State) (a0 : Array Value) (hw : ∀ d ∈ tables_1, d.before a0 Z = true) (ws : List Jvm.Cond) (xb : Addr) (xq : ClassId) (y0 : Int32) (y1 : Int32) (y2 : Int32) (y3 : Int32) (h0 : Heap) (n0 : Nat) (O0 : Old Z n0 h0) (gz : Int32) (gfm : Value) (G : GG Z gz gfm) (P0 : Arv Z h0 xb xq .byte (4 : Int32) [.int y0, .int y1, .int y2, .int y3] (.int 0)) : own_Met l Z (⟨"java/lang/StringUTF16", "charAt", "([BI)C"⟩ : MethodName) jdk_52_method_83_code 2 (some .char) ws ({ frames := 3, cells := 0, slots := 0, locals := 40 } : Room) #[.ref xb, .int 1] h0 (Q_own_uca2_1 Z xb xq y0 y1 y2 y3 gz gfm h0 n0) := by
  refine own_mk (plainFor_of_name own_pn_java_lang_StringUTF16) O0 ?_
  intro p e s m below meth c s₁ hx hby hml hZ hown hnm hlk hret X0 e0 N0 z0 z1
  refine own_cast (own_ef_own_uca2_1 m xb) ?_
  show own_Goes p e below (s₁.setTop (mkF m 0 #[vR xb, vI 1] [])) _
  obtain ⟨G0, G1, G2, G3, G4, G5, G6⟩ := id G
  have ltP0 : @LT.lt Nat _ xb h0.size := P0.lt
  refine q_iloadN X0 hx hby d30_0 rfl ?_
  refine q_aloadN X0 hx hby d30_1 rfl rfl ?_
  refine k_S X0 hx hby hZ hown (wh hw 133 rfl) (wh hw 134 rfl) (W := 0) (own_uci2 l Z a0 hw [] (1 : Int32) xb xq y0 y1 y2 y3 h0 n0 O0 gz gfm G P0 (show ¬ (1 : Int32) < (0 : Int32) from (by first | assumption | decide)) (show (1 : Int32) < (2 : Int32) from (by first | assumption | decide))) (wh hw 135 rfl) (wh hw 75 rfl) e0  hml (argsL := [.int 1, .ref xb]) (rest := []) own_pd_13 d30_2 (fun _ T1 L1 X1 hQ1 => ?_)
  obtain ⟨Nc1, e1, rfl⟩ := hQ1
  have N1 := Fr.app N0 Nc1
  refine q_aloadN X1 hx hby d30_5 rfl rfl ?_
  refine q_iloadN X1 hx hby d30_6 rfl ?_
  refine k_S X1 hx hby hZ hown (wh hw 127 rfl) (wh hw 128 rfl) (W := 0) (own_gc2_1 l Z a0 hw [] xb xq y0 y1 y2 y3 h0 n0 O0 gz gfm G P0) (wh hw 129 rfl) (wh hw 75 rfl) e1  hml (argsL := [.ref xb, .int 1]) (rest := []) own_pd_5 d30_7 (fun _ T2 L2 X2 hQ2 => ?_)
  obtain ⟨Nc2, e2, rfl⟩ := hQ2
  have N2 := Fr.app N1 Nc2
  refine r_C X2 hx hby hret hlk d30_10 e2 ?_ (hn := (own_narr16 (own_C16i _)))
  exact ⟨N2, rfl, rfl⟩
theorem own_ef_own_lca2_1 (m : MethodId) (xb : Addr) : entryFrame m #[.ref xb, .int 1] 2 = mkF m 0 #[vR xb, vI 1] [] := by first | (simp [entryFrame, mkF, argsToLocals, Value.category]; done) | rfl
def Q_own_lca2_1 (Z : State) (xb : Addr) (xq : ClassId) (y0 : Int32) (y1 : Int32) (gz : Int32) (gfm : Value) (h0 : Heap) (n0 : Nat) (v : Option Value) (h : Heap) (L : List Loc) : Prop := Fr n0 L ∧ h = h0 ∧ v = some (.int (y1 &&& (255 : Int32)))
theorem own_lca2_1 (l : Launch) (Z : State) (a0 : Array Value) (hw : ∀ d ∈ tables_1, d.before a0 Z = true) (ws : List Jvm.Cond) (xb : Addr) (xq : ClassId) (y0 : Int32) (y1 : Int32) (h0 : Heap) (n0 : Nat) (O0 : Old Z n0 h0) (gz : Int32) (gfm : Value) (G : GG Z gz gfm) (P0 : Arv Z h0 xb xq .byte (2 : Int32) [.int y0, .int y1] (.int 0)) : own_Met l Z (⟨"java/lang/StringLatin1", "charAt", "([BI)C"⟩ : MethodName) jdk_43_method_2_code 2 (some .char) ws ({ frames := 2, cells := 0, slots := 0, locals := 27 } : Room) #[.ref xb, .int 1] h0 (Q_own_lca2_1 Z xb xq y0 y1 gz gfm h0 n0) := by
  refine own_mk (plainFor_of_name own_pn_java_lang_StringLatin1) O0 ?_
  intro p e s m below meth c s₁ hx hby hml hZ hown hnm hlk hret X0 e0 N0 z0 z1
  refine own_cast (own_ef_own_lca2_1 m xb) ?_
  show own_Goes p e below (s₁.setTop (mkF m 0 #[vR xb, vI 1] [])) _
  obtain ⟨G0, G1, G2, G3, G4, G5, G6⟩ := id G
  have ltP0 : @LT.lt Nat _ xb h0.size := P0.lt
  refine q_iloadN X0 hx hby d21_0 rfl ?_
  refine q_aloadN X0 hx hby d21_1 rfl rfl ?_
  refine q_len X0 hx hby hZ e0 P0 d21_2 ?_
  refine k_S X0 hx hby hZ hown (wh hw 96 rfl) (wh hw 97 rfl) (W := 0) (own_sci l Z a0 hw [] (1 : Int32) (2 : Int32) h0 n0 O0 gz gfm G (show ¬ (1 : Int32) < (0 : Int32) from (by first | assumption | decide)) (show (1 : Int32) < (2 : Int32) from (by first | assumption | decide))) (wh hw 98 rfl) (wh hw 13 rfl) e0  hml (argsL := [.int 1, .int 2]) (rest := []) own_pd_12 d21_3 (fun _ T2 L2 X2 hQ2 => ?_)
  obtain ⟨Nc2, e2, rfl⟩ := hQ2
  have N2 := Fr.app N0 Nc2
  refine q_aloadN X2 hx hby d21_6 rfl rfl ?_
  refine q_iloadN X2 hx hby d21_7 rfl ?_
  refine q_baloadBytes X2 hx hby hZ e2 P0 d21_8 (.int y1) ?_
  refine q_sipush X2 hx hby d21_9 ?_
  refine q_iand X2 hx hby d21_12 ?_
  refine gg (fun t k => XS.i2c X2.here hx rfl (hb hby d21_13) rfl k) ?_
  show own_Goes p e below (T2.setTop (mkF m 14 #[vR xb, vI 1] [(.int ((y1 &&& (255 : Int32)).toUInt32.toUInt16.toUInt32.toInt32))])) _
  rw [i2c_mask]
  show own_Goes p e below (T2.setTop (mkF m 14 #[vR xb, vI 1] [(.int (y1 &&& (255 : Int32)))])) _
  refine r_C X2 hx hby hret hlk d21_14 e2 ?_ (hn := (congrArg Value.int (i2c_mask _)))
  exact ⟨N2, rfl, rfl⟩
theorem own_ef_own_ca2_1 (m : MethodId) (xa : Addr) : entryFrame m #[.ref xa, .int 1] 2 = mkF m 0 #[vR xa, vI 1] [] := by first | (simp [entryFrame, mkF, argsToLocals, Value.category]; done) | rfl
def Q_own_ca2_1 (Z : State) (xa : Addr) (xt : Addr) (c0 : Int32) (c1 : Int32) (gz : Int32) (gfm : Value) (h0 : Heap) (n0 : Nat) (v : Option Value) (h : Heap) (L : List Loc) : Prop := Fr n0 L ∧ h = h0 ∧ v = some (.int c1)
theorem own_ca2_1 (l : Launch) (Z : State) (a0 : Array Value) (hw : ∀ d ∈ tables_1, d.before a0 Z = true) (ws : List Jvm.Cond) (xa : Addr) (xt : Addr) (c0 : Int32) (c1 : Int32) (h0 : Heap) (n0 : Nat) (O0 : Old Z n0 h0) (gz : Int32) (gfm : Value) (G : GG Z gz gfm) (P0 : own_Str Z h0 xa xt ([c0, c1] : List Int32)) : own_Met l Z (⟨"java/lang/String", "charAt", "(I)C"⟩ : MethodName) jdk_42_method_56_code 2 (some .char) ws ({ frames := 4, cells := 0, slots := 0, locals := 53 } : Room) #[.ref xa, .int 1] h0 (Q_own_ca2_1 Z xa xt c0 c1 gz gfm h0 n0) := by
  refine own_mk (plainFor_of_name own_pn_java_lang_String) O0 ?_
  intro p e s m below meth c s₁ hx hby hml hZ hown hnm hlk hret X0 e0 N0 z0 z1
  refine own_cast (own_ef_own_ca2_1 m xa) ?_
  show own_Goes p e below (s₁.setTop (mkF m 0 #[vR xa, vI 1] [])) _
  obtain ⟨G0, G1, G2, G3, G4, G5, G6⟩ := id G
  have ltP0 : @LT.lt Nat _ xa h0.size := P0.1.lt
  have luP0 : @LT.lt Nat _ xt h0.size := P0.lt2
  obtain ⟨Es1, Vs1, kbs1, cds1, Ns1, vss1, Cs1, As1, hCs1, hbs1, hls1⟩ := id P0
  rcases hCs1 with ⟨rfl, rfl, rfl, hLs1⟩ | ⟨rfl, rfl, rfl, hWs1⟩
  · have Bs1 : Arv Z h0 xt kbs1 .byte (2 : Int32) [(.int (c0.toInt8.toInt32)), (.int (c1.toInt8.toInt32))] (.int 0) := As1
    have Ds1 : Fld Z h0 xa "java/lang/String" "coder" "B" (.int 0) := Cs1
    show own_Goes p e below (s₁.setTop (mkF m 0 #[vR xa, vI 1] [])) _
    refine q_aloadN X0 hx hby d19_0 rfl rfl ?_
    refine k_V X0 hx hby hZ hown (wh hw 88 rfl) (wh hw 89 rfl) (wh hw 91 rfl) (wh hw 90 rfl) (W := 0) (own_isL0 l Z a0 hw [] xa h0 n0 O0 gz gfm G Ds1) (wh hw 92 rfl) (wh hw 13 rfl) e0 Es1  hml (argsL := []) (rest := []) own_pd_14 d19_1 (fun _ T2 L2 X2 hQ2 => ?_)
    obtain ⟨Nc2, e2, rfl⟩ := hQ2
    have N2 := Fr.app N0 Nc2
    refine q_ifNo X2 hx hby d19_4 ((if0 _ _).trans (feq (show ¬ ((1 : Int32) = (0 : Int32)) from by decide)).1) ?_
    refine q_aloadN X2 hx hby d19_7 rfl rfl ?_
    refine qG X2 hx hby hZ hown (wh hw 30 rfl) e2 Vs1 d19_8 (fun T3 X3 e3 => ?_)
    refine q_iloadN X3 hx hby d19_11 rfl ?_
    refine k_S X3 hx hby hZ hown (wh hw 93 rfl) (wh hw 94 rfl) (W := 0) (own_lca2_1 l Z a0 hw [] xt kbs1 (c0.toInt8.toInt32) (c1.toInt8.toInt32) h0 n0 O0 gz gfm G Bs1) (wh hw 95 rfl) (wh hw 38 rfl) e3  hml (argsL := [.ref xt, .int 1]) (rest := []) own_pd_5 d19_12 (fun _ T4 L4 X4 hQ4 => ?_)
    obtain ⟨Nc4, e4, rfl⟩ := hQ4
    have N4 := Fr.app N2 Nc4
    show own_Goes p e below (T4.setTop (mkF m 15 #[vR xa, vI 1] [(.int ((c1.toInt8.toInt32) &&& (255 : Int32)))])) _
    rw [show ((c1.toInt8.toInt32) &&& (255 : Int32)) = c1 from own_b8 (hbs1 c1 (by simp)) (hLs1 c1 (by simp))]
    refine r_C X4 hx hby hret hlk d19_15 e4 ?_ (hn := (own_narr16 (hbs1 c1 (by simp))))
    exact ⟨N4, rfl, rfl⟩
  · have Bs1 : Arv Z h0 xt kbs1 .byte (4 : Int32) [(.int (c0.toInt8.toInt32)), (.int ((c0 >>> ((8 : Int32) &&& 31)).toInt8.toInt32)), (.int (c1.toInt8.toInt32)), (.int ((c1 >>> ((8 : Int32) &&& 31)).toInt8.toInt32))] (.int 0) := As1
    have Ds1 : Fld Z h0 xa "java/lang/String" "coder" "B" (.int 1) := Cs1
    show own_Goes p e below (s₁.setTop (mkF m 0 #[vR xa, vI 1] [])) _
    refine q_aloadN X0 hx hby d19_0 rfl rfl ?_
    refine k_V X0 hx hby hZ hown (wh hw 88 rfl) (wh hw 89 rfl) (wh hw 91 rfl) (wh hw 90 rfl) (W := 0) (own_isL1 l Z a0 hw [] xa h0 n0 O0 gz gfm G Ds1) (wh hw 92 rfl) (wh hw 13 rfl) e0 Es1  hml (argsL := []) (rest := []) own_pd_14 d19_1 (fun _ T5 L5 X5 hQ5 => ?_)
    obtain ⟨Nc5, e5, rfl⟩ := hQ5
    have N5 := Fr.app N0 Nc5
    refine q_ifYes (pc := 4) X5 hx hby d19_4 (pc' := 16) ((if0 _ _).trans (teq (show ((0 : Int32) = (0 : Int32)) from by decide)).1) (by decide) (by decide) ?_
    refine q_aloadN X5 hx hby d19_16 rfl rfl ?_
    refine qG X5 hx hby hZ hown (wh hw 30 rfl) e5 Vs1 d19_17 (fun T6 X6 e6 => ?_)
    refine q_iloadN X6 hx hby d19_20 rfl ?_
    refine k_S X6 hx hby hZ hown (wh hw 130 rfl) (wh hw 131 rfl) (W := 0) (own_uca2_1 l Z a0 hw [] xt kbs1 (c0.toInt8.toInt32) ((c0 >>> ((8 : Int32) &&& 31)).toInt8.toInt32) (c1.toInt8.toInt32) ((c1 >>> ((8 : Int32) &&& 31)).toInt8.toInt32) h0 n0 O0 gz gfm G Bs1) (wh hw 132 rfl) (wh hw 75 rfl) e6  hml (argsL := [.ref xt, .int 1]) (rest := []) own_pd_5 d19_21 (fun _ T7 L7 X7 hQ7 => ?_)
    obtain ⟨Nc7, e7, rfl⟩ := hQ7
    have N7 := Fr.app N5 Nc7
    show own_Goes p e below (T7.setTop (mkF m 24 #[vR xa, vI 1] [(.int (((((c1.toInt8.toInt32) &&& (255 : Int32)) <<< ((0 : Int32) &&& 31)) ||| ((((c1 >>> ((8 : Int32) &&& 31)).toInt8.toInt32) &&& (255 : Int32)) <<< ((8 : Int32) &&& 31))).toUInt32.toUInt16.toUInt32.toInt32))])) _
    rw [show (((((c1.toInt8.toInt32) &&& (255 : Int32)) <<< ((0 : Int32) &&& 31)) ||| ((((c1 >>> ((8 : Int32) &&& 31)).toInt8.toInt32) &&& (255 : Int32)) <<< ((8 : Int32) &&& 31))).toUInt32.toUInt16.toUInt32.toInt32) = c1 from own_g16 (hbs1 c1 (by simp))]
    refine r_C X7 hx hby hret hlk d19_24 e7 ?_ (hn := (own_narr16 (hbs1 c1 (by simp))))
    exact ⟨N7, rfl, rfl⟩
theorem own_ef_own_ul3 (m : MethodId) (xb : Addr) : entryFrame m #[.ref xb] 1 = mkF m 0 #[vR xb] [] := by first | (simp [entryFrame, mkF, argsToLocals, Value.category]; done) | rfl
def Q_own_ul3 (Z : State) (xb : Addr) (xq : ClassId) (y0 : Int32) (y1 : Int32) (y2 : Int32) (y3 : Int32) (y4 : Int32) (y5 : Int32) (h0 : Heap) (n0 : Nat) (v : Option Value) (h : Heap) (L : List Loc) : Prop := Fr n0 L ∧ h = h0 ∧ v = some (.int 3)
theorem own_ul3 (l : Launch) (Z : State) (a0 : Array Value) (hw : ∀ d ∈ tables_1, d.before a0 Z = true) (ws : List Jvm.Cond) (xb : Addr) (xq : ClassId) (y0 : Int32) (y1 : Int32) (y2 : Int32) (y3 : Int32) (y4 : Int32) (y5 : Int32) (h0 : Heap) (n0 : Nat) (O0 : Old Z n0 h0) (P0 : Arv Z h0 xb xq .byte (6 : Int32) [.int y0, .int y1, .int y2, .int y3, .int y4, .int y5] (.int 0)) : own_Met l Z (⟨"java/lang/StringUTF16", "length", "([B)I"⟩ : MethodName) jdk_52_method_6_code 1 (some .int) ws ({ frames := 0, cells := 0, slots := 0, locals := 0 } : Room) #[.ref xb] h0 (Q_own_ul3 Z xb xq y0 y1 y2 y3 y4 y5 h0 n0) := by
  refine own_mk (plainFor_of_name own_pn_java_lang_StringUTF16) O0 ?_
  intro p e s m below meth c s₁ hx hby hml hZ hown hnm hlk hret X0 e0 N0 z0 z1
  refine own_cast (own_ef_own_ul3 m xb) ?_
  show own_Goes p e below (s₁.setTop (mkF m 0 #[vR xb] [])) _
  have ltP0 : @LT.lt Nat _ xb h0.size := P0.lt
  refine q_aloadN X0 hx hby d32_0 rfl rfl ?_
  refine q_len X0 hx hby hZ e0 P0 d32_1 ?_
  refine q_iconst X0 hx hby d32_2 ?_
  refine gg (fun t k => XS.ishr X0.here hx rfl (hb hby d32_3) rfl k) ?_
  show own_Goes p e below (s₁.setTop (mkF m 4 #[vR xb] [(.int ((6 : Int32) >>> ((1 : Int32) &&& 31)))])) _
  rw [show ((6 : Int32) >>> ((1 : Int32) &&& 31)) = (3 : Int32) from by decide]
  refine r_I X0 hx hby hret hlk d32_4 e0 ?_
  exact ⟨N0, rfl, rfl⟩
theorem own_ef_own_uci3 (m : MethodId) (xi : Int32) (xb : Addr) : entryFrame m #[.int xi, .ref xb] 2 = mkF m 0 #[vI xi, vR xb] [] := by first | (simp [entryFrame, mkF, argsToLocals, Value.category]; done) | rfl
def Q_own_uci3 (Z : State) (xi : Int32) (xb : Addr) (xq : ClassId) (y0 : Int32) (y1 : Int32) (y2 : Int32) (y3 : Int32) (y4 : Int32) (y5 : Int32) (gz : Int32) (gfm : Value) (h0 : Heap) (n0 : Nat) (v : Option Value) (h : Heap) (L : List Loc) : Prop := Fr n0 L ∧ h = h0 ∧ v = none
theorem own_uci3 (l : Launch) (Z : State) (a0 : Array Value) (hw : ∀ d ∈ tables_1, d.before a0 Z = true) (ws : List Jvm.Cond) (xi : Int32) (xb : Addr) (xq : ClassId) (y0 : Int32) (y1 : Int32) (y2 : Int32) (y3 : Int32) (y4 : Int32) (y5 : Int32) (h0 : Heap) (n0 : Nat) (O0 : Old Z n0 h0) (gz : Int32) (gfm : Value) (G : GG Z gz gfm) (P0 : Arv Z h0 xb xq .byte (6 : Int32) [.int y0, .int y1, .int y2, .int y3, .int y4, .int y5] (.int 0)) (P1 : ¬ xi < (0 : Int32)) (P2 : xi < (3 : Int32)) : own_Met l Z (⟨"java/lang/StringUTF16", "checkIndex", "(I[B)V"⟩ : MethodName) jdk_52_method_91_code 2 none ws ({ frames := 2, cells := 0, slots := 0, locals := 27 } : Room) #[.int xi, .ref xb] h0 (Q_own_uci3 Z xi xb xq y0 y1 y2 y3 y4 y5 gz gfm h0 n0) := by
  refine own_mk (plainFor_of_name own_pn_java_lang_StringUTF16) O0 ?_
  intro p e s m below meth c s₁ hx hby hml hZ hown hnm hlk hret X0 e0 N0 z0 z1
  refine own_cast (own_ef_own_uci3 m xi xb) ?_
  show own_Goes p e below (s₁.setTop (mkF m 0 #[vI xi, vR xb] [])) _
  obtain ⟨G0, G1, G2, G3, G4, G5, G6⟩ := id G
  have ltP0 : @LT.lt Nat _ xb h0.size := P0.lt
  refine q_iloadN X0 hx hby d31_0 rfl ?_
  refine q_aloadN X0 hx hby d31_1 rfl rfl ?_
  refine k_S X0 hx hby hZ hown (wh hw 136 rfl) (wh hw 137 rfl) (W := 1) (own_ul3 l Z a0 hw [] xb xq y0 y1 y2 y3 y4 y5 h0 n0 O0 P0) (wh hw 138 rfl) (wh hw 75 rfl) e0  hml (argsL := [.ref xb]) (rest := [.int xi]) own_pd_11 d31_2 (fun _ T1 L1 X1 hQ1 => ?_)
  obtain ⟨Nc1, e1, rfl⟩ := hQ1
  have N1 := Fr.app N0 Nc1
  refine k_S X1 hx hby hZ hown (wh hw 139 rfl) (wh hw 97 rfl) (W := 0) (own_sci l Z a0 hw [] xi (3 : Int32) h0 n0 O0 gz gfm G (show ¬ xi < (0 : Int32) from (by first | assumption | decide)) (show xi < (3 : Int32) from (by first | assumption | decide))) (wh hw 98 rfl) (wh hw 13 rfl) e1  hml (argsL := [.int xi, .int 3]) (rest := []) own_pd_12 d31_5 (fun _ T2 L2 X2 hQ2 => ?_)
  obtain ⟨Nc2, e2, rfl⟩ := hQ2
  have N2 := Fr.app N1 Nc2
  refine r_V X2 hx hby hret hlk d31_8 e2 ?_
  exact ⟨N2, rfl, rfl⟩
theorem own_ef_own_uca3_0 (m : MethodId) (xb : Addr) : entryFrame m #[.ref xb, .int 0] 2 = mkF m 0 #[vR xb, vI 0] [] := by first | (simp [entryFrame, mkF, argsToLocals, Value.category]; done) | rfl
def Q_own_uca3_0 (Z : State) (xb : Addr) (xq : ClassId) (y0 : Int32) (y1 : Int32) (y2 : Int32) (y3 : Int32) (y4 : Int32) (y5 : Int32) (gz : Int32) (gfm : Value) (h0 : Heap) (n0 : Nat) (v : Option Value) (h : Heap) (L : List Loc) : Prop := Fr n0 L ∧ h = h0 ∧ v = some (.int ((((y0 &&& (255 : Int32)) <<< ((0 : Int32) &&& 31)) ||| ((y1 &&& (255 : Int32)) <<< ((8 : Int32) &&& 31))).toUInt32.toUInt16.toUInt32.toInt32))
theorem own_uca3_0 (l : Launch) (Z : State) (a0 : Array Value) (hw : ∀ d ∈ tables_1, d.before a0 Z = true) (ws : List Jvm.Cond) (xb : Addr) (xq : ClassId) (y0 : Int32) (y1 : Int32) (y2 : Int32) (y3 : Int32) (y4 : Int32) (y5 : Int32) (h0 : Heap) (n0 : Nat) (O0 : Old Z n0 h0) (gz : Int32) (gfm : Value) (G : GG Z gz gfm) (P0 : Arv Z h0 xb xq .byte (6 : Int32) [.int y0, .int y1, .int y2, .int y3, .int y4, .int y5] (.int 0)) : own_Met l Z (⟨"java/lang/StringUTF16", "charAt", "([BI)C"⟩ : MethodName) jdk_52_method_83_code 2 (some .char) ws ({ frames := 3, cells := 0, slots := 0, locals := 40 } : Room) #[.ref xb, .int 0] h0 (Q_own_uca3_0 Z xb xq y0 y1 y2 y3 y4 y5 gz gfm h0 n0) := by
  refine own_mk (plainFor_of_name own_pn_java_lang_StringUTF16) O0 ?_
  intro p e s m below meth c s₁ hx hby hml hZ hown hnm hlk hret X0 e0 N0 z0 z1
  refine own_cast (own_ef_own_uca3_0 m xb) ?_
  show own_Goes p e below (s₁.setTop (mkF m 0 #[vR xb, vI 0] [])) _
  obtain ⟨G0, G1, G2, G3, G4, G5, G6⟩ := id G
  have ltP0 : @LT.lt Nat _ xb h0.size := P0.lt
  refine q_iloadN X0 hx hby d30_0 rfl ?_
  refine q_aloadN X0 hx hby d30_1 rfl rfl ?_
  refine k_S X0 hx hby hZ hown (wh hw 133 rfl) (wh hw 134 rfl) (W := 0) (own_uci3 l Z a0 hw [] (0 : Int32) xb xq y0 y1 y2 y3 y4 y5 h0 n0 O0 gz gfm G P0 (show ¬ (0 : Int32) < (0 : Int32) from (by first | assumption | decide)) (show (0 : Int32) < (3 : Int32) from (by first | assumption | decide))) (wh hw 135 rfl) (wh hw 75 rfl) e0  hml (argsL := [.int 0, .ref xb]) (rest := []) own_pd_13 d30_2 (fun _ T1 L1 X1 hQ1 => ?_)
  obtain ⟨Nc1, e1, rfl⟩ := hQ1
  have N1 := Fr.app N0 Nc1
  refine q_aloadN X1 hx hby d30_5 rfl rfl ?_
  refine q_iloadN X1 hx hby d30_6 rfl ?_
  refine k_S X1 hx hby hZ hown (wh hw 127 rfl) (wh hw 128 rfl) (W := 0) (own_gc3_0 l Z a0 hw [] xb xq y0 y1 y2 y3 y4 y5 h0 n0 O0 gz gfm G P0) (wh hw 129 rfl) (wh hw 75 rfl) e1  hml (argsL := [.ref xb, .int 0]) (rest := []) own_pd_5 d30_7 (fun _ T2 L2 X2 hQ2 => ?_)
  obtain ⟨Nc2, e2, rfl⟩ := hQ2
  have N2 := Fr.app N1 Nc2
  refine r_C X2 hx hby hret hlk d30_10 e2 ?_ (hn := (own_narr16 (own_C16i _)))
  exact ⟨N2, rfl, rfl⟩
theorem own_ef_own_lca3_0 (m : MethodId) (xb : Addr) : entryFrame m #[.ref xb, .int 0] 2 = mkF m 0 #[vR xb, vI 0] [] := by first | (simp [entryFrame, mkF, argsToLocals, Value.category]; done) | rfl
def Q_own_lca3_0 (Z : State) (xb : Addr) (xq : ClassId) (y0 : Int32) (y1 : Int32) (y2 : Int32) (gz : Int32) (gfm : Value) (h0 : Heap) (n0 : Nat) (v : Option Value) (h : Heap) (L : List Loc) : Prop := Fr n0 L ∧ h = h0 ∧ v = some (.int (y0 &&& (255 : Int32)))
theorem own_lca3_0 (l : Launch) (Z : State) (a0 : Array Value) (hw : ∀ d ∈ tables_1, d.before a0 Z = true) (ws : List Jvm.Cond) (xb : Addr) (xq : ClassId) (y0 : Int32) (y1 : Int32) (y2 : Int32) (h0 : Heap) (n0 : Nat) (O0 : Old Z n0 h0) (gz : Int32) (gfm : Value) (G : GG Z gz gfm) (P0 : Arv Z h0 xb xq .byte (3 : Int32) [.int y0, .int y1, .int y2] (.int 0)) : own_Met l Z (⟨"java/lang/StringLatin1", "charAt", "([BI)C"⟩ : MethodName) jdk_43_method_2_code 2 (some .char) ws ({ frames := 2, cells := 0, slots := 0, locals := 27 } : Room) #[.ref xb, .int 0] h0 (Q_own_lca3_0 Z xb xq y0 y1 y2 gz gfm h0 n0) := by
  refine own_mk (plainFor_of_name own_pn_java_lang_StringLatin1) O0 ?_
  intro p e s m below meth c s₁ hx hby hml hZ hown hnm hlk hret X0 e0 N0 z0 z1
  refine own_cast (own_ef_own_lca3_0 m xb) ?_
  show own_Goes p e below (s₁.setTop (mkF m 0 #[vR xb, vI 0] [])) _
  obtain ⟨G0, G1, G2, G3, G4, G5, G6⟩ := id G
  have ltP0 : @LT.lt Nat _ xb h0.size := P0.lt
  refine q_iloadN X0 hx hby d21_0 rfl ?_
  refine q_aloadN X0 hx hby d21_1 rfl rfl ?_
  refine q_len X0 hx hby hZ e0 P0 d21_2 ?_
  refine k_S X0 hx hby hZ hown (wh hw 96 rfl) (wh hw 97 rfl) (W := 0) (own_sci l Z a0 hw [] (0 : Int32) (3 : Int32) h0 n0 O0 gz gfm G (show ¬ (0 : Int32) < (0 : Int32) from (by first | assumption | decide)) (show (0 : Int32) < (3 : Int32) from (by first | assumption | decide))) (wh hw 98 rfl) (wh hw 13 rfl) e0  hml (argsL := [.int 0, .int 3]) (rest := []) own_pd_12 d21_3 (fun _ T2 L2 X2 hQ2 => ?_)
  obtain ⟨Nc2, e2, rfl⟩ := hQ2
  have N2 := Fr.app N0 Nc2
  refine q_aloadN X2 hx hby d21_6 rfl rfl ?_
  refine q_iloadN X2 hx hby d21_7 rfl ?_
  refine q_baloadBytes X2 hx hby hZ e2 P0 d21_8 (.int y0) ?_
  refine q_sipush X2 hx hby d21_9 ?_
  refine q_iand X2 hx hby d21_12 ?_
  refine gg (fun t k => XS.i2c X2.here hx rfl (hb hby d21_13) rfl k) ?_
  show own_Goes p e below (T2.setTop (mkF m 14 #[vR xb, vI 0] [(.int ((y0 &&& (255 : Int32)).toUInt32.toUInt16.toUInt32.toInt32))])) _
  rw [i2c_mask]
  show own_Goes p e below (T2.setTop (mkF m 14 #[vR xb, vI 0] [(.int (y0 &&& (255 : Int32)))])) _
  refine r_C X2 hx hby hret hlk d21_14 e2 ?_ (hn := (congrArg Value.int (i2c_mask _)))
  exact ⟨N2, rfl, rfl⟩
theorem own_ef_own_ca3_0 (m : MethodId) (xa : Addr) : entryFrame m #[.ref xa, .int 0] 2 = mkF m 0 #[vR xa, vI 0] [] := by first | (simp [entryFrame, mkF, argsToLocals, Value.category]; done) | rfl
def Q_own_ca3_0 (Z : State) (xa : Addr) (xt : Addr) (c0 : Int32) (c1 : Int32) (c2 : Int32) (gz : Int32) (gfm : Value) (h0 : Heap) (n0 : Nat) (v : Option Value) (h : Heap) (L : List Loc) : Prop := Fr n0 L ∧ h = h0 ∧ v = some (.int c0)
theorem own_ca3_0 (l : Launch) (Z : State) (a0 : Array Value) (hw : ∀ d ∈ tables_1, d.before a0 Z = true) (ws : List Jvm.Cond) (xa : Addr) (xt : Addr) (c0 : Int32) (c1 : Int32) (c2 : Int32) (h0 : Heap) (n0 : Nat) (O0 : Old Z n0 h0) (gz : Int32) (gfm : Value) (G : GG Z gz gfm) (P0 : own_Str Z h0 xa xt ([c0, c1, c2] : List Int32)) : own_Met l Z (⟨"java/lang/String", "charAt", "(I)C"⟩ : MethodName) jdk_42_method_56_code 2 (some .char) ws ({ frames := 4, cells := 0, slots := 0, locals := 53 } : Room) #[.ref xa, .int 0] h0 (Q_own_ca3_0 Z xa xt c0 c1 c2 gz gfm h0 n0) := by
  refine own_mk (plainFor_of_name own_pn_java_lang_String) O0 ?_
  intro p e s m below meth c s₁ hx hby hml hZ hown hnm hlk hret X0 e0 N0 z0 z1
  refine own_cast (own_ef_own_ca3_0 m xa) ?_
  show own_Goes p e below (s₁.setTop (mkF m 0 #[vR xa, vI 0] [])) _
  obtain ⟨G0, G1, G2, G3, G4, G5, G6⟩ := id G
  have ltP0 : @LT.lt Nat _ xa h0.size := P0.1.lt
  have luP0 : @LT.lt Nat _ xt h0.size := P0.lt2
  obtain ⟨Es1, Vs1, kbs1, cds1, Ns1, vss1, Cs1, As1, hCs1, hbs1, hls1⟩ := id P0
  rcases hCs1 with ⟨rfl, rfl, rfl, hLs1⟩ | ⟨rfl, rfl, rfl, hWs1⟩
  · have Bs1 : Arv Z h0 xt kbs1 .byte (3 : Int32) [(.int (c0.toInt8.toInt32)), (.int (c1.toInt8.toInt32)), (.int (c2.toInt8.toInt32))] (.int 0) := As1
    have Ds1 : Fld Z h0 xa "java/lang/String" "coder" "B" (.int 0) := Cs1
    show own_Goes p e below (s₁.setTop (mkF m 0 #[vR xa, vI 0] [])) _
    refine q_aloadN X0 hx hby d19_0 rfl rfl ?_
    refine k_V X0 hx hby hZ hown (wh hw 88 rfl) (wh hw 89 rfl) (wh hw 91 rfl) (wh hw 90 rfl) (W := 0) (own_isL0 l Z a0 hw [] xa h0 n0 O0 gz gfm G Ds1) (wh hw 92 rfl) (wh hw 13 rfl) e0 Es1  hml (argsL := []) (rest := []) own_pd_14 d19_1 (fun _ T2 L2 X2 hQ2 => ?_)
    obtain ⟨Nc2, e2, rfl⟩ := hQ2
    have N2 := Fr.app N0 Nc2
    refine q_ifNo X2 hx hby d19_4 ((if0 _ _).trans (feq (show ¬ ((1 : Int32) = (0 : Int32)) from by decide)).1) ?_
    refine q_aloadN X2 hx hby d19_7 rfl rfl ?_
    refine qG X2 hx hby hZ hown (wh hw 30 rfl) e2 Vs1 d19_8 (fun T3 X3 e3 => ?_)
    refine q_iloadN X3 hx hby d19_11 rfl ?_
    refine k_S X3 hx hby hZ hown (wh hw 93 rfl) (wh hw 94 rfl) (W := 0) (own_lca3_0 l Z a0 hw [] xt kbs1 (c0.toInt8.toInt32) (c1.toInt8.toInt32) (c2.toInt8.toInt32) h0 n0 O0 gz gfm G Bs1) (wh hw 95 rfl) (wh hw 38 rfl) e3  hml (argsL := [.ref xt, .int 0]) (rest := []) own_pd_5 d19_12 (fun _ T4 L4 X4 hQ4 => ?_)
    obtain ⟨Nc4, e4, rfl⟩ := hQ4
    have N4 := Fr.app N2 Nc4
    show own_Goes p e below (T4.setTop (mkF m 15 #[vR xa, vI 0] [(.int ((c0.toInt8.toInt32) &&& (255 : Int32)))])) _
    rw [show ((c0.toInt8.toInt32) &&& (255 : Int32)) = c0 from own_b8 (hbs1 c0 (by simp)) (hLs1 c0 (by simp))]
    refine r_C X4 hx hby hret hlk d19_15 e4 ?_ (hn := (own_narr16 (hbs1 c0 (by simp))))
    exact ⟨N4, rfl, rfl⟩
  · have Bs1 : Arv Z h0 xt kbs1 .byte (6 : Int32) [(.int (c0.toInt8.toInt32)), (.int ((c0 >>> ((8 : Int32) &&& 31)).toInt8.toInt32)), (.int (c1.toInt8.toInt32)), (.int ((c1 >>> ((8 : Int32) &&& 31)).toInt8.toInt32)), (.int (c2.toInt8.toInt32)), (.int ((c2 >>> ((8 : Int32) &&& 31)).toInt8.toInt32))] (.int 0) := As1
    have Ds1 : Fld Z h0 xa "java/lang/String" "coder" "B" (.int 1) := Cs1
    show own_Goes p e below (s₁.setTop (mkF m 0 #[vR xa, vI 0] [])) _
    refine q_aloadN X0 hx hby d19_0 rfl rfl ?_
    refine k_V X0 hx hby hZ hown (wh hw 88 rfl) (wh hw 89 rfl) (wh hw 91 rfl) (wh hw 90 rfl) (W := 0) (own_isL1 l Z a0 hw [] xa h0 n0 O0 gz gfm G Ds1) (wh hw 92 rfl) (wh hw 13 rfl) e0 Es1  hml (argsL := []) (rest := []) own_pd_14 d19_1 (fun _ T5 L5 X5 hQ5 => ?_)
    obtain ⟨Nc5, e5, rfl⟩ := hQ5
    have N5 := Fr.app N0 Nc5
    refine q_ifYes (pc := 4) X5 hx hby d19_4 (pc' := 16) ((if0 _ _).trans (teq (show ((0 : Int32) = (0 : Int32)) from by decide)).1) (by decide) (by decide) ?_
    refine q_aloadN X5 hx hby d19_16 rfl rfl ?_
    refine qG X5 hx hby hZ hown (wh hw 30 rfl) e5 Vs1 d19_17 (fun T6 X6 e6 => ?_)
    refine q_iloadN X6 hx hby d19_20 rfl ?_
    refine k_S X6 hx hby hZ hown (wh hw 130 rfl) (wh hw 131 rfl) (W := 0) (own_uca3_0 l Z a0 hw [] xt kbs1 (c0.toInt8.toInt32) ((c0 >>> ((8 : Int32) &&& 31)).toInt8.toInt32) (c1.toInt8.toInt32) ((c1 >>> ((8 : Int32) &&& 31)).toInt8.toInt32) (c2.toInt8.toInt32) ((c2 >>> ((8 : Int32) &&& 31)).toInt8.toInt32) h0 n0 O0 gz gfm G Bs1) (wh hw 132 rfl) (wh hw 75 rfl) e6  hml (argsL := [.ref xt, .int 0]) (rest := []) own_pd_5 d19_21 (fun _ T7 L7 X7 hQ7 => ?_)
    obtain ⟨Nc7, e7, rfl⟩ := hQ7
    have N7 := Fr.app N5 Nc7
    show own_Goes p e below (T7.setTop (mkF m 24 #[vR xa, vI 0] [(.int (((((c0.toInt8.toInt32) &&& (255 : Int32)) <<< ((0 : Int32) &&& 31)) ||| ((((c0 >>> ((8 : Int32) &&& 31)).toInt8.toInt32) &&& (255 : Int32)) <<< ((8 : Int32) &&& 31))).toUInt32.toUInt16.toUInt32.toInt32))])) _
    rw [show (((((c0.toInt8.toInt32) &&& (255 : Int32)) <<< ((0 : Int32) &&& 31)) ||| ((((c0 >>> ((8 : Int32) &&& 31)).toInt8.toInt32) &&& (255 : Int32)) <<< ((8 : Int32) &&& 31))).toUInt32.toUInt16.toUInt32.toInt32) = c0 from own_g16 (hbs1 c0 (by simp))]
    refine r_C X7 hx hby hret hlk d19_24 e7 ?_ (hn := (own_narr16 (hbs1 c0 (by simp))))
    exact ⟨N7, rfl, rfl⟩
theorem own_ef_own_uca3_1 (m : MethodId) (xb : Addr) : entryFrame m #[.ref xb, .int 1] 2 = mkF m 0 #[vR xb, vI 1] [] := by first | (simp [entryFrame, mkF, argsToLocals, Value.category]; done) | rfl
def Q_own_uca3_1 (Z : State) (xb : Addr) (xq : ClassId) (y0 : Int32) (y1 : Int32) (y2 : Int32) (y3 : Int32) (y4 : Int32) (y5 : Int32) (gz : Int32) (gfm : Value) (h0 : Heap) (n0 : Nat) (v : Option Value) (h : Heap) (L : List Loc) : Prop := Fr n0 L ∧ h = h0 ∧ v = some (.int ((((y2 &&& (255 : Int32)) <<< ((0 : Int32) &&& 31)) ||| ((y3 &&& (255 : Int32)) <<< ((8 : Int32) &&& 31))).toUInt32.toUInt16.toUInt32.toInt32))
theorem own_uca3_1 (l : Launch) (Z : State) (a0 : Array Value) (hw : ∀ d ∈ tables_1, d.before a0 Z = true) (ws : List Jvm.Cond) (xb : Addr) (xq : ClassId) (y0 : Int32) (y1 : Int32) (y2 : Int32) (y3 : Int32) (y4 : Int32) (y5 : Int32) (h0 : Heap) (n0 : Nat) (O0 : Old Z n0 h0) (gz : Int32) (gfm : Value) (G : GG Z gz gfm) (P0 : Arv Z h0 xb xq .byte (6 : Int32) [.int y0, .int y1, .int y2, .int y3, .int y4, .int y5] (.int 0)) : own_Met l Z (⟨"java/lang/StringUTF16", "charAt", "([BI)C"⟩ : MethodName) jdk_52_method_83_code 2 (some .char) ws ({ frames := 3, cells := 0, slots := 0, locals := 40 } : Room) #[.ref xb, .int 1] h0 (Q_own_uca3_1 Z xb xq y0 y1 y2 y3 y4 y5 gz gfm h0 n0) := by
  refine own_mk (plainFor_of_name own_pn_java_lang_StringUTF16) O0 ?_
  intro p e s m below meth c s₁ hx hby hml hZ hown hnm hlk hret X0 e0 N0 z0 z1
  refine own_cast (own_ef_own_uca3_1 m xb) ?_
  show own_Goes p e below (s₁.setTop (mkF m 0 #[vR xb, vI 1] [])) _
  obtain ⟨G0, G1, G2, G3, G4, G5, G6⟩ := id G
  have ltP0 : @LT.lt Nat _ xb h0.size := P0.lt
  refine q_iloadN X0 hx hby d30_0 rfl ?_
  refine q_aloadN X0 hx hby d30_1 rfl rfl ?_
  refine k_S X0 hx hby hZ hown (wh hw 133 rfl) (wh hw 134 rfl) (W := 0) (own_uci3 l Z a0 hw [] (1 : Int32) xb xq y0 y1 y2 y3 y4 y5 h0 n0 O0 gz gfm G P0 (show ¬ (1 : Int32) < (0 : Int32) from (by first | assumption | decide)) (show (1 : Int32) < (3 : Int32) from (by first | assumption | decide))) (wh hw 135 rfl) (wh hw 75 rfl) e0  hml (argsL := [.int 1, .ref xb]) (rest := []) own_pd_13 d30_2 (fun _ T1 L1 X1 hQ1 => ?_)
  obtain ⟨Nc1, e1, rfl⟩ := hQ1
  have N1 := Fr.app N0 Nc1
  refine q_aloadN X1 hx hby d30_5 rfl rfl ?_
  refine q_iloadN X1 hx hby d30_6 rfl ?_
  refine k_S X1 hx hby hZ hown (wh hw 127 rfl) (wh hw 128 rfl) (W := 0) (own_gc3_1 l Z a0 hw [] xb xq y0 y1 y2 y3 y4 y5 h0 n0 O0 gz gfm G P0) (wh hw 129 rfl) (wh hw 75 rfl) e1  hml (argsL := [.ref xb, .int 1]) (rest := []) own_pd_5 d30_7 (fun _ T2 L2 X2 hQ2 => ?_)
  obtain ⟨Nc2, e2, rfl⟩ := hQ2
  have N2 := Fr.app N1 Nc2
  refine r_C X2 hx hby hret hlk d30_10 e2 ?_ (hn := (own_narr16 (own_C16i _)))
  exact ⟨N2, rfl, rfl⟩
theorem own_ef_own_lca3_1 (m : MethodId) (xb : Addr) : entryFrame m #[.ref xb, .int 1] 2 = mkF m 0 #[vR xb, vI 1] [] := by first | (simp [entryFrame, mkF, argsToLocals, Value.category]; done) | rfl
def Q_own_lca3_1 (Z : State) (xb : Addr) (xq : ClassId) (y0 : Int32) (y1 : Int32) (y2 : Int32) (gz : Int32) (gfm : Value) (h0 : Heap) (n0 : Nat) (v : Option Value) (h : Heap) (L : List Loc) : Prop := Fr n0 L ∧ h = h0 ∧ v = some (.int (y1 &&& (255 : Int32)))
theorem own_lca3_1 (l : Launch) (Z : State) (a0 : Array Value) (hw : ∀ d ∈ tables_1, d.before a0 Z = true) (ws : List Jvm.Cond) (xb : Addr) (xq : ClassId) (y0 : Int32) (y1 : Int32) (y2 : Int32) (h0 : Heap) (n0 : Nat) (O0 : Old Z n0 h0) (gz : Int32) (gfm : Value) (G : GG Z gz gfm) (P0 : Arv Z h0 xb xq .byte (3 : Int32) [.int y0, .int y1, .int y2] (.int 0)) : own_Met l Z (⟨"java/lang/StringLatin1", "charAt", "([BI)C"⟩ : MethodName) jdk_43_method_2_code 2 (some .char) ws ({ frames := 2, cells := 0, slots := 0, locals := 27 } : Room) #[.ref xb, .int 1] h0 (Q_own_lca3_1 Z xb xq y0 y1 y2 gz gfm h0 n0) := by
  refine own_mk (plainFor_of_name own_pn_java_lang_StringLatin1) O0 ?_
  intro p e s m below meth c s₁ hx hby hml hZ hown hnm hlk hret X0 e0 N0 z0 z1
  refine own_cast (own_ef_own_lca3_1 m xb) ?_
  show own_Goes p e below (s₁.setTop (mkF m 0 #[vR xb, vI 1] [])) _
  obtain ⟨G0, G1, G2, G3, G4, G5, G6⟩ := id G
  have ltP0 : @LT.lt Nat _ xb h0.size := P0.lt
  refine q_iloadN X0 hx hby d21_0 rfl ?_
  refine q_aloadN X0 hx hby d21_1 rfl rfl ?_
  refine q_len X0 hx hby hZ e0 P0 d21_2 ?_
  refine k_S X0 hx hby hZ hown (wh hw 96 rfl) (wh hw 97 rfl) (W := 0) (own_sci l Z a0 hw [] (1 : Int32) (3 : Int32) h0 n0 O0 gz gfm G (show ¬ (1 : Int32) < (0 : Int32) from (by first | assumption | decide)) (show (1 : Int32) < (3 : Int32) from (by first | assumption | decide))) (wh hw 98 rfl) (wh hw 13 rfl) e0  hml (argsL := [.int 1, .int 3]) (rest := []) own_pd_12 d21_3 (fun _ T2 L2 X2 hQ2 => ?_)
  obtain ⟨Nc2, e2, rfl⟩ := hQ2
  have N2 := Fr.app N0 Nc2
  refine q_aloadN X2 hx hby d21_6 rfl rfl ?_
  refine q_iloadN X2 hx hby d21_7 rfl ?_
  refine q_baloadBytes X2 hx hby hZ e2 P0 d21_8 (.int y1) ?_
  refine q_sipush X2 hx hby d21_9 ?_
  refine q_iand X2 hx hby d21_12 ?_
  refine gg (fun t k => XS.i2c X2.here hx rfl (hb hby d21_13) rfl k) ?_
  show own_Goes p e below (T2.setTop (mkF m 14 #[vR xb, vI 1] [(.int ((y1 &&& (255 : Int32)).toUInt32.toUInt16.toUInt32.toInt32))])) _
  rw [i2c_mask]
  show own_Goes p e below (T2.setTop (mkF m 14 #[vR xb, vI 1] [(.int (y1 &&& (255 : Int32)))])) _
  refine r_C X2 hx hby hret hlk d21_14 e2 ?_ (hn := (congrArg Value.int (i2c_mask _)))
  exact ⟨N2, rfl, rfl⟩
theorem own_ef_own_ca3_1 (m : MethodId) (xa : Addr) : entryFrame m #[.ref xa, .int 1] 2 = mkF m 0 #[vR xa, vI 1] [] := by first | (simp [entryFrame, mkF, argsToLocals, Value.category]; done) | rfl
def Q_own_ca3_1 (Z : State) (xa : Addr) (xt : Addr) (c0 : Int32) (c1 : Int32) (c2 : Int32) (gz : Int32) (gfm : Value) (h0 : Heap) (n0 : Nat) (v : Option Value) (h : Heap) (L : List Loc) : Prop := Fr n0 L ∧ h = h0 ∧ v = some (.int c1)
theorem own_ca3_1 (l : Launch) (Z : State) (a0 : Array Value) (hw : ∀ d ∈ tables_1, d.before a0 Z = true) (ws : List Jvm.Cond) (xa : Addr) (xt : Addr) (c0 : Int32) (c1 : Int32) (c2 : Int32) (h0 : Heap) (n0 : Nat) (O0 : Old Z n0 h0) (gz : Int32) (gfm : Value) (G : GG Z gz gfm) (P0 : own_Str Z h0 xa xt ([c0, c1, c2] : List Int32)) : own_Met l Z (⟨"java/lang/String", "charAt", "(I)C"⟩ : MethodName) jdk_42_method_56_code 2 (some .char) ws ({ frames := 4, cells := 0, slots := 0, locals := 53 } : Room) #[.ref xa, .int 1] h0 (Q_own_ca3_1 Z xa xt c0 c1 c2 gz gfm h0 n0) := by
  refine own_mk (plainFor_of_name own_pn_java_lang_String) O0 ?_
  intro p e s m below meth c s₁ hx hby hml hZ hown hnm hlk hret X0 e0 N0 z0 z1
  refine own_cast (own_ef_own_ca3_1 m xa) ?_
  show own_Goes p e below (s₁.setTop (mkF m 0 #[vR xa, vI 1] [])) _
  obtain ⟨G0, G1, G2, G3, G4, G5, G6⟩ := id G
  have ltP0 : @LT.lt Nat _ xa h0.size := P0.1.lt
  have luP0 : @LT.lt Nat _ xt h0.size := P0.lt2
  obtain ⟨Es1, Vs1, kbs1, cds1, Ns1, vss1, Cs1, As1, hCs1, hbs1, hls1⟩ := id P0
  rcases hCs1 with ⟨rfl, rfl, rfl, hLs1⟩ | ⟨rfl, rfl, rfl, hWs1⟩
  · have Bs1 : Arv Z h0 xt kbs1 .byte (3 : Int32) [(.int (c0.toInt8.toInt32)), (.int (c1.toInt8.toInt32)), (.int (c2.toInt8.toInt32))] (.int 0) := As1
    have Ds1 : Fld Z h0 xa "java/lang/String" "coder" "B" (.int 0) := Cs1
    show own_Goes p e below (s₁.setTop (mkF m 0 #[vR xa, vI 1] [])) _
    refine q_aloadN X0 hx hby d19_0 rfl rfl ?_
    refine k_V X0 hx hby hZ hown (wh hw 88 rfl) (wh hw 89 rfl) (wh hw 91 rfl) (wh hw 90 rfl) (W := 0) (own_isL0 l Z a0 hw [] xa h0 n0 O0 gz gfm G Ds1) (wh hw 92 rfl) (wh hw 13 rfl) e0 Es1  hml (argsL := []) (rest := []) own_pd_14 d19_1 (fun _ T2 L2 X2 hQ2 => ?_)
    obtain ⟨Nc2, e2, rfl⟩ := hQ2
    have N2 := Fr.app N0 Nc2
    refine q_ifNo X2 hx hby d19_4 ((if0 _ _).trans (feq (show ¬ ((1 : Int32) = (0 : Int32)) from by decide)).1) ?_
    refine q_aloadN X2 hx hby d19_7 rfl rfl ?_
    refine qG X2 hx hby hZ hown (wh hw 30 rfl) e2 Vs1 d19_8 (fun T3 X3 e3 => ?_)
    refine q_iloadN X3 hx hby d19_11 rfl ?_
    refine k_S X3 hx hby hZ hown (wh hw 93 rfl) (wh hw 94 rfl) (W := 0) (own_lca3_1 l Z a0 hw [] xt kbs1 (c0.toInt8.toInt32) (c1.toInt8.toInt32) (c2.toInt8.toInt32) h0 n0 O0 gz gfm G Bs1) (wh hw 95 rfl) (wh hw 38 rfl) e3  hml (argsL := [.ref xt, .int 1]) (rest := []) own_pd_5 d19_12 (fun _ T4 L4 X4 hQ4 => ?_)
    obtain ⟨Nc4, e4, rfl⟩ := hQ4
    have N4 := Fr.app N2 Nc4
    show own_Goes p e below (T4.setTop (mkF m 15 #[vR xa, vI 1] [(.int ((c1.toInt8.toInt32) &&& (255 : Int32)))])) _
    rw [show ((c1.toInt8.toInt32) &&& (255 : Int32)) = c1 from own_b8 (hbs1 c1 (by simp)) (hLs1 c1 (by simp))]
    refine r_C X4 hx hby hret hlk d19_15 e4 ?_ (hn := (own_narr16 (hbs1 c1 (by simp))))
    exact ⟨N4, rfl, rfl⟩
  · have Bs1 : Arv Z h0 xt kbs1 .byte (6 : Int32) [(.int (c0.toInt8.toInt32)), (.int ((c0 >>> ((8 : Int32) &&& 31)).toInt8.toInt32)), (.int (c1.toInt8.toInt32)), (.int ((c1 >>> ((8 : Int32) &&& 31)).toInt8.toInt32)), (.int (c2.toInt8.toInt32)), (.int ((c2 >>> ((8 : Int32) &&& 31)).toInt8.toInt32))] (.int 0) := As1
    have Ds1 : Fld Z h0 xa "java/lang/String" "coder" "B" (.int 1) := Cs1
    show own_Goes p e below (s₁.setTop (mkF m 0 #[vR xa, vI 1] [])) _
    refine q_aloadN X0 hx hby d19_0 rfl rfl ?_
    refine k_V X0 hx hby hZ hown (wh hw 88 rfl) (wh hw 89 rfl) (wh hw 91 rfl) (wh hw 90 rfl) (W := 0) (own_isL1 l Z a0 hw [] xa h0 n0 O0 gz gfm G Ds1) (wh hw 92 rfl) (wh hw 13 rfl) e0 Es1  hml (argsL := []) (rest := []) own_pd_14 d19_1 (fun _ T5 L5 X5 hQ5 => ?_)
    obtain ⟨Nc5, e5, rfl⟩ := hQ5
    have N5 := Fr.app N0 Nc5
    refine q_ifYes (pc := 4) X5 hx hby d19_4 (pc' := 16) ((if0 _ _).trans (teq (show ((0 : Int32) = (0 : Int32)) from by decide)).1) (by decide) (by decide) ?_
    refine q_aloadN X5 hx hby d19_16 rfl rfl ?_
    refine qG X5 hx hby hZ hown (wh hw 30 rfl) e5 Vs1 d19_17 (fun T6 X6 e6 => ?_)
    refine q_iloadN X6 hx hby d19_20 rfl ?_
    refine k_S X6 hx hby hZ hown (wh hw 130 rfl) (wh hw 131 rfl) (W := 0) (own_uca3_1 l Z a0 hw [] xt kbs1 (c0.toInt8.toInt32) ((c0 >>> ((8 : Int32) &&& 31)).toInt8.toInt32) (c1.toInt8.toInt32) ((c1 >>> ((8 : Int32) &&& 31)).toInt8.toInt32) (c2.toInt8.toInt32) ((c2 >>> ((8 : Int32) &&& 31)).toInt8.toInt32) h0 n0 O0 gz gfm G Bs1) (wh hw 132 rfl) (wh hw 75 rfl) e6  hml (argsL := [.ref xt, .int 1]) (rest := []) own_pd_5 d19_21 (fun _ T7 L7 X7 hQ7 => ?_)
    obtain ⟨Nc7, e7, rfl⟩ := hQ7
    have N7 := Fr.app N5 Nc7
    show own_Goes p e below (T7.setTop (mkF m 24 #[vR xa, vI 1] [(.int (((((c1.toInt8.toInt32) &&& (255 : Int32)) <<< ((0 : Int32) &&& 31)) ||| ((((c1 >>> ((8 : Int32) &&& 31)).toInt8.toInt32) &&& (255 : Int32)) <<< ((8 : Int32) &&& 31))).toUInt32.toUInt16.toUInt32.toInt32))])) _
    rw [show (((((c1.toInt8.toInt32) &&& (255 : Int32)) <<< ((0 : Int32) &&& 31)) ||| ((((c1 >>> ((8 : Int32) &&& 31)).toInt8.toInt32) &&& (255 : Int32)) <<< ((8 : Int32) &&& 31))).toUInt32.toUInt16.toUInt32.toInt32) = c1 from own_g16 (hbs1 c1 (by simp))]
    refine r_C X7 hx hby hret hlk d19_24 e7 ?_ (hn := (own_narr16 (hbs1 c1 (by simp))))
    exact ⟨N7, rfl, rfl⟩
theorem own_ef_own_uca3_2 (m : MethodId) (xb : Addr) : entryFrame m #[.ref xb, .int 2] 2 = mkF m 0 #[vR xb, vI 2] [] := by first | (simp [entryFrame, mkF, argsToLocals, Value.category]; done) | rfl
def Q_own_uca3_2 (Z : State) (xb : Addr) (xq : ClassId) (y0 : Int32) (y1 : Int32) (y2 : Int32) (y3 : Int32) (y4 : Int32) (y5 : Int32) (gz : Int32) (gfm : Value) (h0 : Heap) (n0 : Nat) (v : Option Value) (h : Heap) (L : List Loc) : Prop := Fr n0 L ∧ h = h0 ∧ v = some (.int ((((y4 &&& (255 : Int32)) <<< ((0 : Int32) &&& 31)) ||| ((y5 &&& (255 : Int32)) <<< ((8 : Int32) &&& 31))).toUInt32.toUInt16.toUInt32.toInt32))
theorem own_uca3_2 (l : Launch) (Z : State) (a0 : Array Value) (hw : ∀ d ∈ tables_1, d.before a0 Z = true) (ws : List Jvm.Cond) (xb : Addr) (xq : ClassId) (y0 : Int32) (y1 : Int32) (y2 : Int32) (y3 : Int32) (y4 : Int32) (y5 : Int32) (h0 : Heap) (n0 : Nat) (O0 : Old Z n0 h0) (gz : Int32) (gfm : Value) (G : GG Z gz gfm) (P0 : Arv Z h0 xb xq .byte (6 : Int32) [.int y0, .int y1, .int y2, .int y3, .int y4, .int y5] (.int 0)) : own_Met l Z (⟨"java/lang/StringUTF16", "charAt", "([BI)C"⟩ : MethodName) jdk_52_method_83_code 2 (some .char) ws ({ frames := 3, cells := 0, slots := 0, locals := 40 } : Room) #[.ref xb, .int 2] h0 (Q_own_uca3_2 Z xb xq y0 y1 y2 y3 y4 y5 gz gfm h0 n0) := by
  refine own_mk (plainFor_of_name own_pn_java_lang_StringUTF16) O0 ?_
  intro p e s m below meth c s₁ hx hby hml hZ hown hnm hlk hret X0 e0 N0 z0 z1
  refine own_cast (own_ef_own_uca3_2 m xb) ?_
  show own_Goes p e below (s₁.setTop (mkF m 0 #[vR xb, vI 2] [])) _
  obtain ⟨G0, G1, G2, G3, G4, G5, G6⟩ := id G
  have ltP0 : @LT.lt Nat _ xb h0.size := P0.lt
  refine q_iloadN X0 hx hby d30_0 rfl ?_
  refine q_aloadN X0 hx hby d30_1 rfl rfl ?_
  refine k_S X0 hx hby hZ hown (wh hw 133 rfl) (wh hw 134 rfl) (W := 0) (own_uci3 l Z a0 hw [] (2 : Int32) xb xq y0 y1 y2 y3 y4 y5 h0 n0 O0 gz gfm G P0 (show ¬ (2 : Int32) < (0 : Int32) from (by first | assumption | decide)) (show (2 : Int32) < (3 : Int32) from (by first | assumption | decide))) (wh hw 135 rfl) (wh hw 75 rfl) e0  hml (argsL := [.int 2, .ref xb]) (rest := []) own_pd_13 d30_2 (fun _ T1 L1 X1 hQ1 => ?_)
  obtain ⟨Nc1, e1, rfl⟩ := hQ1
  have N1 := Fr.app N0 Nc1
  refine q_aloadN X1 hx hby d30_5 rfl rfl ?_
  refine q_iloadN X1 hx hby d30_6 rfl ?_
  refine k_S X1 hx hby hZ hown (wh hw 127 rfl) (wh hw 128 rfl) (W := 0) (own_gc3_2 l Z a0 hw [] xb xq y0 y1 y2 y3 y4 y5 h0 n0 O0 gz gfm G P0) (wh hw 129 rfl) (wh hw 75 rfl) e1  hml (argsL := [.ref xb, .int 2]) (rest := []) own_pd_5 d30_7 (fun _ T2 L2 X2 hQ2 => ?_)
  obtain ⟨Nc2, e2, rfl⟩ := hQ2
  have N2 := Fr.app N1 Nc2
  refine r_C X2 hx hby hret hlk d30_10 e2 ?_ (hn := (own_narr16 (own_C16i _)))
  exact ⟨N2, rfl, rfl⟩
theorem own_ef_own_lca3_2 (m : MethodId) (xb : Addr) : entryFrame m #[.ref xb, .int 2] 2 = mkF m 0 #[vR xb, vI 2] [] := by first | (simp [entryFrame, mkF, argsToLocals, Value.category]; done) | rfl
def Q_own_lca3_2 (Z : State) (xb : Addr) (xq : ClassId) (y0 : Int32) (y1 : Int32) (y2 : Int32) (gz : Int32) (gfm : Value) (h0 : Heap) (n0 : Nat) (v : Option Value) (h : Heap) (L : List Loc) : Prop := Fr n0 L ∧ h = h0 ∧ v = some (.int (y2 &&& (255 : Int32)))
theorem own_lca3_2 (l : Launch) (Z : State) (a0 : Array Value) (hw : ∀ d ∈ tables_1, d.before a0 Z = true) (ws : List Jvm.Cond) (xb : Addr) (xq : ClassId) (y0 : Int32) (y1 : Int32) (y2 : Int32) (h0 : Heap) (n0 : Nat) (O0 : Old Z n0 h0) (gz : Int32) (gfm : Value) (G : GG Z gz gfm) (P0 : Arv Z h0 xb xq .byte (3 : Int32) [.int y0, .int y1, .int y2] (.int 0)) : own_Met l Z (⟨"java/lang/StringLatin1", "charAt", "([BI)C"⟩ : MethodName) jdk_43_method_2_code 2 (some .char) ws ({ frames := 2, cells := 0, slots := 0, locals := 27 } : Room) #[.ref xb, .int 2] h0 (Q_own_lca3_2 Z xb xq y0 y1 y2 gz gfm h0 n0) := by
  refine own_mk (plainFor_of_name own_pn_java_lang_StringLatin1) O0 ?_
  intro p e s m below meth c s₁ hx hby hml hZ hown hnm hlk hret X0 e0 N0 z0 z1
  refine own_cast (own_ef_own_lca3_2 m xb) ?_
  show own_Goes p e below (s₁.setTop (mkF m 0 #[vR xb, vI 2] [])) _
  obtain ⟨G0, G1, G2, G3, G4, G5, G6⟩ := id G
  have ltP0 : @LT.lt Nat _ xb h0.size := P0.lt
  refine q_iloadN X0 hx hby d21_0 rfl ?_
  refine q_aloadN X0 hx hby d21_1 rfl rfl ?_
  refine q_len X0 hx hby hZ e0 P0 d21_2 ?_
  refine k_S X0 hx hby hZ hown (wh hw 96 rfl) (wh hw 97 rfl) (W := 0) (own_sci l Z a0 hw [] (2 : Int32) (3 : Int32) h0 n0 O0 gz gfm G (show ¬ (2 : Int32) < (0 : Int32) from (by first | assumption | decide)) (show (2 : Int32) < (3 : Int32) from (by first | assumption | decide))) (wh hw 98 rfl) (wh hw 13 rfl) e0  hml (argsL := [.int 2, .int 3]) (rest := []) own_pd_12 d21_3 (fun _ T2 L2 X2 hQ2 => ?_)
  obtain ⟨Nc2, e2, rfl⟩ := hQ2
  have N2 := Fr.app N0 Nc2
  refine q_aloadN X2 hx hby d21_6 rfl rfl ?_
  refine q_iloadN X2 hx hby d21_7 rfl ?_
  refine q_baloadBytes X2 hx hby hZ e2 P0 d21_8 (.int y2) ?_
  refine q_sipush X2 hx hby d21_9 ?_
  refine q_iand X2 hx hby d21_12 ?_
  refine gg (fun t k => XS.i2c X2.here hx rfl (hb hby d21_13) rfl k) ?_
  show own_Goes p e below (T2.setTop (mkF m 14 #[vR xb, vI 2] [(.int ((y2 &&& (255 : Int32)).toUInt32.toUInt16.toUInt32.toInt32))])) _
  rw [i2c_mask]
  show own_Goes p e below (T2.setTop (mkF m 14 #[vR xb, vI 2] [(.int (y2 &&& (255 : Int32)))])) _
  refine r_C X2 hx hby hret hlk d21_14 e2 ?_ (hn := (congrArg Value.int (i2c_mask _)))
  exact ⟨N2, rfl, rfl⟩
theorem own_ef_own_ca3_2 (m : MethodId) (xa : Addr) : entryFrame m #[.ref xa, .int 2] 2 = mkF m 0 #[vR xa, vI 2] [] := by first | (simp [entryFrame, mkF, argsToLocals, Value.category]; done) | rfl
def Q_own_ca3_2 (Z : State) (xa : Addr) (xt : Addr) (c0 : Int32) (c1 : Int32) (c2 : Int32) (gz : Int32) (gfm : Value) (h0 : Heap) (n0 : Nat) (v : Option Value) (h : Heap) (L : List Loc) : Prop := Fr n0 L ∧ h = h0 ∧ v = some (.int c2)
theorem own_ca3_2 (l : Launch) (Z : State) (a0 : Array Value) (hw : ∀ d ∈ tables_1, d.before a0 Z = true) (ws : List Jvm.Cond) (xa : Addr) (xt : Addr) (c0 : Int32) (c1 : Int32) (c2 : Int32) (h0 : Heap) (n0 : Nat) (O0 : Old Z n0 h0) (gz : Int32) (gfm : Value) (G : GG Z gz gfm) (P0 : own_Str Z h0 xa xt ([c0, c1, c2] : List Int32)) : own_Met l Z (⟨"java/lang/String", "charAt", "(I)C"⟩ : MethodName) jdk_42_method_56_code 2 (some .char) ws ({ frames := 4, cells := 0, slots := 0, locals := 53 } : Room) #[.ref xa, .int 2] h0 (Q_own_ca3_2 Z xa xt c0 c1 c2 gz gfm h0 n0) := by
  refine own_mk (plainFor_of_name own_pn_java_lang_String) O0 ?_
  intro p e s m below meth c s₁ hx hby hml hZ hown hnm hlk hret X0 e0 N0 z0 z1
  refine own_cast (own_ef_own_ca3_2 m xa) ?_
  show own_Goes p e below (s₁.setTop (mkF m 0 #[vR xa, vI 2] [])) _
  obtain ⟨G0, G1, G2, G3, G4, G5, G6⟩ := id G
  have ltP0 : @LT.lt Nat _ xa h0.size := P0.1.lt
  have luP0 : @LT.lt Nat _ xt h0.size := P0.lt2
  obtain ⟨Es1, Vs1, kbs1, cds1, Ns1, vss1, Cs1, As1, hCs1, hbs1, hls1⟩ := id P0
  rcases hCs1 with ⟨rfl, rfl, rfl, hLs1⟩ | ⟨rfl, rfl, rfl, hWs1⟩
  · have Bs1 : Arv Z h0 xt kbs1 .byte (3 : Int32) [(.int (c0.toInt8.toInt32)), (.int (c1.toInt8.toInt32)), (.int (c2.toInt8.toInt32))] (.int 0) := As1
    have Ds1 : Fld Z h0 xa "java/lang/String" "coder" "B" (.int 0) := Cs1
    show own_Goes p e below (s₁.setTop (mkF m 0 #[vR xa, vI 2] [])) _
    refine q_aloadN X0 hx hby d19_0 rfl rfl ?_
    refine k_V X0 hx hby hZ hown (wh hw 88 rfl) (wh hw 89 rfl) (wh hw 91 rfl) (wh hw 90 rfl) (W := 0) (own_isL0 l Z a0 hw [] xa h0 n0 O0 gz gfm G Ds1) (wh hw 92 rfl) (wh hw 13 rfl) e0 Es1  hml (argsL := []) (rest := []) own_pd_14 d19_1 (fun _ T2 L2 X2 hQ2 => ?_)
    obtain ⟨Nc2, e2, rfl⟩ := hQ2
    have N2 := Fr.app N0 Nc2
    refine q_ifNo X2 hx hby d19_4 ((if0 _ _).trans (feq (show ¬ ((1 : Int32) = (0 : Int32)) from by decide)).1) ?_
    refine q_aloadN X2 hx hby d19_7 rfl rfl ?_
    refine qG X2 hx hby hZ hown (wh hw 30 rfl) e2 Vs1 d19_8 (fun T3 X3 e3 => ?_)
    refine q_iloadN X3 hx hby d19_11 rfl ?_
    refine k_S X3 hx hby hZ hown (wh hw 93 rfl) (wh hw 94 rfl) (W := 0) (own_lca3_2 l Z a0 hw [] xt kbs1 (c0.toInt8.toInt32) (c1.toInt8.toInt32) (c2.toInt8.toInt32) h0 n0 O0 gz gfm G Bs1) (wh hw 95 rfl) (wh hw 38 rfl) e3  hml (argsL := [.ref xt, .int 2]) (rest := []) own_pd_5 d19_12 (fun _ T4 L4 X4 hQ4 => ?_)
    obtain ⟨Nc4, e4, rfl⟩ := hQ4
    have N4 := Fr.app N2 Nc4
    show own_Goes p e below (T4.setTop (mkF m 15 #[vR xa, vI 2] [(.int ((c2.toInt8.toInt32) &&& (255 : Int32)))])) _
    rw [show ((c2.toInt8.toInt32) &&& (255 : Int32)) = c2 from own_b8 (hbs1 c2 (by simp)) (hLs1 c2 (by simp))]
    refine r_C X4 hx hby hret hlk d19_15 e4 ?_ (hn := (own_narr16 (hbs1 c2 (by simp))))
    exact ⟨N4, rfl, rfl⟩
  · have Bs1 : Arv Z h0 xt kbs1 .byte (6 : Int32) [(.int (c0.toInt8.toInt32)), (.int ((c0 >>> ((8 : Int32) &&& 31)).toInt8.toInt32)), (.int (c1.toInt8.toInt32)), (.int ((c1 >>> ((8 : Int32) &&& 31)).toInt8.toInt32)), (.int (c2.toInt8.toInt32)), (.int ((c2 >>> ((8 : Int32) &&& 31)).toInt8.toInt32))] (.int 0) := As1
    have Ds1 : Fld Z h0 xa "java/lang/String" "coder" "B" (.int 1) := Cs1
    show own_Goes p e below (s₁.setTop (mkF m 0 #[vR xa, vI 2] [])) _
    refine q_aloadN X0 hx hby d19_0 rfl rfl ?_
    refine k_V X0 hx hby hZ hown (wh hw 88 rfl) (wh hw 89 rfl) (wh hw 91 rfl) (wh hw 90 rfl) (W := 0) (own_isL1 l Z a0 hw [] xa h0 n0 O0 gz gfm G Ds1) (wh hw 92 rfl) (wh hw 13 rfl) e0 Es1  hml (argsL := []) (rest := []) own_pd_14 d19_1 (fun _ T5 L5 X5 hQ5 => ?_)
    obtain ⟨Nc5, e5, rfl⟩ := hQ5
    have N5 := Fr.app N0 Nc5
    refine q_ifYes (pc := 4) X5 hx hby d19_4 (pc' := 16) ((if0 _ _).trans (teq (show ((0 : Int32) = (0 : Int32)) from by decide)).1) (by decide) (by decide) ?_
    refine q_aloadN X5 hx hby d19_16 rfl rfl ?_
    refine qG X5 hx hby hZ hown (wh hw 30 rfl) e5 Vs1 d19_17 (fun T6 X6 e6 => ?_)
    refine q_iloadN X6 hx hby d19_20 rfl ?_
    refine k_S X6 hx hby hZ hown (wh hw 130 rfl) (wh hw 131 rfl) (W := 0) (own_uca3_2 l Z a0 hw [] xt kbs1 (c0.toInt8.toInt32) ((c0 >>> ((8 : Int32) &&& 31)).toInt8.toInt32) (c1.toInt8.toInt32) ((c1 >>> ((8 : Int32) &&& 31)).toInt8.toInt32) (c2.toInt8.toInt32) ((c2 >>> ((8 : Int32) &&& 31)).toInt8.toInt32) h0 n0 O0 gz gfm G Bs1) (wh hw 132 rfl) (wh hw 75 rfl) e6  hml (argsL := [.ref xt, .int 2]) (rest := []) own_pd_5 d19_21 (fun _ T7 L7 X7 hQ7 => ?_)
    obtain ⟨Nc7, e7, rfl⟩ := hQ7
    have N7 := Fr.app N5 Nc7
    show own_Goes p e below (T7.setTop (mkF m 24 #[vR xa, vI 2] [(.int (((((c2.toInt8.toInt32) &&& (255 : Int32)) <<< ((0 : Int32) &&& 31)) ||| ((((c2 >>> ((8 : Int32) &&& 31)).toInt8.toInt32) &&& (255 : Int32)) <<< ((8 : Int32) &&& 31))).toUInt32.toUInt16.toUInt32.toInt32))])) _
    rw [show (((((c2.toInt8.toInt32) &&& (255 : Int32)) <<< ((0 : Int32) &&& 31)) ||| ((((c2 >>> ((8 : Int32) &&& 31)).toInt8.toInt32) &&& (255 : Int32)) <<< ((8 : Int32) &&& 31))).toUInt32.toUInt16.toUInt32.toInt32) = c2 from own_g16 (hbs1 c2 (by simp))]
    refine r_C X7 hx hby hret hlk d19_24 e7 ?_ (hn := (own_narr16 (hbs1 c2 (by simp))))
    exact ⟨N7, rfl, rfl⟩
theorem own_ef_own_ul4 (m : MethodId) (xb : Addr) : entryFrame m #[.ref xb] 1 = mkF m 0 #[vR xb] [] := by first | (simp [entryFrame, mkF, argsToLocals, Value.category]; done) | rfl
def Q_own_ul4 (Z : State) (xb : Addr) (xq : ClassId) (y0 : Int32) (y1 : Int32) (y2 : Int32) (y3 : Int32) (y4 : Int32) (y5 : Int32) (y6 : Int32) (y7 : Int32) (h0 : Heap) (n0 : Nat) (v : Option Value) (h : Heap) (L : List Loc) : Prop := Fr n0 L ∧ h = h0 ∧ v = some (.int 4)
theorem own_ul4 (l : Launch) (Z : State) (a0 : Array Value) (hw : ∀ d ∈ tables_1, d.before a0 Z = true) (ws : List Jvm.Cond) (xb : Addr) (xq : ClassId) (y0 : Int32) (y1 : Int32) (y2 : Int32) (y3 : Int32) (y4 : Int32) (y5 : Int32) (y6 : Int32) (y7 : Int32) (h0 : Heap) (n0 : Nat) (O0 : Old Z n0 h0) (P0 : Arv Z h0 xb xq .byte (8 : Int32) [.int y0, .int y1, .int y2, .int y3, .int y4, .int y5, .int y6, .int y7] (.int 0)) : own_Met l Z (⟨"java/lang/StringUTF16", "length", "([B)I"⟩ : MethodName) jdk_52_method_6_code 1 (some .int) ws ({ frames := 0, cells := 0, slots := 0, locals := 0 } : Room) #[.ref xb] h0 (Q_own_ul4 Z xb xq y0 y1 y2 y3 y4 y5 y6 y7 h0 n0) := by
  refine own_mk (plainFor_of_name own_pn_java_lang_StringUTF16) O0 ?_
  intro p e s m below meth c s₁ hx hby hml hZ hown hnm hlk hret X0 e0 N0 z0 z1
  refine own_cast (own_ef_own_ul4 m xb) ?_
  show own_Goes p e below (s₁.setTop (mkF m 0 #[vR xb] [])) _
  have ltP0 : @LT.lt Nat _ xb h0.size := P0.lt
  refine q_aloadN X0 hx hby d32_0 rfl rfl ?_
  refine q_len X0 hx hby hZ e0 P0 d32_1 ?_
  refine q_iconst X0 hx hby d32_2 ?_
  refine gg (fun t k => XS.ishr X0.here hx rfl (hb hby d32_3) rfl k) ?_
  show own_Goes p e below (s₁.setTop (mkF m 4 #[vR xb] [(.int ((8 : Int32) >>> ((1 : Int32) &&& 31)))])) _
  rw [show ((8 : Int32) >>> ((1 : Int32) &&& 31)) = (4 : Int32) from by decide]
  refine r_I X0 hx hby hret hlk d32_4 e0 ?_
  exact ⟨N0, rfl, rfl⟩
theorem own_ef_own_uci4 (m : MethodId) (xi : Int32) (xb : Addr) : entryFrame m #[.int xi, .ref xb] 2 = mkF m 0 #[vI xi, vR xb] [] := by first | (simp [entryFrame, mkF, argsToLocals, Value.category]; done) | rfl
def Q_own_uci4 (Z : State) (xi : Int32) (xb : Addr) (xq : ClassId) (y0 : Int32) (y1 : Int32) (y2 : Int32) (y3 : Int32) (y4 : Int32) (y5 : Int32) (y6 : Int32) (y7 : Int32) (gz : Int32) (gfm : Value) (h0 : Heap) (n0 : Nat) (v : Option Value) (h : Heap) (L : List Loc) : Prop := Fr n0 L ∧ h = h0 ∧ v = none
theorem own_uci4 (l : Launch) (Z : State) (a0 : Array Value) (hw : ∀ d ∈ tables_1, d.before a0 Z = true) (ws : List Jvm.Cond) (xi : Int32) (xb : Addr) (xq : ClassId) (y0 : Int32) (y1 : Int32) (y2 : Int32) (y3 : Int32) (y4 : Int32) (y5 : Int32) (y6 : Int32) (y7 : Int32) (h0 : Heap) (n0 : Nat) (O0 : Old Z n0 h0) (gz : Int32) (gfm : Value) (G : GG Z gz gfm) (P0 : Arv Z h0 xb xq .byte (8 : Int32) [.int y0, .int y1, .int y2, .int y3, .int y4, .int y5, .int y6, .int y7] (.int 0)) (P1 : ¬ xi < (0 : Int32)) (P2 : xi < (4 : Int32)) : own_Met l Z (⟨"java/lang/StringUTF16", "checkIndex", "(I[B)V"⟩ : MethodName) jdk_52_method_91_code 2 none ws ({ frames := 2, cells := 0, slots := 0, locals := 27 } : Room) #[.int xi, .ref xb] h0 (Q_own_uci4 Z xi xb xq y0 y1 y2 y3 y4 y5 y6 y7 gz gfm h0 n0) := by
  refine own_mk (plainFor_of_name own_pn_java_lang_StringUTF16) O0 ?_
  intro p e s m below meth c s₁ hx hby hml hZ hown hnm hlk hret X0 e0 N0 z0 z1
  refine own_cast (own_ef_own_uci4 m xi xb) ?_
  show own_Goes p e below (s₁.setTop (mkF m 0 #[vI xi, vR xb] [])) _
  obtain ⟨G0, G1, G2, G3, G4, G5, G6⟩ := id G
  have ltP0 : @LT.lt Nat _ xb h0.size := P0.lt
  refine q_iloadN X0 hx hby d31_0 rfl ?_
  refine q_aloadN X0 hx hby d31_1 rfl rfl ?_
  refine k_S X0 hx hby hZ hown (wh hw 136 rfl) (wh hw 137 rfl) (W := 1) (own_ul4 l Z a0 hw [] xb xq y0 y1 y2 y3 y4 y5 y6 y7 h0 n0 O0 P0) (wh hw 138 rfl) (wh hw 75 rfl) e0  hml (argsL := [.ref xb]) (rest := [.int xi]) own_pd_11 d31_2 (fun _ T1 L1 X1 hQ1 => ?_)
  obtain ⟨Nc1, e1, rfl⟩ := hQ1
  have N1 := Fr.app N0 Nc1
  refine k_S X1 hx hby hZ hown (wh hw 139 rfl) (wh hw 97 rfl) (W := 0) (own_sci l Z a0 hw [] xi (4 : Int32) h0 n0 O0 gz gfm G (show ¬ xi < (0 : Int32) from (by first | assumption | decide)) (show xi < (4 : Int32) from (by first | assumption | decide))) (wh hw 98 rfl) (wh hw 13 rfl) e1  hml (argsL := [.int xi, .int 4]) (rest := []) own_pd_12 d31_5 (fun _ T2 L2 X2 hQ2 => ?_)
  obtain ⟨Nc2, e2, rfl⟩ := hQ2
  have N2 := Fr.app N1 Nc2
  refine r_V X2 hx hby hret hlk d31_8 e2 ?_
  exact ⟨N2, rfl, rfl⟩
theorem own_ef_own_uca4_0 (m : MethodId) (xb : Addr) : entryFrame m #[.ref xb, .int 0] 2 = mkF m 0 #[vR xb, vI 0] [] := by first | (simp [entryFrame, mkF, argsToLocals, Value.category]; done) | rfl
def Q_own_uca4_0 (Z : State) (xb : Addr) (xq : ClassId) (y0 : Int32) (y1 : Int32) (y2 : Int32) (y3 : Int32) (y4 : Int32) (y5 : Int32) (y6 : Int32) (y7 : Int32) (gz : Int32) (gfm : Value) (h0 : Heap) (n0 : Nat) (v : Option Value) (h : Heap) (L : List Loc) : Prop := Fr n0 L ∧ h = h0 ∧ v = some (.int ((((y0 &&& (255 : Int32)) <<< ((0 : Int32) &&& 31)) ||| ((y1 &&& (255 : Int32)) <<< ((8 : Int32) &&& 31))).toUInt32.toUInt16.toUInt32.toInt32))
theorem own_uca4_0 (l : Launch) (Z : State) (a0 : Array Value) (hw : ∀ d ∈ tables_1, d.before a0 Z = true) (ws : List Jvm.Cond) (xb : Addr) (xq : ClassId) (y0 : Int32) (y1 : Int32) (y2 : Int32) (y3 : Int32) (y4 : Int32) (y5 : Int32) (y6 : Int32) (y7 : Int32) (h0 : Heap) (n0 : Nat) (O0 : Old Z n0 h0) (gz : Int32) (gfm : Value) (G : GG Z gz gfm) (P0 : Arv Z h0 xb xq .byte (8 : Int32) [.int y0, .int y1, .int y2, .int y3, .int y4, .int y5, .int y6, .int y7] (.int 0)) : own_Met l Z (⟨"java/lang/StringUTF16", "charAt", "([BI)C"⟩ : MethodName) jdk_52_method_83_code 2 (some .char) ws ({ frames := 3, cells := 0, slots := 0, locals := 40 } : Room) #[.ref xb, .int 0] h0 (Q_own_uca4_0 Z xb xq y0 y1 y2 y3 y4 y5 y6 y7 gz gfm h0 n0) := by
  refine own_mk (plainFor_of_name own_pn_java_lang_StringUTF16) O0 ?_
  intro p e s m below meth c s₁ hx hby hml hZ hown hnm hlk hret X0 e0 N0 z0 z1
  refine own_cast (own_ef_own_uca4_0 m xb) ?_
  show own_Goes p e below (s₁.setTop (mkF m 0 #[vR xb, vI 0] [])) _
  obtain ⟨G0, G1, G2, G3, G4, G5, G6⟩ := id G
  have ltP0 : @LT.lt Nat _ xb h0.size := P0.lt
  refine q_iloadN X0 hx hby d30_0 rfl ?_
  refine q_aloadN X0 hx hby d30_1 rfl rfl ?_
  refine k_S X0 hx hby hZ hown (wh hw 133 rfl) (wh hw 134 rfl) (W := 0) (own_uci4 l Z a0 hw [] (0 : Int32) xb xq y0 y1 y2 y3 y4 y5 y6 y7 h0 n0 O0 gz gfm G P0 (show ¬ (0 : Int32) < (0 : Int32) from (by first | assumption | decide)) (show (0 : Int32) < (4 : Int32) from (by first | assumption | decide))) (wh hw 135 rfl) (wh hw 75 rfl) e0  hml (argsL := [.int 0, .ref xb]) (rest := []) own_pd_13 d30_2 (fun _ T1 L1 X1 hQ1 => ?_)
  obtain ⟨Nc1, e1, rfl⟩ := hQ1
  have N1 := Fr.app N0 Nc1
  refine q_aloadN X1 hx hby d30_5 rfl rfl ?_
  refine q_iloadN X1 hx hby d30_6 rfl ?_
  refine k_S X1 hx hby hZ hown (wh hw 127 rfl) (wh hw 128 rfl) (W := 0) (own_gc4_0 l Z a0 hw [] xb xq y0 y1 y2 y3 y4 y5 y6 y7 h0 n0 O0 gz gfm G P0) (wh hw 129 rfl) (wh hw 75 rfl) e1  hml (argsL := [.ref xb, .int 0]) (rest := []) own_pd_5 d30_7 (fun _ T2 L2 X2 hQ2 => ?_)
  obtain ⟨Nc2, e2, rfl⟩ := hQ2
  have N2 := Fr.app N1 Nc2
  refine r_C X2 hx hby hret hlk d30_10 e2 ?_ (hn := (own_narr16 (own_C16i _)))
  exact ⟨N2, rfl, rfl⟩
theorem own_ef_own_lca4_0 (m : MethodId) (xb : Addr) : entryFrame m #[.ref xb, .int 0] 2 = mkF m 0 #[vR xb, vI 0] [] := by first | (simp [entryFrame, mkF, argsToLocals, Value.category]; done) | rfl
def Q_own_lca4_0 (Z : State) (xb : Addr) (xq : ClassId) (y0 : Int32) (y1 : Int32) (y2 : Int32) (y3 : Int32) (gz : Int32) (gfm : Value) (h0 : Heap) (n0 : Nat) (v : Option Value) (h : Heap) (L : List Loc) : Prop := Fr n0 L ∧ h = h0 ∧ v = some (.int (y0 &&& (255 : Int32)))
theorem own_lca4_0 (l : Launch) (Z : State) (a0 : Array Value) (hw : ∀ d ∈ tables_1, d.before a0 Z = true) (ws : List Jvm.Cond) (xb : Addr) (xq : ClassId) (y0 : Int32) (y1 : Int32) (y2 : Int32) (y3 : Int32) (h0 : Heap) (n0 : Nat) (O0 : Old Z n0 h0) (gz : Int32) (gfm : Value) (G : GG Z gz gfm) (P0 : Arv Z h0 xb xq .byte (4 : Int32) [.int y0, .int y1, .int y2, .int y3] (.int 0)) : own_Met l Z (⟨"java/lang/StringLatin1", "charAt", "([BI)C"⟩ : MethodName) jdk_43_method_2_code 2 (some .char) ws ({ frames := 2, cells := 0, slots := 0, locals := 27 } : Room) #[.ref xb, .int 0] h0 (Q_own_lca4_0 Z xb xq y0 y1 y2 y3 gz gfm h0 n0) := by
  refine own_mk (plainFor_of_name own_pn_java_lang_StringLatin1) O0 ?_
  intro p e s m below meth c s₁ hx hby hml hZ hown hnm hlk hret X0 e0 N0 z0 z1
  refine own_cast (own_ef_own_lca4_0 m xb) ?_
  show own_Goes p e below (s₁.setTop (mkF m 0 #[vR xb, vI 0] [])) _
  obtain ⟨G0, G1, G2, G3, G4, G5, G6⟩ := id G
  have ltP0 : @LT.lt Nat _ xb h0.size := P0.lt
  refine q_iloadN X0 hx hby d21_0 rfl ?_
  refine q_aloadN X0 hx hby d21_1 rfl rfl ?_
  refine q_len X0 hx hby hZ e0 P0 d21_2 ?_
  refine k_S X0 hx hby hZ hown (wh hw 96 rfl) (wh hw 97 rfl) (W := 0) (own_sci l Z a0 hw [] (0 : Int32) (4 : Int32) h0 n0 O0 gz gfm G (show ¬ (0 : Int32) < (0 : Int32) from (by first | assumption | decide)) (show (0 : Int32) < (4 : Int32) from (by first | assumption | decide))) (wh hw 98 rfl) (wh hw 13 rfl) e0  hml (argsL := [.int 0, .int 4]) (rest := []) own_pd_12 d21_3 (fun _ T2 L2 X2 hQ2 => ?_)
  obtain ⟨Nc2, e2, rfl⟩ := hQ2
  have N2 := Fr.app N0 Nc2
  refine q_aloadN X2 hx hby d21_6 rfl rfl ?_
  refine q_iloadN X2 hx hby d21_7 rfl ?_
  refine q_baloadBytes X2 hx hby hZ e2 P0 d21_8 (.int y0) ?_
  refine q_sipush X2 hx hby d21_9 ?_
  refine q_iand X2 hx hby d21_12 ?_
  refine gg (fun t k => XS.i2c X2.here hx rfl (hb hby d21_13) rfl k) ?_
  show own_Goes p e below (T2.setTop (mkF m 14 #[vR xb, vI 0] [(.int ((y0 &&& (255 : Int32)).toUInt32.toUInt16.toUInt32.toInt32))])) _
  rw [i2c_mask]
  show own_Goes p e below (T2.setTop (mkF m 14 #[vR xb, vI 0] [(.int (y0 &&& (255 : Int32)))])) _
  refine r_C X2 hx hby hret hlk d21_14 e2 ?_ (hn := (congrArg Value.int (i2c_mask _)))
  exact ⟨N2, rfl, rfl⟩
theorem own_ef_own_ca4_0 (m : MethodId) (xa : Addr) : entryFrame m #[.ref xa, .int 0] 2 = mkF m 0 #[vR xa, vI 0] [] := by first | (simp [entryFrame, mkF, argsToLocals, Value.category]; done) | rfl
def Q_own_ca4_0 (Z : State) (xa : Addr) (xt : Addr) (c0 : Int32) (c1 : Int32) (c2 : Int32) (c3 : Int32) (gz : Int32) (gfm : Value) (h0 : Heap) (n0 : Nat) (v : Option Value) (h : Heap) (L : List Loc) : Prop := Fr n0 L ∧ h = h0 ∧ v = some (.int c0)
theorem own_ca4_0 (l : Launch) (Z : State) (a0 : Array Value) (hw : ∀ d ∈ tables_1, d.before a0 Z = true) (ws : List Jvm.Cond) (xa : Addr) (xt : Addr) (c0 : Int32) (c1 : Int32) (c2 : Int32) (c3 : Int32) (h0 : Heap) (n0 : Nat) (O0 : Old Z n0 h0) (gz : Int32) (gfm : Value) (G : GG Z gz gfm) (P0 : own_Str Z h0 xa xt ([c0, c1, c2, c3] : List Int32)) : own_Met l Z (⟨"java/lang/String", "charAt", "(I)C"⟩ : MethodName) jdk_42_method_56_code 2 (some .char) ws ({ frames := 4, cells := 0, slots := 0, locals := 53 } : Room) #[.ref xa, .int 0] h0 (Q_own_ca4_0 Z xa xt c0 c1 c2 c3 gz gfm h0 n0) := by
  refine own_mk (plainFor_of_name own_pn_java_lang_String) O0 ?_
  intro p e s m below meth c s₁ hx hby hml hZ hown hnm hlk hret X0 e0 N0 z0 z1
  refine own_cast (own_ef_own_ca4_0 m xa) ?_
  show own_Goes p e below (s₁.setTop (mkF m 0 #[vR xa, vI 0] [])) _
  obtain ⟨G0, G1, G2, G3, G4, G5, G6⟩ := id G
  have ltP0 : @LT.lt Nat _ xa h0.size := P0.1.lt
  have luP0 : @LT.lt Nat _ xt h0.size := P0.lt2
  obtain ⟨Es1, Vs1, kbs1, cds1, Ns1, vss1, Cs1, As1, hCs1, hbs1, hls1⟩ := id P0
  rcases hCs1 with ⟨rfl, rfl, rfl, hLs1⟩ | ⟨rfl, rfl, rfl, hWs1⟩
  · have Bs1 : Arv Z h0 xt kbs1 .byte (4 : Int32) [(.int (c0.toInt8.toInt32)), (.int (c1.toInt8.toInt32)), (.int (c2.toInt8.toInt32)), (.int (c3.toInt8.toInt32))] (.int 0) := As1
    have Ds1 : Fld Z h0 xa "java/lang/String" "coder" "B" (.int 0) := Cs1
    show own_Goes p e below (s₁.setTop (mkF m 0 #[vR xa, vI 0] [])) _
    refine q_aloadN X0 hx hby d19_0 rfl rfl ?_
    refine k_V X0 hx hby hZ hown (wh hw 88 rfl) (wh hw 89 rfl) (wh hw 91 rfl) (wh hw 90 rfl) (W := 0) (own_isL0 l Z a0 hw [] xa h0 n0 O0 gz gfm G Ds1) (wh hw 92 rfl) (wh hw 13 rfl) e0 Es1  hml (argsL := []) (rest := []) own_pd_14 d19_1 (fun _ T2 L2 X2 hQ2 => ?_)
    obtain ⟨Nc2, e2, rfl⟩ := hQ2
    have N2 := Fr.app N0 Nc2
    refine q_ifNo X2 hx hby d19_4 ((if0 _ _).trans (feq (show ¬ ((1 : Int32) = (0 : Int32)) from by decide)).1) ?_
    refine q_aloadN X2 hx hby d19_7 rfl rfl ?_
    refine qG X2 hx hby hZ hown (wh hw 30 rfl) e2 Vs1 d19_8 (fun T3 X3 e3 => ?_)
    refine q_iloadN X3 hx hby d19_11 rfl ?_
    refine k_S X3 hx hby hZ hown (wh hw 93 rfl) (wh hw 94 rfl) (W := 0) (own_lca4_0 l Z a0 hw [] xt kbs1 (c0.toInt8.toInt32) (c1.toInt8.toInt32) (c2.toInt8.toInt32) (c3.toInt8.toInt32) h0 n0 O0 gz gfm G Bs1) (wh hw 95 rfl) (wh hw 38 rfl) e3  hml (argsL := [.ref xt, .int 0]) (rest := []) own_pd_5 d19_12 (fun _ T4 L4 X4 hQ4 => ?_)
    obtain ⟨Nc4, e4, rfl⟩ := hQ4
    have N4 := Fr.app N2 Nc4
    show own_Goes p e below (T4.setTop (mkF m 15 #[vR xa, vI 0] [(.int ((c0.toInt8.toInt32) &&& (255 : Int32)))])) _
    rw [show ((c0.toInt8.toInt32) &&& (255 : Int32)) = c0 from own_b8 (hbs1 c0 (by simp)) (hLs1 c0 (by simp))]
    refine r_C X4 hx hby hret hlk d19_15 e4 ?_ (hn := (own_narr16 (hbs1 c0 (by simp))))
    exact ⟨N4, rfl, rfl⟩
  · have Bs1 : Arv Z h0 xt kbs1 .byte (8 : Int32) [(.int (c0.toInt8.toInt32)), (.int ((c0 >>> ((8 : Int32) &&& 31)).toInt8.toInt32)), (.int (c1.toInt8.toInt32)), (.int ((c1 >>> ((8 : Int32) &&& 31)).toInt8.toInt32)), (.int (c2.toInt8.toInt32)), (.int ((c2 >>> ((8 : Int32) &&& 31)).toInt8.toInt32)), (.int (c3.toInt8.toInt32)), (.int ((c3 >>> ((8 : Int32) &&& 31)).toInt8.toInt32))] (.int 0) := As1
    have Ds1 : Fld Z h0 xa "java/lang/String" "coder" "B" (.int 1) := Cs1
    show own_Goes p e below (s₁.setTop (mkF m 0 #[vR xa, vI 0] [])) _
    refine q_aloadN X0 hx hby d19_0 rfl rfl ?_
    refine k_V X0 hx hby hZ hown (wh hw 88 rfl) (wh hw 89 rfl) (wh hw 91 rfl) (wh hw 90 rfl) (W := 0) (own_isL1 l Z a0 hw [] xa h0 n0 O0 gz gfm G Ds1) (wh hw 92 rfl) (wh hw 13 rfl) e0 Es1  hml (argsL := []) (rest := []) own_pd_14 d19_1 (fun _ T5 L5 X5 hQ5 => ?_)
    obtain ⟨Nc5, e5, rfl⟩ := hQ5
    have N5 := Fr.app N0 Nc5
    refine q_ifYes (pc := 4) X5 hx hby d19_4 (pc' := 16) ((if0 _ _).trans (teq (show ((0 : Int32) = (0 : Int32)) from by decide)).1) (by decide) (by decide) ?_
    refine q_aloadN X5 hx hby d19_16 rfl rfl ?_
    refine qG X5 hx hby hZ hown (wh hw 30 rfl) e5 Vs1 d19_17 (fun T6 X6 e6 => ?_)
    refine q_iloadN X6 hx hby d19_20 rfl ?_
    refine k_S X6 hx hby hZ hown (wh hw 130 rfl) (wh hw 131 rfl) (W := 0) (own_uca4_0 l Z a0 hw [] xt kbs1 (c0.toInt8.toInt32) ((c0 >>> ((8 : Int32) &&& 31)).toInt8.toInt32) (c1.toInt8.toInt32) ((c1 >>> ((8 : Int32) &&& 31)).toInt8.toInt32) (c2.toInt8.toInt32) ((c2 >>> ((8 : Int32) &&& 31)).toInt8.toInt32) (c3.toInt8.toInt32) ((c3 >>> ((8 : Int32) &&& 31)).toInt8.toInt32) h0 n0 O0 gz gfm G Bs1) (wh hw 132 rfl) (wh hw 75 rfl) e6  hml (argsL := [.ref xt, .int 0]) (rest := []) own_pd_5 d19_21 (fun _ T7 L7 X7 hQ7 => ?_)
    obtain ⟨Nc7, e7, rfl⟩ := hQ7
    have N7 := Fr.app N5 Nc7
    show own_Goes p e below (T7.setTop (mkF m 24 #[vR xa, vI 0] [(.int (((((c0.toInt8.toInt32) &&& (255 : Int32)) <<< ((0 : Int32) &&& 31)) ||| ((((c0 >>> ((8 : Int32) &&& 31)).toInt8.toInt32) &&& (255 : Int32)) <<< ((8 : Int32) &&& 31))).toUInt32.toUInt16.toUInt32.toInt32))])) _
    rw [show (((((c0.toInt8.toInt32) &&& (255 : Int32)) <<< ((0 : Int32) &&& 31)) ||| ((((c0 >>> ((8 : Int32) &&& 31)).toInt8.toInt32) &&& (255 : Int32)) <<< ((8 : Int32) &&& 31))).toUInt32.toUInt16.toUInt32.toInt32) = c0 from own_g16 (hbs1 c0 (by simp))]
    refine r_C X7 hx hby hret hlk d19_24 e7 ?_ (hn := (own_narr16 (hbs1 c0 (by simp))))
    exact ⟨N7, rfl, rfl⟩
theorem own_ef_own_uca4_1 (m : MethodId) (xb : Addr) : entryFrame m #[.ref xb, .int 1] 2 = mkF m 0 #[vR xb, vI 1] [] := by first | (simp [entryFrame, mkF, argsToLocals, Value.category]; done) | rfl
def Q_own_uca4_1 (Z : State) (xb : Addr) (xq : ClassId) (y0 : Int32) (y1 : Int32) (y2 : Int32) (y3 : Int32) (y4 : Int32) (y5 : Int32) (y6 : Int32) (y7 : Int32) (gz : Int32) (gfm : Value) (h0 : Heap) (n0 : Nat) (v : Option Value) (h : Heap) (L : List Loc) : Prop := Fr n0 L ∧ h = h0 ∧ v = some (.int ((((y2 &&& (255 : Int32)) <<< ((0 : Int32) &&& 31)) ||| ((y3 &&& (255 : Int32)) <<< ((8 : Int32) &&& 31))).toUInt32.toUInt16.toUInt32.toInt32))
theorem own_uca4_1 (l : Launch) (Z : State) (a0 : Array Value) (hw : ∀ d ∈ tables_1, d.before a0 Z = true) (ws : List Jvm.Cond) (xb : Addr) (xq : ClassId) (y0 : Int32) (y1 : Int32) (y2 : Int32) (y3 : Int32) (y4 : Int32) (y5 : Int32) (y6 : Int32) (y7 : Int32) (h0 : Heap) (n0 : Nat) (O0 : Old Z n0 h0) (gz : Int32) (gfm : Value) (G : GG Z gz gfm) (P0 : Arv Z h0 xb xq .byte (8 : Int32) [.int y0, .int y1, .int y2, .int y3, .int y4, .int y5, .int y6, .int y7] (.int 0)) : own_Met l Z (⟨"java/lang/StringUTF16", "charAt", "([BI)C"⟩ : MethodName) jdk_52_method_83_code 2 (some .char) ws ({ frames := 3, cells := 0, slots := 0, locals := 40 } : Room) #[.ref xb, .int 1] h0 (Q_own_uca4_1 Z xb xq y0 y1 y2 y3 y4 y5 y6 y7 gz gfm h0 n0) := by
  refine own_mk (plainFor_of_name own_pn_java_lang_StringUTF16) O0 ?_
  intro p e s m below meth c s₁ hx hby hml hZ hown hnm hlk hret X0 e0 N0 z0 z1
  refine own_cast (own_ef_own_uca4_1 m xb) ?_
  show own_Goes p e below (s₁.setTop (mkF m 0 #[vR xb, vI 1] [])) _
  obtain ⟨G0, G1, G2, G3, G4, G5, G6⟩ := id G
  have ltP0 : @LT.lt Nat _ xb h0.size := P0.lt
  refine q_iloadN X0 hx hby d30_0 rfl ?_
  refine q_aloadN X0 hx hby d30_1 rfl rfl ?_
  refine k_S X0 hx hby hZ hown (wh hw 133 rfl) (wh hw 134 rfl) (W := 0) (own_uci4 l Z a0 hw [] (1 : Int32) xb xq y0 y1 y2 y3 y4 y5 y6 y7 h0 n0 O0 gz gfm G P0 (show ¬ (1 : Int32) < (0 : Int32) from (by first | assumption | decide)) (show (1 : Int32) < (4 : Int32) from (by first | assumption | decide))) (wh hw 135 rfl) (wh hw 75 rfl) e0  hml (argsL := [.int 1, .ref xb]) (rest := []) own_pd_13 d30_2 (fun _ T1 L1 X1 hQ1 => ?_)
  obtain ⟨Nc1, e1, rfl⟩ := hQ1
  have N1 := Fr.app N0 Nc1
  refine q_aloadN X1 hx hby d30_5 rfl rfl ?_
  refine q_iloadN X1 hx hby d30_6 rfl ?_
  refine k_S X1 hx hby hZ hown (wh hw 127 rfl) (wh hw 128 rfl) (W := 0) (own_gc4_1 l Z a0 hw [] xb xq y0 y1 y2 y3 y4 y5 y6 y7 h0 n0 O0 gz gfm G P0) (wh hw 129 rfl) (wh hw 75 rfl) e1  hml (argsL := [.ref xb, .int 1]) (rest := []) own_pd_5 d30_7 (fun _ T2 L2 X2 hQ2 => ?_)
  obtain ⟨Nc2, e2, rfl⟩ := hQ2
  have N2 := Fr.app N1 Nc2
  refine r_C X2 hx hby hret hlk d30_10 e2 ?_ (hn := (own_narr16 (own_C16i _)))
  exact ⟨N2, rfl, rfl⟩
theorem own_ef_own_lca4_1 (m : MethodId) (xb : Addr) : entryFrame m #[.ref xb, .int 1] 2 = mkF m 0 #[vR xb, vI 1] [] := by first | (simp [entryFrame, mkF, argsToLocals, Value.category]; done) | rfl
def Q_own_lca4_1 (Z : State) (xb : Addr) (xq : ClassId) (y0 : Int32) (y1 : Int32) (y2 : Int32) (y3 : Int32) (gz : Int32) (gfm : Value) (h0 : Heap) (n0 : Nat) (v : Option Value) (h : Heap) (L : List Loc) : Prop := Fr n0 L ∧ h = h0 ∧ v = some (.int (y1 &&& (255 : Int32)))
theorem own_lca4_1 (l : Launch) (Z : State) (a0 : Array Value) (hw : ∀ d ∈ tables_1, d.before a0 Z = true) (ws : List Jvm.Cond) (xb : Addr) (xq : ClassId) (y0 : Int32) (y1 : Int32) (y2 : Int32) (y3 : Int32) (h0 : Heap) (n0 : Nat) (O0 : Old Z n0 h0) (gz : Int32) (gfm : Value) (G : GG Z gz gfm) (P0 : Arv Z h0 xb xq .byte (4 : Int32) [.int y0, .int y1, .int y2, .int y3] (.int 0)) : own_Met l Z (⟨"java/lang/StringLatin1", "charAt", "([BI)C"⟩ : MethodName) jdk_43_method_2_code 2 (some .char) ws ({ frames := 2, cells := 0, slots := 0, locals := 27 } : Room) #[.ref xb, .int 1] h0 (Q_own_lca4_1 Z xb xq y0 y1 y2 y3 gz gfm h0 n0) := by
  refine own_mk (plainFor_of_name own_pn_java_lang_StringLatin1) O0 ?_
  intro p e s m below meth c s₁ hx hby hml hZ hown hnm hlk hret X0 e0 N0 z0 z1
  refine own_cast (own_ef_own_lca4_1 m xb) ?_
  show own_Goes p e below (s₁.setTop (mkF m 0 #[vR xb, vI 1] [])) _
  obtain ⟨G0, G1, G2, G3, G4, G5, G6⟩ := id G
  have ltP0 : @LT.lt Nat _ xb h0.size := P0.lt
  refine q_iloadN X0 hx hby d21_0 rfl ?_
  refine q_aloadN X0 hx hby d21_1 rfl rfl ?_
  refine q_len X0 hx hby hZ e0 P0 d21_2 ?_
  refine k_S X0 hx hby hZ hown (wh hw 96 rfl) (wh hw 97 rfl) (W := 0) (own_sci l Z a0 hw [] (1 : Int32) (4 : Int32) h0 n0 O0 gz gfm G (show ¬ (1 : Int32) < (0 : Int32) from (by first | assumption | decide)) (show (1 : Int32) < (4 : Int32) from (by first | assumption | decide))) (wh hw 98 rfl) (wh hw 13 rfl) e0  hml (argsL := [.int 1, .int 4]) (rest := []) own_pd_12 d21_3 (fun _ T2 L2 X2 hQ2 => ?_)
  obtain ⟨Nc2, e2, rfl⟩ := hQ2
  have N2 := Fr.app N0 Nc2
  refine q_aloadN X2 hx hby d21_6 rfl rfl ?_
  refine q_iloadN X2 hx hby d21_7 rfl ?_
  refine q_baloadBytes X2 hx hby hZ e2 P0 d21_8 (.int y1) ?_
  refine q_sipush X2 hx hby d21_9 ?_
  refine q_iand X2 hx hby d21_12 ?_
  refine gg (fun t k => XS.i2c X2.here hx rfl (hb hby d21_13) rfl k) ?_
  show own_Goes p e below (T2.setTop (mkF m 14 #[vR xb, vI 1] [(.int ((y1 &&& (255 : Int32)).toUInt32.toUInt16.toUInt32.toInt32))])) _
  rw [i2c_mask]
  show own_Goes p e below (T2.setTop (mkF m 14 #[vR xb, vI 1] [(.int (y1 &&& (255 : Int32)))])) _
  refine r_C X2 hx hby hret hlk d21_14 e2 ?_ (hn := (congrArg Value.int (i2c_mask _)))
  exact ⟨N2, rfl, rfl⟩
theorem own_ef_own_ca4_1 (m : MethodId) (xa : Addr) : entryFrame m #[.ref xa, .int 1] 2 = mkF m 0 #[vR xa, vI 1] [] := by first | (simp [entryFrame, mkF, argsToLocals, Value.category]; done) | rfl
def Q_own_ca4_1 (Z : State) (xa : Addr) (xt : Addr) (c0 : Int32) (c1 : Int32) (c2 : Int32) (c3 : Int32) (gz : Int32) (gfm : Value) (h0 : Heap) (n0 : Nat) (v : Option Value) (h : Heap) (L : List Loc) : Prop := Fr n0 L ∧ h = h0 ∧ v = some (.int c1)
theorem own_ca4_1 (l : Launch) (Z : State) (a0 : Array Value) (hw : ∀ d ∈ tables_1, d.before a0 Z = true) (ws : List Jvm.Cond) (xa : Addr) (xt : Addr) (c0 : Int32) (c1 : Int32) (c2 : Int32) (c3 : Int32) (h0 : Heap) (n0 : Nat) (O0 : Old Z n0 h0) (gz : Int32) (gfm : Value) (G : GG Z gz gfm) (P0 : own_Str Z h0 xa xt ([c0, c1, c2, c3] : List Int32)) : own_Met l Z (⟨"java/lang/String", "charAt", "(I)C"⟩ : MethodName) jdk_42_method_56_code 2 (some .char) ws ({ frames := 4, cells := 0, slots := 0, locals := 53 } : Room) #[.ref xa, .int 1] h0 (Q_own_ca4_1 Z xa xt c0 c1 c2 c3 gz gfm h0 n0) := by
  refine own_mk (plainFor_of_name own_pn_java_lang_String) O0 ?_
  intro p e s m below meth c s₁ hx hby hml hZ hown hnm hlk hret X0 e0 N0 z0 z1
  refine own_cast (own_ef_own_ca4_1 m xa) ?_
  show own_Goes p e below (s₁.setTop (mkF m 0 #[vR xa, vI 1] [])) _
  obtain ⟨G0, G1, G2, G3, G4, G5, G6⟩ := id G
  have ltP0 : @LT.lt Nat _ xa h0.size := P0.1.lt
  have luP0 : @LT.lt Nat _ xt h0.size := P0.lt2
  obtain ⟨Es1, Vs1, kbs1, cds1, Ns1, vss1, Cs1, As1, hCs1, hbs1, hls1⟩ := id P0
  rcases hCs1 with ⟨rfl, rfl, rfl, hLs1⟩ | ⟨rfl, rfl, rfl, hWs1⟩
  · have Bs1 : Arv Z h0 xt kbs1 .byte (4 : Int32) [(.int (c0.toInt8.toInt32)), (.int (c1.toInt8.toInt32)), (.int (c2.toInt8.toInt32)), (.int (c3.toInt8.toInt32))] (.int 0) := As1
    have Ds1 : Fld Z h0 xa "java/lang/String" "coder" "B" (.int 0) := Cs1
    show own_Goes p e below (s₁.setTop (mkF m 0 #[vR xa, vI 1] [])) _
    refine q_aloadN X0 hx hby d19_0 rfl rfl ?_
    refine k_V X0 hx hby hZ hown (wh hw 88 rfl) (wh hw 89 rfl) (wh hw 91 rfl) (wh hw 90 rfl) (W := 0) (own_isL0 l Z a0 hw [] xa h0 n0 O0 gz gfm G Ds1) (wh hw 92 rfl) (wh hw 13 rfl) e0 Es1  hml (argsL := []) (rest := []) own_pd_14 d19_1 (fun _ T2 L2 X2 hQ2 => ?_)
    obtain ⟨Nc2, e2, rfl⟩ := hQ2
    have N2 := Fr.app N0 Nc2
    refine q_ifNo X2 hx hby d19_4 ((if0 _ _).trans (feq (show ¬ ((1 : Int32) = (0 : Int32)) from by decide)).1) ?_
    refine q_aloadN X2 hx hby d19_7 rfl rfl ?_
    refine qG X2 hx hby hZ hown (wh hw 30 rfl) e2 Vs1 d19_8 (fun T3 X3 e3 => ?_)
    refine q_iloadN X3 hx hby d19_11 rfl ?_
    refine k_S X3 hx hby hZ hown (wh hw 93 rfl) (wh hw 94 rfl) (W := 0) (own_lca4_1 l Z a0 hw [] xt kbs1 (c0.toInt8.toInt32) (c1.toInt8.toInt32) (c2.toInt8.toInt32) (c3.toInt8.toInt32) h0 n0 O0 gz gfm G Bs1) (wh hw 95 rfl) (wh hw 38 rfl) e3  hml (argsL := [.ref xt, .int 1]) (rest := []) own_pd_5 d19_12 (fun _ T4 L4 X4 hQ4 => ?_)
    obtain ⟨Nc4, e4, rfl⟩ := hQ4
    have N4 := Fr.app N2 Nc4
    show own_Goes p e below (T4.setTop (mkF m 15 #[vR xa, vI 1] [(.int ((c1.toInt8.toInt32) &&& (255 : Int32)))])) _
    rw [show ((c1.toInt8.toInt32) &&& (255 : Int32)) = c1 from own_b8 (hbs1 c1 (by simp)) (hLs1 c1 (by simp))]
    refine r_C X4 hx hby hret hlk d19_15 e4 ?_ (hn := (own_narr16 (hbs1 c1 (by simp))))
    exact ⟨N4, rfl, rfl⟩
  · have Bs1 : Arv Z h0 xt kbs1 .byte (8 : Int32) [(.int (c0.toInt8.toInt32)), (.int ((c0 >>> ((8 : Int32) &&& 31)).toInt8.toInt32)), (.int (c1.toInt8.toInt32)), (.int ((c1 >>> ((8 : Int32) &&& 31)).toInt8.toInt32)), (.int (c2.toInt8.toInt32)), (.int ((c2 >>> ((8 : Int32) &&& 31)).toInt8.toInt32)), (.int (c3.toInt8.toInt32)), (.int ((c3 >>> ((8 : Int32) &&& 31)).toInt8.toInt32))] (.int 0) := As1
    have Ds1 : Fld Z h0 xa "java/lang/String" "coder" "B" (.int 1) := Cs1
    show own_Goes p e below (s₁.setTop (mkF m 0 #[vR xa, vI 1] [])) _
    refine q_aloadN X0 hx hby d19_0 rfl rfl ?_
    refine k_V X0 hx hby hZ hown (wh hw 88 rfl) (wh hw 89 rfl) (wh hw 91 rfl) (wh hw 90 rfl) (W := 0) (own_isL1 l Z a0 hw [] xa h0 n0 O0 gz gfm G Ds1) (wh hw 92 rfl) (wh hw 13 rfl) e0 Es1  hml (argsL := []) (rest := []) own_pd_14 d19_1 (fun _ T5 L5 X5 hQ5 => ?_)
    obtain ⟨Nc5, e5, rfl⟩ := hQ5
    have N5 := Fr.app N0 Nc5
    refine q_ifYes (pc := 4) X5 hx hby d19_4 (pc' := 16) ((if0 _ _).trans (teq (show ((0 : Int32) = (0 : Int32)) from by decide)).1) (by decide) (by decide) ?_
    refine q_aloadN X5 hx hby d19_16 rfl rfl ?_
    refine qG X5 hx hby hZ hown (wh hw 30 rfl) e5 Vs1 d19_17 (fun T6 X6 e6 => ?_)
    refine q_iloadN X6 hx hby d19_20 rfl ?_
    refine k_S X6 hx hby hZ hown (wh hw 130 rfl) (wh hw 131 rfl) (W := 0) (own_uca4_1 l Z a0 hw [] xt kbs1 (c0.toInt8.toInt32) ((c0 >>> ((8 : Int32) &&& 31)).toInt8.toInt32) (c1.toInt8.toInt32) ((c1 >>> ((8 : Int32) &&& 31)).toInt8.toInt32) (c2.toInt8.toInt32) ((c2 >>> ((8 : Int32) &&& 31)).toInt8.toInt32) (c3.toInt8.toInt32) ((c3 >>> ((8 : Int32) &&& 31)).toInt8.toInt32) h0 n0 O0 gz gfm G Bs1) (wh hw 132 rfl) (wh hw 75 rfl) e6  hml (argsL := [.ref xt, .int 1]) (rest := []) own_pd_5 d19_21 (fun _ T7 L7 X7 hQ7 => ?_)
    obtain ⟨Nc7, e7, rfl⟩ := hQ7
    have N7 := Fr.app N5 Nc7
    show own_Goes p e below (T7.setTop (mkF m 24 #[vR xa, vI 1] [(.int (((((c1.toInt8.toInt32) &&& (255 : Int32)) <<< ((0 : Int32) &&& 31)) ||| ((((c1 >>> ((8 : Int32) &&& 31)).toInt8.toInt32) &&& (255 : Int32)) <<< ((8 : Int32) &&& 31))).toUInt32.toUInt16.toUInt32.toInt32))])) _
    rw [show (((((c1.toInt8.toInt32) &&& (255 : Int32)) <<< ((0 : Int32) &&& 31)) ||| ((((c1 >>> ((8 : Int32) &&& 31)).toInt8.toInt32) &&& (255 : Int32)) <<< ((8 : Int32) &&& 31))).toUInt32.toUInt16.toUInt32.toInt32) = c1 from own_g16 (hbs1 c1 (by simp))]
    refine r_C X7 hx hby hret hlk d19_24 e7 ?_ (hn := (own_narr16 (hbs1 c1 (by simp))))
    exact ⟨N7, rfl, rfl⟩
theorem own_ef_own_uca4_2 (m : MethodId) (xb : Addr) : entryFrame m #[.ref xb, .int 2] 2 = mkF m 0 #[vR xb, vI 2] [] := by first | (simp [entryFrame, mkF, argsToLocals, Value.category]; done) | rfl
def Q_own_uca4_2 (Z : State) (xb : Addr) (xq : ClassId) (y0 : Int32) (y1 : Int32) (y2 : Int32) (y3 : Int32) (y4 : Int32) (y5 : Int32) (y6 : Int32) (y7 : Int32) (gz : Int32) (gfm : Value) (h0 : Heap) (n0 : Nat) (v : Option Value) (h : Heap) (L : List Loc) : Prop := Fr n0 L ∧ h = h0 ∧ v = some (.int ((((y4 &&& (255 : Int32)) <<< ((0 : Int32) &&& 31)) ||| ((y5 &&& (255 : Int32)) <<< ((8 : Int32) &&& 31))).toUInt32.toUInt16.toUInt32.toInt32))
theorem own_uca4_2 (l : Launch) (Z : State) (a0 : Array Value) (hw : ∀ d ∈ tables_1, d.before a0 Z = true) (ws : List Jvm.Cond) (xb : Addr) (xq : ClassId) (y0 : Int32) (y1 : Int32) (y2 : Int32) (y3 : Int32) (y4 : Int32) (y5 : Int32) (y6 : Int32) (y7 : Int32) (h0 : Heap) (n0 : Nat) (O0 : Old Z n0 h0) (gz : Int32) (gfm : Value) (G : GG Z gz gfm) (P0 : Arv Z h0 xb xq .byte (8 : Int32) [.int y0, .int y1, .int y2, .int y3, .int y4, .int y5, .int y6, .int y7] (.int 0)) : own_Met l Z (⟨"java/lang/StringUTF16", "charAt", "([BI)C"⟩ : MethodName) jdk_52_method_83_code 2 (some .char) ws ({ frames := 3, cells := 0, slots := 0, locals := 40 } : Room) #[.ref xb, .int 2] h0 (Q_own_uca4_2 Z xb xq y0 y1 y2 y3 y4 y5 y6 y7 gz gfm h0 n0) := by
  refine own_mk (plainFor_of_name own_pn_java_lang_StringUTF16) O0 ?_
  intro p e s m below meth c s₁ hx hby hml hZ hown hnm hlk hret X0 e0 N0 z0 z1
  refine own_cast (own_ef_own_uca4_2 m xb) ?_
  show own_Goes p e below (s₁.setTop (mkF m 0 #[vR xb, vI 2] [])) _
  obtain ⟨G0, G1, G2, G3, G4, G5, G6⟩ := id G
  have ltP0 : @LT.lt Nat _ xb h0.size := P0.lt
  refine q_iloadN X0 hx hby d30_0 rfl ?_
  refine q_aloadN X0 hx hby d30_1 rfl rfl ?_
  refine k_S X0 hx hby hZ hown (wh hw 133 rfl) (wh hw 134 rfl) (W := 0) (own_uci4 l Z a0 hw [] (2 : Int32) xb xq y0 y1 y2 y3 y4 y5 y6 y7 h0 n0 O0 gz gfm G P0 (show ¬ (2 : Int32) < (0 : Int32) from (by first | assumption | decide)) (show (2 : Int32) < (4 : Int32) from (by first | assumption | decide))) (wh hw 135 rfl) (wh hw 75 rfl) e0  hml (argsL := [.int 2, .ref xb]) (rest := []) own_pd_13 d30_2 (fun _ T1 L1 X1 hQ1 => ?_)
  obtain ⟨Nc1, e1, rfl⟩ := hQ1
  have N1 := Fr.app N0 Nc1
  refine q_aloadN X1 hx hby d30_5 rfl rfl ?_
  refine q_iloadN X1 hx hby d30_6 rfl ?_
  refine k_S X1 hx hby hZ hown (wh hw 127 rfl) (wh hw 128 rfl) (W := 0) (own_gc4_2 l Z a0 hw [] xb xq y0 y1 y2 y3 y4 y5 y6 y7 h0 n0 O0 gz gfm G P0) (wh hw 129 rfl) (wh hw 75 rfl) e1  hml (argsL := [.ref xb, .int 2]) (rest := []) own_pd_5 d30_7 (fun _ T2 L2 X2 hQ2 => ?_)
  obtain ⟨Nc2, e2, rfl⟩ := hQ2
  have N2 := Fr.app N1 Nc2
  refine r_C X2 hx hby hret hlk d30_10 e2 ?_ (hn := (own_narr16 (own_C16i _)))
  exact ⟨N2, rfl, rfl⟩
theorem own_ef_own_lca4_2 (m : MethodId) (xb : Addr) : entryFrame m #[.ref xb, .int 2] 2 = mkF m 0 #[vR xb, vI 2] [] := by first | (simp [entryFrame, mkF, argsToLocals, Value.category]; done) | rfl
def Q_own_lca4_2 (Z : State) (xb : Addr) (xq : ClassId) (y0 : Int32) (y1 : Int32) (y2 : Int32) (y3 : Int32) (gz : Int32) (gfm : Value) (h0 : Heap) (n0 : Nat) (v : Option Value) (h : Heap) (L : List Loc) : Prop := Fr n0 L ∧ h = h0 ∧ v = some (.int (y2 &&& (255 : Int32)))
theorem own_lca4_2 (l : Launch) (Z : State) (a0 : Array Value) (hw : ∀ d ∈ tables_1, d.before a0 Z = true) (ws : List Jvm.Cond) (xb : Addr) (xq : ClassId) (y0 : Int32) (y1 : Int32) (y2 : Int32) (y3 : Int32) (h0 : Heap) (n0 : Nat) (O0 : Old Z n0 h0) (gz : Int32) (gfm : Value) (G : GG Z gz gfm) (P0 : Arv Z h0 xb xq .byte (4 : Int32) [.int y0, .int y1, .int y2, .int y3] (.int 0)) : own_Met l Z (⟨"java/lang/StringLatin1", "charAt", "([BI)C"⟩ : MethodName) jdk_43_method_2_code 2 (some .char) ws ({ frames := 2, cells := 0, slots := 0, locals := 27 } : Room) #[.ref xb, .int 2] h0 (Q_own_lca4_2 Z xb xq y0 y1 y2 y3 gz gfm h0 n0) := by
  refine own_mk (plainFor_of_name own_pn_java_lang_StringLatin1) O0 ?_
  intro p e s m below meth c s₁ hx hby hml hZ hown hnm hlk hret X0 e0 N0 z0 z1
  refine own_cast (own_ef_own_lca4_2 m xb) ?_
  show own_Goes p e below (s₁.setTop (mkF m 0 #[vR xb, vI 2] [])) _
  obtain ⟨G0, G1, G2, G3, G4, G5, G6⟩ := id G
  have ltP0 : @LT.lt Nat _ xb h0.size := P0.lt
  refine q_iloadN X0 hx hby d21_0 rfl ?_
  refine q_aloadN X0 hx hby d21_1 rfl rfl ?_
  refine q_len X0 hx hby hZ e0 P0 d21_2 ?_
  refine k_S X0 hx hby hZ hown (wh hw 96 rfl) (wh hw 97 rfl) (W := 0) (own_sci l Z a0 hw [] (2 : Int32) (4 : Int32) h0 n0 O0 gz gfm G (show ¬ (2 : Int32) < (0 : Int32) from (by first | assumption | decide)) (show (2 : Int32) < (4 : Int32) from (by first | assumption | decide))) (wh hw 98 rfl) (wh hw 13 rfl) e0  hml (argsL := [.int 2, .int 4]) (rest := []) own_pd_12 d21_3 (fun _ T2 L2 X2 hQ2 => ?_)
  obtain ⟨Nc2, e2, rfl⟩ := hQ2
  have N2 := Fr.app N0 Nc2
  refine q_aloadN X2 hx hby d21_6 rfl rfl ?_
  refine q_iloadN X2 hx hby d21_7 rfl ?_
  refine q_baloadBytes X2 hx hby hZ e2 P0 d21_8 (.int y2) ?_
  refine q_sipush X2 hx hby d21_9 ?_
  refine q_iand X2 hx hby d21_12 ?_
  refine gg (fun t k => XS.i2c X2.here hx rfl (hb hby d21_13) rfl k) ?_
  show own_Goes p e below (T2.setTop (mkF m 14 #[vR xb, vI 2] [(.int ((y2 &&& (255 : Int32)).toUInt32.toUInt16.toUInt32.toInt32))])) _
  rw [i2c_mask]
  show own_Goes p e below (T2.setTop (mkF m 14 #[vR xb, vI 2] [(.int (y2 &&& (255 : Int32)))])) _
  refine r_C X2 hx hby hret hlk d21_14 e2 ?_ (hn := (congrArg Value.int (i2c_mask _)))
  exact ⟨N2, rfl, rfl⟩
theorem own_ef_own_ca4_2 (m : MethodId) (xa : Addr) : entryFrame m #[.ref xa, .int 2] 2 = mkF m 0 #[vR xa, vI 2] [] := by first | (simp [entryFrame, mkF, argsToLocals, Value.category]; done) | rfl
def Q_own_ca4_2 (Z : State) (xa : Addr) (xt : Addr) (c0 : Int32) (c1 : Int32) (c2 : Int32) (c3 : Int32) (gz : Int32) (gfm : Value) (h0 : Heap) (n0 : Nat) (v : Option Value) (h : Heap) (L : List Loc) : Prop := Fr n0 L ∧ h = h0 ∧ v = some (.int c2)
theorem own_ca4_2 (l : Launch) (Z : State) (a0 : Array Value) (hw : ∀ d ∈ tables_1, d.before a0 Z = true) (ws : List Jvm.Cond) (xa : Addr) (xt : Addr) (c0 : Int32) (c1 : Int32) (c2 : Int32) (c3 : Int32) (h0 : Heap) (n0 : Nat) (O0 : Old Z n0 h0) (gz : Int32) (gfm : Value) (G : GG Z gz gfm) (P0 : own_Str Z h0 xa xt ([c0, c1, c2, c3] : List Int32)) : own_Met l Z (⟨"java/lang/String", "charAt", "(I)C"⟩ : MethodName) jdk_42_method_56_code 2 (some .char) ws ({ frames := 4, cells := 0, slots := 0, locals := 53 } : Room) #[.ref xa, .int 2] h0 (Q_own_ca4_2 Z xa xt c0 c1 c2 c3 gz gfm h0 n0) := by
  refine own_mk (plainFor_of_name own_pn_java_lang_String) O0 ?_
  intro p e s m below meth c s₁ hx hby hml hZ hown hnm hlk hret X0 e0 N0 z0 z1
  refine own_cast (own_ef_own_ca4_2 m xa) ?_
  show own_Goes p e below (s₁.setTop (mkF m 0 #[vR xa, vI 2] [])) _
  obtain ⟨G0, G1, G2, G3, G4, G5, G6⟩ := id G
  have ltP0 : @LT.lt Nat _ xa h0.size := P0.1.lt
  have luP0 : @LT.lt Nat _ xt h0.size := P0.lt2
  obtain ⟨Es1, Vs1, kbs1, cds1, Ns1, vss1, Cs1, As1, hCs1, hbs1, hls1⟩ := id P0
  rcases hCs1 with ⟨rfl, rfl, rfl, hLs1⟩ | ⟨rfl, rfl, rfl, hWs1⟩
  · have Bs1 : Arv Z h0 xt kbs1 .byte (4 : Int32) [(.int (c0.toInt8.toInt32)), (.int (c1.toInt8.toInt32)), (.int (c2.toInt8.toInt32)), (.int (c3.toInt8.toInt32))] (.int 0) := As1
    have Ds1 : Fld Z h0 xa "java/lang/String" "coder" "B" (.int 0) := Cs1
    show own_Goes p e below (s₁.setTop (mkF m 0 #[vR xa, vI 2] [])) _
    refine q_aloadN X0 hx hby d19_0 rfl rfl ?_
    refine k_V X0 hx hby hZ hown (wh hw 88 rfl) (wh hw 89 rfl) (wh hw 91 rfl) (wh hw 90 rfl) (W := 0) (own_isL0 l Z a0 hw [] xa h0 n0 O0 gz gfm G Ds1) (wh hw 92 rfl) (wh hw 13 rfl) e0 Es1  hml (argsL := []) (rest := []) own_pd_14 d19_1 (fun _ T2 L2 X2 hQ2 => ?_)
    obtain ⟨Nc2, e2, rfl⟩ := hQ2
    have N2 := Fr.app N0 Nc2
    refine q_ifNo X2 hx hby d19_4 ((if0 _ _).trans (feq (show ¬ ((1 : Int32) = (0 : Int32)) from by decide)).1) ?_
    refine q_aloadN X2 hx hby d19_7 rfl rfl ?_
    refine qG X2 hx hby hZ hown (wh hw 30 rfl) e2 Vs1 d19_8 (fun T3 X3 e3 => ?_)
    refine q_iloadN X3 hx hby d19_11 rfl ?_
    refine k_S X3 hx hby hZ hown (wh hw 93 rfl) (wh hw 94 rfl) (W := 0) (own_lca4_2 l Z a0 hw [] xt kbs1 (c0.toInt8.toInt32) (c1.toInt8.toInt32) (c2.toInt8.toInt32) (c3.toInt8.toInt32) h0 n0 O0 gz gfm G Bs1) (wh hw 95 rfl) (wh hw 38 rfl) e3  hml (argsL := [.ref xt, .int 2]) (rest := []) own_pd_5 d19_12 (fun _ T4 L4 X4 hQ4 => ?_)
    obtain ⟨Nc4, e4, rfl⟩ := hQ4
    have N4 := Fr.app N2 Nc4
    show own_Goes p e below (T4.setTop (mkF m 15 #[vR xa, vI 2] [(.int ((c2.toInt8.toInt32) &&& (255 : Int32)))])) _
    rw [show ((c2.toInt8.toInt32) &&& (255 : Int32)) = c2 from own_b8 (hbs1 c2 (by simp)) (hLs1 c2 (by simp))]
    refine r_C X4 hx hby hret hlk d19_15 e4 ?_ (hn := (own_narr16 (hbs1 c2 (by simp))))
    exact ⟨N4, rfl, rfl⟩
  · have Bs1 : Arv Z h0 xt kbs1 .byte (8 : Int32) [(.int (c0.toInt8.toInt32)), (.int ((c0 >>> ((8 : Int32) &&& 31)).toInt8.toInt32)), (.int (c1.toInt8.toInt32)), (.int ((c1 >>> ((8 : Int32) &&& 31)).toInt8.toInt32)), (.int (c2.toInt8.toInt32)), (.int ((c2 >>> ((8 : Int32) &&& 31)).toInt8.toInt32)), (.int (c3.toInt8.toInt32)), (.int ((c3 >>> ((8 : Int32) &&& 31)).toInt8.toInt32))] (.int 0) := As1
    have Ds1 : Fld Z h0 xa "java/lang/String" "coder" "B" (.int 1) := Cs1
    show own_Goes p e below (s₁.setTop (mkF m 0 #[vR xa, vI 2] [])) _
    refine q_aloadN X0 hx hby d19_0 rfl rfl ?_
    refine k_V X0 hx hby hZ hown (wh hw 88 rfl) (wh hw 89 rfl) (wh hw 91 rfl) (wh hw 90 rfl) (W := 0) (own_isL1 l Z a0 hw [] xa h0 n0 O0 gz gfm G Ds1) (wh hw 92 rfl) (wh hw 13 rfl) e0 Es1  hml (argsL := []) (rest := []) own_pd_14 d19_1 (fun _ T5 L5 X5 hQ5 => ?_)
    obtain ⟨Nc5, e5, rfl⟩ := hQ5
    have N5 := Fr.app N0 Nc5
    refine q_ifYes (pc := 4) X5 hx hby d19_4 (pc' := 16) ((if0 _ _).trans (teq (show ((0 : Int32) = (0 : Int32)) from by decide)).1) (by decide) (by decide) ?_
    refine q_aloadN X5 hx hby d19_16 rfl rfl ?_
    refine qG X5 hx hby hZ hown (wh hw 30 rfl) e5 Vs1 d19_17 (fun T6 X6 e6 => ?_)
    refine q_iloadN X6 hx hby d19_20 rfl ?_
    refine k_S X6 hx hby hZ hown (wh hw 130 rfl) (wh hw 131 rfl) (W := 0) (own_uca4_2 l Z a0 hw [] xt kbs1 (c0.toInt8.toInt32) ((c0 >>> ((8 : Int32) &&& 31)).toInt8.toInt32) (c1.toInt8.toInt32) ((c1 >>> ((8 : Int32) &&& 31)).toInt8.toInt32) (c2.toInt8.toInt32) ((c2 >>> ((8 : Int32) &&& 31)).toInt8.toInt32) (c3.toInt8.toInt32) ((c3 >>> ((8 : Int32) &&& 31)).toInt8.toInt32) h0 n0 O0 gz gfm G Bs1) (wh hw 132 rfl) (wh hw 75 rfl) e6  hml (argsL := [.ref xt, .int 2]) (rest := []) own_pd_5 d19_21 (fun _ T7 L7 X7 hQ7 => ?_)
    obtain ⟨Nc7, e7, rfl⟩ := hQ7
    have N7 := Fr.app N5 Nc7
    show own_Goes p e below (T7.setTop (mkF m 24 #[vR xa, vI 2] [(.int (((((c2.toInt8.toInt32) &&& (255 : Int32)) <<< ((0 : Int32) &&& 31)) ||| ((((c2 >>> ((8 : Int32) &&& 31)).toInt8.toInt32) &&& (255 : Int32)) <<< ((8 : Int32) &&& 31))).toUInt32.toUInt16.toUInt32.toInt32))])) _
    rw [show (((((c2.toInt8.toInt32) &&& (255 : Int32)) <<< ((0 : Int32) &&& 31)) ||| ((((c2 >>> ((8 : Int32) &&& 31)).toInt8.toInt32) &&& (255 : Int32)) <<< ((8 : Int32) &&& 31))).toUInt32.toUInt16.toUInt32.toInt32) = c2 from own_g16 (hbs1 c2 (by simp))]
    refine r_C X7 hx hby hret hlk d19_24 e7 ?_ (hn := (own_narr16 (hbs1 c2 (by simp))))
    exact ⟨N7, rfl, rfl⟩
theorem own_ef_own_uca4_3 (m : MethodId) (xb : Addr) : entryFrame m #[.ref xb, .int 3] 2 = mkF m 0 #[vR xb, vI 3] [] := by first | (simp [entryFrame, mkF, argsToLocals, Value.category]; done) | rfl
def Q_own_uca4_3 (Z : State) (xb : Addr) (xq : ClassId) (y0 : Int32) (y1 : Int32) (y2 : Int32) (y3 : Int32) (y4 : Int32) (y5 : Int32) (y6 : Int32) (y7 : Int32) (gz : Int32) (gfm : Value) (h0 : Heap) (n0 : Nat) (v : Option Value) (h : Heap) (L : List Loc) : Prop := Fr n0 L ∧ h = h0 ∧ v = some (.int ((((y6 &&& (255 : Int32)) <<< ((0 : Int32) &&& 31)) ||| ((y7 &&& (255 : Int32)) <<< ((8 : Int32) &&& 31))).toUInt32.toUInt16.toUInt32.toInt32))
theorem own_uca4_3 (l : Launch) (Z : State) (a0 : Array Value) (hw : ∀ d ∈ tables_1, d.before a0 Z = true) (ws : List Jvm.Cond) (xb : Addr) (xq : ClassId) (y0 : Int32) (y1 : Int32) (y2 : Int32) (y3 : Int32) (y4 : Int32) (y5 : Int32) (y6 : Int32) (y7 : Int32) (h0 : Heap) (n0 : Nat) (O0 : Old Z n0 h0) (gz : Int32) (gfm : Value) (G : GG Z gz gfm) (P0 : Arv Z h0 xb xq .byte (8 : Int32) [.int y0, .int y1, .int y2, .int y3, .int y4, .int y5, .int y6, .int y7] (.int 0)) : own_Met l Z (⟨"java/lang/StringUTF16", "charAt", "([BI)C"⟩ : MethodName) jdk_52_method_83_code 2 (some .char) ws ({ frames := 3, cells := 0, slots := 0, locals := 40 } : Room) #[.ref xb, .int 3] h0 (Q_own_uca4_3 Z xb xq y0 y1 y2 y3 y4 y5 y6 y7 gz gfm h0 n0) := by
  refine own_mk (plainFor_of_name own_pn_java_lang_StringUTF16) O0 ?_
  intro p e s m below meth c s₁ hx hby hml hZ hown hnm hlk hret X0 e0 N0 z0 z1
  refine own_cast (own_ef_own_uca4_3 m xb) ?_
  show own_Goes p e below (s₁.setTop (mkF m 0 #[vR xb, vI 3] [])) _
  obtain ⟨G0, G1, G2, G3, G4, G5, G6⟩ := id G
  have ltP0 : @LT.lt Nat _ xb h0.size := P0.lt
  refine q_iloadN X0 hx hby d30_0 rfl ?_
  refine q_aloadN X0 hx hby d30_1 rfl rfl ?_
  refine k_S X0 hx hby hZ hown (wh hw 133 rfl) (wh hw 134 rfl) (W := 0) (own_uci4 l Z a0 hw [] (3 : Int32) xb xq y0 y1 y2 y3 y4 y5 y6 y7 h0 n0 O0 gz gfm G P0 (show ¬ (3 : Int32) < (0 : Int32) from (by first | assumption | decide)) (show (3 : Int32) < (4 : Int32) from (by first | assumption | decide))) (wh hw 135 rfl) (wh hw 75 rfl) e0  hml (argsL := [.int 3, .ref xb]) (rest := []) own_pd_13 d30_2 (fun _ T1 L1 X1 hQ1 => ?_)
  obtain ⟨Nc1, e1, rfl⟩ := hQ1
  have N1 := Fr.app N0 Nc1
  refine q_aloadN X1 hx hby d30_5 rfl rfl ?_
  refine q_iloadN X1 hx hby d30_6 rfl ?_
  refine k_S X1 hx hby hZ hown (wh hw 127 rfl) (wh hw 128 rfl) (W := 0) (own_gc4_3 l Z a0 hw [] xb xq y0 y1 y2 y3 y4 y5 y6 y7 h0 n0 O0 gz gfm G P0) (wh hw 129 rfl) (wh hw 75 rfl) e1  hml (argsL := [.ref xb, .int 3]) (rest := []) own_pd_5 d30_7 (fun _ T2 L2 X2 hQ2 => ?_)
  obtain ⟨Nc2, e2, rfl⟩ := hQ2
  have N2 := Fr.app N1 Nc2
  refine r_C X2 hx hby hret hlk d30_10 e2 ?_ (hn := (own_narr16 (own_C16i _)))
  exact ⟨N2, rfl, rfl⟩
theorem own_ef_own_lca4_3 (m : MethodId) (xb : Addr) : entryFrame m #[.ref xb, .int 3] 2 = mkF m 0 #[vR xb, vI 3] [] := by first | (simp [entryFrame, mkF, argsToLocals, Value.category]; done) | rfl
def Q_own_lca4_3 (Z : State) (xb : Addr) (xq : ClassId) (y0 : Int32) (y1 : Int32) (y2 : Int32) (y3 : Int32) (gz : Int32) (gfm : Value) (h0 : Heap) (n0 : Nat) (v : Option Value) (h : Heap) (L : List Loc) : Prop := Fr n0 L ∧ h = h0 ∧ v = some (.int (y3 &&& (255 : Int32)))
theorem own_lca4_3 (l : Launch) (Z : State) (a0 : Array Value) (hw : ∀ d ∈ tables_1, d.before a0 Z = true) (ws : List Jvm.Cond) (xb : Addr) (xq : ClassId) (y0 : Int32) (y1 : Int32) (y2 : Int32) (y3 : Int32) (h0 : Heap) (n0 : Nat) (O0 : Old Z n0 h0) (gz : Int32) (gfm : Value) (G : GG Z gz gfm) (P0 : Arv Z h0 xb xq .byte (4 : Int32) [.int y0, .int y1, .int y2, .int y3] (.int 0)) : own_Met l Z (⟨"java/lang/StringLatin1", "charAt", "([BI)C"⟩ : MethodName) jdk_43_method_2_code 2 (some .char) ws ({ frames := 2, cells := 0, slots := 0, locals := 27 } : Room) #[.ref xb, .int 3] h0 (Q_own_lca4_3 Z xb xq y0 y1 y2 y3 gz gfm h0 n0) := by
  refine own_mk (plainFor_of_name own_pn_java_lang_StringLatin1) O0 ?_
  intro p e s m below meth c s₁ hx hby hml hZ hown hnm hlk hret X0 e0 N0 z0 z1
  refine own_cast (own_ef_own_lca4_3 m xb) ?_
  show own_Goes p e below (s₁.setTop (mkF m 0 #[vR xb, vI 3] [])) _
  obtain ⟨G0, G1, G2, G3, G4, G5, G6⟩ := id G
  have ltP0 : @LT.lt Nat _ xb h0.size := P0.lt
  refine q_iloadN X0 hx hby d21_0 rfl ?_
  refine q_aloadN X0 hx hby d21_1 rfl rfl ?_
  refine q_len X0 hx hby hZ e0 P0 d21_2 ?_
  refine k_S X0 hx hby hZ hown (wh hw 96 rfl) (wh hw 97 rfl) (W := 0) (own_sci l Z a0 hw [] (3 : Int32) (4 : Int32) h0 n0 O0 gz gfm G (show ¬ (3 : Int32) < (0 : Int32) from (by first | assumption | decide)) (show (3 : Int32) < (4 : Int32) from (by first | assumption | decide))) (wh hw 98 rfl) (wh hw 13 rfl) e0  hml (argsL := [.int 3, .int 4]) (rest := []) own_pd_12 d21_3 (fun _ T2 L2 X2 hQ2 => ?_)
  obtain ⟨Nc2, e2, rfl⟩ := hQ2
  have N2 := Fr.app N0 Nc2
  refine q_aloadN X2 hx hby d21_6 rfl rfl ?_
  refine q_iloadN X2 hx hby d21_7 rfl ?_
  refine q_baloadBytes X2 hx hby hZ e2 P0 d21_8 (.int y3) ?_
  refine q_sipush X2 hx hby d21_9 ?_
  refine q_iand X2 hx hby d21_12 ?_
  refine gg (fun t k => XS.i2c X2.here hx rfl (hb hby d21_13) rfl k) ?_
  show own_Goes p e below (T2.setTop (mkF m 14 #[vR xb, vI 3] [(.int ((y3 &&& (255 : Int32)).toUInt32.toUInt16.toUInt32.toInt32))])) _
  rw [i2c_mask]
  show own_Goes p e below (T2.setTop (mkF m 14 #[vR xb, vI 3] [(.int (y3 &&& (255 : Int32)))])) _
  refine r_C X2 hx hby hret hlk d21_14 e2 ?_ (hn := (congrArg Value.int (i2c_mask _)))
  exact ⟨N2, rfl, rfl⟩
theorem own_ef_own_ca4_3 (m : MethodId) (xa : Addr) : entryFrame m #[.ref xa, .int 3] 2 = mkF m 0 #[vR xa, vI 3] [] := by first | (simp [entryFrame, mkF, argsToLocals, Value.category]; done) | rfl
def Q_own_ca4_3 (Z : State) (xa : Addr) (xt : Addr) (c0 : Int32) (c1 : Int32) (c2 : Int32) (c3 : Int32) (gz : Int32) (gfm : Value) (h0 : Heap) (n0 : Nat) (v : Option Value) (h : Heap) (L : List Loc) : Prop := Fr n0 L ∧ h = h0 ∧ v = some (.int c3)
theorem own_ca4_3 (l : Launch) (Z : State) (a0 : Array Value) (hw : ∀ d ∈ tables_1, d.before a0 Z = true) (ws : List Jvm.Cond) (xa : Addr) (xt : Addr) (c0 : Int32) (c1 : Int32) (c2 : Int32) (c3 : Int32) (h0 : Heap) (n0 : Nat) (O0 : Old Z n0 h0) (gz : Int32) (gfm : Value) (G : GG Z gz gfm) (P0 : own_Str Z h0 xa xt ([c0, c1, c2, c3] : List Int32)) : own_Met l Z (⟨"java/lang/String", "charAt", "(I)C"⟩ : MethodName) jdk_42_method_56_code 2 (some .char) ws ({ frames := 4, cells := 0, slots := 0, locals := 53 } : Room) #[.ref xa, .int 3] h0 (Q_own_ca4_3 Z xa xt c0 c1 c2 c3 gz gfm h0 n0) := by
  refine own_mk (plainFor_of_name own_pn_java_lang_String) O0 ?_
  intro p e s m below meth c s₁ hx hby hml hZ hown hnm hlk hret X0 e0 N0 z0 z1
  refine own_cast (own_ef_own_ca4_3 m xa) ?_
  show own_Goes p e below (s₁.setTop (mkF m 0 #[vR xa, vI 3] [])) _
  obtain ⟨G0, G1, G2, G3, G4, G5, G6⟩ := id G
  have ltP0 : @LT.lt Nat _ xa h0.size := P0.1.lt
  have luP0 : @LT.lt Nat _ xt h0.size := P0.lt2
  obtain ⟨Es1, Vs1, kbs1, cds1, Ns1, vss1, Cs1, As1, hCs1, hbs1, hls1⟩ := id P0
  rcases hCs1 with ⟨rfl, rfl, rfl, hLs1⟩ | ⟨rfl, rfl, rfl, hWs1⟩
  · have Bs1 : Arv Z h0 xt kbs1 .byte (4 : Int32) [(.int (c0.toInt8.toInt32)), (.int (c1.toInt8.toInt32)), (.int (c2.toInt8.toInt32)), (.int (c3.toInt8.toInt32))] (.int 0) := As1
    have Ds1 : Fld Z h0 xa "java/lang/String" "coder" "B" (.int 0) := Cs1
    show own_Goes p e below (s₁.setTop (mkF m 0 #[vR xa, vI 3] [])) _
    refine q_aloadN X0 hx hby d19_0 rfl rfl ?_
    refine k_V X0 hx hby hZ hown (wh hw 88 rfl) (wh hw 89 rfl) (wh hw 91 rfl) (wh hw 90 rfl) (W := 0) (own_isL0 l Z a0 hw [] xa h0 n0 O0 gz gfm G Ds1) (wh hw 92 rfl) (wh hw 13 rfl) e0 Es1  hml (argsL := []) (rest := []) own_pd_14 d19_1 (fun _ T2 L2 X2 hQ2 => ?_)
    obtain ⟨Nc2, e2, rfl⟩ := hQ2
    have N2 := Fr.app N0 Nc2
    refine q_ifNo X2 hx hby d19_4 ((if0 _ _).trans (feq (show ¬ ((1 : Int32) = (0 : Int32)) from by decide)).1) ?_
    refine q_aloadN X2 hx hby d19_7 rfl rfl ?_
    refine qG X2 hx hby hZ hown (wh hw 30 rfl) e2 Vs1 d19_8 (fun T3 X3 e3 => ?_)
    refine q_iloadN X3 hx hby d19_11 rfl ?_
    refine k_S X3 hx hby hZ hown (wh hw 93 rfl) (wh hw 94 rfl) (W := 0) (own_lca4_3 l Z a0 hw [] xt kbs1 (c0.toInt8.toInt32) (c1.toInt8.toInt32) (c2.toInt8.toInt32) (c3.toInt8.toInt32) h0 n0 O0 gz gfm G Bs1) (wh hw 95 rfl) (wh hw 38 rfl) e3  hml (argsL := [.ref xt, .int 3]) (rest := []) own_pd_5 d19_12 (fun _ T4 L4 X4 hQ4 => ?_)
    obtain ⟨Nc4, e4, rfl⟩ := hQ4
    have N4 := Fr.app N2 Nc4
    show own_Goes p e below (T4.setTop (mkF m 15 #[vR xa, vI 3] [(.int ((c3.toInt8.toInt32) &&& (255 : Int32)))])) _
    rw [show ((c3.toInt8.toInt32) &&& (255 : Int32)) = c3 from own_b8 (hbs1 c3 (by simp)) (hLs1 c3 (by simp))]
    refine r_C X4 hx hby hret hlk d19_15 e4 ?_ (hn := (own_narr16 (hbs1 c3 (by simp))))
    exact ⟨N4, rfl, rfl⟩
  · have Bs1 : Arv Z h0 xt kbs1 .byte (8 : Int32) [(.int (c0.toInt8.toInt32)), (.int ((c0 >>> ((8 : Int32) &&& 31)).toInt8.toInt32)), (.int (c1.toInt8.toInt32)), (.int ((c1 >>> ((8 : Int32) &&& 31)).toInt8.toInt32)), (.int (c2.toInt8.toInt32)), (.int ((c2 >>> ((8 : Int32) &&& 31)).toInt8.toInt32)), (.int (c3.toInt8.toInt32)), (.int ((c3 >>> ((8 : Int32) &&& 31)).toInt8.toInt32))] (.int 0) := As1
    have Ds1 : Fld Z h0 xa "java/lang/String" "coder" "B" (.int 1) := Cs1
    show own_Goes p e below (s₁.setTop (mkF m 0 #[vR xa, vI 3] [])) _
    refine q_aloadN X0 hx hby d19_0 rfl rfl ?_
    refine k_V X0 hx hby hZ hown (wh hw 88 rfl) (wh hw 89 rfl) (wh hw 91 rfl) (wh hw 90 rfl) (W := 0) (own_isL1 l Z a0 hw [] xa h0 n0 O0 gz gfm G Ds1) (wh hw 92 rfl) (wh hw 13 rfl) e0 Es1  hml (argsL := []) (rest := []) own_pd_14 d19_1 (fun _ T5 L5 X5 hQ5 => ?_)
    obtain ⟨Nc5, e5, rfl⟩ := hQ5
    have N5 := Fr.app N0 Nc5
    refine q_ifYes (pc := 4) X5 hx hby d19_4 (pc' := 16) ((if0 _ _).trans (teq (show ((0 : Int32) = (0 : Int32)) from by decide)).1) (by decide) (by decide) ?_
    refine q_aloadN X5 hx hby d19_16 rfl rfl ?_
    refine qG X5 hx hby hZ hown (wh hw 30 rfl) e5 Vs1 d19_17 (fun T6 X6 e6 => ?_)
    refine q_iloadN X6 hx hby d19_20 rfl ?_
    refine k_S X6 hx hby hZ hown (wh hw 130 rfl) (wh hw 131 rfl) (W := 0) (own_uca4_3 l Z a0 hw [] xt kbs1 (c0.toInt8.toInt32) ((c0 >>> ((8 : Int32) &&& 31)).toInt8.toInt32) (c1.toInt8.toInt32) ((c1 >>> ((8 : Int32) &&& 31)).toInt8.toInt32) (c2.toInt8.toInt32) ((c2 >>> ((8 : Int32) &&& 31)).toInt8.toInt32) (c3.toInt8.toInt32) ((c3 >>> ((8 : Int32) &&& 31)).toInt8.toInt32) h0 n0 O0 gz gfm G Bs1) (wh hw 132 rfl) (wh hw 75 rfl) e6  hml (argsL := [.ref xt, .int 3]) (rest := []) own_pd_5 d19_21 (fun _ T7 L7 X7 hQ7 => ?_)
    obtain ⟨Nc7, e7, rfl⟩ := hQ7
    have N7 := Fr.app N5 Nc7
    show own_Goes p e below (T7.setTop (mkF m 24 #[vR xa, vI 3] [(.int (((((c3.toInt8.toInt32) &&& (255 : Int32)) <<< ((0 : Int32) &&& 31)) ||| ((((c3 >>> ((8 : Int32) &&& 31)).toInt8.toInt32) &&& (255 : Int32)) <<< ((8 : Int32) &&& 31))).toUInt32.toUInt16.toUInt32.toInt32))])) _
    rw [show (((((c3.toInt8.toInt32) &&& (255 : Int32)) <<< ((0 : Int32) &&& 31)) ||| ((((c3 >>> ((8 : Int32) &&& 31)).toInt8.toInt32) &&& (255 : Int32)) <<< ((8 : Int32) &&& 31))).toUInt32.toUInt16.toUInt32.toInt32) = c3 from own_g16 (hbs1 c3 (by simp))]
    refine r_C X7 hx hby hret hlk d19_24 e7 ?_ (hn := (own_narr16 (hbs1 c3 (by simp))))
    exact ⟨N7, rfl, rfl⟩
theorem own_k1 : (55296 : Int32).toInt = 55296 := by decide
theorem own_k2 : (56319 : Int32).toInt = 56319 := by decide
theorem own_k3 : (56320 : Int32).toInt = 56320 := by decide
theorem own_k4 : (57343 : Int32).toInt = 57343 := by decide
theorem own_k5 : (57344 : Int32).toInt = 57344 := by decide
def own_hi (c : Int32) : Int32 := if c < (55296 : Int32) then 0 else if (56319 : Int32) < c then 0 else 1
theorem own_hi_1 {c : Int32} (h : c < (55296 : Int32)) : own_hi c = 0 := if_pos h
theorem own_hi_2 {c : Int32} (h : ¬ c < (55296 : Int32)) (g : (56319 : Int32) < c) : own_hi c = 0 := (if_neg h).trans (if_pos g)
theorem own_hi_3 {c : Int32} (h : ¬ c < (55296 : Int32)) (g : ¬ (56319 : Int32) < c) : own_hi c = 1 := (if_neg h).trans (if_neg g)
theorem own_hiB (c : Int32) : (own_hi c = 0 ∧ (c.toInt < 55296 ∨ 56319 < c.toInt)) ∨ (own_hi c = 1 ∧ (55296 ≤ c.toInt ∧ c.toInt ≤ 56319)) := by
  have := own_k1; have := own_k2; have := own_k3; have := own_k4; have := own_k5
  by_cases h : c < (55296 : Int32)
  · refine Or.inl ⟨own_hi_1 h, ?_⟩
    rw [Int32.lt_iff_toInt_lt] at h
    omega
  · by_cases g : (56319 : Int32) < c
    · refine Or.inl ⟨own_hi_2 h g, ?_⟩
      rw [Int32.lt_iff_toInt_lt] at h g
      omega
    · refine Or.inr ⟨own_hi_3 h g, ?_⟩
      rw [Int32.lt_iff_toInt_lt] at h g
      omega
theorem own_hiF {c : Int32} (h : own_hi c = 0) : (c.toInt < 55296 ∨ 56319 < c.toInt) := by
  rcases own_hiB c with ⟨-, q⟩ | ⟨q, -⟩
  · exact q
  · rw [q] at h; exact absurd h (by decide)
theorem own_hiT {c : Int32} (h : ¬ own_hi c = 0) : (55296 ≤ c.toInt ∧ c.toInt ≤ 56319) := by
  rcases own_hiB c with ⟨q, -⟩ | ⟨-, q⟩
  · exact absurd q h
  · exact q
theorem own_hiN {c : Int32} (h : (55296 ≤ c.toInt ∧ c.toInt ≤ 56319)) : ¬ own_hi c = 0 := by
  rcases own_hiB c with ⟨-, q⟩ | ⟨q, -⟩
  · omega
  · rw [q]; decide
theorem own_hiZ {c : Int32} (h : (c.toInt < 55296 ∨ 56319 < c.toInt)) : own_hi c = 0 := by
  rcases own_hiB c with ⟨q, -⟩ | ⟨-, q⟩
  · exact q
  · omega
def own_lo (c : Int32) : Int32 := if c < (56320 : Int32) then 0 else if (57343 : Int32) < c then 0 else 1
theorem own_lo_1 {c : Int32} (h : c < (56320 : Int32)) : own_lo c = 0 := if_pos h
theorem own_lo_2 {c : Int32} (h : ¬ c < (56320 : Int32)) (g : (57343 : Int32) < c) : own_lo c = 0 := (if_neg h).trans (if_pos g)
theorem own_lo_3 {c : Int32} (h : ¬ c < (56320 : Int32)) (g : ¬ (57343 : Int32) < c) : own_lo c = 1 := (if_neg h).trans (if_neg g)
theorem own_loB (c : Int32) : (own_lo c = 0 ∧ (c.toInt < 56320 ∨ 57343 < c.toInt)) ∨ (own_lo c = 1 ∧ (56320 ≤ c.toInt ∧ c.toInt ≤ 57343)) := by
  have := own_k1; have := own_k2; have := own_k3; have := own_k4; have := own_k5
  by_cases h : c < (56320 : Int32)
  · refine Or.inl ⟨own_lo_1 h, ?_⟩
    rw [Int32.lt_iff_toInt_lt] at h
    omega
  · by_cases g : (57343 : Int32) < c
    · refine Or.inl ⟨own_lo_2 h g, ?_⟩
      rw [Int32.lt_iff_toInt_lt] at h g
      omega
    · refine Or.inr ⟨own_lo_3 h g, ?_⟩
      rw [Int32.lt_iff_toInt_lt] at h g
      omega
theorem own_loF {c : Int32} (h : own_lo c = 0) : (c.toInt < 56320 ∨ 57343 < c.toInt) := by
  rcases own_loB c with ⟨-, q⟩ | ⟨q, -⟩
  · exact q
  · rw [q] at h; exact absurd h (by decide)
theorem own_loT {c : Int32} (h : ¬ own_lo c = 0) : (56320 ≤ c.toInt ∧ c.toInt ≤ 57343) := by
  rcases own_loB c with ⟨q, -⟩ | ⟨-, q⟩
  · exact absurd q h
  · exact q
theorem own_loN {c : Int32} (h : (56320 ≤ c.toInt ∧ c.toInt ≤ 57343)) : ¬ own_lo c = 0 := by
  rcases own_loB c with ⟨-, q⟩ | ⟨q, -⟩
  · omega
  · rw [q]; decide
theorem own_loZ {c : Int32} (h : (c.toInt < 56320 ∨ 57343 < c.toInt)) : own_lo c = 0 := by
  rcases own_loB c with ⟨q, -⟩ | ⟨-, q⟩
  · exact q
  · omega
def own_su (c : Int32) : Int32 := if c < (55296 : Int32) then 0 else if c < (57344 : Int32) then 1 else 0
theorem own_su_1 {c : Int32} (h : c < (55296 : Int32)) : own_su c = 0 := if_pos h
theorem own_su_2 {c : Int32} (h : ¬ c < (55296 : Int32)) (g : c < (57344 : Int32)) : own_su c = 1 := (if_neg h).trans (if_pos g)
theorem own_su_3 {c : Int32} (h : ¬ c < (55296 : Int32)) (g : ¬ c < (57344 : Int32)) : own_su c = 0 := (if_neg h).trans (if_neg g)
theorem own_suB (c : Int32) : (own_su c = 0 ∧ (c.toInt < 55296 ∨ 57343 < c.toInt)) ∨ (own_su c = 1 ∧ (55296 ≤ c.toInt ∧ c.toInt ≤ 57343)) := by
  have := own_k1; have := own_k2; have := own_k3; have := own_k4; have := own_k5
  by_cases h : c < (55296 : Int32)
  · refine Or.inl ⟨own_su_1 h, ?_⟩
    rw [Int32.lt_iff_toInt_lt] at h
    omega
  · by_cases g : c < (57344 : Int32)
    · refine Or.inr ⟨own_su_2 h g, ?_⟩
      rw [Int32.lt_iff_toInt_lt] at h g
      omega
    · refine Or.inl ⟨own_su_3 h g, ?_⟩
      rw [Int32.lt_iff_toInt_lt] at h g
      omega
theorem own_suF {c : Int32} (h : own_su c = 0) : (c.toInt < 55296 ∨ 57343 < c.toInt) := by
  rcases own_suB c with ⟨-, q⟩ | ⟨q, -⟩
  · exact q
  · rw [q] at h; exact absurd h (by decide)
theorem own_suT {c : Int32} (h : ¬ own_su c = 0) : (55296 ≤ c.toInt ∧ c.toInt ≤ 57343) := by
  rcases own_suB c with ⟨q, -⟩ | ⟨-, q⟩
  · exact absurd q h
  · exact q
theorem own_suN {c : Int32} (h : (55296 ≤ c.toInt ∧ c.toInt ≤ 57343)) : ¬ own_su c = 0 := by
  rcases own_suB c with ⟨-, q⟩ | ⟨q, -⟩
  · omega
  · rw [q]; decide
theorem own_suZ {c : Int32} (h : (c.toInt < 55296 ∨ 57343 < c.toInt)) : own_su c = 0 := by
  rcases own_suB c with ⟨q, -⟩ | ⟨-, q⟩
  · exact q
  · omega
def own_hs (c : Int32) : Int32 := if c < (55296 : Int32) then 0 else if c < (56320 : Int32) then 1 else 0
theorem own_hs_1 {c : Int32} (h : c < (55296 : Int32)) : own_hs c = 0 := if_pos h
theorem own_hs_2 {c : Int32} (h : ¬ c < (55296 : Int32)) (g : c < (56320 : Int32)) : own_hs c = 1 := (if_neg h).trans (if_pos g)
theorem own_hs_3 {c : Int32} (h : ¬ c < (55296 : Int32)) (g : ¬ c < (56320 : Int32)) : own_hs c = 0 := (if_neg h).trans (if_neg g)
theorem own_hsB (c : Int32) : (own_hs c = 0 ∧ (c.toInt < 55296 ∨ 56319 < c.toInt)) ∨ (own_hs c = 1 ∧ (55296 ≤ c.toInt ∧ c.toInt ≤ 56319)) := by
  have := own_k1; have := own_k2; have := own_k3; have := own_k4; have := own_k5
  by_cases h : c < (55296 : Int32)
  · refine Or.inl ⟨own_hs_1 h, ?_⟩
    rw [Int32.lt_iff_toInt_lt] at h
    omega
  · by_cases g : c < (56320 : Int32)
    · refine Or.inr ⟨own_hs_2 h g, ?_⟩
      rw [Int32.lt_iff_toInt_lt] at h g
      omega
    · refine Or.inl ⟨own_hs_3 h g, ?_⟩
      rw [Int32.lt_iff_toInt_lt] at h g
      omega
theorem own_hsF {c : Int32} (h : own_hs c = 0) : (c.toInt < 55296 ∨ 56319 < c.toInt) := by
  rcases own_hsB c with ⟨-, q⟩ | ⟨q, -⟩
  · exact q
  · rw [q] at h; exact absurd h (by decide)
theorem own_hsT {c : Int32} (h : ¬ own_hs c = 0) : (55296 ≤ c.toInt ∧ c.toInt ≤ 56319) := by
  rcases own_hsB c with ⟨q, -⟩ | ⟨-, q⟩
  · exact absurd q h
  · exact q
theorem own_hsN {c : Int32} (h : (55296 ≤ c.toInt ∧ c.toInt ≤ 56319)) : ¬ own_hs c = 0 := by
  rcases own_hsB c with ⟨-, q⟩ | ⟨q, -⟩
  · omega
  · rw [q]; decide
theorem own_hsZ {c : Int32} (h : (c.toInt < 55296 ∨ 56319 < c.toInt)) : own_hs c = 0 := by
  rcases own_hsB c with ⟨q, -⟩ | ⟨-, q⟩
  · exact q
  · omega
def own_ls (c : Int32) : Int32 := if c < (56320 : Int32) then 0 else if c < (57344 : Int32) then 1 else 0
theorem own_ls_1 {c : Int32} (h : c < (56320 : Int32)) : own_ls c = 0 := if_pos h
theorem own_ls_2 {c : Int32} (h : ¬ c < (56320 : Int32)) (g : c < (57344 : Int32)) : own_ls c = 1 := (if_neg h).trans (if_pos g)
theorem own_ls_3 {c : Int32} (h : ¬ c < (56320 : Int32)) (g : ¬ c < (57344 : Int32)) : own_ls c = 0 := (if_neg h).trans (if_neg g)
theorem own_lsB (c : Int32) : (own_ls c = 0 ∧ (c.toInt < 56320 ∨ 57343 < c.toInt)) ∨ (own_ls c = 1 ∧ (56320 ≤ c.toInt ∧ c.toInt ≤ 57343)) := by
  have := own_k1; have := own_k2; have := own_k3; have := own_k4; have := own_k5
  by_cases h : c < (56320 : Int32)
  · refine Or.inl ⟨own_ls_1 h, ?_⟩
    rw [Int32.lt_iff_toInt_lt] at h
    omega
  · by_cases g : c < (57344 : Int32)
    · refine Or.inr ⟨own_ls_2 h g, ?_⟩
      rw [Int32.lt_iff_toInt_lt] at h g
      omega
    · refine Or.inl ⟨own_ls_3 h g, ?_⟩
      rw [Int32.lt_iff_toInt_lt] at h g
      omega
theorem own_lsF {c : Int32} (h : own_ls c = 0) : (c.toInt < 56320 ∨ 57343 < c.toInt) := by
  rcases own_lsB c with ⟨-, q⟩ | ⟨q, -⟩
  · exact q
  · rw [q] at h; exact absurd h (by decide)
theorem own_lsT {c : Int32} (h : ¬ own_ls c = 0) : (56320 ≤ c.toInt ∧ c.toInt ≤ 57343) := by
  rcases own_lsB c with ⟨q, -⟩ | ⟨-, q⟩
  · exact absurd q h
  · exact q
theorem own_lsN {c : Int32} (h : (56320 ≤ c.toInt ∧ c.toInt ≤ 57343)) : ¬ own_ls c = 0 := by
  rcases own_lsB c with ⟨-, q⟩ | ⟨q, -⟩
  · omega
  · rw [q]; decide
theorem own_lsZ {c : Int32} (h : (c.toInt < 56320 ∨ 57343 < c.toInt)) : own_ls c = 0 := by
  rcases own_lsB c with ⟨q, -⟩ | ⟨-, q⟩
  · exact q
  · omega
theorem own_ne0 {c : Int32} (h : ¬ c.toInt = 0) : ¬ c = 0 := fun q => h (by rw [q]; decide)
theorem own_ne0' {c : Int32} (h : ¬ c = 0) : ¬ c.toInt = 0 := fun q => h (own_eqJ (by rw [q]; decide))
theorem d14_0 : decode B14 0 = .ok (.iload_n 0, 1) := by decide +kernel
theorem d14_1 : decode B14 1 = .ok (.ldc 8, 2) := by decide +kernel
theorem d14_3 : decode B14 3 = .ok (.if_icmp .lt 13, 3) := by decide +kernel
theorem d14_16 : decode B14 16 = .ok (.iconst 0, 1) := by decide +kernel
theorem d14_17 : decode B14 17 = .ok (.ireturn, 1) := by decide +kernel
theorem d14_6 : decode B14 6 = .ok (.iload_n 0, 1) := by decide +kernel
theorem d14_7 : decode B14 7 = .ok (.ldc 10, 2) := by decide +kernel
theorem d14_9 : decode B14 9 = .ok (.if_icmp .gt 7, 3) := by decide +kernel
theorem d14_12 : decode B14 12 = .ok (.iconst 1, 1) := by decide +kernel
theorem d14_13 : decode B14 13 = .ok (.goto 4, 3) := by decide +kernel
theorem own_pn_com_example_circa_once_circaonce_model_StorableTextRequirePinLaw : plainName "com/example/circa_once/circaonce/model/StorableTextRequirePinLaw" = true := by first | (simp [plainName, overriddenIn]; done) | decide +kernel
theorem own_ef_own_hiC (m : MethodId) (xi : Int32) : entryFrame m #[.int xi] 1 = mkF m 0 #[vI xi] [] := by first | (simp [entryFrame, mkF, argsToLocals, Value.category]; done) | rfl
def Q_own_hiC (Z : State) (xi : Int32) (h0 : Heap) (n0 : Nat) (v : Option Value) (h : Heap) (L : List Loc) : Prop := Fr n0 L ∧ h = h0 ∧ v = some (.int (own_hi xi))
theorem own_hiC (l : Launch) (Z : State) (a0 : Array Value) (hw : ∀ d ∈ tables_1, d.before a0 Z = true) (ws : List Jvm.Cond) (xi : Int32) (h0 : Heap) (n0 : Nat) (O0 : Old Z n0 h0) : own_Met l Z (⟨"com/example/circa_once/circaonce/model/StorableTextRequirePinLaw", "isHigh", "(C)Z"⟩ : MethodName) method_3_code 1 (some .boolean) ws ({ frames := 0, cells := 0, slots := 0, locals := 0 } : Room) #[.int xi] h0 (Q_own_hiC Z xi h0 n0) := by
  refine own_mk (plainFor_of_name own_pn_com_example_circa_once_circaonce_model_StorableTextRequirePinLaw) O0 ?_
  intro p e s m below meth c s₁ hx hby hml hZ hown hnm hlk hret X0 e0 N0 z0 z1
  refine own_cast (own_ef_own_hiC m xi) ?_
  show own_Goes p e below (s₁.setTop (mkF m 0 #[vI xi] [])) _
  refine q_iloadN X0 hx hby d14_0 rfl ?_
  refine gg (fun t k => Jvm.Stand.ldcI X0 hx hown (mv hZ (wh hw 68 rfl)) rfl (hb hby d14_1) k) ?_
  by_cases hc1 : xi < (55296 : Int32)
  · refine q_icmpYes (pc := 3) X0 hx hby d14_3 (pc' := 16) (tlt hc1).1 (by decide) (by decide) ?_
    refine q_iconst X0 hx hby d14_16 ?_
    refine r_Z X0 hx hby hret hlk d14_17 e0 ?_
    exact ⟨N0, rfl, (by rw [own_hi_1 hc1] <;> rfl)⟩
  · refine q_icmpNo X0 hx hby d14_3 (flt hc1).1 ?_
    refine q_iloadN X0 hx hby d14_6 rfl ?_
    refine gg (fun t k => Jvm.Stand.ldcI X0 hx hown (mv hZ (wh hw 109 rfl)) rfl (hb hby d14_7) k) ?_
    by_cases hc2 : (56319 : Int32) < xi
    · refine q_icmpYes (pc := 9) X0 hx hby d14_9 (pc' := 16) (tlt hc2).2.2.1 (by decide) (by decide) ?_
      refine q_iconst X0 hx hby d14_16 ?_
      refine r_Z X0 hx hby hret hlk d14_17 e0 ?_
      exact ⟨N0, rfl, (by rw [own_hi_2 hc1 hc2] <;> rfl)⟩
    · refine q_icmpNo X0 hx hby d14_9 (flt hc2).2.2.1 ?_
      refine q_iconst X0 hx hby d14_12 ?_
      refine q_goto (pc := 13) X0 hx hby d14_13 (pc' := 17) (by decide) (by decide) ?_
      refine r_Z X0 hx hby hret hlk d14_17 e0 ?_
      exact ⟨N0, rfl, (by rw [own_hi_3 hc1 hc2] <;> rfl)⟩
theorem d15_0 : decode B15 0 = .ok (.iload_n 0, 1) := by decide +kernel
theorem d15_1 : decode B15 1 = .ok (.ldc 11, 2) := by decide +kernel
theorem d15_3 : decode B15 3 = .ok (.if_icmp .lt 13, 3) := by decide +kernel
theorem d15_16 : decode B15 16 = .ok (.iconst 0, 1) := by decide +kernel
theorem d15_17 : decode B15 17 = .ok (.ireturn, 1) := by decide +kernel
theorem d15_6 : decode B15 6 = .ok (.iload_n 0, 1) := by decide +kernel
theorem d15_7 : decode B15 7 = .ok (.ldc 12, 2) := by decide +kernel
theorem d15_9 : decode B15 9 = .ok (.if_icmp .gt 7, 3) := by decide +kernel
theorem d15_12 : decode B15 12 = .ok (.iconst 1, 1) := by decide +kernel
theorem d15_13 : decode B15 13 = .ok (.goto 4, 3) := by decide +kernel
theorem own_ef_own_loC (m : MethodId) (xi : Int32) : entryFrame m #[.int xi] 1 = mkF m 0 #[vI xi] [] := by first | (simp [entryFrame, mkF, argsToLocals, Value.category]; done) | rfl
def Q_own_loC (Z : State) (xi : Int32) (h0 : Heap) (n0 : Nat) (v : Option Value) (h : Heap) (L : List Loc) : Prop := Fr n0 L ∧ h = h0 ∧ v = some (.int (own_lo xi))
theorem own_loC (l : Launch) (Z : State) (a0 : Array Value) (hw : ∀ d ∈ tables_1, d.before a0 Z = true) (ws : List Jvm.Cond) (xi : Int32) (h0 : Heap) (n0 : Nat) (O0 : Old Z n0 h0) : own_Met l Z (⟨"com/example/circa_once/circaonce/model/StorableTextRequirePinLaw", "isLow", "(C)Z"⟩ : MethodName) method_4_code 1 (some .boolean) ws ({ frames := 0, cells := 0, slots := 0, locals := 0 } : Room) #[.int xi] h0 (Q_own_loC Z xi h0 n0) := by
  refine own_mk (plainFor_of_name own_pn_com_example_circa_once_circaonce_model_StorableTextRequirePinLaw) O0 ?_
  intro p e s m below meth c s₁ hx hby hml hZ hown hnm hlk hret X0 e0 N0 z0 z1
  refine own_cast (own_ef_own_loC m xi) ?_
  show own_Goes p e below (s₁.setTop (mkF m 0 #[vI xi] [])) _
  refine q_iloadN X0 hx hby d15_0 rfl ?_
  refine gg (fun t k => Jvm.Stand.ldcI X0 hx hown (mv hZ (wh hw 72 rfl)) rfl (hb hby d15_1) k) ?_
  by_cases hc1 : xi < (56320 : Int32)
  · refine q_icmpYes (pc := 3) X0 hx hby d15_3 (pc' := 16) (tlt hc1).1 (by decide) (by decide) ?_
    refine q_iconst X0 hx hby d15_16 ?_
    refine r_Z X0 hx hby hret hlk d15_17 e0 ?_
    exact ⟨N0, rfl, (by rw [own_lo_1 hc1] <;> rfl)⟩
  · refine q_icmpNo X0 hx hby d15_3 (flt hc1).1 ?_
    refine q_iloadN X0 hx hby d15_6 rfl ?_
    refine gg (fun t k => Jvm.Stand.ldcI X0 hx hown (mv hZ (wh hw 110 rfl)) rfl (hb hby d15_7) k) ?_
    by_cases hc2 : (57343 : Int32) < xi
    · refine q_icmpYes (pc := 9) X0 hx hby d15_9 (pc' := 16) (tlt hc2).2.2.1 (by decide) (by decide) ?_
      refine q_iconst X0 hx hby d15_16 ?_
      refine r_Z X0 hx hby hret hlk d15_17 e0 ?_
      exact ⟨N0, rfl, (by rw [own_lo_2 hc1 hc2] <;> rfl)⟩
    · refine q_icmpNo X0 hx hby d15_9 (flt hc2).2.2.1 ?_
      refine q_iconst X0 hx hby d15_12 ?_
      refine q_goto (pc := 13) X0 hx hby d15_13 (pc' := 17) (by decide) (by decide) ?_
      refine r_Z X0 hx hby hret hlk d15_17 e0 ?_
      exact ⟨N0, rfl, (by rw [own_lo_3 hc1 hc2] <;> rfl)⟩
theorem d24_0 : decode B24 0 = .ok (.iload_n 0, 1) := by decide +kernel
theorem d24_1 : decode B24 1 = .ok (.ldc 75, 2) := by decide +kernel
theorem d24_3 : decode B24 3 = .ok (.if_icmp .lt 13, 3) := by decide +kernel
theorem d24_16 : decode B24 16 = .ok (.iconst 0, 1) := by decide +kernel
theorem d24_17 : decode B24 17 = .ok (.ireturn, 1) := by decide +kernel
theorem d24_6 : decode B24 6 = .ok (.iload_n 0, 1) := by decide +kernel
theorem d24_7 : decode B24 7 = .ok (.ldc 77, 2) := by decide +kernel
theorem d24_9 : decode B24 9 = .ok (.if_icmp .ge 7, 3) := by decide +kernel
theorem d24_12 : decode B24 12 = .ok (.iconst 1, 1) := by decide +kernel
theorem d24_13 : decode B24 13 = .ok (.goto 4, 3) := by decide +kernel
theorem own_pn_java_lang_Character : plainName "java/lang/Character" = true := by first | (simp [plainName, overriddenIn]; done) | decide +kernel
theorem own_ef_own_suC (m : MethodId) (xi : Int32) : entryFrame m #[.int xi] 1 = mkF m 0 #[vI xi] [] := by first | (simp [entryFrame, mkF, argsToLocals, Value.category]; done) | rfl
def Q_own_suC (Z : State) (xi : Int32) (h0 : Heap) (n0 : Nat) (v : Option Value) (h : Heap) (L : List Loc) : Prop := Fr n0 L ∧ h = h0 ∧ v = some (.int (own_su xi))
theorem own_suC (l : Launch) (Z : State) (a0 : Array Value) (hw : ∀ d ∈ tables_1, d.before a0 Z = true) (ws : List Jvm.Cond) (xi : Int32) (h0 : Heap) (n0 : Nat) (O0 : Old Z n0 h0) : own_Met l Z (⟨"java/lang/Character", "isSurrogate", "(C)Z"⟩ : MethodName) jdk_89_method_16_code 1 (some .boolean) ws ({ frames := 0, cells := 0, slots := 0, locals := 0 } : Room) #[.int xi] h0 (Q_own_suC Z xi h0 n0) := by
  refine own_mk (plainFor_of_name own_pn_java_lang_Character) O0 ?_
  intro p e s m below meth c s₁ hx hby hml hZ hown hnm hlk hret X0 e0 N0 z0 z1
  refine own_cast (own_ef_own_suC m xi) ?_
  show own_Goes p e below (s₁.setTop (mkF m 0 #[vI xi] [])) _
  refine q_iloadN X0 hx hby d24_0 rfl ?_
  refine gg (fun t k => Jvm.Stand.ldcI X0 hx hown (mv hZ (wh hw 108 rfl)) rfl (hb hby d24_1) k) ?_
  by_cases hc1 : xi < (55296 : Int32)
  · refine q_icmpYes (pc := 3) X0 hx hby d24_3 (pc' := 16) (tlt hc1).1 (by decide) (by decide) ?_
    refine q_iconst X0 hx hby d24_16 ?_
    refine r_Z X0 hx hby hret hlk d24_17 e0 ?_
    exact ⟨N0, rfl, (by rw [own_su_1 hc1] <;> rfl)⟩
  · refine q_icmpNo X0 hx hby d24_3 (flt hc1).1 ?_
    refine q_iloadN X0 hx hby d24_6 rfl ?_
    refine gg (fun t k => Jvm.Stand.ldcI X0 hx hown (mv hZ (wh hw 140 rfl)) rfl (hb hby d24_7) k) ?_
    by_cases hc2 : xi < (57344 : Int32)
    · refine q_icmpNo X0 hx hby d24_9 (tlt hc2).2.1 ?_
      refine q_iconst X0 hx hby d24_12 ?_
      refine q_goto (pc := 13) X0 hx hby d24_13 (pc' := 17) (by decide) (by decide) ?_
      refine r_Z X0 hx hby hret hlk d24_17 e0 ?_
      exact ⟨N0, rfl, (by rw [own_su_2 hc1 hc2] <;> rfl)⟩
    · refine q_icmpYes (pc := 9) X0 hx hby d24_9 (pc' := 16) (flt hc2).2.1 (by decide) (by decide) ?_
      refine q_iconst X0 hx hby d24_16 ?_
      refine r_Z X0 hx hby hret hlk d24_17 e0 ?_
      exact ⟨N0, rfl, (by rw [own_su_3 hc1 hc2] <;> rfl)⟩
theorem d33_0 : decode B33 0 = .ok (.iload_n 0, 1) := by decide +kernel
theorem d33_1 : decode B33 1 = .ok (.ldc 75, 2) := by decide +kernel
theorem d33_3 : decode B33 3 = .ok (.if_icmp .lt 13, 3) := by decide +kernel
theorem d33_16 : decode B33 16 = .ok (.iconst 0, 1) := by decide +kernel
theorem d33_17 : decode B33 17 = .ok (.ireturn, 1) := by decide +kernel
theorem d33_6 : decode B33 6 = .ok (.iload_n 0, 1) := by decide +kernel
theorem d33_7 : decode B33 7 = .ok (.ldc 76, 2) := by decide +kernel
theorem d33_9 : decode B33 9 = .ok (.if_icmp .ge 7, 3) := by decide +kernel
theorem d33_12 : decode B33 12 = .ok (.iconst 1, 1) := by decide +kernel
theorem d33_13 : decode B33 13 = .ok (.goto 4, 3) := by decide +kernel
theorem own_ef_own_hsC (m : MethodId) (xi : Int32) : entryFrame m #[.int xi] 1 = mkF m 0 #[vI xi] [] := by first | (simp [entryFrame, mkF, argsToLocals, Value.category]; done) | rfl
def Q_own_hsC (Z : State) (xi : Int32) (h0 : Heap) (n0 : Nat) (v : Option Value) (h : Heap) (L : List Loc) : Prop := Fr n0 L ∧ h = h0 ∧ v = some (.int (own_hs xi))
theorem own_hsC (l : Launch) (Z : State) (a0 : Array Value) (hw : ∀ d ∈ tables_1, d.before a0 Z = true) (ws : List Jvm.Cond) (xi : Int32) (h0 : Heap) (n0 : Nat) (O0 : Old Z n0 h0) : own_Met l Z (⟨"java/lang/Character", "isHighSurrogate", "(C)Z"⟩ : MethodName) jdk_89_method_14_code 1 (some .boolean) ws ({ frames := 0, cells := 0, slots := 0, locals := 0 } : Room) #[.int xi] h0 (Q_own_hsC Z xi h0 n0) := by
  refine own_mk (plainFor_of_name own_pn_java_lang_Character) O0 ?_
  intro p e s m below meth c s₁ hx hby hml hZ hown hnm hlk hret X0 e0 N0 z0 z1
  refine own_cast (own_ef_own_hsC m xi) ?_
  show own_Goes p e below (s₁.setTop (mkF m 0 #[vI xi] [])) _
  refine q_iloadN X0 hx hby d33_0 rfl ?_
  refine gg (fun t k => Jvm.Stand.ldcI X0 hx hown (mv hZ (wh hw 108 rfl)) rfl (hb hby d33_1) k) ?_
  by_cases hc1 : xi < (55296 : Int32)
  · refine q_icmpYes (pc := 3) X0 hx hby d33_3 (pc' := 16) (tlt hc1).1 (by decide) (by decide) ?_
    refine q_iconst X0 hx hby d33_16 ?_
    refine r_Z X0 hx hby hret hlk d33_17 e0 ?_
    exact ⟨N0, rfl, (by rw [own_hs_1 hc1] <;> rfl)⟩
  · refine q_icmpNo X0 hx hby d33_3 (flt hc1).1 ?_
    refine q_iloadN X0 hx hby d33_6 rfl ?_
    refine gg (fun t k => Jvm.Stand.ldcI X0 hx hown (mv hZ (wh hw 144 rfl)) rfl (hb hby d33_7) k) ?_
    by_cases hc2 : xi < (56320 : Int32)
    · refine q_icmpNo X0 hx hby d33_9 (tlt hc2).2.1 ?_
      refine q_iconst X0 hx hby d33_12 ?_
      refine q_goto (pc := 13) X0 hx hby d33_13 (pc' := 17) (by decide) (by decide) ?_
      refine r_Z X0 hx hby hret hlk d33_17 e0 ?_
      exact ⟨N0, rfl, (by rw [own_hs_2 hc1 hc2] <;> rfl)⟩
    · refine q_icmpYes (pc := 9) X0 hx hby d33_9 (pc' := 16) (flt hc2).2.1 (by decide) (by decide) ?_
      refine q_iconst X0 hx hby d33_16 ?_
      refine r_Z X0 hx hby hret hlk d33_17 e0 ?_
      exact ⟨N0, rfl, (by rw [own_hs_3 hc1 hc2] <;> rfl)⟩
theorem d34_0 : decode B34 0 = .ok (.iload_n 0, 1) := by decide +kernel
theorem d34_1 : decode B34 1 = .ok (.ldc 76, 2) := by decide +kernel
theorem d34_3 : decode B34 3 = .ok (.if_icmp .lt 13, 3) := by decide +kernel
theorem d34_16 : decode B34 16 = .ok (.iconst 0, 1) := by decide +kernel
theorem d34_17 : decode B34 17 = .ok (.ireturn, 1) := by decide +kernel
theorem d34_6 : decode B34 6 = .ok (.iload_n 0, 1) := by decide +kernel
theorem d34_7 : decode B34 7 = .ok (.ldc 77, 2) := by decide +kernel
theorem d34_9 : decode B34 9 = .ok (.if_icmp .ge 7, 3) := by decide +kernel
theorem d34_12 : decode B34 12 = .ok (.iconst 1, 1) := by decide +kernel
theorem d34_13 : decode B34 13 = .ok (.goto 4, 3) := by decide +kernel
theorem own_ef_own_lsC (m : MethodId) (xi : Int32) : entryFrame m #[.int xi] 1 = mkF m 0 #[vI xi] [] := by first | (simp [entryFrame, mkF, argsToLocals, Value.category]; done) | rfl
def Q_own_lsC (Z : State) (xi : Int32) (h0 : Heap) (n0 : Nat) (v : Option Value) (h : Heap) (L : List Loc) : Prop := Fr n0 L ∧ h = h0 ∧ v = some (.int (own_ls xi))
theorem own_lsC (l : Launch) (Z : State) (a0 : Array Value) (hw : ∀ d ∈ tables_1, d.before a0 Z = true) (ws : List Jvm.Cond) (xi : Int32) (h0 : Heap) (n0 : Nat) (O0 : Old Z n0 h0) : own_Met l Z (⟨"java/lang/Character", "isLowSurrogate", "(C)Z"⟩ : MethodName) jdk_89_method_15_code 1 (some .boolean) ws ({ frames := 0, cells := 0, slots := 0, locals := 0 } : Room) #[.int xi] h0 (Q_own_lsC Z xi h0 n0) := by
  refine own_mk (plainFor_of_name own_pn_java_lang_Character) O0 ?_
  intro p e s m below meth c s₁ hx hby hml hZ hown hnm hlk hret X0 e0 N0 z0 z1
  refine own_cast (own_ef_own_lsC m xi) ?_
  show own_Goes p e below (s₁.setTop (mkF m 0 #[vI xi] [])) _
  refine q_iloadN X0 hx hby d34_0 rfl ?_
  refine gg (fun t k => Jvm.Stand.ldcI X0 hx hown (mv hZ (wh hw 144 rfl)) rfl (hb hby d34_1) k) ?_
  by_cases hc1 : xi < (56320 : Int32)
  · refine q_icmpYes (pc := 3) X0 hx hby d34_3 (pc' := 16) (tlt hc1).1 (by decide) (by decide) ?_
    refine q_iconst X0 hx hby d34_16 ?_
    refine r_Z X0 hx hby hret hlk d34_17 e0 ?_
    exact ⟨N0, rfl, (by rw [own_ls_1 hc1] <;> rfl)⟩
  · refine q_icmpNo X0 hx hby d34_3 (flt hc1).1 ?_
    refine q_iloadN X0 hx hby d34_6 rfl ?_
    refine gg (fun t k => Jvm.Stand.ldcI X0 hx hown (mv hZ (wh hw 140 rfl)) rfl (hb hby d34_7) k) ?_
    by_cases hc2 : xi < (57344 : Int32)
    · refine q_icmpNo X0 hx hby d34_9 (tlt hc2).2.1 ?_
      refine q_iconst X0 hx hby d34_12 ?_
      refine q_goto (pc := 13) X0 hx hby d34_13 (pc' := 17) (by decide) (by decide) ?_
      refine r_Z X0 hx hby hret hlk d34_17 e0 ?_
      exact ⟨N0, rfl, (by rw [own_ls_2 hc1 hc2] <;> rfl)⟩
    · refine q_icmpYes (pc := 9) X0 hx hby d34_9 (pc' := 16) (flt hc2).2.1 (by decide) (by decide) ?_
      refine q_iconst X0 hx hby d34_16 ?_
      refine r_Z X0 hx hby hret hlk d34_17 e0 ?_
      exact ⟨N0, rfl, (by rw [own_ls_3 hc1 hc2] <;> rfl)⟩
theorem d1_0 : decode B1 0 = .ok (.iload_n 0, 1) := by decide +kernel
theorem d1_1 : decode B1 1 = .ok (.ldc 7, 2) := by decide +kernel
theorem d1_3 : decode B1 3 = .ok (.iand, 1) := by decide +kernel
theorem d1_4 : decode B1 4 = .ok (.ifCond .eq 13, 3) := by decide +kernel
theorem d1_17 : decode B1 17 = .ok (.iload_n 0, 1) := by decide +kernel
theorem d1_18 : decode B1 18 = .ok (.ldc 9, 2) := by decide +kernel
theorem d1_20 : decode B1 20 = .ok (.iand, 1) := by decide +kernel
theorem d1_21 : decode B1 21 = .ok (.i2c, 1) := by decide +kernel
theorem d1_22 : decode B1 22 = .ok (.ireturn, 1) := by decide +kernel
theorem d1_7 : decode B1 7 = .ok (.ldc 8, 2) := by decide +kernel
theorem d1_9 : decode B1 9 = .ok (.iload_n 0, 1) := by decide +kernel
theorem d1_10 : decode B1 10 = .ok (.sipush 2047, 3) := by decide +kernel
theorem d1_13 : decode B1 13 = .ok (.iand, 1) := by decide +kernel
theorem d1_14 : decode B1 14 = .ok (.iadd, 1) := by decide +kernel
theorem d1_15 : decode B1 15 = .ok (.i2c, 1) := by decide +kernel
theorem d1_16 : decode B1 16 = .ok (.ireturn, 1) := by decide +kernel
theorem own_ef_own_draw (m : MethodId) (xi : Int32) : entryFrame m #[.int xi] 1 = mkF m 0 #[vI xi] [] := by first | (simp [entryFrame, mkF, argsToLocals, Value.category]; done) | rfl
def Q_own_draw (Z : State) (xi : Int32) (h0 : Heap) (n0 : Nat) (v : Option Value) (h : Heap) (L : List Loc) : Prop := Fr n0 L ∧ h = h0 ∧ ∃ (r : Int32), v = some (.int r) ∧ own_C16 r
theorem own_draw (l : Launch) (Z : State) (a0 : Array Value) (hw : ∀ d ∈ tables_1, d.before a0 Z = true) (ws : List Jvm.Cond) (xi : Int32) (h0 : Heap) (n0 : Nat) (O0 : Old Z n0 h0) : own_Met l Z (⟨"com/example/circa_once/circaonce/model/StorableTextRequirePinLaw", "draw", "(I)C"⟩ : MethodName) method_2_code 1 (some .char) ws ({ frames := 0, cells := 0, slots := 0, locals := 0 } : Room) #[.int xi] h0 (Q_own_draw Z xi h0 n0) := by
  refine own_mk (plainFor_of_name own_pn_com_example_circa_once_circaonce_model_StorableTextRequirePinLaw) O0 ?_
  intro p e s m below meth c s₁ hx hby hml hZ hown hnm hlk hret X0 e0 N0 z0 z1
  refine own_cast (own_ef_own_draw m xi) ?_
  show own_Goes p e below (s₁.setTop (mkF m 0 #[vI xi] [])) _
  refine q_iloadN X0 hx hby d1_0 rfl ?_
  refine gg (fun t k => Jvm.Stand.ldcI X0 hx hown (mv hZ (wh hw 5 rfl)) rfl (hb hby d1_1) k) ?_
  refine q_iand X0 hx hby d1_3 ?_
  by_cases hc1 : (xi &&& (65536 : Int32)) = (0 : Int32)
  · refine q_ifYes (pc := 4) X0 hx hby d1_4 (pc' := 17) ((if0 _ _).trans (teq hc1).1) (by decide) (by decide) ?_
    refine q_iloadN X0 hx hby d1_17 rfl ?_
    refine gg (fun t k => Jvm.Stand.ldcI X0 hx hown (mv hZ (wh hw 6 rfl)) rfl (hb hby d1_18) k) ?_
    refine q_iand X0 hx hby d1_20 ?_
    refine gg (fun t k => XS.i2c X0.here hx rfl (hb hby d1_21) rfl k) ?_
    refine r_C X0 hx hby hret hlk d1_22 e0 ?_ (hn := (own_narr16 (own_C16i _)))
    exact ⟨N0, rfl, ((xi &&& (65535 : Int32)).toUInt32.toUInt16.toUInt32.toInt32), rfl, (own_C16i _)⟩
  · refine q_ifNo X0 hx hby d1_4 ((if0 _ _).trans (feq hc1).1) ?_
    refine gg (fun t k => Jvm.Stand.ldcI X0 hx hown (mv hZ (wh hw 68 rfl)) rfl (hb hby d1_7) k) ?_
    refine q_iloadN X0 hx hby d1_9 rfl ?_
    refine q_sipush X0 hx hby d1_10 ?_
    refine q_iand X0 hx hby d1_13 ?_
    refine q_iadd X0 hx hby d1_14 ?_
    show own_Goes p e below (s₁.setTop (mkF m 15 #[vI xi] [(.int ((55296 : Int32) + (xi &&& (2047 : Int32))))])) _
    refine gg (fun t k => XS.i2c X0.here hx rfl (hb hby d1_15) rfl k) ?_
    refine r_C X0 hx hby hret hlk d1_16 e0 ?_ (hn := (own_narr16 (own_C16i _)))
    exact ⟨N0, rfl, (((55296 : Int32) + (xi &&& (2047 : Int32))).toUInt32.toUInt16.toUInt32.toInt32), rfl, (own_C16i _)⟩
theorem d2_0 : decode B2 0 = .ok (.aload_n 0, 1) := by decide +kernel
theorem d2_1 : decode B2 1 = .ok (.arraylength, 1) := by decide +kernel
theorem d2_2 : decode B2 2 = .ok (.istore_n 2, 1) := by decide +kernel
theorem d2_3 : decode B2 3 = .ok (.iload_n 1, 1) := by decide +kernel
theorem d2_4 : decode B2 4 = .ok (.iload_n 2, 1) := by decide +kernel
theorem d2_5 : decode B2 5 = .ok (.if_icmp .lt 5, 3) := by decide +kernel
theorem d2_8 : decode B2 8 = .ok (.iconst 1, 1) := by decide +kernel
theorem d2_9 : decode B2 9 = .ok (.ireturn, 1) := by decide +kernel
theorem own_ef_own_fit0_0 (m : MethodId) (xc : Addr) : entryFrame m #[.ref xc, .int 0] 4 = mkF m 0 #[vR xc, vI 0, uS, uS] [] := by first | (simp [entryFrame, mkF, argsToLocals, Value.category]; done) | rfl
def Q_own_fit0_0 (Z : State) (xc : Addr) (xk : ClassId) (h0 : Heap) (n0 : Nat) (v : Option Value) (h : Heap) (L : List Loc) : Prop := Fr n0 L ∧ h = h0 ∧ v = some (.int 1)
theorem own_fit0_0 (l : Launch) (Z : State) (a0 : Array Value) (hw : ∀ d ∈ tables_1, d.before a0 Z = true) (ws : List Jvm.Cond) (xc : Addr) (xk : ClassId) (h0 : Heap) (n0 : Nat) (O0 : Old Z n0 h0) (P0 : Arv Z h0 xc xk .char (0 : Int32) [] (.int 0)) : own_Met l Z (⟨"com/example/circa_once/circaonce/model/StorableTextRequirePinLaw", "fits", "([CI)Z"⟩ : MethodName) method_5_code 4 (some .boolean) ws ({ frames := 0, cells := 0, slots := 0, locals := 0 } : Room) #[.ref xc, .int 0] h0 (Q_own_fit0_0 Z xc xk h0 n0) := by
  refine own_mk (plainFor_of_name own_pn_com_example_circa_once_circaonce_model_StorableTextRequirePinLaw) O0 ?_
  intro p e s m below meth c s₁ hx hby hml hZ hown hnm hlk hret X0 e0 N0 z0 z1
  refine own_cast (own_ef_own_fit0_0 m xc) ?_
  show own_Goes p e below (s₁.setTop (mkF m 0 #[vR xc, vI 0, uS, uS] [])) _
  have ltP0 : @LT.lt Nat _ xc h0.size := P0.lt
  refine q_aloadN X0 hx hby d2_0 rfl rfl ?_
  refine q_len X0 hx hby hZ e0 P0 d2_1 ?_
  refine q_istoreN X0 hx hby d2_2 (l' := #[vR xc, vI 0, vI 0, uS]) rfl ?_
  refine q_iloadN X0 hx hby d2_3 rfl ?_
  refine q_iloadN X0 hx hby d2_4 rfl ?_
  refine q_icmpNo X0 hx hby d2_5 (flt (show ¬ ((0 : Int32) < (0 : Int32)) from by decide)).1 ?_
  refine q_iconst X0 hx hby d2_8 ?_
  refine r_Z X0 hx hby hret hlk d2_9 e0 ?_
  exact ⟨N0, rfl, rfl⟩
theorem own_ef_own_fit0_1 (m : MethodId) (xc : Addr) : entryFrame m #[.ref xc, .int 1] 4 = mkF m 0 #[vR xc, vI 1, uS, uS] [] := by first | (simp [entryFrame, mkF, argsToLocals, Value.category]; done) | rfl
def Q_own_fit0_1 (Z : State) (xc : Addr) (xk : ClassId) (h0 : Heap) (n0 : Nat) (v : Option Value) (h : Heap) (L : List Loc) : Prop := Fr n0 L ∧ h = h0 ∧ v = some (.int 1)
theorem own_fit0_1 (l : Launch) (Z : State) (a0 : Array Value) (hw : ∀ d ∈ tables_1, d.before a0 Z = true) (ws : List Jvm.Cond) (xc : Addr) (xk : ClassId) (h0 : Heap) (n0 : Nat) (O0 : Old Z n0 h0) (P0 : Arv Z h0 xc xk .char (0 : Int32) [] (.int 0)) : own_Met l Z (⟨"com/example/circa_once/circaonce/model/StorableTextRequirePinLaw", "fits", "([CI)Z"⟩ : MethodName) method_5_code 4 (some .boolean) ws ({ frames := 0, cells := 0, slots := 0, locals := 0 } : Room) #[.ref xc, .int 1] h0 (Q_own_fit0_1 Z xc xk h0 n0) := by
  refine own_mk (plainFor_of_name own_pn_com_example_circa_once_circaonce_model_StorableTextRequirePinLaw) O0 ?_
  intro p e s m below meth c s₁ hx hby hml hZ hown hnm hlk hret X0 e0 N0 z0 z1
  refine own_cast (own_ef_own_fit0_1 m xc) ?_
  show own_Goes p e below (s₁.setTop (mkF m 0 #[vR xc, vI 1, uS, uS] [])) _
  have ltP0 : @LT.lt Nat _ xc h0.size := P0.lt
  refine q_aloadN X0 hx hby d2_0 rfl rfl ?_
  refine q_len X0 hx hby hZ e0 P0 d2_1 ?_
  refine q_istoreN X0 hx hby d2_2 (l' := #[vR xc, vI 1, vI 0, uS]) rfl ?_
  refine q_iloadN X0 hx hby d2_3 rfl ?_
  refine q_iloadN X0 hx hby d2_4 rfl ?_
  refine q_icmpNo X0 hx hby d2_5 (flt (show ¬ ((1 : Int32) < (0 : Int32)) from by decide)).1 ?_
  refine q_iconst X0 hx hby d2_8 ?_
  refine r_Z X0 hx hby hret hlk d2_9 e0 ?_
  exact ⟨N0, rfl, rfl⟩
theorem own_ef_own_fit0_2 (m : MethodId) (xc : Addr) : entryFrame m #[.ref xc, .int 2] 4 = mkF m 0 #[vR xc, vI 2, uS, uS] [] := by first | (simp [entryFrame, mkF, argsToLocals, Value.category]; done) | rfl
def Q_own_fit0_2 (Z : State) (xc : Addr) (xk : ClassId) (h0 : Heap) (n0 : Nat) (v : Option Value) (h : Heap) (L : List Loc) : Prop := Fr n0 L ∧ h = h0 ∧ v = some (.int 1)
theorem own_fit0_2 (l : Launch) (Z : State) (a0 : Array Value) (hw : ∀ d ∈ tables_1, d.before a0 Z = true) (ws : List Jvm.Cond) (xc : Addr) (xk : ClassId) (h0 : Heap) (n0 : Nat) (O0 : Old Z n0 h0) (P0 : Arv Z h0 xc xk .char (0 : Int32) [] (.int 0)) : own_Met l Z (⟨"com/example/circa_once/circaonce/model/StorableTextRequirePinLaw", "fits", "([CI)Z"⟩ : MethodName) method_5_code 4 (some .boolean) ws ({ frames := 0, cells := 0, slots := 0, locals := 0 } : Room) #[.ref xc, .int 2] h0 (Q_own_fit0_2 Z xc xk h0 n0) := by
  refine own_mk (plainFor_of_name own_pn_com_example_circa_once_circaonce_model_StorableTextRequirePinLaw) O0 ?_
  intro p e s m below meth c s₁ hx hby hml hZ hown hnm hlk hret X0 e0 N0 z0 z1
  refine own_cast (own_ef_own_fit0_2 m xc) ?_
  show own_Goes p e below (s₁.setTop (mkF m 0 #[vR xc, vI 2, uS, uS] [])) _
  have ltP0 : @LT.lt Nat _ xc h0.size := P0.lt
  refine q_aloadN X0 hx hby d2_0 rfl rfl ?_
  refine q_len X0 hx hby hZ e0 P0 d2_1 ?_
  refine q_istoreN X0 hx hby d2_2 (l' := #[vR xc, vI 2, vI 0, uS]) rfl ?_
  refine q_iloadN X0 hx hby d2_3 rfl ?_
  refine q_iloadN X0 hx hby d2_4 rfl ?_
  refine q_icmpNo X0 hx hby d2_5 (flt (show ¬ ((2 : Int32) < (0 : Int32)) from by decide)).1 ?_
  refine q_iconst X0 hx hby d2_8 ?_
  refine r_Z X0 hx hby hret hlk d2_9 e0 ?_
  exact ⟨N0, rfl, rfl⟩
theorem own_ef_own_fit0_3 (m : MethodId) (xc : Addr) : entryFrame m #[.ref xc, .int 3] 4 = mkF m 0 #[vR xc, vI 3, uS, uS] [] := by first | (simp [entryFrame, mkF, argsToLocals, Value.category]; done) | rfl
def Q_own_fit0_3 (Z : State) (xc : Addr) (xk : ClassId) (h0 : Heap) (n0 : Nat) (v : Option Value) (h : Heap) (L : List Loc) : Prop := Fr n0 L ∧ h = h0 ∧ v = some (.int 1)
theorem own_fit0_3 (l : Launch) (Z : State) (a0 : Array Value) (hw : ∀ d ∈ tables_1, d.before a0 Z = true) (ws : List Jvm.Cond) (xc : Addr) (xk : ClassId) (h0 : Heap) (n0 : Nat) (O0 : Old Z n0 h0) (P0 : Arv Z h0 xc xk .char (0 : Int32) [] (.int 0)) : own_Met l Z (⟨"com/example/circa_once/circaonce/model/StorableTextRequirePinLaw", "fits", "([CI)Z"⟩ : MethodName) method_5_code 4 (some .boolean) ws ({ frames := 0, cells := 0, slots := 0, locals := 0 } : Room) #[.ref xc, .int 3] h0 (Q_own_fit0_3 Z xc xk h0 n0) := by
  refine own_mk (plainFor_of_name own_pn_com_example_circa_once_circaonce_model_StorableTextRequirePinLaw) O0 ?_
  intro p e s m below meth c s₁ hx hby hml hZ hown hnm hlk hret X0 e0 N0 z0 z1
  refine own_cast (own_ef_own_fit0_3 m xc) ?_
  show own_Goes p e below (s₁.setTop (mkF m 0 #[vR xc, vI 3, uS, uS] [])) _
  have ltP0 : @LT.lt Nat _ xc h0.size := P0.lt
  refine q_aloadN X0 hx hby d2_0 rfl rfl ?_
  refine q_len X0 hx hby hZ e0 P0 d2_1 ?_
  refine q_istoreN X0 hx hby d2_2 (l' := #[vR xc, vI 3, vI 0, uS]) rfl ?_
  refine q_iloadN X0 hx hby d2_3 rfl ?_
  refine q_iloadN X0 hx hby d2_4 rfl ?_
  refine q_icmpNo X0 hx hby d2_5 (flt (show ¬ ((3 : Int32) < (0 : Int32)) from by decide)).1 ?_
  refine q_iconst X0 hx hby d2_8 ?_
  refine r_Z X0 hx hby hret hlk d2_9 e0 ?_
  exact ⟨N0, rfl, rfl⟩
theorem d2_10 : decode B2 10 = .ok (.aload_n 0, 1) := by decide +kernel
theorem d2_11 : decode B2 11 = .ok (.iload_n 1, 1) := by decide +kernel
theorem d2_12 : decode B2 12 = .ok (.caload, 1) := by decide +kernel
theorem d2_13 : decode B2 13 = .ok (.istore_n 3, 1) := by decide +kernel
theorem d2_14 : decode B2 14 = .ok (.iload_n 3, 1) := by decide +kernel
theorem d2_15 : decode B2 15 = .ok (.ifCond .ne 5, 3) := by decide +kernel
theorem d2_18 : decode B2 18 = .ok (.iconst 0, 1) := by decide +kernel
theorem d2_19 : decode B2 19 = .ok (.ireturn, 1) := by decide +kernel
theorem d2_20 : decode B2 20 = .ok (.iload_n 3, 1) := by decide +kernel
theorem d2_21 : decode B2 21 = .ok (.invokestatic 13, 3) := by decide +kernel
theorem own_pd_15 : parseMethodDescriptor "(C)Z" = some ⟨[.char], some .boolean⟩ := by decide +kernel
theorem d2_24 : decode B2 24 = .ok (.ifCond .eq 27, 3) := by decide +kernel
theorem d2_51 : decode B2 51 = .ok (.iload_n 3, 1) := by decide +kernel
theorem d2_52 : decode B2 52 = .ok (.invokestatic 19, 3) := by decide +kernel
theorem d2_55 : decode B2 55 = .ok (.ifCond .eq 24, 3) := by decide +kernel
theorem d2_79 : decode B2 79 = .ok (.iconst 1, 1) := by decide +kernel
theorem d2_80 : decode B2 80 = .ok (.ireturn, 1) := by decide +kernel
theorem d2_58 : decode B2 58 = .ok (.iload_n 1, 1) := by decide +kernel
theorem d2_59 : decode B2 59 = .ok (.ifCond .le 18, 3) := by decide +kernel
theorem d2_77 : decode B2 77 = .ok (.iconst 0, 1) := by decide +kernel
theorem d2_78 : decode B2 78 = .ok (.ireturn, 1) := by decide +kernel
theorem d2_27 : decode B2 27 = .ok (.iload_n 1, 1) := by decide +kernel
theorem d2_28 : decode B2 28 = .ok (.iconst 1, 1) := by decide +kernel
theorem d2_29 : decode B2 29 = .ok (.iadd, 1) := by decide +kernel
theorem d2_30 : decode B2 30 = .ok (.iload_n 2, 1) := by decide +kernel
theorem d2_31 : decode B2 31 = .ok (.if_icmp .ge 18, 3) := by decide +kernel
theorem d2_49 : decode B2 49 = .ok (.iconst 0, 1) := by decide +kernel
theorem d2_50 : decode B2 50 = .ok (.ireturn, 1) := by decide +kernel
theorem own_ef_own_fit1_0 (m : MethodId) (xc : Addr) : entryFrame m #[.ref xc, .int 0] 4 = mkF m 0 #[vR xc, vI 0, uS, uS] [] := by first | (simp [entryFrame, mkF, argsToLocals, Value.category]; done) | rfl
def Q_own_fit1_0 (Z : State) (xc : Addr) (xk : ClassId) (c0 : Int32) (h0 : Heap) (n0 : Nat) (v : Option Value) (h : Heap) (L : List Loc) : Prop := Fr n0 L ∧ h = h0 ∧ ∃ (r : Int32), v = some (.int r) ∧ ((r = (1 : Int32) ∧ (¬ c0.toInt = 0 ∧ ((c0.toInt < 55296 ∨ 56319 < c0.toInt)) ∧ ((c0.toInt < 56320 ∨ 57343 < c0.toInt)))) ∨ r = (0 : Int32))
theorem own_fit1_0 (l : Launch) (Z : State) (a0 : Array Value) (hw : ∀ d ∈ tables_1, d.before a0 Z = true) (ws : List Jvm.Cond) (xc : Addr) (xk : ClassId) (c0 : Int32) (h0 : Heap) (n0 : Nat) (O0 : Old Z n0 h0) (P0 : Arv Z h0 xc xk .char (1 : Int32) [.int c0] (.int 0)) : own_Met l Z (⟨"com/example/circa_once/circaonce/model/StorableTextRequirePinLaw", "fits", "([CI)Z"⟩ : MethodName) method_5_code 4 (some .boolean) ws ({ frames := 1, cells := 0, slots := 0, locals := 12 } : Room) #[.ref xc, .int 0] h0 (Q_own_fit1_0 Z xc xk c0 h0 n0) := by
  refine own_mk (plainFor_of_name own_pn_com_example_circa_once_circaonce_model_StorableTextRequirePinLaw) O0 ?_
  intro p e s m below meth c s₁ hx hby hml hZ hown hnm hlk hret X0 e0 N0 z0 z1
  refine own_cast (own_ef_own_fit1_0 m xc) ?_
  show own_Goes p e below (s₁.setTop (mkF m 0 #[vR xc, vI 0, uS, uS] [])) _
  have ltP0 : @LT.lt Nat _ xc h0.size := P0.lt
  refine q_aloadN X0 hx hby d2_0 rfl rfl ?_
  refine q_len X0 hx hby hZ e0 P0 d2_1 ?_
  refine q_istoreN X0 hx hby d2_2 (l' := #[vR xc, vI 0, vI 1, uS]) rfl ?_
  refine q_iloadN X0 hx hby d2_3 rfl ?_
  refine q_iloadN X0 hx hby d2_4 rfl ?_
  refine q_icmpYes (pc := 5) X0 hx hby d2_5 (pc' := 10) (tlt (show ((0 : Int32) < (1 : Int32)) from by decide)).1 (by decide) (by decide) ?_
  refine q_aloadN X0 hx hby d2_10 rfl rfl ?_
  refine q_iloadN X0 hx hby d2_11 rfl ?_
  refine q_caload X0 hx hby hZ e0 P0 d2_12 (.int c0) ?_
  refine q_istoreN X0 hx hby d2_13 (l' := #[vR xc, vI 0, vI 1, vI c0]) rfl ?_
  refine q_iloadN X0 hx hby d2_14 rfl ?_
  by_cases hc3 : c0 = (0 : Int32)
  · refine q_ifNo X0 hx hby d2_15 ((if0 _ _).trans (teq hc3).2) ?_
    refine q_iconst X0 hx hby d2_18 ?_
    refine r_Z X0 hx hby hret hlk d2_19 e0 ?_
    exact ⟨N0, rfl, (0 : Int32), rfl, (Or.inr rfl)⟩
  · refine q_ifYes (pc := 15) X0 hx hby d2_15 (pc' := 20) ((if0 _ _).trans (feq hc3).2) (by decide) (by decide) ?_
    show own_Goes p e below (s₁.setTop (mkF m 20 #[vR xc, vI 0, vI 1, vI c0] [])) _
    refine q_iloadN X0 hx hby d2_20 rfl ?_
    refine k_S X0 hx hby hZ hown (wh hw 65 rfl) (wh hw 66 rfl) (W := 0) (own_hiC l Z a0 hw [] c0 h0 n0 O0) (wh hw 67 rfl) (wh hw 3 rfl) e0  hml (argsL := [.int c0]) (rest := []) own_pd_15 d2_21 (fun _ T4 L4 X4 hQ4 => ?_)
    obtain ⟨Nc4, e4, rfl⟩ := hQ4
    have N4 := Fr.app N0 Nc4
    by_cases hc5 : (own_hi c0) = (0 : Int32)
    · refine q_ifYes (pc := 24) X4 hx hby d2_24 (pc' := 51) ((if0 _ _).trans (teq hc5).1) (by decide) (by decide) ?_
      refine q_iloadN X4 hx hby d2_51 rfl ?_
      refine k_S X4 hx hby hZ hown (wh hw 69 rfl) (wh hw 70 rfl) (W := 0) (own_loC l Z a0 hw [] c0 h0 n0 O0) (wh hw 71 rfl) (wh hw 3 rfl) e4  hml (argsL := [.int c0]) (rest := []) own_pd_15 d2_52 (fun _ T6 L6 X6 hQ6 => ?_)
      obtain ⟨Nc6, e6, rfl⟩ := hQ6
      have N6 := Fr.app N4 Nc6
      by_cases hc7 : (own_lo c0) = (0 : Int32)
      · refine q_ifYes (pc := 55) X6 hx hby d2_55 (pc' := 79) ((if0 _ _).trans (teq hc7).1) (by decide) (by decide) ?_
        refine q_iconst X6 hx hby d2_79 ?_
        refine r_Z X6 hx hby hret hlk d2_80 e6 ?_
        exact ⟨N6, rfl, (1 : Int32), rfl, (Or.inl ⟨rfl, by have := own_ne0' hc3; have := own_hiF hc5; have := own_loF hc7; omega⟩)⟩
      · refine q_ifNo X6 hx hby d2_55 ((if0 _ _).trans (feq hc7).1) ?_
        refine q_iloadN X6 hx hby d2_58 rfl ?_
        refine q_ifYes (pc := 59) X6 hx hby d2_59 (pc' := 77) ((if0 _ _).trans (flt (show ¬ ((0 : Int32) < (0 : Int32)) from by decide)).2.2.2) (by decide) (by decide) ?_
        refine q_iconst X6 hx hby d2_77 ?_
        refine r_Z X6 hx hby hret hlk d2_78 e6 ?_
        exact ⟨N6, rfl, (0 : Int32), rfl, (Or.inr rfl)⟩
    · refine q_ifNo X4 hx hby d2_24 ((if0 _ _).trans (feq hc5).1) ?_
      refine q_iloadN X4 hx hby d2_27 rfl ?_
      refine q_iconst X4 hx hby d2_28 ?_
      show own_Goes p e below (T4.setTop (mkF m 29 #[vR xc, vI 0, vI 1, vI c0] [.int 1, .int 0])) _
      refine q_iadd X4 hx hby d2_29 ?_
      show own_Goes p e below (T4.setTop (mkF m 30 #[vR xc, vI 0, vI 1, vI c0] [(.int ((0 : Int32) + (1 : Int32)))])) _
      rw [show ((0 : Int32) + (1 : Int32)) = (1 : Int32) from by decide]
      refine q_iloadN X4 hx hby d2_30 rfl ?_
      refine q_icmpYes (pc := 31) X4 hx hby d2_31 (pc' := 49) (flt (show ¬ ((1 : Int32) < (1 : Int32)) from by decide)).2.1 (by decide) (by decide) ?_
      refine q_iconst X4 hx hby d2_49 ?_
      refine r_Z X4 hx hby hret hlk d2_50 e4 ?_
      exact ⟨N4, rfl, (0 : Int32), rfl, (Or.inr rfl)⟩
theorem own_ef_own_fit1_1 (m : MethodId) (xc : Addr) : entryFrame m #[.ref xc, .int 1] 4 = mkF m 0 #[vR xc, vI 1, uS, uS] [] := by first | (simp [entryFrame, mkF, argsToLocals, Value.category]; done) | rfl
def Q_own_fit1_1 (Z : State) (xc : Addr) (xk : ClassId) (c0 : Int32) (h0 : Heap) (n0 : Nat) (v : Option Value) (h : Heap) (L : List Loc) : Prop := Fr n0 L ∧ h = h0 ∧ v = some (.int 1)
theorem own_fit1_1 (l : Launch) (Z : State) (a0 : Array Value) (hw : ∀ d ∈ tables_1, d.before a0 Z = true) (ws : List Jvm.Cond) (xc : Addr) (xk : ClassId) (c0 : Int32) (h0 : Heap) (n0 : Nat) (O0 : Old Z n0 h0) (P0 : Arv Z h0 xc xk .char (1 : Int32) [.int c0] (.int 0)) : own_Met l Z (⟨"com/example/circa_once/circaonce/model/StorableTextRequirePinLaw", "fits", "([CI)Z"⟩ : MethodName) method_5_code 4 (some .boolean) ws ({ frames := 0, cells := 0, slots := 0, locals := 0 } : Room) #[.ref xc, .int 1] h0 (Q_own_fit1_1 Z xc xk c0 h0 n0) := by
  refine own_mk (plainFor_of_name own_pn_com_example_circa_once_circaonce_model_StorableTextRequirePinLaw) O0 ?_
  intro p e s m below meth c s₁ hx hby hml hZ hown hnm hlk hret X0 e0 N0 z0 z1
  refine own_cast (own_ef_own_fit1_1 m xc) ?_
  show own_Goes p e below (s₁.setTop (mkF m 0 #[vR xc, vI 1, uS, uS] [])) _
  have ltP0 : @LT.lt Nat _ xc h0.size := P0.lt
  refine q_aloadN X0 hx hby d2_0 rfl rfl ?_
  refine q_len X0 hx hby hZ e0 P0 d2_1 ?_
  refine q_istoreN X0 hx hby d2_2 (l' := #[vR xc, vI 1, vI 1, uS]) rfl ?_
  refine q_iloadN X0 hx hby d2_3 rfl ?_
  refine q_iloadN X0 hx hby d2_4 rfl ?_
  refine q_icmpNo X0 hx hby d2_5 (flt (show ¬ ((1 : Int32) < (1 : Int32)) from by decide)).1 ?_
  refine q_iconst X0 hx hby d2_8 ?_
  refine r_Z X0 hx hby hret hlk d2_9 e0 ?_
  exact ⟨N0, rfl, rfl⟩
theorem own_ef_own_fit1_2 (m : MethodId) (xc : Addr) : entryFrame m #[.ref xc, .int 2] 4 = mkF m 0 #[vR xc, vI 2, uS, uS] [] := by first | (simp [entryFrame, mkF, argsToLocals, Value.category]; done) | rfl
def Q_own_fit1_2 (Z : State) (xc : Addr) (xk : ClassId) (c0 : Int32) (h0 : Heap) (n0 : Nat) (v : Option Value) (h : Heap) (L : List Loc) : Prop := Fr n0 L ∧ h = h0 ∧ v = some (.int 1)
theorem own_fit1_2 (l : Launch) (Z : State) (a0 : Array Value) (hw : ∀ d ∈ tables_1, d.before a0 Z = true) (ws : List Jvm.Cond) (xc : Addr) (xk : ClassId) (c0 : Int32) (h0 : Heap) (n0 : Nat) (O0 : Old Z n0 h0) (P0 : Arv Z h0 xc xk .char (1 : Int32) [.int c0] (.int 0)) : own_Met l Z (⟨"com/example/circa_once/circaonce/model/StorableTextRequirePinLaw", "fits", "([CI)Z"⟩ : MethodName) method_5_code 4 (some .boolean) ws ({ frames := 0, cells := 0, slots := 0, locals := 0 } : Room) #[.ref xc, .int 2] h0 (Q_own_fit1_2 Z xc xk c0 h0 n0) := by
  refine own_mk (plainFor_of_name own_pn_com_example_circa_once_circaonce_model_StorableTextRequirePinLaw) O0 ?_
  intro p e s m below meth c s₁ hx hby hml hZ hown hnm hlk hret X0 e0 N0 z0 z1
  refine own_cast (own_ef_own_fit1_2 m xc) ?_
  show own_Goes p e below (s₁.setTop (mkF m 0 #[vR xc, vI 2, uS, uS] [])) _
  have ltP0 : @LT.lt Nat _ xc h0.size := P0.lt
  refine q_aloadN X0 hx hby d2_0 rfl rfl ?_
  refine q_len X0 hx hby hZ e0 P0 d2_1 ?_
  refine q_istoreN X0 hx hby d2_2 (l' := #[vR xc, vI 2, vI 1, uS]) rfl ?_
  refine q_iloadN X0 hx hby d2_3 rfl ?_
  refine q_iloadN X0 hx hby d2_4 rfl ?_
  refine q_icmpNo X0 hx hby d2_5 (flt (show ¬ ((2 : Int32) < (1 : Int32)) from by decide)).1 ?_
  refine q_iconst X0 hx hby d2_8 ?_
  refine r_Z X0 hx hby hret hlk d2_9 e0 ?_
  exact ⟨N0, rfl, rfl⟩
theorem own_ef_own_fit1_3 (m : MethodId) (xc : Addr) : entryFrame m #[.ref xc, .int 3] 4 = mkF m 0 #[vR xc, vI 3, uS, uS] [] := by first | (simp [entryFrame, mkF, argsToLocals, Value.category]; done) | rfl
def Q_own_fit1_3 (Z : State) (xc : Addr) (xk : ClassId) (c0 : Int32) (h0 : Heap) (n0 : Nat) (v : Option Value) (h : Heap) (L : List Loc) : Prop := Fr n0 L ∧ h = h0 ∧ v = some (.int 1)
theorem own_fit1_3 (l : Launch) (Z : State) (a0 : Array Value) (hw : ∀ d ∈ tables_1, d.before a0 Z = true) (ws : List Jvm.Cond) (xc : Addr) (xk : ClassId) (c0 : Int32) (h0 : Heap) (n0 : Nat) (O0 : Old Z n0 h0) (P0 : Arv Z h0 xc xk .char (1 : Int32) [.int c0] (.int 0)) : own_Met l Z (⟨"com/example/circa_once/circaonce/model/StorableTextRequirePinLaw", "fits", "([CI)Z"⟩ : MethodName) method_5_code 4 (some .boolean) ws ({ frames := 0, cells := 0, slots := 0, locals := 0 } : Room) #[.ref xc, .int 3] h0 (Q_own_fit1_3 Z xc xk c0 h0 n0) := by
  refine own_mk (plainFor_of_name own_pn_com_example_circa_once_circaonce_model_StorableTextRequirePinLaw) O0 ?_
  intro p e s m below meth c s₁ hx hby hml hZ hown hnm hlk hret X0 e0 N0 z0 z1
  refine own_cast (own_ef_own_fit1_3 m xc) ?_
  show own_Goes p e below (s₁.setTop (mkF m 0 #[vR xc, vI 3, uS, uS] [])) _
  have ltP0 : @LT.lt Nat _ xc h0.size := P0.lt
  refine q_aloadN X0 hx hby d2_0 rfl rfl ?_
  refine q_len X0 hx hby hZ e0 P0 d2_1 ?_
  refine q_istoreN X0 hx hby d2_2 (l' := #[vR xc, vI 3, vI 1, uS]) rfl ?_
  refine q_iloadN X0 hx hby d2_3 rfl ?_
  refine q_iloadN X0 hx hby d2_4 rfl ?_
  refine q_icmpNo X0 hx hby d2_5 (flt (show ¬ ((3 : Int32) < (1 : Int32)) from by decide)).1 ?_
  refine q_iconst X0 hx hby d2_8 ?_
  refine r_Z X0 hx hby hret hlk d2_9 e0 ?_
  exact ⟨N0, rfl, rfl⟩
theorem d2_34 : decode B2 34 = .ok (.aload_n 0, 1) := by decide +kernel
theorem d2_35 : decode B2 35 = .ok (.iload_n 1, 1) := by decide +kernel
theorem d2_36 : decode B2 36 = .ok (.iconst 1, 1) := by decide +kernel
theorem d2_37 : decode B2 37 = .ok (.iadd, 1) := by decide +kernel
theorem d2_38 : decode B2 38 = .ok (.caload, 1) := by decide +kernel
theorem d2_39 : decode B2 39 = .ok (.invokestatic 19, 3) := by decide +kernel
theorem d2_42 : decode B2 42 = .ok (.ifCond .eq 7, 3) := by decide +kernel
theorem d2_45 : decode B2 45 = .ok (.iconst 1, 1) := by decide +kernel
theorem d2_46 : decode B2 46 = .ok (.goto 4, 3) := by decide +kernel
theorem own_ef_own_fit2_0 (m : MethodId) (xc : Addr) : entryFrame m #[.ref xc, .int 0] 4 = mkF m 0 #[vR xc, vI 0, uS, uS] [] := by first | (simp [entryFrame, mkF, argsToLocals, Value.category]; done) | rfl
def Q_own_fit2_0 (Z : State) (xc : Addr) (xk : ClassId) (c0 : Int32) (c1 : Int32) (h0 : Heap) (n0 : Nat) (v : Option Value) (h : Heap) (L : List Loc) : Prop := Fr n0 L ∧ h = h0 ∧ ∃ (r : Int32), v = some (.int r) ∧ ((r = (1 : Int32) ∧ (¬ c0.toInt = 0 ∧ ((c0.toInt < 55296 ∨ 56319 < c0.toInt) ∨ (56320 ≤ c1.toInt ∧ c1.toInt ≤ 57343)) ∧ ((c0.toInt < 56320 ∨ 57343 < c0.toInt)))) ∨ r = (0 : Int32))
theorem own_fit2_0 (l : Launch) (Z : State) (a0 : Array Value) (hw : ∀ d ∈ tables_1, d.before a0 Z = true) (ws : List Jvm.Cond) (xc : Addr) (xk : ClassId) (c0 : Int32) (c1 : Int32) (h0 : Heap) (n0 : Nat) (O0 : Old Z n0 h0) (P0 : Arv Z h0 xc xk .char (2 : Int32) [.int c0, .int c1] (.int 0)) : own_Met l Z (⟨"com/example/circa_once/circaonce/model/StorableTextRequirePinLaw", "fits", "([CI)Z"⟩ : MethodName) method_5_code 4 (some .boolean) ws ({ frames := 1, cells := 0, slots := 0, locals := 12 } : Room) #[.ref xc, .int 0] h0 (Q_own_fit2_0 Z xc xk c0 c1 h0 n0) := by
  refine own_mk (plainFor_of_name own_pn_com_example_circa_once_circaonce_model_StorableTextRequirePinLaw) O0 ?_
  intro p e s m below meth c s₁ hx hby hml hZ hown hnm hlk hret X0 e0 N0 z0 z1
  refine own_cast (own_ef_own_fit2_0 m xc) ?_
  show own_Goes p e below (s₁.setTop (mkF m 0 #[vR xc, vI 0, uS, uS] [])) _
  have ltP0 : @LT.lt Nat _ xc h0.size := P0.lt
  refine q_aloadN X0 hx hby d2_0 rfl rfl ?_
  refine q_len X0 hx hby hZ e0 P0 d2_1 ?_
  refine q_istoreN X0 hx hby d2_2 (l' := #[vR xc, vI 0, vI 2, uS]) rfl ?_
  refine q_iloadN X0 hx hby d2_3 rfl ?_
  refine q_iloadN X0 hx hby d2_4 rfl ?_
  refine q_icmpYes (pc := 5) X0 hx hby d2_5 (pc' := 10) (tlt (show ((0 : Int32) < (2 : Int32)) from by decide)).1 (by decide) (by decide) ?_
  refine q_aloadN X0 hx hby d2_10 rfl rfl ?_
  refine q_iloadN X0 hx hby d2_11 rfl ?_
  refine q_caload X0 hx hby hZ e0 P0 d2_12 (.int c0) ?_
  refine q_istoreN X0 hx hby d2_13 (l' := #[vR xc, vI 0, vI 2, vI c0]) rfl ?_
  refine q_iloadN X0 hx hby d2_14 rfl ?_
  by_cases hc3 : c0 = (0 : Int32)
  · refine q_ifNo X0 hx hby d2_15 ((if0 _ _).trans (teq hc3).2) ?_
    refine q_iconst X0 hx hby d2_18 ?_
    refine r_Z X0 hx hby hret hlk d2_19 e0 ?_
    exact ⟨N0, rfl, (0 : Int32), rfl, (Or.inr rfl)⟩
  · refine q_ifYes (pc := 15) X0 hx hby d2_15 (pc' := 20) ((if0 _ _).trans (feq hc3).2) (by decide) (by decide) ?_
    show own_Goes p e below (s₁.setTop (mkF m 20 #[vR xc, vI 0, vI 2, vI c0] [])) _
    refine q_iloadN X0 hx hby d2_20 rfl ?_
    refine k_S X0 hx hby hZ hown (wh hw 65 rfl) (wh hw 66 rfl) (W := 0) (own_hiC l Z a0 hw [] c0 h0 n0 O0) (wh hw 67 rfl) (wh hw 3 rfl) e0  hml (argsL := [.int c0]) (rest := []) own_pd_15 d2_21 (fun _ T4 L4 X4 hQ4 => ?_)
    obtain ⟨Nc4, e4, rfl⟩ := hQ4
    have N4 := Fr.app N0 Nc4
    by_cases hc5 : (own_hi c0) = (0 : Int32)
    · refine q_ifYes (pc := 24) X4 hx hby d2_24 (pc' := 51) ((if0 _ _).trans (teq hc5).1) (by decide) (by decide) ?_
      refine q_iloadN X4 hx hby d2_51 rfl ?_
      refine k_S X4 hx hby hZ hown (wh hw 69 rfl) (wh hw 70 rfl) (W := 0) (own_loC l Z a0 hw [] c0 h0 n0 O0) (wh hw 71 rfl) (wh hw 3 rfl) e4  hml (argsL := [.int c0]) (rest := []) own_pd_15 d2_52 (fun _ T6 L6 X6 hQ6 => ?_)
      obtain ⟨Nc6, e6, rfl⟩ := hQ6
      have N6 := Fr.app N4 Nc6
      by_cases hc7 : (own_lo c0) = (0 : Int32)
      · refine q_ifYes (pc := 55) X6 hx hby d2_55 (pc' := 79) ((if0 _ _).trans (teq hc7).1) (by decide) (by decide) ?_
        refine q_iconst X6 hx hby d2_79 ?_
        refine r_Z X6 hx hby hret hlk d2_80 e6 ?_
        exact ⟨N6, rfl, (1 : Int32), rfl, (Or.inl ⟨rfl, by have := own_ne0' hc3; have := own_hiF hc5; have := own_loF hc7; omega⟩)⟩
      · refine q_ifNo X6 hx hby d2_55 ((if0 _ _).trans (feq hc7).1) ?_
        refine q_iloadN X6 hx hby d2_58 rfl ?_
        refine q_ifYes (pc := 59) X6 hx hby d2_59 (pc' := 77) ((if0 _ _).trans (flt (show ¬ ((0 : Int32) < (0 : Int32)) from by decide)).2.2.2) (by decide) (by decide) ?_
        refine q_iconst X6 hx hby d2_77 ?_
        refine r_Z X6 hx hby hret hlk d2_78 e6 ?_
        exact ⟨N6, rfl, (0 : Int32), rfl, (Or.inr rfl)⟩
    · refine q_ifNo X4 hx hby d2_24 ((if0 _ _).trans (feq hc5).1) ?_
      refine q_iloadN X4 hx hby d2_27 rfl ?_
      refine q_iconst X4 hx hby d2_28 ?_
      show own_Goes p e below (T4.setTop (mkF m 29 #[vR xc, vI 0, vI 2, vI c0] [.int 1, .int 0])) _
      refine q_iadd X4 hx hby d2_29 ?_
      show own_Goes p e below (T4.setTop (mkF m 30 #[vR xc, vI 0, vI 2, vI c0] [(.int ((0 : Int32) + (1 : Int32)))])) _
      rw [show ((0 : Int32) + (1 : Int32)) = (1 : Int32) from by decide]
      refine q_iloadN X4 hx hby d2_30 rfl ?_
      refine q_icmpNo X4 hx hby d2_31 (tlt (show ((1 : Int32) < (2 : Int32)) from by decide)).2.1 ?_
      refine q_aloadN X4 hx hby d2_34 rfl rfl ?_
      refine q_iloadN X4 hx hby d2_35 rfl ?_
      refine q_iconst X4 hx hby d2_36 ?_
      refine q_iadd X4 hx hby d2_37 ?_
      show own_Goes p e below (T4.setTop (mkF m 38 #[vR xc, vI 0, vI 2, vI c0] [(.int ((0 : Int32) + (1 : Int32))), .ref xc])) _
      rw [show ((0 : Int32) + (1 : Int32)) = (1 : Int32) from by decide]
      refine q_caload X4 hx hby hZ e4 P0 d2_38 (.int c1) ?_
      refine k_S X4 hx hby hZ hown (wh hw 69 rfl) (wh hw 70 rfl) (W := 0) (own_loC l Z a0 hw [] c1 h0 n0 O0) (wh hw 71 rfl) (wh hw 3 rfl) e4  hml (argsL := [.int c1]) (rest := []) own_pd_15 d2_39 (fun _ T9 L9 X9 hQ9 => ?_)
      obtain ⟨Nc9, e9, rfl⟩ := hQ9
      have N9 := Fr.app N4 Nc9
      by_cases hc10 : (own_lo c1) = (0 : Int32)
      · refine q_ifYes (pc := 42) X9 hx hby d2_42 (pc' := 49) ((if0 _ _).trans (teq hc10).1) (by decide) (by decide) ?_
        refine q_iconst X9 hx hby d2_49 ?_
        refine r_Z X9 hx hby hret hlk d2_50 e9 ?_
        exact ⟨N9, rfl, (0 : Int32), rfl, (Or.inr rfl)⟩
      · refine q_ifNo X9 hx hby d2_42 ((if0 _ _).trans (feq hc10).1) ?_
        refine q_iconst X9 hx hby d2_45 ?_
        refine q_goto (pc := 46) X9 hx hby d2_46 (pc' := 50) (by decide) (by decide) ?_
        refine r_Z X9 hx hby hret hlk d2_50 e9 ?_
        exact ⟨N9, rfl, (1 : Int32), rfl, (Or.inl ⟨rfl, by have := own_ne0' hc3; have := own_hiT hc5; have := own_loT hc10; omega⟩)⟩
theorem d2_62 : decode B2 62 = .ok (.aload_n 0, 1) := by decide +kernel
theorem d2_63 : decode B2 63 = .ok (.iload_n 1, 1) := by decide +kernel
theorem d2_64 : decode B2 64 = .ok (.iconst 1, 1) := by decide +kernel
theorem d2_65 : decode B2 65 = .ok (.isub, 1) := by decide +kernel
theorem d2_66 : decode B2 66 = .ok (.caload, 1) := by decide +kernel
theorem d2_67 : decode B2 67 = .ok (.invokestatic 13, 3) := by decide +kernel
theorem d2_70 : decode B2 70 = .ok (.ifCond .eq 7, 3) := by decide +kernel
theorem d2_73 : decode B2 73 = .ok (.iconst 1, 1) := by decide +kernel
theorem d2_74 : decode B2 74 = .ok (.goto 4, 3) := by decide +kernel
theorem own_ef_own_fit2_1 (m : MethodId) (xc : Addr) : entryFrame m #[.ref xc, .int 1] 4 = mkF m 0 #[vR xc, vI 1, uS, uS] [] := by first | (simp [entryFrame, mkF, argsToLocals, Value.category]; done) | rfl
def Q_own_fit2_1 (Z : State) (xc : Addr) (xk : ClassId) (c0 : Int32) (c1 : Int32) (h0 : Heap) (n0 : Nat) (v : Option Value) (h : Heap) (L : List Loc) : Prop := Fr n0 L ∧ h = h0 ∧ ∃ (r : Int32), v = some (.int r) ∧ ((r = (1 : Int32) ∧ (¬ c1.toInt = 0 ∧ ((c1.toInt < 55296 ∨ 56319 < c1.toInt)) ∧ ((c1.toInt < 56320 ∨ 57343 < c1.toInt) ∨ (55296 ≤ c0.toInt ∧ c0.toInt ≤ 56319)))) ∨ r = (0 : Int32))
theorem own_fit2_1 (l : Launch) (Z : State) (a0 : Array Value) (hw : ∀ d ∈ tables_1, d.before a0 Z = true) (ws : List Jvm.Cond) (xc : Addr) (xk : ClassId) (c0 : Int32) (c1 : Int32) (h0 : Heap) (n0 : Nat) (O0 : Old Z n0 h0) (P0 : Arv Z h0 xc xk .char (2 : Int32) [.int c0, .int c1] (.int 0)) : own_Met l Z (⟨"com/example/circa_once/circaonce/model/StorableTextRequirePinLaw", "fits", "([CI)Z"⟩ : MethodName) method_5_code 4 (some .boolean) ws ({ frames := 1, cells := 0, slots := 0, locals := 12 } : Room) #[.ref xc, .int 1] h0 (Q_own_fit2_1 Z xc xk c0 c1 h0 n0) := by
  refine own_mk (plainFor_of_name own_pn_com_example_circa_once_circaonce_model_StorableTextRequirePinLaw) O0 ?_
  intro p e s m below meth c s₁ hx hby hml hZ hown hnm hlk hret X0 e0 N0 z0 z1
  refine own_cast (own_ef_own_fit2_1 m xc) ?_
  show own_Goes p e below (s₁.setTop (mkF m 0 #[vR xc, vI 1, uS, uS] [])) _
  have ltP0 : @LT.lt Nat _ xc h0.size := P0.lt
  refine q_aloadN X0 hx hby d2_0 rfl rfl ?_
  refine q_len X0 hx hby hZ e0 P0 d2_1 ?_
  refine q_istoreN X0 hx hby d2_2 (l' := #[vR xc, vI 1, vI 2, uS]) rfl ?_
  refine q_iloadN X0 hx hby d2_3 rfl ?_
  refine q_iloadN X0 hx hby d2_4 rfl ?_
  refine q_icmpYes (pc := 5) X0 hx hby d2_5 (pc' := 10) (tlt (show ((1 : Int32) < (2 : Int32)) from by decide)).1 (by decide) (by decide) ?_
  refine q_aloadN X0 hx hby d2_10 rfl rfl ?_
  refine q_iloadN X0 hx hby d2_11 rfl ?_
  refine q_caload X0 hx hby hZ e0 P0 d2_12 (.int c1) ?_
  refine q_istoreN X0 hx hby d2_13 (l' := #[vR xc, vI 1, vI 2, vI c1]) rfl ?_
  refine q_iloadN X0 hx hby d2_14 rfl ?_
  by_cases hc3 : c1 = (0 : Int32)
  · refine q_ifNo X0 hx hby d2_15 ((if0 _ _).trans (teq hc3).2) ?_
    refine q_iconst X0 hx hby d2_18 ?_
    refine r_Z X0 hx hby hret hlk d2_19 e0 ?_
    exact ⟨N0, rfl, (0 : Int32), rfl, (Or.inr rfl)⟩
  · refine q_ifYes (pc := 15) X0 hx hby d2_15 (pc' := 20) ((if0 _ _).trans (feq hc3).2) (by decide) (by decide) ?_
    show own_Goes p e below (s₁.setTop (mkF m 20 #[vR xc, vI 1, vI 2, vI c1] [])) _
    refine q_iloadN X0 hx hby d2_20 rfl ?_
    refine k_S X0 hx hby hZ hown (wh hw 65 rfl) (wh hw 66 rfl) (W := 0) (own_hiC l Z a0 hw [] c1 h0 n0 O0) (wh hw 67 rfl) (wh hw 3 rfl) e0  hml (argsL := [.int c1]) (rest := []) own_pd_15 d2_21 (fun _ T4 L4 X4 hQ4 => ?_)
    obtain ⟨Nc4, e4, rfl⟩ := hQ4
    have N4 := Fr.app N0 Nc4
    by_cases hc5 : (own_hi c1) = (0 : Int32)
    · refine q_ifYes (pc := 24) X4 hx hby d2_24 (pc' := 51) ((if0 _ _).trans (teq hc5).1) (by decide) (by decide) ?_
      refine q_iloadN X4 hx hby d2_51 rfl ?_
      refine k_S X4 hx hby hZ hown (wh hw 69 rfl) (wh hw 70 rfl) (W := 0) (own_loC l Z a0 hw [] c1 h0 n0 O0) (wh hw 71 rfl) (wh hw 3 rfl) e4  hml (argsL := [.int c1]) (rest := []) own_pd_15 d2_52 (fun _ T6 L6 X6 hQ6 => ?_)
      obtain ⟨Nc6, e6, rfl⟩ := hQ6
      have N6 := Fr.app N4 Nc6
      by_cases hc7 : (own_lo c1) = (0 : Int32)
      · refine q_ifYes (pc := 55) X6 hx hby d2_55 (pc' := 79) ((if0 _ _).trans (teq hc7).1) (by decide) (by decide) ?_
        refine q_iconst X6 hx hby d2_79 ?_
        refine r_Z X6 hx hby hret hlk d2_80 e6 ?_
        exact ⟨N6, rfl, (1 : Int32), rfl, (Or.inl ⟨rfl, by have := own_ne0' hc3; have := own_hiF hc5; have := own_loF hc7; omega⟩)⟩
      · refine q_ifNo X6 hx hby d2_55 ((if0 _ _).trans (feq hc7).1) ?_
        refine q_iloadN X6 hx hby d2_58 rfl ?_
        refine q_ifNo X6 hx hby d2_59 ((if0 _ _).trans (tlt (show ((0 : Int32) < (1 : Int32)) from by decide)).2.2.2) ?_
        refine q_aloadN X6 hx hby d2_62 rfl rfl ?_
        refine q_iloadN X6 hx hby d2_63 rfl ?_
        refine q_iconst X6 hx hby d2_64 ?_
        refine q_isub X6 hx hby d2_65 ?_
        show own_Goes p e below (T6.setTop (mkF m 66 #[vR xc, vI 1, vI 2, vI c1] [(.int ((1 : Int32) - (1 : Int32))), .ref xc])) _
        rw [show ((1 : Int32) - (1 : Int32)) = (0 : Int32) from by decide]
        refine q_caload X6 hx hby hZ e6 P0 d2_66 (.int c0) ?_
        refine k_S X6 hx hby hZ hown (wh hw 65 rfl) (wh hw 66 rfl) (W := 0) (own_hiC l Z a0 hw [] c0 h0 n0 O0) (wh hw 67 rfl) (wh hw 3 rfl) e6  hml (argsL := [.int c0]) (rest := []) own_pd_15 d2_67 (fun _ T9 L9 X9 hQ9 => ?_)
        obtain ⟨Nc9, e9, rfl⟩ := hQ9
        have N9 := Fr.app N6 Nc9
        by_cases hc10 : (own_hi c0) = (0 : Int32)
        · refine q_ifYes (pc := 70) X9 hx hby d2_70 (pc' := 77) ((if0 _ _).trans (teq hc10).1) (by decide) (by decide) ?_
          refine q_iconst X9 hx hby d2_77 ?_
          refine r_Z X9 hx hby hret hlk d2_78 e9 ?_
          exact ⟨N9, rfl, (0 : Int32), rfl, (Or.inr rfl)⟩
        · refine q_ifNo X9 hx hby d2_70 ((if0 _ _).trans (feq hc10).1) ?_
          refine q_iconst X9 hx hby d2_73 ?_
          refine q_goto (pc := 74) X9 hx hby d2_74 (pc' := 78) (by decide) (by decide) ?_
          refine r_Z X9 hx hby hret hlk d2_78 e9 ?_
          exact ⟨N9, rfl, (1 : Int32), rfl, (Or.inl ⟨rfl, by have := own_ne0' hc3; have := own_hiF hc5; have := own_loT hc7; have := own_hiT hc10; omega⟩)⟩
    · refine q_ifNo X4 hx hby d2_24 ((if0 _ _).trans (feq hc5).1) ?_
      refine q_iloadN X4 hx hby d2_27 rfl ?_
      refine q_iconst X4 hx hby d2_28 ?_
      refine q_iadd X4 hx hby d2_29 ?_
      show own_Goes p e below (T4.setTop (mkF m 30 #[vR xc, vI 1, vI 2, vI c1] [(.int ((1 : Int32) + (1 : Int32)))])) _
      rw [show ((1 : Int32) + (1 : Int32)) = (2 : Int32) from by decide]
      refine q_iloadN X4 hx hby d2_30 rfl ?_
      refine q_icmpYes (pc := 31) X4 hx hby d2_31 (pc' := 49) (flt (show ¬ ((2 : Int32) < (2 : Int32)) from by decide)).2.1 (by decide) (by decide) ?_
      refine q_iconst X4 hx hby d2_49 ?_
      refine r_Z X4 hx hby hret hlk d2_50 e4 ?_
      exact ⟨N4, rfl, (0 : Int32), rfl, (Or.inr rfl)⟩
theorem own_ef_own_fit2_2 (m : MethodId) (xc : Addr) : entryFrame m #[.ref xc, .int 2] 4 = mkF m 0 #[vR xc, vI 2, uS, uS] [] := by first | (simp [entryFrame, mkF, argsToLocals, Value.category]; done) | rfl
def Q_own_fit2_2 (Z : State) (xc : Addr) (xk : ClassId) (c0 : Int32) (c1 : Int32) (h0 : Heap) (n0 : Nat) (v : Option Value) (h : Heap) (L : List Loc) : Prop := Fr n0 L ∧ h = h0 ∧ v = some (.int 1)
theorem own_fit2_2 (l : Launch) (Z : State) (a0 : Array Value) (hw : ∀ d ∈ tables_1, d.before a0 Z = true) (ws : List Jvm.Cond) (xc : Addr) (xk : ClassId) (c0 : Int32) (c1 : Int32) (h0 : Heap) (n0 : Nat) (O0 : Old Z n0 h0) (P0 : Arv Z h0 xc xk .char (2 : Int32) [.int c0, .int c1] (.int 0)) : own_Met l Z (⟨"com/example/circa_once/circaonce/model/StorableTextRequirePinLaw", "fits", "([CI)Z"⟩ : MethodName) method_5_code 4 (some .boolean) ws ({ frames := 0, cells := 0, slots := 0, locals := 0 } : Room) #[.ref xc, .int 2] h0 (Q_own_fit2_2 Z xc xk c0 c1 h0 n0) := by
  refine own_mk (plainFor_of_name own_pn_com_example_circa_once_circaonce_model_StorableTextRequirePinLaw) O0 ?_
  intro p e s m below meth c s₁ hx hby hml hZ hown hnm hlk hret X0 e0 N0 z0 z1
  refine own_cast (own_ef_own_fit2_2 m xc) ?_
  show own_Goes p e below (s₁.setTop (mkF m 0 #[vR xc, vI 2, uS, uS] [])) _
  have ltP0 : @LT.lt Nat _ xc h0.size := P0.lt
  refine q_aloadN X0 hx hby d2_0 rfl rfl ?_
  refine q_len X0 hx hby hZ e0 P0 d2_1 ?_
  refine q_istoreN X0 hx hby d2_2 (l' := #[vR xc, vI 2, vI 2, uS]) rfl ?_
  refine q_iloadN X0 hx hby d2_3 rfl ?_
  refine q_iloadN X0 hx hby d2_4 rfl ?_
  refine q_icmpNo X0 hx hby d2_5 (flt (show ¬ ((2 : Int32) < (2 : Int32)) from by decide)).1 ?_
  refine q_iconst X0 hx hby d2_8 ?_
  refine r_Z X0 hx hby hret hlk d2_9 e0 ?_
  exact ⟨N0, rfl, rfl⟩
theorem own_ef_own_fit2_3 (m : MethodId) (xc : Addr) : entryFrame m #[.ref xc, .int 3] 4 = mkF m 0 #[vR xc, vI 3, uS, uS] [] := by first | (simp [entryFrame, mkF, argsToLocals, Value.category]; done) | rfl
def Q_own_fit2_3 (Z : State) (xc : Addr) (xk : ClassId) (c0 : Int32) (c1 : Int32) (h0 : Heap) (n0 : Nat) (v : Option Value) (h : Heap) (L : List Loc) : Prop := Fr n0 L ∧ h = h0 ∧ v = some (.int 1)
theorem own_fit2_3 (l : Launch) (Z : State) (a0 : Array Value) (hw : ∀ d ∈ tables_1, d.before a0 Z = true) (ws : List Jvm.Cond) (xc : Addr) (xk : ClassId) (c0 : Int32) (c1 : Int32) (h0 : Heap) (n0 : Nat) (O0 : Old Z n0 h0) (P0 : Arv Z h0 xc xk .char (2 : Int32) [.int c0, .int c1] (.int 0)) : own_Met l Z (⟨"com/example/circa_once/circaonce/model/StorableTextRequirePinLaw", "fits", "([CI)Z"⟩ : MethodName) method_5_code 4 (some .boolean) ws ({ frames := 0, cells := 0, slots := 0, locals := 0 } : Room) #[.ref xc, .int 3] h0 (Q_own_fit2_3 Z xc xk c0 c1 h0 n0) := by
  refine own_mk (plainFor_of_name own_pn_com_example_circa_once_circaonce_model_StorableTextRequirePinLaw) O0 ?_
  intro p e s m below meth c s₁ hx hby hml hZ hown hnm hlk hret X0 e0 N0 z0 z1
  refine own_cast (own_ef_own_fit2_3 m xc) ?_
  show own_Goes p e below (s₁.setTop (mkF m 0 #[vR xc, vI 3, uS, uS] [])) _
  have ltP0 : @LT.lt Nat _ xc h0.size := P0.lt
  refine q_aloadN X0 hx hby d2_0 rfl rfl ?_
  refine q_len X0 hx hby hZ e0 P0 d2_1 ?_
  refine q_istoreN X0 hx hby d2_2 (l' := #[vR xc, vI 3, vI 2, uS]) rfl ?_
  refine q_iloadN X0 hx hby d2_3 rfl ?_
  refine q_iloadN X0 hx hby d2_4 rfl ?_
  refine q_icmpNo X0 hx hby d2_5 (flt (show ¬ ((3 : Int32) < (2 : Int32)) from by decide)).1 ?_
  refine q_iconst X0 hx hby d2_8 ?_
  refine r_Z X0 hx hby hret hlk d2_9 e0 ?_
  exact ⟨N0, rfl, rfl⟩
theorem own_ef_own_fit3_0 (m : MethodId) (xc : Addr) : entryFrame m #[.ref xc, .int 0] 4 = mkF m 0 #[vR xc, vI 0, uS, uS] [] := by first | (simp [entryFrame, mkF, argsToLocals, Value.category]; done) | rfl
def Q_own_fit3_0 (Z : State) (xc : Addr) (xk : ClassId) (c0 : Int32) (c1 : Int32) (c2 : Int32) (h0 : Heap) (n0 : Nat) (v : Option Value) (h : Heap) (L : List Loc) : Prop := Fr n0 L ∧ h = h0 ∧ ∃ (r : Int32), v = some (.int r) ∧ ((r = (1 : Int32) ∧ (¬ c0.toInt = 0 ∧ ((c0.toInt < 55296 ∨ 56319 < c0.toInt) ∨ (56320 ≤ c1.toInt ∧ c1.toInt ≤ 57343)) ∧ ((c0.toInt < 56320 ∨ 57343 < c0.toInt)))) ∨ r = (0 : Int32))
theorem own_fit3_0 (l : Launch) (Z : State) (a0 : Array Value) (hw : ∀ d ∈ tables_1, d.before a0 Z = true) (ws : List Jvm.Cond) (xc : Addr) (xk : ClassId) (c0 : Int32) (c1 : Int32) (c2 : Int32) (h0 : Heap) (n0 : Nat) (O0 : Old Z n0 h0) (P0 : Arv Z h0 xc xk .char (3 : Int32) [.int c0, .int c1, .int c2] (.int 0)) : own_Met l Z (⟨"com/example/circa_once/circaonce/model/StorableTextRequirePinLaw", "fits", "([CI)Z"⟩ : MethodName) method_5_code 4 (some .boolean) ws ({ frames := 1, cells := 0, slots := 0, locals := 12 } : Room) #[.ref xc, .int 0] h0 (Q_own_fit3_0 Z xc xk c0 c1 c2 h0 n0) := by
  refine own_mk (plainFor_of_name own_pn_com_example_circa_once_circaonce_model_StorableTextRequirePinLaw) O0 ?_
  intro p e s m below meth c s₁ hx hby hml hZ hown hnm hlk hret X0 e0 N0 z0 z1
  refine own_cast (own_ef_own_fit3_0 m xc) ?_
  show own_Goes p e below (s₁.setTop (mkF m 0 #[vR xc, vI 0, uS, uS] [])) _
  have ltP0 : @LT.lt Nat _ xc h0.size := P0.lt
  refine q_aloadN X0 hx hby d2_0 rfl rfl ?_
  refine q_len X0 hx hby hZ e0 P0 d2_1 ?_
  refine q_istoreN X0 hx hby d2_2 (l' := #[vR xc, vI 0, vI 3, uS]) rfl ?_
  refine q_iloadN X0 hx hby d2_3 rfl ?_
  refine q_iloadN X0 hx hby d2_4 rfl ?_
  refine q_icmpYes (pc := 5) X0 hx hby d2_5 (pc' := 10) (tlt (show ((0 : Int32) < (3 : Int32)) from by decide)).1 (by decide) (by decide) ?_
  refine q_aloadN X0 hx hby d2_10 rfl rfl ?_
  refine q_iloadN X0 hx hby d2_11 rfl ?_
  refine q_caload X0 hx hby hZ e0 P0 d2_12 (.int c0) ?_
  refine q_istoreN X0 hx hby d2_13 (l' := #[vR xc, vI 0, vI 3, vI c0]) rfl ?_
  refine q_iloadN X0 hx hby d2_14 rfl ?_
  by_cases hc3 : c0 = (0 : Int32)
  · refine q_ifNo X0 hx hby d2_15 ((if0 _ _).trans (teq hc3).2) ?_
    refine q_iconst X0 hx hby d2_18 ?_
    refine r_Z X0 hx hby hret hlk d2_19 e0 ?_
    exact ⟨N0, rfl, (0 : Int32), rfl, (Or.inr rfl)⟩
  · refine q_ifYes (pc := 15) X0 hx hby d2_15 (pc' := 20) ((if0 _ _).trans (feq hc3).2) (by decide) (by decide) ?_
    show own_Goes p e below (s₁.setTop (mkF m 20 #[vR xc, vI 0, vI 3, vI c0] [])) _
    refine q_iloadN X0 hx hby d2_20 rfl ?_
    refine k_S X0 hx hby hZ hown (wh hw 65 rfl) (wh hw 66 rfl) (W := 0) (own_hiC l Z a0 hw [] c0 h0 n0 O0) (wh hw 67 rfl) (wh hw 3 rfl) e0  hml (argsL := [.int c0]) (rest := []) own_pd_15 d2_21 (fun _ T4 L4 X4 hQ4 => ?_)
    obtain ⟨Nc4, e4, rfl⟩ := hQ4
    have N4 := Fr.app N0 Nc4
    by_cases hc5 : (own_hi c0) = (0 : Int32)
    · refine q_ifYes (pc := 24) X4 hx hby d2_24 (pc' := 51) ((if0 _ _).trans (teq hc5).1) (by decide) (by decide) ?_
      refine q_iloadN X4 hx hby d2_51 rfl ?_
      refine k_S X4 hx hby hZ hown (wh hw 69 rfl) (wh hw 70 rfl) (W := 0) (own_loC l Z a0 hw [] c0 h0 n0 O0) (wh hw 71 rfl) (wh hw 3 rfl) e4  hml (argsL := [.int c0]) (rest := []) own_pd_15 d2_52 (fun _ T6 L6 X6 hQ6 => ?_)
      obtain ⟨Nc6, e6, rfl⟩ := hQ6
      have N6 := Fr.app N4 Nc6
      by_cases hc7 : (own_lo c0) = (0 : Int32)
      · refine q_ifYes (pc := 55) X6 hx hby d2_55 (pc' := 79) ((if0 _ _).trans (teq hc7).1) (by decide) (by decide) ?_
        refine q_iconst X6 hx hby d2_79 ?_
        refine r_Z X6 hx hby hret hlk d2_80 e6 ?_
        exact ⟨N6, rfl, (1 : Int32), rfl, (Or.inl ⟨rfl, by have := own_ne0' hc3; have := own_hiF hc5; have := own_loF hc7; omega⟩)⟩
      · refine q_ifNo X6 hx hby d2_55 ((if0 _ _).trans (feq hc7).1) ?_
        refine q_iloadN X6 hx hby d2_58 rfl ?_
        refine q_ifYes (pc := 59) X6 hx hby d2_59 (pc' := 77) ((if0 _ _).trans (flt (show ¬ ((0 : Int32) < (0 : Int32)) from by decide)).2.2.2) (by decide) (by decide) ?_
        refine q_iconst X6 hx hby d2_77 ?_
        refine r_Z X6 hx hby hret hlk d2_78 e6 ?_
        exact ⟨N6, rfl, (0 : Int32), rfl, (Or.inr rfl)⟩
    · refine q_ifNo X4 hx hby d2_24 ((if0 _ _).trans (feq hc5).1) ?_
      refine q_iloadN X4 hx hby d2_27 rfl ?_
      refine q_iconst X4 hx hby d2_28 ?_
      show own_Goes p e below (T4.setTop (mkF m 29 #[vR xc, vI 0, vI 3, vI c0] [.int 1, .int 0])) _
      refine q_iadd X4 hx hby d2_29 ?_
      show own_Goes p e below (T4.setTop (mkF m 30 #[vR xc, vI 0, vI 3, vI c0] [(.int ((0 : Int32) + (1 : Int32)))])) _
      rw [show ((0 : Int32) + (1 : Int32)) = (1 : Int32) from by decide]
      refine q_iloadN X4 hx hby d2_30 rfl ?_
      refine q_icmpNo X4 hx hby d2_31 (tlt (show ((1 : Int32) < (3 : Int32)) from by decide)).2.1 ?_
      refine q_aloadN X4 hx hby d2_34 rfl rfl ?_
      refine q_iloadN X4 hx hby d2_35 rfl ?_
      refine q_iconst X4 hx hby d2_36 ?_
      refine q_iadd X4 hx hby d2_37 ?_
      show own_Goes p e below (T4.setTop (mkF m 38 #[vR xc, vI 0, vI 3, vI c0] [(.int ((0 : Int32) + (1 : Int32))), .ref xc])) _
      rw [show ((0 : Int32) + (1 : Int32)) = (1 : Int32) from by decide]
      refine q_caload X4 hx hby hZ e4 P0 d2_38 (.int c1) ?_
      refine k_S X4 hx hby hZ hown (wh hw 69 rfl) (wh hw 70 rfl) (W := 0) (own_loC l Z a0 hw [] c1 h0 n0 O0) (wh hw 71 rfl) (wh hw 3 rfl) e4  hml (argsL := [.int c1]) (rest := []) own_pd_15 d2_39 (fun _ T9 L9 X9 hQ9 => ?_)
      obtain ⟨Nc9, e9, rfl⟩ := hQ9
      have N9 := Fr.app N4 Nc9
      by_cases hc10 : (own_lo c1) = (0 : Int32)
      · refine q_ifYes (pc := 42) X9 hx hby d2_42 (pc' := 49) ((if0 _ _).trans (teq hc10).1) (by decide) (by decide) ?_
        refine q_iconst X9 hx hby d2_49 ?_
        refine r_Z X9 hx hby hret hlk d2_50 e9 ?_
        exact ⟨N9, rfl, (0 : Int32), rfl, (Or.inr rfl)⟩
      · refine q_ifNo X9 hx hby d2_42 ((if0 _ _).trans (feq hc10).1) ?_
        refine q_iconst X9 hx hby d2_45 ?_
        refine q_goto (pc := 46) X9 hx hby d2_46 (pc' := 50) (by decide) (by decide) ?_
        refine r_Z X9 hx hby hret hlk d2_50 e9 ?_
        exact ⟨N9, rfl, (1 : Int32), rfl, (Or.inl ⟨rfl, by have := own_ne0' hc3; have := own_hiT hc5; have := own_loT hc10; omega⟩)⟩
theorem own_ef_own_fit3_1 (m : MethodId) (xc : Addr) : entryFrame m #[.ref xc, .int 1] 4 = mkF m 0 #[vR xc, vI 1, uS, uS] [] := by first | (simp [entryFrame, mkF, argsToLocals, Value.category]; done) | rfl
def Q_own_fit3_1 (Z : State) (xc : Addr) (xk : ClassId) (c0 : Int32) (c1 : Int32) (c2 : Int32) (h0 : Heap) (n0 : Nat) (v : Option Value) (h : Heap) (L : List Loc) : Prop := Fr n0 L ∧ h = h0 ∧ ∃ (r : Int32), v = some (.int r) ∧ ((r = (1 : Int32) ∧ (¬ c1.toInt = 0 ∧ ((c1.toInt < 55296 ∨ 56319 < c1.toInt) ∨ (56320 ≤ c2.toInt ∧ c2.toInt ≤ 57343)) ∧ ((c1.toInt < 56320 ∨ 57343 < c1.toInt) ∨ (55296 ≤ c0.toInt ∧ c0.toInt ≤ 56319)))) ∨ r = (0 : Int32))
theorem own_fit3_1 (l : Launch) (Z : State) (a0 : Array Value) (hw : ∀ d ∈ tables_1, d.before a0 Z = true) (ws : List Jvm.Cond) (xc : Addr) (xk : ClassId) (c0 : Int32) (c1 : Int32) (c2 : Int32) (h0 : Heap) (n0 : Nat) (O0 : Old Z n0 h0) (P0 : Arv Z h0 xc xk .char (3 : Int32) [.int c0, .int c1, .int c2] (.int 0)) : own_Met l Z (⟨"com/example/circa_once/circaonce/model/StorableTextRequirePinLaw", "fits", "([CI)Z"⟩ : MethodName) method_5_code 4 (some .boolean) ws ({ frames := 1, cells := 0, slots := 0, locals := 12 } : Room) #[.ref xc, .int 1] h0 (Q_own_fit3_1 Z xc xk c0 c1 c2 h0 n0) := by
  refine own_mk (plainFor_of_name own_pn_com_example_circa_once_circaonce_model_StorableTextRequirePinLaw) O0 ?_
  intro p e s m below meth c s₁ hx hby hml hZ hown hnm hlk hret X0 e0 N0 z0 z1
  refine own_cast (own_ef_own_fit3_1 m xc) ?_
  show own_Goes p e below (s₁.setTop (mkF m 0 #[vR xc, vI 1, uS, uS] [])) _
  have ltP0 : @LT.lt Nat _ xc h0.size := P0.lt
  refine q_aloadN X0 hx hby d2_0 rfl rfl ?_
  refine q_len X0 hx hby hZ e0 P0 d2_1 ?_
  refine q_istoreN X0 hx hby d2_2 (l' := #[vR xc, vI 1, vI 3, uS]) rfl ?_
  refine q_iloadN X0 hx hby d2_3 rfl ?_
  refine q_iloadN X0 hx hby d2_4 rfl ?_
  refine q_icmpYes (pc := 5) X0 hx hby d2_5 (pc' := 10) (tlt (show ((1 : Int32) < (3 : Int32)) from by decide)).1 (by decide) (by decide) ?_
  refine q_aloadN X0 hx hby d2_10 rfl rfl ?_
  refine q_iloadN X0 hx hby d2_11 rfl ?_
  refine q_caload X0 hx hby hZ e0 P0 d2_12 (.int c1) ?_
  refine q_istoreN X0 hx hby d2_13 (l' := #[vR xc, vI 1, vI 3, vI c1]) rfl ?_
  refine q_iloadN X0 hx hby d2_14 rfl ?_
  by_cases hc3 : c1 = (0 : Int32)
  · refine q_ifNo X0 hx hby d2_15 ((if0 _ _).trans (teq hc3).2) ?_
    refine q_iconst X0 hx hby d2_18 ?_
    refine r_Z X0 hx hby hret hlk d2_19 e0 ?_
    exact ⟨N0, rfl, (0 : Int32), rfl, (Or.inr rfl)⟩
  · refine q_ifYes (pc := 15) X0 hx hby d2_15 (pc' := 20) ((if0 _ _).trans (feq hc3).2) (by decide) (by decide) ?_
    show own_Goes p e below (s₁.setTop (mkF m 20 #[vR xc, vI 1, vI 3, vI c1] [])) _
    refine q_iloadN X0 hx hby d2_20 rfl ?_
    refine k_S X0 hx hby hZ hown (wh hw 65 rfl) (wh hw 66 rfl) (W := 0) (own_hiC l Z a0 hw [] c1 h0 n0 O0) (wh hw 67 rfl) (wh hw 3 rfl) e0  hml (argsL := [.int c1]) (rest := []) own_pd_15 d2_21 (fun _ T4 L4 X4 hQ4 => ?_)
    obtain ⟨Nc4, e4, rfl⟩ := hQ4
    have N4 := Fr.app N0 Nc4
    by_cases hc5 : (own_hi c1) = (0 : Int32)
    · refine q_ifYes (pc := 24) X4 hx hby d2_24 (pc' := 51) ((if0 _ _).trans (teq hc5).1) (by decide) (by decide) ?_
      refine q_iloadN X4 hx hby d2_51 rfl ?_
      refine k_S X4 hx hby hZ hown (wh hw 69 rfl) (wh hw 70 rfl) (W := 0) (own_loC l Z a0 hw [] c1 h0 n0 O0) (wh hw 71 rfl) (wh hw 3 rfl) e4  hml (argsL := [.int c1]) (rest := []) own_pd_15 d2_52 (fun _ T6 L6 X6 hQ6 => ?_)
      obtain ⟨Nc6, e6, rfl⟩ := hQ6
      have N6 := Fr.app N4 Nc6
      by_cases hc7 : (own_lo c1) = (0 : Int32)
      · refine q_ifYes (pc := 55) X6 hx hby d2_55 (pc' := 79) ((if0 _ _).trans (teq hc7).1) (by decide) (by decide) ?_
        refine q_iconst X6 hx hby d2_79 ?_
        refine r_Z X6 hx hby hret hlk d2_80 e6 ?_
        exact ⟨N6, rfl, (1 : Int32), rfl, (Or.inl ⟨rfl, by have := own_ne0' hc3; have := own_hiF hc5; have := own_loF hc7; omega⟩)⟩
      · refine q_ifNo X6 hx hby d2_55 ((if0 _ _).trans (feq hc7).1) ?_
        refine q_iloadN X6 hx hby d2_58 rfl ?_
        refine q_ifNo X6 hx hby d2_59 ((if0 _ _).trans (tlt (show ((0 : Int32) < (1 : Int32)) from by decide)).2.2.2) ?_
        refine q_aloadN X6 hx hby d2_62 rfl rfl ?_
        refine q_iloadN X6 hx hby d2_63 rfl ?_
        refine q_iconst X6 hx hby d2_64 ?_
        refine q_isub X6 hx hby d2_65 ?_
        show own_Goes p e below (T6.setTop (mkF m 66 #[vR xc, vI 1, vI 3, vI c1] [(.int ((1 : Int32) - (1 : Int32))), .ref xc])) _
        rw [show ((1 : Int32) - (1 : Int32)) = (0 : Int32) from by decide]
        refine q_caload X6 hx hby hZ e6 P0 d2_66 (.int c0) ?_
        refine k_S X6 hx hby hZ hown (wh hw 65 rfl) (wh hw 66 rfl) (W := 0) (own_hiC l Z a0 hw [] c0 h0 n0 O0) (wh hw 67 rfl) (wh hw 3 rfl) e6  hml (argsL := [.int c0]) (rest := []) own_pd_15 d2_67 (fun _ T9 L9 X9 hQ9 => ?_)
        obtain ⟨Nc9, e9, rfl⟩ := hQ9
        have N9 := Fr.app N6 Nc9
        by_cases hc10 : (own_hi c0) = (0 : Int32)
        · refine q_ifYes (pc := 70) X9 hx hby d2_70 (pc' := 77) ((if0 _ _).trans (teq hc10).1) (by decide) (by decide) ?_
          refine q_iconst X9 hx hby d2_77 ?_
          refine r_Z X9 hx hby hret hlk d2_78 e9 ?_
          exact ⟨N9, rfl, (0 : Int32), rfl, (Or.inr rfl)⟩
        · refine q_ifNo X9 hx hby d2_70 ((if0 _ _).trans (feq hc10).1) ?_
          refine q_iconst X9 hx hby d2_73 ?_
          refine q_goto (pc := 74) X9 hx hby d2_74 (pc' := 78) (by decide) (by decide) ?_
          refine r_Z X9 hx hby hret hlk d2_78 e9 ?_
          exact ⟨N9, rfl, (1 : Int32), rfl, (Or.inl ⟨rfl, by have := own_ne0' hc3; have := own_hiF hc5; have := own_loT hc7; have := own_hiT hc10; omega⟩)⟩
    · refine q_ifNo X4 hx hby d2_24 ((if0 _ _).trans (feq hc5).1) ?_
      refine q_iloadN X4 hx hby d2_27 rfl ?_
      refine q_iconst X4 hx hby d2_28 ?_
      refine q_iadd X4 hx hby d2_29 ?_
      show own_Goes p e below (T4.setTop (mkF m 30 #[vR xc, vI 1, vI 3, vI c1] [(.int ((1 : Int32) + (1 : Int32)))])) _
      rw [show ((1 : Int32) + (1 : Int32)) = (2 : Int32) from by decide]
      refine q_iloadN X4 hx hby d2_30 rfl ?_
      refine q_icmpNo X4 hx hby d2_31 (tlt (show ((2 : Int32) < (3 : Int32)) from by decide)).2.1 ?_
      refine q_aloadN X4 hx hby d2_34 rfl rfl ?_
      refine q_iloadN X4 hx hby d2_35 rfl ?_
      refine q_iconst X4 hx hby d2_36 ?_
      refine q_iadd X4 hx hby d2_37 ?_
      show own_Goes p e below (T4.setTop (mkF m 38 #[vR xc, vI 1, vI 3, vI c1] [(.int ((1 : Int32) + (1 : Int32))), .ref xc])) _
      rw [show ((1 : Int32) + (1 : Int32)) = (2 : Int32) from by decide]
      refine q_caload X4 hx hby hZ e4 P0 d2_38 (.int c2) ?_
      refine k_S X4 hx hby hZ hown (wh hw 69 rfl) (wh hw 70 rfl) (W := 0) (own_loC l Z a0 hw [] c2 h0 n0 O0) (wh hw 71 rfl) (wh hw 3 rfl) e4  hml (argsL := [.int c2]) (rest := []) own_pd_15 d2_39 (fun _ T12 L12 X12 hQ12 => ?_)
      obtain ⟨Nc12, e12, rfl⟩ := hQ12
      have N12 := Fr.app N4 Nc12
      by_cases hc13 : (own_lo c2) = (0 : Int32)
      · refine q_ifYes (pc := 42) X12 hx hby d2_42 (pc' := 49) ((if0 _ _).trans (teq hc13).1) (by decide) (by decide) ?_
        refine q_iconst X12 hx hby d2_49 ?_
        refine r_Z X12 hx hby hret hlk d2_50 e12 ?_
        exact ⟨N12, rfl, (0 : Int32), rfl, (Or.inr rfl)⟩
      · refine q_ifNo X12 hx hby d2_42 ((if0 _ _).trans (feq hc13).1) ?_
        refine q_iconst X12 hx hby d2_45 ?_
        refine q_goto (pc := 46) X12 hx hby d2_46 (pc' := 50) (by decide) (by decide) ?_
        refine r_Z X12 hx hby hret hlk d2_50 e12 ?_
        exact ⟨N12, rfl, (1 : Int32), rfl, (Or.inl ⟨rfl, by have := own_ne0' hc3; have := own_hiT hc5; have := own_loT hc13; omega⟩)⟩
theorem own_ef_own_fit3_2 (m : MethodId) (xc : Addr) : entryFrame m #[.ref xc, .int 2] 4 = mkF m 0 #[vR xc, vI 2, uS, uS] [] := by first | (simp [entryFrame, mkF, argsToLocals, Value.category]; done) | rfl
def Q_own_fit3_2 (Z : State) (xc : Addr) (xk : ClassId) (c0 : Int32) (c1 : Int32) (c2 : Int32) (h0 : Heap) (n0 : Nat) (v : Option Value) (h : Heap) (L : List Loc) : Prop := Fr n0 L ∧ h = h0 ∧ ∃ (r : Int32), v = some (.int r) ∧ ((r = (1 : Int32) ∧ (¬ c2.toInt = 0 ∧ ((c2.toInt < 55296 ∨ 56319 < c2.toInt)) ∧ ((c2.toInt < 56320 ∨ 57343 < c2.toInt) ∨ (55296 ≤ c1.toInt ∧ c1.toInt ≤ 56319)))) ∨ r = (0 : Int32))
theorem own_fit3_2 (l : Launch) (Z : State) (a0 : Array Value) (hw : ∀ d ∈ tables_1, d.before a0 Z = true) (ws : List Jvm.Cond) (xc : Addr) (xk : ClassId) (c0 : Int32) (c1 : Int32) (c2 : Int32) (h0 : Heap) (n0 : Nat) (O0 : Old Z n0 h0) (P0 : Arv Z h0 xc xk .char (3 : Int32) [.int c0, .int c1, .int c2] (.int 0)) : own_Met l Z (⟨"com/example/circa_once/circaonce/model/StorableTextRequirePinLaw", "fits", "([CI)Z"⟩ : MethodName) method_5_code 4 (some .boolean) ws ({ frames := 1, cells := 0, slots := 0, locals := 12 } : Room) #[.ref xc, .int 2] h0 (Q_own_fit3_2 Z xc xk c0 c1 c2 h0 n0) := by
  refine own_mk (plainFor_of_name own_pn_com_example_circa_once_circaonce_model_StorableTextRequirePinLaw) O0 ?_
  intro p e s m below meth c s₁ hx hby hml hZ hown hnm hlk hret X0 e0 N0 z0 z1
  refine own_cast (own_ef_own_fit3_2 m xc) ?_
  show own_Goes p e below (s₁.setTop (mkF m 0 #[vR xc, vI 2, uS, uS] [])) _
  have ltP0 : @LT.lt Nat _ xc h0.size := P0.lt
  refine q_aloadN X0 hx hby d2_0 rfl rfl ?_
  refine q_len X0 hx hby hZ e0 P0 d2_1 ?_
  refine q_istoreN X0 hx hby d2_2 (l' := #[vR xc, vI 2, vI 3, uS]) rfl ?_
  refine q_iloadN X0 hx hby d2_3 rfl ?_
  refine q_iloadN X0 hx hby d2_4 rfl ?_
  refine q_icmpYes (pc := 5) X0 hx hby d2_5 (pc' := 10) (tlt (show ((2 : Int32) < (3 : Int32)) from by decide)).1 (by decide) (by decide) ?_
  refine q_aloadN X0 hx hby d2_10 rfl rfl ?_
  refine q_iloadN X0 hx hby d2_11 rfl ?_
  refine q_caload X0 hx hby hZ e0 P0 d2_12 (.int c2) ?_
  refine q_istoreN X0 hx hby d2_13 (l' := #[vR xc, vI 2, vI 3, vI c2]) rfl ?_
  refine q_iloadN X0 hx hby d2_14 rfl ?_
  by_cases hc3 : c2 = (0 : Int32)
  · refine q_ifNo X0 hx hby d2_15 ((if0 _ _).trans (teq hc3).2) ?_
    refine q_iconst X0 hx hby d2_18 ?_
    refine r_Z X0 hx hby hret hlk d2_19 e0 ?_
    exact ⟨N0, rfl, (0 : Int32), rfl, (Or.inr rfl)⟩
  · refine q_ifYes (pc := 15) X0 hx hby d2_15 (pc' := 20) ((if0 _ _).trans (feq hc3).2) (by decide) (by decide) ?_
    show own_Goes p e below (s₁.setTop (mkF m 20 #[vR xc, vI 2, vI 3, vI c2] [])) _
    refine q_iloadN X0 hx hby d2_20 rfl ?_
    refine k_S X0 hx hby hZ hown (wh hw 65 rfl) (wh hw 66 rfl) (W := 0) (own_hiC l Z a0 hw [] c2 h0 n0 O0) (wh hw 67 rfl) (wh hw 3 rfl) e0  hml (argsL := [.int c2]) (rest := []) own_pd_15 d2_21 (fun _ T4 L4 X4 hQ4 => ?_)
    obtain ⟨Nc4, e4, rfl⟩ := hQ4
    have N4 := Fr.app N0 Nc4
    by_cases hc5 : (own_hi c2) = (0 : Int32)
    · refine q_ifYes (pc := 24) X4 hx hby d2_24 (pc' := 51) ((if0 _ _).trans (teq hc5).1) (by decide) (by decide) ?_
      refine q_iloadN X4 hx hby d2_51 rfl ?_
      refine k_S X4 hx hby hZ hown (wh hw 69 rfl) (wh hw 70 rfl) (W := 0) (own_loC l Z a0 hw [] c2 h0 n0 O0) (wh hw 71 rfl) (wh hw 3 rfl) e4  hml (argsL := [.int c2]) (rest := []) own_pd_15 d2_52 (fun _ T6 L6 X6 hQ6 => ?_)
      obtain ⟨Nc6, e6, rfl⟩ := hQ6
      have N6 := Fr.app N4 Nc6
      by_cases hc7 : (own_lo c2) = (0 : Int32)
      · refine q_ifYes (pc := 55) X6 hx hby d2_55 (pc' := 79) ((if0 _ _).trans (teq hc7).1) (by decide) (by decide) ?_
        refine q_iconst X6 hx hby d2_79 ?_
        refine r_Z X6 hx hby hret hlk d2_80 e6 ?_
        exact ⟨N6, rfl, (1 : Int32), rfl, (Or.inl ⟨rfl, by have := own_ne0' hc3; have := own_hiF hc5; have := own_loF hc7; omega⟩)⟩
      · refine q_ifNo X6 hx hby d2_55 ((if0 _ _).trans (feq hc7).1) ?_
        refine q_iloadN X6 hx hby d2_58 rfl ?_
        refine q_ifNo X6 hx hby d2_59 ((if0 _ _).trans (tlt (show ((0 : Int32) < (2 : Int32)) from by decide)).2.2.2) ?_
        refine q_aloadN X6 hx hby d2_62 rfl rfl ?_
        refine q_iloadN X6 hx hby d2_63 rfl ?_
        refine q_iconst X6 hx hby d2_64 ?_
        refine q_isub X6 hx hby d2_65 ?_
        show own_Goes p e below (T6.setTop (mkF m 66 #[vR xc, vI 2, vI 3, vI c2] [(.int ((2 : Int32) - (1 : Int32))), .ref xc])) _
        rw [show ((2 : Int32) - (1 : Int32)) = (1 : Int32) from by decide]
        refine q_caload X6 hx hby hZ e6 P0 d2_66 (.int c1) ?_
        refine k_S X6 hx hby hZ hown (wh hw 65 rfl) (wh hw 66 rfl) (W := 0) (own_hiC l Z a0 hw [] c1 h0 n0 O0) (wh hw 67 rfl) (wh hw 3 rfl) e6  hml (argsL := [.int c1]) (rest := []) own_pd_15 d2_67 (fun _ T9 L9 X9 hQ9 => ?_)
        obtain ⟨Nc9, e9, rfl⟩ := hQ9
        have N9 := Fr.app N6 Nc9
        by_cases hc10 : (own_hi c1) = (0 : Int32)
        · refine q_ifYes (pc := 70) X9 hx hby d2_70 (pc' := 77) ((if0 _ _).trans (teq hc10).1) (by decide) (by decide) ?_
          refine q_iconst X9 hx hby d2_77 ?_
          refine r_Z X9 hx hby hret hlk d2_78 e9 ?_
          exact ⟨N9, rfl, (0 : Int32), rfl, (Or.inr rfl)⟩
        · refine q_ifNo X9 hx hby d2_70 ((if0 _ _).trans (feq hc10).1) ?_
          refine q_iconst X9 hx hby d2_73 ?_
          refine q_goto (pc := 74) X9 hx hby d2_74 (pc' := 78) (by decide) (by decide) ?_
          refine r_Z X9 hx hby hret hlk d2_78 e9 ?_
          exact ⟨N9, rfl, (1 : Int32), rfl, (Or.inl ⟨rfl, by have := own_ne0' hc3; have := own_hiF hc5; have := own_loT hc7; have := own_hiT hc10; omega⟩)⟩
    · refine q_ifNo X4 hx hby d2_24 ((if0 _ _).trans (feq hc5).1) ?_
      refine q_iloadN X4 hx hby d2_27 rfl ?_
      refine q_iconst X4 hx hby d2_28 ?_
      refine q_iadd X4 hx hby d2_29 ?_
      show own_Goes p e below (T4.setTop (mkF m 30 #[vR xc, vI 2, vI 3, vI c2] [(.int ((2 : Int32) + (1 : Int32)))])) _
      rw [show ((2 : Int32) + (1 : Int32)) = (3 : Int32) from by decide]
      refine q_iloadN X4 hx hby d2_30 rfl ?_
      refine q_icmpYes (pc := 31) X4 hx hby d2_31 (pc' := 49) (flt (show ¬ ((3 : Int32) < (3 : Int32)) from by decide)).2.1 (by decide) (by decide) ?_
      refine q_iconst X4 hx hby d2_49 ?_
      refine r_Z X4 hx hby hret hlk d2_50 e4 ?_
      exact ⟨N4, rfl, (0 : Int32), rfl, (Or.inr rfl)⟩
theorem own_ef_own_fit3_3 (m : MethodId) (xc : Addr) : entryFrame m #[.ref xc, .int 3] 4 = mkF m 0 #[vR xc, vI 3, uS, uS] [] := by first | (simp [entryFrame, mkF, argsToLocals, Value.category]; done) | rfl
def Q_own_fit3_3 (Z : State) (xc : Addr) (xk : ClassId) (c0 : Int32) (c1 : Int32) (c2 : Int32) (h0 : Heap) (n0 : Nat) (v : Option Value) (h : Heap) (L : List Loc) : Prop := Fr n0 L ∧ h = h0 ∧ v = some (.int 1)
theorem own_fit3_3 (l : Launch) (Z : State) (a0 : Array Value) (hw : ∀ d ∈ tables_1, d.before a0 Z = true) (ws : List Jvm.Cond) (xc : Addr) (xk : ClassId) (c0 : Int32) (c1 : Int32) (c2 : Int32) (h0 : Heap) (n0 : Nat) (O0 : Old Z n0 h0) (P0 : Arv Z h0 xc xk .char (3 : Int32) [.int c0, .int c1, .int c2] (.int 0)) : own_Met l Z (⟨"com/example/circa_once/circaonce/model/StorableTextRequirePinLaw", "fits", "([CI)Z"⟩ : MethodName) method_5_code 4 (some .boolean) ws ({ frames := 0, cells := 0, slots := 0, locals := 0 } : Room) #[.ref xc, .int 3] h0 (Q_own_fit3_3 Z xc xk c0 c1 c2 h0 n0) := by
  refine own_mk (plainFor_of_name own_pn_com_example_circa_once_circaonce_model_StorableTextRequirePinLaw) O0 ?_
  intro p e s m below meth c s₁ hx hby hml hZ hown hnm hlk hret X0 e0 N0 z0 z1
  refine own_cast (own_ef_own_fit3_3 m xc) ?_
  show own_Goes p e below (s₁.setTop (mkF m 0 #[vR xc, vI 3, uS, uS] [])) _
  have ltP0 : @LT.lt Nat _ xc h0.size := P0.lt
  refine q_aloadN X0 hx hby d2_0 rfl rfl ?_
  refine q_len X0 hx hby hZ e0 P0 d2_1 ?_
  refine q_istoreN X0 hx hby d2_2 (l' := #[vR xc, vI 3, vI 3, uS]) rfl ?_
  refine q_iloadN X0 hx hby d2_3 rfl ?_
  refine q_iloadN X0 hx hby d2_4 rfl ?_
  refine q_icmpNo X0 hx hby d2_5 (flt (show ¬ ((3 : Int32) < (3 : Int32)) from by decide)).1 ?_
  refine q_iconst X0 hx hby d2_8 ?_
  refine r_Z X0 hx hby hret hlk d2_9 e0 ?_
  exact ⟨N0, rfl, rfl⟩
theorem own_ef_own_fit4_0 (m : MethodId) (xc : Addr) : entryFrame m #[.ref xc, .int 0] 4 = mkF m 0 #[vR xc, vI 0, uS, uS] [] := by first | (simp [entryFrame, mkF, argsToLocals, Value.category]; done) | rfl
def Q_own_fit4_0 (Z : State) (xc : Addr) (xk : ClassId) (c0 : Int32) (c1 : Int32) (c2 : Int32) (c3 : Int32) (h0 : Heap) (n0 : Nat) (v : Option Value) (h : Heap) (L : List Loc) : Prop := Fr n0 L ∧ h = h0 ∧ ∃ (r : Int32), v = some (.int r) ∧ ((r = (1 : Int32) ∧ (¬ c0.toInt = 0 ∧ ((c0.toInt < 55296 ∨ 56319 < c0.toInt) ∨ (56320 ≤ c1.toInt ∧ c1.toInt ≤ 57343)) ∧ ((c0.toInt < 56320 ∨ 57343 < c0.toInt)))) ∨ r = (0 : Int32))
theorem own_fit4_0 (l : Launch) (Z : State) (a0 : Array Value) (hw : ∀ d ∈ tables_1, d.before a0 Z = true) (ws : List Jvm.Cond) (xc : Addr) (xk : ClassId) (c0 : Int32) (c1 : Int32) (c2 : Int32) (c3 : Int32) (h0 : Heap) (n0 : Nat) (O0 : Old Z n0 h0) (P0 : Arv Z h0 xc xk .char (4 : Int32) [.int c0, .int c1, .int c2, .int c3] (.int 0)) : own_Met l Z (⟨"com/example/circa_once/circaonce/model/StorableTextRequirePinLaw", "fits", "([CI)Z"⟩ : MethodName) method_5_code 4 (some .boolean) ws ({ frames := 1, cells := 0, slots := 0, locals := 12 } : Room) #[.ref xc, .int 0] h0 (Q_own_fit4_0 Z xc xk c0 c1 c2 c3 h0 n0) := by
  refine own_mk (plainFor_of_name own_pn_com_example_circa_once_circaonce_model_StorableTextRequirePinLaw) O0 ?_
  intro p e s m below meth c s₁ hx hby hml hZ hown hnm hlk hret X0 e0 N0 z0 z1
  refine own_cast (own_ef_own_fit4_0 m xc) ?_
  show own_Goes p e below (s₁.setTop (mkF m 0 #[vR xc, vI 0, uS, uS] [])) _
  have ltP0 : @LT.lt Nat _ xc h0.size := P0.lt
  refine q_aloadN X0 hx hby d2_0 rfl rfl ?_
  refine q_len X0 hx hby hZ e0 P0 d2_1 ?_
  refine q_istoreN X0 hx hby d2_2 (l' := #[vR xc, vI 0, vI 4, uS]) rfl ?_
  refine q_iloadN X0 hx hby d2_3 rfl ?_
  refine q_iloadN X0 hx hby d2_4 rfl ?_
  refine q_icmpYes (pc := 5) X0 hx hby d2_5 (pc' := 10) (tlt (show ((0 : Int32) < (4 : Int32)) from by decide)).1 (by decide) (by decide) ?_
  refine q_aloadN X0 hx hby d2_10 rfl rfl ?_
  refine q_iloadN X0 hx hby d2_11 rfl ?_
  refine q_caload X0 hx hby hZ e0 P0 d2_12 (.int c0) ?_
  refine q_istoreN X0 hx hby d2_13 (l' := #[vR xc, vI 0, vI 4, vI c0]) rfl ?_
  refine q_iloadN X0 hx hby d2_14 rfl ?_
  by_cases hc3 : c0 = (0 : Int32)
  · refine q_ifNo X0 hx hby d2_15 ((if0 _ _).trans (teq hc3).2) ?_
    refine q_iconst X0 hx hby d2_18 ?_
    refine r_Z X0 hx hby hret hlk d2_19 e0 ?_
    exact ⟨N0, rfl, (0 : Int32), rfl, (Or.inr rfl)⟩
  · refine q_ifYes (pc := 15) X0 hx hby d2_15 (pc' := 20) ((if0 _ _).trans (feq hc3).2) (by decide) (by decide) ?_
    show own_Goes p e below (s₁.setTop (mkF m 20 #[vR xc, vI 0, vI 4, vI c0] [])) _
    refine q_iloadN X0 hx hby d2_20 rfl ?_
    refine k_S X0 hx hby hZ hown (wh hw 65 rfl) (wh hw 66 rfl) (W := 0) (own_hiC l Z a0 hw [] c0 h0 n0 O0) (wh hw 67 rfl) (wh hw 3 rfl) e0  hml (argsL := [.int c0]) (rest := []) own_pd_15 d2_21 (fun _ T4 L4 X4 hQ4 => ?_)
    obtain ⟨Nc4, e4, rfl⟩ := hQ4
    have N4 := Fr.app N0 Nc4
    by_cases hc5 : (own_hi c0) = (0 : Int32)
    · refine q_ifYes (pc := 24) X4 hx hby d2_24 (pc' := 51) ((if0 _ _).trans (teq hc5).1) (by decide) (by decide) ?_
      refine q_iloadN X4 hx hby d2_51 rfl ?_
      refine k_S X4 hx hby hZ hown (wh hw 69 rfl) (wh hw 70 rfl) (W := 0) (own_loC l Z a0 hw [] c0 h0 n0 O0) (wh hw 71 rfl) (wh hw 3 rfl) e4  hml (argsL := [.int c0]) (rest := []) own_pd_15 d2_52 (fun _ T6 L6 X6 hQ6 => ?_)
      obtain ⟨Nc6, e6, rfl⟩ := hQ6
      have N6 := Fr.app N4 Nc6
      by_cases hc7 : (own_lo c0) = (0 : Int32)
      · refine q_ifYes (pc := 55) X6 hx hby d2_55 (pc' := 79) ((if0 _ _).trans (teq hc7).1) (by decide) (by decide) ?_
        refine q_iconst X6 hx hby d2_79 ?_
        refine r_Z X6 hx hby hret hlk d2_80 e6 ?_
        exact ⟨N6, rfl, (1 : Int32), rfl, (Or.inl ⟨rfl, by have := own_ne0' hc3; have := own_hiF hc5; have := own_loF hc7; omega⟩)⟩
      · refine q_ifNo X6 hx hby d2_55 ((if0 _ _).trans (feq hc7).1) ?_
        refine q_iloadN X6 hx hby d2_58 rfl ?_
        refine q_ifYes (pc := 59) X6 hx hby d2_59 (pc' := 77) ((if0 _ _).trans (flt (show ¬ ((0 : Int32) < (0 : Int32)) from by decide)).2.2.2) (by decide) (by decide) ?_
        refine q_iconst X6 hx hby d2_77 ?_
        refine r_Z X6 hx hby hret hlk d2_78 e6 ?_
        exact ⟨N6, rfl, (0 : Int32), rfl, (Or.inr rfl)⟩
    · refine q_ifNo X4 hx hby d2_24 ((if0 _ _).trans (feq hc5).1) ?_
      refine q_iloadN X4 hx hby d2_27 rfl ?_
      refine q_iconst X4 hx hby d2_28 ?_
      show own_Goes p e below (T4.setTop (mkF m 29 #[vR xc, vI 0, vI 4, vI c0] [.int 1, .int 0])) _
      refine q_iadd X4 hx hby d2_29 ?_
      show own_Goes p e below (T4.setTop (mkF m 30 #[vR xc, vI 0, vI 4, vI c0] [(.int ((0 : Int32) + (1 : Int32)))])) _
      rw [show ((0 : Int32) + (1 : Int32)) = (1 : Int32) from by decide]
      refine q_iloadN X4 hx hby d2_30 rfl ?_
      refine q_icmpNo X4 hx hby d2_31 (tlt (show ((1 : Int32) < (4 : Int32)) from by decide)).2.1 ?_
      refine q_aloadN X4 hx hby d2_34 rfl rfl ?_
      refine q_iloadN X4 hx hby d2_35 rfl ?_
      refine q_iconst X4 hx hby d2_36 ?_
      refine q_iadd X4 hx hby d2_37 ?_
      show own_Goes p e below (T4.setTop (mkF m 38 #[vR xc, vI 0, vI 4, vI c0] [(.int ((0 : Int32) + (1 : Int32))), .ref xc])) _
      rw [show ((0 : Int32) + (1 : Int32)) = (1 : Int32) from by decide]
      refine q_caload X4 hx hby hZ e4 P0 d2_38 (.int c1) ?_
      refine k_S X4 hx hby hZ hown (wh hw 69 rfl) (wh hw 70 rfl) (W := 0) (own_loC l Z a0 hw [] c1 h0 n0 O0) (wh hw 71 rfl) (wh hw 3 rfl) e4  hml (argsL := [.int c1]) (rest := []) own_pd_15 d2_39 (fun _ T9 L9 X9 hQ9 => ?_)
      obtain ⟨Nc9, e9, rfl⟩ := hQ9
      have N9 := Fr.app N4 Nc9
      by_cases hc10 : (own_lo c1) = (0 : Int32)
      · refine q_ifYes (pc := 42) X9 hx hby d2_42 (pc' := 49) ((if0 _ _).trans (teq hc10).1) (by decide) (by decide) ?_
        refine q_iconst X9 hx hby d2_49 ?_
        refine r_Z X9 hx hby hret hlk d2_50 e9 ?_
        exact ⟨N9, rfl, (0 : Int32), rfl, (Or.inr rfl)⟩
      · refine q_ifNo X9 hx hby d2_42 ((if0 _ _).trans (feq hc10).1) ?_
        refine q_iconst X9 hx hby d2_45 ?_
        refine q_goto (pc := 46) X9 hx hby d2_46 (pc' := 50) (by decide) (by decide) ?_
        refine r_Z X9 hx hby hret hlk d2_50 e9 ?_
        exact ⟨N9, rfl, (1 : Int32), rfl, (Or.inl ⟨rfl, by have := own_ne0' hc3; have := own_hiT hc5; have := own_loT hc10; omega⟩)⟩
theorem own_ef_own_fit4_1 (m : MethodId) (xc : Addr) : entryFrame m #[.ref xc, .int 1] 4 = mkF m 0 #[vR xc, vI 1, uS, uS] [] := by first | (simp [entryFrame, mkF, argsToLocals, Value.category]; done) | rfl
def Q_own_fit4_1 (Z : State) (xc : Addr) (xk : ClassId) (c0 : Int32) (c1 : Int32) (c2 : Int32) (c3 : Int32) (h0 : Heap) (n0 : Nat) (v : Option Value) (h : Heap) (L : List Loc) : Prop := Fr n0 L ∧ h = h0 ∧ ∃ (r : Int32), v = some (.int r) ∧ ((r = (1 : Int32) ∧ (¬ c1.toInt = 0 ∧ ((c1.toInt < 55296 ∨ 56319 < c1.toInt) ∨ (56320 ≤ c2.toInt ∧ c2.toInt ≤ 57343)) ∧ ((c1.toInt < 56320 ∨ 57343 < c1.toInt) ∨ (55296 ≤ c0.toInt ∧ c0.toInt ≤ 56319)))) ∨ r = (0 : Int32))
theorem own_fit4_1 (l : Launch) (Z : State) (a0 : Array Value) (hw : ∀ d ∈ tables_1, d.before a0 Z = true) (ws : List Jvm.Cond) (xc : Addr) (xk : ClassId) (c0 : Int32) (c1 : Int32) (c2 : Int32) (c3 : Int32) (h0 : Heap) (n0 : Nat) (O0 : Old Z n0 h0) (P0 : Arv Z h0 xc xk .char (4 : Int32) [.int c0, .int c1, .int c2, .int c3] (.int 0)) : own_Met l Z (⟨"com/example/circa_once/circaonce/model/StorableTextRequirePinLaw", "fits", "([CI)Z"⟩ : MethodName) method_5_code 4 (some .boolean) ws ({ frames := 1, cells := 0, slots := 0, locals := 12 } : Room) #[.ref xc, .int 1] h0 (Q_own_fit4_1 Z xc xk c0 c1 c2 c3 h0 n0) := by
  refine own_mk (plainFor_of_name own_pn_com_example_circa_once_circaonce_model_StorableTextRequirePinLaw) O0 ?_
  intro p e s m below meth c s₁ hx hby hml hZ hown hnm hlk hret X0 e0 N0 z0 z1
  refine own_cast (own_ef_own_fit4_1 m xc) ?_
  show own_Goes p e below (s₁.setTop (mkF m 0 #[vR xc, vI 1, uS, uS] [])) _
  have ltP0 : @LT.lt Nat _ xc h0.size := P0.lt
  refine q_aloadN X0 hx hby d2_0 rfl rfl ?_
  refine q_len X0 hx hby hZ e0 P0 d2_1 ?_
  refine q_istoreN X0 hx hby d2_2 (l' := #[vR xc, vI 1, vI 4, uS]) rfl ?_
  refine q_iloadN X0 hx hby d2_3 rfl ?_
  refine q_iloadN X0 hx hby d2_4 rfl ?_
  refine q_icmpYes (pc := 5) X0 hx hby d2_5 (pc' := 10) (tlt (show ((1 : Int32) < (4 : Int32)) from by decide)).1 (by decide) (by decide) ?_
  refine q_aloadN X0 hx hby d2_10 rfl rfl ?_
  refine q_iloadN X0 hx hby d2_11 rfl ?_
  refine q_caload X0 hx hby hZ e0 P0 d2_12 (.int c1) ?_
  refine q_istoreN X0 hx hby d2_13 (l' := #[vR xc, vI 1, vI 4, vI c1]) rfl ?_
  refine q_iloadN X0 hx hby d2_14 rfl ?_
  by_cases hc3 : c1 = (0 : Int32)
  · refine q_ifNo X0 hx hby d2_15 ((if0 _ _).trans (teq hc3).2) ?_
    refine q_iconst X0 hx hby d2_18 ?_
    refine r_Z X0 hx hby hret hlk d2_19 e0 ?_
    exact ⟨N0, rfl, (0 : Int32), rfl, (Or.inr rfl)⟩
  · refine q_ifYes (pc := 15) X0 hx hby d2_15 (pc' := 20) ((if0 _ _).trans (feq hc3).2) (by decide) (by decide) ?_
    show own_Goes p e below (s₁.setTop (mkF m 20 #[vR xc, vI 1, vI 4, vI c1] [])) _
    refine q_iloadN X0 hx hby d2_20 rfl ?_
    refine k_S X0 hx hby hZ hown (wh hw 65 rfl) (wh hw 66 rfl) (W := 0) (own_hiC l Z a0 hw [] c1 h0 n0 O0) (wh hw 67 rfl) (wh hw 3 rfl) e0  hml (argsL := [.int c1]) (rest := []) own_pd_15 d2_21 (fun _ T4 L4 X4 hQ4 => ?_)
    obtain ⟨Nc4, e4, rfl⟩ := hQ4
    have N4 := Fr.app N0 Nc4
    by_cases hc5 : (own_hi c1) = (0 : Int32)
    · refine q_ifYes (pc := 24) X4 hx hby d2_24 (pc' := 51) ((if0 _ _).trans (teq hc5).1) (by decide) (by decide) ?_
      refine q_iloadN X4 hx hby d2_51 rfl ?_
      refine k_S X4 hx hby hZ hown (wh hw 69 rfl) (wh hw 70 rfl) (W := 0) (own_loC l Z a0 hw [] c1 h0 n0 O0) (wh hw 71 rfl) (wh hw 3 rfl) e4  hml (argsL := [.int c1]) (rest := []) own_pd_15 d2_52 (fun _ T6 L6 X6 hQ6 => ?_)
      obtain ⟨Nc6, e6, rfl⟩ := hQ6
      have N6 := Fr.app N4 Nc6
      by_cases hc7 : (own_lo c1) = (0 : Int32)
      · refine q_ifYes (pc := 55) X6 hx hby d2_55 (pc' := 79) ((if0 _ _).trans (teq hc7).1) (by decide) (by decide) ?_
        refine q_iconst X6 hx hby d2_79 ?_
        refine r_Z X6 hx hby hret hlk d2_80 e6 ?_
        exact ⟨N6, rfl, (1 : Int32), rfl, (Or.inl ⟨rfl, by have := own_ne0' hc3; have := own_hiF hc5; have := own_loF hc7; omega⟩)⟩
      · refine q_ifNo X6 hx hby d2_55 ((if0 _ _).trans (feq hc7).1) ?_
        refine q_iloadN X6 hx hby d2_58 rfl ?_
        refine q_ifNo X6 hx hby d2_59 ((if0 _ _).trans (tlt (show ((0 : Int32) < (1 : Int32)) from by decide)).2.2.2) ?_
        refine q_aloadN X6 hx hby d2_62 rfl rfl ?_
        refine q_iloadN X6 hx hby d2_63 rfl ?_
        refine q_iconst X6 hx hby d2_64 ?_
        refine q_isub X6 hx hby d2_65 ?_
        show own_Goes p e below (T6.setTop (mkF m 66 #[vR xc, vI 1, vI 4, vI c1] [(.int ((1 : Int32) - (1 : Int32))), .ref xc])) _
        rw [show ((1 : Int32) - (1 : Int32)) = (0 : Int32) from by decide]
        refine q_caload X6 hx hby hZ e6 P0 d2_66 (.int c0) ?_
        refine k_S X6 hx hby hZ hown (wh hw 65 rfl) (wh hw 66 rfl) (W := 0) (own_hiC l Z a0 hw [] c0 h0 n0 O0) (wh hw 67 rfl) (wh hw 3 rfl) e6  hml (argsL := [.int c0]) (rest := []) own_pd_15 d2_67 (fun _ T9 L9 X9 hQ9 => ?_)
        obtain ⟨Nc9, e9, rfl⟩ := hQ9
        have N9 := Fr.app N6 Nc9
        by_cases hc10 : (own_hi c0) = (0 : Int32)
        · refine q_ifYes (pc := 70) X9 hx hby d2_70 (pc' := 77) ((if0 _ _).trans (teq hc10).1) (by decide) (by decide) ?_
          refine q_iconst X9 hx hby d2_77 ?_
          refine r_Z X9 hx hby hret hlk d2_78 e9 ?_
          exact ⟨N9, rfl, (0 : Int32), rfl, (Or.inr rfl)⟩
        · refine q_ifNo X9 hx hby d2_70 ((if0 _ _).trans (feq hc10).1) ?_
          refine q_iconst X9 hx hby d2_73 ?_
          refine q_goto (pc := 74) X9 hx hby d2_74 (pc' := 78) (by decide) (by decide) ?_
          refine r_Z X9 hx hby hret hlk d2_78 e9 ?_
          exact ⟨N9, rfl, (1 : Int32), rfl, (Or.inl ⟨rfl, by have := own_ne0' hc3; have := own_hiF hc5; have := own_loT hc7; have := own_hiT hc10; omega⟩)⟩
    · refine q_ifNo X4 hx hby d2_24 ((if0 _ _).trans (feq hc5).1) ?_
      refine q_iloadN X4 hx hby d2_27 rfl ?_
      refine q_iconst X4 hx hby d2_28 ?_
      refine q_iadd X4 hx hby d2_29 ?_
      show own_Goes p e below (T4.setTop (mkF m 30 #[vR xc, vI 1, vI 4, vI c1] [(.int ((1 : Int32) + (1 : Int32)))])) _
      rw [show ((1 : Int32) + (1 : Int32)) = (2 : Int32) from by decide]
      refine q_iloadN X4 hx hby d2_30 rfl ?_
      refine q_icmpNo X4 hx hby d2_31 (tlt (show ((2 : Int32) < (4 : Int32)) from by decide)).2.1 ?_
      refine q_aloadN X4 hx hby d2_34 rfl rfl ?_
      refine q_iloadN X4 hx hby d2_35 rfl ?_
      refine q_iconst X4 hx hby d2_36 ?_
      refine q_iadd X4 hx hby d2_37 ?_
      show own_Goes p e below (T4.setTop (mkF m 38 #[vR xc, vI 1, vI 4, vI c1] [(.int ((1 : Int32) + (1 : Int32))), .ref xc])) _
      rw [show ((1 : Int32) + (1 : Int32)) = (2 : Int32) from by decide]
      refine q_caload X4 hx hby hZ e4 P0 d2_38 (.int c2) ?_
      refine k_S X4 hx hby hZ hown (wh hw 69 rfl) (wh hw 70 rfl) (W := 0) (own_loC l Z a0 hw [] c2 h0 n0 O0) (wh hw 71 rfl) (wh hw 3 rfl) e4  hml (argsL := [.int c2]) (rest := []) own_pd_15 d2_39 (fun _ T12 L12 X12 hQ12 => ?_)
      obtain ⟨Nc12, e12, rfl⟩ := hQ12
      have N12 := Fr.app N4 Nc12
      by_cases hc13 : (own_lo c2) = (0 : Int32)
      · refine q_ifYes (pc := 42) X12 hx hby d2_42 (pc' := 49) ((if0 _ _).trans (teq hc13).1) (by decide) (by decide) ?_
        refine q_iconst X12 hx hby d2_49 ?_
        refine r_Z X12 hx hby hret hlk d2_50 e12 ?_
        exact ⟨N12, rfl, (0 : Int32), rfl, (Or.inr rfl)⟩
      · refine q_ifNo X12 hx hby d2_42 ((if0 _ _).trans (feq hc13).1) ?_
        refine q_iconst X12 hx hby d2_45 ?_
        refine q_goto (pc := 46) X12 hx hby d2_46 (pc' := 50) (by decide) (by decide) ?_
        refine r_Z X12 hx hby hret hlk d2_50 e12 ?_
        exact ⟨N12, rfl, (1 : Int32), rfl, (Or.inl ⟨rfl, by have := own_ne0' hc3; have := own_hiT hc5; have := own_loT hc13; omega⟩)⟩
theorem own_ef_own_fit4_2 (m : MethodId) (xc : Addr) : entryFrame m #[.ref xc, .int 2] 4 = mkF m 0 #[vR xc, vI 2, uS, uS] [] := by first | (simp [entryFrame, mkF, argsToLocals, Value.category]; done) | rfl
def Q_own_fit4_2 (Z : State) (xc : Addr) (xk : ClassId) (c0 : Int32) (c1 : Int32) (c2 : Int32) (c3 : Int32) (h0 : Heap) (n0 : Nat) (v : Option Value) (h : Heap) (L : List Loc) : Prop := Fr n0 L ∧ h = h0 ∧ ∃ (r : Int32), v = some (.int r) ∧ ((r = (1 : Int32) ∧ (¬ c2.toInt = 0 ∧ ((c2.toInt < 55296 ∨ 56319 < c2.toInt) ∨ (56320 ≤ c3.toInt ∧ c3.toInt ≤ 57343)) ∧ ((c2.toInt < 56320 ∨ 57343 < c2.toInt) ∨ (55296 ≤ c1.toInt ∧ c1.toInt ≤ 56319)))) ∨ r = (0 : Int32))
theorem own_fit4_2 (l : Launch) (Z : State) (a0 : Array Value) (hw : ∀ d ∈ tables_1, d.before a0 Z = true) (ws : List Jvm.Cond) (xc : Addr) (xk : ClassId) (c0 : Int32) (c1 : Int32) (c2 : Int32) (c3 : Int32) (h0 : Heap) (n0 : Nat) (O0 : Old Z n0 h0) (P0 : Arv Z h0 xc xk .char (4 : Int32) [.int c0, .int c1, .int c2, .int c3] (.int 0)) : own_Met l Z (⟨"com/example/circa_once/circaonce/model/StorableTextRequirePinLaw", "fits", "([CI)Z"⟩ : MethodName) method_5_code 4 (some .boolean) ws ({ frames := 1, cells := 0, slots := 0, locals := 12 } : Room) #[.ref xc, .int 2] h0 (Q_own_fit4_2 Z xc xk c0 c1 c2 c3 h0 n0) := by
  refine own_mk (plainFor_of_name own_pn_com_example_circa_once_circaonce_model_StorableTextRequirePinLaw) O0 ?_
  intro p e s m below meth c s₁ hx hby hml hZ hown hnm hlk hret X0 e0 N0 z0 z1
  refine own_cast (own_ef_own_fit4_2 m xc) ?_
  show own_Goes p e below (s₁.setTop (mkF m 0 #[vR xc, vI 2, uS, uS] [])) _
  have ltP0 : @LT.lt Nat _ xc h0.size := P0.lt
  refine q_aloadN X0 hx hby d2_0 rfl rfl ?_
  refine q_len X0 hx hby hZ e0 P0 d2_1 ?_
  refine q_istoreN X0 hx hby d2_2 (l' := #[vR xc, vI 2, vI 4, uS]) rfl ?_
  refine q_iloadN X0 hx hby d2_3 rfl ?_
  refine q_iloadN X0 hx hby d2_4 rfl ?_
  refine q_icmpYes (pc := 5) X0 hx hby d2_5 (pc' := 10) (tlt (show ((2 : Int32) < (4 : Int32)) from by decide)).1 (by decide) (by decide) ?_
  refine q_aloadN X0 hx hby d2_10 rfl rfl ?_
  refine q_iloadN X0 hx hby d2_11 rfl ?_
  refine q_caload X0 hx hby hZ e0 P0 d2_12 (.int c2) ?_
  refine q_istoreN X0 hx hby d2_13 (l' := #[vR xc, vI 2, vI 4, vI c2]) rfl ?_
  refine q_iloadN X0 hx hby d2_14 rfl ?_
  by_cases hc3 : c2 = (0 : Int32)
  · refine q_ifNo X0 hx hby d2_15 ((if0 _ _).trans (teq hc3).2) ?_
    refine q_iconst X0 hx hby d2_18 ?_
    refine r_Z X0 hx hby hret hlk d2_19 e0 ?_
    exact ⟨N0, rfl, (0 : Int32), rfl, (Or.inr rfl)⟩
  · refine q_ifYes (pc := 15) X0 hx hby d2_15 (pc' := 20) ((if0 _ _).trans (feq hc3).2) (by decide) (by decide) ?_
    show own_Goes p e below (s₁.setTop (mkF m 20 #[vR xc, vI 2, vI 4, vI c2] [])) _
    refine q_iloadN X0 hx hby d2_20 rfl ?_
    refine k_S X0 hx hby hZ hown (wh hw 65 rfl) (wh hw 66 rfl) (W := 0) (own_hiC l Z a0 hw [] c2 h0 n0 O0) (wh hw 67 rfl) (wh hw 3 rfl) e0  hml (argsL := [.int c2]) (rest := []) own_pd_15 d2_21 (fun _ T4 L4 X4 hQ4 => ?_)
    obtain ⟨Nc4, e4, rfl⟩ := hQ4
    have N4 := Fr.app N0 Nc4
    by_cases hc5 : (own_hi c2) = (0 : Int32)
    · refine q_ifYes (pc := 24) X4 hx hby d2_24 (pc' := 51) ((if0 _ _).trans (teq hc5).1) (by decide) (by decide) ?_
      refine q_iloadN X4 hx hby d2_51 rfl ?_
      refine k_S X4 hx hby hZ hown (wh hw 69 rfl) (wh hw 70 rfl) (W := 0) (own_loC l Z a0 hw [] c2 h0 n0 O0) (wh hw 71 rfl) (wh hw 3 rfl) e4  hml (argsL := [.int c2]) (rest := []) own_pd_15 d2_52 (fun _ T6 L6 X6 hQ6 => ?_)
      obtain ⟨Nc6, e6, rfl⟩ := hQ6
      have N6 := Fr.app N4 Nc6
      by_cases hc7 : (own_lo c2) = (0 : Int32)
      · refine q_ifYes (pc := 55) X6 hx hby d2_55 (pc' := 79) ((if0 _ _).trans (teq hc7).1) (by decide) (by decide) ?_
        refine q_iconst X6 hx hby d2_79 ?_
        refine r_Z X6 hx hby hret hlk d2_80 e6 ?_
        exact ⟨N6, rfl, (1 : Int32), rfl, (Or.inl ⟨rfl, by have := own_ne0' hc3; have := own_hiF hc5; have := own_loF hc7; omega⟩)⟩
      · refine q_ifNo X6 hx hby d2_55 ((if0 _ _).trans (feq hc7).1) ?_
        refine q_iloadN X6 hx hby d2_58 rfl ?_
        refine q_ifNo X6 hx hby d2_59 ((if0 _ _).trans (tlt (show ((0 : Int32) < (2 : Int32)) from by decide)).2.2.2) ?_
        refine q_aloadN X6 hx hby d2_62 rfl rfl ?_
        refine q_iloadN X6 hx hby d2_63 rfl ?_
        refine q_iconst X6 hx hby d2_64 ?_
        refine q_isub X6 hx hby d2_65 ?_
        show own_Goes p e below (T6.setTop (mkF m 66 #[vR xc, vI 2, vI 4, vI c2] [(.int ((2 : Int32) - (1 : Int32))), .ref xc])) _
        rw [show ((2 : Int32) - (1 : Int32)) = (1 : Int32) from by decide]
        refine q_caload X6 hx hby hZ e6 P0 d2_66 (.int c1) ?_
        refine k_S X6 hx hby hZ hown (wh hw 65 rfl) (wh hw 66 rfl) (W := 0) (own_hiC l Z a0 hw [] c1 h0 n0 O0) (wh hw 67 rfl) (wh hw 3 rfl) e6  hml (argsL := [.int c1]) (rest := []) own_pd_15 d2_67 (fun _ T9 L9 X9 hQ9 => ?_)
        obtain ⟨Nc9, e9, rfl⟩ := hQ9
        have N9 := Fr.app N6 Nc9
        by_cases hc10 : (own_hi c1) = (0 : Int32)
        · refine q_ifYes (pc := 70) X9 hx hby d2_70 (pc' := 77) ((if0 _ _).trans (teq hc10).1) (by decide) (by decide) ?_
          refine q_iconst X9 hx hby d2_77 ?_
          refine r_Z X9 hx hby hret hlk d2_78 e9 ?_
          exact ⟨N9, rfl, (0 : Int32), rfl, (Or.inr rfl)⟩
        · refine q_ifNo X9 hx hby d2_70 ((if0 _ _).trans (feq hc10).1) ?_
          refine q_iconst X9 hx hby d2_73 ?_
          refine q_goto (pc := 74) X9 hx hby d2_74 (pc' := 78) (by decide) (by decide) ?_
          refine r_Z X9 hx hby hret hlk d2_78 e9 ?_
          exact ⟨N9, rfl, (1 : Int32), rfl, (Or.inl ⟨rfl, by have := own_ne0' hc3; have := own_hiF hc5; have := own_loT hc7; have := own_hiT hc10; omega⟩)⟩
    · refine q_ifNo X4 hx hby d2_24 ((if0 _ _).trans (feq hc5).1) ?_
      refine q_iloadN X4 hx hby d2_27 rfl ?_
      refine q_iconst X4 hx hby d2_28 ?_
      refine q_iadd X4 hx hby d2_29 ?_
      show own_Goes p e below (T4.setTop (mkF m 30 #[vR xc, vI 2, vI 4, vI c2] [(.int ((2 : Int32) + (1 : Int32)))])) _
      rw [show ((2 : Int32) + (1 : Int32)) = (3 : Int32) from by decide]
      refine q_iloadN X4 hx hby d2_30 rfl ?_
      refine q_icmpNo X4 hx hby d2_31 (tlt (show ((3 : Int32) < (4 : Int32)) from by decide)).2.1 ?_
      refine q_aloadN X4 hx hby d2_34 rfl rfl ?_
      refine q_iloadN X4 hx hby d2_35 rfl ?_
      refine q_iconst X4 hx hby d2_36 ?_
      refine q_iadd X4 hx hby d2_37 ?_
      show own_Goes p e below (T4.setTop (mkF m 38 #[vR xc, vI 2, vI 4, vI c2] [(.int ((2 : Int32) + (1 : Int32))), .ref xc])) _
      rw [show ((2 : Int32) + (1 : Int32)) = (3 : Int32) from by decide]
      refine q_caload X4 hx hby hZ e4 P0 d2_38 (.int c3) ?_
      refine k_S X4 hx hby hZ hown (wh hw 69 rfl) (wh hw 70 rfl) (W := 0) (own_loC l Z a0 hw [] c3 h0 n0 O0) (wh hw 71 rfl) (wh hw 3 rfl) e4  hml (argsL := [.int c3]) (rest := []) own_pd_15 d2_39 (fun _ T12 L12 X12 hQ12 => ?_)
      obtain ⟨Nc12, e12, rfl⟩ := hQ12
      have N12 := Fr.app N4 Nc12
      by_cases hc13 : (own_lo c3) = (0 : Int32)
      · refine q_ifYes (pc := 42) X12 hx hby d2_42 (pc' := 49) ((if0 _ _).trans (teq hc13).1) (by decide) (by decide) ?_
        refine q_iconst X12 hx hby d2_49 ?_
        refine r_Z X12 hx hby hret hlk d2_50 e12 ?_
        exact ⟨N12, rfl, (0 : Int32), rfl, (Or.inr rfl)⟩
      · refine q_ifNo X12 hx hby d2_42 ((if0 _ _).trans (feq hc13).1) ?_
        refine q_iconst X12 hx hby d2_45 ?_
        refine q_goto (pc := 46) X12 hx hby d2_46 (pc' := 50) (by decide) (by decide) ?_
        refine r_Z X12 hx hby hret hlk d2_50 e12 ?_
        exact ⟨N12, rfl, (1 : Int32), rfl, (Or.inl ⟨rfl, by have := own_ne0' hc3; have := own_hiT hc5; have := own_loT hc13; omega⟩)⟩
theorem own_ef_own_fit4_3 (m : MethodId) (xc : Addr) : entryFrame m #[.ref xc, .int 3] 4 = mkF m 0 #[vR xc, vI 3, uS, uS] [] := by first | (simp [entryFrame, mkF, argsToLocals, Value.category]; done) | rfl
def Q_own_fit4_3 (Z : State) (xc : Addr) (xk : ClassId) (c0 : Int32) (c1 : Int32) (c2 : Int32) (c3 : Int32) (h0 : Heap) (n0 : Nat) (v : Option Value) (h : Heap) (L : List Loc) : Prop := Fr n0 L ∧ h = h0 ∧ ∃ (r : Int32), v = some (.int r) ∧ ((r = (1 : Int32) ∧ (¬ c3.toInt = 0 ∧ ((c3.toInt < 55296 ∨ 56319 < c3.toInt)) ∧ ((c3.toInt < 56320 ∨ 57343 < c3.toInt) ∨ (55296 ≤ c2.toInt ∧ c2.toInt ≤ 56319)))) ∨ r = (0 : Int32))
theorem own_fit4_3 (l : Launch) (Z : State) (a0 : Array Value) (hw : ∀ d ∈ tables_1, d.before a0 Z = true) (ws : List Jvm.Cond) (xc : Addr) (xk : ClassId) (c0 : Int32) (c1 : Int32) (c2 : Int32) (c3 : Int32) (h0 : Heap) (n0 : Nat) (O0 : Old Z n0 h0) (P0 : Arv Z h0 xc xk .char (4 : Int32) [.int c0, .int c1, .int c2, .int c3] (.int 0)) : own_Met l Z (⟨"com/example/circa_once/circaonce/model/StorableTextRequirePinLaw", "fits", "([CI)Z"⟩ : MethodName) method_5_code 4 (some .boolean) ws ({ frames := 1, cells := 0, slots := 0, locals := 12 } : Room) #[.ref xc, .int 3] h0 (Q_own_fit4_3 Z xc xk c0 c1 c2 c3 h0 n0) := by
  refine own_mk (plainFor_of_name own_pn_com_example_circa_once_circaonce_model_StorableTextRequirePinLaw) O0 ?_
  intro p e s m below meth c s₁ hx hby hml hZ hown hnm hlk hret X0 e0 N0 z0 z1
  refine own_cast (own_ef_own_fit4_3 m xc) ?_
  show own_Goes p e below (s₁.setTop (mkF m 0 #[vR xc, vI 3, uS, uS] [])) _
  have ltP0 : @LT.lt Nat _ xc h0.size := P0.lt
  refine q_aloadN X0 hx hby d2_0 rfl rfl ?_
  refine q_len X0 hx hby hZ e0 P0 d2_1 ?_
  refine q_istoreN X0 hx hby d2_2 (l' := #[vR xc, vI 3, vI 4, uS]) rfl ?_
  refine q_iloadN X0 hx hby d2_3 rfl ?_
  refine q_iloadN X0 hx hby d2_4 rfl ?_
  refine q_icmpYes (pc := 5) X0 hx hby d2_5 (pc' := 10) (tlt (show ((3 : Int32) < (4 : Int32)) from by decide)).1 (by decide) (by decide) ?_
  refine q_aloadN X0 hx hby d2_10 rfl rfl ?_
  refine q_iloadN X0 hx hby d2_11 rfl ?_
  refine q_caload X0 hx hby hZ e0 P0 d2_12 (.int c3) ?_
  refine q_istoreN X0 hx hby d2_13 (l' := #[vR xc, vI 3, vI 4, vI c3]) rfl ?_
  refine q_iloadN X0 hx hby d2_14 rfl ?_
  by_cases hc3 : c3 = (0 : Int32)
  · refine q_ifNo X0 hx hby d2_15 ((if0 _ _).trans (teq hc3).2) ?_
    refine q_iconst X0 hx hby d2_18 ?_
    refine r_Z X0 hx hby hret hlk d2_19 e0 ?_
    exact ⟨N0, rfl, (0 : Int32), rfl, (Or.inr rfl)⟩
  · refine q_ifYes (pc := 15) X0 hx hby d2_15 (pc' := 20) ((if0 _ _).trans (feq hc3).2) (by decide) (by decide) ?_
    show own_Goes p e below (s₁.setTop (mkF m 20 #[vR xc, vI 3, vI 4, vI c3] [])) _
    refine q_iloadN X0 hx hby d2_20 rfl ?_
    refine k_S X0 hx hby hZ hown (wh hw 65 rfl) (wh hw 66 rfl) (W := 0) (own_hiC l Z a0 hw [] c3 h0 n0 O0) (wh hw 67 rfl) (wh hw 3 rfl) e0  hml (argsL := [.int c3]) (rest := []) own_pd_15 d2_21 (fun _ T4 L4 X4 hQ4 => ?_)
    obtain ⟨Nc4, e4, rfl⟩ := hQ4
    have N4 := Fr.app N0 Nc4
    by_cases hc5 : (own_hi c3) = (0 : Int32)
    · refine q_ifYes (pc := 24) X4 hx hby d2_24 (pc' := 51) ((if0 _ _).trans (teq hc5).1) (by decide) (by decide) ?_
      refine q_iloadN X4 hx hby d2_51 rfl ?_
      refine k_S X4 hx hby hZ hown (wh hw 69 rfl) (wh hw 70 rfl) (W := 0) (own_loC l Z a0 hw [] c3 h0 n0 O0) (wh hw 71 rfl) (wh hw 3 rfl) e4  hml (argsL := [.int c3]) (rest := []) own_pd_15 d2_52 (fun _ T6 L6 X6 hQ6 => ?_)
      obtain ⟨Nc6, e6, rfl⟩ := hQ6
      have N6 := Fr.app N4 Nc6
      by_cases hc7 : (own_lo c3) = (0 : Int32)
      · refine q_ifYes (pc := 55) X6 hx hby d2_55 (pc' := 79) ((if0 _ _).trans (teq hc7).1) (by decide) (by decide) ?_
        refine q_iconst X6 hx hby d2_79 ?_
        refine r_Z X6 hx hby hret hlk d2_80 e6 ?_
        exact ⟨N6, rfl, (1 : Int32), rfl, (Or.inl ⟨rfl, by have := own_ne0' hc3; have := own_hiF hc5; have := own_loF hc7; omega⟩)⟩
      · refine q_ifNo X6 hx hby d2_55 ((if0 _ _).trans (feq hc7).1) ?_
        refine q_iloadN X6 hx hby d2_58 rfl ?_
        refine q_ifNo X6 hx hby d2_59 ((if0 _ _).trans (tlt (show ((0 : Int32) < (3 : Int32)) from by decide)).2.2.2) ?_
        refine q_aloadN X6 hx hby d2_62 rfl rfl ?_
        refine q_iloadN X6 hx hby d2_63 rfl ?_
        refine q_iconst X6 hx hby d2_64 ?_
        refine q_isub X6 hx hby d2_65 ?_
        show own_Goes p e below (T6.setTop (mkF m 66 #[vR xc, vI 3, vI 4, vI c3] [(.int ((3 : Int32) - (1 : Int32))), .ref xc])) _
        rw [show ((3 : Int32) - (1 : Int32)) = (2 : Int32) from by decide]
        refine q_caload X6 hx hby hZ e6 P0 d2_66 (.int c2) ?_
        refine k_S X6 hx hby hZ hown (wh hw 65 rfl) (wh hw 66 rfl) (W := 0) (own_hiC l Z a0 hw [] c2 h0 n0 O0) (wh hw 67 rfl) (wh hw 3 rfl) e6  hml (argsL := [.int c2]) (rest := []) own_pd_15 d2_67 (fun _ T9 L9 X9 hQ9 => ?_)
        obtain ⟨Nc9, e9, rfl⟩ := hQ9
        have N9 := Fr.app N6 Nc9
        by_cases hc10 : (own_hi c2) = (0 : Int32)
        · refine q_ifYes (pc := 70) X9 hx hby d2_70 (pc' := 77) ((if0 _ _).trans (teq hc10).1) (by decide) (by decide) ?_
          refine q_iconst X9 hx hby d2_77 ?_
          refine r_Z X9 hx hby hret hlk d2_78 e9 ?_
          exact ⟨N9, rfl, (0 : Int32), rfl, (Or.inr rfl)⟩
        · refine q_ifNo X9 hx hby d2_70 ((if0 _ _).trans (feq hc10).1) ?_
          refine q_iconst X9 hx hby d2_73 ?_
          refine q_goto (pc := 74) X9 hx hby d2_74 (pc' := 78) (by decide) (by decide) ?_
          refine r_Z X9 hx hby hret hlk d2_78 e9 ?_
          exact ⟨N9, rfl, (1 : Int32), rfl, (Or.inl ⟨rfl, by have := own_ne0' hc3; have := own_hiF hc5; have := own_loT hc7; have := own_hiT hc10; omega⟩)⟩
    · refine q_ifNo X4 hx hby d2_24 ((if0 _ _).trans (feq hc5).1) ?_
      refine q_iloadN X4 hx hby d2_27 rfl ?_
      refine q_iconst X4 hx hby d2_28 ?_
      refine q_iadd X4 hx hby d2_29 ?_
      show own_Goes p e below (T4.setTop (mkF m 30 #[vR xc, vI 3, vI 4, vI c3] [(.int ((3 : Int32) + (1 : Int32)))])) _
      rw [show ((3 : Int32) + (1 : Int32)) = (4 : Int32) from by decide]
      refine q_iloadN X4 hx hby d2_30 rfl ?_
      refine q_icmpYes (pc := 31) X4 hx hby d2_31 (pc' := 49) (flt (show ¬ ((4 : Int32) < (4 : Int32)) from by decide)).2.1 (by decide) (by decide) ?_
      refine q_iconst X4 hx hby d2_49 ?_
      refine r_Z X4 hx hby hret hlk d2_50 e4 ?_
      exact ⟨N4, rfl, (0 : Int32), rfl, (Or.inr rfl)⟩
theorem own_m255 (x : Int32) : ¬ (255 : Int32) < (x &&& (255 : Int32)) := by
  have q := c_and x 255 (by decide)
  have := own_e255
  rw [Int32.lt_iff_toInt_lt]
  omega
theorem d7_0 : decode B7 0 = .ok (.iload_n 0, 1) := by decide +kernel
theorem d7_1 : decode B7 1 = .ok (.sipush 255, 3) := by decide +kernel
theorem d7_4 : decode B7 4 = .ok (.if_icmp .gt 7, 3) := by decide +kernel
theorem d7_7 : decode B7 7 = .ok (.iconst 1, 1) := by decide +kernel
theorem d7_8 : decode B7 8 = .ok (.goto 4, 3) := by decide +kernel
theorem d7_12 : decode B7 12 = .ok (.ireturn, 1) := by decide +kernel
theorem own_ef_own_canEnc (m : MethodId) (xi : Int32) : entryFrame m #[.int xi] 1 = mkF m 0 #[vI xi] [] := by first | (simp [entryFrame, mkF, argsToLocals, Value.category]; done) | rfl
def Q_own_canEnc (Z : State) (xi : Int32) (h0 : Heap) (n0 : Nat) (v : Option Value) (h : Heap) (L : List Loc) : Prop := Fr n0 L ∧ h = h0 ∧ v = some (.int 1)
theorem own_canEnc (l : Launch) (Z : State) (a0 : Array Value) (hw : ∀ d ∈ tables_1, d.before a0 Z = true) (ws : List Jvm.Cond) (xi : Int32) (h0 : Heap) (n0 : Nat) (O0 : Old Z n0 h0) (P0 : ¬ (255 : Int32) < xi) : own_Met l Z (⟨"java/lang/StringLatin1", "canEncode", "(C)Z"⟩ : MethodName) jdk_43_method_3_code 1 (some .boolean) ws ({ frames := 0, cells := 0, slots := 0, locals := 0 } : Room) #[.int xi] h0 (Q_own_canEnc Z xi h0 n0) := by
  refine own_mk (plainFor_of_name own_pn_java_lang_StringLatin1) O0 ?_
  intro p e s m below meth c s₁ hx hby hml hZ hown hnm hlk hret X0 e0 N0 z0 z1
  refine own_cast (own_ef_own_canEnc m xi) ?_
  show own_Goes p e below (s₁.setTop (mkF m 0 #[vI xi] [])) _
  refine q_iloadN X0 hx hby d7_0 rfl ?_
  refine q_sipush X0 hx hby d7_1 ?_
  refine q_icmpNo X0 hx hby d7_4 (flt (show ¬ ((255 : Int32) < xi) from P0)).2.2.1 ?_
  refine q_iconst X0 hx hby d7_7 ?_
  refine q_goto (pc := 8) X0 hx hby d7_8 (pc' := 12) (by decide) (by decide) ?_
  refine r_Z X0 hx hby hret hlk d7_12 e0 ?_
  exact ⟨N0, rfl, rfl⟩
theorem d8_0 : decode B8 0 = .ok (.iconst 1, 1) := by decide +kernel
theorem d8_1 : decode B8 1 = .ok (.newarray .byte, 2) := by decide +kernel
theorem d8_3 : decode B8 3 = .ok (.dup, 1) := by decide +kernel
theorem d8_4 : decode B8 4 = .ok (.iconst 0, 1) := by decide +kernel
theorem d8_5 : decode B8 5 = .ok (.iload_n 0, 1) := by decide +kernel
theorem d8_6 : decode B8 6 = .ok (.i2b, 1) := by decide +kernel
theorem d8_7 : decode B8 7 = .ok (.bastore, 1) := by decide +kernel
theorem d8_8 : decode B8 8 = .ok (.areturn, 1) := by decide +kernel
theorem own_ef_own_toB (m : MethodId) (xi : Int32) : entryFrame m #[.int xi] 1 = mkF m 0 #[vI xi] [] := by first | (simp [entryFrame, mkF, argsToLocals, Value.category]; done) | rfl
def Q_own_toB (Z : State) (xi : Int32) (h0 : Heap) (n0 : Nat) (v : Option Value) (h : Heap) (L : List Loc) : Prop := Fr n0 L ∧ Keep h0 h [] ∧ ∃ (r : Addr), v = some (.ref r) ∧ h0.size ≤ r
theorem own_toB (l : Launch) (Z : State) (a0 : Array Value) (hw : ∀ d ∈ tables_1, d.before a0 Z = true) (ws : List Jvm.Cond) (xi : Int32) (h0 : Heap) (n0 : Nat) (O0 : Old Z n0 h0) : own_Met l Z (⟨"java/lang/StringLatin1", "toBytes", "(C)[B"⟩ : MethodName) jdk_43_method_46_code 1 (some (.array .byte)) ws ({ frames := 0, cells := 1, slots := 1, locals := 0 } : Room) #[.int xi] h0 (Q_own_toB Z xi h0 n0) := by
  refine own_mk (plainFor_of_name own_pn_java_lang_StringLatin1) O0 ?_
  intro p e s m below meth c s₁ hx hby hml hZ hown hnm hlk hret X0 e0 N0 z0 z1
  have K0 : Keep h0 h0 [] := Keep.refl _ _
  refine own_cast (own_ef_own_toB m xi) ?_
  show own_Goes p e below (s₁.setTop (mkF m 0 #[vI xi] [])) _
  refine q_iconst X0 hx hby d8_0 ?_
  obtain ⟨T1, h1, k1, X1, e1, E1, A1, st1⟩ := newP X0 hx hZ (wh hw 25 rfl) e0 (g := (mkF m 1 #[vI xi] [.int 1])) rfl (hb hby d8_1) rfl (by decide) (cap := 1) (by decide) (by decide) (by decide) (by decide)
  obtain ⟨b1, g1⟩ : ∃ z, z = h0.size := ⟨_, rfl⟩
  rw [← g1] at A1 st1
  refine gg st1 ?_
  have O2 := O0.ext E1
  have sz3 : h0.size ≤ h1.size := E1.1
  have K4 := K0.ext E1
  have l1 : @LT.lt Nat _ b1 h1.size := A1.lt
  have V1 : Arv Z h1 b1 k1 .byte (1 : Int32) [.int 0] (.int 0) := (Arv.new A1 (by decide)).pad (pad_rep [] (.int 0) 1)
  refine q_dup X1 hx hby d8_3 rfl ?_
  refine q_iconst X1 hx hby d8_4 ?_
  refine q_iloadN X1 hx hby d8_5 rfl ?_
  refine gg (fun t k => XS.i2b X1.here hx rfl (hb hby d8_6) rfl k) ?_
  refine q_stB X1 hx hby hZ e1 V1 0 d8_7 (fun T6 h6 X6 e6 W6 V6 => ?_)
  have O7 := O2.wr W6 (show n0 ≤ b1 by omega)
  have sz8 : h6.size = h1.size := Wr.size W6
  have K9 := K4.wr W6 (Or.inr (show h0.size ≤ b1 by omega))
  have N6 := Fr.snoc X6 N0 (show n0 ≤ b1 by omega)
  have V6 : Arv Z h6 b1 k1 .byte (1 : Int32) [(.int ((xi.toInt8.toInt32).toInt8.toInt32))] (.int 0) := V6
  rw [show ((xi.toInt8.toInt32).toInt8.toInt32) = (xi.toInt8.toInt32) from own_i8i8 _] at V6
  refine r_R X6 hx hby hret hlk d8_8 e6 ?_
  exact ⟨N6, K9, b1, rfl, (show h0.size ≤ b1 by first | assumption | omega | decide)⟩
theorem d9_0 : decode B9 0 = .ok (.aload_n 0, 1) := by decide +kernel
theorem d9_1 : decode B9 1 = .ok (.invokespecial 1, 3) := by decide +kernel
theorem d9_4 : decode B9 4 = .ok (.aload_n 0, 1) := by decide +kernel
theorem d9_5 : decode B9 5 = .ok (.aload_n 1, 1) := by decide +kernel
theorem d9_6 : decode B9 6 = .ok (.putfield 9, 3) := by decide +kernel
theorem d9_9 : decode B9 9 = .ok (.aload_n 0, 1) := by decide +kernel
theorem d9_10 : decode B9 10 = .ok (.iload_n 2, 1) := by decide +kernel
theorem d9_11 : decode B9 11 = .ok (.putfield 15, 3) := by decide +kernel
theorem d9_14 : decode B9 14 = .ok (.return_, 1) := by decide +kernel
theorem own_ef_own_strInit (m : MethodId) (xa : Addr) (xb : Addr) : entryFrame m #[.ref xa, .ref xb, .int 0] 3 = mkF m 0 #[vR xa, vR xb, vI 0] [] := by first | (simp [entryFrame, mkF, argsToLocals, Value.category]; done) | rfl
def Q_own_strInit (Z : State) (xa : Addr) (xb : Addr) (h0 : Heap) (n0 : Nat) (v : Option Value) (h : Heap) (L : List Loc) : Prop := Fr n0 L ∧ Keep h0 h [xa] ∧ v = none ∧ Fld Z h xa "java/lang/String" "value" "[B" (.ref xb) ∧ Fld Z h xa "java/lang/String" "coder" "B" (.int 0)
theorem own_strInit (l : Launch) (Z : State) (a0 : Array Value) (hw : ∀ d ∈ tables_1, d.before a0 Z = true) (ws : List Jvm.Cond) (xa : Addr) (xb : Addr) (h0 : Heap) (n0 : Nat) (O0 : Old Z n0 h0) (P0 : Exa Z h0 xa "java/lang/String") (P1 : n0 ≤ xa) (P2 : Fld Z h0 xa "java/lang/String" "value" "[B" .null) (P3 : Fld Z h0 xa "java/lang/String" "coder" "B" (.int 0)) : own_Met l Z (⟨"java/lang/String", "<init>", "([BB)V"⟩ : MethodName) jdk_42_method_151_code 3 none ws ({ frames := 1, cells := 0, slots := 0, locals := 12 } : Room) #[.ref xa, .ref xb, .int 0] h0 (Q_own_strInit Z xa xb h0 n0) := by
  refine own_mk (plainFor_of_name own_pn_java_lang_String) O0 ?_
  intro p e s m below meth c s₁ hx hby hml hZ hown hnm hlk hret X0 e0 N0 z0 z1
  have K0 : Keep h0 h0 [xa] := Keep.refl _ _
  refine own_cast (own_ef_own_strInit m xa xb) ?_
  show own_Goes p e below (s₁.setTop (mkF m 0 #[vR xa, vR xb, vI 0] [])) _
  have ltP0 : @LT.lt Nat _ xa h0.size := P0.lt
  refine q_aloadN X0 hx hby d9_0 rfl rfl ?_
  obtain ⟨T1, X1, e1, st1⟩ := initO X0 hx hZ hown (wh hw 21 rfl) (wh hw 22 rfl) (wh hw 23 rfl) e0 (g := (mkF m 1 #[vR xa, vR xb, vI 0] [.ref xa])) rfl (by rw [hml]; rfl) rfl (hb hby d9_1) (by decide) (W := 0) (by show 2 * 0 + _ ≤ _; exact Nat.le_of_eq rfl) (by decide)
  refine gg st1 ?_
  refine q_aloadN X1 hx hby d9_4 rfl rfl ?_
  refine q_aloadN X1 hx hby d9_5 rfl rfl ?_
  refine qP X1 hx hby hZ hown (host := "") (Or.inl (wh hw 30 rfl)) Via.refl e1 P2 P0 (Or.inr ⟨(wh hw 26 rfl), rfl, hnm⟩) (wh hw 12 rfl) (ty := (.array .byte)) d9_6 (fun T2 h2 X2 e2 W2 => ?_)
  have O3 := O0.wr W2 (show n0 ≤ xa by omega)
  have sz4 : h2.size = h0.size := Wr.size W2
  have K5 := K0.wr W2 (Or.inl (List.mem_of_getElem? (i := 0) rfl))
  have N2 := Fr.snoc X2 N0 (show n0 ≤ xa by omega)
  have Fw2 := P2.same W2
  refine q_aloadN X2 hx hby d9_9 rfl rfl ?_
  refine q_iloadN X2 hx hby d9_10 rfl ?_
  have f6 := (P3.other W2 (Or.inr (slot_ne (Or.inr (wh hw 27 rfl)) (Or.inr (wh hw 26 rfl)) (by decide) (t := .byte) (t' := (.array .byte)) (by decide) (by decide))))
  have f7 := (P0.wr W2)
  obtain ⟨T8, h8, X8, e8, W8, st8⟩ := putFN X2 hx hZ hown (wh hw 31 rfl) Via.refl e2 f6 f7 (Or.inr ⟨(wh hw 27 rfl), rfl, hnm⟩) (wh hw 12 rfl) (ty := .byte) (v' := (.int 0)) (by decide) rfl rfl (g := (mkF m 11 #[vR xa, vR xb, vI 0] [.int 0, .ref xa])) rfl rfl (hb hby d9_11)
  refine gg st8 ?_
  have O9 := O3.wr W8 (show n0 ≤ xa by omega)
  have sz10 : h8.size = h2.size := Wr.size W8
  have K11 := K5.wr W8 (Or.inl (List.mem_of_getElem? (i := 0) rfl))
  have N8 := Fr.snoc X8 N2 (show n0 ≤ xa by omega)
  have Fw8 := f6.same W8
  refine r_V X8 hx hby hret hlk d9_14 e8 ?_
  have f12 := (Fw2.other W8 (Or.inr (slot_ne (Or.inr (wh hw 26 rfl)) (Or.inr (wh hw 27 rfl)) (by decide) (t := (.array .byte)) (t' := .byte) (by decide) (by decide))))
  exact ⟨N8, K11, rfl, f12, Fw8⟩
theorem d6_0 : decode B6 0 = .ok (.getstatic 38, 3) := by decide +kernel
theorem d6_3 : decode B6 3 = .ok (.ifCond .eq 23, 3) := by decide +kernel
theorem d6_6 : decode B6 6 = .ok (.iload_n 0, 1) := by decide +kernel
theorem d6_7 : decode B6 7 = .ok (.invokestatic 1015, 3) := by decide +kernel
theorem d6_10 : decode B6 10 = .ok (.ifCond .eq 16, 3) := by decide +kernel
theorem d6_13 : decode B6 13 = .ok (.new 10, 3) := by decide +kernel
theorem d6_16 : decode B6 16 = .ok (.dup, 1) := by decide +kernel
theorem d6_17 : decode B6 17 = .ok (.iload_n 0, 1) := by decide +kernel
theorem d6_18 : decode B6 18 = .ok (.invokestatic 1018, 3) := by decide +kernel
theorem own_pd_16 : parseMethodDescriptor "(C)[B" = some ⟨[.char], some (.array .byte)⟩ := by decide +kernel
theorem d6_21 : decode B6 21 = .ok (.iconst 0, 1) := by decide +kernel
theorem d6_22 : decode B6 22 = .ok (.invokespecial 209, 3) := by decide +kernel
theorem own_pd_17 : parseMethodDescriptor "([BB)V" = some ⟨[(.array .byte), .byte], none⟩ := by decide +kernel
theorem d6_25 : decode B6 25 = .ok (.areturn, 1) := by decide +kernel
theorem own_ef_own_vOf (m : MethodId) (xi : Int32) : entryFrame m #[.int xi] 1 = mkF m 0 #[vI xi] [] := by first | (simp [entryFrame, mkF, argsToLocals, Value.category]; done) | rfl
def Q_own_vOf (Z : State) (xi : Int32) (gz : Int32) (gfm : Value) (h0 : Heap) (n0 : Nat) (v : Option Value) (h : Heap) (L : List Loc) : Prop := Fr n0 L ∧ Keep h0 h [] ∧ ∃ (r : Addr), v = some (.ref r) ∧ Exa Z h r "java/lang/String" ∧ h0.size ≤ r
theorem own_vOf (l : Launch) (Z : State) (a0 : Array Value) (hw : ∀ d ∈ tables_1, d.before a0 Z = true) (ws : List Jvm.Cond) (xi : Int32) (h0 : Heap) (n0 : Nat) (O0 : Old Z n0 h0) (gz : Int32) (gfm : Value) (G : GG Z gz gfm) (P0 : ¬ (255 : Int32) < xi) : own_Met l Z (⟨"java/lang/String", "valueOf", "(C)Ljava/lang/String;"⟩ : MethodName) jdk_42_method_139_code 1 (some (.object "java/lang/String")) ws ({ frames := 2, cells := 2, slots := 5, locals := 27 } : Room) #[.int xi] h0 (Q_own_vOf Z xi gz gfm h0 n0) := by
  refine own_mk (plainFor_of_name own_pn_java_lang_String) O0 ?_
  intro p e s m below meth c s₁ hx hby hml hZ hown hnm hlk hret X0 e0 N0 z0 z1
  have K0 : Keep h0 h0 [] := Keep.refl _ _
  refine own_cast (own_ef_own_vOf m xi) ?_
  show own_Goes p e below (s₁.setTop (mkF m 0 #[vI xi] [])) _
  obtain ⟨G0, G1, G2, G3, G4, G5, G6⟩ := id G
  have Pc := P0
  have q1 := G0.ext O0.2
  refine qS X0 hx hby hZ hown (host := "") (Or.inl (wh hw 35 rfl)) Via.refl e0 q1 d6_0 (fun T2 X2 e2 => ?_)
  refine q_ifNo X2 hx hby d6_3 ((if0 _ _).trans (feq (show ¬ (gz = (0 : Int32)) from G1)).1) ?_
  refine q_iloadN X2 hx hby d6_6 rfl ?_
  refine k_S X2 hx hby hZ hown (wh hw 36 rfl) (wh hw 37 rfl) (W := 0) (own_canEnc l Z a0 hw [] xi h0 n0 O0 (show ¬ (255 : Int32) < xi by first | assumption | omega | decide)) (wh hw 39 rfl) (wh hw 38 rfl) e2  hml (argsL := [.int xi]) (rest := []) own_pd_15 d6_7 (fun _ T3 L3 X3 hQ3 => ?_)
  obtain ⟨Nc3, e3, rfl⟩ := hQ3
  have N3 := Fr.app N0 Nc3
  refine q_ifNo X3 hx hby d6_10 ((if0 _ _).trans (feq (show ¬ ((1 : Int32) = (0 : Int32)) from by decide)).1) ?_
  obtain ⟨T4, h4, X4, e4, E4, A4, D4, -, st4⟩ := newO X3 hx hZ hown (wh hw 40 rfl) (wh hw 12 rfl) (wh hw 13 rfl) e3 (g := (mkF m 13 #[vI xi] [])) rfl (hb hby d6_13) (by decide) (by decide)
  obtain ⟨b4, g4⟩ : ∃ z, z = h0.size := ⟨_, rfl⟩
  rw [← g4] at A4 D4 st4
  refine gg st4 ?_
  have O5 := O0.ext E4
  have sz6 : h0.size ≤ h4.size := E4.1
  have K7 := K0.ext E4
  have l4 : @LT.lt Nat _ b4 h4.size := A4.lt
  have F4_value : Fld Z h4 b4 "java/lang/String" "value" "[B" .null := D4 (Or.inr (wh hw 26 rfl)) (ty := (.array .byte)) (by decide)
  have F4_coder : Fld Z h4 b4 "java/lang/String" "coder" "B" (.int 0) := D4 (Or.inr (wh hw 27 rfl)) (ty := .byte) (by decide)
  refine q_dup X4 hx hby d6_16 rfl ?_
  refine q_iloadN X4 hx hby d6_17 rfl ?_
  refine k_S X4 hx hby hZ hown (wh hw 41 rfl) (wh hw 42 rfl) (W := 2) (own_toB l Z a0 hw [] xi h4 n0 O5) (wh hw 43 rfl) (wh hw 38 rfl) e4  hml (argsL := [.int xi]) (rest := [.ref b4, .ref b4]) own_pd_16 d6_18 (fun _ T8 L8 X8 hQ8 => ?_)
  obtain ⟨h8, e8⟩ : ∃ z, T8.heap = z := ⟨_, rfl⟩
  rw [e8] at hQ8
  obtain ⟨Nc8, Kc8, r_8, rfl, c8_0⟩ := hQ8
  have N8 := Fr.app N3 Nc8
  have O9 := O5.keep Kc8 all0
  have sz10 : h4.size ≤ h8.size := Kc8.1
  have K11 := Keep.trans K7 Kc8 all0
  refine q_iconst X8 hx hby d6_21 ?_
  have f12 := (A4.keep Kc8)
  have f13 := (F4_value.keep Kc8 nin0)
  have f14 := (F4_coder.keep Kc8 nin0)
  refine k_N X8 hx hby hZ hown (wh hw 44 rfl) (wh hw 45 rfl) (W := 1) (own_strInit l Z a0 hw [] b4 r_8 h8 n0 O9 f12 (show n0 ≤ b4 by first | assumption | omega | decide) f13 f14) (wh hw 46 rfl) (wh hw 13 rfl) e8  hml (argsL := [.ref r_8, .int 0]) (rest := [.ref b4]) own_pd_17 d6_22 (fun _ T15 L15 X15 hQ15 => ?_)
  obtain ⟨h15, e15⟩ : ∃ z, T15.heap = z := ⟨_, rfl⟩
  rw [e15] at hQ15
  obtain ⟨Nc15, Kc15, rfl, c15_0, c15_1⟩ := hQ15
  have N15 := Fr.app N8 Nc15
  have O16 := O9.keep Kc15 (allS (show n0 ≤ b4 by omega) all0)
  have sz17 : h8.size ≤ h15.size := Kc15.1
  have K18 := Keep.trans K11 Kc15 (allS (Or.inr (show h0.size ≤ b4 by omega)) all0)
  refine r_R X15 hx hby hret hlk d6_25 e15 ?_
  have f19 := (f12.keep Kc15)
  exact ⟨N15, K18, b4, rfl, f19, (show h0.size ≤ b4 by first | assumption | omega | decide)⟩
theorem d11_0 : decode B11 0 = .ok (.aload_n 0, 1) := by decide +kernel
theorem d11_1 : decode B11 1 = .ok (.ifnonnull 12, 3) := by decide +kernel
theorem d11_13 : decode B11 13 = .ok (.aload_n 0, 1) := by decide +kernel
theorem d11_14 : decode B11 14 = .ok (.areturn, 1) := by decide +kernel
theorem own_pn_java_util_Objects : plainName "java/util/Objects" = true := by first | (simp [plainName, overriddenIn]; done) | decide +kernel
theorem own_ef_own_rnn2 (m : MethodId) (xa : Addr) (xb : Addr) : entryFrame m #[.ref xa, .ref xb] 2 = mkF m 0 #[vR xa, vR xb] [] := by first | (simp [entryFrame, mkF, argsToLocals, Value.category]; done) | rfl
def Q_own_rnn2 (Z : State) (xa : Addr) (xb : Addr) (h0 : Heap) (n0 : Nat) (v : Option Value) (h : Heap) (L : List Loc) : Prop := Fr n0 L ∧ h = h0 ∧ v = some (.ref xa)
theorem own_rnn2 (l : Launch) (Z : State) (a0 : Array Value) (hw : ∀ d ∈ tables_1, d.before a0 Z = true) (ws : List Jvm.Cond) (xa : Addr) (xb : Addr) (h0 : Heap) (n0 : Nat) (O0 : Old Z n0 h0) : own_Met l Z (⟨"java/util/Objects", "requireNonNull", "(Ljava/lang/Object;Ljava/lang/String;)Ljava/lang/Object;"⟩ : MethodName) jdk_31_method_11_code 2 (some (.object "java/lang/Object")) ws ({ frames := 0, cells := 0, slots := 0, locals := 0 } : Room) #[.ref xa, .ref xb] h0 (Q_own_rnn2 Z xa xb h0 n0) := by
  refine own_mk (plainFor_of_name own_pn_java_util_Objects) O0 ?_
  intro p e s m below meth c s₁ hx hby hml hZ hown hnm hlk hret X0 e0 N0 z0 z1
  refine own_cast (own_ef_own_rnn2 m xa xb) ?_
  show own_Goes p e below (s₁.setTop (mkF m 0 #[vR xa, vR xb] [])) _
  refine q_aloadN X0 hx hby d11_0 rfl rfl ?_
  refine gg (fun t k => XS.ifnonnullYes X0.here hx rfl (pc0 := 1) (pc' := 13) rfl (hb hby d11_1) rfl (by decide) (by decide) k) ?_
  refine q_aloadN X0 hx hby d11_13 rfl rfl ?_
  refine r_R X0 hx hby hret hlk d11_14 e0 ?_
  exact ⟨N0, rfl, rfl⟩
theorem d10_0 : decode B10 0 = .ok (.aload_n 0, 1) := by decide +kernel
theorem d10_1 : decode B10 1 = .ok (.aload_n 1, 1) := by decide +kernel
theorem d10_2 : decode B10 2 = .ok (.invokestatic 7, 3) := by decide +kernel
theorem own_pd_18 : parseMethodDescriptor "(Ljava/lang/Object;Ljava/lang/String;)Ljava/lang/Object;" = some ⟨[(.object "java/lang/Object"), (.object "java/lang/String")], some (.object "java/lang/Object")⟩ := by decide +kernel
theorem d10_5 : decode B10 5 = .ok (.pop, 1) := by decide +kernel
theorem d10_6 : decode B10 6 = .ok (.aload_n 0, 1) := by decide +kernel
theorem d10_7 : decode B10 7 = .ok (.invokevirtual 13, 3) := by decide +kernel
theorem own_pd_19 : parseMethodDescriptor "()I" = some ⟨[], some .int⟩ := by decide +kernel
theorem d10_10 : decode B10 10 = .ok (.istore_n 2, 1) := by decide +kernel
theorem d10_11 : decode B10 11 = .ok (.iconst 0, 1) := by decide +kernel
theorem d10_12 : decode B10 12 = .ok (.istore_n 3, 1) := by decide +kernel
theorem d10_13 : decode B10 13 = .ok (.iload_n 3, 1) := by decide +kernel
theorem d10_14 : decode B10 14 = .ok (.iload_n 2, 1) := by decide +kernel
theorem d10_15 : decode B10 15 = .ok (.if_icmp .ge 100, 3) := by decide +kernel
theorem d10_115 : decode B10 115 = .ok (.aload_n 0, 1) := by decide +kernel
theorem d10_116 : decode B10 116 = .ok (.areturn, 1) := by decide +kernel
theorem own_pn_com_example_circa_once_circaonce_model_StorableText : plainName "com/example/circa_once/circaonce/model/StorableText" = true := by first | (simp [plainName, overriddenIn]; done) | decide +kernel
theorem own_ef_own_rq0 (m : MethodId) (xa : Addr) (xw : Addr) : entryFrame m #[.ref xa, .ref xw] 6 = mkF m 0 #[vR xa, vR xw, uS, uS, uS, uS] [] := by first | (simp [entryFrame, mkF, argsToLocals, Value.category]; done) | rfl
def Q_own_rq0 (Z : State) (xa : Addr) (xt : Addr) (xw : Addr) (gz : Int32) (gfm : Value) (h0 : Heap) (n0 : Nat) (v : Option Value) (h : Heap) (L : List Loc) : Prop := Fr n0 L ∧ h = h0 ∧ v = some (.ref xa)
theorem own_rq0 (l : Launch) (Z : State) (a0 : Array Value) (hw : ∀ d ∈ tables_1, d.before a0 Z = true) (ws : List Jvm.Cond) (xa : Addr) (xt : Addr) (xw : Addr) (h0 : Heap) (n0 : Nat) (O0 : Old Z n0 h0) (gz : Int32) (gfm : Value) (G : GG Z gz gfm) (P0 : own_Str Z h0 xa xt ([] : List Int32)) : own_Met l Z (⟨"com/example/circa_once/circaonce/model/StorableText", "require", "(Ljava/lang/String;Ljava/lang/String;)Ljava/lang/String;"⟩ : MethodName) prog_15_method_2_code 6 (some (.object "java/lang/String")) ws ({ frames := 2, cells := 0, slots := 0, locals := 25 } : Room) #[.ref xa, .ref xw] h0 (Q_own_rq0 Z xa xt xw gz gfm h0 n0) := by
  refine own_mk (plainFor_of_name own_pn_com_example_circa_once_circaonce_model_StorableText) O0 ?_
  intro p e s m below meth c s₁ hx hby hml hZ hown hnm hlk hret X0 e0 N0 z0 z1
  refine own_cast (own_ef_own_rq0 m xa xw) ?_
  show own_Goes p e below (s₁.setTop (mkF m 0 #[vR xa, vR xw, uS, uS, uS, uS] [])) _
  obtain ⟨G0, G1, G2, G3, G4, G5, G6⟩ := id G
  have ltP0 : @LT.lt Nat _ xa h0.size := P0.1.lt
  have luP0 : @LT.lt Nat _ xt h0.size := P0.lt2
  refine q_aloadN X0 hx hby d10_0 rfl rfl ?_
  refine q_aloadN X0 hx hby d10_1 rfl rfl ?_
  refine k_S X0 hx hby hZ hown (wh hw 51 rfl) (wh hw 52 rfl) (W := 0) (own_rnn2 l Z a0 hw [] xa xw h0 n0 O0) (wh hw 54 rfl) (wh hw 53 rfl) e0  hml (argsL := [.ref xa, .ref xw]) (rest := []) own_pd_18 d10_2 (fun _ T1 L1 X1 hQ1 => ?_)
  obtain ⟨Nc1, e1, rfl⟩ := hQ1
  have N1 := Fr.app N0 Nc1
  refine gg (fun t k => XS.pop X1.here hx rfl (hb hby d10_5) rfl rfl k) ?_
  refine q_aloadN X1 hx hby d10_6 rfl rfl ?_
  refine k_V X1 hx hby hZ hown (wh hw 55 rfl) (wh hw 56 rfl) (wh hw 58 rfl) (wh hw 57 rfl) (W := 0) (own_len0 l Z a0 hw [] xa xt h0 n0 O0 gz gfm G P0) (wh hw 59 rfl) (wh hw 13 rfl) e1 P0.1  hml (argsL := []) (rest := []) own_pd_19 d10_7 (fun _ T2 L2 X2 hQ2 => ?_)
  obtain ⟨Nc2, e2, rfl⟩ := hQ2
  have N2 := Fr.app N1 Nc2
  refine q_istoreN X2 hx hby d10_10 (l' := #[vR xa, vR xw, vI 0, uS, uS, uS]) rfl ?_
  refine q_iconst X2 hx hby d10_11 ?_
  refine q_istoreN X2 hx hby d10_12 (l' := #[vR xa, vR xw, vI 0, vI 0, uS, uS]) rfl ?_
  refine q_iloadN X2 hx hby d10_13 rfl ?_
  refine q_iloadN X2 hx hby d10_14 rfl ?_
  refine q_icmpYes (pc := 15) X2 hx hby d10_15 (pc' := 115) (flt (show ¬ ((0 : Int32) < (0 : Int32)) from by decide)).2.1 (by decide) (by decide) ?_
  refine q_aloadN X2 hx hby d10_115 rfl rfl ?_
  refine r_R X2 hx hby hret hlk d10_116 e2 ?_
  exact ⟨N2, rfl, rfl⟩
theorem d10_18 : decode B10 18 = .ok (.aload_n 0, 1) := by decide +kernel
theorem d10_19 : decode B10 19 = .ok (.iload_n 3, 1) := by decide +kernel
theorem d10_20 : decode B10 20 = .ok (.invokevirtual 19, 3) := by decide +kernel
theorem own_pd_20 : parseMethodDescriptor "(I)C" = some ⟨[.int], some .char⟩ := by decide +kernel
theorem d10_23 : decode B10 23 = .ok (.istore 4, 2) := by decide +kernel
theorem d10_25 : decode B10 25 = .ok (.iload 4, 2) := by decide +kernel
theorem d10_27 : decode B10 27 = .ok (.ifCond .ne 17, 3) := by decide +kernel
theorem d10_44 : decode B10 44 = .ok (.iload 4, 2) := by decide +kernel
theorem d10_46 : decode B10 46 = .ok (.invokestatic 32, 3) := by decide +kernel
theorem d10_49 : decode B10 49 = .ok (.ifCond .eq 60, 3) := by decide +kernel
theorem d10_109 : decode B10 109 = .ok (.iinc 3 1, 3) := by decide +kernel
theorem d10_112 : decode B10 112 = .ok (.goto (-99), 3) := by decide +kernel
theorem own_ef_own_rq1 (m : MethodId) (xa : Addr) (xw : Addr) : entryFrame m #[.ref xa, .ref xw] 6 = mkF m 0 #[vR xa, vR xw, uS, uS, uS, uS] [] := by first | (simp [entryFrame, mkF, argsToLocals, Value.category]; done) | rfl
def Q_own_rq1 (Z : State) (xa : Addr) (xt : Addr) (xw : Addr) (c0 : Int32) (gz : Int32) (gfm : Value) (h0 : Heap) (n0 : Nat) (v : Option Value) (h : Heap) (L : List Loc) : Prop := Fr n0 L ∧ h = h0 ∧ v = some (.ref xa)
theorem own_rq1 (l : Launch) (Z : State) (a0 : Array Value) (hw : ∀ d ∈ tables_1, d.before a0 Z = true) (ws : List Jvm.Cond) (xa : Addr) (xt : Addr) (xw : Addr) (c0 : Int32) (h0 : Heap) (n0 : Nat) (O0 : Old Z n0 h0) (gz : Int32) (gfm : Value) (G : GG Z gz gfm) (P0 : own_Str Z h0 xa xt ([c0] : List Int32)) (P1 : (¬ c0.toInt = 0 ∧ ((c0.toInt < 55296 ∨ 56319 < c0.toInt)) ∧ ((c0.toInt < 56320 ∨ 57343 < c0.toInt)))) : own_Met l Z (⟨"com/example/circa_once/circaonce/model/StorableText", "require", "(Ljava/lang/String;Ljava/lang/String;)Ljava/lang/String;"⟩ : MethodName) prog_15_method_2_code 6 (some (.object "java/lang/String")) ws ({ frames := 5, cells := 0, slots := 0, locals := 66 } : Room) #[.ref xa, .ref xw] h0 (Q_own_rq1 Z xa xt xw c0 gz gfm h0 n0) := by
  refine own_mk (plainFor_of_name own_pn_com_example_circa_once_circaonce_model_StorableText) O0 ?_
  intro p e s m below meth c s₁ hx hby hml hZ hown hnm hlk hret X0 e0 N0 z0 z1
  refine own_cast (own_ef_own_rq1 m xa xw) ?_
  show own_Goes p e below (s₁.setTop (mkF m 0 #[vR xa, vR xw, uS, uS, uS, uS] [])) _
  obtain ⟨G0, G1, G2, G3, G4, G5, G6⟩ := id G
  have ltP0 : @LT.lt Nat _ xa h0.size := P0.1.lt
  have luP0 : @LT.lt Nat _ xt h0.size := P0.lt2
  refine q_aloadN X0 hx hby d10_0 rfl rfl ?_
  refine q_aloadN X0 hx hby d10_1 rfl rfl ?_
  refine k_S X0 hx hby hZ hown (wh hw 51 rfl) (wh hw 52 rfl) (W := 0) (own_rnn2 l Z a0 hw [] xa xw h0 n0 O0) (wh hw 54 rfl) (wh hw 53 rfl) e0  hml (argsL := [.ref xa, .ref xw]) (rest := []) own_pd_18 d10_2 (fun _ T1 L1 X1 hQ1 => ?_)
  obtain ⟨Nc1, e1, rfl⟩ := hQ1
  have N1 := Fr.app N0 Nc1
  refine gg (fun t k => XS.pop X1.here hx rfl (hb hby d10_5) rfl rfl k) ?_
  refine q_aloadN X1 hx hby d10_6 rfl rfl ?_
  refine k_V X1 hx hby hZ hown (wh hw 55 rfl) (wh hw 56 rfl) (wh hw 58 rfl) (wh hw 57 rfl) (W := 0) (own_len1 l Z a0 hw [] xa xt c0 h0 n0 O0 gz gfm G P0) (wh hw 59 rfl) (wh hw 13 rfl) e1 P0.1  hml (argsL := []) (rest := []) own_pd_19 d10_7 (fun _ T2 L2 X2 hQ2 => ?_)
  obtain ⟨Nc2, e2, rfl⟩ := hQ2
  have N2 := Fr.app N1 Nc2
  refine q_istoreN X2 hx hby d10_10 (l' := #[vR xa, vR xw, vI 1, uS, uS, uS]) rfl ?_
  refine q_iconst X2 hx hby d10_11 ?_
  refine q_istoreN X2 hx hby d10_12 (l' := #[vR xa, vR xw, vI 1, vI 0, uS, uS]) rfl ?_
  refine q_iloadN X2 hx hby d10_13 rfl ?_
  refine q_iloadN X2 hx hby d10_14 rfl ?_
  refine q_icmpNo X2 hx hby d10_15 (tlt (show ((0 : Int32) < (1 : Int32)) from by decide)).2.1 ?_
  refine q_aloadN X2 hx hby d10_18 rfl rfl ?_
  refine q_iloadN X2 hx hby d10_19 rfl ?_
  show own_Goes p e below (T2.setTop (mkF m 20 #[vR xa, vR xw, vI 1, vI 0, uS, uS] [.int 0, .ref xa])) _
  refine k_V X2 hx hby hZ hown (wh hw 83 rfl) (wh hw 84 rfl) (wh hw 86 rfl) (wh hw 85 rfl) (W := 0) (own_ca1_0 l Z a0 hw [] xa xt c0 h0 n0 O0 gz gfm G P0) (wh hw 87 rfl) (wh hw 13 rfl) e2 P0.1  hml (argsL := [.int 0]) (rest := []) own_pd_20 d10_20 (fun _ T3 L3 X3 hQ3 => ?_)
  obtain ⟨Nc3, e3, rfl⟩ := hQ3
  have N3 := Fr.app N2 Nc3
  refine q_istore X3 hx hby d10_23 (l' := #[vR xa, vR xw, vI 1, vI 0, vI c0, uS]) rfl ?_
  refine q_iload X3 hx hby d10_25 rfl ?_
  refine q_ifYes (pc := 27) X3 hx hby d10_27 (pc' := 44) ((if0 _ _).trans (feq (show ¬ (c0 = (0 : Int32)) from (own_ne0 (by omega)))).2) (by decide) (by decide) ?_
  refine q_iload X3 hx hby d10_44 rfl ?_
  refine k_S X3 hx hby hZ hown (wh hw 104 rfl) (wh hw 105 rfl) (W := 0) (own_suC l Z a0 hw [] c0 h0 n0 O0) (wh hw 107 rfl) (wh hw 106 rfl) e3  hml (argsL := [.int c0]) (rest := []) own_pd_15 d10_46 (fun _ T4 L4 X4 hQ4 => ?_)
  obtain ⟨Nc4, e4, rfl⟩ := hQ4
  have N4 := Fr.app N3 Nc4
  refine q_ifYes (pc := 49) X4 hx hby d10_49 (pc' := 109) ((if0 _ _).trans (teq (show ((own_su c0) = (0 : Int32)) from (own_suZ (by omega)))).1) (by decide) (by decide) ?_
  refine gg (fun t k => XS.iinc X4.here hx rfl (hb hby d10_109) rfl (l' := #[vR xa, vR xw, vI 1, vI ((0 : Int32) + (1 : Int32)), vI c0, uS]) rfl k) ?_
  show own_Goes p e below (T4.setTop (mkF m 112 #[vR xa, vR xw, vI 1, vI ((0 : Int32) + (1 : Int32)), vI c0, uS] [])) _
  rw [show ((0 : Int32) + (1 : Int32)) = (1 : Int32) from by decide]
  refine q_goto (pc := 112) X4 hx hby d10_112 (pc' := 13) (by decide) (by decide) ?_
  refine q_iloadN X4 hx hby d10_13 rfl ?_
  refine q_iloadN X4 hx hby d10_14 rfl ?_
  refine q_icmpYes (pc := 15) X4 hx hby d10_15 (pc' := 115) (flt (show ¬ ((1 : Int32) < (1 : Int32)) from by decide)).2.1 (by decide) (by decide) ?_
  refine q_aloadN X4 hx hby d10_115 rfl rfl ?_
  refine r_R X4 hx hby hret hlk d10_116 e4 ?_
  exact ⟨N4, rfl, rfl⟩
theorem d10_52 : decode B10 52 = .ok (.iload 4, 2) := by decide +kernel
theorem d10_54 : decode B10 54 = .ok (.invokestatic 38, 3) := by decide +kernel
theorem d10_57 : decode B10 57 = .ok (.ifCond .eq 27, 3) := by decide +kernel
theorem d10_60 : decode B10 60 = .ok (.iload_n 3, 1) := by decide +kernel
theorem d10_61 : decode B10 61 = .ok (.iconst 1, 1) := by decide +kernel
theorem d10_62 : decode B10 62 = .ok (.iadd, 1) := by decide +kernel
theorem d10_63 : decode B10 63 = .ok (.iload_n 2, 1) := by decide +kernel
theorem d10_64 : decode B10 64 = .ok (.if_icmp .ge 20, 3) := by decide +kernel
theorem d10_67 : decode B10 67 = .ok (.aload_n 0, 1) := by decide +kernel
theorem d10_68 : decode B10 68 = .ok (.iload_n 3, 1) := by decide +kernel
theorem d10_69 : decode B10 69 = .ok (.iconst 1, 1) := by decide +kernel
theorem d10_70 : decode B10 70 = .ok (.iadd, 1) := by decide +kernel
theorem d10_71 : decode B10 71 = .ok (.invokevirtual 19, 3) := by decide +kernel
theorem d10_74 : decode B10 74 = .ok (.invokestatic 41, 3) := by decide +kernel
theorem d10_77 : decode B10 77 = .ok (.ifCond .eq 7, 3) := by decide +kernel
theorem d10_80 : decode B10 80 = .ok (.iconst 1, 1) := by decide +kernel
theorem d10_81 : decode B10 81 = .ok (.goto 4, 3) := by decide +kernel
theorem d10_85 : decode B10 85 = .ok (.istore 5, 2) := by decide +kernel
theorem d10_87 : decode B10 87 = .ok (.iload 5, 2) := by decide +kernel
theorem d10_89 : decode B10 89 = .ok (.ifCond .ne 17, 3) := by decide +kernel
theorem d10_106 : decode B10 106 = .ok (.iinc 3 1, 3) := by decide +kernel
theorem own_ef_own_rq2 (m : MethodId) (xa : Addr) (xw : Addr) : entryFrame m #[.ref xa, .ref xw] 6 = mkF m 0 #[vR xa, vR xw, uS, uS, uS, uS] [] := by first | (simp [entryFrame, mkF, argsToLocals, Value.category]; done) | rfl
def Q_own_rq2 (Z : State) (xa : Addr) (xt : Addr) (xw : Addr) (c0 : Int32) (c1 : Int32) (gz : Int32) (gfm : Value) (h0 : Heap) (n0 : Nat) (v : Option Value) (h : Heap) (L : List Loc) : Prop := Fr n0 L ∧ h = h0 ∧ v = some (.ref xa)
theorem own_rq2 (l : Launch) (Z : State) (a0 : Array Value) (hw : ∀ d ∈ tables_1, d.before a0 Z = true) (ws : List Jvm.Cond) (xa : Addr) (xt : Addr) (xw : Addr) (c0 : Int32) (c1 : Int32) (h0 : Heap) (n0 : Nat) (O0 : Old Z n0 h0) (gz : Int32) (gfm : Value) (G : GG Z gz gfm) (P0 : own_Str Z h0 xa xt ([c0, c1] : List Int32)) (P1 : (¬ c0.toInt = 0 ∧ ((c0.toInt < 55296 ∨ 56319 < c0.toInt) ∨ (56320 ≤ c1.toInt ∧ c1.toInt ≤ 57343)) ∧ ((c0.toInt < 56320 ∨ 57343 < c0.toInt)))) (P2 : (¬ c1.toInt = 0 ∧ ((c1.toInt < 55296 ∨ 56319 < c1.toInt)) ∧ ((c1.toInt < 56320 ∨ 57343 < c1.toInt) ∨ (55296 ≤ c0.toInt ∧ c0.toInt ≤ 56319)))) : own_Met l Z (⟨"com/example/circa_once/circaonce/model/StorableText", "require", "(Ljava/lang/String;Ljava/lang/String;)Ljava/lang/String;"⟩ : MethodName) prog_15_method_2_code 6 (some (.object "java/lang/String")) ws ({ frames := 5, cells := 0, slots := 0, locals := 66 } : Room) #[.ref xa, .ref xw] h0 (Q_own_rq2 Z xa xt xw c0 c1 gz gfm h0 n0) := by
  refine own_mk (plainFor_of_name own_pn_com_example_circa_once_circaonce_model_StorableText) O0 ?_
  intro p e s m below meth c s₁ hx hby hml hZ hown hnm hlk hret X0 e0 N0 z0 z1
  refine own_cast (own_ef_own_rq2 m xa xw) ?_
  show own_Goes p e below (s₁.setTop (mkF m 0 #[vR xa, vR xw, uS, uS, uS, uS] [])) _
  obtain ⟨G0, G1, G2, G3, G4, G5, G6⟩ := id G
  have ltP0 : @LT.lt Nat _ xa h0.size := P0.1.lt
  have luP0 : @LT.lt Nat _ xt h0.size := P0.lt2
  refine q_aloadN X0 hx hby d10_0 rfl rfl ?_
  refine q_aloadN X0 hx hby d10_1 rfl rfl ?_
  refine k_S X0 hx hby hZ hown (wh hw 51 rfl) (wh hw 52 rfl) (W := 0) (own_rnn2 l Z a0 hw [] xa xw h0 n0 O0) (wh hw 54 rfl) (wh hw 53 rfl) e0  hml (argsL := [.ref xa, .ref xw]) (rest := []) own_pd_18 d10_2 (fun _ T1 L1 X1 hQ1 => ?_)
  obtain ⟨Nc1, e1, rfl⟩ := hQ1
  have N1 := Fr.app N0 Nc1
  refine gg (fun t k => XS.pop X1.here hx rfl (hb hby d10_5) rfl rfl k) ?_
  refine q_aloadN X1 hx hby d10_6 rfl rfl ?_
  refine k_V X1 hx hby hZ hown (wh hw 55 rfl) (wh hw 56 rfl) (wh hw 58 rfl) (wh hw 57 rfl) (W := 0) (own_len2 l Z a0 hw [] xa xt c0 c1 h0 n0 O0 gz gfm G P0) (wh hw 59 rfl) (wh hw 13 rfl) e1 P0.1  hml (argsL := []) (rest := []) own_pd_19 d10_7 (fun _ T2 L2 X2 hQ2 => ?_)
  obtain ⟨Nc2, e2, rfl⟩ := hQ2
  have N2 := Fr.app N1 Nc2
  refine q_istoreN X2 hx hby d10_10 (l' := #[vR xa, vR xw, vI 2, uS, uS, uS]) rfl ?_
  refine q_iconst X2 hx hby d10_11 ?_
  refine q_istoreN X2 hx hby d10_12 (l' := #[vR xa, vR xw, vI 2, vI 0, uS, uS]) rfl ?_
  refine q_iloadN X2 hx hby d10_13 rfl ?_
  refine q_iloadN X2 hx hby d10_14 rfl ?_
  refine q_icmpNo X2 hx hby d10_15 (tlt (show ((0 : Int32) < (2 : Int32)) from by decide)).2.1 ?_
  refine q_aloadN X2 hx hby d10_18 rfl rfl ?_
  refine q_iloadN X2 hx hby d10_19 rfl ?_
  show own_Goes p e below (T2.setTop (mkF m 20 #[vR xa, vR xw, vI 2, vI 0, uS, uS] [.int 0, .ref xa])) _
  refine k_V X2 hx hby hZ hown (wh hw 83 rfl) (wh hw 84 rfl) (wh hw 86 rfl) (wh hw 85 rfl) (W := 0) (own_ca2_0 l Z a0 hw [] xa xt c0 c1 h0 n0 O0 gz gfm G P0) (wh hw 87 rfl) (wh hw 13 rfl) e2 P0.1  hml (argsL := [.int 0]) (rest := []) own_pd_20 d10_20 (fun _ T3 L3 X3 hQ3 => ?_)
  obtain ⟨Nc3, e3, rfl⟩ := hQ3
  have N3 := Fr.app N2 Nc3
  refine q_istore X3 hx hby d10_23 (l' := #[vR xa, vR xw, vI 2, vI 0, vI c0, uS]) rfl ?_
  refine q_iload X3 hx hby d10_25 rfl ?_
  refine q_ifYes (pc := 27) X3 hx hby d10_27 (pc' := 44) ((if0 _ _).trans (feq (show ¬ (c0 = (0 : Int32)) from (own_ne0 (by omega)))).2) (by decide) (by decide) ?_
  refine q_iload X3 hx hby d10_44 rfl ?_
  refine k_S X3 hx hby hZ hown (wh hw 104 rfl) (wh hw 105 rfl) (W := 0) (own_suC l Z a0 hw [] c0 h0 n0 O0) (wh hw 107 rfl) (wh hw 106 rfl) e3  hml (argsL := [.int c0]) (rest := []) own_pd_15 d10_46 (fun _ T4 L4 X4 hQ4 => ?_)
  obtain ⟨Nc4, e4, rfl⟩ := hQ4
  have N4 := Fr.app N3 Nc4
  by_cases hc5 : (own_su c0) = (0 : Int32)
  · refine q_ifYes (pc := 49) X4 hx hby d10_49 (pc' := 109) ((if0 _ _).trans (teq hc5).1) (by decide) (by decide) ?_
    refine gg (fun t k => XS.iinc X4.here hx rfl (hb hby d10_109) rfl (l' := #[vR xa, vR xw, vI 2, vI ((0 : Int32) + (1 : Int32)), vI c0, uS]) rfl k) ?_
    show own_Goes p e below (T4.setTop (mkF m 112 #[vR xa, vR xw, vI 2, vI ((0 : Int32) + (1 : Int32)), vI c0, uS] [])) _
    rw [show ((0 : Int32) + (1 : Int32)) = (1 : Int32) from by decide]
    refine q_goto (pc := 112) X4 hx hby d10_112 (pc' := 13) (by decide) (by decide) ?_
    refine q_iloadN X4 hx hby d10_13 rfl ?_
    refine q_iloadN X4 hx hby d10_14 rfl ?_
    refine q_icmpNo X4 hx hby d10_15 (tlt (show ((1 : Int32) < (2 : Int32)) from by decide)).2.1 ?_
    refine q_aloadN X4 hx hby d10_18 rfl rfl ?_
    refine q_iloadN X4 hx hby d10_19 rfl ?_
    refine k_V X4 hx hby hZ hown (wh hw 83 rfl) (wh hw 84 rfl) (wh hw 86 rfl) (wh hw 85 rfl) (W := 0) (own_ca2_1 l Z a0 hw [] xa xt c0 c1 h0 n0 O0 gz gfm G P0) (wh hw 87 rfl) (wh hw 13 rfl) e4 P0.1  hml (argsL := [.int 1]) (rest := []) own_pd_20 d10_20 (fun _ T6 L6 X6 hQ6 => ?_)
    obtain ⟨Nc6, e6, rfl⟩ := hQ6
    have N6 := Fr.app N4 Nc6
    refine q_istore X6 hx hby d10_23 (l' := #[vR xa, vR xw, vI 2, vI 1, vI c1, uS]) rfl ?_
    refine q_iload X6 hx hby d10_25 rfl ?_
    refine q_ifYes (pc := 27) X6 hx hby d10_27 (pc' := 44) ((if0 _ _).trans (feq (show ¬ (c1 = (0 : Int32)) from (own_ne0 (by have := own_suF hc5; omega)))).2) (by decide) (by decide) ?_
    refine q_iload X6 hx hby d10_44 rfl ?_
    refine k_S X6 hx hby hZ hown (wh hw 104 rfl) (wh hw 105 rfl) (W := 0) (own_suC l Z a0 hw [] c1 h0 n0 O0) (wh hw 107 rfl) (wh hw 106 rfl) e6  hml (argsL := [.int c1]) (rest := []) own_pd_15 d10_46 (fun _ T7 L7 X7 hQ7 => ?_)
    obtain ⟨Nc7, e7, rfl⟩ := hQ7
    have N7 := Fr.app N6 Nc7
    refine q_ifYes (pc := 49) X7 hx hby d10_49 (pc' := 109) ((if0 _ _).trans (teq (show ((own_su c1) = (0 : Int32)) from (own_suZ (by have := own_suF hc5; omega)))).1) (by decide) (by decide) ?_
    refine gg (fun t k => XS.iinc X7.here hx rfl (hb hby d10_109) rfl (l' := #[vR xa, vR xw, vI 2, vI ((1 : Int32) + (1 : Int32)), vI c1, uS]) rfl k) ?_
    show own_Goes p e below (T7.setTop (mkF m 112 #[vR xa, vR xw, vI 2, vI ((1 : Int32) + (1 : Int32)), vI c1, uS] [])) _
    rw [show ((1 : Int32) + (1 : Int32)) = (2 : Int32) from by decide]
    refine q_goto (pc := 112) X7 hx hby d10_112 (pc' := 13) (by decide) (by decide) ?_
    refine q_iloadN X7 hx hby d10_13 rfl ?_
    refine q_iloadN X7 hx hby d10_14 rfl ?_
    refine q_icmpYes (pc := 15) X7 hx hby d10_15 (pc' := 115) (flt (show ¬ ((2 : Int32) < (2 : Int32)) from by decide)).2.1 (by decide) (by decide) ?_
    refine q_aloadN X7 hx hby d10_115 rfl rfl ?_
    refine r_R X7 hx hby hret hlk d10_116 e7 ?_
    exact ⟨N7, rfl, rfl⟩
  · refine q_ifNo X4 hx hby d10_49 ((if0 _ _).trans (feq hc5).1) ?_
    refine q_iload X4 hx hby d10_52 rfl ?_
    refine k_S X4 hx hby hZ hown (wh hw 141 rfl) (wh hw 142 rfl) (W := 0) (own_hsC l Z a0 hw [] c0 h0 n0 O0) (wh hw 143 rfl) (wh hw 106 rfl) e4  hml (argsL := [.int c0]) (rest := []) own_pd_15 d10_54 (fun _ T8 L8 X8 hQ8 => ?_)
    obtain ⟨Nc8, e8, rfl⟩ := hQ8
    have N8 := Fr.app N4 Nc8
    refine q_ifNo X8 hx hby d10_57 ((if0 _ _).trans (feq (show ¬ ((own_hs c0) = (0 : Int32)) from (own_hsN (by have := own_suT hc5; omega)))).1) ?_
    refine q_iloadN X8 hx hby d10_60 rfl ?_
    refine q_iconst X8 hx hby d10_61 ?_
    refine q_iadd X8 hx hby d10_62 ?_
    show own_Goes p e below (T8.setTop (mkF m 63 #[vR xa, vR xw, vI 2, vI 0, vI c0, uS] [(.int ((0 : Int32) + (1 : Int32)))])) _
    rw [show ((0 : Int32) + (1 : Int32)) = (1 : Int32) from by decide]
    refine q_iloadN X8 hx hby d10_63 rfl ?_
    refine q_icmpNo X8 hx hby d10_64 (tlt (show ((1 : Int32) < (2 : Int32)) from by decide)).2.1 ?_
    refine q_aloadN X8 hx hby d10_67 rfl rfl ?_
    refine q_iloadN X8 hx hby d10_68 rfl ?_
    refine q_iconst X8 hx hby d10_69 ?_
    refine q_iadd X8 hx hby d10_70 ?_
    show own_Goes p e below (T8.setTop (mkF m 71 #[vR xa, vR xw, vI 2, vI 0, vI c0, uS] [(.int ((0 : Int32) + (1 : Int32))), .ref xa])) _
    rw [show ((0 : Int32) + (1 : Int32)) = (1 : Int32) from by decide]
    refine k_V X8 hx hby hZ hown (wh hw 83 rfl) (wh hw 84 rfl) (wh hw 86 rfl) (wh hw 85 rfl) (W := 0) (own_ca2_1 l Z a0 hw [] xa xt c0 c1 h0 n0 O0 gz gfm G P0) (wh hw 87 rfl) (wh hw 13 rfl) e8 P0.1  hml (argsL := [.int 1]) (rest := []) own_pd_20 d10_71 (fun _ T9 L9 X9 hQ9 => ?_)
    obtain ⟨Nc9, e9, rfl⟩ := hQ9
    have N9 := Fr.app N8 Nc9
    refine k_S X9 hx hby hZ hown (wh hw 145 rfl) (wh hw 146 rfl) (W := 0) (own_lsC l Z a0 hw [] c1 h0 n0 O0) (wh hw 147 rfl) (wh hw 106 rfl) e9  hml (argsL := [.int c1]) (rest := []) own_pd_15 d10_74 (fun _ T10 L10 X10 hQ10 => ?_)
    obtain ⟨Nc10, e10, rfl⟩ := hQ10
    have N10 := Fr.app N9 Nc10
    refine q_ifNo X10 hx hby d10_77 ((if0 _ _).trans (feq (show ¬ ((own_ls c1) = (0 : Int32)) from (own_lsN (by have := own_suT hc5; omega)))).1) ?_
    refine q_iconst X10 hx hby d10_80 ?_
    refine q_goto (pc := 81) X10 hx hby d10_81 (pc' := 85) (by decide) (by decide) ?_
    refine q_istore X10 hx hby d10_85 (l' := #[vR xa, vR xw, vI 2, vI 0, vI c0, vI 1]) rfl ?_
    refine q_iload X10 hx hby d10_87 rfl ?_
    refine q_ifYes (pc := 89) X10 hx hby d10_89 (pc' := 106) ((if0 _ _).trans (feq (show ¬ ((1 : Int32) = (0 : Int32)) from by decide)).2) (by decide) (by decide) ?_
    refine gg (fun t k => XS.iinc X10.here hx rfl (hb hby d10_106) rfl (l' := #[vR xa, vR xw, vI 2, vI ((0 : Int32) + (1 : Int32)), vI c0, vI 1]) rfl k) ?_
    show own_Goes p e below (T10.setTop (mkF m 109 #[vR xa, vR xw, vI 2, vI ((0 : Int32) + (1 : Int32)), vI c0, vI 1] [])) _
    rw [show ((0 : Int32) + (1 : Int32)) = (1 : Int32) from by decide]
    refine gg (fun t k => XS.iinc X10.here hx rfl (hb hby d10_109) rfl (l' := #[vR xa, vR xw, vI 2, vI ((1 : Int32) + (1 : Int32)), vI c0, vI 1]) rfl k) ?_
    show own_Goes p e below (T10.setTop (mkF m 112 #[vR xa, vR xw, vI 2, vI ((1 : Int32) + (1 : Int32)), vI c0, vI 1] [])) _
    rw [show ((1 : Int32) + (1 : Int32)) = (2 : Int32) from by decide]
    refine q_goto (pc := 112) X10 hx hby d10_112 (pc' := 13) (by decide) (by decide) ?_
    refine q_iloadN X10 hx hby d10_13 rfl ?_
    refine q_iloadN X10 hx hby d10_14 rfl ?_
    refine q_icmpYes (pc := 15) X10 hx hby d10_15 (pc' := 115) (flt (show ¬ ((2 : Int32) < (2 : Int32)) from by decide)).2.1 (by decide) (by decide) ?_
    refine q_aloadN X10 hx hby d10_115 rfl rfl ?_
    refine r_R X10 hx hby hret hlk d10_116 e10 ?_
    exact ⟨N10, rfl, rfl⟩
theorem own_ef_own_rq3 (m : MethodId) (xa : Addr) (xw : Addr) : entryFrame m #[.ref xa, .ref xw] 6 = mkF m 0 #[vR xa, vR xw, uS, uS, uS, uS] [] := by first | (simp [entryFrame, mkF, argsToLocals, Value.category]; done) | rfl
def Q_own_rq3 (Z : State) (xa : Addr) (xt : Addr) (xw : Addr) (c0 : Int32) (c1 : Int32) (c2 : Int32) (gz : Int32) (gfm : Value) (h0 : Heap) (n0 : Nat) (v : Option Value) (h : Heap) (L : List Loc) : Prop := Fr n0 L ∧ h = h0 ∧ v = some (.ref xa)
theorem own_rq3 (l : Launch) (Z : State) (a0 : Array Value) (hw : ∀ d ∈ tables_1, d.before a0 Z = true) (ws : List Jvm.Cond) (xa : Addr) (xt : Addr) (xw : Addr) (c0 : Int32) (c1 : Int32) (c2 : Int32) (h0 : Heap) (n0 : Nat) (O0 : Old Z n0 h0) (gz : Int32) (gfm : Value) (G : GG Z gz gfm) (P0 : own_Str Z h0 xa xt ([c0, c1, c2] : List Int32)) (P1 : (¬ c0.toInt = 0 ∧ ((c0.toInt < 55296 ∨ 56319 < c0.toInt) ∨ (56320 ≤ c1.toInt ∧ c1.toInt ≤ 57343)) ∧ ((c0.toInt < 56320 ∨ 57343 < c0.toInt)))) (P2 : (¬ c1.toInt = 0 ∧ ((c1.toInt < 55296 ∨ 56319 < c1.toInt) ∨ (56320 ≤ c2.toInt ∧ c2.toInt ≤ 57343)) ∧ ((c1.toInt < 56320 ∨ 57343 < c1.toInt) ∨ (55296 ≤ c0.toInt ∧ c0.toInt ≤ 56319)))) (P3 : (¬ c2.toInt = 0 ∧ ((c2.toInt < 55296 ∨ 56319 < c2.toInt)) ∧ ((c2.toInt < 56320 ∨ 57343 < c2.toInt) ∨ (55296 ≤ c1.toInt ∧ c1.toInt ≤ 56319)))) : own_Met l Z (⟨"com/example/circa_once/circaonce/model/StorableText", "require", "(Ljava/lang/String;Ljava/lang/String;)Ljava/lang/String;"⟩ : MethodName) prog_15_method_2_code 6 (some (.object "java/lang/String")) ws ({ frames := 5, cells := 0, slots := 0, locals := 66 } : Room) #[.ref xa, .ref xw] h0 (Q_own_rq3 Z xa xt xw c0 c1 c2 gz gfm h0 n0) := by
  refine own_mk (plainFor_of_name own_pn_com_example_circa_once_circaonce_model_StorableText) O0 ?_
  intro p e s m below meth c s₁ hx hby hml hZ hown hnm hlk hret X0 e0 N0 z0 z1
  refine own_cast (own_ef_own_rq3 m xa xw) ?_
  show own_Goes p e below (s₁.setTop (mkF m 0 #[vR xa, vR xw, uS, uS, uS, uS] [])) _
  obtain ⟨G0, G1, G2, G3, G4, G5, G6⟩ := id G
  have ltP0 : @LT.lt Nat _ xa h0.size := P0.1.lt
  have luP0 : @LT.lt Nat _ xt h0.size := P0.lt2
  refine q_aloadN X0 hx hby d10_0 rfl rfl ?_
  refine q_aloadN X0 hx hby d10_1 rfl rfl ?_
  refine k_S X0 hx hby hZ hown (wh hw 51 rfl) (wh hw 52 rfl) (W := 0) (own_rnn2 l Z a0 hw [] xa xw h0 n0 O0) (wh hw 54 rfl) (wh hw 53 rfl) e0  hml (argsL := [.ref xa, .ref xw]) (rest := []) own_pd_18 d10_2 (fun _ T1 L1 X1 hQ1 => ?_)
  obtain ⟨Nc1, e1, rfl⟩ := hQ1
  have N1 := Fr.app N0 Nc1
  refine gg (fun t k => XS.pop X1.here hx rfl (hb hby d10_5) rfl rfl k) ?_
  refine q_aloadN X1 hx hby d10_6 rfl rfl ?_
  refine k_V X1 hx hby hZ hown (wh hw 55 rfl) (wh hw 56 rfl) (wh hw 58 rfl) (wh hw 57 rfl) (W := 0) (own_len3 l Z a0 hw [] xa xt c0 c1 c2 h0 n0 O0 gz gfm G P0) (wh hw 59 rfl) (wh hw 13 rfl) e1 P0.1  hml (argsL := []) (rest := []) own_pd_19 d10_7 (fun _ T2 L2 X2 hQ2 => ?_)
  obtain ⟨Nc2, e2, rfl⟩ := hQ2
  have N2 := Fr.app N1 Nc2
  refine q_istoreN X2 hx hby d10_10 (l' := #[vR xa, vR xw, vI 3, uS, uS, uS]) rfl ?_
  refine q_iconst X2 hx hby d10_11 ?_
  refine q_istoreN X2 hx hby d10_12 (l' := #[vR xa, vR xw, vI 3, vI 0, uS, uS]) rfl ?_
  refine q_iloadN X2 hx hby d10_13 rfl ?_
  refine q_iloadN X2 hx hby d10_14 rfl ?_
  refine q_icmpNo X2 hx hby d10_15 (tlt (show ((0 : Int32) < (3 : Int32)) from by decide)).2.1 ?_
  refine q_aloadN X2 hx hby d10_18 rfl rfl ?_
  refine q_iloadN X2 hx hby d10_19 rfl ?_
  show own_Goes p e below (T2.setTop (mkF m 20 #[vR xa, vR xw, vI 3, vI 0, uS, uS] [.int 0, .ref xa])) _
  refine k_V X2 hx hby hZ hown (wh hw 83 rfl) (wh hw 84 rfl) (wh hw 86 rfl) (wh hw 85 rfl) (W := 0) (own_ca3_0 l Z a0 hw [] xa xt c0 c1 c2 h0 n0 O0 gz gfm G P0) (wh hw 87 rfl) (wh hw 13 rfl) e2 P0.1  hml (argsL := [.int 0]) (rest := []) own_pd_20 d10_20 (fun _ T3 L3 X3 hQ3 => ?_)
  obtain ⟨Nc3, e3, rfl⟩ := hQ3
  have N3 := Fr.app N2 Nc3
  refine q_istore X3 hx hby d10_23 (l' := #[vR xa, vR xw, vI 3, vI 0, vI c0, uS]) rfl ?_
  refine q_iload X3 hx hby d10_25 rfl ?_
  refine q_ifYes (pc := 27) X3 hx hby d10_27 (pc' := 44) ((if0 _ _).trans (feq (show ¬ (c0 = (0 : Int32)) from (own_ne0 (by omega)))).2) (by decide) (by decide) ?_
  refine q_iload X3 hx hby d10_44 rfl ?_
  refine k_S X3 hx hby hZ hown (wh hw 104 rfl) (wh hw 105 rfl) (W := 0) (own_suC l Z a0 hw [] c0 h0 n0 O0) (wh hw 107 rfl) (wh hw 106 rfl) e3  hml (argsL := [.int c0]) (rest := []) own_pd_15 d10_46 (fun _ T4 L4 X4 hQ4 => ?_)
  obtain ⟨Nc4, e4, rfl⟩ := hQ4
  have N4 := Fr.app N3 Nc4
  by_cases hc5 : (own_su c0) = (0 : Int32)
  · refine q_ifYes (pc := 49) X4 hx hby d10_49 (pc' := 109) ((if0 _ _).trans (teq hc5).1) (by decide) (by decide) ?_
    refine gg (fun t k => XS.iinc X4.here hx rfl (hb hby d10_109) rfl (l' := #[vR xa, vR xw, vI 3, vI ((0 : Int32) + (1 : Int32)), vI c0, uS]) rfl k) ?_
    show own_Goes p e below (T4.setTop (mkF m 112 #[vR xa, vR xw, vI 3, vI ((0 : Int32) + (1 : Int32)), vI c0, uS] [])) _
    rw [show ((0 : Int32) + (1 : Int32)) = (1 : Int32) from by decide]
    refine q_goto (pc := 112) X4 hx hby d10_112 (pc' := 13) (by decide) (by decide) ?_
    refine q_iloadN X4 hx hby d10_13 rfl ?_
    refine q_iloadN X4 hx hby d10_14 rfl ?_
    refine q_icmpNo X4 hx hby d10_15 (tlt (show ((1 : Int32) < (3 : Int32)) from by decide)).2.1 ?_
    refine q_aloadN X4 hx hby d10_18 rfl rfl ?_
    refine q_iloadN X4 hx hby d10_19 rfl ?_
    refine k_V X4 hx hby hZ hown (wh hw 83 rfl) (wh hw 84 rfl) (wh hw 86 rfl) (wh hw 85 rfl) (W := 0) (own_ca3_1 l Z a0 hw [] xa xt c0 c1 c2 h0 n0 O0 gz gfm G P0) (wh hw 87 rfl) (wh hw 13 rfl) e4 P0.1  hml (argsL := [.int 1]) (rest := []) own_pd_20 d10_20 (fun _ T6 L6 X6 hQ6 => ?_)
    obtain ⟨Nc6, e6, rfl⟩ := hQ6
    have N6 := Fr.app N4 Nc6
    refine q_istore X6 hx hby d10_23 (l' := #[vR xa, vR xw, vI 3, vI 1, vI c1, uS]) rfl ?_
    refine q_iload X6 hx hby d10_25 rfl ?_
    refine q_ifYes (pc := 27) X6 hx hby d10_27 (pc' := 44) ((if0 _ _).trans (feq (show ¬ (c1 = (0 : Int32)) from (own_ne0 (by have := own_suF hc5; omega)))).2) (by decide) (by decide) ?_
    refine q_iload X6 hx hby d10_44 rfl ?_
    refine k_S X6 hx hby hZ hown (wh hw 104 rfl) (wh hw 105 rfl) (W := 0) (own_suC l Z a0 hw [] c1 h0 n0 O0) (wh hw 107 rfl) (wh hw 106 rfl) e6  hml (argsL := [.int c1]) (rest := []) own_pd_15 d10_46 (fun _ T7 L7 X7 hQ7 => ?_)
    obtain ⟨Nc7, e7, rfl⟩ := hQ7
    have N7 := Fr.app N6 Nc7
    by_cases hc8 : (own_su c1) = (0 : Int32)
    · refine q_ifYes (pc := 49) X7 hx hby d10_49 (pc' := 109) ((if0 _ _).trans (teq hc8).1) (by decide) (by decide) ?_
      refine gg (fun t k => XS.iinc X7.here hx rfl (hb hby d10_109) rfl (l' := #[vR xa, vR xw, vI 3, vI ((1 : Int32) + (1 : Int32)), vI c1, uS]) rfl k) ?_
      show own_Goes p e below (T7.setTop (mkF m 112 #[vR xa, vR xw, vI 3, vI ((1 : Int32) + (1 : Int32)), vI c1, uS] [])) _
      rw [show ((1 : Int32) + (1 : Int32)) = (2 : Int32) from by decide]
      refine q_goto (pc := 112) X7 hx hby d10_112 (pc' := 13) (by decide) (by decide) ?_
      refine q_iloadN X7 hx hby d10_13 rfl ?_
      refine q_iloadN X7 hx hby d10_14 rfl ?_
      refine q_icmpNo X7 hx hby d10_15 (tlt (show ((2 : Int32) < (3 : Int32)) from by decide)).2.1 ?_
      refine q_aloadN X7 hx hby d10_18 rfl rfl ?_
      refine q_iloadN X7 hx hby d10_19 rfl ?_
      refine k_V X7 hx hby hZ hown (wh hw 83 rfl) (wh hw 84 rfl) (wh hw 86 rfl) (wh hw 85 rfl) (W := 0) (own_ca3_2 l Z a0 hw [] xa xt c0 c1 c2 h0 n0 O0 gz gfm G P0) (wh hw 87 rfl) (wh hw 13 rfl) e7 P0.1  hml (argsL := [.int 2]) (rest := []) own_pd_20 d10_20 (fun _ T9 L9 X9 hQ9 => ?_)
      obtain ⟨Nc9, e9, rfl⟩ := hQ9
      have N9 := Fr.app N7 Nc9
      refine q_istore X9 hx hby d10_23 (l' := #[vR xa, vR xw, vI 3, vI 2, vI c2, uS]) rfl ?_
      refine q_iload X9 hx hby d10_25 rfl ?_
      refine q_ifYes (pc := 27) X9 hx hby d10_27 (pc' := 44) ((if0 _ _).trans (feq (show ¬ (c2 = (0 : Int32)) from (own_ne0 (by have := own_suF hc5; have := own_suF hc8; omega)))).2) (by decide) (by decide) ?_
      refine q_iload X9 hx hby d10_44 rfl ?_
      refine k_S X9 hx hby hZ hown (wh hw 104 rfl) (wh hw 105 rfl) (W := 0) (own_suC l Z a0 hw [] c2 h0 n0 O0) (wh hw 107 rfl) (wh hw 106 rfl) e9  hml (argsL := [.int c2]) (rest := []) own_pd_15 d10_46 (fun _ T10 L10 X10 hQ10 => ?_)
      obtain ⟨Nc10, e10, rfl⟩ := hQ10
      have N10 := Fr.app N9 Nc10
      refine q_ifYes (pc := 49) X10 hx hby d10_49 (pc' := 109) ((if0 _ _).trans (teq (show ((own_su c2) = (0 : Int32)) from (own_suZ (by have := own_suF hc5; have := own_suF hc8; omega)))).1) (by decide) (by decide) ?_
      refine gg (fun t k => XS.iinc X10.here hx rfl (hb hby d10_109) rfl (l' := #[vR xa, vR xw, vI 3, vI ((2 : Int32) + (1 : Int32)), vI c2, uS]) rfl k) ?_
      show own_Goes p e below (T10.setTop (mkF m 112 #[vR xa, vR xw, vI 3, vI ((2 : Int32) + (1 : Int32)), vI c2, uS] [])) _
      rw [show ((2 : Int32) + (1 : Int32)) = (3 : Int32) from by decide]
      refine q_goto (pc := 112) X10 hx hby d10_112 (pc' := 13) (by decide) (by decide) ?_
      refine q_iloadN X10 hx hby d10_13 rfl ?_
      refine q_iloadN X10 hx hby d10_14 rfl ?_
      refine q_icmpYes (pc := 15) X10 hx hby d10_15 (pc' := 115) (flt (show ¬ ((3 : Int32) < (3 : Int32)) from by decide)).2.1 (by decide) (by decide) ?_
      refine q_aloadN X10 hx hby d10_115 rfl rfl ?_
      refine r_R X10 hx hby hret hlk d10_116 e10 ?_
      exact ⟨N10, rfl, rfl⟩
    · refine q_ifNo X7 hx hby d10_49 ((if0 _ _).trans (feq hc8).1) ?_
      refine q_iload X7 hx hby d10_52 rfl ?_
      refine k_S X7 hx hby hZ hown (wh hw 141 rfl) (wh hw 142 rfl) (W := 0) (own_hsC l Z a0 hw [] c1 h0 n0 O0) (wh hw 143 rfl) (wh hw 106 rfl) e7  hml (argsL := [.int c1]) (rest := []) own_pd_15 d10_54 (fun _ T11 L11 X11 hQ11 => ?_)
      obtain ⟨Nc11, e11, rfl⟩ := hQ11
      have N11 := Fr.app N7 Nc11
      refine q_ifNo X11 hx hby d10_57 ((if0 _ _).trans (feq (show ¬ ((own_hs c1) = (0 : Int32)) from (own_hsN (by have := own_suF hc5; have := own_suT hc8; omega)))).1) ?_
      refine q_iloadN X11 hx hby d10_60 rfl ?_
      refine q_iconst X11 hx hby d10_61 ?_
      refine q_iadd X11 hx hby d10_62 ?_
      show own_Goes p e below (T11.setTop (mkF m 63 #[vR xa, vR xw, vI 3, vI 1, vI c1, uS] [(.int ((1 : Int32) + (1 : Int32)))])) _
      rw [show ((1 : Int32) + (1 : Int32)) = (2 : Int32) from by decide]
      refine q_iloadN X11 hx hby d10_63 rfl ?_
      refine q_icmpNo X11 hx hby d10_64 (tlt (show ((2 : Int32) < (3 : Int32)) from by decide)).2.1 ?_
      refine q_aloadN X11 hx hby d10_67 rfl rfl ?_
      refine q_iloadN X11 hx hby d10_68 rfl ?_
      refine q_iconst X11 hx hby d10_69 ?_
      refine q_iadd X11 hx hby d10_70 ?_
      show own_Goes p e below (T11.setTop (mkF m 71 #[vR xa, vR xw, vI 3, vI 1, vI c1, uS] [(.int ((1 : Int32) + (1 : Int32))), .ref xa])) _
      rw [show ((1 : Int32) + (1 : Int32)) = (2 : Int32) from by decide]
      refine k_V X11 hx hby hZ hown (wh hw 83 rfl) (wh hw 84 rfl) (wh hw 86 rfl) (wh hw 85 rfl) (W := 0) (own_ca3_2 l Z a0 hw [] xa xt c0 c1 c2 h0 n0 O0 gz gfm G P0) (wh hw 87 rfl) (wh hw 13 rfl) e11 P0.1  hml (argsL := [.int 2]) (rest := []) own_pd_20 d10_71 (fun _ T12 L12 X12 hQ12 => ?_)
      obtain ⟨Nc12, e12, rfl⟩ := hQ12
      have N12 := Fr.app N11 Nc12
      refine k_S X12 hx hby hZ hown (wh hw 145 rfl) (wh hw 146 rfl) (W := 0) (own_lsC l Z a0 hw [] c2 h0 n0 O0) (wh hw 147 rfl) (wh hw 106 rfl) e12  hml (argsL := [.int c2]) (rest := []) own_pd_15 d10_74 (fun _ T13 L13 X13 hQ13 => ?_)
      obtain ⟨Nc13, e13, rfl⟩ := hQ13
      have N13 := Fr.app N12 Nc13
      refine q_ifNo X13 hx hby d10_77 ((if0 _ _).trans (feq (show ¬ ((own_ls c2) = (0 : Int32)) from (own_lsN (by have := own_suF hc5; have := own_suT hc8; omega)))).1) ?_
      refine q_iconst X13 hx hby d10_80 ?_
      refine q_goto (pc := 81) X13 hx hby d10_81 (pc' := 85) (by decide) (by decide) ?_
      refine q_istore X13 hx hby d10_85 (l' := #[vR xa, vR xw, vI 3, vI 1, vI c1, vI 1]) rfl ?_
      refine q_iload X13 hx hby d10_87 rfl ?_
      refine q_ifYes (pc := 89) X13 hx hby d10_89 (pc' := 106) ((if0 _ _).trans (feq (show ¬ ((1 : Int32) = (0 : Int32)) from by decide)).2) (by decide) (by decide) ?_
      refine gg (fun t k => XS.iinc X13.here hx rfl (hb hby d10_106) rfl (l' := #[vR xa, vR xw, vI 3, vI ((1 : Int32) + (1 : Int32)), vI c1, vI 1]) rfl k) ?_
      show own_Goes p e below (T13.setTop (mkF m 109 #[vR xa, vR xw, vI 3, vI ((1 : Int32) + (1 : Int32)), vI c1, vI 1] [])) _
      rw [show ((1 : Int32) + (1 : Int32)) = (2 : Int32) from by decide]
      refine gg (fun t k => XS.iinc X13.here hx rfl (hb hby d10_109) rfl (l' := #[vR xa, vR xw, vI 3, vI ((2 : Int32) + (1 : Int32)), vI c1, vI 1]) rfl k) ?_
      show own_Goes p e below (T13.setTop (mkF m 112 #[vR xa, vR xw, vI 3, vI ((2 : Int32) + (1 : Int32)), vI c1, vI 1] [])) _
      rw [show ((2 : Int32) + (1 : Int32)) = (3 : Int32) from by decide]
      refine q_goto (pc := 112) X13 hx hby d10_112 (pc' := 13) (by decide) (by decide) ?_
      refine q_iloadN X13 hx hby d10_13 rfl ?_
      refine q_iloadN X13 hx hby d10_14 rfl ?_
      refine q_icmpYes (pc := 15) X13 hx hby d10_15 (pc' := 115) (flt (show ¬ ((3 : Int32) < (3 : Int32)) from by decide)).2.1 (by decide) (by decide) ?_
      refine q_aloadN X13 hx hby d10_115 rfl rfl ?_
      refine r_R X13 hx hby hret hlk d10_116 e13 ?_
      exact ⟨N13, rfl, rfl⟩
  · refine q_ifNo X4 hx hby d10_49 ((if0 _ _).trans (feq hc5).1) ?_
    refine q_iload X4 hx hby d10_52 rfl ?_
    refine k_S X4 hx hby hZ hown (wh hw 141 rfl) (wh hw 142 rfl) (W := 0) (own_hsC l Z a0 hw [] c0 h0 n0 O0) (wh hw 143 rfl) (wh hw 106 rfl) e4  hml (argsL := [.int c0]) (rest := []) own_pd_15 d10_54 (fun _ T14 L14 X14 hQ14 => ?_)
    obtain ⟨Nc14, e14, rfl⟩ := hQ14
    have N14 := Fr.app N4 Nc14
    refine q_ifNo X14 hx hby d10_57 ((if0 _ _).trans (feq (show ¬ ((own_hs c0) = (0 : Int32)) from (own_hsN (by have := own_suT hc5; omega)))).1) ?_
    refine q_iloadN X14 hx hby d10_60 rfl ?_
    refine q_iconst X14 hx hby d10_61 ?_
    refine q_iadd X14 hx hby d10_62 ?_
    show own_Goes p e below (T14.setTop (mkF m 63 #[vR xa, vR xw, vI 3, vI 0, vI c0, uS] [(.int ((0 : Int32) + (1 : Int32)))])) _
    rw [show ((0 : Int32) + (1 : Int32)) = (1 : Int32) from by decide]
    refine q_iloadN X14 hx hby d10_63 rfl ?_
    refine q_icmpNo X14 hx hby d10_64 (tlt (show ((1 : Int32) < (3 : Int32)) from by decide)).2.1 ?_
    refine q_aloadN X14 hx hby d10_67 rfl rfl ?_
    refine q_iloadN X14 hx hby d10_68 rfl ?_
    refine q_iconst X14 hx hby d10_69 ?_
    refine q_iadd X14 hx hby d10_70 ?_
    show own_Goes p e below (T14.setTop (mkF m 71 #[vR xa, vR xw, vI 3, vI 0, vI c0, uS] [(.int ((0 : Int32) + (1 : Int32))), .ref xa])) _
    rw [show ((0 : Int32) + (1 : Int32)) = (1 : Int32) from by decide]
    refine k_V X14 hx hby hZ hown (wh hw 83 rfl) (wh hw 84 rfl) (wh hw 86 rfl) (wh hw 85 rfl) (W := 0) (own_ca3_1 l Z a0 hw [] xa xt c0 c1 c2 h0 n0 O0 gz gfm G P0) (wh hw 87 rfl) (wh hw 13 rfl) e14 P0.1  hml (argsL := [.int 1]) (rest := []) own_pd_20 d10_71 (fun _ T15 L15 X15 hQ15 => ?_)
    obtain ⟨Nc15, e15, rfl⟩ := hQ15
    have N15 := Fr.app N14 Nc15
    refine k_S X15 hx hby hZ hown (wh hw 145 rfl) (wh hw 146 rfl) (W := 0) (own_lsC l Z a0 hw [] c1 h0 n0 O0) (wh hw 147 rfl) (wh hw 106 rfl) e15  hml (argsL := [.int c1]) (rest := []) own_pd_15 d10_74 (fun _ T16 L16 X16 hQ16 => ?_)
    obtain ⟨Nc16, e16, rfl⟩ := hQ16
    have N16 := Fr.app N15 Nc16
    refine q_ifNo X16 hx hby d10_77 ((if0 _ _).trans (feq (show ¬ ((own_ls c1) = (0 : Int32)) from (own_lsN (by have := own_suT hc5; omega)))).1) ?_
    refine q_iconst X16 hx hby d10_80 ?_
    refine q_goto (pc := 81) X16 hx hby d10_81 (pc' := 85) (by decide) (by decide) ?_
    refine q_istore X16 hx hby d10_85 (l' := #[vR xa, vR xw, vI 3, vI 0, vI c0, vI 1]) rfl ?_
    refine q_iload X16 hx hby d10_87 rfl ?_
    refine q_ifYes (pc := 89) X16 hx hby d10_89 (pc' := 106) ((if0 _ _).trans (feq (show ¬ ((1 : Int32) = (0 : Int32)) from by decide)).2) (by decide) (by decide) ?_
    refine gg (fun t k => XS.iinc X16.here hx rfl (hb hby d10_106) rfl (l' := #[vR xa, vR xw, vI 3, vI ((0 : Int32) + (1 : Int32)), vI c0, vI 1]) rfl k) ?_
    show own_Goes p e below (T16.setTop (mkF m 109 #[vR xa, vR xw, vI 3, vI ((0 : Int32) + (1 : Int32)), vI c0, vI 1] [])) _
    rw [show ((0 : Int32) + (1 : Int32)) = (1 : Int32) from by decide]
    refine gg (fun t k => XS.iinc X16.here hx rfl (hb hby d10_109) rfl (l' := #[vR xa, vR xw, vI 3, vI ((1 : Int32) + (1 : Int32)), vI c0, vI 1]) rfl k) ?_
    show own_Goes p e below (T16.setTop (mkF m 112 #[vR xa, vR xw, vI 3, vI ((1 : Int32) + (1 : Int32)), vI c0, vI 1] [])) _
    rw [show ((1 : Int32) + (1 : Int32)) = (2 : Int32) from by decide]
    refine q_goto (pc := 112) X16 hx hby d10_112 (pc' := 13) (by decide) (by decide) ?_
    refine q_iloadN X16 hx hby d10_13 rfl ?_
    refine q_iloadN X16 hx hby d10_14 rfl ?_
    refine q_icmpNo X16 hx hby d10_15 (tlt (show ((2 : Int32) < (3 : Int32)) from by decide)).2.1 ?_
    refine q_aloadN X16 hx hby d10_18 rfl rfl ?_
    refine q_iloadN X16 hx hby d10_19 rfl ?_
    refine k_V X16 hx hby hZ hown (wh hw 83 rfl) (wh hw 84 rfl) (wh hw 86 rfl) (wh hw 85 rfl) (W := 0) (own_ca3_2 l Z a0 hw [] xa xt c0 c1 c2 h0 n0 O0 gz gfm G P0) (wh hw 87 rfl) (wh hw 13 rfl) e16 P0.1  hml (argsL := [.int 2]) (rest := []) own_pd_20 d10_20 (fun _ T17 L17 X17 hQ17 => ?_)
    obtain ⟨Nc17, e17, rfl⟩ := hQ17
    have N17 := Fr.app N16 Nc17
    refine q_istore X17 hx hby d10_23 (l' := #[vR xa, vR xw, vI 3, vI 2, vI c2, vI 1]) rfl ?_
    refine q_iload X17 hx hby d10_25 rfl ?_
    refine q_ifYes (pc := 27) X17 hx hby d10_27 (pc' := 44) ((if0 _ _).trans (feq (show ¬ (c2 = (0 : Int32)) from (own_ne0 (by have := own_suT hc5; omega)))).2) (by decide) (by decide) ?_
    refine q_iload X17 hx hby d10_44 rfl ?_
    refine k_S X17 hx hby hZ hown (wh hw 104 rfl) (wh hw 105 rfl) (W := 0) (own_suC l Z a0 hw [] c2 h0 n0 O0) (wh hw 107 rfl) (wh hw 106 rfl) e17  hml (argsL := [.int c2]) (rest := []) own_pd_15 d10_46 (fun _ T18 L18 X18 hQ18 => ?_)
    obtain ⟨Nc18, e18, rfl⟩ := hQ18
    have N18 := Fr.app N17 Nc18
    refine q_ifYes (pc := 49) X18 hx hby d10_49 (pc' := 109) ((if0 _ _).trans (teq (show ((own_su c2) = (0 : Int32)) from (own_suZ (by have := own_suT hc5; omega)))).1) (by decide) (by decide) ?_
    refine gg (fun t k => XS.iinc X18.here hx rfl (hb hby d10_109) rfl (l' := #[vR xa, vR xw, vI 3, vI ((2 : Int32) + (1 : Int32)), vI c2, vI 1]) rfl k) ?_
    show own_Goes p e below (T18.setTop (mkF m 112 #[vR xa, vR xw, vI 3, vI ((2 : Int32) + (1 : Int32)), vI c2, vI 1] [])) _
    rw [show ((2 : Int32) + (1 : Int32)) = (3 : Int32) from by decide]
    refine q_goto (pc := 112) X18 hx hby d10_112 (pc' := 13) (by decide) (by decide) ?_
    refine q_iloadN X18 hx hby d10_13 rfl ?_
    refine q_iloadN X18 hx hby d10_14 rfl ?_
    refine q_icmpYes (pc := 15) X18 hx hby d10_15 (pc' := 115) (flt (show ¬ ((3 : Int32) < (3 : Int32)) from by decide)).2.1 (by decide) (by decide) ?_
    refine q_aloadN X18 hx hby d10_115 rfl rfl ?_
    refine r_R X18 hx hby hret hlk d10_116 e18 ?_
    exact ⟨N18, rfl, rfl⟩
theorem own_ef_own_rq4 (m : MethodId) (xa : Addr) (xw : Addr) : entryFrame m #[.ref xa, .ref xw] 6 = mkF m 0 #[vR xa, vR xw, uS, uS, uS, uS] [] := by first | (simp [entryFrame, mkF, argsToLocals, Value.category]; done) | rfl
def Q_own_rq4 (Z : State) (xa : Addr) (xt : Addr) (xw : Addr) (c0 : Int32) (c1 : Int32) (c2 : Int32) (c3 : Int32) (gz : Int32) (gfm : Value) (h0 : Heap) (n0 : Nat) (v : Option Value) (h : Heap) (L : List Loc) : Prop := Fr n0 L ∧ h = h0 ∧ v = some (.ref xa)
theorem own_rq4 (l : Launch) (Z : State) (a0 : Array Value) (hw : ∀ d ∈ tables_1, d.before a0 Z = true) (ws : List Jvm.Cond) (xa : Addr) (xt : Addr) (xw : Addr) (c0 : Int32) (c1 : Int32) (c2 : Int32) (c3 : Int32) (h0 : Heap) (n0 : Nat) (O0 : Old Z n0 h0) (gz : Int32) (gfm : Value) (G : GG Z gz gfm) (P0 : own_Str Z h0 xa xt ([c0, c1, c2, c3] : List Int32)) (P1 : (¬ c0.toInt = 0 ∧ ((c0.toInt < 55296 ∨ 56319 < c0.toInt) ∨ (56320 ≤ c1.toInt ∧ c1.toInt ≤ 57343)) ∧ ((c0.toInt < 56320 ∨ 57343 < c0.toInt)))) (P2 : (¬ c1.toInt = 0 ∧ ((c1.toInt < 55296 ∨ 56319 < c1.toInt) ∨ (56320 ≤ c2.toInt ∧ c2.toInt ≤ 57343)) ∧ ((c1.toInt < 56320 ∨ 57343 < c1.toInt) ∨ (55296 ≤ c0.toInt ∧ c0.toInt ≤ 56319)))) (P3 : (¬ c2.toInt = 0 ∧ ((c2.toInt < 55296 ∨ 56319 < c2.toInt) ∨ (56320 ≤ c3.toInt ∧ c3.toInt ≤ 57343)) ∧ ((c2.toInt < 56320 ∨ 57343 < c2.toInt) ∨ (55296 ≤ c1.toInt ∧ c1.toInt ≤ 56319)))) (P4 : (¬ c3.toInt = 0 ∧ ((c3.toInt < 55296 ∨ 56319 < c3.toInt)) ∧ ((c3.toInt < 56320 ∨ 57343 < c3.toInt) ∨ (55296 ≤ c2.toInt ∧ c2.toInt ≤ 56319)))) : own_Met l Z (⟨"com/example/circa_once/circaonce/model/StorableText", "require", "(Ljava/lang/String;Ljava/lang/String;)Ljava/lang/String;"⟩ : MethodName) prog_15_method_2_code 6 (some (.object "java/lang/String")) ws ({ frames := 5, cells := 0, slots := 0, locals := 66 } : Room) #[.ref xa, .ref xw] h0 (Q_own_rq4 Z xa xt xw c0 c1 c2 c3 gz gfm h0 n0) := by
  refine own_mk (plainFor_of_name own_pn_com_example_circa_once_circaonce_model_StorableText) O0 ?_
  intro p e s m below meth c s₁ hx hby hml hZ hown hnm hlk hret X0 e0 N0 z0 z1
  refine own_cast (own_ef_own_rq4 m xa xw) ?_
  show own_Goes p e below (s₁.setTop (mkF m 0 #[vR xa, vR xw, uS, uS, uS, uS] [])) _
  obtain ⟨G0, G1, G2, G3, G4, G5, G6⟩ := id G
  have ltP0 : @LT.lt Nat _ xa h0.size := P0.1.lt
  have luP0 : @LT.lt Nat _ xt h0.size := P0.lt2
  refine q_aloadN X0 hx hby d10_0 rfl rfl ?_
  refine q_aloadN X0 hx hby d10_1 rfl rfl ?_
  refine k_S X0 hx hby hZ hown (wh hw 51 rfl) (wh hw 52 rfl) (W := 0) (own_rnn2 l Z a0 hw [] xa xw h0 n0 O0) (wh hw 54 rfl) (wh hw 53 rfl) e0  hml (argsL := [.ref xa, .ref xw]) (rest := []) own_pd_18 d10_2 (fun _ T1 L1 X1 hQ1 => ?_)
  obtain ⟨Nc1, e1, rfl⟩ := hQ1
  have N1 := Fr.app N0 Nc1
  refine gg (fun t k => XS.pop X1.here hx rfl (hb hby d10_5) rfl rfl k) ?_
  refine q_aloadN X1 hx hby d10_6 rfl rfl ?_
  refine k_V X1 hx hby hZ hown (wh hw 55 rfl) (wh hw 56 rfl) (wh hw 58 rfl) (wh hw 57 rfl) (W := 0) (own_len4 l Z a0 hw [] xa xt c0 c1 c2 c3 h0 n0 O0 gz gfm G P0) (wh hw 59 rfl) (wh hw 13 rfl) e1 P0.1  hml (argsL := []) (rest := []) own_pd_19 d10_7 (fun _ T2 L2 X2 hQ2 => ?_)
  obtain ⟨Nc2, e2, rfl⟩ := hQ2
  have N2 := Fr.app N1 Nc2
  refine q_istoreN X2 hx hby d10_10 (l' := #[vR xa, vR xw, vI 4, uS, uS, uS]) rfl ?_
  refine q_iconst X2 hx hby d10_11 ?_
  refine q_istoreN X2 hx hby d10_12 (l' := #[vR xa, vR xw, vI 4, vI 0, uS, uS]) rfl ?_
  refine q_iloadN X2 hx hby d10_13 rfl ?_
  refine q_iloadN X2 hx hby d10_14 rfl ?_
  refine q_icmpNo X2 hx hby d10_15 (tlt (show ((0 : Int32) < (4 : Int32)) from by decide)).2.1 ?_
  refine q_aloadN X2 hx hby d10_18 rfl rfl ?_
  refine q_iloadN X2 hx hby d10_19 rfl ?_
  show own_Goes p e below (T2.setTop (mkF m 20 #[vR xa, vR xw, vI 4, vI 0, uS, uS] [.int 0, .ref xa])) _
  refine k_V X2 hx hby hZ hown (wh hw 83 rfl) (wh hw 84 rfl) (wh hw 86 rfl) (wh hw 85 rfl) (W := 0) (own_ca4_0 l Z a0 hw [] xa xt c0 c1 c2 c3 h0 n0 O0 gz gfm G P0) (wh hw 87 rfl) (wh hw 13 rfl) e2 P0.1  hml (argsL := [.int 0]) (rest := []) own_pd_20 d10_20 (fun _ T3 L3 X3 hQ3 => ?_)
  obtain ⟨Nc3, e3, rfl⟩ := hQ3
  have N3 := Fr.app N2 Nc3
  refine q_istore X3 hx hby d10_23 (l' := #[vR xa, vR xw, vI 4, vI 0, vI c0, uS]) rfl ?_
  refine q_iload X3 hx hby d10_25 rfl ?_
  refine q_ifYes (pc := 27) X3 hx hby d10_27 (pc' := 44) ((if0 _ _).trans (feq (show ¬ (c0 = (0 : Int32)) from (own_ne0 (by omega)))).2) (by decide) (by decide) ?_
  refine q_iload X3 hx hby d10_44 rfl ?_
  refine k_S X3 hx hby hZ hown (wh hw 104 rfl) (wh hw 105 rfl) (W := 0) (own_suC l Z a0 hw [] c0 h0 n0 O0) (wh hw 107 rfl) (wh hw 106 rfl) e3  hml (argsL := [.int c0]) (rest := []) own_pd_15 d10_46 (fun _ T4 L4 X4 hQ4 => ?_)
  obtain ⟨Nc4, e4, rfl⟩ := hQ4
  have N4 := Fr.app N3 Nc4
  by_cases hc5 : (own_su c0) = (0 : Int32)
  · refine q_ifYes (pc := 49) X4 hx hby d10_49 (pc' := 109) ((if0 _ _).trans (teq hc5).1) (by decide) (by decide) ?_
    refine gg (fun t k => XS.iinc X4.here hx rfl (hb hby d10_109) rfl (l' := #[vR xa, vR xw, vI 4, vI ((0 : Int32) + (1 : Int32)), vI c0, uS]) rfl k) ?_
    show own_Goes p e below (T4.setTop (mkF m 112 #[vR xa, vR xw, vI 4, vI ((0 : Int32) + (1 : Int32)), vI c0, uS] [])) _
    rw [show ((0 : Int32) + (1 : Int32)) = (1 : Int32) from by decide]
    refine q_goto (pc := 112) X4 hx hby d10_112 (pc' := 13) (by decide) (by decide) ?_
    refine q_iloadN X4 hx hby d10_13 rfl ?_
    refine q_iloadN X4 hx hby d10_14 rfl ?_
    refine q_icmpNo X4 hx hby d10_15 (tlt (show ((1 : Int32) < (4 : Int32)) from by decide)).2.1 ?_
    refine q_aloadN X4 hx hby d10_18 rfl rfl ?_
    refine q_iloadN X4 hx hby d10_19 rfl ?_
    refine k_V X4 hx hby hZ hown (wh hw 83 rfl) (wh hw 84 rfl) (wh hw 86 rfl) (wh hw 85 rfl) (W := 0) (own_ca4_1 l Z a0 hw [] xa xt c0 c1 c2 c3 h0 n0 O0 gz gfm G P0) (wh hw 87 rfl) (wh hw 13 rfl) e4 P0.1  hml (argsL := [.int 1]) (rest := []) own_pd_20 d10_20 (fun _ T6 L6 X6 hQ6 => ?_)
    obtain ⟨Nc6, e6, rfl⟩ := hQ6
    have N6 := Fr.app N4 Nc6
    refine q_istore X6 hx hby d10_23 (l' := #[vR xa, vR xw, vI 4, vI 1, vI c1, uS]) rfl ?_
    refine q_iload X6 hx hby d10_25 rfl ?_
    refine q_ifYes (pc := 27) X6 hx hby d10_27 (pc' := 44) ((if0 _ _).trans (feq (show ¬ (c1 = (0 : Int32)) from (own_ne0 (by have := own_suF hc5; omega)))).2) (by decide) (by decide) ?_
    refine q_iload X6 hx hby d10_44 rfl ?_
    refine k_S X6 hx hby hZ hown (wh hw 104 rfl) (wh hw 105 rfl) (W := 0) (own_suC l Z a0 hw [] c1 h0 n0 O0) (wh hw 107 rfl) (wh hw 106 rfl) e6  hml (argsL := [.int c1]) (rest := []) own_pd_15 d10_46 (fun _ T7 L7 X7 hQ7 => ?_)
    obtain ⟨Nc7, e7, rfl⟩ := hQ7
    have N7 := Fr.app N6 Nc7
    by_cases hc8 : (own_su c1) = (0 : Int32)
    · refine q_ifYes (pc := 49) X7 hx hby d10_49 (pc' := 109) ((if0 _ _).trans (teq hc8).1) (by decide) (by decide) ?_
      refine gg (fun t k => XS.iinc X7.here hx rfl (hb hby d10_109) rfl (l' := #[vR xa, vR xw, vI 4, vI ((1 : Int32) + (1 : Int32)), vI c1, uS]) rfl k) ?_
      show own_Goes p e below (T7.setTop (mkF m 112 #[vR xa, vR xw, vI 4, vI ((1 : Int32) + (1 : Int32)), vI c1, uS] [])) _
      rw [show ((1 : Int32) + (1 : Int32)) = (2 : Int32) from by decide]
      refine q_goto (pc := 112) X7 hx hby d10_112 (pc' := 13) (by decide) (by decide) ?_
      refine q_iloadN X7 hx hby d10_13 rfl ?_
      refine q_iloadN X7 hx hby d10_14 rfl ?_
      refine q_icmpNo X7 hx hby d10_15 (tlt (show ((2 : Int32) < (4 : Int32)) from by decide)).2.1 ?_
      refine q_aloadN X7 hx hby d10_18 rfl rfl ?_
      refine q_iloadN X7 hx hby d10_19 rfl ?_
      refine k_V X7 hx hby hZ hown (wh hw 83 rfl) (wh hw 84 rfl) (wh hw 86 rfl) (wh hw 85 rfl) (W := 0) (own_ca4_2 l Z a0 hw [] xa xt c0 c1 c2 c3 h0 n0 O0 gz gfm G P0) (wh hw 87 rfl) (wh hw 13 rfl) e7 P0.1  hml (argsL := [.int 2]) (rest := []) own_pd_20 d10_20 (fun _ T9 L9 X9 hQ9 => ?_)
      obtain ⟨Nc9, e9, rfl⟩ := hQ9
      have N9 := Fr.app N7 Nc9
      refine q_istore X9 hx hby d10_23 (l' := #[vR xa, vR xw, vI 4, vI 2, vI c2, uS]) rfl ?_
      refine q_iload X9 hx hby d10_25 rfl ?_
      refine q_ifYes (pc := 27) X9 hx hby d10_27 (pc' := 44) ((if0 _ _).trans (feq (show ¬ (c2 = (0 : Int32)) from (own_ne0 (by have := own_suF hc5; have := own_suF hc8; omega)))).2) (by decide) (by decide) ?_
      refine q_iload X9 hx hby d10_44 rfl ?_
      refine k_S X9 hx hby hZ hown (wh hw 104 rfl) (wh hw 105 rfl) (W := 0) (own_suC l Z a0 hw [] c2 h0 n0 O0) (wh hw 107 rfl) (wh hw 106 rfl) e9  hml (argsL := [.int c2]) (rest := []) own_pd_15 d10_46 (fun _ T10 L10 X10 hQ10 => ?_)
      obtain ⟨Nc10, e10, rfl⟩ := hQ10
      have N10 := Fr.app N9 Nc10
      by_cases hc11 : (own_su c2) = (0 : Int32)
      · refine q_ifYes (pc := 49) X10 hx hby d10_49 (pc' := 109) ((if0 _ _).trans (teq hc11).1) (by decide) (by decide) ?_
        refine gg (fun t k => XS.iinc X10.here hx rfl (hb hby d10_109) rfl (l' := #[vR xa, vR xw, vI 4, vI ((2 : Int32) + (1 : Int32)), vI c2, uS]) rfl k) ?_
        show own_Goes p e below (T10.setTop (mkF m 112 #[vR xa, vR xw, vI 4, vI ((2 : Int32) + (1 : Int32)), vI c2, uS] [])) _
        rw [show ((2 : Int32) + (1 : Int32)) = (3 : Int32) from by decide]
        refine q_goto (pc := 112) X10 hx hby d10_112 (pc' := 13) (by decide) (by decide) ?_
        refine q_iloadN X10 hx hby d10_13 rfl ?_
        refine q_iloadN X10 hx hby d10_14 rfl ?_
        refine q_icmpNo X10 hx hby d10_15 (tlt (show ((3 : Int32) < (4 : Int32)) from by decide)).2.1 ?_
        refine q_aloadN X10 hx hby d10_18 rfl rfl ?_
        refine q_iloadN X10 hx hby d10_19 rfl ?_
        refine k_V X10 hx hby hZ hown (wh hw 83 rfl) (wh hw 84 rfl) (wh hw 86 rfl) (wh hw 85 rfl) (W := 0) (own_ca4_3 l Z a0 hw [] xa xt c0 c1 c2 c3 h0 n0 O0 gz gfm G P0) (wh hw 87 rfl) (wh hw 13 rfl) e10 P0.1  hml (argsL := [.int 3]) (rest := []) own_pd_20 d10_20 (fun _ T12 L12 X12 hQ12 => ?_)
        obtain ⟨Nc12, e12, rfl⟩ := hQ12
        have N12 := Fr.app N10 Nc12
        refine q_istore X12 hx hby d10_23 (l' := #[vR xa, vR xw, vI 4, vI 3, vI c3, uS]) rfl ?_
        refine q_iload X12 hx hby d10_25 rfl ?_
        refine q_ifYes (pc := 27) X12 hx hby d10_27 (pc' := 44) ((if0 _ _).trans (feq (show ¬ (c3 = (0 : Int32)) from (own_ne0 (by have := own_suF hc5; have := own_suF hc8; have := own_suF hc11; omega)))).2) (by decide) (by decide) ?_
        refine q_iload X12 hx hby d10_44 rfl ?_
        refine k_S X12 hx hby hZ hown (wh hw 104 rfl) (wh hw 105 rfl) (W := 0) (own_suC l Z a0 hw [] c3 h0 n0 O0) (wh hw 107 rfl) (wh hw 106 rfl) e12  hml (argsL := [.int c3]) (rest := []) own_pd_15 d10_46 (fun _ T13 L13 X13 hQ13 => ?_)
        obtain ⟨Nc13, e13, rfl⟩ := hQ13
        have N13 := Fr.app N12 Nc13
        refine q_ifYes (pc := 49) X13 hx hby d10_49 (pc' := 109) ((if0 _ _).trans (teq (show ((own_su c3) = (0 : Int32)) from (own_suZ (by have := own_suF hc5; have := own_suF hc8; have := own_suF hc11; omega)))).1) (by decide) (by decide) ?_
        refine gg (fun t k => XS.iinc X13.here hx rfl (hb hby d10_109) rfl (l' := #[vR xa, vR xw, vI 4, vI ((3 : Int32) + (1 : Int32)), vI c3, uS]) rfl k) ?_
        show own_Goes p e below (T13.setTop (mkF m 112 #[vR xa, vR xw, vI 4, vI ((3 : Int32) + (1 : Int32)), vI c3, uS] [])) _
        rw [show ((3 : Int32) + (1 : Int32)) = (4 : Int32) from by decide]
        refine q_goto (pc := 112) X13 hx hby d10_112 (pc' := 13) (by decide) (by decide) ?_
        refine q_iloadN X13 hx hby d10_13 rfl ?_
        refine q_iloadN X13 hx hby d10_14 rfl ?_
        refine q_icmpYes (pc := 15) X13 hx hby d10_15 (pc' := 115) (flt (show ¬ ((4 : Int32) < (4 : Int32)) from by decide)).2.1 (by decide) (by decide) ?_
        refine q_aloadN X13 hx hby d10_115 rfl rfl ?_
        refine r_R X13 hx hby hret hlk d10_116 e13 ?_
        exact ⟨N13, rfl, rfl⟩
      · refine q_ifNo X10 hx hby d10_49 ((if0 _ _).trans (feq hc11).1) ?_
        refine q_iload X10 hx hby d10_52 rfl ?_
        refine k_S X10 hx hby hZ hown (wh hw 141 rfl) (wh hw 142 rfl) (W := 0) (own_hsC l Z a0 hw [] c2 h0 n0 O0) (wh hw 143 rfl) (wh hw 106 rfl) e10  hml (argsL := [.int c2]) (rest := []) own_pd_15 d10_54 (fun _ T14 L14 X14 hQ14 => ?_)
        obtain ⟨Nc14, e14, rfl⟩ := hQ14
        have N14 := Fr.app N10 Nc14
        refine q_ifNo X14 hx hby d10_57 ((if0 _ _).trans (feq (show ¬ ((own_hs c2) = (0 : Int32)) from (own_hsN (by have := own_suF hc5; have := own_suF hc8; have := own_suT hc11; omega)))).1) ?_
        refine q_iloadN X14 hx hby d10_60 rfl ?_
        refine q_iconst X14 hx hby d10_61 ?_
        refine q_iadd X14 hx hby d10_62 ?_
        show own_Goes p e below (T14.setTop (mkF m 63 #[vR xa, vR xw, vI 4, vI 2, vI c2, uS] [(.int ((2 : Int32) + (1 : Int32)))])) _
        rw [show ((2 : Int32) + (1 : Int32)) = (3 : Int32) from by decide]
        refine q_iloadN X14 hx hby d10_63 rfl ?_
        refine q_icmpNo X14 hx hby d10_64 (tlt (show ((3 : Int32) < (4 : Int32)) from by decide)).2.1 ?_
        refine q_aloadN X14 hx hby d10_67 rfl rfl ?_
        refine q_iloadN X14 hx hby d10_68 rfl ?_
        refine q_iconst X14 hx hby d10_69 ?_
        refine q_iadd X14 hx hby d10_70 ?_
        show own_Goes p e below (T14.setTop (mkF m 71 #[vR xa, vR xw, vI 4, vI 2, vI c2, uS] [(.int ((2 : Int32) + (1 : Int32))), .ref xa])) _
        rw [show ((2 : Int32) + (1 : Int32)) = (3 : Int32) from by decide]
        refine k_V X14 hx hby hZ hown (wh hw 83 rfl) (wh hw 84 rfl) (wh hw 86 rfl) (wh hw 85 rfl) (W := 0) (own_ca4_3 l Z a0 hw [] xa xt c0 c1 c2 c3 h0 n0 O0 gz gfm G P0) (wh hw 87 rfl) (wh hw 13 rfl) e14 P0.1  hml (argsL := [.int 3]) (rest := []) own_pd_20 d10_71 (fun _ T15 L15 X15 hQ15 => ?_)
        obtain ⟨Nc15, e15, rfl⟩ := hQ15
        have N15 := Fr.app N14 Nc15
        refine k_S X15 hx hby hZ hown (wh hw 145 rfl) (wh hw 146 rfl) (W := 0) (own_lsC l Z a0 hw [] c3 h0 n0 O0) (wh hw 147 rfl) (wh hw 106 rfl) e15  hml (argsL := [.int c3]) (rest := []) own_pd_15 d10_74 (fun _ T16 L16 X16 hQ16 => ?_)
        obtain ⟨Nc16, e16, rfl⟩ := hQ16
        have N16 := Fr.app N15 Nc16
        refine q_ifNo X16 hx hby d10_77 ((if0 _ _).trans (feq (show ¬ ((own_ls c3) = (0 : Int32)) from (own_lsN (by have := own_suF hc5; have := own_suF hc8; have := own_suT hc11; omega)))).1) ?_
        refine q_iconst X16 hx hby d10_80 ?_
        refine q_goto (pc := 81) X16 hx hby d10_81 (pc' := 85) (by decide) (by decide) ?_
        refine q_istore X16 hx hby d10_85 (l' := #[vR xa, vR xw, vI 4, vI 2, vI c2, vI 1]) rfl ?_
        refine q_iload X16 hx hby d10_87 rfl ?_
        refine q_ifYes (pc := 89) X16 hx hby d10_89 (pc' := 106) ((if0 _ _).trans (feq (show ¬ ((1 : Int32) = (0 : Int32)) from by decide)).2) (by decide) (by decide) ?_
        refine gg (fun t k => XS.iinc X16.here hx rfl (hb hby d10_106) rfl (l' := #[vR xa, vR xw, vI 4, vI ((2 : Int32) + (1 : Int32)), vI c2, vI 1]) rfl k) ?_
        show own_Goes p e below (T16.setTop (mkF m 109 #[vR xa, vR xw, vI 4, vI ((2 : Int32) + (1 : Int32)), vI c2, vI 1] [])) _
        rw [show ((2 : Int32) + (1 : Int32)) = (3 : Int32) from by decide]
        refine gg (fun t k => XS.iinc X16.here hx rfl (hb hby d10_109) rfl (l' := #[vR xa, vR xw, vI 4, vI ((3 : Int32) + (1 : Int32)), vI c2, vI 1]) rfl k) ?_
        show own_Goes p e below (T16.setTop (mkF m 112 #[vR xa, vR xw, vI 4, vI ((3 : Int32) + (1 : Int32)), vI c2, vI 1] [])) _
        rw [show ((3 : Int32) + (1 : Int32)) = (4 : Int32) from by decide]
        refine q_goto (pc := 112) X16 hx hby d10_112 (pc' := 13) (by decide) (by decide) ?_
        refine q_iloadN X16 hx hby d10_13 rfl ?_
        refine q_iloadN X16 hx hby d10_14 rfl ?_
        refine q_icmpYes (pc := 15) X16 hx hby d10_15 (pc' := 115) (flt (show ¬ ((4 : Int32) < (4 : Int32)) from by decide)).2.1 (by decide) (by decide) ?_
        refine q_aloadN X16 hx hby d10_115 rfl rfl ?_
        refine r_R X16 hx hby hret hlk d10_116 e16 ?_
        exact ⟨N16, rfl, rfl⟩
    · refine q_ifNo X7 hx hby d10_49 ((if0 _ _).trans (feq hc8).1) ?_
      refine q_iload X7 hx hby d10_52 rfl ?_
      refine k_S X7 hx hby hZ hown (wh hw 141 rfl) (wh hw 142 rfl) (W := 0) (own_hsC l Z a0 hw [] c1 h0 n0 O0) (wh hw 143 rfl) (wh hw 106 rfl) e7  hml (argsL := [.int c1]) (rest := []) own_pd_15 d10_54 (fun _ T17 L17 X17 hQ17 => ?_)
      obtain ⟨Nc17, e17, rfl⟩ := hQ17
      have N17 := Fr.app N7 Nc17
      refine q_ifNo X17 hx hby d10_57 ((if0 _ _).trans (feq (show ¬ ((own_hs c1) = (0 : Int32)) from (own_hsN (by have := own_suF hc5; have := own_suT hc8; omega)))).1) ?_
      refine q_iloadN X17 hx hby d10_60 rfl ?_
      refine q_iconst X17 hx hby d10_61 ?_
      refine q_iadd X17 hx hby d10_62 ?_
      show own_Goes p e below (T17.setTop (mkF m 63 #[vR xa, vR xw, vI 4, vI 1, vI c1, uS] [(.int ((1 : Int32) + (1 : Int32)))])) _
      rw [show ((1 : Int32) + (1 : Int32)) = (2 : Int32) from by decide]
      refine q_iloadN X17 hx hby d10_63 rfl ?_
      refine q_icmpNo X17 hx hby d10_64 (tlt (show ((2 : Int32) < (4 : Int32)) from by decide)).2.1 ?_
      refine q_aloadN X17 hx hby d10_67 rfl rfl ?_
      refine q_iloadN X17 hx hby d10_68 rfl ?_
      refine q_iconst X17 hx hby d10_69 ?_
      refine q_iadd X17 hx hby d10_70 ?_
      show own_Goes p e below (T17.setTop (mkF m 71 #[vR xa, vR xw, vI 4, vI 1, vI c1, uS] [(.int ((1 : Int32) + (1 : Int32))), .ref xa])) _
      rw [show ((1 : Int32) + (1 : Int32)) = (2 : Int32) from by decide]
      refine k_V X17 hx hby hZ hown (wh hw 83 rfl) (wh hw 84 rfl) (wh hw 86 rfl) (wh hw 85 rfl) (W := 0) (own_ca4_2 l Z a0 hw [] xa xt c0 c1 c2 c3 h0 n0 O0 gz gfm G P0) (wh hw 87 rfl) (wh hw 13 rfl) e17 P0.1  hml (argsL := [.int 2]) (rest := []) own_pd_20 d10_71 (fun _ T18 L18 X18 hQ18 => ?_)
      obtain ⟨Nc18, e18, rfl⟩ := hQ18
      have N18 := Fr.app N17 Nc18
      refine k_S X18 hx hby hZ hown (wh hw 145 rfl) (wh hw 146 rfl) (W := 0) (own_lsC l Z a0 hw [] c2 h0 n0 O0) (wh hw 147 rfl) (wh hw 106 rfl) e18  hml (argsL := [.int c2]) (rest := []) own_pd_15 d10_74 (fun _ T19 L19 X19 hQ19 => ?_)
      obtain ⟨Nc19, e19, rfl⟩ := hQ19
      have N19 := Fr.app N18 Nc19
      refine q_ifNo X19 hx hby d10_77 ((if0 _ _).trans (feq (show ¬ ((own_ls c2) = (0 : Int32)) from (own_lsN (by have := own_suF hc5; have := own_suT hc8; omega)))).1) ?_
      refine q_iconst X19 hx hby d10_80 ?_
      refine q_goto (pc := 81) X19 hx hby d10_81 (pc' := 85) (by decide) (by decide) ?_
      refine q_istore X19 hx hby d10_85 (l' := #[vR xa, vR xw, vI 4, vI 1, vI c1, vI 1]) rfl ?_
      refine q_iload X19 hx hby d10_87 rfl ?_
      refine q_ifYes (pc := 89) X19 hx hby d10_89 (pc' := 106) ((if0 _ _).trans (feq (show ¬ ((1 : Int32) = (0 : Int32)) from by decide)).2) (by decide) (by decide) ?_
      refine gg (fun t k => XS.iinc X19.here hx rfl (hb hby d10_106) rfl (l' := #[vR xa, vR xw, vI 4, vI ((1 : Int32) + (1 : Int32)), vI c1, vI 1]) rfl k) ?_
      show own_Goes p e below (T19.setTop (mkF m 109 #[vR xa, vR xw, vI 4, vI ((1 : Int32) + (1 : Int32)), vI c1, vI 1] [])) _
      rw [show ((1 : Int32) + (1 : Int32)) = (2 : Int32) from by decide]
      refine gg (fun t k => XS.iinc X19.here hx rfl (hb hby d10_109) rfl (l' := #[vR xa, vR xw, vI 4, vI ((2 : Int32) + (1 : Int32)), vI c1, vI 1]) rfl k) ?_
      show own_Goes p e below (T19.setTop (mkF m 112 #[vR xa, vR xw, vI 4, vI ((2 : Int32) + (1 : Int32)), vI c1, vI 1] [])) _
      rw [show ((2 : Int32) + (1 : Int32)) = (3 : Int32) from by decide]
      refine q_goto (pc := 112) X19 hx hby d10_112 (pc' := 13) (by decide) (by decide) ?_
      refine q_iloadN X19 hx hby d10_13 rfl ?_
      refine q_iloadN X19 hx hby d10_14 rfl ?_
      refine q_icmpNo X19 hx hby d10_15 (tlt (show ((3 : Int32) < (4 : Int32)) from by decide)).2.1 ?_
      refine q_aloadN X19 hx hby d10_18 rfl rfl ?_
      refine q_iloadN X19 hx hby d10_19 rfl ?_
      refine k_V X19 hx hby hZ hown (wh hw 83 rfl) (wh hw 84 rfl) (wh hw 86 rfl) (wh hw 85 rfl) (W := 0) (own_ca4_3 l Z a0 hw [] xa xt c0 c1 c2 c3 h0 n0 O0 gz gfm G P0) (wh hw 87 rfl) (wh hw 13 rfl) e19 P0.1  hml (argsL := [.int 3]) (rest := []) own_pd_20 d10_20 (fun _ T20 L20 X20 hQ20 => ?_)
      obtain ⟨Nc20, e20, rfl⟩ := hQ20
      have N20 := Fr.app N19 Nc20
      refine q_istore X20 hx hby d10_23 (l' := #[vR xa, vR xw, vI 4, vI 3, vI c3, vI 1]) rfl ?_
      refine q_iload X20 hx hby d10_25 rfl ?_
      refine q_ifYes (pc := 27) X20 hx hby d10_27 (pc' := 44) ((if0 _ _).trans (feq (show ¬ (c3 = (0 : Int32)) from (own_ne0 (by have := own_suF hc5; have := own_suT hc8; omega)))).2) (by decide) (by decide) ?_
      refine q_iload X20 hx hby d10_44 rfl ?_
      refine k_S X20 hx hby hZ hown (wh hw 104 rfl) (wh hw 105 rfl) (W := 0) (own_suC l Z a0 hw [] c3 h0 n0 O0) (wh hw 107 rfl) (wh hw 106 rfl) e20  hml (argsL := [.int c3]) (rest := []) own_pd_15 d10_46 (fun _ T21 L21 X21 hQ21 => ?_)
      obtain ⟨Nc21, e21, rfl⟩ := hQ21
      have N21 := Fr.app N20 Nc21
      refine q_ifYes (pc := 49) X21 hx hby d10_49 (pc' := 109) ((if0 _ _).trans (teq (show ((own_su c3) = (0 : Int32)) from (own_suZ (by have := own_suF hc5; have := own_suT hc8; omega)))).1) (by decide) (by decide) ?_
      refine gg (fun t k => XS.iinc X21.here hx rfl (hb hby d10_109) rfl (l' := #[vR xa, vR xw, vI 4, vI ((3 : Int32) + (1 : Int32)), vI c3, vI 1]) rfl k) ?_
      show own_Goes p e below (T21.setTop (mkF m 112 #[vR xa, vR xw, vI 4, vI ((3 : Int32) + (1 : Int32)), vI c3, vI 1] [])) _
      rw [show ((3 : Int32) + (1 : Int32)) = (4 : Int32) from by decide]
      refine q_goto (pc := 112) X21 hx hby d10_112 (pc' := 13) (by decide) (by decide) ?_
      refine q_iloadN X21 hx hby d10_13 rfl ?_
      refine q_iloadN X21 hx hby d10_14 rfl ?_
      refine q_icmpYes (pc := 15) X21 hx hby d10_15 (pc' := 115) (flt (show ¬ ((4 : Int32) < (4 : Int32)) from by decide)).2.1 (by decide) (by decide) ?_
      refine q_aloadN X21 hx hby d10_115 rfl rfl ?_
      refine r_R X21 hx hby hret hlk d10_116 e21 ?_
      exact ⟨N21, rfl, rfl⟩
  · refine q_ifNo X4 hx hby d10_49 ((if0 _ _).trans (feq hc5).1) ?_
    refine q_iload X4 hx hby d10_52 rfl ?_
    refine k_S X4 hx hby hZ hown (wh hw 141 rfl) (wh hw 142 rfl) (W := 0) (own_hsC l Z a0 hw [] c0 h0 n0 O0) (wh hw 143 rfl) (wh hw 106 rfl) e4  hml (argsL := [.int c0]) (rest := []) own_pd_15 d10_54 (fun _ T22 L22 X22 hQ22 => ?_)
    obtain ⟨Nc22, e22, rfl⟩ := hQ22
    have N22 := Fr.app N4 Nc22
    refine q_ifNo X22 hx hby d10_57 ((if0 _ _).trans (feq (show ¬ ((own_hs c0) = (0 : Int32)) from (own_hsN (by have := own_suT hc5; omega)))).1) ?_
    refine q_iloadN X22 hx hby d10_60 rfl ?_
    refine q_iconst X22 hx hby d10_61 ?_
    refine q_iadd X22 hx hby d10_62 ?_
    show own_Goes p e below (T22.setTop (mkF m 63 #[vR xa, vR xw, vI 4, vI 0, vI c0, uS] [(.int ((0 : Int32) + (1 : Int32)))])) _
    rw [show ((0 : Int32) + (1 : Int32)) = (1 : Int32) from by decide]
    refine q_iloadN X22 hx hby d10_63 rfl ?_
    refine q_icmpNo X22 hx hby d10_64 (tlt (show ((1 : Int32) < (4 : Int32)) from by decide)).2.1 ?_
    refine q_aloadN X22 hx hby d10_67 rfl rfl ?_
    refine q_iloadN X22 hx hby d10_68 rfl ?_
    refine q_iconst X22 hx hby d10_69 ?_
    refine q_iadd X22 hx hby d10_70 ?_
    show own_Goes p e below (T22.setTop (mkF m 71 #[vR xa, vR xw, vI 4, vI 0, vI c0, uS] [(.int ((0 : Int32) + (1 : Int32))), .ref xa])) _
    rw [show ((0 : Int32) + (1 : Int32)) = (1 : Int32) from by decide]
    refine k_V X22 hx hby hZ hown (wh hw 83 rfl) (wh hw 84 rfl) (wh hw 86 rfl) (wh hw 85 rfl) (W := 0) (own_ca4_1 l Z a0 hw [] xa xt c0 c1 c2 c3 h0 n0 O0 gz gfm G P0) (wh hw 87 rfl) (wh hw 13 rfl) e22 P0.1  hml (argsL := [.int 1]) (rest := []) own_pd_20 d10_71 (fun _ T23 L23 X23 hQ23 => ?_)
    obtain ⟨Nc23, e23, rfl⟩ := hQ23
    have N23 := Fr.app N22 Nc23
    refine k_S X23 hx hby hZ hown (wh hw 145 rfl) (wh hw 146 rfl) (W := 0) (own_lsC l Z a0 hw [] c1 h0 n0 O0) (wh hw 147 rfl) (wh hw 106 rfl) e23  hml (argsL := [.int c1]) (rest := []) own_pd_15 d10_74 (fun _ T24 L24 X24 hQ24 => ?_)
    obtain ⟨Nc24, e24, rfl⟩ := hQ24
    have N24 := Fr.app N23 Nc24
    refine q_ifNo X24 hx hby d10_77 ((if0 _ _).trans (feq (show ¬ ((own_ls c1) = (0 : Int32)) from (own_lsN (by have := own_suT hc5; omega)))).1) ?_
    refine q_iconst X24 hx hby d10_80 ?_
    refine q_goto (pc := 81) X24 hx hby d10_81 (pc' := 85) (by decide) (by decide) ?_
    refine q_istore X24 hx hby d10_85 (l' := #[vR xa, vR xw, vI 4, vI 0, vI c0, vI 1]) rfl ?_
    refine q_iload X24 hx hby d10_87 rfl ?_
    refine q_ifYes (pc := 89) X24 hx hby d10_89 (pc' := 106) ((if0 _ _).trans (feq (show ¬ ((1 : Int32) = (0 : Int32)) from by decide)).2) (by decide) (by decide) ?_
    refine gg (fun t k => XS.iinc X24.here hx rfl (hb hby d10_106) rfl (l' := #[vR xa, vR xw, vI 4, vI ((0 : Int32) + (1 : Int32)), vI c0, vI 1]) rfl k) ?_
    show own_Goes p e below (T24.setTop (mkF m 109 #[vR xa, vR xw, vI 4, vI ((0 : Int32) + (1 : Int32)), vI c0, vI 1] [])) _
    rw [show ((0 : Int32) + (1 : Int32)) = (1 : Int32) from by decide]
    refine gg (fun t k => XS.iinc X24.here hx rfl (hb hby d10_109) rfl (l' := #[vR xa, vR xw, vI 4, vI ((1 : Int32) + (1 : Int32)), vI c0, vI 1]) rfl k) ?_
    show own_Goes p e below (T24.setTop (mkF m 112 #[vR xa, vR xw, vI 4, vI ((1 : Int32) + (1 : Int32)), vI c0, vI 1] [])) _
    rw [show ((1 : Int32) + (1 : Int32)) = (2 : Int32) from by decide]
    refine q_goto (pc := 112) X24 hx hby d10_112 (pc' := 13) (by decide) (by decide) ?_
    refine q_iloadN X24 hx hby d10_13 rfl ?_
    refine q_iloadN X24 hx hby d10_14 rfl ?_
    refine q_icmpNo X24 hx hby d10_15 (tlt (show ((2 : Int32) < (4 : Int32)) from by decide)).2.1 ?_
    refine q_aloadN X24 hx hby d10_18 rfl rfl ?_
    refine q_iloadN X24 hx hby d10_19 rfl ?_
    refine k_V X24 hx hby hZ hown (wh hw 83 rfl) (wh hw 84 rfl) (wh hw 86 rfl) (wh hw 85 rfl) (W := 0) (own_ca4_2 l Z a0 hw [] xa xt c0 c1 c2 c3 h0 n0 O0 gz gfm G P0) (wh hw 87 rfl) (wh hw 13 rfl) e24 P0.1  hml (argsL := [.int 2]) (rest := []) own_pd_20 d10_20 (fun _ T25 L25 X25 hQ25 => ?_)
    obtain ⟨Nc25, e25, rfl⟩ := hQ25
    have N25 := Fr.app N24 Nc25
    refine q_istore X25 hx hby d10_23 (l' := #[vR xa, vR xw, vI 4, vI 2, vI c2, vI 1]) rfl ?_
    refine q_iload X25 hx hby d10_25 rfl ?_
    refine q_ifYes (pc := 27) X25 hx hby d10_27 (pc' := 44) ((if0 _ _).trans (feq (show ¬ (c2 = (0 : Int32)) from (own_ne0 (by have := own_suT hc5; omega)))).2) (by decide) (by decide) ?_
    refine q_iload X25 hx hby d10_44 rfl ?_
    refine k_S X25 hx hby hZ hown (wh hw 104 rfl) (wh hw 105 rfl) (W := 0) (own_suC l Z a0 hw [] c2 h0 n0 O0) (wh hw 107 rfl) (wh hw 106 rfl) e25  hml (argsL := [.int c2]) (rest := []) own_pd_15 d10_46 (fun _ T26 L26 X26 hQ26 => ?_)
    obtain ⟨Nc26, e26, rfl⟩ := hQ26
    have N26 := Fr.app N25 Nc26
    by_cases hc27 : (own_su c2) = (0 : Int32)
    · refine q_ifYes (pc := 49) X26 hx hby d10_49 (pc' := 109) ((if0 _ _).trans (teq hc27).1) (by decide) (by decide) ?_
      refine gg (fun t k => XS.iinc X26.here hx rfl (hb hby d10_109) rfl (l' := #[vR xa, vR xw, vI 4, vI ((2 : Int32) + (1 : Int32)), vI c2, vI 1]) rfl k) ?_
      show own_Goes p e below (T26.setTop (mkF m 112 #[vR xa, vR xw, vI 4, vI ((2 : Int32) + (1 : Int32)), vI c2, vI 1] [])) _
      rw [show ((2 : Int32) + (1 : Int32)) = (3 : Int32) from by decide]
      refine q_goto (pc := 112) X26 hx hby d10_112 (pc' := 13) (by decide) (by decide) ?_
      refine q_iloadN X26 hx hby d10_13 rfl ?_
      refine q_iloadN X26 hx hby d10_14 rfl ?_
      refine q_icmpNo X26 hx hby d10_15 (tlt (show ((3 : Int32) < (4 : Int32)) from by decide)).2.1 ?_
      refine q_aloadN X26 hx hby d10_18 rfl rfl ?_
      refine q_iloadN X26 hx hby d10_19 rfl ?_
      refine k_V X26 hx hby hZ hown (wh hw 83 rfl) (wh hw 84 rfl) (wh hw 86 rfl) (wh hw 85 rfl) (W := 0) (own_ca4_3 l Z a0 hw [] xa xt c0 c1 c2 c3 h0 n0 O0 gz gfm G P0) (wh hw 87 rfl) (wh hw 13 rfl) e26 P0.1  hml (argsL := [.int 3]) (rest := []) own_pd_20 d10_20 (fun _ T28 L28 X28 hQ28 => ?_)
      obtain ⟨Nc28, e28, rfl⟩ := hQ28
      have N28 := Fr.app N26 Nc28
      refine q_istore X28 hx hby d10_23 (l' := #[vR xa, vR xw, vI 4, vI 3, vI c3, vI 1]) rfl ?_
      refine q_iload X28 hx hby d10_25 rfl ?_
      refine q_ifYes (pc := 27) X28 hx hby d10_27 (pc' := 44) ((if0 _ _).trans (feq (show ¬ (c3 = (0 : Int32)) from (own_ne0 (by have := own_suT hc5; have := own_suF hc27; omega)))).2) (by decide) (by decide) ?_
      refine q_iload X28 hx hby d10_44 rfl ?_
      refine k_S X28 hx hby hZ hown (wh hw 104 rfl) (wh hw 105 rfl) (W := 0) (own_suC l Z a0 hw [] c3 h0 n0 O0) (wh hw 107 rfl) (wh hw 106 rfl) e28  hml (argsL := [.int c3]) (rest := []) own_pd_15 d10_46 (fun _ T29 L29 X29 hQ29 => ?_)
      obtain ⟨Nc29, e29, rfl⟩ := hQ29
      have N29 := Fr.app N28 Nc29
      refine q_ifYes (pc := 49) X29 hx hby d10_49 (pc' := 109) ((if0 _ _).trans (teq (show ((own_su c3) = (0 : Int32)) from (own_suZ (by have := own_suT hc5; have := own_suF hc27; omega)))).1) (by decide) (by decide) ?_
      refine gg (fun t k => XS.iinc X29.here hx rfl (hb hby d10_109) rfl (l' := #[vR xa, vR xw, vI 4, vI ((3 : Int32) + (1 : Int32)), vI c3, vI 1]) rfl k) ?_
      show own_Goes p e below (T29.setTop (mkF m 112 #[vR xa, vR xw, vI 4, vI ((3 : Int32) + (1 : Int32)), vI c3, vI 1] [])) _
      rw [show ((3 : Int32) + (1 : Int32)) = (4 : Int32) from by decide]
      refine q_goto (pc := 112) X29 hx hby d10_112 (pc' := 13) (by decide) (by decide) ?_
      refine q_iloadN X29 hx hby d10_13 rfl ?_
      refine q_iloadN X29 hx hby d10_14 rfl ?_
      refine q_icmpYes (pc := 15) X29 hx hby d10_15 (pc' := 115) (flt (show ¬ ((4 : Int32) < (4 : Int32)) from by decide)).2.1 (by decide) (by decide) ?_
      refine q_aloadN X29 hx hby d10_115 rfl rfl ?_
      refine r_R X29 hx hby hret hlk d10_116 e29 ?_
      exact ⟨N29, rfl, rfl⟩
    · refine q_ifNo X26 hx hby d10_49 ((if0 _ _).trans (feq hc27).1) ?_
      refine q_iload X26 hx hby d10_52 rfl ?_
      refine k_S X26 hx hby hZ hown (wh hw 141 rfl) (wh hw 142 rfl) (W := 0) (own_hsC l Z a0 hw [] c2 h0 n0 O0) (wh hw 143 rfl) (wh hw 106 rfl) e26  hml (argsL := [.int c2]) (rest := []) own_pd_15 d10_54 (fun _ T30 L30 X30 hQ30 => ?_)
      obtain ⟨Nc30, e30, rfl⟩ := hQ30
      have N30 := Fr.app N26 Nc30
      refine q_ifNo X30 hx hby d10_57 ((if0 _ _).trans (feq (show ¬ ((own_hs c2) = (0 : Int32)) from (own_hsN (by have := own_suT hc5; have := own_suT hc27; omega)))).1) ?_
      refine q_iloadN X30 hx hby d10_60 rfl ?_
      refine q_iconst X30 hx hby d10_61 ?_
      refine q_iadd X30 hx hby d10_62 ?_
      show own_Goes p e below (T30.setTop (mkF m 63 #[vR xa, vR xw, vI 4, vI 2, vI c2, vI 1] [(.int ((2 : Int32) + (1 : Int32)))])) _
      rw [show ((2 : Int32) + (1 : Int32)) = (3 : Int32) from by decide]
      refine q_iloadN X30 hx hby d10_63 rfl ?_
      refine q_icmpNo X30 hx hby d10_64 (tlt (show ((3 : Int32) < (4 : Int32)) from by decide)).2.1 ?_
      refine q_aloadN X30 hx hby d10_67 rfl rfl ?_
      refine q_iloadN X30 hx hby d10_68 rfl ?_
      refine q_iconst X30 hx hby d10_69 ?_
      refine q_iadd X30 hx hby d10_70 ?_
      show own_Goes p e below (T30.setTop (mkF m 71 #[vR xa, vR xw, vI 4, vI 2, vI c2, vI 1] [(.int ((2 : Int32) + (1 : Int32))), .ref xa])) _
      rw [show ((2 : Int32) + (1 : Int32)) = (3 : Int32) from by decide]
      refine k_V X30 hx hby hZ hown (wh hw 83 rfl) (wh hw 84 rfl) (wh hw 86 rfl) (wh hw 85 rfl) (W := 0) (own_ca4_3 l Z a0 hw [] xa xt c0 c1 c2 c3 h0 n0 O0 gz gfm G P0) (wh hw 87 rfl) (wh hw 13 rfl) e30 P0.1  hml (argsL := [.int 3]) (rest := []) own_pd_20 d10_71 (fun _ T31 L31 X31 hQ31 => ?_)
      obtain ⟨Nc31, e31, rfl⟩ := hQ31
      have N31 := Fr.app N30 Nc31
      refine k_S X31 hx hby hZ hown (wh hw 145 rfl) (wh hw 146 rfl) (W := 0) (own_lsC l Z a0 hw [] c3 h0 n0 O0) (wh hw 147 rfl) (wh hw 106 rfl) e31  hml (argsL := [.int c3]) (rest := []) own_pd_15 d10_74 (fun _ T32 L32 X32 hQ32 => ?_)
      obtain ⟨Nc32, e32, rfl⟩ := hQ32
      have N32 := Fr.app N31 Nc32
      refine q_ifNo X32 hx hby d10_77 ((if0 _ _).trans (feq (show ¬ ((own_ls c3) = (0 : Int32)) from (own_lsN (by have := own_suT hc5; have := own_suT hc27; omega)))).1) ?_
      refine q_iconst X32 hx hby d10_80 ?_
      refine q_goto (pc := 81) X32 hx hby d10_81 (pc' := 85) (by decide) (by decide) ?_
      refine q_istore X32 hx hby d10_85 (l' := #[vR xa, vR xw, vI 4, vI 2, vI c2, vI 1]) rfl ?_
      refine q_iload X32 hx hby d10_87 rfl ?_
      refine q_ifYes (pc := 89) X32 hx hby d10_89 (pc' := 106) ((if0 _ _).trans (feq (show ¬ ((1 : Int32) = (0 : Int32)) from by decide)).2) (by decide) (by decide) ?_
      refine gg (fun t k => XS.iinc X32.here hx rfl (hb hby d10_106) rfl (l' := #[vR xa, vR xw, vI 4, vI ((2 : Int32) + (1 : Int32)), vI c2, vI 1]) rfl k) ?_
      show own_Goes p e below (T32.setTop (mkF m 109 #[vR xa, vR xw, vI 4, vI ((2 : Int32) + (1 : Int32)), vI c2, vI 1] [])) _
      rw [show ((2 : Int32) + (1 : Int32)) = (3 : Int32) from by decide]
      refine gg (fun t k => XS.iinc X32.here hx rfl (hb hby d10_109) rfl (l' := #[vR xa, vR xw, vI 4, vI ((3 : Int32) + (1 : Int32)), vI c2, vI 1]) rfl k) ?_
      show own_Goes p e below (T32.setTop (mkF m 112 #[vR xa, vR xw, vI 4, vI ((3 : Int32) + (1 : Int32)), vI c2, vI 1] [])) _
      rw [show ((3 : Int32) + (1 : Int32)) = (4 : Int32) from by decide]
      refine q_goto (pc := 112) X32 hx hby d10_112 (pc' := 13) (by decide) (by decide) ?_
      refine q_iloadN X32 hx hby d10_13 rfl ?_
      refine q_iloadN X32 hx hby d10_14 rfl ?_
      refine q_icmpYes (pc := 15) X32 hx hby d10_15 (pc' := 115) (flt (show ¬ ((4 : Int32) < (4 : Int32)) from by decide)).2.1 (by decide) (by decide) ?_
      refine q_aloadN X32 hx hby d10_115 rfl rfl ?_
      refine r_R X32 hx hby hret hlk d10_116 e32 ?_
      exact ⟨N32, rfl, rfl⟩
abbrev own_m21 : MethodName := ⟨"com/example/circa_once/circaonce/model/StorableTextRequirePinLaw", "draw", "(I)C"⟩
theorem own_pd_22 : parseMethodDescriptor "([CI)Z" = some ⟨[(.array .char), .int], some .boolean⟩ := by decide +kernel
abbrev own_m23 : MethodName := ⟨"com/example/circa_once/circaonce/model/StorableTextRequirePinLaw", "fits", "([CI)Z"⟩
theorem own_pd_24 : parseMethodDescriptor "([C)V" = some ⟨[(.array .char)], none⟩ := by decide +kernel
abbrev own_m25 : MethodName := ⟨"java/lang/String", "<init>", "([C)V"⟩
theorem own_pd_26 : parseMethodDescriptor "(C)Ljava/lang/String;" = some ⟨[.char], some (.object "java/lang/String")⟩ := by decide +kernel
abbrev own_m27 : MethodName := ⟨"java/lang/String", "valueOf", "(C)Ljava/lang/String;"⟩
theorem own_pd_28 : parseMethodDescriptor "(Ljava/lang/String;Ljava/lang/String;)Ljava/lang/String;" = some ⟨[(.object "java/lang/String"), (.object "java/lang/String")], some (.object "java/lang/String")⟩ := by decide +kernel
abbrev own_m29 : MethodName := ⟨"com/example/circa_once/circaonce/model/StorableText", "require", "(Ljava/lang/String;Ljava/lang/String;)Ljava/lang/String;"⟩
theorem own_ef_rm0 (m : MethodId) (x0 : Int32) (x1 : Int32) (x2 : Int32) (x3 : Int32) (x4 : Int32) : entryFrame m #[.int x0, .int x1, .int x2, .int x3, .int x4] maxLocals = mkF m 0 #[vI x0, vI x1, vI x2, vI x3, vI x4, uS, uS, uS, uS, uS, uS, uS, uS, uS, uS] [] := by first | (simp [entryFrame, mkF, argsToLocals, Value.category, maxLocals]; done) | rfl
def Q_rm0 (Z : State) (x0 : Int32) (x1 : Int32) (x2 : Int32) (x3 : Int32) (x4 : Int32) (gz : Int32) (gfm : Value) (h0 : Heap) (n0 : Nat) (v : Option Value) (h : Heap) (L : List Loc) : Prop := Fr n0 L ∧ True ∧ v = some (.int 1)
theorem rm0 (l : Launch) (Z : State) (a0 : Array Value) (hw : ∀ d ∈ tables_1, d.before a0 Z = true) (ws : List Jvm.Cond) (x0 : Int32) (x1 : Int32) (x2 : Int32) (x3 : Int32) (x4 : Int32) (h0 : Heap) (n0 : Nat) (O0 : Old Z n0 h0) (gz : Int32) (gfm : Value) (G : GG Z gz gfm) :
    MetFree l x (head1 (Jvm.Cond.code x code maxLocals ret :: ws) room_1) (fun as_ U_ => as_ = #[.int x0, .int x1, .int x2, .int x3, .int x4] ∧ Z.Warmed39 U_.vm ∧ U_.heap = h0 ∧ CHv Z consts_1 U_.vm h0) (fun _ _ _ _ _ => True) (fun _ U_ o_ U2_ => ∃ v_ L_, o_ = .returned v_ ∧ Q_rm0 Z x0 x1 x2 x3 x4 gz gfm h0 n0 v_ U2_.heap L_ ∧ CHr Z consts_1 U_.vm U_.heap U2_.vm U2_.heap ∧ ReturnedEndW U_ o_ U2_ L_ room_1.cells room_1.slots) := by
  refine MetFree.of_bodySF (plainFor_of_name own_pn_com_example_circa_once_circaonce_model_StorableTextRequirePinLaw) hisR ?_
  intro p e s m args below meth c s₁ Bd hml0 hP hK
  obtain ⟨rfl, hZ, hh, hC0⟩ := hP
  have hx := Bd.exec
  have hby := Bd.bytes
  have hml : c.maxLocals = 15 := hml0
  have hown : s.vm.findClass "com/example/circa_once/circaonce/model/StorableTextRequirePinLaw" = some m.cls := findClass_of_methodNamed Bd.named
  have hnm := (name_of_methodNamed Bd.named Bd.method).1
  have hlk : meth.locks = false := Bd.notSynchronized
  have hret := Bd.returns
  have X0 : Stand p l e room_1 s m #[.int x0, .int x1, .int x2, .int x3, .int x4] below meth c s₁ [] 0 0 := Stand.of_body Bd
  have e0 : s₁.heap = h0 := by rw [← hh, Bd.state]; rfl
  have N0 := Fr.nil n0
  have z0 : Z.heap.size = n0 := O0.1
  have z1 : n0 ≤ h0.size := z0 ▸ O0.2.1
  have hS0 : s.Since s.vm 0 := (State.WarmedH.refl s).since 0
  have hk0 : 0 ≤ h0.size := Nat.zero_le _
  replace X0 : Stand p l e room_1 (s.setVm s.vm) m #[.int x0, .int x1, .int x2, .int x3, .int x4] below meth c s₁ [] 0 0 := X0
  have CR0 := CHr.refl hC0
  show own_Goes p e below (s₁.setTop (entryFrame m #[.int x0, .int x1, .int x2, .int x3, .int x4] maxLocals)) (own_PostH Z consts_1 s (Q_rm0 Z x0 x1 x2 x3 x4 gz gfm h0 n0) room_1.cells room_1.slots)
  refine own_cast (own_ef_rm0 m x0 x1 x2 x3 x4) ?_
  show own_Goes p e below (s₁.setTop (mkF m 0 #[vI x0, vI x1, vI x2, vI x3, vI x4, uS, uS, uS, uS, uS, uS, uS, uS, uS, uS] [])) _
  obtain ⟨G0, G1, G2, G3, G4, G5, G6⟩ := id G
  refine q_iload X0 hx hby at_0 rfl ?_
  refine gg (fun t k => Jvm.Stand.ldcI X0 hx hown (mv hZ (wh hw 0 rfl)) rfl (hb hby at_2) k) ?_
  refine q_iand X0 hx hby at_4 ?_
  refine q_iconst X0 hx hby at_5 ?_
  refine gg (fun t k => iremM X0 hx rfl (hb hby at_6) rfl (by decide) k) ?_
  refine q_istore X0 hx hby at_7 (l' := #[vI x0, vI x1, vI x2, vI x3, vI x4, vI ((x4 &&& (2147483647 : Int32)) % (5 : Int32)), uS, uS, uS, uS, uS, uS, uS, uS, uS]) rfl ?_
  refine q_iloadN X0 hx hby at_9 rfl ?_
  obtain ⟨_, _, ⟨T1, L1, k1, n1⟩, -, X1, ⟨Lc1, hQ1, l1, y1, z1⟩, st1⟩ := Jvm.LawKit.callS X0 hx (y := own_m21) hown (mvT hZ (wh hw 1 rfl)) (mvT hZ (wh hw 2 rfl)) (mvT hZ (wh hw 3 rfl)) (mvT hZ (wh hw 4 rfl)) (by decide) (backOf (W := 0) (own_draw l Z a0 hw [] x0 h0 n0 O0) hZ (wh hw 4 rfl) (wh hw 3 rfl) (by decide) (by decide)) (g := (mkF m 10 #[vI x0, vI x1, vI x2, vI x3, vI x4, vI ((x4 &&& (2147483647 : Int32)) % (5 : Int32)), uS, uS, uS, uS, uS, uS, uS, uS, uS] [.int x0])) rfl (by rw [hml]; rfl) (argsL := [.int x0]) (rest := []) (lenOf own_pd_20 rfl) rfl (by show 2 * 0 + _ ≤ _; exact Nat.le_of_eq rfl) (hb hby at_10) (fun _ _ => ⟨rfl, e0, (by decide : 0 + 0 ≤ _), (by decide : 0 + 0 ≤ _)⟩)
  dsimp only [Pt.U, Pt.locs, Pt.cells, Pt.slots] at X1 l1 y1 z1 st1 hQ1
  subst l1 y1 z1
  obtain ⟨Nc1, e1, r_1, rfl, c1_0⟩ := hQ1
  have N1 := Fr.app N0 Nc1
  refine gg st1 ?_
  refine q_istore X1 hx hby at_13 (l' := #[vI x0, vI x1, vI x2, vI x3, vI x4, vI ((x4 &&& (2147483647 : Int32)) % (5 : Int32)), vI r_1, uS, uS, uS, uS, uS, uS, uS, uS]) rfl ?_
  refine q_iloadN X1 hx hby at_15 rfl ?_
  obtain ⟨_, _, ⟨T2, L2, k2, n2⟩, -, X2, ⟨Lc2, hQ2, l2, y2, z2⟩, st2⟩ := Jvm.LawKit.callS X1 hx (y := own_m21) hown (mvT hZ (wh hw 1 rfl)) (mvT hZ (wh hw 2 rfl)) (mvT hZ (wh hw 3 rfl)) (mvT hZ (wh hw 4 rfl)) (by decide) (backOf (W := 0) (own_draw l Z a0 hw [] x1 h0 n0 O0) hZ (wh hw 4 rfl) (wh hw 3 rfl) (by decide) (by decide)) (g := (mkF m 16 #[vI x0, vI x1, vI x2, vI x3, vI x4, vI ((x4 &&& (2147483647 : Int32)) % (5 : Int32)), vI r_1, uS, uS, uS, uS, uS, uS, uS, uS] [.int x1])) rfl (by rw [hml]; rfl) (argsL := [.int x1]) (rest := []) (lenOf own_pd_20 rfl) rfl (by show 2 * 0 + _ ≤ _; exact Nat.le_of_eq rfl) (hb hby at_16) (fun _ _ => ⟨rfl, e1, (by decide : 0 + 0 ≤ _), (by decide : 0 + 0 ≤ _)⟩)
  dsimp only [Pt.U, Pt.locs, Pt.cells, Pt.slots] at X2 l2 y2 z2 st2 hQ2
  subst l2 y2 z2
  obtain ⟨Nc2, e2, r_2, rfl, c2_0⟩ := hQ2
  have N2 := Fr.app N1 Nc2
  refine gg st2 ?_
  refine q_istore X2 hx hby at_19 (l' := #[vI x0, vI x1, vI x2, vI x3, vI x4, vI ((x4 &&& (2147483647 : Int32)) % (5 : Int32)), vI r_1, vI r_2, uS, uS, uS, uS, uS, uS, uS]) rfl ?_
  refine q_iloadN X2 hx hby at_21 rfl ?_
  obtain ⟨_, _, ⟨T3, L3, k3, n3⟩, -, X3, ⟨Lc3, hQ3, l3, y3, z3⟩, st3⟩ := Jvm.LawKit.callS X2 hx (y := own_m21) hown (mvT hZ (wh hw 1 rfl)) (mvT hZ (wh hw 2 rfl)) (mvT hZ (wh hw 3 rfl)) (mvT hZ (wh hw 4 rfl)) (by decide) (backOf (W := 0) (own_draw l Z a0 hw [] x2 h0 n0 O0) hZ (wh hw 4 rfl) (wh hw 3 rfl) (by decide) (by decide)) (g := (mkF m 22 #[vI x0, vI x1, vI x2, vI x3, vI x4, vI ((x4 &&& (2147483647 : Int32)) % (5 : Int32)), vI r_1, vI r_2, uS, uS, uS, uS, uS, uS, uS] [.int x2])) rfl (by rw [hml]; rfl) (argsL := [.int x2]) (rest := []) (lenOf own_pd_20 rfl) rfl (by show 2 * 0 + _ ≤ _; exact Nat.le_of_eq rfl) (hb hby at_22) (fun _ _ => ⟨rfl, e2, (by decide : 0 + 0 ≤ _), (by decide : 0 + 0 ≤ _)⟩)
  dsimp only [Pt.U, Pt.locs, Pt.cells, Pt.slots] at X3 l3 y3 z3 st3 hQ3
  subst l3 y3 z3
  obtain ⟨Nc3, e3, r_3, rfl, c3_0⟩ := hQ3
  have N3 := Fr.app N2 Nc3
  refine gg st3 ?_
  show own_Goes p e below (T3.setTop (mkF m 25 #[vI x0, vI x1, vI x2, vI x3, vI x4, vI ((x4 &&& (2147483647 : Int32)) % (5 : Int32)), vI r_1, vI r_2, uS, uS, uS, uS, uS, uS, uS] [.int r_3])) _
  refine q_istore X3 hx hby at_25 (l' := #[vI x0, vI x1, vI x2, vI x3, vI x4, vI ((x4 &&& (2147483647 : Int32)) % (5 : Int32)), vI r_1, vI r_2, vI r_3, uS, uS, uS, uS, uS, uS]) rfl ?_
  refine q_iloadN X3 hx hby at_27 rfl ?_
  obtain ⟨_, _, ⟨T4, L4, k4, n4⟩, -, X4, ⟨Lc4, hQ4, l4, y4, z4⟩, st4⟩ := Jvm.LawKit.callS X3 hx (y := own_m21) hown (mvT hZ (wh hw 1 rfl)) (mvT hZ (wh hw 2 rfl)) (mvT hZ (wh hw 3 rfl)) (mvT hZ (wh hw 4 rfl)) (by decide) (backOf (W := 0) (own_draw l Z a0 hw [] x3 h0 n0 O0) hZ (wh hw 4 rfl) (wh hw 3 rfl) (by decide) (by decide)) (g := (mkF m 28 #[vI x0, vI x1, vI x2, vI x3, vI x4, vI ((x4 &&& (2147483647 : Int32)) % (5 : Int32)), vI r_1, vI r_2, vI r_3, uS, uS, uS, uS, uS, uS] [.int x3])) rfl (by rw [hml]; rfl) (argsL := [.int x3]) (rest := []) (lenOf own_pd_20 rfl) rfl (by show 2 * 0 + _ ≤ _; exact Nat.le_of_eq rfl) (hb hby at_28) (fun _ _ => ⟨rfl, e3, (by decide : 0 + 0 ≤ _), (by decide : 0 + 0 ≤ _)⟩)
  dsimp only [Pt.U, Pt.locs, Pt.cells, Pt.slots] at X4 l4 y4 z4 st4 hQ4
  subst l4 y4 z4
  obtain ⟨Nc4, e4, r_4, rfl, c4_0⟩ := hQ4
  have N4 := Fr.app N3 Nc4
  refine gg st4 ?_
  refine q_istore X4 hx hby at_31 (l' := #[vI x0, vI x1, vI x2, vI x3, vI x4, vI ((x4 &&& (2147483647 : Int32)) % (5 : Int32)), vI r_1, vI r_2, vI r_3, vI r_4, uS, uS, uS, uS, uS]) rfl ?_
  refine q_iload X4 hx hby at_33 rfl ?_
  by_cases hc5 : ((x4 &&& (2147483647 : Int32)) % (5 : Int32)) = (0 : Int32)
  · refine q_ifNo X4 hx hby at_35 ((if0 _ _).trans (teq hc5).2) ?_
    refine q_iconst X4 hx hby at_38 ?_
    obtain ⟨T6, h6, k6, X6, e6, E6, A6, st6⟩ := newP X4 hx hZ (wh hw 7 rfl) e4 (g := (mkF m 39 #[vI x0, vI x1, vI x2, vI x3, vI x4, vI ((x4 &&& (2147483647 : Int32)) % (5 : Int32)), vI r_1, vI r_2, vI r_3, vI r_4, uS, uS, uS, uS, uS] [.int 0])) rfl (hb hby at_39) rfl (by decide) (cap := 0) (by decide) (by decide) (by decide) (by decide)
    obtain ⟨b6, g6⟩ : ∃ z, z = h0.size := ⟨_, rfl⟩
    rw [← g6] at A6 st6
    refine gg st6 ?_
    have O7 := O0.ext E6
    have sz8 : h0.size ≤ h6.size := E6.1
    have cs9 := CHr.ext E6 CR0.1
    have CR10 := CHr.trans CR0 cs9
    have hk11 := Nat.le_trans hk0 E6.1
    have l6 : @LT.lt Nat _ b6 h6.size := A6.lt
    have V6 : Arv Z h6 b6 k6 .char (0 : Int32) [] (.int 0) := (Arv.new A6 (by decide)).pad (pad_rep [] (.int 0) 0)
    refine q_astore X6 hx hby at_41 rfl (l' := #[vI x0, vI x1, vI x2, vI x3, vI x4, vI ((x4 &&& (2147483647 : Int32)) % (5 : Int32)), vI r_1, vI r_2, vI r_3, vI r_4, vR b6, uS, uS, uS, uS]) rfl ?_
    refine q_goto (pc := 43) X6 hx hby at_43 (pc' := 143) (by decide) (by decide) ?_
    refine q_aload X6 hx hby at_143 rfl rfl ?_
    refine q_iconst X6 hx hby at_145 ?_
    obtain ⟨_, _, ⟨T12, L12, k12, n12⟩, -, X12, ⟨Lc12, hQ12, l12, y12, z12⟩, st12⟩ := Jvm.LawKit.callS X6 hx (y := own_m23) hown (mvT hZ (wh hw 8 rfl)) (mvT hZ (wh hw 9 rfl)) (mvT hZ (wh hw 3 rfl)) (mvT hZ (wh hw 10 rfl)) (by decide) (backOf (W := 0) (own_fit0_0 l Z a0 hw [] b6 k6 h6 n0 O7 V6) hZ (wh hw 10 rfl) (wh hw 3 rfl) (by decide) (by decide)) (g := (mkF m 146 #[vI x0, vI x1, vI x2, vI x3, vI x4, vI ((x4 &&& (2147483647 : Int32)) % (5 : Int32)), vI r_1, vI r_2, vI r_3, vI r_4, vR b6, uS, uS, uS, uS] [.int 0, .ref b6])) rfl (by rw [hml]; rfl) (argsL := [.ref b6, .int 0]) (rest := []) (lenOf own_pd_22 rfl) rfl (by show 2 * 0 + _ ≤ _; exact Nat.le_of_eq rfl) (hb hby at_146) (fun _ _ => ⟨rfl, e6, (by decide : 1 + 0 ≤ _), (by decide : 0 + 0 ≤ _)⟩)
    dsimp only [Pt.U, Pt.locs, Pt.cells, Pt.slots] at X12 l12 y12 z12 st12 hQ12
    subst l12 y12 z12
    obtain ⟨Nc12, e12, rfl⟩ := hQ12
    have N12 := Fr.app N4 Nc12
    refine gg st12 ?_
    refine q_ifNo X12 hx hby at_149 ((if0 _ _).trans (feq (show ¬ ((1 : Int32) = (0 : Int32)) from by decide)).1) ?_
    show own_Goes p e below (T12.setTop (mkF m 152 #[vI x0, vI x1, vI x2, vI x3, vI x4, vI ((x4 &&& (2147483647 : Int32)) % (5 : Int32)), vI r_1, vI r_2, vI r_3, vI r_4, vR b6, uS, uS, uS, uS] [])) _
    refine q_aload X12 hx hby at_152 rfl rfl ?_
    refine q_iconst X12 hx hby at_154 ?_
    obtain ⟨_, _, ⟨T13, L13, k13, n13⟩, -, X13, ⟨Lc13, hQ13, l13, y13, z13⟩, st13⟩ := Jvm.LawKit.callS X12 hx (y := own_m23) hown (mvT hZ (wh hw 8 rfl)) (mvT hZ (wh hw 9 rfl)) (mvT hZ (wh hw 3 rfl)) (mvT hZ (wh hw 10 rfl)) (by decide) (backOf (W := 0) (own_fit0_1 l Z a0 hw [] b6 k6 h6 n0 O7 V6) hZ (wh hw 10 rfl) (wh hw 3 rfl) (by decide) (by decide)) (g := (mkF m 155 #[vI x0, vI x1, vI x2, vI x3, vI x4, vI ((x4 &&& (2147483647 : Int32)) % (5 : Int32)), vI r_1, vI r_2, vI r_3, vI r_4, vR b6, uS, uS, uS, uS] [.int 1, .ref b6])) rfl (by rw [hml]; rfl) (argsL := [.ref b6, .int 1]) (rest := []) (lenOf own_pd_22 rfl) rfl (by show 2 * 0 + _ ≤ _; exact Nat.le_of_eq rfl) (hb hby at_155) (fun _ _ => ⟨rfl, e12, (by decide : 1 + 0 ≤ _), (by decide : 0 + 0 ≤ _)⟩)
    dsimp only [Pt.U, Pt.locs, Pt.cells, Pt.slots] at X13 l13 y13 z13 st13 hQ13
    subst l13 y13 z13
    obtain ⟨Nc13, e13, rfl⟩ := hQ13
    have N13 := Fr.app N12 Nc13
    refine gg st13 ?_
    refine q_ifNo X13 hx hby at_158 ((if0 _ _).trans (feq (show ¬ ((1 : Int32) = (0 : Int32)) from by decide)).1) ?_
    refine q_aload X13 hx hby at_161 rfl rfl ?_
    refine q_iconst X13 hx hby at_163 ?_
    obtain ⟨_, _, ⟨T14, L14, k14, n14⟩, -, X14, ⟨Lc14, hQ14, l14, y14, z14⟩, st14⟩ := Jvm.LawKit.callS X13 hx (y := own_m23) hown (mvT hZ (wh hw 8 rfl)) (mvT hZ (wh hw 9 rfl)) (mvT hZ (wh hw 3 rfl)) (mvT hZ (wh hw 10 rfl)) (by decide) (backOf (W := 0) (own_fit0_2 l Z a0 hw [] b6 k6 h6 n0 O7 V6) hZ (wh hw 10 rfl) (wh hw 3 rfl) (by decide) (by decide)) (g := (mkF m 164 #[vI x0, vI x1, vI x2, vI x3, vI x4, vI ((x4 &&& (2147483647 : Int32)) % (5 : Int32)), vI r_1, vI r_2, vI r_3, vI r_4, vR b6, uS, uS, uS, uS] [.int 2, .ref b6])) rfl (by rw [hml]; rfl) (argsL := [.ref b6, .int 2]) (rest := []) (lenOf own_pd_22 rfl) rfl (by show 2 * 0 + _ ≤ _; exact Nat.le_of_eq rfl) (hb hby at_164) (fun _ _ => ⟨rfl, e13, (by decide : 1 + 0 ≤ _), (by decide : 0 + 0 ≤ _)⟩)
    dsimp only [Pt.U, Pt.locs, Pt.cells, Pt.slots] at X14 l14 y14 z14 st14 hQ14
    subst l14 y14 z14
    obtain ⟨Nc14, e14, rfl⟩ := hQ14
    have N14 := Fr.app N13 Nc14
    refine gg st14 ?_
    refine q_ifNo X14 hx hby at_167 ((if0 _ _).trans (feq (show ¬ ((1 : Int32) = (0 : Int32)) from by decide)).1) ?_
    refine q_aload X14 hx hby at_170 rfl rfl ?_
    refine q_iconst X14 hx hby at_172 ?_
    obtain ⟨_, _, ⟨T15, L15, k15, n15⟩, -, X15, ⟨Lc15, hQ15, l15, y15, z15⟩, st15⟩ := Jvm.LawKit.callS X14 hx (y := own_m23) hown (mvT hZ (wh hw 8 rfl)) (mvT hZ (wh hw 9 rfl)) (mvT hZ (wh hw 3 rfl)) (mvT hZ (wh hw 10 rfl)) (by decide) (backOf (W := 0) (own_fit0_3 l Z a0 hw [] b6 k6 h6 n0 O7 V6) hZ (wh hw 10 rfl) (wh hw 3 rfl) (by decide) (by decide)) (g := (mkF m 173 #[vI x0, vI x1, vI x2, vI x3, vI x4, vI ((x4 &&& (2147483647 : Int32)) % (5 : Int32)), vI r_1, vI r_2, vI r_3, vI r_4, vR b6, uS, uS, uS, uS] [.int 3, .ref b6])) rfl (by rw [hml]; rfl) (argsL := [.ref b6, .int 3]) (rest := []) (lenOf own_pd_22 rfl) rfl (by show 2 * 0 + _ ≤ _; exact Nat.le_of_eq rfl) (hb hby at_173) (fun _ _ => ⟨rfl, e14, (by decide : 1 + 0 ≤ _), (by decide : 0 + 0 ≤ _)⟩)
    dsimp only [Pt.U, Pt.locs, Pt.cells, Pt.slots] at X15 l15 y15 z15 st15 hQ15
    subst l15 y15 z15
    obtain ⟨Nc15, e15, rfl⟩ := hQ15
    have N15 := Fr.app N14 Nc15
    refine gg st15 ?_
    refine q_ifNo X15 hx hby at_176 ((if0 _ _).trans (feq (show ¬ ((1 : Int32) = (0 : Int32)) from by decide)).1) ?_
    refine q_iconst X15 hx hby at_179 ?_
    refine q_goto (pc := 180) X15 hx hby at_180 (pc' := 184) (by decide) (by decide) ?_
    show own_Goes p e below (T15.setTop (mkF m 184 #[vI x0, vI x1, vI x2, vI x3, vI x4, vI ((x4 &&& (2147483647 : Int32)) % (5 : Int32)), vI r_1, vI r_2, vI r_3, vI r_4, vR b6, uS, uS, uS, uS] [.int 1])) _
    refine q_istore X15 hx hby at_184 (l' := #[vI x0, vI x1, vI x2, vI x3, vI x4, vI ((x4 &&& (2147483647 : Int32)) % (5 : Int32)), vI r_1, vI r_2, vI r_3, vI r_4, vR b6, vI 1, uS, uS, uS]) rfl ?_
    refine q_iload X15 hx hby at_186 rfl ?_
    refine q_ifYes (pc := 188) X15 hx hby at_188 (pc' := 193) ((if0 _ _).trans (feq (show ¬ ((1 : Int32) = (0 : Int32)) from by decide)).2) (by decide) (by decide) ?_
    obtain ⟨T16, h16, X16, e16, E16, A16, D16, -, st16⟩ := newO X15 hx hZ hown (wh hw 11 rfl) (wh hw 12 rfl) (wh hw 13 rfl) e15 (g := (mkF m 193 #[vI x0, vI x1, vI x2, vI x3, vI x4, vI ((x4 &&& (2147483647 : Int32)) % (5 : Int32)), vI r_1, vI r_2, vI r_3, vI r_4, vR b6, vI 1, uS, uS, uS] [])) rfl (hb hby at_193) (by decide) (by decide)
    obtain ⟨b16, g16⟩ : ∃ z, z = h6.size := ⟨_, rfl⟩
    rw [← g16] at A16 D16 st16
    refine gg st16 ?_
    have O17 := O7.ext E16
    have sz18 : h6.size ≤ h16.size := E16.1
    have cs19 := CHr.ext E16 CR10.1
    have CR20 := CHr.trans CR10 cs19
    have hk21 := Nat.le_trans hk11 E16.1
    have l16 : @LT.lt Nat _ b16 h16.size := A16.lt
    have F16_value : Fld Z h16 b16 "java/lang/String" "value" "[B" .null := D16 (Or.inr (wh hw 26 rfl)) (ty := (.array .byte)) (by decide)
    have F16_coder : Fld Z h16 b16 "java/lang/String" "coder" "B" (.int 0) := D16 (Or.inr (wh hw 27 rfl)) (ty := .byte) (by decide)
    refine q_dup X16 hx hby at_196 rfl ?_
    refine q_aload X16 hx hby at_197 rfl rfl ?_
    have f22 := (V6.ext E16)
    obtain ⟨_, _, ⟨T23, L23, k23, n23⟩, -, X23, hS23, gr23, ⟨Lc23, hQ23, l23, y23, z23, cs23⟩, st23⟩ := X16.specialBackS hx (y := own_m25) rfl hown (mvT hZ (wh hw 14 rfl)) (mvT hZ (wh hw 15 rfl)) (mvT hZ (wh hw 16 rfl)) (by decide) (backOfSH (W := 1) (own_sc0 l Z a0 hw [] b16 b6 k6 h16 n0 O17 A16 F16_value F16_coder (show n0 ≤ b16 by first | assumption | omega | decide) f22) hZ (wh hw 16 rfl) (wh hw 13 rfl) (by decide) (by decide) (own_EW hw) CR20.1) (g := (mkF m 199 #[vI x0, vI x1, vI x2, vI x3, vI x4, vI ((x4 &&& (2147483647 : Int32)) % (5 : Int32)), vI r_1, vI r_2, vI r_3, vI r_4, vR b6, vI 1, uS, uS, uS] [.ref b6, .ref b16, .ref b16])) rfl (by rw [hml]; rfl) (Steps.refl _) (a := b16) (argsL := [.ref b6]) (rest := [.ref b16]) (lenOf own_pd_24 rfl) rfl (by show 2 * 0 + _ ≤ _; exact Nat.le_of_eq rfl) (hb hby at_199) (fun _ _ => ⟨rfl, e16, (by decide : 2 + 4 ≤ _), (by decide : 4 + 8 ≤ _)⟩)
    dsimp only [Pt.U, Pt.locs, Pt.cells, Pt.slots] at X23 l23 y23 z23 st23 hQ23 hS23 gr23 cs23
    subst l23 y23 z23
    obtain ⟨h23, e23⟩ : ∃ z, T23.heap = z := ⟨_, rfl⟩
    rw [e23] at hQ23 hS23 gr23 cs23
    obtain ⟨Nc23, Kc23, rb_23, rfl, c23_0⟩ := hQ23
    obtain ⟨X23, hS23, hZ23, hown23⟩ := rebS (own := "com/example/circa_once/circaonce/model/StorableTextRequirePinLaw") hS0 (show _ ≤ T16.heap.size by rw [e16]; exact hk21) X23 hS23 gr23 hZ hown
    have hk23 : h23.size ≤ h23.size := Nat.le_refl _
    have N23 := Fr.app N15 Nc23
    have O24 := O17.keep Kc23 (allS (show n0 ≤ b16 by omega) all0)
    have sz25 : h16.size ≤ h23.size := Kc23.1
    have CR26 := CHr.trans CR20 cs23
    have ltc23_0 : @LT.lt Nat _ b16 h23.size := c23_0.1.lt
    have luc23_0 : @LT.lt Nat _ rb_23 h23.size := c23_0.lt2
    refine own_goS st23 ?_
    refine q_astore X23 hx hby at_202 rfl (l' := #[vI x0, vI x1, vI x2, vI x3, vI x4, vI ((x4 &&& (2147483647 : Int32)) % (5 : Int32)), vI r_1, vI r_2, vI r_3, vI r_4, vR b6, vI 1, vR b16, uS, uS]) rfl ?_
    refine q_iload X23 hx hby at_204 rfl ?_
    refine q_bipush X23 hx hby at_206 ?_
    refine gg (fun t k => XS.iushr X23.here hx rfl (hb hby at_208) rfl k) ?_
    refine q_sipush X23 hx hby at_209 ?_
    refine q_iand X23 hx hby at_212 ?_
    refine gg (fun t k => XS.i2c X23.here hx rfl (hb hby at_213) rfl k) ?_
    show own_Goes p e below (T23.setTop (mkF m 214 #[vI x0, vI x1, vI x2, vI x3, vI x4, vI ((x4 &&& (2147483647 : Int32)) % (5 : Int32)), vI r_1, vI r_2, vI r_3, vI r_4, vR b6, vI 1, vR b16, uS, uS] [(.int ((((x4.toUInt32 >>> ((8 : Int32) &&& 31).toUInt32).toInt32) &&& (255 : Int32)).toUInt32.toUInt16.toUInt32.toInt32))])) _
    rw [i2c_mask]
    show own_Goes p e below (T23.setTop (mkF m 214 #[vI x0, vI x1, vI x2, vI x3, vI x4, vI ((x4 &&& (2147483647 : Int32)) % (5 : Int32)), vI r_1, vI r_2, vI r_3, vI r_4, vR b6, vI 1, vR b16, uS, uS] [(.int (((x4.toUInt32 >>> ((8 : Int32) &&& 31).toUInt32).toInt32) &&& (255 : Int32)))])) _
    obtain ⟨_, _, ⟨T27, L27, k27, n27⟩, -, X27, ⟨Lc27, hQ27, l27, y27, z27⟩, st27⟩ := Jvm.LawKit.callS X23 hx (y := own_m27) hown23 (mvT hZ23 (wh hw 32 rfl)) (mvT hZ23 (wh hw 33 rfl)) (mvT hZ23 (wh hw 13 rfl)) (mvT hZ23 (wh hw 34 rfl)) (by decide) (backOf (W := 0) (own_vOf l Z a0 hw [] (((x4.toUInt32 >>> ((8 : Int32) &&& 31).toUInt32).toInt32) &&& (255 : Int32)) h23 n0 O24 gz gfm G (show ¬ (255 : Int32) < (((x4.toUInt32 >>> ((8 : Int32) &&& 31).toUInt32).toInt32) &&& (255 : Int32)) from (own_m255 _))) hZ23 (wh hw 34 rfl) (wh hw 13 rfl) (by decide) (by decide)) (g := (mkF m 214 #[vI x0, vI x1, vI x2, vI x3, vI x4, vI ((x4 &&& (2147483647 : Int32)) % (5 : Int32)), vI r_1, vI r_2, vI r_3, vI r_4, vR b6, vI 1, vR b16, uS, uS] [(.int (((x4.toUInt32 >>> ((8 : Int32) &&& 31).toUInt32).toInt32) &&& (255 : Int32)))])) rfl (by rw [hml]; rfl) (argsL := [(.int (((x4.toUInt32 >>> ((8 : Int32) &&& 31).toUInt32).toInt32) &&& (255 : Int32)))]) (rest := []) (lenOf own_pd_26 rfl) rfl (by show 2 * 0 + _ ≤ _; exact Nat.le_of_eq rfl) (hb hby at_214) (fun _ _ => ⟨rfl, e23, (by decide : 6 + 2 ≤ _), (by decide : 12 + 5 ≤ _)⟩)
    dsimp only [Pt.U, Pt.locs, Pt.cells, Pt.slots] at X27 l27 y27 z27 st27 hQ27
    subst l27 y27 z27
    obtain ⟨h27, e27⟩ : ∃ z, T27.heap = z := ⟨_, rfl⟩
    rw [e27] at hQ27
    obtain ⟨Nc27, Kc27, r_27, rfl, c27_0, c27_1⟩ := hQ27
    have N27 := Fr.app N23 Nc27
    have O28 := O24.keep Kc27 all0
    have sz29 : h23.size ≤ h27.size := Kc27.1
    have cs30 := CHr.keep Kc27 sf0 CR26.1
    have CR31 := CHr.trans CR26 cs30
    have hk32 := Nat.le_trans hk23 Kc27.1
    have ltc27_0 : @LT.lt Nat _ r_27 h27.size := c27_0.lt
    refine gg st27 ?_
    refine q_astore X27 hx hby at_217 rfl (l' := #[vI x0, vI x1, vI x2, vI x3, vI x4, vI ((x4 &&& (2147483647 : Int32)) % (5 : Int32)), vI r_1, vI r_2, vI r_3, vI r_4, vR b6, vI 1, vR b16, vR r_27, uS]) rfl ?_
    refine q_aload X27 hx hby at_219 rfl rfl ?_
    refine q_aload X27 hx hby at_221 rfl rfl ?_
    have f33 := (c23_0.keep Kc27 nin0 nin0)
    obtain ⟨_, _, ⟨T34, L34, k34, n34⟩, -, X34, ⟨Lc34, hQ34, l34, y34, z34⟩, st34⟩ := Jvm.LawKit.callS X27 hx (y := own_m29) hown23 (mvT hZ23 (wh hw 47 rfl)) (mvT hZ23 (wh hw 48 rfl)) (mvT hZ23 (wh hw 49 rfl)) (mvT hZ23 (wh hw 50 rfl)) (by decide) (backOf (W := 0) (own_rq0 l Z a0 hw [] b16 rb_23 r_27 h27 n0 O28 gz gfm G f33) hZ23 (wh hw 50 rfl) (wh hw 49 rfl) (by decide) (by decide)) (g := (mkF m 223 #[vI x0, vI x1, vI x2, vI x3, vI x4, vI ((x4 &&& (2147483647 : Int32)) % (5 : Int32)), vI r_1, vI r_2, vI r_3, vI r_4, vR b6, vI 1, vR b16, vR r_27, uS] [.ref r_27, .ref b16])) rfl (by rw [hml]; rfl) (argsL := [.ref b16, .ref r_27]) (rest := []) (lenOf own_pd_28 rfl) rfl (by show 2 * 0 + _ ≤ _; exact Nat.le_of_eq rfl) (hb hby at_223) (fun _ _ => ⟨rfl, e27, (by decide : 8 + 0 ≤ _), (by decide : 17 + 0 ≤ _)⟩)
    dsimp only [Pt.U, Pt.locs, Pt.cells, Pt.slots] at X34 l34 y34 z34 st34 hQ34
    subst l34 y34 z34
    obtain ⟨Nc34, e34, rfl⟩ := hQ34
    have N34 := Fr.app N27 Nc34
    refine gg st34 ?_
    refine q_astore X34 hx hby at_226 rfl (l' := #[vI x0, vI x1, vI x2, vI x3, vI x4, vI ((x4 &&& (2147483647 : Int32)) % (5 : Int32)), vI r_1, vI r_2, vI r_3, vI r_4, vR b6, vI 1, vR b16, vR r_27, vR b16]) rfl ?_
    refine q_aload X34 hx hby at_228 rfl rfl ?_
    refine q_aload X34 hx hby at_230 rfl rfl ?_
    refine gg (fun t k => Jvm.RoadKit.acmp (g := (mkF m 232 #[vI x0, vI x1, vI x2, vI x3, vI x4, vI ((x4 &&& (2147483647 : Int32)) % (5 : Int32)), vI r_1, vI r_2, vI r_3, vI r_4, vR b6, vI 1, vR b16, vR r_27, vR b16] [.ref b16, .ref b16])) X34 hx rfl rfl rfl (pc0 := 232) (pc' := 235) (same := true) rfl (hb hby at_232) rfl (decide_eq_true rfl) (by decide) (by decide) k) ?_
    refine q_iconst X34 hx hby at_235 ?_
    refine q_goto (pc := 236) X34 hx hby at_236 (pc' := 240) (by decide) (by decide) ?_
    refine own_endH X34 hS23 (show _ ≤ T34.heap.size by rw [e34]; exact hk32) e34 hh CR31 hZ23 (own_EW hw) (v := (some (.int 1))) (fun h => by rw [hret] at h; cases h) hlk (by decide) (by decide) ?_ (fun fs hr => retOut X34 hx hret rfl (Or.inl ⟨rfl, Or.inr (Or.inl rfl), _, rfl⟩) (hb hby at_240) hr)
    show Q_rm0 Z x0 x1 x2 x3 x4 gz gfm h0 n0 _ T34.heap _
    rw [e34]
    exact ⟨N34, trivial, rfl⟩
  · refine q_ifYes (pc := 35) X4 hx hby at_35 (pc' := 46) ((if0 _ _).trans (feq hc5).2) (by decide) (by decide) ?_
    refine q_iload X4 hx hby at_46 rfl ?_
    refine q_iconst X4 hx hby at_48 ?_
    show own_Goes p e below (T4.setTop (mkF m 49 #[vI x0, vI x1, vI x2, vI x3, vI x4, vI ((x4 &&& (2147483647 : Int32)) % (5 : Int32)), vI r_1, vI r_2, vI r_3, vI r_4, uS, uS, uS, uS, uS] [.int 1, (.int ((x4 &&& (2147483647 : Int32)) % (5 : Int32)))])) _
    by_cases hc35 : ((x4 &&& (2147483647 : Int32)) % (5 : Int32)) = (1 : Int32)
    · refine q_icmpNo X4 hx hby at_49 (teq hc35).2 ?_
      refine q_iconst X4 hx hby at_52 ?_
      obtain ⟨T36, h36, k36, X36, e36, E36, A36, st36⟩ := newP X4 hx hZ (wh hw 7 rfl) e4 (g := (mkF m 53 #[vI x0, vI x1, vI x2, vI x3, vI x4, vI ((x4 &&& (2147483647 : Int32)) % (5 : Int32)), vI r_1, vI r_2, vI r_3, vI r_4, uS, uS, uS, uS, uS] [.int 1])) rfl (hb hby at_53) rfl (by decide) (cap := 1) (by decide) (by decide) (by decide) (by decide)
      obtain ⟨b36, g36⟩ : ∃ z, z = h0.size := ⟨_, rfl⟩
      rw [← g36] at A36 st36
      refine gg st36 ?_
      have O37 := O0.ext E36
      have sz38 : h0.size ≤ h36.size := E36.1
      have cs39 := CHr.ext E36 CR0.1
      have CR40 := CHr.trans CR0 cs39
      have hk41 := Nat.le_trans hk0 E36.1
      have l36 : @LT.lt Nat _ b36 h36.size := A36.lt
      have V36 : Arv Z h36 b36 k36 .char (1 : Int32) [.int 0] (.int 0) := (Arv.new A36 (by decide)).pad (pad_rep [] (.int 0) 1)
      refine q_dup X36 hx hby at_55 rfl ?_
      refine q_iconst X36 hx hby at_56 ?_
      refine q_iload X36 hx hby at_57 rfl ?_
      refine q_stC X36 hx hby hZ e36 V36 0 at_59 (fun T43 h43 X43 e43 W43 V43 => ?_)
      rw [own_nar16 c1_0] at V43
      have O44 := O37.wr W43 (show n0 ≤ b36 by omega)
      have sz45 : h43.size = h36.size := Wr.size W43
      have cs46 := CHr.wr W43 (Safe.arv hZ.alike V36 (by decide)) CR40.1
      have CR47 := CHr.trans CR40 cs46
      have hk48 := Nat.le_trans hk41 (Nat.le_of_eq (Wr.size W43).symm)
      have N43 := Fr.snoc X43 N4 (show n0 ≤ b36 by omega)
      have V43 : Arv Z h43 b36 k36 .char (1 : Int32) [.int r_1] (.int 0) := V43
      refine q_astore X43 hx hby at_60 rfl (l' := #[vI x0, vI x1, vI x2, vI x3, vI x4, vI ((x4 &&& (2147483647 : Int32)) % (5 : Int32)), vI r_1, vI r_2, vI r_3, vI r_4, vR b36, uS, uS, uS, uS]) rfl ?_
      refine q_goto (pc := 62) X43 hx hby at_62 (pc' := 143) (by decide) (by decide) ?_
      refine q_aload X43 hx hby at_143 rfl rfl ?_
      refine q_iconst X43 hx hby at_145 ?_
      obtain ⟨_, _, ⟨T49, L49, k49, n49⟩, -, X49, ⟨Lc49, hQ49, l49, y49, z49⟩, st49⟩ := Jvm.LawKit.callS X43 hx (y := own_m23) hown (mvT hZ (wh hw 8 rfl)) (mvT hZ (wh hw 9 rfl)) (mvT hZ (wh hw 3 rfl)) (mvT hZ (wh hw 10 rfl)) (by decide) (backOf (W := 0) (own_fit1_0 l Z a0 hw [] b36 k36 r_1 h43 n0 O44 V43) hZ (wh hw 10 rfl) (wh hw 3 rfl) (by decide) (by decide)) (g := (mkF m 146 #[vI x0, vI x1, vI x2, vI x3, vI x4, vI ((x4 &&& (2147483647 : Int32)) % (5 : Int32)), vI r_1, vI r_2, vI r_3, vI r_4, vR b36, uS, uS, uS, uS] [.int 0, .ref b36])) rfl (by rw [hml]; rfl) (argsL := [.ref b36, .int 0]) (rest := []) (lenOf own_pd_22 rfl) rfl (by show 2 * 0 + _ ≤ _; exact Nat.le_of_eq rfl) (hb hby at_146) (fun _ _ => ⟨rfl, e43, (by decide : 1 + 0 ≤ _), (by decide : 1 + 0 ≤ _)⟩)
      dsimp only [Pt.U, Pt.locs, Pt.cells, Pt.slots] at X49 l49 y49 z49 st49 hQ49
      subst l49 y49 z49
      obtain ⟨Nc49, e49, r_49, rfl, c49_0⟩ := hQ49
      have N49 := Fr.app N43 Nc49
      refine gg st49 ?_
      rcases c49_0 with ⟨rfl, ok50⟩ | rfl
      · show own_Goes p e below (T49.setTop (mkF m 149 #[vI x0, vI x1, vI x2, vI x3, vI x4, vI ((x4 &&& (2147483647 : Int32)) % (5 : Int32)), vI r_1, vI r_2, vI r_3, vI r_4, vR b36, uS, uS, uS, uS] [.int 1])) _
        refine q_ifNo X49 hx hby at_149 ((if0 _ _).trans (feq (show ¬ ((1 : Int32) = (0 : Int32)) from by decide)).1) ?_
        refine q_aload X49 hx hby at_152 rfl rfl ?_
        refine q_iconst X49 hx hby at_154 ?_
        obtain ⟨_, _, ⟨T51, L51, k51, n51⟩, -, X51, ⟨Lc51, hQ51, l51, y51, z51⟩, st51⟩ := Jvm.LawKit.callS X49 hx (y := own_m23) hown (mvT hZ (wh hw 8 rfl)) (mvT hZ (wh hw 9 rfl)) (mvT hZ (wh hw 3 rfl)) (mvT hZ (wh hw 10 rfl)) (by decide) (backOf (W := 0) (own_fit1_1 l Z a0 hw [] b36 k36 r_1 h43 n0 O44 V43) hZ (wh hw 10 rfl) (wh hw 3 rfl) (by decide) (by decide)) (g := (mkF m 155 #[vI x0, vI x1, vI x2, vI x3, vI x4, vI ((x4 &&& (2147483647 : Int32)) % (5 : Int32)), vI r_1, vI r_2, vI r_3, vI r_4, vR b36, uS, uS, uS, uS] [.int 1, .ref b36])) rfl (by rw [hml]; rfl) (argsL := [.ref b36, .int 1]) (rest := []) (lenOf own_pd_22 rfl) rfl (by show 2 * 0 + _ ≤ _; exact Nat.le_of_eq rfl) (hb hby at_155) (fun _ _ => ⟨rfl, e49, (by decide : 1 + 0 ≤ _), (by decide : 1 + 0 ≤ _)⟩)
        dsimp only [Pt.U, Pt.locs, Pt.cells, Pt.slots] at X51 l51 y51 z51 st51 hQ51
        subst l51 y51 z51
        obtain ⟨Nc51, e51, rfl⟩ := hQ51
        have N51 := Fr.app N49 Nc51
        refine gg st51 ?_
        refine q_ifNo X51 hx hby at_158 ((if0 _ _).trans (feq (show ¬ ((1 : Int32) = (0 : Int32)) from by decide)).1) ?_
        refine q_aload X51 hx hby at_161 rfl rfl ?_
        refine q_iconst X51 hx hby at_163 ?_
        obtain ⟨_, _, ⟨T52, L52, k52, n52⟩, -, X52, ⟨Lc52, hQ52, l52, y52, z52⟩, st52⟩ := Jvm.LawKit.callS X51 hx (y := own_m23) hown (mvT hZ (wh hw 8 rfl)) (mvT hZ (wh hw 9 rfl)) (mvT hZ (wh hw 3 rfl)) (mvT hZ (wh hw 10 rfl)) (by decide) (backOf (W := 0) (own_fit1_2 l Z a0 hw [] b36 k36 r_1 h43 n0 O44 V43) hZ (wh hw 10 rfl) (wh hw 3 rfl) (by decide) (by decide)) (g := (mkF m 164 #[vI x0, vI x1, vI x2, vI x3, vI x4, vI ((x4 &&& (2147483647 : Int32)) % (5 : Int32)), vI r_1, vI r_2, vI r_3, vI r_4, vR b36, uS, uS, uS, uS] [.int 2, .ref b36])) rfl (by rw [hml]; rfl) (argsL := [.ref b36, .int 2]) (rest := []) (lenOf own_pd_22 rfl) rfl (by show 2 * 0 + _ ≤ _; exact Nat.le_of_eq rfl) (hb hby at_164) (fun _ _ => ⟨rfl, e51, (by decide : 1 + 0 ≤ _), (by decide : 1 + 0 ≤ _)⟩)
        dsimp only [Pt.U, Pt.locs, Pt.cells, Pt.slots] at X52 l52 y52 z52 st52 hQ52
        subst l52 y52 z52
        obtain ⟨Nc52, e52, rfl⟩ := hQ52
        have N52 := Fr.app N51 Nc52
        refine gg st52 ?_
        refine q_ifNo X52 hx hby at_167 ((if0 _ _).trans (feq (show ¬ ((1 : Int32) = (0 : Int32)) from by decide)).1) ?_
        refine q_aload X52 hx hby at_170 rfl rfl ?_
        refine q_iconst X52 hx hby at_172 ?_
        obtain ⟨_, _, ⟨T53, L53, k53, n53⟩, -, X53, ⟨Lc53, hQ53, l53, y53, z53⟩, st53⟩ := Jvm.LawKit.callS X52 hx (y := own_m23) hown (mvT hZ (wh hw 8 rfl)) (mvT hZ (wh hw 9 rfl)) (mvT hZ (wh hw 3 rfl)) (mvT hZ (wh hw 10 rfl)) (by decide) (backOf (W := 0) (own_fit1_3 l Z a0 hw [] b36 k36 r_1 h43 n0 O44 V43) hZ (wh hw 10 rfl) (wh hw 3 rfl) (by decide) (by decide)) (g := (mkF m 173 #[vI x0, vI x1, vI x2, vI x3, vI x4, vI ((x4 &&& (2147483647 : Int32)) % (5 : Int32)), vI r_1, vI r_2, vI r_3, vI r_4, vR b36, uS, uS, uS, uS] [.int 3, .ref b36])) rfl (by rw [hml]; rfl) (argsL := [.ref b36, .int 3]) (rest := []) (lenOf own_pd_22 rfl) rfl (by show 2 * 0 + _ ≤ _; exact Nat.le_of_eq rfl) (hb hby at_173) (fun _ _ => ⟨rfl, e52, (by decide : 1 + 0 ≤ _), (by decide : 1 + 0 ≤ _)⟩)
        dsimp only [Pt.U, Pt.locs, Pt.cells, Pt.slots] at X53 l53 y53 z53 st53 hQ53
        subst l53 y53 z53
        obtain ⟨Nc53, e53, rfl⟩ := hQ53
        have N53 := Fr.app N52 Nc53
        refine gg st53 ?_
        refine q_ifNo X53 hx hby at_176 ((if0 _ _).trans (feq (show ¬ ((1 : Int32) = (0 : Int32)) from by decide)).1) ?_
        refine q_iconst X53 hx hby at_179 ?_
        show own_Goes p e below (T53.setTop (mkF m 180 #[vI x0, vI x1, vI x2, vI x3, vI x4, vI ((x4 &&& (2147483647 : Int32)) % (5 : Int32)), vI r_1, vI r_2, vI r_3, vI r_4, vR b36, uS, uS, uS, uS] [.int 1])) _
        refine q_goto (pc := 180) X53 hx hby at_180 (pc' := 184) (by decide) (by decide) ?_
        refine q_istore X53 hx hby at_184 (l' := #[vI x0, vI x1, vI x2, vI x3, vI x4, vI ((x4 &&& (2147483647 : Int32)) % (5 : Int32)), vI r_1, vI r_2, vI r_3, vI r_4, vR b36, vI 1, uS, uS, uS]) rfl ?_
        refine q_iload X53 hx hby at_186 rfl ?_
        refine q_ifYes (pc := 188) X53 hx hby at_188 (pc' := 193) ((if0 _ _).trans (feq (show ¬ ((1 : Int32) = (0 : Int32)) from by decide)).2) (by decide) (by decide) ?_
        obtain ⟨T54, h54, X54, e54, E54, A54, D54, -, st54⟩ := newO X53 hx hZ hown (wh hw 11 rfl) (wh hw 12 rfl) (wh hw 13 rfl) e53 (g := (mkF m 193 #[vI x0, vI x1, vI x2, vI x3, vI x4, vI ((x4 &&& (2147483647 : Int32)) % (5 : Int32)), vI r_1, vI r_2, vI r_3, vI r_4, vR b36, vI 1, uS, uS, uS] [])) rfl (hb hby at_193) (by decide) (by decide)
        obtain ⟨b54, g54⟩ : ∃ z, z = h43.size := ⟨_, rfl⟩
        rw [← g54] at A54 D54 st54
        refine gg st54 ?_
        have O55 := O44.ext E54
        have sz56 : h43.size ≤ h54.size := E54.1
        have cs57 := CHr.ext E54 CR47.1
        have CR58 := CHr.trans CR47 cs57
        have hk59 := Nat.le_trans hk48 E54.1
        have l54 : @LT.lt Nat _ b54 h54.size := A54.lt
        have F54_value : Fld Z h54 b54 "java/lang/String" "value" "[B" .null := D54 (Or.inr (wh hw 26 rfl)) (ty := (.array .byte)) (by decide)
        have F54_coder : Fld Z h54 b54 "java/lang/String" "coder" "B" (.int 0) := D54 (Or.inr (wh hw 27 rfl)) (ty := .byte) (by decide)
        refine q_dup X54 hx hby at_196 rfl ?_
        refine q_aload X54 hx hby at_197 rfl rfl ?_
        have f60 := (V43.ext E54)
        obtain ⟨_, _, ⟨T61, L61, k61, n61⟩, -, X61, ⟨Lc61, hQ61, l61, y61, z61⟩, st61⟩ := X54.specialBack hx (y := own_m25) rfl hown (mvT hZ (wh hw 14 rfl)) (mvT hZ (wh hw 15 rfl)) (mvT hZ (wh hw 16 rfl)) (by decide) (backOf (W := 1) (own_sc1 l Z a0 hw [] b54 b36 k36 r_1 h54 n0 O55 gz gfm G A54 F54_value F54_coder (show n0 ≤ b54 by first | assumption | omega | decide) f60 (show (@LT.lt Nat _ b36 b54 ∨ @LT.lt Nat _ b54 b36) by first | assumption | omega | decide) (show own_C16 r_1 from c1_0)) hZ (wh hw 16 rfl) (wh hw 13 rfl) (by decide) (by decide)) (g := (mkF m 199 #[vI x0, vI x1, vI x2, vI x3, vI x4, vI ((x4 &&& (2147483647 : Int32)) % (5 : Int32)), vI r_1, vI r_2, vI r_3, vI r_4, vR b36, vI 1, uS, uS, uS] [.ref b36, .ref b54, .ref b54])) rfl (by rw [hml]; rfl) (Steps.refl _) (a := b54) (argsL := [.ref b36]) (rest := [.ref b54]) (lenOf own_pd_24 rfl) rfl (by show 2 * 0 + _ ≤ _; exact Nat.le_of_eq rfl) (hb hby at_199) (fun _ _ => ⟨rfl, e54, (by decide : 2 + 2 ≤ _), (by decide : 5 + 3 ≤ _)⟩)
        dsimp only [Pt.U, Pt.locs, Pt.cells, Pt.slots] at X61 l61 y61 z61 st61 hQ61
        subst l61 y61 z61
        obtain ⟨h61, e61⟩ : ∃ z, T61.heap = z := ⟨_, rfl⟩
        rw [e61] at hQ61
        obtain ⟨Nc61, Kc61, rb_61, rfl, c61_0⟩ := hQ61
        have N61 := Fr.app N53 Nc61
        have SF62 : Safe Z consts_1 _ h54 b54 := own_safeNull hZ.alike A54 F54_value
        have O63 := O55.keep Kc61 (allS (show n0 ≤ b54 by omega) all0)
        have sz64 : h54.size ≤ h61.size := Kc61.1
        have cs65 := CHr.keep Kc61 (sfS SF62 sf0) CR58.1
        have CR66 := CHr.trans CR58 cs65
        have SF67 := CHr.safe cs65 (show @LT.lt Nat _ b54 h54.size by omega) SF62
        have hk68 := Nat.le_trans hk59 Kc61.1
        have ltc61_0 : @LT.lt Nat _ b54 h61.size := c61_0.1.lt
        have luc61_0 : @LT.lt Nat _ rb_61 h61.size := c61_0.lt2
        refine own_goS st61 ?_
        refine q_astore X61 hx hby at_202 rfl (l' := #[vI x0, vI x1, vI x2, vI x3, vI x4, vI ((x4 &&& (2147483647 : Int32)) % (5 : Int32)), vI r_1, vI r_2, vI r_3, vI r_4, vR b36, vI 1, vR b54, uS, uS]) rfl ?_
        refine q_iload X61 hx hby at_204 rfl ?_
        refine q_bipush X61 hx hby at_206 ?_
        refine gg (fun t k => XS.iushr X61.here hx rfl (hb hby at_208) rfl k) ?_
        refine q_sipush X61 hx hby at_209 ?_
        refine q_iand X61 hx hby at_212 ?_
        show own_Goes p e below (T61.setTop (mkF m 213 #[vI x0, vI x1, vI x2, vI x3, vI x4, vI ((x4 &&& (2147483647 : Int32)) % (5 : Int32)), vI r_1, vI r_2, vI r_3, vI r_4, vR b36, vI 1, vR b54, uS, uS] [(.int (((x4.toUInt32 >>> ((8 : Int32) &&& 31).toUInt32).toInt32) &&& (255 : Int32)))])) _
        refine gg (fun t k => XS.i2c X61.here hx rfl (hb hby at_213) rfl k) ?_
        show own_Goes p e below (T61.setTop (mkF m 214 #[vI x0, vI x1, vI x2, vI x3, vI x4, vI ((x4 &&& (2147483647 : Int32)) % (5 : Int32)), vI r_1, vI r_2, vI r_3, vI r_4, vR b36, vI 1, vR b54, uS, uS] [(.int ((((x4.toUInt32 >>> ((8 : Int32) &&& 31).toUInt32).toInt32) &&& (255 : Int32)).toUInt32.toUInt16.toUInt32.toInt32))])) _
        rw [i2c_mask]
        show own_Goes p e below (T61.setTop (mkF m 214 #[vI x0, vI x1, vI x2, vI x3, vI x4, vI ((x4 &&& (2147483647 : Int32)) % (5 : Int32)), vI r_1, vI r_2, vI r_3, vI r_4, vR b36, vI 1, vR b54, uS, uS] [(.int (((x4.toUInt32 >>> ((8 : Int32) &&& 31).toUInt32).toInt32) &&& (255 : Int32)))])) _
        obtain ⟨_, _, ⟨T69, L69, k69, n69⟩, -, X69, ⟨Lc69, hQ69, l69, y69, z69⟩, st69⟩ := Jvm.LawKit.callS X61 hx (y := own_m27) hown (mvT hZ (wh hw 32 rfl)) (mvT hZ (wh hw 33 rfl)) (mvT hZ (wh hw 13 rfl)) (mvT hZ (wh hw 34 rfl)) (by decide) (backOf (W := 0) (own_vOf l Z a0 hw [] (((x4.toUInt32 >>> ((8 : Int32) &&& 31).toUInt32).toInt32) &&& (255 : Int32)) h61 n0 O63 gz gfm G (show ¬ (255 : Int32) < (((x4.toUInt32 >>> ((8 : Int32) &&& 31).toUInt32).toInt32) &&& (255 : Int32)) from (own_m255 _))) hZ (wh hw 34 rfl) (wh hw 13 rfl) (by decide) (by decide)) (g := (mkF m 214 #[vI x0, vI x1, vI x2, vI x3, vI x4, vI ((x4 &&& (2147483647 : Int32)) % (5 : Int32)), vI r_1, vI r_2, vI r_3, vI r_4, vR b36, vI 1, vR b54, uS, uS] [(.int (((x4.toUInt32 >>> ((8 : Int32) &&& 31).toUInt32).toInt32) &&& (255 : Int32)))])) rfl (by rw [hml]; rfl) (argsL := [(.int (((x4.toUInt32 >>> ((8 : Int32) &&& 31).toUInt32).toInt32) &&& (255 : Int32)))]) (rest := []) (lenOf own_pd_26 rfl) rfl (by show 2 * 0 + _ ≤ _; exact Nat.le_of_eq rfl) (hb hby at_214) (fun _ _ => ⟨rfl, e61, (by decide : 4 + 2 ≤ _), (by decide : 8 + 5 ≤ _)⟩)
        dsimp only [Pt.U, Pt.locs, Pt.cells, Pt.slots] at X69 l69 y69 z69 st69 hQ69
        subst l69 y69 z69
        obtain ⟨h69, e69⟩ : ∃ z, T69.heap = z := ⟨_, rfl⟩
        rw [e69] at hQ69
        obtain ⟨Nc69, Kc69, r_69, rfl, c69_0, c69_1⟩ := hQ69
        have N69 := Fr.app N61 Nc69
        have O70 := O63.keep Kc69 all0
        have sz71 : h61.size ≤ h69.size := Kc69.1
        have cs72 := CHr.keep Kc69 sf0 CR66.1
        have CR73 := CHr.trans CR66 cs72
        have SF74 := CHr.safe cs72 (show @LT.lt Nat _ b54 h61.size by omega) SF67
        have hk75 := Nat.le_trans hk68 Kc69.1
        have ltc69_0 : @LT.lt Nat _ r_69 h69.size := c69_0.lt
        refine gg st69 ?_
        refine q_astore X69 hx hby at_217 rfl (l' := #[vI x0, vI x1, vI x2, vI x3, vI x4, vI ((x4 &&& (2147483647 : Int32)) % (5 : Int32)), vI r_1, vI r_2, vI r_3, vI r_4, vR b36, vI 1, vR b54, vR r_69, uS]) rfl ?_
        refine q_aload X69 hx hby at_219 rfl rfl ?_
        refine q_aload X69 hx hby at_221 rfl rfl ?_
        have f76 := (c61_0.keep Kc69 nin0 nin0)
        obtain ⟨_, _, ⟨T77, L77, k77, n77⟩, -, X77, ⟨Lc77, hQ77, l77, y77, z77⟩, st77⟩ := Jvm.LawKit.callS X69 hx (y := own_m29) hown (mvT hZ (wh hw 47 rfl)) (mvT hZ (wh hw 48 rfl)) (mvT hZ (wh hw 49 rfl)) (mvT hZ (wh hw 50 rfl)) (by decide) (backOf (W := 0) (own_rq1 l Z a0 hw [] b54 rb_61 r_69 r_1 h69 n0 O70 gz gfm G f76 (show (¬ r_1.toInt = 0 ∧ ((r_1.toInt < 55296 ∨ 56319 < r_1.toInt)) ∧ ((r_1.toInt < 56320 ∨ 57343 < r_1.toInt))) from ok50)) hZ (wh hw 50 rfl) (wh hw 49 rfl) (by decide) (by decide)) (g := (mkF m 223 #[vI x0, vI x1, vI x2, vI x3, vI x4, vI ((x4 &&& (2147483647 : Int32)) % (5 : Int32)), vI r_1, vI r_2, vI r_3, vI r_4, vR b36, vI 1, vR b54, vR r_69, uS] [.ref r_69, .ref b54])) rfl (by rw [hml]; rfl) (argsL := [.ref b54, .ref r_69]) (rest := []) (lenOf own_pd_28 rfl) rfl (by show 2 * 0 + _ ≤ _; exact Nat.le_of_eq rfl) (hb hby at_223) (fun _ _ => ⟨rfl, e69, (by decide : 6 + 0 ≤ _), (by decide : 13 + 0 ≤ _)⟩)
        dsimp only [Pt.U, Pt.locs, Pt.cells, Pt.slots] at X77 l77 y77 z77 st77 hQ77
        subst l77 y77 z77
        obtain ⟨Nc77, e77, rfl⟩ := hQ77
        have N77 := Fr.app N69 Nc77
        refine gg st77 ?_
        refine q_astore X77 hx hby at_226 rfl (l' := #[vI x0, vI x1, vI x2, vI x3, vI x4, vI ((x4 &&& (2147483647 : Int32)) % (5 : Int32)), vI r_1, vI r_2, vI r_3, vI r_4, vR b36, vI 1, vR b54, vR r_69, vR b54]) rfl ?_
        refine q_aload X77 hx hby at_228 rfl rfl ?_
        refine q_aload X77 hx hby at_230 rfl rfl ?_
        refine gg (fun t k => Jvm.RoadKit.acmp (g := (mkF m 232 #[vI x0, vI x1, vI x2, vI x3, vI x4, vI ((x4 &&& (2147483647 : Int32)) % (5 : Int32)), vI r_1, vI r_2, vI r_3, vI r_4, vR b36, vI 1, vR b54, vR r_69, vR b54] [.ref b54, .ref b54])) X77 hx rfl rfl rfl (pc0 := 232) (pc' := 235) (same := true) rfl (hb hby at_232) rfl (decide_eq_true rfl) (by decide) (by decide) k) ?_
        refine q_iconst X77 hx hby at_235 ?_
        refine q_goto (pc := 236) X77 hx hby at_236 (pc' := 240) (by decide) (by decide) ?_
        refine own_endH X77 hS0 (show _ ≤ T77.heap.size by rw [e77]; exact hk75) e77 hh CR73 hZ (own_EW hw) (v := (some (.int 1))) (fun h => by rw [hret] at h; cases h) hlk (by decide) (by decide) ?_ (fun fs hr => retOut X77 hx hret rfl (Or.inl ⟨rfl, Or.inr (Or.inl rfl), _, rfl⟩) (hb hby at_240) hr)
        show Q_rm0 Z x0 x1 x2 x3 x4 gz gfm h0 n0 _ T77.heap _
        rw [e77]
        exact ⟨N77, trivial, rfl⟩
      · show own_Goes p e below (T49.setTop (mkF m 149 #[vI x0, vI x1, vI x2, vI x3, vI x4, vI ((x4 &&& (2147483647 : Int32)) % (5 : Int32)), vI r_1, vI r_2, vI r_3, vI r_4, vR b36, uS, uS, uS, uS] [.int 0])) _
        refine q_ifYes (pc := 149) X49 hx hby at_149 (pc' := 183) ((if0 _ _).trans (teq (show ((0 : Int32) = (0 : Int32)) from by decide)).1) (by decide) (by decide) ?_
        refine q_iconst X49 hx hby at_183 ?_
        refine q_istore X49 hx hby at_184 (l' := #[vI x0, vI x1, vI x2, vI x3, vI x4, vI ((x4 &&& (2147483647 : Int32)) % (5 : Int32)), vI r_1, vI r_2, vI r_3, vI r_4, vR b36, vI 0, uS, uS, uS]) rfl ?_
        refine q_iload X49 hx hby at_186 rfl ?_
        refine q_ifNo X49 hx hby at_188 ((if0 _ _).trans (teq (show ((0 : Int32) = (0 : Int32)) from by decide)).2) ?_
        refine q_iconst X49 hx hby at_191 ?_
        refine own_endH X49 hS0 (show _ ≤ T49.heap.size by rw [e49]; exact hk48) e49 hh CR47 hZ (own_EW hw) (v := (some (.int 1))) (fun h => by rw [hret] at h; cases h) hlk (by decide) (by decide) ?_ (fun fs hr => retOut X49 hx hret rfl (Or.inl ⟨rfl, Or.inr (Or.inl rfl), _, rfl⟩) (hb hby at_192) hr)
        show Q_rm0 Z x0 x1 x2 x3 x4 gz gfm h0 n0 _ T49.heap _
        rw [e49]
        exact ⟨N49, trivial, rfl⟩
    · refine q_icmpYes (pc := 49) X4 hx hby at_49 (pc' := 65) (feq hc35).2 (by decide) (by decide) ?_
      refine q_iload X4 hx hby at_65 rfl ?_
      refine q_iconst X4 hx hby at_67 ?_
      by_cases hc78 : ((x4 &&& (2147483647 : Int32)) % (5 : Int32)) = (2 : Int32)
      · refine q_icmpNo X4 hx hby at_68 (teq hc78).2 ?_
        refine q_iconst X4 hx hby at_71 ?_
        obtain ⟨T79, h79, k79, X79, e79, E79, A79, st79⟩ := newP X4 hx hZ (wh hw 7 rfl) e4 (g := (mkF m 72 #[vI x0, vI x1, vI x2, vI x3, vI x4, vI ((x4 &&& (2147483647 : Int32)) % (5 : Int32)), vI r_1, vI r_2, vI r_3, vI r_4, uS, uS, uS, uS, uS] [.int 2])) rfl (hb hby at_72) rfl (by decide) (cap := 2) (by decide) (by decide) (by decide) (by decide)
        obtain ⟨b79, g79⟩ : ∃ z, z = h0.size := ⟨_, rfl⟩
        rw [← g79] at A79 st79
        refine gg st79 ?_
        have O80 := O0.ext E79
        have sz81 : h0.size ≤ h79.size := E79.1
        have cs82 := CHr.ext E79 CR0.1
        have CR83 := CHr.trans CR0 cs82
        have hk84 := Nat.le_trans hk0 E79.1
        have l79 : @LT.lt Nat _ b79 h79.size := A79.lt
        have V79 : Arv Z h79 b79 k79 .char (2 : Int32) [.int 0, .int 0] (.int 0) := (Arv.new A79 (by decide)).pad (pad_rep [] (.int 0) 2)
        refine q_dup X79 hx hby at_74 rfl ?_
        refine q_iconst X79 hx hby at_75 ?_
        show own_Goes p e below (T79.setTop (mkF m 76 #[vI x0, vI x1, vI x2, vI x3, vI x4, vI ((x4 &&& (2147483647 : Int32)) % (5 : Int32)), vI r_1, vI r_2, vI r_3, vI r_4, uS, uS, uS, uS, uS] [.int 0, .ref b79, .ref b79])) _
        refine q_iload X79 hx hby at_76 rfl ?_
        refine q_stC X79 hx hby hZ e79 V79 0 at_78 (fun T86 h86 X86 e86 W86 V86 => ?_)
        rw [own_nar16 c1_0] at V86
        have O87 := O80.wr W86 (show n0 ≤ b79 by omega)
        have sz88 : h86.size = h79.size := Wr.size W86
        have cs89 := CHr.wr W86 (Safe.arv hZ.alike V79 (by decide)) CR83.1
        have CR90 := CHr.trans CR83 cs89
        have hk91 := Nat.le_trans hk84 (Nat.le_of_eq (Wr.size W86).symm)
        have N86 := Fr.snoc X86 N4 (show n0 ≤ b79 by omega)
        have V86 : Arv Z h86 b79 k79 .char (2 : Int32) [.int r_1, .int 0] (.int 0) := V86
        refine q_dup X86 hx hby at_79 rfl ?_
        refine q_iconst X86 hx hby at_80 ?_
        refine q_iload X86 hx hby at_81 rfl ?_
        refine q_stC X86 hx hby hZ e86 V86 1 at_83 (fun T93 h93 X93 e93 W93 V93 => ?_)
        rw [own_nar16 c2_0] at V93
        have O94 := O87.wr W93 (show n0 ≤ b79 by omega)
        have sz95 : h93.size = h86.size := Wr.size W93
        have cs96 := CHr.wr W93 (Safe.arv hZ.alike V86 (by decide)) CR90.1
        have CR97 := CHr.trans CR90 cs96
        have hk98 := Nat.le_trans hk91 (Nat.le_of_eq (Wr.size W93).symm)
        have N93 := Fr.snoc X93 N86 (show n0 ≤ b79 by omega)
        have V93 : Arv Z h93 b79 k79 .char (2 : Int32) [.int r_1, .int r_2] (.int 0) := V93
        refine q_astore X93 hx hby at_84 rfl (l' := #[vI x0, vI x1, vI x2, vI x3, vI x4, vI ((x4 &&& (2147483647 : Int32)) % (5 : Int32)), vI r_1, vI r_2, vI r_3, vI r_4, vR b79, uS, uS, uS, uS]) rfl ?_
        refine q_goto (pc := 86) X93 hx hby at_86 (pc' := 143) (by decide) (by decide) ?_
        refine q_aload X93 hx hby at_143 rfl rfl ?_
        refine q_iconst X93 hx hby at_145 ?_
        obtain ⟨_, _, ⟨T99, L99, k99, n99⟩, -, X99, ⟨Lc99, hQ99, l99, y99, z99⟩, st99⟩ := Jvm.LawKit.callS X93 hx (y := own_m23) hown (mvT hZ (wh hw 8 rfl)) (mvT hZ (wh hw 9 rfl)) (mvT hZ (wh hw 3 rfl)) (mvT hZ (wh hw 10 rfl)) (by decide) (backOf (W := 0) (own_fit2_0 l Z a0 hw [] b79 k79 r_1 r_2 h93 n0 O94 V93) hZ (wh hw 10 rfl) (wh hw 3 rfl) (by decide) (by decide)) (g := (mkF m 146 #[vI x0, vI x1, vI x2, vI x3, vI x4, vI ((x4 &&& (2147483647 : Int32)) % (5 : Int32)), vI r_1, vI r_2, vI r_3, vI r_4, vR b79, uS, uS, uS, uS] [.int 0, .ref b79])) rfl (by rw [hml]; rfl) (argsL := [.ref b79, .int 0]) (rest := []) (lenOf own_pd_22 rfl) rfl (by show 2 * 0 + _ ≤ _; exact Nat.le_of_eq rfl) (hb hby at_146) (fun _ _ => ⟨rfl, e93, (by decide : 1 + 0 ≤ _), (by decide : 2 + 0 ≤ _)⟩)
        dsimp only [Pt.U, Pt.locs, Pt.cells, Pt.slots] at X99 l99 y99 z99 st99 hQ99
        subst l99 y99 z99
        obtain ⟨Nc99, e99, r_99, rfl, c99_0⟩ := hQ99
        have N99 := Fr.app N93 Nc99
        refine gg st99 ?_
        rcases c99_0 with ⟨rfl, ok100⟩ | rfl
        · show own_Goes p e below (T99.setTop (mkF m 149 #[vI x0, vI x1, vI x2, vI x3, vI x4, vI ((x4 &&& (2147483647 : Int32)) % (5 : Int32)), vI r_1, vI r_2, vI r_3, vI r_4, vR b79, uS, uS, uS, uS] [.int 1])) _
          refine q_ifNo X99 hx hby at_149 ((if0 _ _).trans (feq (show ¬ ((1 : Int32) = (0 : Int32)) from by decide)).1) ?_
          refine q_aload X99 hx hby at_152 rfl rfl ?_
          refine q_iconst X99 hx hby at_154 ?_
          obtain ⟨_, _, ⟨T101, L101, k101, n101⟩, -, X101, ⟨Lc101, hQ101, l101, y101, z101⟩, st101⟩ := Jvm.LawKit.callS X99 hx (y := own_m23) hown (mvT hZ (wh hw 8 rfl)) (mvT hZ (wh hw 9 rfl)) (mvT hZ (wh hw 3 rfl)) (mvT hZ (wh hw 10 rfl)) (by decide) (backOf (W := 0) (own_fit2_1 l Z a0 hw [] b79 k79 r_1 r_2 h93 n0 O94 V93) hZ (wh hw 10 rfl) (wh hw 3 rfl) (by decide) (by decide)) (g := (mkF m 155 #[vI x0, vI x1, vI x2, vI x3, vI x4, vI ((x4 &&& (2147483647 : Int32)) % (5 : Int32)), vI r_1, vI r_2, vI r_3, vI r_4, vR b79, uS, uS, uS, uS] [.int 1, .ref b79])) rfl (by rw [hml]; rfl) (argsL := [.ref b79, .int 1]) (rest := []) (lenOf own_pd_22 rfl) rfl (by show 2 * 0 + _ ≤ _; exact Nat.le_of_eq rfl) (hb hby at_155) (fun _ _ => ⟨rfl, e99, (by decide : 1 + 0 ≤ _), (by decide : 2 + 0 ≤ _)⟩)
          dsimp only [Pt.U, Pt.locs, Pt.cells, Pt.slots] at X101 l101 y101 z101 st101 hQ101
          subst l101 y101 z101
          obtain ⟨Nc101, e101, r_101, rfl, c101_0⟩ := hQ101
          have N101 := Fr.app N99 Nc101
          refine gg st101 ?_
          rcases c101_0 with ⟨rfl, ok102⟩ | rfl
          · show own_Goes p e below (T101.setTop (mkF m 158 #[vI x0, vI x1, vI x2, vI x3, vI x4, vI ((x4 &&& (2147483647 : Int32)) % (5 : Int32)), vI r_1, vI r_2, vI r_3, vI r_4, vR b79, uS, uS, uS, uS] [.int 1])) _
            refine q_ifNo X101 hx hby at_158 ((if0 _ _).trans (feq (show ¬ ((1 : Int32) = (0 : Int32)) from by decide)).1) ?_
            refine q_aload X101 hx hby at_161 rfl rfl ?_
            refine q_iconst X101 hx hby at_163 ?_
            obtain ⟨_, _, ⟨T103, L103, k103, n103⟩, -, X103, ⟨Lc103, hQ103, l103, y103, z103⟩, st103⟩ := Jvm.LawKit.callS X101 hx (y := own_m23) hown (mvT hZ (wh hw 8 rfl)) (mvT hZ (wh hw 9 rfl)) (mvT hZ (wh hw 3 rfl)) (mvT hZ (wh hw 10 rfl)) (by decide) (backOf (W := 0) (own_fit2_2 l Z a0 hw [] b79 k79 r_1 r_2 h93 n0 O94 V93) hZ (wh hw 10 rfl) (wh hw 3 rfl) (by decide) (by decide)) (g := (mkF m 164 #[vI x0, vI x1, vI x2, vI x3, vI x4, vI ((x4 &&& (2147483647 : Int32)) % (5 : Int32)), vI r_1, vI r_2, vI r_3, vI r_4, vR b79, uS, uS, uS, uS] [.int 2, .ref b79])) rfl (by rw [hml]; rfl) (argsL := [.ref b79, .int 2]) (rest := []) (lenOf own_pd_22 rfl) rfl (by show 2 * 0 + _ ≤ _; exact Nat.le_of_eq rfl) (hb hby at_164) (fun _ _ => ⟨rfl, e101, (by decide : 1 + 0 ≤ _), (by decide : 2 + 0 ≤ _)⟩)
            dsimp only [Pt.U, Pt.locs, Pt.cells, Pt.slots] at X103 l103 y103 z103 st103 hQ103
            subst l103 y103 z103
            obtain ⟨Nc103, e103, rfl⟩ := hQ103
            have N103 := Fr.app N101 Nc103
            refine gg st103 ?_
            refine q_ifNo X103 hx hby at_167 ((if0 _ _).trans (feq (show ¬ ((1 : Int32) = (0 : Int32)) from by decide)).1) ?_
            refine q_aload X103 hx hby at_170 rfl rfl ?_
            refine q_iconst X103 hx hby at_172 ?_
            obtain ⟨_, _, ⟨T104, L104, k104, n104⟩, -, X104, ⟨Lc104, hQ104, l104, y104, z104⟩, st104⟩ := Jvm.LawKit.callS X103 hx (y := own_m23) hown (mvT hZ (wh hw 8 rfl)) (mvT hZ (wh hw 9 rfl)) (mvT hZ (wh hw 3 rfl)) (mvT hZ (wh hw 10 rfl)) (by decide) (backOf (W := 0) (own_fit2_3 l Z a0 hw [] b79 k79 r_1 r_2 h93 n0 O94 V93) hZ (wh hw 10 rfl) (wh hw 3 rfl) (by decide) (by decide)) (g := (mkF m 173 #[vI x0, vI x1, vI x2, vI x3, vI x4, vI ((x4 &&& (2147483647 : Int32)) % (5 : Int32)), vI r_1, vI r_2, vI r_3, vI r_4, vR b79, uS, uS, uS, uS] [.int 3, .ref b79])) rfl (by rw [hml]; rfl) (argsL := [.ref b79, .int 3]) (rest := []) (lenOf own_pd_22 rfl) rfl (by show 2 * 0 + _ ≤ _; exact Nat.le_of_eq rfl) (hb hby at_173) (fun _ _ => ⟨rfl, e103, (by decide : 1 + 0 ≤ _), (by decide : 2 + 0 ≤ _)⟩)
            dsimp only [Pt.U, Pt.locs, Pt.cells, Pt.slots] at X104 l104 y104 z104 st104 hQ104
            subst l104 y104 z104
            obtain ⟨Nc104, e104, rfl⟩ := hQ104
            have N104 := Fr.app N103 Nc104
            refine gg st104 ?_
            refine q_ifNo X104 hx hby at_176 ((if0 _ _).trans (feq (show ¬ ((1 : Int32) = (0 : Int32)) from by decide)).1) ?_
            refine q_iconst X104 hx hby at_179 ?_
            refine q_goto (pc := 180) X104 hx hby at_180 (pc' := 184) (by decide) (by decide) ?_
            refine q_istore X104 hx hby at_184 (l' := #[vI x0, vI x1, vI x2, vI x3, vI x4, vI ((x4 &&& (2147483647 : Int32)) % (5 : Int32)), vI r_1, vI r_2, vI r_3, vI r_4, vR b79, vI 1, uS, uS, uS]) rfl ?_
            refine q_iload X104 hx hby at_186 rfl ?_
            refine q_ifYes (pc := 188) X104 hx hby at_188 (pc' := 193) ((if0 _ _).trans (feq (show ¬ ((1 : Int32) = (0 : Int32)) from by decide)).2) (by decide) (by decide) ?_
            show own_Goes p e below (T104.setTop (mkF m 193 #[vI x0, vI x1, vI x2, vI x3, vI x4, vI ((x4 &&& (2147483647 : Int32)) % (5 : Int32)), vI r_1, vI r_2, vI r_3, vI r_4, vR b79, vI 1, uS, uS, uS] [])) _
            obtain ⟨T105, h105, X105, e105, E105, A105, D105, -, st105⟩ := newO X104 hx hZ hown (wh hw 11 rfl) (wh hw 12 rfl) (wh hw 13 rfl) e104 (g := (mkF m 193 #[vI x0, vI x1, vI x2, vI x3, vI x4, vI ((x4 &&& (2147483647 : Int32)) % (5 : Int32)), vI r_1, vI r_2, vI r_3, vI r_4, vR b79, vI 1, uS, uS, uS] [])) rfl (hb hby at_193) (by decide) (by decide)
            obtain ⟨b105, g105⟩ : ∃ z, z = h93.size := ⟨_, rfl⟩
            rw [← g105] at A105 D105 st105
            refine gg st105 ?_
            have O106 := O94.ext E105
            have sz107 : h93.size ≤ h105.size := E105.1
            have cs108 := CHr.ext E105 CR97.1
            have CR109 := CHr.trans CR97 cs108
            have hk110 := Nat.le_trans hk98 E105.1
            have l105 : @LT.lt Nat _ b105 h105.size := A105.lt
            have F105_value : Fld Z h105 b105 "java/lang/String" "value" "[B" .null := D105 (Or.inr (wh hw 26 rfl)) (ty := (.array .byte)) (by decide)
            have F105_coder : Fld Z h105 b105 "java/lang/String" "coder" "B" (.int 0) := D105 (Or.inr (wh hw 27 rfl)) (ty := .byte) (by decide)
            refine q_dup X105 hx hby at_196 rfl ?_
            refine q_aload X105 hx hby at_197 rfl rfl ?_
            have f111 := (V93.ext E105)
            obtain ⟨_, _, ⟨T112, L112, k112, n112⟩, -, X112, ⟨Lc112, hQ112, l112, y112, z112⟩, st112⟩ := X105.specialBack hx (y := own_m25) rfl hown (mvT hZ (wh hw 14 rfl)) (mvT hZ (wh hw 15 rfl)) (mvT hZ (wh hw 16 rfl)) (by decide) (backOf (W := 1) (own_sc2 l Z a0 hw [] b105 b79 k79 r_1 r_2 h105 n0 O106 gz gfm G A105 F105_value F105_coder (show n0 ≤ b105 by first | assumption | omega | decide) f111 (show (@LT.lt Nat _ b79 b105 ∨ @LT.lt Nat _ b105 b79) by first | assumption | omega | decide) (show own_C16 r_1 from c1_0) (show own_C16 r_2 from c2_0)) hZ (wh hw 16 rfl) (wh hw 13 rfl) (by decide) (by decide)) (g := (mkF m 199 #[vI x0, vI x1, vI x2, vI x3, vI x4, vI ((x4 &&& (2147483647 : Int32)) % (5 : Int32)), vI r_1, vI r_2, vI r_3, vI r_4, vR b79, vI 1, uS, uS, uS] [.ref b79, .ref b105, .ref b105])) rfl (by rw [hml]; rfl) (Steps.refl _) (a := b105) (argsL := [.ref b79]) (rest := [.ref b105]) (lenOf own_pd_24 rfl) rfl (by show 2 * 0 + _ ≤ _; exact Nat.le_of_eq rfl) (hb hby at_199) (fun _ _ => ⟨rfl, e105, (by decide : 2 + 2 ≤ _), (by decide : 6 + 6 ≤ _)⟩)
            dsimp only [Pt.U, Pt.locs, Pt.cells, Pt.slots] at X112 l112 y112 z112 st112 hQ112
            subst l112 y112 z112
            obtain ⟨h112, e112⟩ : ∃ z, T112.heap = z := ⟨_, rfl⟩
            rw [e112] at hQ112
            obtain ⟨Nc112, Kc112, rb_112, rfl, c112_0⟩ := hQ112
            have N112 := Fr.app N104 Nc112
            have SF113 : Safe Z consts_1 _ h105 b105 := own_safeNull hZ.alike A105 F105_value
            have O114 := O106.keep Kc112 (allS (show n0 ≤ b105 by omega) all0)
            have sz115 : h105.size ≤ h112.size := Kc112.1
            have cs116 := CHr.keep Kc112 (sfS SF113 sf0) CR109.1
            have CR117 := CHr.trans CR109 cs116
            have SF118 := CHr.safe cs116 (show @LT.lt Nat _ b105 h105.size by omega) SF113
            have hk119 := Nat.le_trans hk110 Kc112.1
            have ltc112_0 : @LT.lt Nat _ b105 h112.size := c112_0.1.lt
            have luc112_0 : @LT.lt Nat _ rb_112 h112.size := c112_0.lt2
            refine own_goS st112 ?_
            refine q_astore X112 hx hby at_202 rfl (l' := #[vI x0, vI x1, vI x2, vI x3, vI x4, vI ((x4 &&& (2147483647 : Int32)) % (5 : Int32)), vI r_1, vI r_2, vI r_3, vI r_4, vR b79, vI 1, vR b105, uS, uS]) rfl ?_
            refine q_iload X112 hx hby at_204 rfl ?_
            refine q_bipush X112 hx hby at_206 ?_
            refine gg (fun t k => XS.iushr X112.here hx rfl (hb hby at_208) rfl k) ?_
            refine q_sipush X112 hx hby at_209 ?_
            refine q_iand X112 hx hby at_212 ?_
            refine gg (fun t k => XS.i2c X112.here hx rfl (hb hby at_213) rfl k) ?_
            show own_Goes p e below (T112.setTop (mkF m 214 #[vI x0, vI x1, vI x2, vI x3, vI x4, vI ((x4 &&& (2147483647 : Int32)) % (5 : Int32)), vI r_1, vI r_2, vI r_3, vI r_4, vR b79, vI 1, vR b105, uS, uS] [(.int ((((x4.toUInt32 >>> ((8 : Int32) &&& 31).toUInt32).toInt32) &&& (255 : Int32)).toUInt32.toUInt16.toUInt32.toInt32))])) _
            rw [i2c_mask]
            show own_Goes p e below (T112.setTop (mkF m 214 #[vI x0, vI x1, vI x2, vI x3, vI x4, vI ((x4 &&& (2147483647 : Int32)) % (5 : Int32)), vI r_1, vI r_2, vI r_3, vI r_4, vR b79, vI 1, vR b105, uS, uS] [(.int (((x4.toUInt32 >>> ((8 : Int32) &&& 31).toUInt32).toInt32) &&& (255 : Int32)))])) _
            obtain ⟨_, _, ⟨T120, L120, k120, n120⟩, -, X120, ⟨Lc120, hQ120, l120, y120, z120⟩, st120⟩ := Jvm.LawKit.callS X112 hx (y := own_m27) hown (mvT hZ (wh hw 32 rfl)) (mvT hZ (wh hw 33 rfl)) (mvT hZ (wh hw 13 rfl)) (mvT hZ (wh hw 34 rfl)) (by decide) (backOf (W := 0) (own_vOf l Z a0 hw [] (((x4.toUInt32 >>> ((8 : Int32) &&& 31).toUInt32).toInt32) &&& (255 : Int32)) h112 n0 O114 gz gfm G (show ¬ (255 : Int32) < (((x4.toUInt32 >>> ((8 : Int32) &&& 31).toUInt32).toInt32) &&& (255 : Int32)) from (own_m255 _))) hZ (wh hw 34 rfl) (wh hw 13 rfl) (by decide) (by decide)) (g := (mkF m 214 #[vI x0, vI x1, vI x2, vI x3, vI x4, vI ((x4 &&& (2147483647 : Int32)) % (5 : Int32)), vI r_1, vI r_2, vI r_3, vI r_4, vR b79, vI 1, vR b105, uS, uS] [(.int (((x4.toUInt32 >>> ((8 : Int32) &&& 31).toUInt32).toInt32) &&& (255 : Int32)))])) rfl (by rw [hml]; rfl) (argsL := [(.int (((x4.toUInt32 >>> ((8 : Int32) &&& 31).toUInt32).toInt32) &&& (255 : Int32)))]) (rest := []) (lenOf own_pd_26 rfl) rfl (by show 2 * 0 + _ ≤ _; exact Nat.le_of_eq rfl) (hb hby at_214) (fun _ _ => ⟨rfl, e112, (by decide : 4 + 2 ≤ _), (by decide : 12 + 5 ≤ _)⟩)
            dsimp only [Pt.U, Pt.locs, Pt.cells, Pt.slots] at X120 l120 y120 z120 st120 hQ120
            subst l120 y120 z120
            obtain ⟨h120, e120⟩ : ∃ z, T120.heap = z := ⟨_, rfl⟩
            rw [e120] at hQ120
            obtain ⟨Nc120, Kc120, r_120, rfl, c120_0, c120_1⟩ := hQ120
            have N120 := Fr.app N112 Nc120
            have O121 := O114.keep Kc120 all0
            have sz122 : h112.size ≤ h120.size := Kc120.1
            have cs123 := CHr.keep Kc120 sf0 CR117.1
            have CR124 := CHr.trans CR117 cs123
            have SF125 := CHr.safe cs123 (show @LT.lt Nat _ b105 h112.size by omega) SF118
            have hk126 := Nat.le_trans hk119 Kc120.1
            have ltc120_0 : @LT.lt Nat _ r_120 h120.size := c120_0.lt
            refine gg st120 ?_
            refine q_astore X120 hx hby at_217 rfl (l' := #[vI x0, vI x1, vI x2, vI x3, vI x4, vI ((x4 &&& (2147483647 : Int32)) % (5 : Int32)), vI r_1, vI r_2, vI r_3, vI r_4, vR b79, vI 1, vR b105, vR r_120, uS]) rfl ?_
            refine q_aload X120 hx hby at_219 rfl rfl ?_
            refine q_aload X120 hx hby at_221 rfl rfl ?_
            have f127 := (c112_0.keep Kc120 nin0 nin0)
            obtain ⟨_, _, ⟨T128, L128, k128, n128⟩, -, X128, ⟨Lc128, hQ128, l128, y128, z128⟩, st128⟩ := Jvm.LawKit.callS X120 hx (y := own_m29) hown (mvT hZ (wh hw 47 rfl)) (mvT hZ (wh hw 48 rfl)) (mvT hZ (wh hw 49 rfl)) (mvT hZ (wh hw 50 rfl)) (by decide) (backOf (W := 0) (own_rq2 l Z a0 hw [] b105 rb_112 r_120 r_1 r_2 h120 n0 O121 gz gfm G f127 (show (¬ r_1.toInt = 0 ∧ ((r_1.toInt < 55296 ∨ 56319 < r_1.toInt) ∨ (56320 ≤ r_2.toInt ∧ r_2.toInt ≤ 57343)) ∧ ((r_1.toInt < 56320 ∨ 57343 < r_1.toInt))) from ok100) (show (¬ r_2.toInt = 0 ∧ ((r_2.toInt < 55296 ∨ 56319 < r_2.toInt)) ∧ ((r_2.toInt < 56320 ∨ 57343 < r_2.toInt) ∨ (55296 ≤ r_1.toInt ∧ r_1.toInt ≤ 56319))) from ok102)) hZ (wh hw 50 rfl) (wh hw 49 rfl) (by decide) (by decide)) (g := (mkF m 223 #[vI x0, vI x1, vI x2, vI x3, vI x4, vI ((x4 &&& (2147483647 : Int32)) % (5 : Int32)), vI r_1, vI r_2, vI r_3, vI r_4, vR b79, vI 1, vR b105, vR r_120, uS] [.ref r_120, .ref b105])) rfl (by rw [hml]; rfl) (argsL := [.ref b105, .ref r_120]) (rest := []) (lenOf own_pd_28 rfl) rfl (by show 2 * 0 + _ ≤ _; exact Nat.le_of_eq rfl) (hb hby at_223) (fun _ _ => ⟨rfl, e120, (by decide : 6 + 0 ≤ _), (by decide : 17 + 0 ≤ _)⟩)
            dsimp only [Pt.U, Pt.locs, Pt.cells, Pt.slots] at X128 l128 y128 z128 st128 hQ128
            subst l128 y128 z128
            obtain ⟨Nc128, e128, rfl⟩ := hQ128
            have N128 := Fr.app N120 Nc128
            refine gg st128 ?_
            refine q_astore X128 hx hby at_226 rfl (l' := #[vI x0, vI x1, vI x2, vI x3, vI x4, vI ((x4 &&& (2147483647 : Int32)) % (5 : Int32)), vI r_1, vI r_2, vI r_3, vI r_4, vR b79, vI 1, vR b105, vR r_120, vR b105]) rfl ?_
            refine q_aload X128 hx hby at_228 rfl rfl ?_
            refine q_aload X128 hx hby at_230 rfl rfl ?_
            refine gg (fun t k => Jvm.RoadKit.acmp (g := (mkF m 232 #[vI x0, vI x1, vI x2, vI x3, vI x4, vI ((x4 &&& (2147483647 : Int32)) % (5 : Int32)), vI r_1, vI r_2, vI r_3, vI r_4, vR b79, vI 1, vR b105, vR r_120, vR b105] [.ref b105, .ref b105])) X128 hx rfl rfl rfl (pc0 := 232) (pc' := 235) (same := true) rfl (hb hby at_232) rfl (decide_eq_true rfl) (by decide) (by decide) k) ?_
            refine q_iconst X128 hx hby at_235 ?_
            refine q_goto (pc := 236) X128 hx hby at_236 (pc' := 240) (by decide) (by decide) ?_
            refine own_endH X128 hS0 (show _ ≤ T128.heap.size by rw [e128]; exact hk126) e128 hh CR124 hZ (own_EW hw) (v := (some (.int 1))) (fun h => by rw [hret] at h; cases h) hlk (by decide) (by decide) ?_ (fun fs hr => retOut X128 hx hret rfl (Or.inl ⟨rfl, Or.inr (Or.inl rfl), _, rfl⟩) (hb hby at_240) hr)
            show Q_rm0 Z x0 x1 x2 x3 x4 gz gfm h0 n0 _ T128.heap _
            rw [e128]
            exact ⟨N128, trivial, rfl⟩
          · show own_Goes p e below (T101.setTop (mkF m 158 #[vI x0, vI x1, vI x2, vI x3, vI x4, vI ((x4 &&& (2147483647 : Int32)) % (5 : Int32)), vI r_1, vI r_2, vI r_3, vI r_4, vR b79, uS, uS, uS, uS] [.int 0])) _
            refine q_ifYes (pc := 158) X101 hx hby at_158 (pc' := 183) ((if0 _ _).trans (teq (show ((0 : Int32) = (0 : Int32)) from by decide)).1) (by decide) (by decide) ?_
            refine q_iconst X101 hx hby at_183 ?_
            refine q_istore X101 hx hby at_184 (l' := #[vI x0, vI x1, vI x2, vI x3, vI x4, vI ((x4 &&& (2147483647 : Int32)) % (5 : Int32)), vI r_1, vI r_2, vI r_3, vI r_4, vR b79, vI 0, uS, uS, uS]) rfl ?_
            refine q_iload X101 hx hby at_186 rfl ?_
            refine q_ifNo X101 hx hby at_188 ((if0 _ _).trans (teq (show ((0 : Int32) = (0 : Int32)) from by decide)).2) ?_
            refine q_iconst X101 hx hby at_191 ?_
            refine own_endH X101 hS0 (show _ ≤ T101.heap.size by rw [e101]; exact hk98) e101 hh CR97 hZ (own_EW hw) (v := (some (.int 1))) (fun h => by rw [hret] at h; cases h) hlk (by decide) (by decide) ?_ (fun fs hr => retOut X101 hx hret rfl (Or.inl ⟨rfl, Or.inr (Or.inl rfl), _, rfl⟩) (hb hby at_192) hr)
            show Q_rm0 Z x0 x1 x2 x3 x4 gz gfm h0 n0 _ T101.heap _
            rw [e101]
            exact ⟨N101, trivial, rfl⟩
        · show own_Goes p e below (T99.setTop (mkF m 149 #[vI x0, vI x1, vI x2, vI x3, vI x4, vI ((x4 &&& (2147483647 : Int32)) % (5 : Int32)), vI r_1, vI r_2, vI r_3, vI r_4, vR b79, uS, uS, uS, uS] [.int 0])) _
          refine q_ifYes (pc := 149) X99 hx hby at_149 (pc' := 183) ((if0 _ _).trans (teq (show ((0 : Int32) = (0 : Int32)) from by decide)).1) (by decide) (by decide) ?_
          refine q_iconst X99 hx hby at_183 ?_
          refine q_istore X99 hx hby at_184 (l' := #[vI x0, vI x1, vI x2, vI x3, vI x4, vI ((x4 &&& (2147483647 : Int32)) % (5 : Int32)), vI r_1, vI r_2, vI r_3, vI r_4, vR b79, vI 0, uS, uS, uS]) rfl ?_
          refine q_iload X99 hx hby at_186 rfl ?_
          refine q_ifNo X99 hx hby at_188 ((if0 _ _).trans (teq (show ((0 : Int32) = (0 : Int32)) from by decide)).2) ?_
          refine q_iconst X99 hx hby at_191 ?_
          refine own_endH X99 hS0 (show _ ≤ T99.heap.size by rw [e99]; exact hk98) e99 hh CR97 hZ (own_EW hw) (v := (some (.int 1))) (fun h => by rw [hret] at h; cases h) hlk (by decide) (by decide) ?_ (fun fs hr => retOut X99 hx hret rfl (Or.inl ⟨rfl, Or.inr (Or.inl rfl), _, rfl⟩) (hb hby at_192) hr)
          show Q_rm0 Z x0 x1 x2 x3 x4 gz gfm h0 n0 _ T99.heap _
          rw [e99]
          exact ⟨N99, trivial, rfl⟩
      · refine q_icmpYes (pc := 68) X4 hx hby at_68 (pc' := 89) (feq hc78).2 (by decide) (by decide) ?_
        refine q_iload X4 hx hby at_89 rfl ?_
        refine q_iconst X4 hx hby at_91 ?_
        by_cases hc129 : ((x4 &&& (2147483647 : Int32)) % (5 : Int32)) = (3 : Int32)
        · refine q_icmpNo X4 hx hby at_92 (teq hc129).2 ?_
          refine q_iconst X4 hx hby at_95 ?_
          obtain ⟨T130, h130, k130, X130, e130, E130, A130, st130⟩ := newP X4 hx hZ (wh hw 7 rfl) e4 (g := (mkF m 96 #[vI x0, vI x1, vI x2, vI x3, vI x4, vI ((x4 &&& (2147483647 : Int32)) % (5 : Int32)), vI r_1, vI r_2, vI r_3, vI r_4, uS, uS, uS, uS, uS] [.int 3])) rfl (hb hby at_96) rfl (by decide) (cap := 3) (by decide) (by decide) (by decide) (by decide)
          obtain ⟨b130, g130⟩ : ∃ z, z = h0.size := ⟨_, rfl⟩
          rw [← g130] at A130 st130
          refine gg st130 ?_
          have O131 := O0.ext E130
          have sz132 : h0.size ≤ h130.size := E130.1
          have cs133 := CHr.ext E130 CR0.1
          have CR134 := CHr.trans CR0 cs133
          have hk135 := Nat.le_trans hk0 E130.1
          have l130 : @LT.lt Nat _ b130 h130.size := A130.lt
          have V130 : Arv Z h130 b130 k130 .char (3 : Int32) [.int 0, .int 0, .int 0] (.int 0) := (Arv.new A130 (by decide)).pad (pad_rep [] (.int 0) 3)
          refine q_dup X130 hx hby at_98 rfl ?_
          refine q_iconst X130 hx hby at_99 ?_
          show own_Goes p e below (T130.setTop (mkF m 100 #[vI x0, vI x1, vI x2, vI x3, vI x4, vI ((x4 &&& (2147483647 : Int32)) % (5 : Int32)), vI r_1, vI r_2, vI r_3, vI r_4, uS, uS, uS, uS, uS] [.int 0, .ref b130, .ref b130])) _
          refine q_iload X130 hx hby at_100 rfl ?_
          refine q_stC X130 hx hby hZ e130 V130 0 at_102 (fun T137 h137 X137 e137 W137 V137 => ?_)
          rw [own_nar16 c1_0] at V137
          have O138 := O131.wr W137 (show n0 ≤ b130 by omega)
          have sz139 : h137.size = h130.size := Wr.size W137
          have cs140 := CHr.wr W137 (Safe.arv hZ.alike V130 (by decide)) CR134.1
          have CR141 := CHr.trans CR134 cs140
          have hk142 := Nat.le_trans hk135 (Nat.le_of_eq (Wr.size W137).symm)
          have N137 := Fr.snoc X137 N4 (show n0 ≤ b130 by omega)
          have V137 : Arv Z h137 b130 k130 .char (3 : Int32) [.int r_1, .int 0, .int 0] (.int 0) := V137
          refine q_dup X137 hx hby at_103 rfl ?_
          refine q_iconst X137 hx hby at_104 ?_
          refine q_iload X137 hx hby at_105 rfl ?_
          refine q_stC X137 hx hby hZ e137 V137 1 at_107 (fun T144 h144 X144 e144 W144 V144 => ?_)
          rw [own_nar16 c2_0] at V144
          have O145 := O138.wr W144 (show n0 ≤ b130 by omega)
          have sz146 : h144.size = h137.size := Wr.size W144
          have cs147 := CHr.wr W144 (Safe.arv hZ.alike V137 (by decide)) CR141.1
          have CR148 := CHr.trans CR141 cs147
          have hk149 := Nat.le_trans hk142 (Nat.le_of_eq (Wr.size W144).symm)
          have N144 := Fr.snoc X144 N137 (show n0 ≤ b130 by omega)
          have V144 : Arv Z h144 b130 k130 .char (3 : Int32) [.int r_1, .int r_2, .int 0] (.int 0) := V144
          refine q_dup X144 hx hby at_108 rfl ?_
          refine q_iconst X144 hx hby at_109 ?_
          refine q_iload X144 hx hby at_110 rfl ?_
          refine q_stC X144 hx hby hZ e144 V144 2 at_112 (fun T151 h151 X151 e151 W151 V151 => ?_)
          rw [own_nar16 c3_0] at V151
          have O152 := O145.wr W151 (show n0 ≤ b130 by omega)
          have sz153 : h151.size = h144.size := Wr.size W151
          have cs154 := CHr.wr W151 (Safe.arv hZ.alike V144 (by decide)) CR148.1
          have CR155 := CHr.trans CR148 cs154
          have hk156 := Nat.le_trans hk149 (Nat.le_of_eq (Wr.size W151).symm)
          have N151 := Fr.snoc X151 N144 (show n0 ≤ b130 by omega)
          have V151 : Arv Z h151 b130 k130 .char (3 : Int32) [.int r_1, .int r_2, .int r_3] (.int 0) := V151
          refine q_astore X151 hx hby at_113 rfl (l' := #[vI x0, vI x1, vI x2, vI x3, vI x4, vI ((x4 &&& (2147483647 : Int32)) % (5 : Int32)), vI r_1, vI r_2, vI r_3, vI r_4, vR b130, uS, uS, uS, uS]) rfl ?_
          refine q_goto (pc := 115) X151 hx hby at_115 (pc' := 143) (by decide) (by decide) ?_
          refine q_aload X151 hx hby at_143 rfl rfl ?_
          refine q_iconst X151 hx hby at_145 ?_
          show own_Goes p e below (T151.setTop (mkF m 146 #[vI x0, vI x1, vI x2, vI x3, vI x4, vI ((x4 &&& (2147483647 : Int32)) % (5 : Int32)), vI r_1, vI r_2, vI r_3, vI r_4, vR b130, uS, uS, uS, uS] [.int 0, .ref b130])) _
          obtain ⟨_, _, ⟨T157, L157, k157, n157⟩, -, X157, ⟨Lc157, hQ157, l157, y157, z157⟩, st157⟩ := Jvm.LawKit.callS X151 hx (y := own_m23) hown (mvT hZ (wh hw 8 rfl)) (mvT hZ (wh hw 9 rfl)) (mvT hZ (wh hw 3 rfl)) (mvT hZ (wh hw 10 rfl)) (by decide) (backOf (W := 0) (own_fit3_0 l Z a0 hw [] b130 k130 r_1 r_2 r_3 h151 n0 O152 V151) hZ (wh hw 10 rfl) (wh hw 3 rfl) (by decide) (by decide)) (g := (mkF m 146 #[vI x0, vI x1, vI x2, vI x3, vI x4, vI ((x4 &&& (2147483647 : Int32)) % (5 : Int32)), vI r_1, vI r_2, vI r_3, vI r_4, vR b130, uS, uS, uS, uS] [.int 0, .ref b130])) rfl (by rw [hml]; rfl) (argsL := [.ref b130, .int 0]) (rest := []) (lenOf own_pd_22 rfl) rfl (by show 2 * 0 + _ ≤ _; exact Nat.le_of_eq rfl) (hb hby at_146) (fun _ _ => ⟨rfl, e151, (by decide : 1 + 0 ≤ _), (by decide : 3 + 0 ≤ _)⟩)
          dsimp only [Pt.U, Pt.locs, Pt.cells, Pt.slots] at X157 l157 y157 z157 st157 hQ157
          subst l157 y157 z157
          obtain ⟨Nc157, e157, r_157, rfl, c157_0⟩ := hQ157
          have N157 := Fr.app N151 Nc157
          refine gg st157 ?_
          rcases c157_0 with ⟨rfl, ok158⟩ | rfl
          · show own_Goes p e below (T157.setTop (mkF m 149 #[vI x0, vI x1, vI x2, vI x3, vI x4, vI ((x4 &&& (2147483647 : Int32)) % (5 : Int32)), vI r_1, vI r_2, vI r_3, vI r_4, vR b130, uS, uS, uS, uS] [.int 1])) _
            refine q_ifNo X157 hx hby at_149 ((if0 _ _).trans (feq (show ¬ ((1 : Int32) = (0 : Int32)) from by decide)).1) ?_
            refine q_aload X157 hx hby at_152 rfl rfl ?_
            refine q_iconst X157 hx hby at_154 ?_
            obtain ⟨_, _, ⟨T159, L159, k159, n159⟩, -, X159, ⟨Lc159, hQ159, l159, y159, z159⟩, st159⟩ := Jvm.LawKit.callS X157 hx (y := own_m23) hown (mvT hZ (wh hw 8 rfl)) (mvT hZ (wh hw 9 rfl)) (mvT hZ (wh hw 3 rfl)) (mvT hZ (wh hw 10 rfl)) (by decide) (backOf (W := 0) (own_fit3_1 l Z a0 hw [] b130 k130 r_1 r_2 r_3 h151 n0 O152 V151) hZ (wh hw 10 rfl) (wh hw 3 rfl) (by decide) (by decide)) (g := (mkF m 155 #[vI x0, vI x1, vI x2, vI x3, vI x4, vI ((x4 &&& (2147483647 : Int32)) % (5 : Int32)), vI r_1, vI r_2, vI r_3, vI r_4, vR b130, uS, uS, uS, uS] [.int 1, .ref b130])) rfl (by rw [hml]; rfl) (argsL := [.ref b130, .int 1]) (rest := []) (lenOf own_pd_22 rfl) rfl (by show 2 * 0 + _ ≤ _; exact Nat.le_of_eq rfl) (hb hby at_155) (fun _ _ => ⟨rfl, e157, (by decide : 1 + 0 ≤ _), (by decide : 3 + 0 ≤ _)⟩)
            dsimp only [Pt.U, Pt.locs, Pt.cells, Pt.slots] at X159 l159 y159 z159 st159 hQ159
            subst l159 y159 z159
            obtain ⟨Nc159, e159, r_159, rfl, c159_0⟩ := hQ159
            have N159 := Fr.app N157 Nc159
            refine gg st159 ?_
            rcases c159_0 with ⟨rfl, ok160⟩ | rfl
            · show own_Goes p e below (T159.setTop (mkF m 158 #[vI x0, vI x1, vI x2, vI x3, vI x4, vI ((x4 &&& (2147483647 : Int32)) % (5 : Int32)), vI r_1, vI r_2, vI r_3, vI r_4, vR b130, uS, uS, uS, uS] [.int 1])) _
              refine q_ifNo X159 hx hby at_158 ((if0 _ _).trans (feq (show ¬ ((1 : Int32) = (0 : Int32)) from by decide)).1) ?_
              refine q_aload X159 hx hby at_161 rfl rfl ?_
              refine q_iconst X159 hx hby at_163 ?_
              obtain ⟨_, _, ⟨T161, L161, k161, n161⟩, -, X161, ⟨Lc161, hQ161, l161, y161, z161⟩, st161⟩ := Jvm.LawKit.callS X159 hx (y := own_m23) hown (mvT hZ (wh hw 8 rfl)) (mvT hZ (wh hw 9 rfl)) (mvT hZ (wh hw 3 rfl)) (mvT hZ (wh hw 10 rfl)) (by decide) (backOf (W := 0) (own_fit3_2 l Z a0 hw [] b130 k130 r_1 r_2 r_3 h151 n0 O152 V151) hZ (wh hw 10 rfl) (wh hw 3 rfl) (by decide) (by decide)) (g := (mkF m 164 #[vI x0, vI x1, vI x2, vI x3, vI x4, vI ((x4 &&& (2147483647 : Int32)) % (5 : Int32)), vI r_1, vI r_2, vI r_3, vI r_4, vR b130, uS, uS, uS, uS] [.int 2, .ref b130])) rfl (by rw [hml]; rfl) (argsL := [.ref b130, .int 2]) (rest := []) (lenOf own_pd_22 rfl) rfl (by show 2 * 0 + _ ≤ _; exact Nat.le_of_eq rfl) (hb hby at_164) (fun _ _ => ⟨rfl, e159, (by decide : 1 + 0 ≤ _), (by decide : 3 + 0 ≤ _)⟩)
              dsimp only [Pt.U, Pt.locs, Pt.cells, Pt.slots] at X161 l161 y161 z161 st161 hQ161
              subst l161 y161 z161
              obtain ⟨Nc161, e161, r_161, rfl, c161_0⟩ := hQ161
              have N161 := Fr.app N159 Nc161
              refine gg st161 ?_
              rcases c161_0 with ⟨rfl, ok162⟩ | rfl
              · show own_Goes p e below (T161.setTop (mkF m 167 #[vI x0, vI x1, vI x2, vI x3, vI x4, vI ((x4 &&& (2147483647 : Int32)) % (5 : Int32)), vI r_1, vI r_2, vI r_3, vI r_4, vR b130, uS, uS, uS, uS] [.int 1])) _
                refine q_ifNo X161 hx hby at_167 ((if0 _ _).trans (feq (show ¬ ((1 : Int32) = (0 : Int32)) from by decide)).1) ?_
                refine q_aload X161 hx hby at_170 rfl rfl ?_
                refine q_iconst X161 hx hby at_172 ?_
                obtain ⟨_, _, ⟨T163, L163, k163, n163⟩, -, X163, ⟨Lc163, hQ163, l163, y163, z163⟩, st163⟩ := Jvm.LawKit.callS X161 hx (y := own_m23) hown (mvT hZ (wh hw 8 rfl)) (mvT hZ (wh hw 9 rfl)) (mvT hZ (wh hw 3 rfl)) (mvT hZ (wh hw 10 rfl)) (by decide) (backOf (W := 0) (own_fit3_3 l Z a0 hw [] b130 k130 r_1 r_2 r_3 h151 n0 O152 V151) hZ (wh hw 10 rfl) (wh hw 3 rfl) (by decide) (by decide)) (g := (mkF m 173 #[vI x0, vI x1, vI x2, vI x3, vI x4, vI ((x4 &&& (2147483647 : Int32)) % (5 : Int32)), vI r_1, vI r_2, vI r_3, vI r_4, vR b130, uS, uS, uS, uS] [.int 3, .ref b130])) rfl (by rw [hml]; rfl) (argsL := [.ref b130, .int 3]) (rest := []) (lenOf own_pd_22 rfl) rfl (by show 2 * 0 + _ ≤ _; exact Nat.le_of_eq rfl) (hb hby at_173) (fun _ _ => ⟨rfl, e161, (by decide : 1 + 0 ≤ _), (by decide : 3 + 0 ≤ _)⟩)
                dsimp only [Pt.U, Pt.locs, Pt.cells, Pt.slots] at X163 l163 y163 z163 st163 hQ163
                subst l163 y163 z163
                obtain ⟨Nc163, e163, rfl⟩ := hQ163
                have N163 := Fr.app N161 Nc163
                refine gg st163 ?_
                refine q_ifNo X163 hx hby at_176 ((if0 _ _).trans (feq (show ¬ ((1 : Int32) = (0 : Int32)) from by decide)).1) ?_
                refine q_iconst X163 hx hby at_179 ?_
                refine q_goto (pc := 180) X163 hx hby at_180 (pc' := 184) (by decide) (by decide) ?_
                refine q_istore X163 hx hby at_184 (l' := #[vI x0, vI x1, vI x2, vI x3, vI x4, vI ((x4 &&& (2147483647 : Int32)) % (5 : Int32)), vI r_1, vI r_2, vI r_3, vI r_4, vR b130, vI 1, uS, uS, uS]) rfl ?_
                refine q_iload X163 hx hby at_186 rfl ?_
                refine q_ifYes (pc := 188) X163 hx hby at_188 (pc' := 193) ((if0 _ _).trans (feq (show ¬ ((1 : Int32) = (0 : Int32)) from by decide)).2) (by decide) (by decide) ?_
                obtain ⟨T164, h164, X164, e164, E164, A164, D164, -, st164⟩ := newO X163 hx hZ hown (wh hw 11 rfl) (wh hw 12 rfl) (wh hw 13 rfl) e163 (g := (mkF m 193 #[vI x0, vI x1, vI x2, vI x3, vI x4, vI ((x4 &&& (2147483647 : Int32)) % (5 : Int32)), vI r_1, vI r_2, vI r_3, vI r_4, vR b130, vI 1, uS, uS, uS] [])) rfl (hb hby at_193) (by decide) (by decide)
                obtain ⟨b164, g164⟩ : ∃ z, z = h151.size := ⟨_, rfl⟩
                rw [← g164] at A164 D164 st164
                refine gg st164 ?_
                have O165 := O152.ext E164
                have sz166 : h151.size ≤ h164.size := E164.1
                have cs167 := CHr.ext E164 CR155.1
                have CR168 := CHr.trans CR155 cs167
                have hk169 := Nat.le_trans hk156 E164.1
                have l164 : @LT.lt Nat _ b164 h164.size := A164.lt
                have F164_value : Fld Z h164 b164 "java/lang/String" "value" "[B" .null := D164 (Or.inr (wh hw 26 rfl)) (ty := (.array .byte)) (by decide)
                have F164_coder : Fld Z h164 b164 "java/lang/String" "coder" "B" (.int 0) := D164 (Or.inr (wh hw 27 rfl)) (ty := .byte) (by decide)
                refine q_dup X164 hx hby at_196 rfl ?_
                refine q_aload X164 hx hby at_197 rfl rfl ?_
                have f170 := (V151.ext E164)
                obtain ⟨_, _, ⟨T171, L171, k171, n171⟩, -, X171, ⟨Lc171, hQ171, l171, y171, z171⟩, st171⟩ := X164.specialBack hx (y := own_m25) rfl hown (mvT hZ (wh hw 14 rfl)) (mvT hZ (wh hw 15 rfl)) (mvT hZ (wh hw 16 rfl)) (by decide) (backOf (W := 1) (own_sc3 l Z a0 hw [] b164 b130 k130 r_1 r_2 r_3 h164 n0 O165 gz gfm G A164 F164_value F164_coder (show n0 ≤ b164 by first | assumption | omega | decide) f170 (show (@LT.lt Nat _ b130 b164 ∨ @LT.lt Nat _ b164 b130) by first | assumption | omega | decide) (show own_C16 r_1 from c1_0) (show own_C16 r_2 from c2_0) (show own_C16 r_3 from c3_0)) hZ (wh hw 16 rfl) (wh hw 13 rfl) (by decide) (by decide)) (g := (mkF m 199 #[vI x0, vI x1, vI x2, vI x3, vI x4, vI ((x4 &&& (2147483647 : Int32)) % (5 : Int32)), vI r_1, vI r_2, vI r_3, vI r_4, vR b130, vI 1, uS, uS, uS] [.ref b130, .ref b164, .ref b164])) rfl (by rw [hml]; rfl) (Steps.refl _) (a := b164) (argsL := [.ref b130]) (rest := [.ref b164]) (lenOf own_pd_24 rfl) rfl (by show 2 * 0 + _ ≤ _; exact Nat.le_of_eq rfl) (hb hby at_199) (fun _ _ => ⟨rfl, e164, (by decide : 2 + 2 ≤ _), (by decide : 7 + 9 ≤ _)⟩)
                dsimp only [Pt.U, Pt.locs, Pt.cells, Pt.slots] at X171 l171 y171 z171 st171 hQ171
                subst l171 y171 z171
                obtain ⟨h171, e171⟩ : ∃ z, T171.heap = z := ⟨_, rfl⟩
                rw [e171] at hQ171
                obtain ⟨Nc171, Kc171, rb_171, rfl, c171_0⟩ := hQ171
                have N171 := Fr.app N163 Nc171
                have SF172 : Safe Z consts_1 _ h164 b164 := own_safeNull hZ.alike A164 F164_value
                have O173 := O165.keep Kc171 (allS (show n0 ≤ b164 by omega) all0)
                have sz174 : h164.size ≤ h171.size := Kc171.1
                have cs175 := CHr.keep Kc171 (sfS SF172 sf0) CR168.1
                have CR176 := CHr.trans CR168 cs175
                have SF177 := CHr.safe cs175 (show @LT.lt Nat _ b164 h164.size by omega) SF172
                have hk178 := Nat.le_trans hk169 Kc171.1
                have ltc171_0 : @LT.lt Nat _ b164 h171.size := c171_0.1.lt
                have luc171_0 : @LT.lt Nat _ rb_171 h171.size := c171_0.lt2
                refine own_goS st171 ?_
                show own_Goes p e below (T171.setTop (mkF m 202 #[vI x0, vI x1, vI x2, vI x3, vI x4, vI ((x4 &&& (2147483647 : Int32)) % (5 : Int32)), vI r_1, vI r_2, vI r_3, vI r_4, vR b130, vI 1, uS, uS, uS] [.ref b164])) _
                refine q_astore X171 hx hby at_202 rfl (l' := #[vI x0, vI x1, vI x2, vI x3, vI x4, vI ((x4 &&& (2147483647 : Int32)) % (5 : Int32)), vI r_1, vI r_2, vI r_3, vI r_4, vR b130, vI 1, vR b164, uS, uS]) rfl ?_
                refine q_iload X171 hx hby at_204 rfl ?_
                refine q_bipush X171 hx hby at_206 ?_
                refine gg (fun t k => XS.iushr X171.here hx rfl (hb hby at_208) rfl k) ?_
                refine q_sipush X171 hx hby at_209 ?_
                refine q_iand X171 hx hby at_212 ?_
                refine gg (fun t k => XS.i2c X171.here hx rfl (hb hby at_213) rfl k) ?_
                show own_Goes p e below (T171.setTop (mkF m 214 #[vI x0, vI x1, vI x2, vI x3, vI x4, vI ((x4 &&& (2147483647 : Int32)) % (5 : Int32)), vI r_1, vI r_2, vI r_3, vI r_4, vR b130, vI 1, vR b164, uS, uS] [(.int ((((x4.toUInt32 >>> ((8 : Int32) &&& 31).toUInt32).toInt32) &&& (255 : Int32)).toUInt32.toUInt16.toUInt32.toInt32))])) _
                rw [i2c_mask]
                show own_Goes p e below (T171.setTop (mkF m 214 #[vI x0, vI x1, vI x2, vI x3, vI x4, vI ((x4 &&& (2147483647 : Int32)) % (5 : Int32)), vI r_1, vI r_2, vI r_3, vI r_4, vR b130, vI 1, vR b164, uS, uS] [(.int (((x4.toUInt32 >>> ((8 : Int32) &&& 31).toUInt32).toInt32) &&& (255 : Int32)))])) _
                obtain ⟨_, _, ⟨T179, L179, k179, n179⟩, -, X179, ⟨Lc179, hQ179, l179, y179, z179⟩, st179⟩ := Jvm.LawKit.callS X171 hx (y := own_m27) hown (mvT hZ (wh hw 32 rfl)) (mvT hZ (wh hw 33 rfl)) (mvT hZ (wh hw 13 rfl)) (mvT hZ (wh hw 34 rfl)) (by decide) (backOf (W := 0) (own_vOf l Z a0 hw [] (((x4.toUInt32 >>> ((8 : Int32) &&& 31).toUInt32).toInt32) &&& (255 : Int32)) h171 n0 O173 gz gfm G (show ¬ (255 : Int32) < (((x4.toUInt32 >>> ((8 : Int32) &&& 31).toUInt32).toInt32) &&& (255 : Int32)) from (own_m255 _))) hZ (wh hw 34 rfl) (wh hw 13 rfl) (by decide) (by decide)) (g := (mkF m 214 #[vI x0, vI x1, vI x2, vI x3, vI x4, vI ((x4 &&& (2147483647 : Int32)) % (5 : Int32)), vI r_1, vI r_2, vI r_3, vI r_4, vR b130, vI 1, vR b164, uS, uS] [(.int (((x4.toUInt32 >>> ((8 : Int32) &&& 31).toUInt32).toInt32) &&& (255 : Int32)))])) rfl (by rw [hml]; rfl) (argsL := [(.int (((x4.toUInt32 >>> ((8 : Int32) &&& 31).toUInt32).toInt32) &&& (255 : Int32)))]) (rest := []) (lenOf own_pd_26 rfl) rfl (by show 2 * 0 + _ ≤ _; exact Nat.le_of_eq rfl) (hb hby at_214) (fun _ _ => ⟨rfl, e171, (by decide : 4 + 2 ≤ _), (by decide : 16 + 5 ≤ _)⟩)
                dsimp only [Pt.U, Pt.locs, Pt.cells, Pt.slots] at X179 l179 y179 z179 st179 hQ179
                subst l179 y179 z179
                obtain ⟨h179, e179⟩ : ∃ z, T179.heap = z := ⟨_, rfl⟩
                rw [e179] at hQ179
                obtain ⟨Nc179, Kc179, r_179, rfl, c179_0, c179_1⟩ := hQ179
                have N179 := Fr.app N171 Nc179
                have O180 := O173.keep Kc179 all0
                have sz181 : h171.size ≤ h179.size := Kc179.1
                have cs182 := CHr.keep Kc179 sf0 CR176.1
                have CR183 := CHr.trans CR176 cs182
                have SF184 := CHr.safe cs182 (show @LT.lt Nat _ b164 h171.size by omega) SF177
                have hk185 := Nat.le_trans hk178 Kc179.1
                have ltc179_0 : @LT.lt Nat _ r_179 h179.size := c179_0.lt
                refine gg st179 ?_
                refine q_astore X179 hx hby at_217 rfl (l' := #[vI x0, vI x1, vI x2, vI x3, vI x4, vI ((x4 &&& (2147483647 : Int32)) % (5 : Int32)), vI r_1, vI r_2, vI r_3, vI r_4, vR b130, vI 1, vR b164, vR r_179, uS]) rfl ?_
                refine q_aload X179 hx hby at_219 rfl rfl ?_
                refine q_aload X179 hx hby at_221 rfl rfl ?_
                have f186 := (c171_0.keep Kc179 nin0 nin0)
                obtain ⟨_, _, ⟨T187, L187, k187, n187⟩, -, X187, ⟨Lc187, hQ187, l187, y187, z187⟩, st187⟩ := Jvm.LawKit.callS X179 hx (y := own_m29) hown (mvT hZ (wh hw 47 rfl)) (mvT hZ (wh hw 48 rfl)) (mvT hZ (wh hw 49 rfl)) (mvT hZ (wh hw 50 rfl)) (by decide) (backOf (W := 0) (own_rq3 l Z a0 hw [] b164 rb_171 r_179 r_1 r_2 r_3 h179 n0 O180 gz gfm G f186 (show (¬ r_1.toInt = 0 ∧ ((r_1.toInt < 55296 ∨ 56319 < r_1.toInt) ∨ (56320 ≤ r_2.toInt ∧ r_2.toInt ≤ 57343)) ∧ ((r_1.toInt < 56320 ∨ 57343 < r_1.toInt))) from ok158) (show (¬ r_2.toInt = 0 ∧ ((r_2.toInt < 55296 ∨ 56319 < r_2.toInt) ∨ (56320 ≤ r_3.toInt ∧ r_3.toInt ≤ 57343)) ∧ ((r_2.toInt < 56320 ∨ 57343 < r_2.toInt) ∨ (55296 ≤ r_1.toInt ∧ r_1.toInt ≤ 56319))) from ok160) (show (¬ r_3.toInt = 0 ∧ ((r_3.toInt < 55296 ∨ 56319 < r_3.toInt)) ∧ ((r_3.toInt < 56320 ∨ 57343 < r_3.toInt) ∨ (55296 ≤ r_2.toInt ∧ r_2.toInt ≤ 56319))) from ok162)) hZ (wh hw 50 rfl) (wh hw 49 rfl) (by decide) (by decide)) (g := (mkF m 223 #[vI x0, vI x1, vI x2, vI x3, vI x4, vI ((x4 &&& (2147483647 : Int32)) % (5 : Int32)), vI r_1, vI r_2, vI r_3, vI r_4, vR b130, vI 1, vR b164, vR r_179, uS] [.ref r_179, .ref b164])) rfl (by rw [hml]; rfl) (argsL := [.ref b164, .ref r_179]) (rest := []) (lenOf own_pd_28 rfl) rfl (by show 2 * 0 + _ ≤ _; exact Nat.le_of_eq rfl) (hb hby at_223) (fun _ _ => ⟨rfl, e179, (by decide : 6 + 0 ≤ _), (by decide : 21 + 0 ≤ _)⟩)
                dsimp only [Pt.U, Pt.locs, Pt.cells, Pt.slots] at X187 l187 y187 z187 st187 hQ187
                subst l187 y187 z187
                obtain ⟨Nc187, e187, rfl⟩ := hQ187
                have N187 := Fr.app N179 Nc187
                refine gg st187 ?_
                refine q_astore X187 hx hby at_226 rfl (l' := #[vI x0, vI x1, vI x2, vI x3, vI x4, vI ((x4 &&& (2147483647 : Int32)) % (5 : Int32)), vI r_1, vI r_2, vI r_3, vI r_4, vR b130, vI 1, vR b164, vR r_179, vR b164]) rfl ?_
                refine q_aload X187 hx hby at_228 rfl rfl ?_
                refine q_aload X187 hx hby at_230 rfl rfl ?_
                refine gg (fun t k => Jvm.RoadKit.acmp (g := (mkF m 232 #[vI x0, vI x1, vI x2, vI x3, vI x4, vI ((x4 &&& (2147483647 : Int32)) % (5 : Int32)), vI r_1, vI r_2, vI r_3, vI r_4, vR b130, vI 1, vR b164, vR r_179, vR b164] [.ref b164, .ref b164])) X187 hx rfl rfl rfl (pc0 := 232) (pc' := 235) (same := true) rfl (hb hby at_232) rfl (decide_eq_true rfl) (by decide) (by decide) k) ?_
                refine q_iconst X187 hx hby at_235 ?_
                refine q_goto (pc := 236) X187 hx hby at_236 (pc' := 240) (by decide) (by decide) ?_
                refine own_endH X187 hS0 (show _ ≤ T187.heap.size by rw [e187]; exact hk185) e187 hh CR183 hZ (own_EW hw) (v := (some (.int 1))) (fun h => by rw [hret] at h; cases h) hlk (by decide) (by decide) ?_ (fun fs hr => retOut X187 hx hret rfl (Or.inl ⟨rfl, Or.inr (Or.inl rfl), _, rfl⟩) (hb hby at_240) hr)
                show Q_rm0 Z x0 x1 x2 x3 x4 gz gfm h0 n0 _ T187.heap _
                rw [e187]
                exact ⟨N187, trivial, rfl⟩
              · show own_Goes p e below (T161.setTop (mkF m 167 #[vI x0, vI x1, vI x2, vI x3, vI x4, vI ((x4 &&& (2147483647 : Int32)) % (5 : Int32)), vI r_1, vI r_2, vI r_3, vI r_4, vR b130, uS, uS, uS, uS] [.int 0])) _
                refine q_ifYes (pc := 167) X161 hx hby at_167 (pc' := 183) ((if0 _ _).trans (teq (show ((0 : Int32) = (0 : Int32)) from by decide)).1) (by decide) (by decide) ?_
                refine q_iconst X161 hx hby at_183 ?_
                refine q_istore X161 hx hby at_184 (l' := #[vI x0, vI x1, vI x2, vI x3, vI x4, vI ((x4 &&& (2147483647 : Int32)) % (5 : Int32)), vI r_1, vI r_2, vI r_3, vI r_4, vR b130, vI 0, uS, uS, uS]) rfl ?_
                refine q_iload X161 hx hby at_186 rfl ?_
                refine q_ifNo X161 hx hby at_188 ((if0 _ _).trans (teq (show ((0 : Int32) = (0 : Int32)) from by decide)).2) ?_
                refine q_iconst X161 hx hby at_191 ?_
                refine own_endH X161 hS0 (show _ ≤ T161.heap.size by rw [e161]; exact hk156) e161 hh CR155 hZ (own_EW hw) (v := (some (.int 1))) (fun h => by rw [hret] at h; cases h) hlk (by decide) (by decide) ?_ (fun fs hr => retOut X161 hx hret rfl (Or.inl ⟨rfl, Or.inr (Or.inl rfl), _, rfl⟩) (hb hby at_192) hr)
                show Q_rm0 Z x0 x1 x2 x3 x4 gz gfm h0 n0 _ T161.heap _
                rw [e161]
                exact ⟨N161, trivial, rfl⟩
            · show own_Goes p e below (T159.setTop (mkF m 158 #[vI x0, vI x1, vI x2, vI x3, vI x4, vI ((x4 &&& (2147483647 : Int32)) % (5 : Int32)), vI r_1, vI r_2, vI r_3, vI r_4, vR b130, uS, uS, uS, uS] [.int 0])) _
              refine q_ifYes (pc := 158) X159 hx hby at_158 (pc' := 183) ((if0 _ _).trans (teq (show ((0 : Int32) = (0 : Int32)) from by decide)).1) (by decide) (by decide) ?_
              refine q_iconst X159 hx hby at_183 ?_
              refine q_istore X159 hx hby at_184 (l' := #[vI x0, vI x1, vI x2, vI x3, vI x4, vI ((x4 &&& (2147483647 : Int32)) % (5 : Int32)), vI r_1, vI r_2, vI r_3, vI r_4, vR b130, vI 0, uS, uS, uS]) rfl ?_
              refine q_iload X159 hx hby at_186 rfl ?_
              refine q_ifNo X159 hx hby at_188 ((if0 _ _).trans (teq (show ((0 : Int32) = (0 : Int32)) from by decide)).2) ?_
              refine q_iconst X159 hx hby at_191 ?_
              refine own_endH X159 hS0 (show _ ≤ T159.heap.size by rw [e159]; exact hk156) e159 hh CR155 hZ (own_EW hw) (v := (some (.int 1))) (fun h => by rw [hret] at h; cases h) hlk (by decide) (by decide) ?_ (fun fs hr => retOut X159 hx hret rfl (Or.inl ⟨rfl, Or.inr (Or.inl rfl), _, rfl⟩) (hb hby at_192) hr)
              show Q_rm0 Z x0 x1 x2 x3 x4 gz gfm h0 n0 _ T159.heap _
              rw [e159]
              exact ⟨N159, trivial, rfl⟩
          · show own_Goes p e below (T157.setTop (mkF m 149 #[vI x0, vI x1, vI x2, vI x3, vI x4, vI ((x4 &&& (2147483647 : Int32)) % (5 : Int32)), vI r_1, vI r_2, vI r_3, vI r_4, vR b130, uS, uS, uS, uS] [.int 0])) _
            refine q_ifYes (pc := 149) X157 hx hby at_149 (pc' := 183) ((if0 _ _).trans (teq (show ((0 : Int32) = (0 : Int32)) from by decide)).1) (by decide) (by decide) ?_
            refine q_iconst X157 hx hby at_183 ?_
            refine q_istore X157 hx hby at_184 (l' := #[vI x0, vI x1, vI x2, vI x3, vI x4, vI ((x4 &&& (2147483647 : Int32)) % (5 : Int32)), vI r_1, vI r_2, vI r_3, vI r_4, vR b130, vI 0, uS, uS, uS]) rfl ?_
            refine q_iload X157 hx hby at_186 rfl ?_
            refine q_ifNo X157 hx hby at_188 ((if0 _ _).trans (teq (show ((0 : Int32) = (0 : Int32)) from by decide)).2) ?_
            refine q_iconst X157 hx hby at_191 ?_
            refine own_endH X157 hS0 (show _ ≤ T157.heap.size by rw [e157]; exact hk156) e157 hh CR155 hZ (own_EW hw) (v := (some (.int 1))) (fun h => by rw [hret] at h; cases h) hlk (by decide) (by decide) ?_ (fun fs hr => retOut X157 hx hret rfl (Or.inl ⟨rfl, Or.inr (Or.inl rfl), _, rfl⟩) (hb hby at_192) hr)
            show Q_rm0 Z x0 x1 x2 x3 x4 gz gfm h0 n0 _ T157.heap _
            rw [e157]
            exact ⟨N157, trivial, rfl⟩
        · refine q_icmpYes (pc := 92) X4 hx hby at_92 (pc' := 118) (feq hc129).2 (by decide) (by decide) ?_
          refine q_iconst X4 hx hby at_118 ?_
          obtain ⟨T188, h188, k188, X188, e188, E188, A188, st188⟩ := newP X4 hx hZ (wh hw 7 rfl) e4 (g := (mkF m 119 #[vI x0, vI x1, vI x2, vI x3, vI x4, vI ((x4 &&& (2147483647 : Int32)) % (5 : Int32)), vI r_1, vI r_2, vI r_3, vI r_4, uS, uS, uS, uS, uS] [.int 4])) rfl (hb hby at_119) rfl (by decide) (cap := 4) (by decide) (by decide) (by decide) (by decide)
          obtain ⟨b188, g188⟩ : ∃ z, z = h0.size := ⟨_, rfl⟩
          rw [← g188] at A188 st188
          refine gg st188 ?_
          have O189 := O0.ext E188
          have sz190 : h0.size ≤ h188.size := E188.1
          have cs191 := CHr.ext E188 CR0.1
          have CR192 := CHr.trans CR0 cs191
          have hk193 := Nat.le_trans hk0 E188.1
          have l188 : @LT.lt Nat _ b188 h188.size := A188.lt
          have V188 : Arv Z h188 b188 k188 .char (4 : Int32) [.int 0, .int 0, .int 0, .int 0] (.int 0) := (Arv.new A188 (by decide)).pad (pad_rep [] (.int 0) 4)
          refine q_dup X188 hx hby at_121 rfl ?_
          refine q_iconst X188 hx hby at_122 ?_
          refine q_iload X188 hx hby at_123 rfl ?_
          refine q_stC X188 hx hby hZ e188 V188 0 at_125 (fun T195 h195 X195 e195 W195 V195 => ?_)
          rw [own_nar16 c1_0] at V195
          have O196 := O189.wr W195 (show n0 ≤ b188 by omega)
          have sz197 : h195.size = h188.size := Wr.size W195
          have cs198 := CHr.wr W195 (Safe.arv hZ.alike V188 (by decide)) CR192.1
          have CR199 := CHr.trans CR192 cs198
          have hk200 := Nat.le_trans hk193 (Nat.le_of_eq (Wr.size W195).symm)
          have N195 := Fr.snoc X195 N4 (show n0 ≤ b188 by omega)
          have V195 : Arv Z h195 b188 k188 .char (4 : Int32) [.int r_1, .int 0, .int 0, .int 0] (.int 0) := V195
          refine q_dup X195 hx hby at_126 rfl ?_
          show own_Goes p e below (T195.setTop (mkF m 127 #[vI x0, vI x1, vI x2, vI x3, vI x4, vI ((x4 &&& (2147483647 : Int32)) % (5 : Int32)), vI r_1, vI r_2, vI r_3, vI r_4, uS, uS, uS, uS, uS] [.ref b188, .ref b188])) _
          refine q_iconst X195 hx hby at_127 ?_
          refine q_iload X195 hx hby at_128 rfl ?_
          refine q_stC X195 hx hby hZ e195 V195 1 at_130 (fun T202 h202 X202 e202 W202 V202 => ?_)
          rw [own_nar16 c2_0] at V202
          have O203 := O196.wr W202 (show n0 ≤ b188 by omega)
          have sz204 : h202.size = h195.size := Wr.size W202
          have cs205 := CHr.wr W202 (Safe.arv hZ.alike V195 (by decide)) CR199.1
          have CR206 := CHr.trans CR199 cs205
          have hk207 := Nat.le_trans hk200 (Nat.le_of_eq (Wr.size W202).symm)
          have N202 := Fr.snoc X202 N195 (show n0 ≤ b188 by omega)
          have V202 : Arv Z h202 b188 k188 .char (4 : Int32) [.int r_1, .int r_2, .int 0, .int 0] (.int 0) := V202
          refine q_dup X202 hx hby at_131 rfl ?_
          refine q_iconst X202 hx hby at_132 ?_
          refine q_iload X202 hx hby at_133 rfl ?_
          refine q_stC X202 hx hby hZ e202 V202 2 at_135 (fun T209 h209 X209 e209 W209 V209 => ?_)
          rw [own_nar16 c3_0] at V209
          have O210 := O203.wr W209 (show n0 ≤ b188 by omega)
          have sz211 : h209.size = h202.size := Wr.size W209
          have cs212 := CHr.wr W209 (Safe.arv hZ.alike V202 (by decide)) CR206.1
          have CR213 := CHr.trans CR206 cs212
          have hk214 := Nat.le_trans hk207 (Nat.le_of_eq (Wr.size W209).symm)
          have N209 := Fr.snoc X209 N202 (show n0 ≤ b188 by omega)
          have V209 : Arv Z h209 b188 k188 .char (4 : Int32) [.int r_1, .int r_2, .int r_3, .int 0] (.int 0) := V209
          refine q_dup X209 hx hby at_136 rfl ?_
          refine q_iconst X209 hx hby at_137 ?_
          refine q_iload X209 hx hby at_138 rfl ?_
          refine q_stC X209 hx hby hZ e209 V209 3 at_140 (fun T216 h216 X216 e216 W216 V216 => ?_)
          rw [own_nar16 c4_0] at V216
          have O217 := O210.wr W216 (show n0 ≤ b188 by omega)
          have sz218 : h216.size = h209.size := Wr.size W216
          have cs219 := CHr.wr W216 (Safe.arv hZ.alike V209 (by decide)) CR213.1
          have CR220 := CHr.trans CR213 cs219
          have hk221 := Nat.le_trans hk214 (Nat.le_of_eq (Wr.size W216).symm)
          have N216 := Fr.snoc X216 N209 (show n0 ≤ b188 by omega)
          have V216 : Arv Z h216 b188 k188 .char (4 : Int32) [.int r_1, .int r_2, .int r_3, .int r_4] (.int 0) := V216
          refine q_astore X216 hx hby at_141 rfl (l' := #[vI x0, vI x1, vI x2, vI x3, vI x4, vI ((x4 &&& (2147483647 : Int32)) % (5 : Int32)), vI r_1, vI r_2, vI r_3, vI r_4, vR b188, uS, uS, uS, uS]) rfl ?_
          refine q_aload X216 hx hby at_143 rfl rfl ?_
          refine q_iconst X216 hx hby at_145 ?_
          show own_Goes p e below (T216.setTop (mkF m 146 #[vI x0, vI x1, vI x2, vI x3, vI x4, vI ((x4 &&& (2147483647 : Int32)) % (5 : Int32)), vI r_1, vI r_2, vI r_3, vI r_4, vR b188, uS, uS, uS, uS] [.int 0, .ref b188])) _
          obtain ⟨_, _, ⟨T222, L222, k222, n222⟩, -, X222, ⟨Lc222, hQ222, l222, y222, z222⟩, st222⟩ := Jvm.LawKit.callS X216 hx (y := own_m23) hown (mvT hZ (wh hw 8 rfl)) (mvT hZ (wh hw 9 rfl)) (mvT hZ (wh hw 3 rfl)) (mvT hZ (wh hw 10 rfl)) (by decide) (backOf (W := 0) (own_fit4_0 l Z a0 hw [] b188 k188 r_1 r_2 r_3 r_4 h216 n0 O217 V216) hZ (wh hw 10 rfl) (wh hw 3 rfl) (by decide) (by decide)) (g := (mkF m 146 #[vI x0, vI x1, vI x2, vI x3, vI x4, vI ((x4 &&& (2147483647 : Int32)) % (5 : Int32)), vI r_1, vI r_2, vI r_3, vI r_4, vR b188, uS, uS, uS, uS] [.int 0, .ref b188])) rfl (by rw [hml]; rfl) (argsL := [.ref b188, .int 0]) (rest := []) (lenOf own_pd_22 rfl) rfl (by show 2 * 0 + _ ≤ _; exact Nat.le_of_eq rfl) (hb hby at_146) (fun _ _ => ⟨rfl, e216, (by decide : 1 + 0 ≤ _), (by decide : 4 + 0 ≤ _)⟩)
          dsimp only [Pt.U, Pt.locs, Pt.cells, Pt.slots] at X222 l222 y222 z222 st222 hQ222
          subst l222 y222 z222
          obtain ⟨Nc222, e222, r_222, rfl, c222_0⟩ := hQ222
          have N222 := Fr.app N216 Nc222
          refine gg st222 ?_
          rcases c222_0 with ⟨rfl, ok223⟩ | rfl
          · show own_Goes p e below (T222.setTop (mkF m 149 #[vI x0, vI x1, vI x2, vI x3, vI x4, vI ((x4 &&& (2147483647 : Int32)) % (5 : Int32)), vI r_1, vI r_2, vI r_3, vI r_4, vR b188, uS, uS, uS, uS] [.int 1])) _
            refine q_ifNo X222 hx hby at_149 ((if0 _ _).trans (feq (show ¬ ((1 : Int32) = (0 : Int32)) from by decide)).1) ?_
            refine q_aload X222 hx hby at_152 rfl rfl ?_
            refine q_iconst X222 hx hby at_154 ?_
            obtain ⟨_, _, ⟨T224, L224, k224, n224⟩, -, X224, ⟨Lc224, hQ224, l224, y224, z224⟩, st224⟩ := Jvm.LawKit.callS X222 hx (y := own_m23) hown (mvT hZ (wh hw 8 rfl)) (mvT hZ (wh hw 9 rfl)) (mvT hZ (wh hw 3 rfl)) (mvT hZ (wh hw 10 rfl)) (by decide) (backOf (W := 0) (own_fit4_1 l Z a0 hw [] b188 k188 r_1 r_2 r_3 r_4 h216 n0 O217 V216) hZ (wh hw 10 rfl) (wh hw 3 rfl) (by decide) (by decide)) (g := (mkF m 155 #[vI x0, vI x1, vI x2, vI x3, vI x4, vI ((x4 &&& (2147483647 : Int32)) % (5 : Int32)), vI r_1, vI r_2, vI r_3, vI r_4, vR b188, uS, uS, uS, uS] [.int 1, .ref b188])) rfl (by rw [hml]; rfl) (argsL := [.ref b188, .int 1]) (rest := []) (lenOf own_pd_22 rfl) rfl (by show 2 * 0 + _ ≤ _; exact Nat.le_of_eq rfl) (hb hby at_155) (fun _ _ => ⟨rfl, e222, (by decide : 1 + 0 ≤ _), (by decide : 4 + 0 ≤ _)⟩)
            dsimp only [Pt.U, Pt.locs, Pt.cells, Pt.slots] at X224 l224 y224 z224 st224 hQ224
            subst l224 y224 z224
            obtain ⟨Nc224, e224, r_224, rfl, c224_0⟩ := hQ224
            have N224 := Fr.app N222 Nc224
            refine gg st224 ?_
            rcases c224_0 with ⟨rfl, ok225⟩ | rfl
            · show own_Goes p e below (T224.setTop (mkF m 158 #[vI x0, vI x1, vI x2, vI x3, vI x4, vI ((x4 &&& (2147483647 : Int32)) % (5 : Int32)), vI r_1, vI r_2, vI r_3, vI r_4, vR b188, uS, uS, uS, uS] [.int 1])) _
              refine q_ifNo X224 hx hby at_158 ((if0 _ _).trans (feq (show ¬ ((1 : Int32) = (0 : Int32)) from by decide)).1) ?_
              refine q_aload X224 hx hby at_161 rfl rfl ?_
              refine q_iconst X224 hx hby at_163 ?_
              obtain ⟨_, _, ⟨T226, L226, k226, n226⟩, -, X226, ⟨Lc226, hQ226, l226, y226, z226⟩, st226⟩ := Jvm.LawKit.callS X224 hx (y := own_m23) hown (mvT hZ (wh hw 8 rfl)) (mvT hZ (wh hw 9 rfl)) (mvT hZ (wh hw 3 rfl)) (mvT hZ (wh hw 10 rfl)) (by decide) (backOf (W := 0) (own_fit4_2 l Z a0 hw [] b188 k188 r_1 r_2 r_3 r_4 h216 n0 O217 V216) hZ (wh hw 10 rfl) (wh hw 3 rfl) (by decide) (by decide)) (g := (mkF m 164 #[vI x0, vI x1, vI x2, vI x3, vI x4, vI ((x4 &&& (2147483647 : Int32)) % (5 : Int32)), vI r_1, vI r_2, vI r_3, vI r_4, vR b188, uS, uS, uS, uS] [.int 2, .ref b188])) rfl (by rw [hml]; rfl) (argsL := [.ref b188, .int 2]) (rest := []) (lenOf own_pd_22 rfl) rfl (by show 2 * 0 + _ ≤ _; exact Nat.le_of_eq rfl) (hb hby at_164) (fun _ _ => ⟨rfl, e224, (by decide : 1 + 0 ≤ _), (by decide : 4 + 0 ≤ _)⟩)
              dsimp only [Pt.U, Pt.locs, Pt.cells, Pt.slots] at X226 l226 y226 z226 st226 hQ226
              subst l226 y226 z226
              obtain ⟨Nc226, e226, r_226, rfl, c226_0⟩ := hQ226
              have N226 := Fr.app N224 Nc226
              refine gg st226 ?_
              rcases c226_0 with ⟨rfl, ok227⟩ | rfl
              · show own_Goes p e below (T226.setTop (mkF m 167 #[vI x0, vI x1, vI x2, vI x3, vI x4, vI ((x4 &&& (2147483647 : Int32)) % (5 : Int32)), vI r_1, vI r_2, vI r_3, vI r_4, vR b188, uS, uS, uS, uS] [.int 1])) _
                refine q_ifNo X226 hx hby at_167 ((if0 _ _).trans (feq (show ¬ ((1 : Int32) = (0 : Int32)) from by decide)).1) ?_
                refine q_aload X226 hx hby at_170 rfl rfl ?_
                refine q_iconst X226 hx hby at_172 ?_
                obtain ⟨_, _, ⟨T228, L228, k228, n228⟩, -, X228, ⟨Lc228, hQ228, l228, y228, z228⟩, st228⟩ := Jvm.LawKit.callS X226 hx (y := own_m23) hown (mvT hZ (wh hw 8 rfl)) (mvT hZ (wh hw 9 rfl)) (mvT hZ (wh hw 3 rfl)) (mvT hZ (wh hw 10 rfl)) (by decide) (backOf (W := 0) (own_fit4_3 l Z a0 hw [] b188 k188 r_1 r_2 r_3 r_4 h216 n0 O217 V216) hZ (wh hw 10 rfl) (wh hw 3 rfl) (by decide) (by decide)) (g := (mkF m 173 #[vI x0, vI x1, vI x2, vI x3, vI x4, vI ((x4 &&& (2147483647 : Int32)) % (5 : Int32)), vI r_1, vI r_2, vI r_3, vI r_4, vR b188, uS, uS, uS, uS] [.int 3, .ref b188])) rfl (by rw [hml]; rfl) (argsL := [.ref b188, .int 3]) (rest := []) (lenOf own_pd_22 rfl) rfl (by show 2 * 0 + _ ≤ _; exact Nat.le_of_eq rfl) (hb hby at_173) (fun _ _ => ⟨rfl, e226, (by decide : 1 + 0 ≤ _), (by decide : 4 + 0 ≤ _)⟩)
                dsimp only [Pt.U, Pt.locs, Pt.cells, Pt.slots] at X228 l228 y228 z228 st228 hQ228
                subst l228 y228 z228
                obtain ⟨Nc228, e228, r_228, rfl, c228_0⟩ := hQ228
                have N228 := Fr.app N226 Nc228
                refine gg st228 ?_
                rcases c228_0 with ⟨rfl, ok229⟩ | rfl
                · show own_Goes p e below (T228.setTop (mkF m 176 #[vI x0, vI x1, vI x2, vI x3, vI x4, vI ((x4 &&& (2147483647 : Int32)) % (5 : Int32)), vI r_1, vI r_2, vI r_3, vI r_4, vR b188, uS, uS, uS, uS] [.int 1])) _
                  refine q_ifNo X228 hx hby at_176 ((if0 _ _).trans (feq (show ¬ ((1 : Int32) = (0 : Int32)) from by decide)).1) ?_
                  refine q_iconst X228 hx hby at_179 ?_
                  refine q_goto (pc := 180) X228 hx hby at_180 (pc' := 184) (by decide) (by decide) ?_
                  refine q_istore X228 hx hby at_184 (l' := #[vI x0, vI x1, vI x2, vI x3, vI x4, vI ((x4 &&& (2147483647 : Int32)) % (5 : Int32)), vI r_1, vI r_2, vI r_3, vI r_4, vR b188, vI 1, uS, uS, uS]) rfl ?_
                  refine q_iload X228 hx hby at_186 rfl ?_
                  refine q_ifYes (pc := 188) X228 hx hby at_188 (pc' := 193) ((if0 _ _).trans (feq (show ¬ ((1 : Int32) = (0 : Int32)) from by decide)).2) (by decide) (by decide) ?_
                  obtain ⟨T230, h230, X230, e230, E230, A230, D230, -, st230⟩ := newO X228 hx hZ hown (wh hw 11 rfl) (wh hw 12 rfl) (wh hw 13 rfl) e228 (g := (mkF m 193 #[vI x0, vI x1, vI x2, vI x3, vI x4, vI ((x4 &&& (2147483647 : Int32)) % (5 : Int32)), vI r_1, vI r_2, vI r_3, vI r_4, vR b188, vI 1, uS, uS, uS] [])) rfl (hb hby at_193) (by decide) (by decide)
                  obtain ⟨b230, g230⟩ : ∃ z, z = h216.size := ⟨_, rfl⟩
                  rw [← g230] at A230 D230 st230
                  refine gg st230 ?_
                  have O231 := O217.ext E230
                  have sz232 : h216.size ≤ h230.size := E230.1
                  have cs233 := CHr.ext E230 CR220.1
                  have CR234 := CHr.trans CR220 cs233
                  have hk235 := Nat.le_trans hk221 E230.1
                  have l230 : @LT.lt Nat _ b230 h230.size := A230.lt
                  have F230_value : Fld Z h230 b230 "java/lang/String" "value" "[B" .null := D230 (Or.inr (wh hw 26 rfl)) (ty := (.array .byte)) (by decide)
                  have F230_coder : Fld Z h230 b230 "java/lang/String" "coder" "B" (.int 0) := D230 (Or.inr (wh hw 27 rfl)) (ty := .byte) (by decide)
                  refine q_dup X230 hx hby at_196 rfl ?_
                  refine q_aload X230 hx hby at_197 rfl rfl ?_
                  have f236 := (V216.ext E230)
                  obtain ⟨_, _, ⟨T237, L237, k237, n237⟩, -, X237, ⟨Lc237, hQ237, l237, y237, z237⟩, st237⟩ := X230.specialBack hx (y := own_m25) rfl hown (mvT hZ (wh hw 14 rfl)) (mvT hZ (wh hw 15 rfl)) (mvT hZ (wh hw 16 rfl)) (by decide) (backOf (W := 1) (own_sc4 l Z a0 hw [] b230 b188 k188 r_1 r_2 r_3 r_4 h230 n0 O231 gz gfm G A230 F230_value F230_coder (show n0 ≤ b230 by first | assumption | omega | decide) f236 (show (@LT.lt Nat _ b188 b230 ∨ @LT.lt Nat _ b230 b188) by first | assumption | omega | decide) (show own_C16 r_1 from c1_0) (show own_C16 r_2 from c2_0) (show own_C16 r_3 from c3_0) (show own_C16 r_4 from c4_0)) hZ (wh hw 16 rfl) (wh hw 13 rfl) (by decide) (by decide)) (g := (mkF m 199 #[vI x0, vI x1, vI x2, vI x3, vI x4, vI ((x4 &&& (2147483647 : Int32)) % (5 : Int32)), vI r_1, vI r_2, vI r_3, vI r_4, vR b188, vI 1, uS, uS, uS] [.ref b188, .ref b230, .ref b230])) rfl (by rw [hml]; rfl) (Steps.refl _) (a := b230) (argsL := [.ref b188]) (rest := [.ref b230]) (lenOf own_pd_24 rfl) rfl (by show 2 * 0 + _ ≤ _; exact Nat.le_of_eq rfl) (hb hby at_199) (fun _ _ => ⟨rfl, e230, (by decide : 2 + 2 ≤ _), (by decide : 8 + 12 ≤ _)⟩)
                  dsimp only [Pt.U, Pt.locs, Pt.cells, Pt.slots] at X237 l237 y237 z237 st237 hQ237
                  subst l237 y237 z237
                  obtain ⟨h237, e237⟩ : ∃ z, T237.heap = z := ⟨_, rfl⟩
                  rw [e237] at hQ237
                  obtain ⟨Nc237, Kc237, rb_237, rfl, c237_0⟩ := hQ237
                  have N237 := Fr.app N228 Nc237
                  have SF238 : Safe Z consts_1 _ h230 b230 := own_safeNull hZ.alike A230 F230_value
                  have O239 := O231.keep Kc237 (allS (show n0 ≤ b230 by omega) all0)
                  have sz240 : h230.size ≤ h237.size := Kc237.1
                  have cs241 := CHr.keep Kc237 (sfS SF238 sf0) CR234.1
                  have CR242 := CHr.trans CR234 cs241
                  have SF243 := CHr.safe cs241 (show @LT.lt Nat _ b230 h230.size by omega) SF238
                  have hk244 := Nat.le_trans hk235 Kc237.1
                  have ltc237_0 : @LT.lt Nat _ b230 h237.size := c237_0.1.lt
                  have luc237_0 : @LT.lt Nat _ rb_237 h237.size := c237_0.lt2
                  refine own_goS st237 ?_
                  refine q_astore X237 hx hby at_202 rfl (l' := #[vI x0, vI x1, vI x2, vI x3, vI x4, vI ((x4 &&& (2147483647 : Int32)) % (5 : Int32)), vI r_1, vI r_2, vI r_3, vI r_4, vR b188, vI 1, vR b230, uS, uS]) rfl ?_
                  refine q_iload X237 hx hby at_204 rfl ?_
                  refine q_bipush X237 hx hby at_206 ?_
                  refine gg (fun t k => XS.iushr X237.here hx rfl (hb hby at_208) rfl k) ?_
                  show own_Goes p e below (T237.setTop (mkF m 209 #[vI x0, vI x1, vI x2, vI x3, vI x4, vI ((x4 &&& (2147483647 : Int32)) % (5 : Int32)), vI r_1, vI r_2, vI r_3, vI r_4, vR b188, vI 1, vR b230, uS, uS] [(.int ((x4.toUInt32 >>> ((8 : Int32) &&& 31).toUInt32).toInt32))])) _
                  refine q_sipush X237 hx hby at_209 ?_
                  refine q_iand X237 hx hby at_212 ?_
                  refine gg (fun t k => XS.i2c X237.here hx rfl (hb hby at_213) rfl k) ?_
                  show own_Goes p e below (T237.setTop (mkF m 214 #[vI x0, vI x1, vI x2, vI x3, vI x4, vI ((x4 &&& (2147483647 : Int32)) % (5 : Int32)), vI r_1, vI r_2, vI r_3, vI r_4, vR b188, vI 1, vR b230, uS, uS] [(.int ((((x4.toUInt32 >>> ((8 : Int32) &&& 31).toUInt32).toInt32) &&& (255 : Int32)).toUInt32.toUInt16.toUInt32.toInt32))])) _
                  rw [i2c_mask]
                  show own_Goes p e below (T237.setTop (mkF m 214 #[vI x0, vI x1, vI x2, vI x3, vI x4, vI ((x4 &&& (2147483647 : Int32)) % (5 : Int32)), vI r_1, vI r_2, vI r_3, vI r_4, vR b188, vI 1, vR b230, uS, uS] [(.int (((x4.toUInt32 >>> ((8 : Int32) &&& 31).toUInt32).toInt32) &&& (255 : Int32)))])) _
                  obtain ⟨_, _, ⟨T245, L245, k245, n245⟩, -, X245, ⟨Lc245, hQ245, l245, y245, z245⟩, st245⟩ := Jvm.LawKit.callS X237 hx (y := own_m27) hown (mvT hZ (wh hw 32 rfl)) (mvT hZ (wh hw 33 rfl)) (mvT hZ (wh hw 13 rfl)) (mvT hZ (wh hw 34 rfl)) (by decide) (backOf (W := 0) (own_vOf l Z a0 hw [] (((x4.toUInt32 >>> ((8 : Int32) &&& 31).toUInt32).toInt32) &&& (255 : Int32)) h237 n0 O239 gz gfm G (show ¬ (255 : Int32) < (((x4.toUInt32 >>> ((8 : Int32) &&& 31).toUInt32).toInt32) &&& (255 : Int32)) from (own_m255 _))) hZ (wh hw 34 rfl) (wh hw 13 rfl) (by decide) (by decide)) (g := (mkF m 214 #[vI x0, vI x1, vI x2, vI x3, vI x4, vI ((x4 &&& (2147483647 : Int32)) % (5 : Int32)), vI r_1, vI r_2, vI r_3, vI r_4, vR b188, vI 1, vR b230, uS, uS] [(.int (((x4.toUInt32 >>> ((8 : Int32) &&& 31).toUInt32).toInt32) &&& (255 : Int32)))])) rfl (by rw [hml]; rfl) (argsL := [(.int (((x4.toUInt32 >>> ((8 : Int32) &&& 31).toUInt32).toInt32) &&& (255 : Int32)))]) (rest := []) (lenOf own_pd_26 rfl) rfl (by show 2 * 0 + _ ≤ _; exact Nat.le_of_eq rfl) (hb hby at_214) (fun _ _ => ⟨rfl, e237, (by decide : 4 + 2 ≤ _), (by decide : 20 + 5 ≤ _)⟩)
                  dsimp only [Pt.U, Pt.locs, Pt.cells, Pt.slots] at X245 l245 y245 z245 st245 hQ245
                  subst l245 y245 z245
                  obtain ⟨h245, e245⟩ : ∃ z, T245.heap = z := ⟨_, rfl⟩
                  rw [e245] at hQ245
                  obtain ⟨Nc245, Kc245, r_245, rfl, c245_0, c245_1⟩ := hQ245
                  have N245 := Fr.app N237 Nc245
                  have O246 := O239.keep Kc245 all0
                  have sz247 : h237.size ≤ h245.size := Kc245.1
                  have cs248 := CHr.keep Kc245 sf0 CR242.1
                  have CR249 := CHr.trans CR242 cs248
                  have SF250 := CHr.safe cs248 (show @LT.lt Nat _ b230 h237.size by omega) SF243
                  have hk251 := Nat.le_trans hk244 Kc245.1
                  have ltc245_0 : @LT.lt Nat _ r_245 h245.size := c245_0.lt
                  refine gg st245 ?_
                  refine q_astore X245 hx hby at_217 rfl (l' := #[vI x0, vI x1, vI x2, vI x3, vI x4, vI ((x4 &&& (2147483647 : Int32)) % (5 : Int32)), vI r_1, vI r_2, vI r_3, vI r_4, vR b188, vI 1, vR b230, vR r_245, uS]) rfl ?_
                  refine q_aload X245 hx hby at_219 rfl rfl ?_
                  refine q_aload X245 hx hby at_221 rfl rfl ?_
                  have f252 := (c237_0.keep Kc245 nin0 nin0)
                  obtain ⟨_, _, ⟨T253, L253, k253, n253⟩, -, X253, ⟨Lc253, hQ253, l253, y253, z253⟩, st253⟩ := Jvm.LawKit.callS X245 hx (y := own_m29) hown (mvT hZ (wh hw 47 rfl)) (mvT hZ (wh hw 48 rfl)) (mvT hZ (wh hw 49 rfl)) (mvT hZ (wh hw 50 rfl)) (by decide) (backOf (W := 0) (own_rq4 l Z a0 hw [] b230 rb_237 r_245 r_1 r_2 r_3 r_4 h245 n0 O246 gz gfm G f252 (show (¬ r_1.toInt = 0 ∧ ((r_1.toInt < 55296 ∨ 56319 < r_1.toInt) ∨ (56320 ≤ r_2.toInt ∧ r_2.toInt ≤ 57343)) ∧ ((r_1.toInt < 56320 ∨ 57343 < r_1.toInt))) from ok223) (show (¬ r_2.toInt = 0 ∧ ((r_2.toInt < 55296 ∨ 56319 < r_2.toInt) ∨ (56320 ≤ r_3.toInt ∧ r_3.toInt ≤ 57343)) ∧ ((r_2.toInt < 56320 ∨ 57343 < r_2.toInt) ∨ (55296 ≤ r_1.toInt ∧ r_1.toInt ≤ 56319))) from ok225) (show (¬ r_3.toInt = 0 ∧ ((r_3.toInt < 55296 ∨ 56319 < r_3.toInt) ∨ (56320 ≤ r_4.toInt ∧ r_4.toInt ≤ 57343)) ∧ ((r_3.toInt < 56320 ∨ 57343 < r_3.toInt) ∨ (55296 ≤ r_2.toInt ∧ r_2.toInt ≤ 56319))) from ok227) (show (¬ r_4.toInt = 0 ∧ ((r_4.toInt < 55296 ∨ 56319 < r_4.toInt)) ∧ ((r_4.toInt < 56320 ∨ 57343 < r_4.toInt) ∨ (55296 ≤ r_3.toInt ∧ r_3.toInt ≤ 56319))) from ok229)) hZ (wh hw 50 rfl) (wh hw 49 rfl) (by decide) (by decide)) (g := (mkF m 223 #[vI x0, vI x1, vI x2, vI x3, vI x4, vI ((x4 &&& (2147483647 : Int32)) % (5 : Int32)), vI r_1, vI r_2, vI r_3, vI r_4, vR b188, vI 1, vR b230, vR r_245, uS] [.ref r_245, .ref b230])) rfl (by rw [hml]; rfl) (argsL := [.ref b230, .ref r_245]) (rest := []) (lenOf own_pd_28 rfl) rfl (by show 2 * 0 + _ ≤ _; exact Nat.le_of_eq rfl) (hb hby at_223) (fun _ _ => ⟨rfl, e245, (by decide : 6 + 0 ≤ _), (by decide : 25 + 0 ≤ _)⟩)
                  dsimp only [Pt.U, Pt.locs, Pt.cells, Pt.slots] at X253 l253 y253 z253 st253 hQ253
                  subst l253 y253 z253
                  obtain ⟨Nc253, e253, rfl⟩ := hQ253
                  have N253 := Fr.app N245 Nc253
                  refine gg st253 ?_
                  refine q_astore X253 hx hby at_226 rfl (l' := #[vI x0, vI x1, vI x2, vI x3, vI x4, vI ((x4 &&& (2147483647 : Int32)) % (5 : Int32)), vI r_1, vI r_2, vI r_3, vI r_4, vR b188, vI 1, vR b230, vR r_245, vR b230]) rfl ?_
                  refine q_aload X253 hx hby at_228 rfl rfl ?_
                  refine q_aload X253 hx hby at_230 rfl rfl ?_
                  refine gg (fun t k => Jvm.RoadKit.acmp (g := (mkF m 232 #[vI x0, vI x1, vI x2, vI x3, vI x4, vI ((x4 &&& (2147483647 : Int32)) % (5 : Int32)), vI r_1, vI r_2, vI r_3, vI r_4, vR b188, vI 1, vR b230, vR r_245, vR b230] [.ref b230, .ref b230])) X253 hx rfl rfl rfl (pc0 := 232) (pc' := 235) (same := true) rfl (hb hby at_232) rfl (decide_eq_true rfl) (by decide) (by decide) k) ?_
                  refine q_iconst X253 hx hby at_235 ?_
                  refine q_goto (pc := 236) X253 hx hby at_236 (pc' := 240) (by decide) (by decide) ?_
                  refine own_endH X253 hS0 (show _ ≤ T253.heap.size by rw [e253]; exact hk251) e253 hh CR249 hZ (own_EW hw) (v := (some (.int 1))) (fun h => by rw [hret] at h; cases h) hlk (by decide) (by decide) ?_ (fun fs hr => retOut X253 hx hret rfl (Or.inl ⟨rfl, Or.inr (Or.inl rfl), _, rfl⟩) (hb hby at_240) hr)
                  show Q_rm0 Z x0 x1 x2 x3 x4 gz gfm h0 n0 _ T253.heap _
                  rw [e253]
                  exact ⟨N253, trivial, rfl⟩
                · show own_Goes p e below (T228.setTop (mkF m 176 #[vI x0, vI x1, vI x2, vI x3, vI x4, vI ((x4 &&& (2147483647 : Int32)) % (5 : Int32)), vI r_1, vI r_2, vI r_3, vI r_4, vR b188, uS, uS, uS, uS] [.int 0])) _
                  refine q_ifYes (pc := 176) X228 hx hby at_176 (pc' := 183) ((if0 _ _).trans (teq (show ((0 : Int32) = (0 : Int32)) from by decide)).1) (by decide) (by decide) ?_
                  refine q_iconst X228 hx hby at_183 ?_
                  refine q_istore X228 hx hby at_184 (l' := #[vI x0, vI x1, vI x2, vI x3, vI x4, vI ((x4 &&& (2147483647 : Int32)) % (5 : Int32)), vI r_1, vI r_2, vI r_3, vI r_4, vR b188, vI 0, uS, uS, uS]) rfl ?_
                  refine q_iload X228 hx hby at_186 rfl ?_
                  refine q_ifNo X228 hx hby at_188 ((if0 _ _).trans (teq (show ((0 : Int32) = (0 : Int32)) from by decide)).2) ?_
                  refine q_iconst X228 hx hby at_191 ?_
                  refine own_endH X228 hS0 (show _ ≤ T228.heap.size by rw [e228]; exact hk221) e228 hh CR220 hZ (own_EW hw) (v := (some (.int 1))) (fun h => by rw [hret] at h; cases h) hlk (by decide) (by decide) ?_ (fun fs hr => retOut X228 hx hret rfl (Or.inl ⟨rfl, Or.inr (Or.inl rfl), _, rfl⟩) (hb hby at_192) hr)
                  show Q_rm0 Z x0 x1 x2 x3 x4 gz gfm h0 n0 _ T228.heap _
                  rw [e228]
                  exact ⟨N228, trivial, rfl⟩
              · show own_Goes p e below (T226.setTop (mkF m 167 #[vI x0, vI x1, vI x2, vI x3, vI x4, vI ((x4 &&& (2147483647 : Int32)) % (5 : Int32)), vI r_1, vI r_2, vI r_3, vI r_4, vR b188, uS, uS, uS, uS] [.int 0])) _
                refine q_ifYes (pc := 167) X226 hx hby at_167 (pc' := 183) ((if0 _ _).trans (teq (show ((0 : Int32) = (0 : Int32)) from by decide)).1) (by decide) (by decide) ?_
                refine q_iconst X226 hx hby at_183 ?_
                refine q_istore X226 hx hby at_184 (l' := #[vI x0, vI x1, vI x2, vI x3, vI x4, vI ((x4 &&& (2147483647 : Int32)) % (5 : Int32)), vI r_1, vI r_2, vI r_3, vI r_4, vR b188, vI 0, uS, uS, uS]) rfl ?_
                refine q_iload X226 hx hby at_186 rfl ?_
                refine q_ifNo X226 hx hby at_188 ((if0 _ _).trans (teq (show ((0 : Int32) = (0 : Int32)) from by decide)).2) ?_
                refine q_iconst X226 hx hby at_191 ?_
                refine own_endH X226 hS0 (show _ ≤ T226.heap.size by rw [e226]; exact hk221) e226 hh CR220 hZ (own_EW hw) (v := (some (.int 1))) (fun h => by rw [hret] at h; cases h) hlk (by decide) (by decide) ?_ (fun fs hr => retOut X226 hx hret rfl (Or.inl ⟨rfl, Or.inr (Or.inl rfl), _, rfl⟩) (hb hby at_192) hr)
                show Q_rm0 Z x0 x1 x2 x3 x4 gz gfm h0 n0 _ T226.heap _
                rw [e226]
                exact ⟨N226, trivial, rfl⟩
            · show own_Goes p e below (T224.setTop (mkF m 158 #[vI x0, vI x1, vI x2, vI x3, vI x4, vI ((x4 &&& (2147483647 : Int32)) % (5 : Int32)), vI r_1, vI r_2, vI r_3, vI r_4, vR b188, uS, uS, uS, uS] [.int 0])) _
              refine q_ifYes (pc := 158) X224 hx hby at_158 (pc' := 183) ((if0 _ _).trans (teq (show ((0 : Int32) = (0 : Int32)) from by decide)).1) (by decide) (by decide) ?_
              refine q_iconst X224 hx hby at_183 ?_
              refine q_istore X224 hx hby at_184 (l' := #[vI x0, vI x1, vI x2, vI x3, vI x4, vI ((x4 &&& (2147483647 : Int32)) % (5 : Int32)), vI r_1, vI r_2, vI r_3, vI r_4, vR b188, vI 0, uS, uS, uS]) rfl ?_
              refine q_iload X224 hx hby at_186 rfl ?_
              refine q_ifNo X224 hx hby at_188 ((if0 _ _).trans (teq (show ((0 : Int32) = (0 : Int32)) from by decide)).2) ?_
              refine q_iconst X224 hx hby at_191 ?_
              refine own_endH X224 hS0 (show _ ≤ T224.heap.size by rw [e224]; exact hk221) e224 hh CR220 hZ (own_EW hw) (v := (some (.int 1))) (fun h => by rw [hret] at h; cases h) hlk (by decide) (by decide) ?_ (fun fs hr => retOut X224 hx hret rfl (Or.inl ⟨rfl, Or.inr (Or.inl rfl), _, rfl⟩) (hb hby at_192) hr)
              show Q_rm0 Z x0 x1 x2 x3 x4 gz gfm h0 n0 _ T224.heap _
              rw [e224]
              exact ⟨N224, trivial, rfl⟩
          · show own_Goes p e below (T222.setTop (mkF m 149 #[vI x0, vI x1, vI x2, vI x3, vI x4, vI ((x4 &&& (2147483647 : Int32)) % (5 : Int32)), vI r_1, vI r_2, vI r_3, vI r_4, vR b188, uS, uS, uS, uS] [.int 0])) _
            refine q_ifYes (pc := 149) X222 hx hby at_149 (pc' := 183) ((if0 _ _).trans (teq (show ((0 : Int32) = (0 : Int32)) from by decide)).1) (by decide) (by decide) ?_
            refine q_iconst X222 hx hby at_183 ?_
            refine q_istore X222 hx hby at_184 (l' := #[vI x0, vI x1, vI x2, vI x3, vI x4, vI ((x4 &&& (2147483647 : Int32)) % (5 : Int32)), vI r_1, vI r_2, vI r_3, vI r_4, vR b188, vI 0, uS, uS, uS]) rfl ?_
            refine q_iload X222 hx hby at_186 rfl ?_
            refine q_ifNo X222 hx hby at_188 ((if0 _ _).trans (teq (show ((0 : Int32) = (0 : Int32)) from by decide)).2) ?_
            refine q_iconst X222 hx hby at_191 ?_
            refine own_endH X222 hS0 (show _ ≤ T222.heap.size by rw [e222]; exact hk221) e222 hh CR220 hZ (own_EW hw) (v := (some (.int 1))) (fun h => by rw [hret] at h; cases h) hlk (by decide) (by decide) ?_ (fun fs hr => retOut X222 hx hret rfl (Or.inl ⟨rfl, Or.inr (Or.inl rfl), _, rfl⟩) (hb hby at_192) hr)
            show Q_rm0 Z x0 x1 x2 x3 x4 gz gfm h0 n0 _ T222.heap _
            rw [e222]
            exact ⟨N222, trivial, rfl⟩
theorem comes_1 {Post : Tables → Env → Array Value → State → Outcome → State → Prop} (hpost : ∀ tb e args s v u, (limb_1_1.after args s (.returned v) u = true ∧ limb_1_2.after args s (.returned v) u = true ∧ True) → ReturnedEndW s (.returned v) u (Jvm.fieldLocs frame_1_writes args s ++ Jvm.arrayLocs frame_1_arrays args s ++ Jvm.staticLocs frame_1_statics s) 24 1152 → Post tb e args s (.returned v) u) :
    ArmFor flags0 classFile x code maxLocals ret World_1 tables_1 room_1 Calls_1 rest_1 Pre_1 Post := by
  intro l hfl _ _ p e ha hc hk s m args below hf hA hF happ hP
  obtain ⟨hcalls, hrest, hpre⟩ := hP
  obtain ⟨-, -, -, hnamed, -, -, -, hat⟩ := (Spec.applies_iff hf).mp happ
  obtain ⟨hg, hn⟩ := and_e (Cond.before_iff.mp (show (Jvm.Cond.and given_1 narrow_1).before args s = true from hpre))
  obtain ⟨hg_1, hg_2⟩ := and_e hg
  obtain ⟨hg_3, hg_4⟩ := and_e hg_2
  obtain ⟨hg_5, hg_6⟩ := and_e hg_4
  obtain ⟨hg_7, hg_8⟩ := and_e hg_6
  obtain ⟨hg_9, hg_10⟩ := and_e hg_8
  obtain ⟨w0, w1, w2, w3, w4, rfl⟩ : ∃ w0 w1 w2 w3 w4 : Value, args = #[w0, w1, w2, w3, w4] := by
    have hs : args.size = 5 := by simpa [Cond.value, given_1] using hg_1
    obtain ⟨L⟩ := args
    match L, hs with
    | [w0, w1, w2, w3, w4], _ => exact ⟨w0, w1, w2, w3, w4, rfl⟩
  have hw := fun d (hd : d ∈ tables_1) => atoms_spec (ws := Jvm.Cond.code x code maxLocals ret :: tables_1) hat d (List.mem_cons_of_mem _ hd)
  have hfit : Fit s := fun {y c} hc i hi => by
    obtain ⟨ha, rfl⟩ := Array.getElem?_eq_some_iff.mp hc
    have q := List.all_eq_true.mp ((Array.all_eq_true_iff_forall_mem.mp hF) _ (Array.getElem_mem ha)) i (List.mem_range.mpr hi)
    simpa [Array.getElem?_eq_getElem hi] using q
  obtain ⟨hsets, hown0⟩ := atoms_of _ (rest_1_c_eq ▸ (show rest_1_c.before _ s = true from hrest))
  have hr0 := Cond.before_iff.mp hown0
  obtain ⟨i0, ei0⟩ := is_v hg_3
  obtain rfl : w0 = (.int i0) := Option.some.inj ei0
  obtain ⟨i1, ei1⟩ := is_v hg_5
  obtain rfl : w1 = (.int i1) := Option.some.inj ei1
  obtain ⟨i2, ei2⟩ := is_v hg_7
  obtain rfl : w2 = (.int i2) := Option.some.inj ei2
  obtain ⟨i3, ei3⟩ := is_v hg_9
  obtain rfl : w3 = (.int i3) := Option.some.inj ei3
  obtain ⟨i4, ei4⟩ := is_v hg_10
  obtain rfl : w4 = (.int i4) := Option.some.inj ei4
  obtain ⟨gz, ez⟩ := is_v (Cond.before_iff.mp (hsets _ (List.mem_of_getElem? (i := 1) rfl)))
  have sz_ := Sta.start ez (Or.inl (hsets _ (List.mem_of_getElem? (i := 0) rfl)))
  have nz_ : ¬ gz = (0 : Int32) := gotF (Cond.eq_ints ez (Term.int_eval _)) (not_v (Cond.before_iff.mp (hsets _ (List.mem_of_getElem? (i := 2) rfl))))
  obtain ⟨gfm, efm, rfm⟩ := isR_v (Cond.before_iff.mp (hsets _ (List.mem_of_getElem? (i := 8) rfl)))
  have sfm := Sta.start efm (Or.inl (hsets _ (List.mem_of_getElem? (i := 7) rfl)))
  have esas : (Term.static "java/lang/StringUTF16" "$assertionsDisabled" "Z").eval _ s none [] s = some (.int 1) := eqv_i (Term.int_eval _) (Cond.before_iff.mp (hsets _ (List.mem_of_getElem? (i := 12) rfl)))
  have sas := Sta.start esas (Or.inl (hsets _ (List.mem_of_getElem? (i := 11) rfl)))
  have eshi : (Term.static "java/lang/StringUTF16" "HI_BYTE_SHIFT" "I").eval _ s none [] s = some (.int 0) := eqv_i (Term.int_eval _) (Cond.before_iff.mp (hsets _ (List.mem_of_getElem? (i := 15) rfl)))
  have shi := Sta.start eshi (Or.inl (hsets _ (List.mem_of_getElem? (i := 14) rfl)))
  have eslo : (Term.static "java/lang/StringUTF16" "LO_BYTE_SHIFT" "I").eval _ s none [] s = some (.int 8) := eqv_i (Term.int_eval _) (Cond.before_iff.mp (hsets _ (List.mem_of_getElem? (i := 18) rfl)))
  have slo := Sta.start eslo (Or.inl (hsets _ (List.mem_of_getElem? (i := 17) rfl)))
  have hC0 : CHv s consts_1 s.vm s.heap := CHv.start (own_EW hw) hcalls.1 (hsets _ (List.mem_of_getElem? (i := 2) rfl)) (wh hw 25 rfl) (wh hw 12 rfl)
  obtain ⟨n, o, h1, h2, h3, _, L, rfl, ⟨N, -, rfl⟩, -, hq⟩ := rm0 l s _ hw tables_1 i0 i1 i2 i3 i4 s.heap s.heap.size (Old.start s) gz gfm ⟨sz_, nz_, sas, shi, slo, sfm, rfm⟩ p e ha hc hk s m _ below hf ((Spec.applies_iff_loose hf).mp happ).1 ⟨rfl, State.Warmed39.refl s, rfl, hC0⟩ trivial
  refine ⟨n, _, h1, h2, h3, hpost _ _ _ _ _ _ ⟨Cond.after_iff.mpr rfl, Cond.after_iff.mpr (eq_i res_at (Term.int_eval (1)) rfl), trivial⟩ ⟨hq.1, hq.2.1, hq.2.2.1, (hq.2.2.2.sift fun y hy => Or.inr (N y hy)).mono (by decide) (by decide)⟩⟩
theorem main_1_1 : Claimed_1_1 := comes_1 fun _ _ _ _ _ _ h hF => ⟨h.1, hF⟩
theorem main_1_2 : Claimed_1_2 := comes_1 fun _ _ _ _ _ _ h hF => ⟨h.2.1, hF⟩
end Jvm.Pilot.@@N@@
namespace Jvm.Pilot.@@N@@
open Jvm Jvm.ClassFile Sem Op Lib Jvm.Free Jvm.Stand Jvm.Pilot.@@N@@.Jvm.D
/-! MADE BY PROGRAM (witnessworld.py) out of the Statement's table words and the real class files: 22 classes; the members and pool entries that the words name. The judged class is class 1, her method 5. -/
namespace start1
open Jvm.ClassFile
def u (s : String) : CpInfo := .utf8 (stringToUtf16 s)
/-- a pool by its gaps: so many unusable entries, then the entry; so many at the end -/
def gap : Nat → List CpInfo → List CpInfo
  | 0, r => r
  | n + 1, r => .unusable :: gap n r
def poolList (es : List (Nat × CpInfo)) (last : Nat) : List CpInfo := es.foldr (fun e r => gap e.1 (e.2 :: r)) (gap last [])
def pool (es : List (Nat × CpInfo)) (last : Nat) : Array CpInfo := ⟨poolList es last⟩
def fileOf (pool : Array CpInfo) (this : Nat) (attrs : Array Attribute := #[]) (ms : Array MethodInfo := #[]) (fl : Nat := 33) (sup : Nat := 0) (ifs : Array Nat := #[]) (fds : Array FieldInfo := #[]) : ClassFile where
  minorVersion := 0
  majorVersion := 65
  constantPool := pool
  accessFlags := fl
  thisClass := this
  superClass := sup
  interfaces := ifs
  fields := fds
  methods := ms
  attributes := attrs
def plain (name : String) (sup : Option ClassId) : Class where
  name := name
  kind := .ordinary
  loader := none
  accessFlags := 33
  super := sup
  interfaces := #[]
  cf := none
  fields := #[]
  methods := #[]
  instanceTypes := #[]
  staticTypes := #[]
  resolved := #[]
  callSites := []
  init := .initialized
  statics := none
  mirror := none

def pool0 : Array CpInfo := pool [(5, u "<init>"), (0, u "()V"), (1, .class_ 10), (1, u "java/lang/Object")] 113

def k0c0 : Code := { maxStack := 0, maxLocals := 1, code := object_method_1_code, exceptionTable := #[], attributes := #[] }
def k0m0 : Method := { name := "<init>", desc := "()V", sig := { parameters := [], returnType := none }, accessFlags := 1, code := some k0c0 }
/-- java/lang/Object -/
def k0 : Class := { plain "java/lang/Object" none with
  accessFlags := 33
  interfaces := #[]
  cf := some (fileOf pool0 8 #[] #[{ accessFlags := 1, nameIndex := 5, descriptorIndex := 6, attributes := #[] }] 33 0 #[] #[])
  fields := #[]
  methods := #[k0m0]
  instanceTypes := #[]
  staticTypes := #[]
  resolved := Array.replicate 124 none
  statics := none }

def pool1 : Array CpInfo := pool [(2, .class_ 4), (1, u "java/lang/Object"), (0, u "<init>"), (0, u "()V"), (0, .integer 65536), (0, .integer 55296), (0, .integer 65535), (0, .integer 56319), (0, .integer 56320), (0, .integer 57343), (0, .methodref 14 15), (0, .class_ 16), (0, .nameAndType 17 18), (0, u "com/example/circa_once/circaonce/model/StorableTextRequirePinLaw"), (0, u "isHigh"), (0, u "(C)Z"), (0, .methodref 14 20), (0, .nameAndType 21 18), (0, u "isLow"), (0, .integer 2147483647), (0, .methodref 14 24), (0, .nameAndType 25 26), (0, u "draw"), (0, u "(I)C"), (0, .methodref 14 28), (0, .nameAndType 29 30), (0, u "fits"), (0, u "([CI)Z"), (0, .class_ 32), (0, u "java/lang/String"), (0, .methodref 31 34), (0, .nameAndType 5 35), (0, u "([C)V"), (0, .methodref 31 37), (0, .nameAndType 38 39), (0, u "valueOf"), (0, u "(C)Ljava/lang/String;"), (0, .methodref 41 42), (0, .class_ 43), (0, .nameAndType 44 45), (0, u "com/example/circa_once/circaonce/model/StorableText"), (0, u "require"), (0, u "(Ljava/lang/String;Ljava/lang/String;)Ljava/lang/String;"), (3, u "law"), (0, u "(IIIII)Z")] 4

def k1m0 : Method := { name := "<init>", desc := "()V", sig := { parameters := [], returnType := none }, accessFlags := 2, code := none }
def k1c1 : Code := { maxStack := 3, maxLocals := 1, code := method_2_code, exceptionTable := #[], attributes := #[] }
def k1m1 : Method := { name := "draw", desc := "(I)C", sig := { parameters := [.int], returnType := some .char }, accessFlags := 10, code := some k1c1 }
def k1c2 : Code := { maxStack := 2, maxLocals := 1, code := method_3_code, exceptionTable := #[], attributes := #[] }
def k1m2 : Method := { name := "isHigh", desc := "(C)Z", sig := { parameters := [.char], returnType := some .boolean }, accessFlags := 10, code := some k1c2 }
def k1c3 : Code := { maxStack := 2, maxLocals := 1, code := method_4_code, exceptionTable := #[], attributes := #[] }
def k1m3 : Method := { name := "isLow", desc := "(C)Z", sig := { parameters := [.char], returnType := some .boolean }, accessFlags := 10, code := some k1c3 }
def k1c4 : Code := { maxStack := 3, maxLocals := 4, code := method_5_code, exceptionTable := #[], attributes := #[] }
def k1m4 : Method := { name := "fits", desc := "([CI)Z", sig := { parameters := [(.array .char), .int], returnType := some .boolean }, accessFlags := 10, code := some k1c4 }
def k1c5 : Code := { maxStack := 4, maxLocals := 15, code := code, exceptionTable := #[], attributes := #[] }
def k1m5 : Method := { name := "law", desc := "(IIIII)Z", sig := { parameters := [.int, .int, .int, .int, .int], returnType := some .boolean }, accessFlags := 9, code := some k1c5 }
/-- com/example/circa_once/circaonce/model/StorableTextRequirePinLaw -/
def k1 : Class := { plain "com/example/circa_once/circaonce/model/StorableTextRequirePinLaw" (some 0) with
  accessFlags := 49
  interfaces := #[]
  cf := some (fileOf pool1 14 #[] #[{ accessFlags := 2, nameIndex := 5, descriptorIndex := 6, attributes := #[] }, { accessFlags := 10, nameIndex := 25, descriptorIndex := 26, attributes := #[] }, { accessFlags := 10, nameIndex := 17, descriptorIndex := 18, attributes := #[] }, { accessFlags := 10, nameIndex := 21, descriptorIndex := 18, attributes := #[] }, { accessFlags := 10, nameIndex := 29, descriptorIndex := 30, attributes := #[] }, { accessFlags := 9, nameIndex := 49, descriptorIndex := 50, attributes := #[] }] 49 2 #[] #[])
  fields := #[]
  methods := #[k1m0, k1m1, k1m2, k1m3, k1m4, k1m5]
  instanceTypes := #[]
  staticTypes := #[]
  resolved := Array.replicate 55 none
  statics := none }

def pool2 : Array CpInfo := pool [(1, .class_ 2), (0, u "java/io/Serializable"), (0, .class_ 4), (0, u "java/lang/Object")] 2

/-- java/io/Serializable -/
def k2 : Class := { plain "java/io/Serializable" (some 0) with
  accessFlags := 1537
  interfaces := #[]
  cf := some (fileOf pool2 1 #[] #[] 1537 3 #[] #[])
  fields := #[]
  methods := #[]
  instanceTypes := #[]
  staticTypes := #[]
  resolved := Array.replicate 7 none
  statics := none }

def pool3 : Array CpInfo := pool [(1, .class_ 2), (0, u "java/lang/Comparable"), (0, .class_ 4), (0, u "java/lang/Object")] 7

/-- java/lang/Comparable -/
def k3 : Class := { plain "java/lang/Comparable" (some 0) with
  accessFlags := 1537
  interfaces := #[]
  cf := some (fileOf pool3 1 #[] #[] 1537 3 #[] #[])
  fields := #[]
  methods := #[]
  instanceTypes := #[]
  staticTypes := #[]
  resolved := Array.replicate 12 none
  statics := none }

def pool4 : Array CpInfo := pool [(2, .class_ 4), (1, u "java/lang/CharSequence"), (42, .class_ 48), (0, u "java/lang/CharSequence$1CodePointIterator"), (10, .class_ 60), (0, u "java/lang/CharSequence$1CharIterator"), (5, .class_ 67), (0, u "java/lang/Object")] 63

/-- java/lang/CharSequence -/
def k4 : Class := { plain "java/lang/CharSequence" (some 0) with
  accessFlags := 1537
  interfaces := #[]
  cf := some (fileOf pool4 2 #[.nestMembers #[47, 59]] #[] 1537 66 #[] #[])
  fields := #[]
  methods := #[]
  instanceTypes := #[]
  staticTypes := #[]
  resolved := Array.replicate 131 none
  statics := none }

def pool5 : Array CpInfo := pool [(1, .class_ 2), (0, u "java/lang/constant/Constable"), (0, .class_ 4), (0, u "java/lang/Object")] 6

/-- java/lang/constant/Constable -/
def k5 : Class := { plain "java/lang/constant/Constable" (some 0) with
  accessFlags := 1537
  interfaces := #[]
  cf := some (fileOf pool5 1 #[] #[] 1537 3 #[] #[])
  fields := #[]
  methods := #[]
  instanceTypes := #[]
  staticTypes := #[]
  resolved := Array.replicate 11 none
  statics := none }

def pool6 : Array CpInfo := pool [(1, .class_ 2), (0, u "java/lang/constant/ConstantDesc"), (0, .class_ 4), (0, u "java/lang/Object")] 32

/-- java/lang/constant/ConstantDesc -/
def k6 : Class := { plain "java/lang/constant/ConstantDesc" (some 0) with
  accessFlags := 1537
  interfaces := #[]
  cf := some (fileOf pool6 1 #[] #[] 1537 3 #[] #[])
  fields := #[]
  methods := #[]
  instanceTypes := #[]
  staticTypes := #[]
  resolved := Array.replicate 37 none
  statics := none }

def pool7 : Array CpInfo := pool [(1, .methodref 2 3), (0, .class_ 4), (0, .nameAndType 5 6), (0, u "java/lang/Object"), (0, u "<init>"), (0, u "()V"), (0, .string 8), (0, u ""), (0, .fieldref 10 11), (0, .class_ 12), (0, .nameAndType 13 14), (0, u "java/lang/String"), (0, u "value"), (0, u "[B"), (0, .fieldref 10 16), (0, .nameAndType 17 18), (0, u "coder"), (0, u "B"), (2, u "hash"), (0, u "I"), (2, u "hashIsZero"), (0, u "Z"), (0, .methodref 10 28), (0, .nameAndType 5 29), (0, u "([CIILjava/lang/Void;)V"), (8, .fieldref 10 39), (0, .nameAndType 40 26), (0, u "COMPACT_STRINGS"), (1, .class_ 44), (1, u "java/lang/StringUTF16"), (0, u "compress"), (1, .methodref 42 48), (0, .nameAndType 49 50), (0, u "coderFromArrayLen"), (0, u "([BI)B"), (2, u "toBytes"), (53, .class_ 109), (1, u "java/lang/StringLatin1"), (32, u "()Z"), (34, .methodref 42 178), (0, .nameAndType 45 179), (0, u "([CII)[B"), (29, .methodref 10 210), (0, .nameAndType 5 211), (0, u "([BB)V"), (122, u "()I"), (0, .methodref 10 336), (0, .nameAndType 17 337), (0, u "()B"), (25, u "([BI)C"), (5, u "(C)Z"), (21, u "(II)V"), (35, u "(I)C"), (64, .methodref 10 493), (0, .nameAndType 494 142), (0, u "isLatin1"), (0, .methodref 107 496), (0, .nameAndType 497 363), (0, u "charAt"), (0, .methodref 42 496), (2, u "checkIndex"), (5, u "length"), (67, .class_ 576), (0, u "java/lang/CharSequence"), (22, u "CASE_INSENSITIVE_ORDER"), (0, u "Ljava/util/Comparator;"), (181, u "valueOf"), (0, u "(C)Ljava/lang/String;"), (226, u "([C)V"), (4, .methodref 107 1016), (0, .nameAndType 1017 369), (0, u "canEncode"), (0, .methodref 107 1019), (0, .nameAndType 53 1020), (0, u "(C)[B"), (32, .fieldref 1054 1055), (0, .class_ 1056), (0, .nameAndType 1057 1058), (0, u "jdk/internal/util/Preconditions"), (0, u "SIOOBE_FORMATTER"), (0, u "Ljava/util/function/BiFunction;"), (0, .methodref 1054 1060), (0, .nameAndType 501 1061), (0, u "(IILjava/util/function/BiFunction;)I"), (39, u "serialPersistentFields"), (0, u "[Ljava/io/ObjectStreamField;"), (0, .class_ 1104), (0, u "java/lang/String$CaseInsensitiveComparator"), (1, .class_ 1107), (0, u "java/io/Serializable"), (0, .class_ 1109), (0, u "java/lang/Comparable"), (0, .class_ 1111), (0, u "java/lang/constant/Constable"), (0, .class_ 1113), (0, u "java/lang/constant/ConstantDesc"), (2, u "serialVersionUID"), (0, u "J"), (3, u "REPL"), (0, u "C"), (2, u "LATIN1"), (1, u "UTF16")] 323

def k7m0 : Method := { name := "<init>", desc := "()V", sig := { parameters := [], returnType := none }, accessFlags := 1, code := none }
def k7c1 : Code := { maxStack := 5, maxLocals := 2, code := jdk_42_method_3_code, exceptionTable := #[], attributes := #[] }
def k7m1 : Method := { name := "<init>", desc := "([C)V", sig := { parameters := [(.array .char)], returnType := none }, accessFlags := 1, code := some k7c1 }
def k7c2 : Code := { maxStack := 2, maxLocals := 1, code := jdk_42_method_54_code, exceptionTable := #[], attributes := #[] }
def k7m2 : Method := { name := "length", desc := "()I", sig := { parameters := [], returnType := some .int }, accessFlags := 1, code := some k7c2 }
def k7c3 : Code := { maxStack := 2, maxLocals := 2, code := jdk_42_method_56_code, exceptionTable := #[], attributes := #[] }
def k7m3 : Method := { name := "charAt", desc := "(I)C", sig := { parameters := [.int], returnType := some .char }, accessFlags := 1, code := some k7c3 }
def k7c4 : Code := { maxStack := 4, maxLocals := 1, code := jdk_42_method_139_code, exceptionTable := #[], attributes := #[] }
def k7m4 : Method := { name := "valueOf", desc := "(C)Ljava/lang/String;", sig := { parameters := [.char], returnType := some (.object "java/lang/String") }, accessFlags := 9, code := some k7c4 }
def k7c5 : Code := { maxStack := 4, maxLocals := 6, code := jdk_42_method_149_code, exceptionTable := #[], attributes := #[] }
def k7m5 : Method := { name := "<init>", desc := "([CIILjava/lang/Void;)V", sig := { parameters := [(.array .char), .int, .int, (.object "java/lang/Void")], returnType := none }, accessFlags := 2, code := some k7c5 }
def k7c6 : Code := { maxStack := 2, maxLocals := 3, code := jdk_42_method_151_code, exceptionTable := #[], attributes := #[] }
def k7m6 : Method := { name := "<init>", desc := "([BB)V", sig := { parameters := [(.array .byte), .byte], returnType := none }, accessFlags := 0, code := some k7c6 }
def k7c7 : Code := { maxStack := 1, maxLocals := 1, code := jdk_42_method_152_code, exceptionTable := #[], attributes := #[] }
def k7m7 : Method := { name := "coder", desc := "()B", sig := { parameters := [], returnType := some .byte }, accessFlags := 0, code := some k7c7 }
def k7c8 : Code := { maxStack := 1, maxLocals := 1, code := jdk_42_method_154_code, exceptionTable := #[], attributes := #[] }
def k7m8 : Method := { name := "isLatin1", desc := "()Z", sig := { parameters := [], returnType := some .boolean }, accessFlags := 0, code := some k7c8 }
def k7c9 : Code := { maxStack := 3, maxLocals := 2, code := jdk_42_method_155_code, exceptionTable := #[], attributes := #[] }
def k7m9 : Method := { name := "checkIndex", desc := "(II)V", sig := { parameters := [.int, .int], returnType := none }, accessFlags := 8, code := some k7c9 }
/-- java/lang/String -/
def k7 : Class := { plain "java/lang/String" (some 0) with
  accessFlags := 49
  interfaces := #[2, 3, 4, 5, 6]
  cf := some (fileOf pool7 10 #[.nestMembers #[1103]] #[{ accessFlags := 1, nameIndex := 5, descriptorIndex := 6, attributes := #[] }, { accessFlags := 1, nameIndex := 5, descriptorIndex := 1010, attributes := #[] }, { accessFlags := 1, nameIndex := 507, descriptorIndex := 334, attributes := #[] }, { accessFlags := 1, nameIndex := 497, descriptorIndex := 427, attributes := #[] }, { accessFlags := 9, nameIndex := 782, descriptorIndex := 783, attributes := #[] }, { accessFlags := 2, nameIndex := 5, descriptorIndex := 29, attributes := #[] }, { accessFlags := 0, nameIndex := 5, descriptorIndex := 211, attributes := #[] }, { accessFlags := 0, nameIndex := 17, descriptorIndex := 337, attributes := #[] }, { accessFlags := 0, nameIndex := 494, descriptorIndex := 142, attributes := #[] }, { accessFlags := 8, nameIndex := 501, descriptorIndex := 391, attributes := #[] }] 49 2 #[1106, 1108, 575, 1110, 1112] #[{ accessFlags := 18, nameIndex := 13, descriptorIndex := 14, attributes := #[] }, { accessFlags := 18, nameIndex := 17, descriptorIndex := 18, attributes := #[] }, { accessFlags := 2, nameIndex := 21, descriptorIndex := 22, attributes := #[] }, { accessFlags := 2, nameIndex := 25, descriptorIndex := 26, attributes := #[] }, { accessFlags := 26, nameIndex := 1116, descriptorIndex := 1117, attributes := #[] }, { accessFlags := 24, nameIndex := 40, descriptorIndex := 26, attributes := #[] }, { accessFlags := 26, nameIndex := 1101, descriptorIndex := 1102, attributes := #[] }, { accessFlags := 26, nameIndex := 1121, descriptorIndex := 1122, attributes := #[] }, { accessFlags := 25, nameIndex := 599, descriptorIndex := 600, attributes := #[] }, { accessFlags := 24, nameIndex := 1125, descriptorIndex := 18, attributes := #[] }, { accessFlags := 24, nameIndex := 1127, descriptorIndex := 18, attributes := #[] }])
  fields := #[{ name := "value", type := (.array .byte), accessFlags := 18, slot := 0, constantValue := 0 }, { name := "coder", type := .byte, accessFlags := 18, slot := 1, constantValue := 0 }, { name := "hash", type := .int, accessFlags := 2, slot := 2, constantValue := 0 }, { name := "hashIsZero", type := .boolean, accessFlags := 2, slot := 3, constantValue := 0 }, { name := "serialVersionUID", type := .long, accessFlags := 26, slot := 0, constantValue := 0 }, { name := "COMPACT_STRINGS", type := .boolean, accessFlags := 24, slot := 1, constantValue := 0 }, { name := "serialPersistentFields", type := (.array (.object "java/io/ObjectStreamField")), accessFlags := 26, slot := 2, constantValue := 0 }, { name := "REPL", type := .char, accessFlags := 26, slot := 3, constantValue := 0 }, { name := "CASE_INSENSITIVE_ORDER", type := (.object "java/util/Comparator"), accessFlags := 25, slot := 4, constantValue := 0 }, { name := "LATIN1", type := .byte, accessFlags := 24, slot := 5, constantValue := 0 }, { name := "UTF16", type := .byte, accessFlags := 24, slot := 6, constantValue := 0 }]
  methods := #[k7m0, k7m1, k7m2, k7m3, k7m4, k7m5, k7m6, k7m7, k7m8, k7m9]
  instanceTypes := #[(.array .byte), .byte, .int, .boolean]
  staticTypes := #[.long, .boolean, (.array (.object "java/io/ObjectStreamField")), .char, (.object "java/util/Comparator"), .byte, .byte]
  resolved := Array.replicate 1451 none
  statics := some 0 }

def pool8 : Array CpInfo := pool [(1, .class_ 2), (0, u "java/lang/String"), (1, .class_ 6), (1, u "java/lang/Object"), (0, u "<init>"), (0, u "()V"), (0, .methodref 1 10), (0, .nameAndType 11 12), (0, u "checkIndex"), (0, u "(II)V"), (1, .class_ 16), (1, u "java/lang/StringLatin1"), (36, u "([BI)C"), (36, u "canEncode"), (14, u "(C)Z"), (15, u "$assertionsDisabled"), (0, u "Z"), (98, .class_ 223), (1, u "java/lang/StringLatin1$LinesSpliterator"), (28, u "charAt"), (127, u "toBytes"), (1, u "(C)[B"), (7, .class_ 391), (0, u "java/lang/StringLatin1$CharsSpliterator")] 3

def k8m0 : Method := { name := "<init>", desc := "()V", sig := { parameters := [], returnType := none }, accessFlags := 0, code := none }
def k8c1 : Code := { maxStack := 2, maxLocals := 2, code := jdk_43_method_2_code, exceptionTable := #[], attributes := #[] }
def k8m1 : Method := { name := "charAt", desc := "([BI)C", sig := { parameters := [(.array .byte), .int], returnType := some .char }, accessFlags := 9, code := some k8c1 }
def k8c2 : Code := { maxStack := 2, maxLocals := 1, code := jdk_43_method_3_code, exceptionTable := #[], attributes := #[] }
def k8m2 : Method := { name := "canEncode", desc := "(C)Z", sig := { parameters := [.char], returnType := some .boolean }, accessFlags := 9, code := some k8c2 }
def k8c3 : Code := { maxStack := 4, maxLocals := 1, code := jdk_43_method_46_code, exceptionTable := #[], attributes := #[] }
def k8m3 : Method := { name := "toBytes", desc := "(C)[B", sig := { parameters := [.char], returnType := some (.array .byte) }, accessFlags := 9, code := some k8c3 }
/-- java/lang/StringLatin1 -/
def k8 : Class := { plain "java/lang/StringLatin1" (some 0) with
  accessFlags := 48
  interfaces := #[]
  cf := some (fileOf pool8 14 #[.nestMembers #[390, 221]] #[{ accessFlags := 0, nameIndex := 7, descriptorIndex := 8, attributes := #[] }, { accessFlags := 9, nameIndex := 252, descriptorIndex := 53, attributes := #[] }, { accessFlags := 9, nameIndex := 90, descriptorIndex := 105, attributes := #[] }, { accessFlags := 9, nameIndex := 380, descriptorIndex := 382, attributes := #[] }] 48 4 #[] #[{ accessFlags := 4120, nameIndex := 121, descriptorIndex := 122, attributes := #[] }])
  fields := #[{ name := "$assertionsDisabled", type := .boolean, accessFlags := 4120, slot := 0, constantValue := 0 }]
  methods := #[k8m0, k8m1, k8m2, k8m3]
  instanceTypes := #[]
  staticTypes := #[.boolean]
  resolved := Array.replicate 395 none
  statics := none }

def pool9 : Array CpInfo := pool [(2, .class_ 4), (1, u "java/lang/Object"), (0, u "<init>"), (0, u "()V"), (0, .methodref 8 9), (0, .class_ 10), (0, .nameAndType 11 12), (0, u "java/util/Objects"), (0, u "requireNonNull"), (0, u "(Ljava/lang/Object;Ljava/lang/String;)Ljava/lang/Object;"), (0, .methodref 14 15), (0, .class_ 16), (0, .nameAndType 17 18), (0, u "java/lang/String"), (0, u "length"), (0, u "()I"), (0, .methodref 14 20), (0, .nameAndType 21 22), (0, u "charAt"), (0, u "(I)C"), (9, .methodref 33 34), (0, .class_ 35), (0, .nameAndType 36 37), (0, u "java/lang/Character"), (0, u "isSurrogate"), (0, u "(C)Z"), (0, .methodref 33 39), (0, .nameAndType 40 37), (0, u "isHighSurrogate"), (0, .methodref 33 42), (0, .nameAndType 43 37), (0, u "isLowSurrogate"), (1, .class_ 46), (0, u "com/example/circa_once/circaonce/model/StorableText"), (2, u "require"), (0, u "(Ljava/lang/String;Ljava/lang/String;)Ljava/lang/String;")] 20

def k9m0 : Method := { name := "<init>", desc := "()V", sig := { parameters := [], returnType := none }, accessFlags := 2, code := none }
def k9c1 : Code := { maxStack := 3, maxLocals := 6, code := prog_15_method_2_code, exceptionTable := #[], attributes := #[] }
def k9m1 : Method := { name := "require", desc := "(Ljava/lang/String;Ljava/lang/String;)Ljava/lang/String;", sig := { parameters := [(.object "java/lang/String"), (.object "java/lang/String")], returnType := some (.object "java/lang/String") }, accessFlags := 8, code := some k9c1 }
/-- com/example/circa_once/circaonce/model/StorableText -/
def k9 : Class := { plain "com/example/circa_once/circaonce/model/StorableText" (some 0) with
  accessFlags := 48
  interfaces := #[]
  cf := some (fileOf pool9 45 #[] #[{ accessFlags := 2, nameIndex := 5, descriptorIndex := 6, attributes := #[] }, { accessFlags := 8, nameIndex := 49, descriptorIndex := 50, attributes := #[] }] 48 2 #[] #[])
  fields := #[]
  methods := #[k9m0, k9m1]
  instanceTypes := #[]
  staticTypes := #[]
  resolved := Array.replicate 71 none
  statics := none }

def pool10 : Array CpInfo := pool [(2, .class_ 4), (1, u "java/lang/Object"), (0, u "<init>"), (0, u "()V"), (35, .class_ 44), (1, u "java/util/Objects"), (0, u "requireNonNull"), (48, u "(Ljava/lang/Object;Ljava/lang/String;)Ljava/lang/Object;")] 89

def k10m0 : Method := { name := "<init>", desc := "()V", sig := { parameters := [], returnType := none }, accessFlags := 2, code := none }
def k10c1 : Code := { maxStack := 3, maxLocals := 2, code := jdk_31_method_11_code, exceptionTable := #[], attributes := #[] }
def k10m1 : Method := { name := "requireNonNull", desc := "(Ljava/lang/Object;Ljava/lang/String;)Ljava/lang/Object;", sig := { parameters := [(.object "java/lang/Object"), (.object "java/lang/String")], returnType := some (.object "java/lang/Object") }, accessFlags := 9, code := some k10c1 }
/-- java/util/Objects -/
def k10 : Class := { plain "java/util/Objects" (some 0) with
  accessFlags := 49
  interfaces := #[]
  cf := some (fileOf pool10 42 #[] #[{ accessFlags := 2, nameIndex := 5, descriptorIndex := 6, attributes := #[] }, { accessFlags := 9, nameIndex := 45, descriptorIndex := 94, attributes := #[] }] 49 2 #[] #[])
  fields := #[]
  methods := #[k10m0, k10m1]
  instanceTypes := #[]
  staticTypes := #[]
  resolved := Array.replicate 184 none
  statics := none }

def pool11 : Array CpInfo := pool [(3, .class_ 4), (0, u "java/lang/String"), (1, .class_ 8), (1, u "java/lang/Object"), (0, u "<init>"), (0, u "()V"), (0, .methodref 12 13), (0, .class_ 14), (0, .nameAndType 15 16), (0, u "java/lang/StringUTF16"), (0, u "newBytesLength"), (0, u "(I)I"), (3, .integer 1073741823), (23, .fieldref 12 45), (0, .nameAndType 46 47), (0, u "$assertionsDisabled"), (0, u "Z"), (0, .methodref 12 49), (0, .nameAndType 50 51), (0, u "length"), (0, u "([B)I"), (7, .fieldref 12 60), (0, .nameAndType 61 62), (0, u "HI_BYTE_SHIFT"), (0, u "I"), (0, .fieldref 12 64), (0, .nameAndType 65 62), (0, u "LO_BYTE_SHIFT"), (1, .methodref 12 68), (0, .nameAndType 69 70), (0, u "checkIndex"), (0, u "(I[B)V"), (0, .methodref 12 72), (0, .nameAndType 73 74), (0, u "getChar"), (0, u "([BI)C"), (32, .methodref 12 108), (0, .nameAndType 109 110), (0, u "newBytesFor"), (0, u "(I)[B"), (0, .methodref 12 112), (0, .nameAndType 113 114), (0, u "putChar"), (0, u "([BII)V"), (0, .methodref 12 116), (0, .nameAndType 117 118), (0, u "compress"), (0, u "([CI[BII)I"), (0, .methodref 12 120), (0, .nameAndType 121 122), (0, u "toBytes"), (0, u "([CII)[B"), (138, u "coderFromArrayLen"), (0, u "([BI)B"), (106, .class_ 371), (1, u "java/lang/StringUTF16$LinesSpliterator"), (20, u "charAt"), (21, .methodref 3 415), (0, .nameAndType 69 416), (0, u "(II)V"), (13, u "MAX_LENGTH"), (196, .class_ 628), (0, u "java/lang/StringUTF16$CodePointsSpliterator"), (0, .class_ 630), (0, u "java/lang/StringUTF16$CharsSpliterator")] 4

def k11m0 : Method := { name := "<init>", desc := "()V", sig := { parameters := [], returnType := none }, accessFlags := 0, code := none }
def k11c1 : Code := { maxStack := 1, maxLocals := 1, code := jdk_52_method_2_code, exceptionTable := #[], attributes := #[] }
def k11m1 : Method := { name := "newBytesFor", desc := "(I)[B", sig := { parameters := [.int], returnType := some (.array .byte) }, accessFlags := 9, code := some k11c1 }
def k11c2 : Code := { maxStack := 4, maxLocals := 1, code := jdk_52_method_3_code, exceptionTable := #[], attributes := #[] }
def k11m2 : Method := { name := "newBytesLength", desc := "(I)I", sig := { parameters := [.int], returnType := some .int }, accessFlags := 9, code := some k11c2 }
def k11c3 : Code := { maxStack := 4, maxLocals := 3, code := jdk_52_method_4_code, exceptionTable := #[], attributes := #[] }
def k11m3 : Method := { name := "putChar", desc := "([BII)V", sig := { parameters := [(.array .byte), .int, .int], returnType := none }, accessFlags := 8, code := some k11c3 }
def k11c4 : Code := { maxStack := 3, maxLocals := 2, code := jdk_52_method_5_code, exceptionTable := #[], attributes := #[] }
def k11m4 : Method := { name := "getChar", desc := "([BI)C", sig := { parameters := [(.array .byte), .int], returnType := some .char }, accessFlags := 8, code := some k11c4 }
def k11c5 : Code := { maxStack := 2, maxLocals := 1, code := jdk_52_method_6_code, exceptionTable := #[], attributes := #[] }
def k11m5 : Method := { name := "length", desc := "([B)I", sig := { parameters := [(.array .byte)], returnType := some .int }, accessFlags := 9, code := some k11c5 }
def k11c6 : Code := { maxStack := 4, maxLocals := 5, code := jdk_52_method_14_code, exceptionTable := #[], attributes := #[] }
def k11m6 : Method := { name := "toBytes", desc := "([CII)[B", sig := { parameters := [(.array .char), .int, .int], returnType := some (.array .byte) }, accessFlags := 9, code := some k11c6 }
def k11c7 : Code := { maxStack := 2, maxLocals := 2, code := jdk_52_method_15_code, exceptionTable := #[], attributes := #[] }
def k11m7 : Method := { name := "coderFromArrayLen", desc := "([BI)B", sig := { parameters := [(.array .byte), .int], returnType := some .byte }, accessFlags := 8, code := some k11c7 }
def k11c8 : Code := { maxStack := 5, maxLocals := 6, code := jdk_52_method_16_code, exceptionTable := #[], attributes := #[] }
def k11m8 : Method := { name := "compress", desc := "([CII)[B", sig := { parameters := [(.array .char), .int, .int], returnType := some (.array .byte) }, accessFlags := 9, code := some k11c8 }
def k11c9 : Code := { maxStack := 3, maxLocals := 7, code := jdk_52_method_21_code, exceptionTable := #[], attributes := #[] }
def k11m9 : Method := { name := "compress", desc := "([CI[BII)I", sig := { parameters := [(.array .char), .int, (.array .byte), .int, .int], returnType := some .int }, accessFlags := 9, code := some k11c9 }
def k11c10 : Code := { maxStack := 2, maxLocals := 2, code := jdk_52_method_83_code, exceptionTable := #[], attributes := #[] }
def k11m10 : Method := { name := "charAt", desc := "([BI)C", sig := { parameters := [(.array .byte), .int], returnType := some .char }, accessFlags := 9, code := some k11c10 }
def k11c11 : Code := { maxStack := 2, maxLocals := 2, code := jdk_52_method_91_code, exceptionTable := #[], attributes := #[] }
def k11m11 : Method := { name := "checkIndex", desc := "(I[B)V", sig := { parameters := [.int, (.array .byte)], returnType := none }, accessFlags := 9, code := some k11c11 }
/-- java/lang/StringUTF16 -/
def k11 : Class := { plain "java/lang/StringUTF16" (some 0) with
  accessFlags := 48
  interfaces := #[]
  cf := some (fileOf pool11 12 #[.nestMembers #[627, 629, 369]] #[{ accessFlags := 0, nameIndex := 9, descriptorIndex := 10, attributes := #[] }, { accessFlags := 9, nameIndex := 109, descriptorIndex := 110, attributes := #[] }, { accessFlags := 9, nameIndex := 15, descriptorIndex := 16, attributes := #[] }, { accessFlags := 8, nameIndex := 113, descriptorIndex := 114, attributes := #[] }, { accessFlags := 8, nameIndex := 73, descriptorIndex := 74, attributes := #[] }, { accessFlags := 9, nameIndex := 50, descriptorIndex := 51, attributes := #[] }, { accessFlags := 9, nameIndex := 121, descriptorIndex := 122, attributes := #[] }, { accessFlags := 8, nameIndex := 261, descriptorIndex := 262, attributes := #[] }, { accessFlags := 9, nameIndex := 117, descriptorIndex := 122, attributes := #[] }, { accessFlags := 9, nameIndex := 117, descriptorIndex := 118, attributes := #[] }, { accessFlags := 9, nameIndex := 392, descriptorIndex := 74, attributes := #[] }, { accessFlags := 9, nameIndex := 69, descriptorIndex := 70, attributes := #[] }] 48 6 #[] #[{ accessFlags := 26, nameIndex := 61, descriptorIndex := 62, attributes := #[] }, { accessFlags := 26, nameIndex := 65, descriptorIndex := 62, attributes := #[] }, { accessFlags := 24, nameIndex := 430, descriptorIndex := 62, attributes := #[] }, { accessFlags := 4120, nameIndex := 46, descriptorIndex := 47, attributes := #[] }])
  fields := #[{ name := "HI_BYTE_SHIFT", type := .int, accessFlags := 26, slot := 0, constantValue := 0 }, { name := "LO_BYTE_SHIFT", type := .int, accessFlags := 26, slot := 1, constantValue := 0 }, { name := "MAX_LENGTH", type := .int, accessFlags := 24, slot := 2, constantValue := 0 }, { name := "$assertionsDisabled", type := .boolean, accessFlags := 4120, slot := 3, constantValue := 0 }]
  methods := #[k11m0, k11m1, k11m2, k11m3, k11m4, k11m5, k11m6, k11m7, k11m8, k11m9, k11m10, k11m11]
  instanceTypes := #[]
  staticTypes := #[.int, .int, .int, .boolean]
  resolved := Array.replicate 635 none
  statics := some 1 }

def pool12 : Array CpInfo := pool [(2, .class_ 4), (1, u "java/lang/Object"), (0, u "<init>"), (0, u "()V"), (17, .class_ 26), (1, u "jdk/internal/util/Preconditions"), (6, u "checkIndex"), (21, .class_ 56), (0, u "jdk/internal/util/Preconditions$4"), (57, .class_ 115), (0, u "jdk/internal/util/Preconditions$1"), (7, u "SIOOBE_FORMATTER"), (0, u "Ljava/util/function/BiFunction;"), (0, .class_ 126), (0, u "jdk/internal/util/Preconditions$2"), (3, u "AIOOBE_FORMATTER"), (0, .class_ 132), (0, u "jdk/internal/util/Preconditions$3"), (3, u "IOOBE_FORMATTER"), (41, u "(IILjava/util/function/BiFunction;)I")] 15

def k12m0 : Method := { name := "<init>", desc := "()V", sig := { parameters := [], returnType := none }, accessFlags := 1, code := none }
def k12c1 : Code := { maxStack := 3, maxLocals := 3, code := jdk_41_method_11_code, exceptionTable := #[], attributes := #[] }
def k12m1 : Method := { name := "checkIndex", desc := "(IILjava/util/function/BiFunction;)I", sig := { parameters := [.int, .int, (.object "java/util/function/BiFunction")], returnType := some .int }, accessFlags := 9, code := some k12c1 }
/-- jdk/internal/util/Preconditions -/
def k12 : Class := { plain "jdk/internal/util/Preconditions" (some 0) with
  accessFlags := 33
  interfaces := #[]
  cf := some (fileOf pool12 24 #[.nestMembers #[55, 131, 125, 114]] #[{ accessFlags := 1, nameIndex := 5, descriptorIndex := 6, attributes := #[] }, { accessFlags := 9, nameIndex := 33, descriptorIndex := 178, attributes := #[] }] 33 2 #[] #[{ accessFlags := 25, nameIndex := 123, descriptorIndex := 124, attributes := #[] }, { accessFlags := 25, nameIndex := 130, descriptorIndex := 124, attributes := #[] }, { accessFlags := 25, nameIndex := 136, descriptorIndex := 124, attributes := #[] }])
  fields := #[{ name := "SIOOBE_FORMATTER", type := (.object "java/util/function/BiFunction"), accessFlags := 25, slot := 0, constantValue := 0 }, { name := "AIOOBE_FORMATTER", type := (.object "java/util/function/BiFunction"), accessFlags := 25, slot := 1, constantValue := 0 }, { name := "IOOBE_FORMATTER", type := (.object "java/util/function/BiFunction"), accessFlags := 25, slot := 2, constantValue := 0 }]
  methods := #[k12m0, k12m1]
  instanceTypes := #[]
  staticTypes := #[(.object "java/util/function/BiFunction"), (.object "java/util/function/BiFunction"), (.object "java/util/function/BiFunction")]
  resolved := Array.replicate 194 none
  statics := some 2 }

def pool13 : Array CpInfo := pool [(1, .class_ 2), (0, u "java/lang/Character"), (18, u "value"), (0, u "C"), (19, .class_ 44), (1, u "java/lang/Object"), (3, .class_ 50), (1, u "java/lang/Character$CharacterCache"), (24, .integer 55296), (0, .integer 56320), (0, .integer 57344), (2, u "isHighSurrogate"), (0, u "(C)Z"), (2, u "isLowSurrogate"), (199, u "$assertionsDisabled"), (0, u "Z"), (21, .class_ 309), (1, u "java/lang/Character$UnicodeBlock"), (73, u "TYPE"), (0, u "Ljava/lang/Class;"), (0, .class_ 386), (0, u "java/io/Serializable"), (0, .class_ 388), (0, u "java/lang/Comparable"), (0, .class_ 390), (0, u "java/lang/constant/Constable"), (0, u "MIN_RADIX"), (0, u "I"), (2, u "MAX_RADIX"), (1, u "MIN_VALUE"), (1, u "MAX_VALUE"), (3, u "UNASSIGNED"), (0, u "B"), (0, u "UPPERCASE_LETTER"), (1, u "LOWERCASE_LETTER"), (0, u "TITLECASE_LETTER"), (1, u "MODIFIER_LETTER"), (1, u "OTHER_LETTER"), (1, u "NON_SPACING_MARK"), (1, u "ENCLOSING_MARK"), (1, u "COMBINING_SPACING_MARK"), (1, u "DECIMAL_DIGIT_NUMBER"), (1, u "LETTER_NUMBER"), (1, u "OTHER_NUMBER"), (1, u "SPACE_SEPARATOR"), (1, u "LINE_SEPARATOR"), (1, u "PARAGRAPH_SEPARATOR"), (1, u "CONTROL"), (1, u "FORMAT"), (1, u "PRIVATE_USE"), (1, u "SURROGATE"), (1, u "DASH_PUNCTUATION"), (1, u "START_PUNCTUATION"), (1, u "END_PUNCTUATION"), (1, u "CONNECTOR_PUNCTUATION"), (1, u "OTHER_PUNCTUATION"), (1, u "MATH_SYMBOL"), (1, u "CURRENCY_SYMBOL"), (1, u "MODIFIER_SYMBOL"), (1, u "OTHER_SYMBOL"), (1, u "INITIAL_QUOTE_PUNCTUATION"), (1, u "FINAL_QUOTE_PUNCTUATION"), (1, u "ERROR"), (1, u "DIRECTIONALITY_UNDEFINED"), (0, u "DIRECTIONALITY_LEFT_TO_RIGHT"), (0, u "DIRECTIONALITY_RIGHT_TO_LEFT"), (0, u "DIRECTIONALITY_RIGHT_TO_LEFT_ARABIC"), (0, u "DIRECTIONALITY_EUROPEAN_NUMBER"), (0, u "DIRECTIONALITY_EUROPEAN_NUMBER_SEPARATOR"), (0, u "DIRECTIONALITY_EUROPEAN_NUMBER_TERMINATOR"), (0, u "DIRECTIONALITY_ARABIC_NUMBER"), (0, u "DIRECTIONALITY_COMMON_NUMBER_SEPARATOR"), (0, u "DIRECTIONALITY_NONSPACING_MARK"), (0, u "DIRECTIONALITY_BOUNDARY_NEUTRAL"), (0, u "DIRECTIONALITY_PARAGRAPH_SEPARATOR"), (0, u "DIRECTIONALITY_SEGMENT_SEPARATOR"), (0, u "DIRECTIONALITY_WHITESPACE"), (0, u "DIRECTIONALITY_OTHER_NEUTRALS"), (0, u "DIRECTIONALITY_LEFT_TO_RIGHT_EMBEDDING"), (0, u "DIRECTIONALITY_LEFT_TO_RIGHT_OVERRIDE"), (0, u "DIRECTIONALITY_RIGHT_TO_LEFT_EMBEDDING"), (0, u "DIRECTIONALITY_RIGHT_TO_LEFT_OVERRIDE"), (1, u "DIRECTIONALITY_POP_DIRECTIONAL_FORMAT"), (0, u "DIRECTIONALITY_LEFT_TO_RIGHT_ISOLATE"), (0, u "DIRECTIONALITY_RIGHT_TO_LEFT_ISOLATE"), (0, u "DIRECTIONALITY_FIRST_STRONG_ISOLATE"), (0, u "DIRECTIONALITY_POP_DIRECTIONAL_ISOLATE"), (0, u "MIN_HIGH_SURROGATE"), (0, u "MAX_HIGH_SURROGATE"), (1, u "MIN_LOW_SURROGATE"), (0, u "MAX_LOW_SURROGATE"), (1, u "MIN_SURROGATE"), (0, u "MAX_SURROGATE"), (0, u "MIN_SUPPLEMENTARY_CODE_POINT"), (0, u "MIN_CODE_POINT"), (0, u "MAX_CODE_POINT"), (1, u "serialVersionUID"), (0, u "J"), (2, u "SIZE"), (0, u "BYTES"), (24, u "isSurrogate"), (63, .class_ 596), (0, u "java/lang/Character$UnicodeScript"), (0, .class_ 598), (0, u "java/lang/Character$Subset")] 5

def k13c0 : Code := { maxStack := 2, maxLocals := 1, code := jdk_89_method_14_code, exceptionTable := #[], attributes := #[] }
def k13m0 : Method := { name := "isHighSurrogate", desc := "(C)Z", sig := { parameters := [.char], returnType := some .boolean }, accessFlags := 9, code := some k13c0 }
def k13c1 : Code := { maxStack := 2, maxLocals := 1, code := jdk_89_method_15_code, exceptionTable := #[], attributes := #[] }
def k13m1 : Method := { name := "isLowSurrogate", desc := "(C)Z", sig := { parameters := [.char], returnType := some .boolean }, accessFlags := 9, code := some k13c1 }
def k13c2 : Code := { maxStack := 2, maxLocals := 1, code := jdk_89_method_16_code, exceptionTable := #[], attributes := #[] }
def k13m2 : Method := { name := "isSurrogate", desc := "(C)Z", sig := { parameters := [.char], returnType := some .boolean }, accessFlags := 9, code := some k13c2 }
/-- java/lang/Character -/
def k13 : Class := { plain "java/lang/Character" (some 0) with
  accessFlags := 49
  interfaces := #[2, 3, 5]
  cf := some (fileOf pool13 1 #[.nestMembers #[48, 595, 307, 597]] #[{ accessFlags := 9, nameIndex := 80, descriptorIndex := 81, attributes := #[] }, { accessFlags := 9, nameIndex := 84, descriptorIndex := 81, attributes := #[] }, { accessFlags := 9, nameIndex := 531, descriptorIndex := 81, attributes := #[] }] 49 42 #[385, 387, 389] #[{ accessFlags := 25, nameIndex := 391, descriptorIndex := 392, attributes := #[] }, { accessFlags := 25, nameIndex := 395, descriptorIndex := 392, attributes := #[] }, { accessFlags := 25, nameIndex := 397, descriptorIndex := 22, attributes := #[] }, { accessFlags := 25, nameIndex := 399, descriptorIndex := 22, attributes := #[] }, { accessFlags := 25, nameIndex := 383, descriptorIndex := 384, attributes := #[] }, { accessFlags := 25, nameIndex := 403, descriptorIndex := 404, attributes := #[] }, { accessFlags := 25, nameIndex := 405, descriptorIndex := 404, attributes := #[] }, { accessFlags := 25, nameIndex := 407, descriptorIndex := 404, attributes := #[] }, { accessFlags := 25, nameIndex := 408, descriptorIndex := 404, attributes := #[] }, { accessFlags := 25, nameIndex := 410, descriptorIndex := 404, attributes := #[] }, { accessFlags := 25, nameIndex := 412, descriptorIndex := 404, attributes := #[] }, { accessFlags := 25, nameIndex := 414, descriptorIndex := 404, attributes := #[] }, { accessFlags := 25, nameIndex := 416, descriptorIndex := 404, attributes := #[] }, { accessFlags := 25, nameIndex := 418, descriptorIndex := 404, attributes := #[] }, { accessFlags := 25, nameIndex := 420, descriptorIndex := 404, attributes := #[] }, { accessFlags := 25, nameIndex := 422, descriptorIndex := 404, attributes := #[] }, { accessFlags := 25, nameIndex := 424, descriptorIndex := 404, attributes := #[] }, { accessFlags := 25, nameIndex := 426, descriptorIndex := 404, attributes := #[] }, { accessFlags := 25, nameIndex := 428, descriptorIndex := 404, attributes := #[] }, { accessFlags := 25, nameIndex := 430, descriptorIndex := 404, attributes := #[] }, { accessFlags := 25, nameIndex := 432, descriptorIndex := 404, attributes := #[] }, { accessFlags := 25, nameIndex := 434, descriptorIndex := 404, attributes := #[] }, { accessFlags := 25, nameIndex := 436, descriptorIndex := 404, attributes := #[] }, { accessFlags := 25, nameIndex := 438, descriptorIndex := 404, attributes := #[] }, { accessFlags := 25, nameIndex := 440, descriptorIndex := 404, attributes := #[] }, { accessFlags := 25, nameIndex := 442, descriptorIndex := 404, attributes := #[] }, { accessFlags := 25, nameIndex := 444, descriptorIndex := 404, attributes := #[] }, { accessFlags := 25, nameIndex := 446, descriptorIndex := 404, attributes := #[] }, { accessFlags := 25, nameIndex := 448, descriptorIndex := 404, attributes := #[] }, { accessFlags := 25, nameIndex := 450, descriptorIndex := 404, attributes := #[] }, { accessFlags := 25, nameIndex := 452, descriptorIndex := 404, attributes := #[] }, { accessFlags := 25, nameIndex := 454, descriptorIndex := 404, attributes := #[] }, { accessFlags := 25, nameIndex := 456, descriptorIndex := 404, attributes := #[] }, { accessFlags := 25, nameIndex := 458, descriptorIndex := 404, attributes := #[] }, { accessFlags := 25, nameIndex := 460, descriptorIndex := 404, attributes := #[] }, { accessFlags := 24, nameIndex := 462, descriptorIndex := 392, attributes := #[] }, { accessFlags := 25, nameIndex := 464, descriptorIndex := 404, attributes := #[] }, { accessFlags := 25, nameIndex := 465, descriptorIndex := 404, attributes := #[] }, { accessFlags := 25, nameIndex := 466, descriptorIndex := 404, attributes := #[] }, { accessFlags := 25, nameIndex := 467, descriptorIndex := 404, attributes := #[] }, { accessFlags := 25, nameIndex := 468, descriptorIndex := 404, attributes := #[] }, { accessFlags := 25, nameIndex := 469, descriptorIndex := 404, attributes := #[] }, { accessFlags := 25, nameIndex := 470, descriptorIndex := 404, attributes := #[] }, { accessFlags := 25, nameIndex := 471, descriptorIndex := 404, attributes := #[] }, { accessFlags := 25, nameIndex := 472, descriptorIndex := 404, attributes := #[] }, { accessFlags := 25, nameIndex := 473, descriptorIndex := 404, attributes := #[] }, { accessFlags := 25, nameIndex := 474, descriptorIndex := 404, attributes := #[] }, { accessFlags := 25, nameIndex := 475, descriptorIndex := 404, attributes := #[] }, { accessFlags := 25, nameIndex := 476, descriptorIndex := 404, attributes := #[] }, { accessFlags := 25, nameIndex := 477, descriptorIndex := 404, attributes := #[] }, { accessFlags := 25, nameIndex := 478, descriptorIndex := 404, attributes := #[] }, { accessFlags := 25, nameIndex := 479, descriptorIndex := 404, attributes := #[] }, { accessFlags := 25, nameIndex := 480, descriptorIndex := 404, attributes := #[] }, { accessFlags := 25, nameIndex := 481, descriptorIndex := 404, attributes := #[] }, { accessFlags := 25, nameIndex := 482, descriptorIndex := 404, attributes := #[] }, { accessFlags := 25, nameIndex := 484, descriptorIndex := 404, attributes := #[] }, { accessFlags := 25, nameIndex := 485, descriptorIndex := 404, attributes := #[] }, { accessFlags := 25, nameIndex := 486, descriptorIndex := 404, attributes := #[] }, { accessFlags := 25, nameIndex := 487, descriptorIndex := 404, attributes := #[] }, { accessFlags := 25, nameIndex := 488, descriptorIndex := 404, attributes := #[] }, { accessFlags := 25, nameIndex := 489, descriptorIndex := 22, attributes := #[] }, { accessFlags := 25, nameIndex := 490, descriptorIndex := 22, attributes := #[] }, { accessFlags := 25, nameIndex := 492, descriptorIndex := 22, attributes := #[] }, { accessFlags := 25, nameIndex := 493, descriptorIndex := 22, attributes := #[] }, { accessFlags := 25, nameIndex := 495, descriptorIndex := 22, attributes := #[] }, { accessFlags := 25, nameIndex := 496, descriptorIndex := 22, attributes := #[] }, { accessFlags := 25, nameIndex := 497, descriptorIndex := 392, attributes := #[] }, { accessFlags := 25, nameIndex := 498, descriptorIndex := 392, attributes := #[] }, { accessFlags := 25, nameIndex := 499, descriptorIndex := 392, attributes := #[] }, { accessFlags := 18, nameIndex := 21, descriptorIndex := 22, attributes := #[] }, { accessFlags := 26, nameIndex := 501, descriptorIndex := 502, attributes := #[] }, { accessFlags := 25, nameIndex := 505, descriptorIndex := 392, attributes := #[] }, { accessFlags := 25, nameIndex := 506, descriptorIndex := 392, attributes := #[] }, { accessFlags := 4120, nameIndex := 284, descriptorIndex := 285, attributes := #[] }])
  fields := #[{ name := "MIN_RADIX", type := .int, accessFlags := 25, slot := 0, constantValue := 0 }, { name := "MAX_RADIX", type := .int, accessFlags := 25, slot := 1, constantValue := 0 }, { name := "MIN_VALUE", type := .char, accessFlags := 25, slot := 2, constantValue := 0 }, { name := "MAX_VALUE", type := .char, accessFlags := 25, slot := 3, constantValue := 0 }, { name := "TYPE", type := (.object "java/lang/Class"), accessFlags := 25, slot := 4, constantValue := 0 }, { name := "UNASSIGNED", type := .byte, accessFlags := 25, slot := 5, constantValue := 0 }, { name := "UPPERCASE_LETTER", type := .byte, accessFlags := 25, slot := 6, constantValue := 0 }, { name := "LOWERCASE_LETTER", type := .byte, accessFlags := 25, slot := 7, constantValue := 0 }, { name := "TITLECASE_LETTER", type := .byte, accessFlags := 25, slot := 8, constantValue := 0 }, { name := "MODIFIER_LETTER", type := .byte, accessFlags := 25, slot := 9, constantValue := 0 }, { name := "OTHER_LETTER", type := .byte, accessFlags := 25, slot := 10, constantValue := 0 }, { name := "NON_SPACING_MARK", type := .byte, accessFlags := 25, slot := 11, constantValue := 0 }, { name := "ENCLOSING_MARK", type := .byte, accessFlags := 25, slot := 12, constantValue := 0 }, { name := "COMBINING_SPACING_MARK", type := .byte, accessFlags := 25, slot := 13, constantValue := 0 }, { name := "DECIMAL_DIGIT_NUMBER", type := .byte, accessFlags := 25, slot := 14, constantValue := 0 }, { name := "LETTER_NUMBER", type := .byte, accessFlags := 25, slot := 15, constantValue := 0 }, { name := "OTHER_NUMBER", type := .byte, accessFlags := 25, slot := 16, constantValue := 0 }, { name := "SPACE_SEPARATOR", type := .byte, accessFlags := 25, slot := 17, constantValue := 0 }, { name := "LINE_SEPARATOR", type := .byte, accessFlags := 25, slot := 18, constantValue := 0 }, { name := "PARAGRAPH_SEPARATOR", type := .byte, accessFlags := 25, slot := 19, constantValue := 0 }, { name := "CONTROL", type := .byte, accessFlags := 25, slot := 20, constantValue := 0 }, { name := "FORMAT", type := .byte, accessFlags := 25, slot := 21, constantValue := 0 }, { name := "PRIVATE_USE", type := .byte, accessFlags := 25, slot := 22, constantValue := 0 }, { name := "SURROGATE", type := .byte, accessFlags := 25, slot := 23, constantValue := 0 }, { name := "DASH_PUNCTUATION", type := .byte, accessFlags := 25, slot := 24, constantValue := 0 }, { name := "START_PUNCTUATION", type := .byte, accessFlags := 25, slot := 25, constantValue := 0 }, { name := "END_PUNCTUATION", type := .byte, accessFlags := 25, slot := 26, constantValue := 0 }, { name := "CONNECTOR_PUNCTUATION", type := .byte, accessFlags := 25, slot := 27, constantValue := 0 }, { name := "OTHER_PUNCTUATION", type := .byte, accessFlags := 25, slot := 28, constantValue := 0 }, { name := "MATH_SYMBOL", type := .byte, accessFlags := 25, slot := 29, constantValue := 0 }, { name := "CURRENCY_SYMBOL", type := .byte, accessFlags := 25, slot := 30, constantValue := 0 }, { name := "MODIFIER_SYMBOL", type := .byte, accessFlags := 25, slot := 31, constantValue := 0 }, { name := "OTHER_SYMBOL", type := .byte, accessFlags := 25, slot := 32, constantValue := 0 }, { name := "INITIAL_QUOTE_PUNCTUATION", type := .byte, accessFlags := 25, slot := 33, constantValue := 0 }, { name := "FINAL_QUOTE_PUNCTUATION", type := .byte, accessFlags := 25, slot := 34, constantValue := 0 }, { name := "ERROR", type := .int, accessFlags := 24, slot := 35, constantValue := 0 }, { name := "DIRECTIONALITY_UNDEFINED", type := .byte, accessFlags := 25, slot := 36, constantValue := 0 }, { name := "DIRECTIONALITY_LEFT_TO_RIGHT", type := .byte, accessFlags := 25, slot := 37, constantValue := 0 }, { name := "DIRECTIONALITY_RIGHT_TO_LEFT", type := .byte, accessFlags := 25, slot := 38, constantValue := 0 }, { name := "DIRECTIONALITY_RIGHT_TO_LEFT_ARABIC", type := .byte, accessFlags := 25, slot := 39, constantValue := 0 }, { name := "DIRECTIONALITY_EUROPEAN_NUMBER", type := .byte, accessFlags := 25, slot := 40, constantValue := 0 }, { name := "DIRECTIONALITY_EUROPEAN_NUMBER_SEPARATOR", type := .byte, accessFlags := 25, slot := 41, constantValue := 0 }, { name := "DIRECTIONALITY_EUROPEAN_NUMBER_TERMINATOR", type := .byte, accessFlags := 25, slot := 42, constantValue := 0 }, { name := "DIRECTIONALITY_ARABIC_NUMBER", type := .byte, accessFlags := 25, slot := 43, constantValue := 0 }, { name := "DIRECTIONALITY_COMMON_NUMBER_SEPARATOR", type := .byte, accessFlags := 25, slot := 44, constantValue := 0 }, { name := "DIRECTIONALITY_NONSPACING_MARK", type := .byte, accessFlags := 25, slot := 45, constantValue := 0 }, { name := "DIRECTIONALITY_BOUNDARY_NEUTRAL", type := .byte, accessFlags := 25, slot := 46, constantValue := 0 }, { name := "DIRECTIONALITY_PARAGRAPH_SEPARATOR", type := .byte, accessFlags := 25, slot := 47, constantValue := 0 }, { name := "DIRECTIONALITY_SEGMENT_SEPARATOR", type := .byte, accessFlags := 25, slot := 48, constantValue := 0 }, { name := "DIRECTIONALITY_WHITESPACE", type := .byte, accessFlags := 25, slot := 49, constantValue := 0 }, { name := "DIRECTIONALITY_OTHER_NEUTRALS", type := .byte, accessFlags := 25, slot := 50, constantValue := 0 }, { name := "DIRECTIONALITY_LEFT_TO_RIGHT_EMBEDDING", type := .byte, accessFlags := 25, slot := 51, constantValue := 0 }, { name := "DIRECTIONALITY_LEFT_TO_RIGHT_OVERRIDE", type := .byte, accessFlags := 25, slot := 52, constantValue := 0 }, { name := "DIRECTIONALITY_RIGHT_TO_LEFT_EMBEDDING", type := .byte, accessFlags := 25, slot := 53, constantValue := 0 }, { name := "DIRECTIONALITY_RIGHT_TO_LEFT_OVERRIDE", type := .byte, accessFlags := 25, slot := 54, constantValue := 0 }, { name := "DIRECTIONALITY_POP_DIRECTIONAL_FORMAT", type := .byte, accessFlags := 25, slot := 55, constantValue := 0 }, { name := "DIRECTIONALITY_LEFT_TO_RIGHT_ISOLATE", type := .byte, accessFlags := 25, slot := 56, constantValue := 0 }, { name := "DIRECTIONALITY_RIGHT_TO_LEFT_ISOLATE", type := .byte, accessFlags := 25, slot := 57, constantValue := 0 }, { name := "DIRECTIONALITY_FIRST_STRONG_ISOLATE", type := .byte, accessFlags := 25, slot := 58, constantValue := 0 }, { name := "DIRECTIONALITY_POP_DIRECTIONAL_ISOLATE", type := .byte, accessFlags := 25, slot := 59, constantValue := 0 }, { name := "MIN_HIGH_SURROGATE", type := .char, accessFlags := 25, slot := 60, constantValue := 0 }, { name := "MAX_HIGH_SURROGATE", type := .char, accessFlags := 25, slot := 61, constantValue := 0 }, { name := "MIN_LOW_SURROGATE", type := .char, accessFlags := 25, slot := 62, constantValue := 0 }, { name := "MAX_LOW_SURROGATE", type := .char, accessFlags := 25, slot := 63, constantValue := 0 }, { name := "MIN_SURROGATE", type := .char, accessFlags := 25, slot := 64, constantValue := 0 }, { name := "MAX_SURROGATE", type := .char, accessFlags := 25, slot := 65, constantValue := 0 }, { name := "MIN_SUPPLEMENTARY_CODE_POINT", type := .int, accessFlags := 25, slot := 66, constantValue := 0 }, { name := "MIN_CODE_POINT", type := .int, accessFlags := 25, slot := 67, constantValue := 0 }, { name := "MAX_CODE_POINT", type := .int, accessFlags := 25, slot := 68, constantValue := 0 }, { name := "value", type := .char, accessFlags := 18, slot := 0, constantValue := 0 }, { name := "serialVersionUID", type := .long, accessFlags := 26, slot := 69, constantValue := 0 }, { name := "SIZE", type := .int, accessFlags := 25, slot := 70, constantValue := 0 }, { name := "BYTES", type := .int, accessFlags := 25, slot := 71, constantValue := 0 }, { name := "$assertionsDisabled", type := .boolean, accessFlags := 4120, slot := 72, constantValue := 0 }]
  methods := #[k13m0, k13m1, k13m2]
  instanceTypes := #[.char]
  staticTypes := #[.int, .int, .char, .char, (.object "java/lang/Class"), .byte, .byte, .byte, .byte, .byte, .byte, .byte, .byte, .byte, .byte, .byte, .byte, .byte, .byte, .byte, .byte, .byte, .byte, .byte, .byte, .byte, .byte, .byte, .byte, .byte, .byte, .byte, .byte, .byte, .byte, .int, .byte, .byte, .byte, .byte, .byte, .byte, .byte, .byte, .byte, .byte, .byte, .byte, .byte, .byte, .byte, .byte, .byte, .byte, .byte, .byte, .byte, .byte, .byte, .byte, .char, .char, .char, .char, .char, .char, .int, .int, .int, .long, .int, .int, .boolean]
  resolved := Array.replicate 604 none
  statics := none }

def pool14 : Array CpInfo := pool [(9, u "<init>"), (6, .class_ 18), (1, u "java/lang/Object"), (0, u "()V"), (1, .class_ 23), (1, u "jdk/internal/util/ArraysSupport"), (0, u "LOG2_ARRAY_LONG_INDEX_SCALE"), (0, u "I"), (2, u "U"), (0, u "Ljdk/internal/misc/Unsafe;"), (8, u "BIG_ENDIAN"), (0, u "Z"), (8, u "LOG2_BYTE_BIT_SIZE"), (4, u "LOG2_ARRAY_INT_INDEX_SCALE"), (54, u "JLA"), (0, u "Ljdk/internal/access/JavaLangAccess;"), (11, u "LOG2_ARRAY_BOOLEAN_INDEX_SCALE"), (9, u "LOG2_ARRAY_BYTE_INDEX_SCALE"), (5, u "LOG2_ARRAY_CHAR_INDEX_SCALE"), (5, u "LOG2_ARRAY_SHORT_INDEX_SCALE"), (18, u "LOG2_ARRAY_FLOAT_INDEX_SCALE"), (24, u "LOG2_ARRAY_DOUBLE_INDEX_SCALE"), (89, u "T_BOOLEAN"), (2, u "T_CHAR"), (1, u "T_FLOAT"), (1, u "T_DOUBLE"), (1, u "T_BYTE"), (1, u "T_SHORT"), (1, u "T_INT"), (1, u "T_LONG"), (1, u "SOFT_MAX_ARRAY_LENGTH")] 83

def k14m0 : Method := { name := "<init>", desc := "()V", sig := { parameters := [], returnType := none }, accessFlags := 2, code := none }
/-- jdk/internal/util/ArraysSupport -/
def k14 : Class := { plain "jdk/internal/util/ArraysSupport" (some 0) with
  accessFlags := 33
  interfaces := #[]
  cf := some (fileOf pool14 21 #[] #[{ accessFlags := 2, nameIndex := 9, descriptorIndex := 19, attributes := #[] }] 33 16 #[] #[{ accessFlags := 24, nameIndex := 28, descriptorIndex := 29, attributes := #[] }, { accessFlags := 26, nameIndex := 38, descriptorIndex := 39, attributes := #[] }, { accessFlags := 25, nameIndex := 121, descriptorIndex := 25, attributes := #[] }, { accessFlags := 25, nameIndex := 131, descriptorIndex := 25, attributes := #[] }, { accessFlags := 25, nameIndex := 137, descriptorIndex := 25, attributes := #[] }, { accessFlags := 25, nameIndex := 143, descriptorIndex := 25, attributes := #[] }, { accessFlags := 25, nameIndex := 53, descriptorIndex := 25, attributes := #[] }, { accessFlags := 25, nameIndex := 24, descriptorIndex := 25, attributes := #[] }, { accessFlags := 25, nameIndex := 162, descriptorIndex := 25, attributes := #[] }, { accessFlags := 25, nameIndex := 187, descriptorIndex := 25, attributes := #[] }, { accessFlags := 26, nameIndex := 48, descriptorIndex := 25, attributes := #[] }, { accessFlags := 25, nameIndex := 277, descriptorIndex := 25, attributes := #[] }, { accessFlags := 25, nameIndex := 280, descriptorIndex := 25, attributes := #[] }, { accessFlags := 25, nameIndex := 282, descriptorIndex := 25, attributes := #[] }, { accessFlags := 25, nameIndex := 284, descriptorIndex := 25, attributes := #[] }, { accessFlags := 25, nameIndex := 286, descriptorIndex := 25, attributes := #[] }, { accessFlags := 25, nameIndex := 288, descriptorIndex := 25, attributes := #[] }, { accessFlags := 25, nameIndex := 290, descriptorIndex := 25, attributes := #[] }, { accessFlags := 25, nameIndex := 292, descriptorIndex := 25, attributes := #[] }, { accessFlags := 26, nameIndex := 108, descriptorIndex := 109, attributes := #[] }, { accessFlags := 25, nameIndex := 294, descriptorIndex := 25, attributes := #[] }])
  fields := #[{ name := "U", type := (.object "jdk/internal/misc/Unsafe"), accessFlags := 24, slot := 0, constantValue := 0 }, { name := "BIG_ENDIAN", type := .boolean, accessFlags := 26, slot := 1, constantValue := 0 }, { name := "LOG2_ARRAY_BOOLEAN_INDEX_SCALE", type := .int, accessFlags := 25, slot := 2, constantValue := 0 }, { name := "LOG2_ARRAY_BYTE_INDEX_SCALE", type := .int, accessFlags := 25, slot := 3, constantValue := 0 }, { name := "LOG2_ARRAY_CHAR_INDEX_SCALE", type := .int, accessFlags := 25, slot := 4, constantValue := 0 }, { name := "LOG2_ARRAY_SHORT_INDEX_SCALE", type := .int, accessFlags := 25, slot := 5, constantValue := 0 }, { name := "LOG2_ARRAY_INT_INDEX_SCALE", type := .int, accessFlags := 25, slot := 6, constantValue := 0 }, { name := "LOG2_ARRAY_LONG_INDEX_SCALE", type := .int, accessFlags := 25, slot := 7, constantValue := 0 }, { name := "LOG2_ARRAY_FLOAT_INDEX_SCALE", type := .int, accessFlags := 25, slot := 8, constantValue := 0 }, { name := "LOG2_ARRAY_DOUBLE_INDEX_SCALE", type := .int, accessFlags := 25, slot := 9, constantValue := 0 }, { name := "LOG2_BYTE_BIT_SIZE", type := .int, accessFlags := 26, slot := 10, constantValue := 0 }, { name := "T_BOOLEAN", type := .int, accessFlags := 25, slot := 11, constantValue := 0 }, { name := "T_CHAR", type := .int, accessFlags := 25, slot := 12, constantValue := 0 }, { name := "T_FLOAT", type := .int, accessFlags := 25, slot := 13, constantValue := 0 }, { name := "T_DOUBLE", type := .int, accessFlags := 25, slot := 14, constantValue := 0 }, { name := "T_BYTE", type := .int, accessFlags := 25, slot := 15, constantValue := 0 }, { name := "T_SHORT", type := .int, accessFlags := 25, slot := 16, constantValue := 0 }, { name := "T_INT", type := .int, accessFlags := 25, slot := 17, constantValue := 0 }, { name := "T_LONG", type := .int, accessFlags := 25, slot := 18, constantValue := 0 }, { name := "JLA", type := (.object "jdk/internal/access/JavaLangAccess"), accessFlags := 26, slot := 19, constantValue := 0 }, { name := "SOFT_MAX_ARRAY_LENGTH", type := .int, accessFlags := 25, slot := 20, constantValue := 0 }]
  methods := #[k14m0]
  instanceTypes := #[]
  staticTypes := #[(.object "jdk/internal/misc/Unsafe"), .boolean, .int, .int, .int, .int, .int, .int, .int, .int, .int, .int, .int, .int, .int, .int, .int, .int, .int, (.object "jdk/internal/access/JavaLangAccess"), .int]
  resolved := Array.replicate 378 none
  statics := none }

def pool15 : Array CpInfo := pool [(1, u "java/lang/Cloneable"), (0, .class_ 1), (0, u "java/lang/Object"), (0, .class_ 3)] 3

/-- java/lang/Cloneable -/
def k15 : Class := { plain "java/lang/Cloneable" (some 0) with
  accessFlags := 1537
  interfaces := #[]
  cf := some (fileOf pool15 2 #[] #[] 1537 4 #[] #[])
  fields := #[]
  methods := #[]
  instanceTypes := #[]
  staticTypes := #[]
  resolved := Array.replicate 8 none
  statics := none }

/-- the primitive byte -/
def k16 : Class := { plain "byte" none with kind := .primitive 'B', accessFlags := 0x411 }
/-- [B -/
def k17 : Class := { plain "[B" (some 0) with kind := .array 16 .byte, interfaces := #[15, 2], accessFlags := 1041 }

/-- the primitive char -/
def k18 : Class := { plain "char" none with kind := .primitive 'C', accessFlags := 0x411 }
/-- [C -/
def k19 : Class := { plain "[C" (some 0) with kind := .array 18 .char, interfaces := #[15, 2], accessFlags := 1041 }

/-- the primitive int -/
def k20 : Class := { plain "int" none with kind := .primitive 'I', accessFlags := 0x411 }
/-- [I -/
def k21 : Class := { plain "[I" (some 0) with kind := .array 20 .int, interfaces := #[15, 2], accessFlags := 1041 }

def heap : Heap := #[{ cls := 7, slots := #[.long 0, .int 1, .null, .int 0, .null, .int 0, .int 0], vm := .statics 7 },
  { cls := 11, slots := #[.int 0, .int 8, .int 0, .int 1], vm := .statics 11 },
  { cls := 12, slots := #[.null, .null, .null], vm := .statics 12 }]
def classes : Array Class := #[k0, k1, k2, k3, k4, k5, k6, k7, k8, k9, k10, k11, k12, k13, k14, k15, k16, k17, k18, k19, k20, k21]
def interned : List (Array UInt16 × Addr) := []
def slotsUsed : Nat := 14
def theMethod : MethodId := ⟨1, 5⟩
def args0 : Array Value := #[.int 1, .int 2, .int 3, .int 4, .int 5]
def aboutOver (below : List Frame) : State where
  vm := { classes := classes, interned := interned.toArray }
  heap := heap
  slotsUsed := slotsUsed
  threads := #[{ frames := .invoking theMethod args0 :: below }]
def below0 : List Frame := [.native { method := ⟨0, 0⟩, args := #[] }]
def about1 : State := aboutOver below0
def p0 : Program := .bare "" "" ""
def e0 : Env := launch0.env 0 0 0
theorem w_frames : about1.frames = Frame.invoking theMethod args0 :: below0 := rfl
set_option maxRecDepth 65536 in
theorem w_args : argsFit about1.vm theMethod args0 = true := by decide +kernel
set_option maxRecDepth 65536 in
theorem w_heap : heapFits about1 = true := by decide +kernel
set_option maxRecDepth 65536 in
theorem w_runnable : about1.curStatus? = some .runnable := by decide +kernel
set_option maxRecDepth 65536 in
theorem w_alone : about1.alone = true := by decide +kernel
set_option maxRecDepth 65536 in
theorem w_named : about1.methodNamed? x = some theMethod := by decide +kernel
set_option maxRecDepth 65536 in
theorem w_hears : about1.hears theMethod below0 = true := by decide +kernel
set_option maxRecDepth 65536 in
theorem w_ripe : about1.ripe theMethod args0 below0 = true := by decide +kernel
theorem w_running : about1.status = .running := rfl
set_option maxRecDepth 65536 in
theorem w_room : about1.hasRoom e0.platform room_1 = true :=
  launch0.hasRoom_least _ room_1 (by decide +kernel) (by decide +kernel) (by decide +kernel) (by decide +kernel) (by decide +kernel) (by decide +kernel)
theorem allAtoms_all (ts : List Jvm.Cond) (a : Array Jvm.Value) (st : Jvm.State) : (allAtoms ts).before a st = ts.all (fun c => c.before a st) := by
  induction ts with
  | nil => rfl
  | cons c t ih =>
    show (Jvm.Cond.and c (allAtoms t)).before a st = _
    rw [Jvm.Cond.before_and, ih, List.all_cons]
def words1 : List Jvm.Cond := Jvm.Cond.code x code maxLocals ret :: tables_1
/-- a 'code' word, met by the world's own term for the bytes: nothing is compared byte by byte -/
theorem code_word {y : MethodName} {bytes : ByteArray} {mx : Nat} {rt : Option FieldType} {a : Array Value} {s : State} {m : MethodId} {meth : Method} {c : Code} (h1 : s.methodNamed? y = some m) (h2 : s.vm.method? m = some meth) (h3 : meth.code = some c) (h4 : c.code = bytes)
    (h5 : (c.maxLocals == mx && c.exceptionTable.isEmpty && decide (c.maxStack ≤ mostOperands) && decide (meth.sig.returnType = rt) && !meth.locks && decide (parseMethodDescriptor y.desc = some meth.sig)) = true) : (Jvm.Cond.code y bytes mx rt).before a s = true := by
  simp only [Bool.and_eq_true, beq_iff_eq, Bool.not_eq_true', decide_eq_true_eq] at h5
  obtain ⟨⟨⟨⟨⟨g1, g2⟩, g3⟩, g4⟩, g5⟩, g6⟩ := h5
  simp [Cond.before, Cond.holds, Cond.value, h1, h2, h3, h4, g1, g2, g3, g4, g5, g6]
def isCode : Jvm.Cond → Bool
  | .code _ _ _ _ => true
  | _ => false
theorem all_split {L : List Jvm.Cond} {P : Jvm.Cond → Bool} (h1 : L.all (fun c => isCode c || P c) = true) (h2 : ∀ c ∈ L.filter isCode, P c = true) : L.all P = true := by
  refine List.all_eq_true.mpr fun c hc => ?_
  have h := List.all_eq_true.mp h1 c hc
  rcases Bool.eq_false_or_eq_true (isCode c) with hi | hi
  · exact h2 c (List.mem_filter.mpr ⟨hc, hi⟩)
  · simpa [hi] using h
set_option maxRecDepth 65536 in
theorem w_c0 : (Jvm.Cond.code x code maxLocals ret).before args0 about1 = true := code_word (m := ⟨1, 5⟩) (meth := k1m5) (c := k1c5) (by decide +kernel) rfl rfl rfl (by decide +kernel)
set_option maxRecDepth 65536 in
theorem w_c1 : (Jvm.Cond.code ({ cls := "com/example/circa_once/circaonce/model/StorableTextRequirePinLaw", name := "draw", desc := "(I)C" } : Jvm.MethodName) method_2_code (1 : Nat) (Option.some Jvm.ClassFile.FieldType.char)).before args0 about1 = true := code_word (m := ⟨1, 1⟩) (meth := k1m1) (c := k1c1) (by decide +kernel) rfl rfl rfl (by decide +kernel)
set_option maxRecDepth 65536 in
theorem w_c2 : (Jvm.Cond.code ({ cls := "com/example/circa_once/circaonce/model/StorableTextRequirePinLaw", name := "fits", desc := "([CI)Z" } : Jvm.MethodName) method_5_code (4 : Nat) (Option.some Jvm.ClassFile.FieldType.boolean)).before args0 about1 = true := code_word (m := ⟨1, 4⟩) (meth := k1m4) (c := k1c4) (by decide +kernel) rfl rfl rfl (by decide +kernel)
set_option maxRecDepth 65536 in
theorem w_c3 : (Jvm.Cond.code ({ cls := "java/lang/String", name := "<init>", desc := "([C)V" } : Jvm.MethodName) jdk_42_method_3_code (2 : Nat) (Option.none : Option Jvm.ClassFile.FieldType)).before args0 about1 = true := code_word (m := ⟨7, 1⟩) (meth := k7m1) (c := k7c1) (by decide +kernel) rfl rfl rfl (by decide +kernel)
set_option maxRecDepth 65536 in
theorem w_c4 : (Jvm.Cond.code ({ cls := "java/lang/String", name := "<init>", desc := "([CIILjava/lang/Void;)V" } : Jvm.MethodName) jdk_42_method_149_code (6 : Nat) (Option.none : Option Jvm.ClassFile.FieldType)).before args0 about1 = true := code_word (m := ⟨7, 5⟩) (meth := k7m5) (c := k7c5) (by decide +kernel) rfl rfl rfl (by decide +kernel)
set_option maxRecDepth 65536 in
theorem w_c5 : (Jvm.Cond.code ({ cls := "java/lang/Object", name := "<init>", desc := "()V" } : Jvm.MethodName) object_method_1_code (1 : Nat) (Option.none : Option Jvm.ClassFile.FieldType)).before args0 about1 = true := code_word (m := ⟨0, 0⟩) (meth := k0m0) (c := k0c0) (by decide +kernel) rfl rfl rfl (by decide +kernel)
set_option maxRecDepth 65536 in
theorem w_c6 : (Jvm.Cond.code ({ cls := "java/lang/String", name := "valueOf", desc := "(C)Ljava/lang/String;" } : Jvm.MethodName) jdk_42_method_139_code (1 : Nat) (Option.some (Jvm.ClassFile.FieldType.object "java/lang/String"))).before args0 about1 = true := code_word (m := ⟨7, 4⟩) (meth := k7m4) (c := k7c4) (by decide +kernel) rfl rfl rfl (by decide +kernel)
set_option maxRecDepth 65536 in
theorem w_c7 : (Jvm.Cond.code ({ cls := "java/lang/StringLatin1", name := "canEncode", desc := "(C)Z" } : Jvm.MethodName) jdk_43_method_3_code (1 : Nat) (Option.some Jvm.ClassFile.FieldType.boolean)).before args0 about1 = true := code_word (m := ⟨8, 2⟩) (meth := k8m2) (c := k8c2) (by decide +kernel) rfl rfl rfl (by decide +kernel)
set_option maxRecDepth 65536 in
theorem w_c8 : (Jvm.Cond.code ({ cls := "java/lang/StringLatin1", name := "toBytes", desc := "(C)[B" } : Jvm.MethodName) jdk_43_method_46_code (1 : Nat) (Option.some (Jvm.ClassFile.FieldType.array Jvm.ClassFile.FieldType.byte))).before args0 about1 = true := code_word (m := ⟨8, 3⟩) (meth := k8m3) (c := k8c3) (by decide +kernel) rfl rfl rfl (by decide +kernel)
set_option maxRecDepth 65536 in
theorem w_c9 : (Jvm.Cond.code ({ cls := "java/lang/String", name := "<init>", desc := "([BB)V" } : Jvm.MethodName) jdk_42_method_151_code (3 : Nat) (Option.none : Option Jvm.ClassFile.FieldType)).before args0 about1 = true := code_word (m := ⟨7, 6⟩) (meth := k7m6) (c := k7c6) (by decide +kernel) rfl rfl rfl (by decide +kernel)
set_option maxRecDepth 65536 in
theorem w_c10 : (Jvm.Cond.code ({ cls := "com/example/circa_once/circaonce/model/StorableText", name := "require", desc := "(Ljava/lang/String;Ljava/lang/String;)Ljava/lang/String;" } : Jvm.MethodName) prog_15_method_2_code (6 : Nat) (Option.some (Jvm.ClassFile.FieldType.object "java/lang/String"))).before args0 about1 = true := code_word (m := ⟨9, 1⟩) (meth := k9m1) (c := k9c1) (by decide +kernel) rfl rfl rfl (by decide +kernel)
set_option maxRecDepth 65536 in
theorem w_c11 : (Jvm.Cond.code ({ cls := "java/util/Objects", name := "requireNonNull", desc := "(Ljava/lang/Object;Ljava/lang/String;)Ljava/lang/Object;" } : Jvm.MethodName) jdk_31_method_11_code (2 : Nat) (Option.some (Jvm.ClassFile.FieldType.object "java/lang/Object"))).before args0 about1 = true := code_word (m := ⟨10, 1⟩) (meth := k10m1) (c := k10c1) (by decide +kernel) rfl rfl rfl (by decide +kernel)
set_option maxRecDepth 65536 in
theorem w_c12 : (Jvm.Cond.code ({ cls := "java/lang/String", name := "length", desc := "()I" } : Jvm.MethodName) jdk_42_method_54_code (1 : Nat) (Option.some Jvm.ClassFile.FieldType.int)).before args0 about1 = true := code_word (m := ⟨7, 2⟩) (meth := k7m2) (c := k7c2) (by decide +kernel) rfl rfl rfl (by decide +kernel)
set_option maxRecDepth 65536 in
theorem w_c13 : (Jvm.Cond.code ({ cls := "java/lang/String", name := "coder", desc := "()B" } : Jvm.MethodName) jdk_42_method_152_code (1 : Nat) (Option.some Jvm.ClassFile.FieldType.byte)).before args0 about1 = true := code_word (m := ⟨7, 7⟩) (meth := k7m7) (c := k7c7) (by decide +kernel) rfl rfl rfl (by decide +kernel)
set_option maxRecDepth 65536 in
theorem w_c14 : (Jvm.Cond.code ({ cls := "com/example/circa_once/circaonce/model/StorableTextRequirePinLaw", name := "isHigh", desc := "(C)Z" } : Jvm.MethodName) method_3_code (1 : Nat) (Option.some Jvm.ClassFile.FieldType.boolean)).before args0 about1 = true := code_word (m := ⟨1, 2⟩) (meth := k1m2) (c := k1c2) (by decide +kernel) rfl rfl rfl (by decide +kernel)
set_option maxRecDepth 65536 in
theorem w_c15 : (Jvm.Cond.code ({ cls := "com/example/circa_once/circaonce/model/StorableTextRequirePinLaw", name := "isLow", desc := "(C)Z" } : Jvm.MethodName) method_4_code (1 : Nat) (Option.some Jvm.ClassFile.FieldType.boolean)).before args0 about1 = true := code_word (m := ⟨1, 3⟩) (meth := k1m3) (c := k1c3) (by decide +kernel) rfl rfl rfl (by decide +kernel)
set_option maxRecDepth 65536 in
theorem w_c16 : (Jvm.Cond.code ({ cls := "java/lang/StringUTF16", name := "compress", desc := "([CII)[B" } : Jvm.MethodName) jdk_52_method_16_code (6 : Nat) (Option.some (Jvm.ClassFile.FieldType.array Jvm.ClassFile.FieldType.byte))).before args0 about1 = true := code_word (m := ⟨11, 8⟩) (meth := k11m8) (c := k11c8) (by decide +kernel) rfl rfl rfl (by decide +kernel)
set_option maxRecDepth 65536 in
theorem w_c17 : (Jvm.Cond.code ({ cls := "java/lang/StringUTF16", name := "compress", desc := "([CI[BII)I" } : Jvm.MethodName) jdk_52_method_21_code (7 : Nat) (Option.some Jvm.ClassFile.FieldType.int)).before args0 about1 = true := code_word (m := ⟨11, 9⟩) (meth := k11m9) (c := k11c9) (by decide +kernel) rfl rfl rfl (by decide +kernel)
set_option maxRecDepth 65536 in
theorem w_c18 : (Jvm.Cond.code ({ cls := "java/lang/StringUTF16", name := "coderFromArrayLen", desc := "([BI)B" } : Jvm.MethodName) jdk_52_method_15_code (2 : Nat) (Option.some Jvm.ClassFile.FieldType.byte)).before args0 about1 = true := code_word (m := ⟨11, 7⟩) (meth := k11m7) (c := k11c7) (by decide +kernel) rfl rfl rfl (by decide +kernel)
set_option maxRecDepth 65536 in
theorem w_c19 : (Jvm.Cond.code ({ cls := "java/lang/String", name := "charAt", desc := "(I)C" } : Jvm.MethodName) jdk_42_method_56_code (2 : Nat) (Option.some Jvm.ClassFile.FieldType.char)).before args0 about1 = true := code_word (m := ⟨7, 3⟩) (meth := k7m3) (c := k7c3) (by decide +kernel) rfl rfl rfl (by decide +kernel)
set_option maxRecDepth 65536 in
theorem w_c20 : (Jvm.Cond.code ({ cls := "java/lang/String", name := "isLatin1", desc := "()Z" } : Jvm.MethodName) jdk_42_method_154_code (1 : Nat) (Option.some Jvm.ClassFile.FieldType.boolean)).before args0 about1 = true := code_word (m := ⟨7, 8⟩) (meth := k7m8) (c := k7c8) (by decide +kernel) rfl rfl rfl (by decide +kernel)
set_option maxRecDepth 65536 in
theorem w_c21 : (Jvm.Cond.code ({ cls := "java/lang/StringLatin1", name := "charAt", desc := "([BI)C" } : Jvm.MethodName) jdk_43_method_2_code (2 : Nat) (Option.some Jvm.ClassFile.FieldType.char)).before args0 about1 = true := code_word (m := ⟨8, 1⟩) (meth := k8m1) (c := k8c1) (by decide +kernel) rfl rfl rfl (by decide +kernel)
set_option maxRecDepth 65536 in
theorem w_c22 : (Jvm.Cond.code ({ cls := "java/lang/String", name := "checkIndex", desc := "(II)V" } : Jvm.MethodName) jdk_42_method_155_code (2 : Nat) (Option.none : Option Jvm.ClassFile.FieldType)).before args0 about1 = true := code_word (m := ⟨7, 9⟩) (meth := k7m9) (c := k7c9) (by decide +kernel) rfl rfl rfl (by decide +kernel)
set_option maxRecDepth 65536 in
theorem w_c23 : (Jvm.Cond.code ({ cls := "jdk/internal/util/Preconditions", name := "checkIndex", desc := "(IILjava/util/function/BiFunction;)I" } : Jvm.MethodName) jdk_41_method_11_code (3 : Nat) (Option.some Jvm.ClassFile.FieldType.int)).before args0 about1 = true := code_word (m := ⟨12, 1⟩) (meth := k12m1) (c := k12c1) (by decide +kernel) rfl rfl rfl (by decide +kernel)
set_option maxRecDepth 65536 in
theorem w_c24 : (Jvm.Cond.code ({ cls := "java/lang/Character", name := "isSurrogate", desc := "(C)Z" } : Jvm.MethodName) jdk_89_method_16_code (1 : Nat) (Option.some Jvm.ClassFile.FieldType.boolean)).before args0 about1 = true := code_word (m := ⟨13, 2⟩) (meth := k13m2) (c := k13c2) (by decide +kernel) rfl rfl rfl (by decide +kernel)
set_option maxRecDepth 65536 in
theorem w_c25 : (Jvm.Cond.code ({ cls := "java/lang/StringUTF16", name := "toBytes", desc := "([CII)[B" } : Jvm.MethodName) jdk_52_method_14_code (5 : Nat) (Option.some (Jvm.ClassFile.FieldType.array Jvm.ClassFile.FieldType.byte))).before args0 about1 = true := code_word (m := ⟨11, 6⟩) (meth := k11m6) (c := k11c6) (by decide +kernel) rfl rfl rfl (by decide +kernel)
set_option maxRecDepth 65536 in
theorem w_c26 : (Jvm.Cond.code ({ cls := "java/lang/StringUTF16", name := "newBytesFor", desc := "(I)[B" } : Jvm.MethodName) jdk_52_method_2_code (1 : Nat) (Option.some (Jvm.ClassFile.FieldType.array Jvm.ClassFile.FieldType.byte))).before args0 about1 = true := code_word (m := ⟨11, 1⟩) (meth := k11m1) (c := k11c1) (by decide +kernel) rfl rfl rfl (by decide +kernel)
set_option maxRecDepth 65536 in
theorem w_c27 : (Jvm.Cond.code ({ cls := "java/lang/StringUTF16", name := "newBytesLength", desc := "(I)I" } : Jvm.MethodName) jdk_52_method_3_code (1 : Nat) (Option.some Jvm.ClassFile.FieldType.int)).before args0 about1 = true := code_word (m := ⟨11, 2⟩) (meth := k11m2) (c := k11c2) (by decide +kernel) rfl rfl rfl (by decide +kernel)
set_option maxRecDepth 65536 in
theorem w_c28 : (Jvm.Cond.code ({ cls := "java/lang/StringUTF16", name := "putChar", desc := "([BII)V" } : Jvm.MethodName) jdk_52_method_4_code (3 : Nat) (Option.none : Option Jvm.ClassFile.FieldType)).before args0 about1 = true := code_word (m := ⟨11, 3⟩) (meth := k11m3) (c := k11c3) (by decide +kernel) rfl rfl rfl (by decide +kernel)
set_option maxRecDepth 65536 in
theorem w_c29 : (Jvm.Cond.code ({ cls := "java/lang/StringUTF16", name := "getChar", desc := "([BI)C" } : Jvm.MethodName) jdk_52_method_5_code (2 : Nat) (Option.some Jvm.ClassFile.FieldType.char)).before args0 about1 = true := code_word (m := ⟨11, 4⟩) (meth := k11m4) (c := k11c4) (by decide +kernel) rfl rfl rfl (by decide +kernel)
set_option maxRecDepth 65536 in
theorem w_c30 : (Jvm.Cond.code ({ cls := "java/lang/StringUTF16", name := "charAt", desc := "([BI)C" } : Jvm.MethodName) jdk_52_method_83_code (2 : Nat) (Option.some Jvm.ClassFile.FieldType.char)).before args0 about1 = true := code_word (m := ⟨11, 10⟩) (meth := k11m10) (c := k11c10) (by decide +kernel) rfl rfl rfl (by decide +kernel)
set_option maxRecDepth 65536 in
theorem w_c31 : (Jvm.Cond.code ({ cls := "java/lang/StringUTF16", name := "checkIndex", desc := "(I[B)V" } : Jvm.MethodName) jdk_52_method_91_code (2 : Nat) (Option.none : Option Jvm.ClassFile.FieldType)).before args0 about1 = true := code_word (m := ⟨11, 11⟩) (meth := k11m11) (c := k11c11) (by decide +kernel) rfl rfl rfl (by decide +kernel)
set_option maxRecDepth 65536 in
theorem w_c32 : (Jvm.Cond.code ({ cls := "java/lang/StringUTF16", name := "length", desc := "([B)I" } : Jvm.MethodName) jdk_52_method_6_code (1 : Nat) (Option.some Jvm.ClassFile.FieldType.int)).before args0 about1 = true := code_word (m := ⟨11, 5⟩) (meth := k11m5) (c := k11c5) (by decide +kernel) rfl rfl rfl (by decide +kernel)
set_option maxRecDepth 65536 in
theorem w_c33 : (Jvm.Cond.code ({ cls := "java/lang/Character", name := "isHighSurrogate", desc := "(C)Z" } : Jvm.MethodName) jdk_89_method_14_code (1 : Nat) (Option.some Jvm.ClassFile.FieldType.boolean)).before args0 about1 = true := code_word (m := ⟨13, 0⟩) (meth := k13m0) (c := k13c0) (by decide +kernel) rfl rfl rfl (by decide +kernel)
set_option maxRecDepth 65536 in
theorem w_c34 : (Jvm.Cond.code ({ cls := "java/lang/Character", name := "isLowSurrogate", desc := "(C)Z" } : Jvm.MethodName) jdk_89_method_15_code (1 : Nat) (Option.some Jvm.ClassFile.FieldType.boolean)).before args0 about1 = true := code_word (m := ⟨13, 1⟩) (meth := k13m1) (c := k13c1) (by decide +kernel) rfl rfl rfl (by decide +kernel)
def codes1 : List Jvm.Cond := [Jvm.Cond.code x code maxLocals ret, Jvm.Cond.code ({ cls := "com/example/circa_once/circaonce/model/StorableTextRequirePinLaw", name := "draw", desc := "(I)C" } : Jvm.MethodName) method_2_code (1 : Nat) (Option.some Jvm.ClassFile.FieldType.char), Jvm.Cond.code ({ cls := "com/example/circa_once/circaonce/model/StorableTextRequirePinLaw", name := "fits", desc := "([CI)Z" } : Jvm.MethodName) method_5_code (4 : Nat) (Option.some Jvm.ClassFile.FieldType.boolean), Jvm.Cond.code ({ cls := "java/lang/String", name := "<init>", desc := "([C)V" } : Jvm.MethodName) jdk_42_method_3_code (2 : Nat) (Option.none : Option Jvm.ClassFile.FieldType), Jvm.Cond.code ({ cls := "java/lang/String", name := "<init>", desc := "([CIILjava/lang/Void;)V" } : Jvm.MethodName) jdk_42_method_149_code (6 : Nat) (Option.none : Option Jvm.ClassFile.FieldType), Jvm.Cond.code ({ cls := "java/lang/Object", name := "<init>", desc := "()V" } : Jvm.MethodName) object_method_1_code (1 : Nat) (Option.none : Option Jvm.ClassFile.FieldType), Jvm.Cond.code ({ cls := "java/lang/String", name := "valueOf", desc := "(C)Ljava/lang/String;" } : Jvm.MethodName) jdk_42_method_139_code (1 : Nat) (Option.some (Jvm.ClassFile.FieldType.object "java/lang/String")), Jvm.Cond.code ({ cls := "java/lang/StringLatin1", name := "canEncode", desc := "(C)Z" } : Jvm.MethodName) jdk_43_method_3_code (1 : Nat) (Option.some Jvm.ClassFile.FieldType.boolean), Jvm.Cond.code ({ cls := "java/lang/StringLatin1", name := "toBytes", desc := "(C)[B" } : Jvm.MethodName) jdk_43_method_46_code (1 : Nat) (Option.some (Jvm.ClassFile.FieldType.array Jvm.ClassFile.FieldType.byte)), Jvm.Cond.code ({ cls := "java/lang/String", name := "<init>", desc := "([BB)V" } : Jvm.MethodName) jdk_42_method_151_code (3 : Nat) (Option.none : Option Jvm.ClassFile.FieldType), Jvm.Cond.code ({ cls := "com/example/circa_once/circaonce/model/StorableText", name := "require", desc := "(Ljava/lang/String;Ljava/lang/String;)Ljava/lang/String;" } : Jvm.MethodName) prog_15_method_2_code (6 : Nat) (Option.some (Jvm.ClassFile.FieldType.object "java/lang/String")), Jvm.Cond.code ({ cls := "java/util/Objects", name := "requireNonNull", desc := "(Ljava/lang/Object;Ljava/lang/String;)Ljava/lang/Object;" } : Jvm.MethodName) jdk_31_method_11_code (2 : Nat) (Option.some (Jvm.ClassFile.FieldType.object "java/lang/Object")), Jvm.Cond.code ({ cls := "java/lang/String", name := "length", desc := "()I" } : Jvm.MethodName) jdk_42_method_54_code (1 : Nat) (Option.some Jvm.ClassFile.FieldType.int), Jvm.Cond.code ({ cls := "java/lang/String", name := "coder", desc := "()B" } : Jvm.MethodName) jdk_42_method_152_code (1 : Nat) (Option.some Jvm.ClassFile.FieldType.byte), Jvm.Cond.code ({ cls := "com/example/circa_once/circaonce/model/StorableTextRequirePinLaw", name := "isHigh", desc := "(C)Z" } : Jvm.MethodName) method_3_code (1 : Nat) (Option.some Jvm.ClassFile.FieldType.boolean), Jvm.Cond.code ({ cls := "com/example/circa_once/circaonce/model/StorableTextRequirePinLaw", name := "isLow", desc := "(C)Z" } : Jvm.MethodName) method_4_code (1 : Nat) (Option.some Jvm.ClassFile.FieldType.boolean), Jvm.Cond.code ({ cls := "java/lang/StringUTF16", name := "compress", desc := "([CII)[B" } : Jvm.MethodName) jdk_52_method_16_code (6 : Nat) (Option.some (Jvm.ClassFile.FieldType.array Jvm.ClassFile.FieldType.byte)), Jvm.Cond.code ({ cls := "java/lang/StringUTF16", name := "compress", desc := "([CI[BII)I" } : Jvm.MethodName) jdk_52_method_21_code (7 : Nat) (Option.some Jvm.ClassFile.FieldType.int), Jvm.Cond.code ({ cls := "java/lang/StringUTF16", name := "coderFromArrayLen", desc := "([BI)B" } : Jvm.MethodName) jdk_52_method_15_code (2 : Nat) (Option.some Jvm.ClassFile.FieldType.byte), Jvm.Cond.code ({ cls := "java/lang/String", name := "charAt", desc := "(I)C" } : Jvm.MethodName) jdk_42_method_56_code (2 : Nat) (Option.some Jvm.ClassFile.FieldType.char), Jvm.Cond.code ({ cls := "java/lang/String", name := "isLatin1", desc := "()Z" } : Jvm.MethodName) jdk_42_method_154_code (1 : Nat) (Option.some Jvm.ClassFile.FieldType.boolean), Jvm.Cond.code ({ cls := "java/lang/StringLatin1", name := "charAt", desc := "([BI)C" } : Jvm.MethodName) jdk_43_method_2_code (2 : Nat) (Option.some Jvm.ClassFile.FieldType.char), Jvm.Cond.code ({ cls := "java/lang/String", name := "checkIndex", desc := "(II)V" } : Jvm.MethodName) jdk_42_method_155_code (2 : Nat) (Option.none : Option Jvm.ClassFile.FieldType), Jvm.Cond.code ({ cls := "jdk/internal/util/Preconditions", name := "checkIndex", desc := "(IILjava/util/function/BiFunction;)I" } : Jvm.MethodName) jdk_41_method_11_code (3 : Nat) (Option.some Jvm.ClassFile.FieldType.int), Jvm.Cond.code ({ cls := "java/lang/Character", name := "isSurrogate", desc := "(C)Z" } : Jvm.MethodName) jdk_89_method_16_code (1 : Nat) (Option.some Jvm.ClassFile.FieldType.boolean), Jvm.Cond.code ({ cls := "java/lang/StringUTF16", name := "toBytes", desc := "([CII)[B" } : Jvm.MethodName) jdk_52_method_14_code (5 : Nat) (Option.some (Jvm.ClassFile.FieldType.array Jvm.ClassFile.FieldType.byte)), Jvm.Cond.code ({ cls := "java/lang/StringUTF16", name := "newBytesFor", desc := "(I)[B" } : Jvm.MethodName) jdk_52_method_2_code (1 : Nat) (Option.some (Jvm.ClassFile.FieldType.array Jvm.ClassFile.FieldType.byte)), Jvm.Cond.code ({ cls := "java/lang/StringUTF16", name := "newBytesLength", desc := "(I)I" } : Jvm.MethodName) jdk_52_method_3_code (1 : Nat) (Option.some Jvm.ClassFile.FieldType.int), Jvm.Cond.code ({ cls := "java/lang/StringUTF16", name := "putChar", desc := "([BII)V" } : Jvm.MethodName) jdk_52_method_4_code (3 : Nat) (Option.none : Option Jvm.ClassFile.FieldType), Jvm.Cond.code ({ cls := "java/lang/StringUTF16", name := "getChar", desc := "([BI)C" } : Jvm.MethodName) jdk_52_method_5_code (2 : Nat) (Option.some Jvm.ClassFile.FieldType.char), Jvm.Cond.code ({ cls := "java/lang/StringUTF16", name := "charAt", desc := "([BI)C" } : Jvm.MethodName) jdk_52_method_83_code (2 : Nat) (Option.some Jvm.ClassFile.FieldType.char), Jvm.Cond.code ({ cls := "java/lang/StringUTF16", name := "checkIndex", desc := "(I[B)V" } : Jvm.MethodName) jdk_52_method_91_code (2 : Nat) (Option.none : Option Jvm.ClassFile.FieldType), Jvm.Cond.code ({ cls := "java/lang/StringUTF16", name := "length", desc := "([B)I" } : Jvm.MethodName) jdk_52_method_6_code (1 : Nat) (Option.some Jvm.ClassFile.FieldType.int), Jvm.Cond.code ({ cls := "java/lang/Character", name := "isHighSurrogate", desc := "(C)Z" } : Jvm.MethodName) jdk_89_method_14_code (1 : Nat) (Option.some Jvm.ClassFile.FieldType.boolean), Jvm.Cond.code ({ cls := "java/lang/Character", name := "isLowSurrogate", desc := "(C)Z" } : Jvm.MethodName) jdk_89_method_15_code (1 : Nat) (Option.some Jvm.ClassFile.FieldType.boolean)]
set_option maxRecDepth 65536 in
theorem codes_eq : words1.filter isCode = codes1 := rfl
theorem w_codes : ∀ c ∈ words1.filter isCode, c.before args0 about1 = true := by
  rw [codes_eq]
  intro c hc
  simp only [codes1, List.mem_cons, List.not_mem_nil, or_false] at hc
  rcases hc with rfl | rfl | rfl | rfl | rfl | rfl | rfl | rfl | rfl | rfl | rfl | rfl | rfl | rfl | rfl | rfl | rfl | rfl | rfl | rfl | rfl | rfl | rfl | rfl | rfl | rfl | rfl | rfl | rfl | rfl | rfl | rfl | rfl | rfl | rfl
  · exact w_c0
  · exact w_c1
  · exact w_c2
  · exact w_c3
  · exact w_c4
  · exact w_c5
  · exact w_c6
  · exact w_c7
  · exact w_c8
  · exact w_c9
  · exact w_c10
  · exact w_c11
  · exact w_c12
  · exact w_c13
  · exact w_c14
  · exact w_c15
  · exact w_c16
  · exact w_c17
  · exact w_c18
  · exact w_c19
  · exact w_c20
  · exact w_c21
  · exact w_c22
  · exact w_c23
  · exact w_c24
  · exact w_c25
  · exact w_c26
  · exact w_c27
  · exact w_c28
  · exact w_c29
  · exact w_c30
  · exact w_c31
  · exact w_c32
  · exact w_c33
  · exact w_c34
set_option maxRecDepth 65536 in
theorem w_t1 : (words1.take 24).all (fun c => isCode c || c.before args0 about1) = true := by decide +kernel
set_option maxRecDepth 65536 in
theorem w_t2 : ((words1.drop 24).take 24).all (fun c => isCode c || c.before args0 about1) = true := by decide +kernel
set_option maxRecDepth 65536 in
theorem w_t3 : (((words1.drop 24).drop 24).take 24).all (fun c => isCode c || c.before args0 about1) = true := by decide +kernel
set_option maxRecDepth 65536 in
theorem w_t4 : ((((words1.drop 24).drop 24).drop 24).take 24).all (fun c => isCode c || c.before args0 about1) = true := by decide +kernel
set_option maxRecDepth 65536 in
theorem w_t5 : (((((words1.drop 24).drop 24).drop 24).drop 24).take 24).all (fun c => isCode c || c.before args0 about1) = true := by decide +kernel
set_option maxRecDepth 65536 in
theorem w_t6 : ((((((words1.drop 24).drop 24).drop 24).drop 24).drop 24).take 24).all (fun c => isCode c || c.before args0 about1) = true := by decide +kernel
set_option maxRecDepth 65536 in
theorem w_t7 : ((((((words1.drop 24).drop 24).drop 24).drop 24).drop 24).drop 24).all (fun c => isCode c || c.before args0 about1) = true := by decide +kernel
theorem w_tables : (allAtoms (Jvm.Cond.code x code maxLocals ret :: tables_1)).before args0 about1 = true := by
  rw [allAtoms_all]
  show words1.all (fun c => c.before args0 about1) = true
  refine all_split ?_ w_codes
  rw [← List.take_append_drop 24 words1, List.all_append, w_t1, ← List.take_append_drop 24 (words1.drop 24), List.all_append, w_t2, ← List.take_append_drop 24 ((words1.drop 24).drop 24), List.all_append, w_t3, ← List.take_append_drop 24 (((words1.drop 24).drop 24).drop 24), List.all_append, w_t4, ← List.take_append_drop 24 ((((words1.drop 24).drop 24).drop 24).drop 24), List.all_append, w_t5, ← List.take_append_drop 24 (((((words1.drop 24).drop 24).drop 24).drop 24).drop 24), List.all_append, w_t6, w_t7]
  rfl
set_option maxRecDepth 65536 in
theorem w_rest : rest_1_c.before args0 about1 = true := by decide +kernel
set_option maxRecDepth 65536 in
theorem w_case : (Jvm.Cond.and given_1 narrow_1).before args0 about1 = true := by decide +kernel
set_option maxRecDepth 65536 in
theorem w_consts : constsHeld consts_1 about1 := Jvm.Lit.constsHeldB_iff.mp (by decide +kernel)
theorem w_applies : (headSpec (Jvm.Cond.code x code maxLocals ret :: tables_1) room_1).applies x e0.platform about1 = true :=
  (Spec.applies_iff w_frames).mpr ⟨w_running, w_runnable, w_alone, w_named, w_hears, w_ripe, w_room, w_tables⟩
theorem atStart : AtStart classFile x code maxLocals ret World_1 tables_1 room_1 Calls_1 rest_1 Pre_1 launch0 p0 e0 about1 theMethod args0 below0 :=
  ⟨lists_1, trivial, launch0.admits_env _ _ _, launch0.least_env, fairChoices_fair.cas, fairChoices_fair.clock, w_frames, w_args, w_heap, w_applies, ⟨w_consts, trivial⟩, w_rest, w_case⟩
end start1
theorem witness_1 : WitnessClaimed_1 := ⟨start1.p0, start1.e0, start1.about1, start1.theMethod, start1.args0, start1.below0, start1.atStart⟩
end Jvm.Pilot.@@N@@
