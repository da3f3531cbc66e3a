import JvmDerived
import JvmDerived.Pilot.@@N@@Statement
import JvmDerived.Pilot.@@N@@Code
set_option linter.unusedVariables false
set_option linter.unusedSimpArgs false

namespace Jvm.Pilot.@@N@@
open Jvm Jvm.ClassFile Sem Op Lib Jvm.Free Jvm.Stand Jvm.LawKit Jvm.RoadKit Bundle Jvm.Pilot.@@N@@.Jvm.D
theorem own_pre {tb : Tables} {e : Env} {below : List Frame} {A B : State} {C : State → Outcome → Prop} (k : ∀ t, Steps tb e below A t → Steps tb e below B t) (h : ∃ s₂ o, Steps tb e below A s₂ ∧ C s₂ o) : ∃ s₂ o, Steps tb e below B s₂ ∧ C s₂ o := by
  obtain ⟨s2, o, h1, h2⟩ := h
  exact ⟨s2, o, k _ h1, h2⟩
theorem own_lrem {p : Program} {l : Launch} {e : Env} {R : Room} {s : State} {m : MethodId} {args : Array Value} {below : List Frame} {meth : Method} {c : Code} {T : State} {locs : List Loc} {cells slots : Nat} {g : JFrame} {target : State} (X : Stand p l e R s m args below meth c T locs cells slots) (hx : p.tables.exec = Jvm.exec) (hg : g.method = m) {x y : Int64} {rest : List Value} (hd : decode c.code g.pc = .ok (.lrem, 1)) (hs : g.stack = .long y :: .long x :: rest) (hy : y ≠ 0)
    (hr : Steps p.tables e below (T.setTop { g with pc := g.pc + 1, stack := .long (x % y) :: rest }) target) : Steps p.tables e below (T.setTop g) target :=
  XS.lrem X.here hx hg hd hs hy (by rw [lrem_mod]; exact hr)
theorem own_w {wl : List Jvm.Cond} {a0 : Array Value} {Z : State} (h : ∀ d ∈ wl, d.before a0 Z = true) (i : Nat) {d : Jvm.Cond} (g : wl[i]? = some d) : d.before a0 Z = true := h d (List.mem_of_getElem? g)

theorem own_pd0 : parseMethodDescriptor "()V" = some ⟨[], none⟩ := by decide +kernel
theorem own_pd1 : parseMethodDescriptor "(JJ)V" = some ⟨[.long, .long], none⟩ := by decide +kernel
theorem own_pd2 : parseMethodDescriptor "()D" = some ⟨[], some .double⟩ := by decide +kernel
theorem d2_0 : decode jdk_30_method_1_code 0 = .ok (.aload_n 0, 1) := by decide +kernel
theorem d2_1 : decode jdk_30_method_1_code 1 = .ok (.invokespecial 1, 3) := by decide +kernel
theorem d2_4 : decode jdk_30_method_1_code 4 = .ok (.return_, 1) := by decide +kernel
theorem own_pn2 : plainName "java/lang/Record" = true := by first | (simp [plainName, overriddenIn]; done) | decide +kernel
theorem own_ef2 (m : MethodId) (x0 : Addr) : entryFrame m #[(.ref x0)] 1 = mkF m 0 #[.val (.ref x0)] [] := by first | (simp [entryFrame, mkF, argsToLocals, Value.category]; done) | rfl
def own_Q2 (Z : State) (ax : Addr) (h0 : Heap) (n0 : Nat) (v : Option Value) (h : Heap) (L : List Loc) : Prop := v = none ∧ Fr n0 L ∧ h = h0
set_option maxRecDepth 65536 in
set_option maxHeartbeats 40000000 in
theorem rm2 (l : Launch) (Z : State) (a0 : Array Value) (hw : ∀ d ∈ tables_1, d.before a0 Z = true) (ws : List Jvm.Cond) (ax : Addr) (h0 : Heap) (n0 : Nat) (Z0 : n0 ≤ h0.size) :
    MetFree l (⟨"java/lang/Record", "<init>", "()V"⟩ : MethodName) (head1 (Jvm.Cond.code (⟨"java/lang/Record", "<init>", "()V"⟩ : MethodName) jdk_30_method_1_code 1 none :: ws) ({ frames := 1, cells := 0, slots := 0, locals := 12 } : Room)) (fun a U => a = #[(.ref ax)] ∧ Z.Warmed39 U.vm ∧ U.heap = h0) (fun _ _ _ _ _ => True) (fun _ U o U' => ∃ v L, o = .returned v ∧ own_Q2 Z ax h0 n0 v U'.heap L ∧ FrameEnd U o U' L ({ frames := 1, cells := 0, slots := 0, locals := 12 } : Room).cells ({ frames := 1, cells := 0, slots := 0, locals := 12 } : Room).slots) := by
  refine MetFree.of_bodySF (plainFor_of_name own_pn2) hisR ?_
  intro p e s m args below meth c s₁ Bd hml0 hP hK
  obtain ⟨rfl, hZ, hh⟩ := hP
  have hx := Bd.exec
  have hby := Bd.bytes
  have hml : c.maxLocals = 1 := hml0
  have hown : s.vm.findClass "java/lang/Record" = some m.cls := findClass_of_methodNamed Bd.named
  have hnm := (name_of_methodNamed Bd.named Bd.method).1
  have X0 : Stand p l e ({ frames := 1, cells := 0, slots := 0, locals := 12 } : Room) s m #[(.ref ax)] below meth c s₁ [] 0 0 := Stand.of_body Bd
  have e0 : s₁.heap = h0 := by rw [← hh, Bd.state]; rfl
  have N0 := Fr.nil n0
  refine own_pre (A := (s₁.setTop (mkF m 0 #[.val (.ref ax)] []))) (fun t k => castTop (own_ef2 m ax) k) ?_
  refine own_pre (A := (s₁.setTop (mkF m 1 #[.val (.ref ax)] [(.ref ax)]))) ?_ ?_
  · intro t k
    show Steps p.tables e below (s₁.setTop (mkF m 0 #[.val (.ref ax)] [])) _
    refine XS.aloadN X0.here hx rfl (hb hby d2_0) rfl rfl ?_
    exact k
  obtain ⟨T1, X1, e1, st1⟩ := initO X0 hx hZ hown (own_w hw 11 rfl) (own_w hw 12 rfl) (own_w hw 13 rfl) e0 (g := (mkF m 1 #[.val (.ref ax)] [(.ref ax)])) rfl (by rw [hml]; rfl) rfl (hb hby d2_1) (by decide) (W := 0) (by show 2 * 0 + _ ≤ _; exact Nat.le_of_eq rfl) (by decide)
  refine own_pre (fun t k => st1 t k) ?_
  obtain ⟨fs, hr, hrun, hended, hW, hsame⟩ := X1.leave (hlocks := BodyLoose.notSynchronized Bd) (v := none) (fun _ => rfl)
  refine ⟨_, _, X1.returnOut hx Bd.returns (hb hby d2_4) hr, hrun, hended, _, _, rfl, ?_, ⟨_, rfl⟩, hW, hsame.mono (by decide) (by decide)⟩
  show own_Q2 Z ax h0 n0 _ T1.heap _
  rw [e1]
  exact ⟨rfl, N0, rfl⟩
theorem d1_0 : decode prog_11_method_1_code 0 = .ok (.aload_n 0, 1) := by decide +kernel
theorem d1_1 : decode prog_11_method_1_code 1 = .ok (.invokespecial 1, 3) := by decide +kernel
theorem d1_4 : decode prog_11_method_1_code 4 = .ok (.aload_n 0, 1) := by decide +kernel
theorem d1_5 : decode prog_11_method_1_code 5 = .ok (.lload_n 1, 1) := by decide +kernel
theorem d1_6 : decode prog_11_method_1_code 6 = .ok (.putfield 7, 3) := by decide +kernel
theorem d1_9 : decode prog_11_method_1_code 9 = .ok (.aload_n 0, 1) := by decide +kernel
theorem d1_10 : decode prog_11_method_1_code 10 = .ok (.lload_n 3, 1) := by decide +kernel
theorem d1_11 : decode prog_11_method_1_code 11 = .ok (.putfield 13, 3) := by decide +kernel
theorem d1_14 : decode prog_11_method_1_code 14 = .ok (.return_, 1) := by decide +kernel
theorem own_pn1 : plainName "com/example/constraint/constraint/RoundRatios$Pair" = true := by first | (simp [plainName, overriddenIn]; done) | decide +kernel
theorem own_ef1 (m : MethodId) (x0 : Addr) (x1 : Int64) (x2 : Int64) : entryFrame m #[(.ref x0), (.long x1), (.long x2)] 5 = mkF m 0 #[.val (.ref x0), .val (.long x1), .second, .val (.long x2), .second] [] := by first | (simp [entryFrame, mkF, argsToLocals, Value.category]; done) | rfl
def own_Q1 (Z : State) (ax : Addr) (qa : Int64) (qb : Int64) (h0 : Heap) (n0 : Nat) (v : Option Value) (h : Heap) (L : List Loc) : Prop := v = none ∧ Fr n0 L ∧ Keep h0 h [ax] ∧ Fld Z h ax "com/example/constraint/constraint/RoundRatios$Pair" "constraintNanos" "J" (.long qa) ∧ Fld Z h ax "com/example/constraint/constraint/RoundRatios$Pair" "peerNanos" "J" (.long qb)
set_option maxRecDepth 65536 in
set_option maxHeartbeats 40000000 in
theorem rm1 (l : Launch) (Z : State) (a0 : Array Value) (hw : ∀ d ∈ tables_1, d.before a0 Z = true) (ws : List Jvm.Cond) (ax : Addr) (qa : Int64) (qb : Int64) (h0 : Heap) (n0 : Nat) (Z0 : n0 ≤ h0.size) (Ea : Exa Z h0 ax "com/example/constraint/constraint/RoundRatios$Pair") (FconstraintNanos : Fld Z h0 ax "com/example/constraint/constraint/RoundRatios$Pair" "constraintNanos" "J" (.long (0 : Int64))) (FpeerNanos : Fld Z h0 ax "com/example/constraint/constraint/RoundRatios$Pair" "peerNanos" "J" (.long (0 : Int64))) (ga : n0 ≤ ax) :
    MetFree l (⟨"com/example/constraint/constraint/RoundRatios$Pair", "<init>", "(JJ)V"⟩ : MethodName) (head1 (Jvm.Cond.code (⟨"com/example/constraint/constraint/RoundRatios$Pair", "<init>", "(JJ)V"⟩ : MethodName) prog_11_method_1_code 5 none :: ws) ({ frames := 2, cells := 0, slots := 0, locals := 24 } : Room)) (fun a U => a = #[(.ref ax), (.long qa), (.long qb)] ∧ Z.Warmed39 U.vm ∧ U.heap = h0) (fun _ _ _ _ _ => True) (fun _ U o U' => ∃ v L, o = .returned v ∧ own_Q1 Z ax qa qb h0 n0 v U'.heap L ∧ FrameEnd U o U' L ({ frames := 2, cells := 0, slots := 0, locals := 24 } : Room).cells ({ frames := 2, cells := 0, slots := 0, locals := 24 } : Room).slots) := by
  refine MetFree.of_bodySF (plainFor_of_name own_pn1) hisR ?_
  intro p e s m args below meth c s₁ Bd hml0 hP hK
  obtain ⟨rfl, hZ, hh⟩ := hP
  have hx := Bd.exec
  have hby := Bd.bytes
  have hml : c.maxLocals = 5 := hml0
  have hown : s.vm.findClass "com/example/constraint/constraint/RoundRatios$Pair" = some m.cls := findClass_of_methodNamed Bd.named
  have hnm := (name_of_methodNamed Bd.named Bd.method).1
  have X0 : Stand p l e ({ frames := 2, cells := 0, slots := 0, locals := 24 } : Room) s m #[(.ref ax), (.long qa), (.long qb)] below meth c s₁ [] 0 0 := Stand.of_body Bd
  have e0 : s₁.heap = h0 := by rw [← hh, Bd.state]; rfl
  have N0 := Fr.nil n0
  refine own_pre (A := (s₁.setTop (mkF m 0 #[.val (.ref ax), .val (.long qa), .second, .val (.long qb), .second] []))) (fun t k => castTop (own_ef1 m ax qa qb) k) ?_
  refine own_pre (A := (s₁.setTop (mkF m 1 #[.val (.ref ax), .val (.long qa), .second, .val (.long qb), .second] [(.ref ax)]))) ?_ ?_
  · intro t k
    show Steps p.tables e below (s₁.setTop (mkF m 0 #[.val (.ref ax), .val (.long qa), .second, .val (.long qb), .second] [])) _
    refine XS.aloadN X0.here hx rfl (hb hby d1_0) rfl rfl ?_
    exact k
  obtain ⟨_, _, ⟨T2, L2, k2, n2⟩, -, X2, ⟨Lc2, hQ2, l2, y2, z2⟩, st2⟩ := X0.specialBack hx (y := (⟨"java/lang/Record", "<init>", "()V"⟩ : MethodName)) rfl hown (mvT hZ (own_w hw 6 rfl)) (mvT hZ (own_w hw 7 rfl)) (mvT hZ (own_w hw 10 rfl)) (by decide) (backOf (W := 0) (rm2 l Z a0 hw [] ax h0 n0 Z0 ) hZ (own_w hw 10 rfl) (own_w hw 9 rfl) (by decide) (by decide)) (g := (mkF m 1 #[.val (.ref ax), .val (.long qa), .second, .val (.long qb), .second] [(.ref ax)])) rfl (by rw [hml]; rfl) (Steps.refl _) (a := ax) (argsL := []) (rest := []) (lenOf own_pd0 rfl) rfl (by show 2 * 0 + _ ≤ _; exact Nat.le_of_eq rfl) (hb hby d1_1) (fun _ _ => ⟨rfl, e0, (by decide : 0 + 0 ≤ _), (by decide : 0 + 0 ≤ _)⟩)
  dsimp only [Pt.U, Pt.locs, Pt.cells, Pt.slots] at X2 l2 y2 z2 st2 hQ2
  subst l2 y2 z2
  obtain ⟨rfl, Nq2, eq2⟩ := hQ2
  have N2 := Fr.app N0 Nq2
  refine own_pre (fun t k => st2.trans k) ?_
  refine own_pre (A := (T2.setTop (mkF m 6 #[.val (.ref ax), .val (.long qa), .second, .val (.long qb), .second] [(.long qa), (.ref ax)]))) ?_ ?_
  · intro t k
    show Steps p.tables e below (T2.setTop (mkF m 4 #[.val (.ref ax), .val (.long qa), .second, .val (.long qb), .second] [])) _
    refine XS.aloadN X2.here hx rfl (hb hby d1_4) rfl rfl ?_
    refine XS.lloadN X2.here hx rfl (hb hby d1_5) rfl ?_
    exact k
  obtain ⟨T3, h3, X3, e3, W3, st3⟩ := putF X2 hx hZ hown (host := "") (Or.inl (own_w hw 14 rfl)) Via.refl eq2 FconstraintNanos Ea (Or.inr ⟨(own_w hw 15 rfl), rfl, hnm⟩) (own_w hw 1 rfl) (ty := .long) (by decide) rfl rfl (g := (mkF m 6 #[.val (.ref ax), .val (.long qa), .second, .val (.long qb), .second] [(.long qa), (.ref ax)])) rfl rfl (hb hby d1_6)
  have Ea_3 := Ea.wr W3
  have FpeerNanos_3 := FpeerNanos.other W3 (Or.inr (slot_ne (Or.inr (own_w hw 17 rfl)) (Or.inr (own_w hw 15 rfl)) (by decide) (t := .long) (t' := .long) (by decide) (by decide)))
  have Kc3 : Keep h0 h3 [ax] := (Keep.refl h0 [ax]).wr W3 (Or.inl (List.mem_of_getElem? (i := 0) rfl))
  have N3 := Fr.snoc X3 N2 ga
  have Fw3 := FconstraintNanos.same W3
  refine own_pre (fun t k => st3 t k) ?_
  refine own_pre (A := (T3.setTop (mkF m 11 #[.val (.ref ax), .val (.long qa), .second, .val (.long qb), .second] [(.long qb), (.ref ax)]))) ?_ ?_
  · intro t k
    show Steps p.tables e below (T3.setTop (mkF m 9 #[.val (.ref ax), .val (.long qa), .second, .val (.long qb), .second] [])) _
    refine XS.aloadN X3.here hx rfl (hb hby d1_9) rfl rfl ?_
    refine XS.lloadN X3.here hx rfl (hb hby d1_10) rfl ?_
    exact k
  obtain ⟨T4, h4, X4, e4, W4, st4⟩ := putF X3 hx hZ hown (host := "") (Or.inl (own_w hw 16 rfl)) Via.refl e3 FpeerNanos_3 Ea_3 (Or.inr ⟨(own_w hw 17 rfl), rfl, hnm⟩) (own_w hw 1 rfl) (ty := .long) (by decide) rfl rfl (g := (mkF m 11 #[.val (.ref ax), .val (.long qa), .second, .val (.long qb), .second] [(.long qb), (.ref ax)])) rfl rfl (hb hby d1_11)
  have Fw3_4 := Fw3.other W4 (Or.inr (slot_ne (Or.inr (own_w hw 15 rfl)) (Or.inr (own_w hw 17 rfl)) (by decide) (t := .long) (t' := .long) (by decide) (by decide)))
  have Kc4 : Keep h0 h4 [ax] := Kc3.wr W4 (Or.inl (List.mem_of_getElem? (i := 0) rfl))
  have N4 := Fr.snoc X4 N3 ga
  have Fw4 := FpeerNanos_3.same W4
  refine own_pre (fun t k => st4 t k) ?_
  obtain ⟨fs, hr, hrun, hended, hW, hsame⟩ := X4.leave (hlocks := BodyLoose.notSynchronized Bd) (v := none) (fun _ => rfl)
  refine ⟨_, _, X4.returnOut hx Bd.returns (hb hby d1_14) hr, hrun, hended, _, _, rfl, ?_, ⟨_, rfl⟩, hW, hsame.mono (by decide) (by decide)⟩
  show own_Q1 Z ax qa qb h0 n0 _ T4.heap _
  rw [e4]
  exact ⟨rfl, N4, Kc4, Fw3_4, Fw4⟩
theorem d4_0 : decode prog_11_method_2_code 0 = .ok (.aload_n 0, 1) := by decide +kernel
theorem d4_1 : decode prog_11_method_2_code 1 = .ok (.getfield 7, 3) := by decide +kernel
theorem d4_4 : decode prog_11_method_2_code 4 = .ok (.l2d, 1) := by decide +kernel
theorem d4_5 : decode prog_11_method_2_code 5 = .ok (.aload_n 0, 1) := by decide +kernel
theorem d4_6 : decode prog_11_method_2_code 6 = .ok (.getfield 13, 3) := by decide +kernel
theorem d4_9 : decode prog_11_method_2_code 9 = .ok (.l2d, 1) := by decide +kernel
theorem d4_10 : decode prog_11_method_2_code 10 = .ok (.ddiv, 1) := by decide +kernel
theorem d4_11 : decode prog_11_method_2_code 11 = .ok (.dreturn, 1) := by decide +kernel
theorem own_pn4 : plainName "com/example/constraint/constraint/RoundRatios$Pair" = true := by first | (simp [plainName, overriddenIn]; done) | decide +kernel
theorem own_ef4 (m : MethodId) (x0 : Addr) : entryFrame m #[(.ref x0)] 1 = mkF m 0 #[.val (.ref x0)] [] := by first | (simp [entryFrame, mkF, argsToLocals, Value.category]; done) | rfl
def own_Q4 (Z : State) (ax : Addr) (qa : Int64) (qb : Int64) (h0 : Heap) (n0 : Nat) (v : Option Value) (h : Heap) (L : List Loc) : Prop := Fr n0 L ∧ v = some (.double (FP.ddiv (FP.l2d qa) (FP.l2d qb))) ∧ h = h0
set_option maxRecDepth 65536 in
set_option maxHeartbeats 40000000 in
theorem rm4 (l : Launch) (Z : State) (a0 : Array Value) (hw : ∀ d ∈ tables_1, d.before a0 Z = true) (ws : List Jvm.Cond) (ax : Addr) (qa : Int64) (qb : Int64) (h0 : Heap) (n0 : Nat) (Z0 : n0 ≤ h0.size) (Fa : Fld Z h0 ax "com/example/constraint/constraint/RoundRatios$Pair" "constraintNanos" "J" (.long qa)) (Fb : Fld Z h0 ax "com/example/constraint/constraint/RoundRatios$Pair" "peerNanos" "J" (.long qb)) (hnn : Jvm.Free.Fl.NoNaN64 (FP.ddiv (FP.l2d qa) (FP.l2d qb))) :
    MetFree l (⟨"com/example/constraint/constraint/RoundRatios$Pair", "ratio", "()D"⟩ : MethodName) (head1 (Jvm.Cond.code (⟨"com/example/constraint/constraint/RoundRatios$Pair", "ratio", "()D"⟩ : MethodName) prog_11_method_2_code 1 (some .double) :: ws) ({ frames := 0, cells := 0, slots := 0, locals := 0 } : Room)) (fun a U => a = #[(.ref ax)] ∧ Z.Warmed39 U.vm ∧ U.heap = h0) (fun _ _ _ _ _ => True) (fun _ U o U' => ∃ v L, o = .returned v ∧ own_Q4 Z ax qa qb h0 n0 v U'.heap L ∧ FrameEnd U o U' L ({ frames := 0, cells := 0, slots := 0, locals := 0 } : Room).cells ({ frames := 0, cells := 0, slots := 0, locals := 0 } : Room).slots) := by
  refine MetFree.of_bodySF (plainFor_of_name own_pn4) hisR ?_
  intro p e s m args below meth c s₁ Bd hml0 hP hK
  obtain ⟨rfl, hZ, hh⟩ := hP
  have hx := Bd.exec
  have hby := Bd.bytes
  have hml : c.maxLocals = 1 := hml0
  have hown : s.vm.findClass "com/example/constraint/constraint/RoundRatios$Pair" = some m.cls := findClass_of_methodNamed Bd.named
  have hnm := (name_of_methodNamed Bd.named Bd.method).1
  have X0 : Stand p l e ({ frames := 0, cells := 0, slots := 0, locals := 0 } : Room) s m #[(.ref ax)] below meth c s₁ [] 0 0 := Stand.of_body Bd
  have e0 : s₁.heap = h0 := by rw [← hh, Bd.state]; rfl
  have N0 := Fr.nil n0
  refine own_pre (A := (s₁.setTop (mkF m 0 #[.val (.ref ax)] []))) (fun t k => castTop (own_ef4 m ax) k) ?_
  refine own_pre (A := (s₁.setTop (mkF m 1 #[.val (.ref ax)] [(.ref ax)]))) ?_ ?_
  · intro t k
    show Steps p.tables e below (s₁.setTop (mkF m 0 #[.val (.ref ax)] [])) _
    refine XS.aloadN X0.here hx rfl (hb hby d4_0) rfl rfl ?_
    exact k
  obtain ⟨T5, X5, e5, st5⟩ := getF X0 hx hZ hown (host := "") (Or.inl (own_w hw 14 rfl)) Via.refl e0 Fa (g := (mkF m 1 #[.val (.ref ax)] [(.ref ax)])) rfl rfl (hb hby d4_1)
  refine own_pre (fun t k => st5 t k) ?_
  refine own_pre (A := (T5.setTop (mkF m 6 #[.val (.ref ax)] [(.ref ax), (.double (FP.l2d qa))]))) ?_ ?_
  · intro t k
    show Steps p.tables e below (T5.setTop (mkF m 4 #[.val (.ref ax)] [(.long qa)])) _
    refine XS.l2dS X5.here hx rfl (hb hby d4_4) rfl rfl ?_
    refine XS.aloadN X5.here hx rfl (hb hby d4_5) rfl rfl ?_
    exact k
  obtain ⟨T6, X6, e6, st6⟩ := getF X5 hx hZ hown (host := "") (Or.inl (own_w hw 16 rfl)) Via.refl e5 Fb (g := (mkF m 6 #[.val (.ref ax)] [(.ref ax), (.double (FP.l2d qa))])) rfl rfl (hb hby d4_6)
  refine own_pre (fun t k => st6 t k) ?_
  refine own_pre (A := (T6.setTop (mkF m 11 #[.val (.ref ax)] [(.double (FP.ddiv (FP.l2d qa) (FP.l2d qb)))]))) ?_ ?_
  · intro t k
    show Steps p.tables e below (T6.setTop (mkF m 9 #[.val (.ref ax)] [(.long qb), (.double (FP.l2d qa))])) _
    refine XS.l2dS X6.here hx rfl (hb hby d4_9) rfl rfl ?_
    refine XS.ddivS X6.here hx rfl (hb hby d4_10) rfl hnn rfl ?_
    exact k
  obtain ⟨fs, hr, hrun, hended, hW, hsame⟩ := X6.leave (hlocks := BodyLoose.notSynchronized Bd) (v := some (.double (FP.ddiv (FP.l2d qa) (FP.l2d qb)))) (fun h => by rw [Bd.returns] at h; cases h)
  refine ⟨_, _, retOut X6 hx Bd.returns rfl (Or.inr (Or.inr (Or.inl ⟨rfl, rfl, _, rfl⟩))) (hb hby d4_11) hr, hrun, hended, _, _, rfl, ?_, ⟨_, rfl⟩, hW, hsame.mono (by decide) (by decide)⟩
  show own_Q4 Z ax qa qb h0 n0 _ T6.heap _
  rw [e6]
  exact ⟨N0, rfl, rfl⟩
theorem own_small (b : Int64) (h : -1099511627776 ≤ b.toInt ∧ b.toInt ≤ 1099511627776) : FP.Core.Small53 b := by unfold FP.Core.Small53; omega
theorem own_pow (a b c d e f : Nat) (h : a + b + c = d + e + f) : 2 ^ a * 2 ^ b * 2 ^ c = 2 ^ d * 2 ^ e * 2 ^ f := by
  rw [← Nat.pow_add, ← Nat.pow_add, ← Nat.pow_add, ← Nat.pow_add, h]
theorem own_quo {s t : Bool} {c d : Nat} {q r : Int} (hd : d ≠ 0) : FP.Core.quotient FP.Core.b64 (.fin s c q) (.fin t d r) = FP.Core.roundRatio FP.Core.b64 (s != t) c d (q - r) := if_neg hd
theorem own_q {i j : Int} {s t : Bool} {c d : Nat} {q r : Int} (hx : FP.Core.Whole i (.fin s c q)) (hy : FP.Core.Whole j (.fin t d r)) (hj : j ≠ 0) :
    FP.Core.quotient FP.Core.b64 (.fin s c q) (.fin t d r) = FP.Core.roundRatio FP.Core.b64 (s != t) i.natAbs j.natAbs 0 := by
  have hd : d ≠ 0 := fun z => hj ((FP.Core.whole_zero hy).mp z)
  have h1 := FP.Core.whole_natAbs hx
  have h2 := FP.Core.whole_natAbs hy
  have e0 : FP.Core.quotient FP.Core.b64 (.fin s c q) (.fin t d r) = FP.Core.roundRatio FP.Core.b64 (s != t) c d (q - r) := if_neg hd
  rw [e0]
  refine FP.Core.roundRatio_congr (by omega) (by omega) ?_
  have hp := own_pow (q - r - 0).toNat (-q).toNat r.toNat (0 - (q - r)).toNat q.toNat (-r).toNat (by omega)
  generalize (2 ^ (q - r - 0).toNat : Nat) = D at *
  generalize (2 ^ (0 - (q - r)).toNat : Nat) = D' at *
  have pA := Nat.two_pow_pos q.toNat
  have pB := Nat.two_pow_pos (-r).toNat
  generalize (2 ^ q.toNat : Nat) = A at *
  generalize (2 ^ (-q).toNat : Nat) = A' at *
  generalize (2 ^ r.toNat : Nat) = B at *
  generalize (2 ^ (-r).toNat : Nat) = B' at *
  refine Nat.eq_of_mul_eq_mul_right (Nat.mul_pos pA pB) ?_
  calc c * j.natAbs * D * (A * B') = (c * A) * (j.natAbs * B') * D := by ac_rfl
    _ = (i.natAbs * A') * (d * B) * D := by rw [h1, h2]
    _ = i.natAbs * d * (D * A' * B) := by ac_rfl
    _ = i.natAbs * d * (D' * A * B') := by rw [hp]
    _ = i.natAbs * d * D' * (A * B') := by ac_rfl
theorem own_l2d (a : Int64) (h : FP.Core.Small53 a) : ∃ c q, FP.Core.val64 (FP.l2d a) = .fin (decide (a.toInt < 0)) c q ∧ FP.Core.Whole a.toInt (.fin (decide (a.toInt < 0)) c q) := by
  obtain ⟨c, q, e⟩ := FP.Core.l2d_shape a
  exact ⟨c, q, e, e ▸ FP.Core.l2d_whole h⟩
theorem own_div (a b : Int64) (ha : FP.Core.Small53 a) (hb : FP.Core.Small53 b) (hb0 : ¬ b = 0) :
    FP.Core.val64 (FP.ddiv (FP.l2d a) (FP.l2d b)) = FP.Core.roundRatio FP.Core.b64 (decide (a.toInt < 0) != decide (b.toInt < 0)) a.toInt.natAbs b.toInt.natAbs 0 := by
  obtain ⟨c, q, e1, w1⟩ := own_l2d a ha
  obtain ⟨d, r, e2, w2⟩ := own_l2d b hb
  have hj : b.toInt ≠ 0 := fun z => hb0 (Int64.toInt_inj.mp z)
  rw [FP.Core.val64_ddiv, e1, e2, own_q w1 w2 hj]
theorem own_cmp0 {x y : UInt64} (h : FP.Core.order (FP.Core.val64 x) (FP.Core.val64 y) = some .eq) : cmpValue (FP.dcmp x y) .l = 0 := by
  have e : FP.dcmp x y = some .eq := h
  rw [e]; rfl
theorem own_nan {x : UInt64} (h : FP.Core.val64 x ≠ .nan) : Jvm.Free.Fl.NoNaN64 x :=
  (Jvm.Free.Fl.dcmp_some (a := x) (b := x) (o := .eq) (FP.Core.order_self h)).1
theorem own_nn (a b : Int64) (hb0 : ¬ b = 0) (hb : FP.Core.Small53 b) : Jvm.Free.Fl.NoNaN64 (FP.ddiv (FP.l2d a) (FP.l2d b)) := by
  apply own_nan
  obtain ⟨c, q, e1⟩ := FP.Core.l2d_shape a
  obtain ⟨d, r, e2, w2⟩ := own_l2d b hb
  have hd : d ≠ 0 := fun z => hb0 (Int64.toInt_inj.mp ((FP.Core.whole_zero w2).mp z))
  rw [FP.Core.val64_ddiv, e1, e2]
  show (if d = 0 then _ else FP.Core.roundRatio FP.Core.b64 _ c d (q - r)) ≠ _
  rw [if_neg hd]
  exact FP.Core.roundRatio_ne_nan _ _ _ _ _
theorem own_f0 (c : Int64) : cmpValue (FP.dcmp (FP.ddiv (FP.l2d c) (FP.l2d (1 : Int64))) (FP.l2d c)) .l = 0 := by
  apply own_cmp0
  have h1 : FP.Core.val64 (FP.l2d (1 : Int64)) = .fin false (2 ^ 52) (-((52 : Nat) : Int)) := by decide +kernel
  rw [FP.Core.val64_ddiv, h1, FP.Core.quotient_one FP.Core.good_b64 (FP.Core.val64_fits _) 52]
  obtain ⟨k, q, e⟩ := FP.Core.l2d_shape c
  exact FP.Core.order_self (by rw [e]; exact fun z => nomatch z)
theorem own_f1 (c : Int64) : cmpValue (FP.dcmp (FP.ddiv (FP.l2d c) (FP.l2d (-1 : Int64))) (FP.dneg (FP.l2d c))) .l = 0 := by
  apply own_cmp0
  have h1 : FP.Core.val64 (FP.l2d (-1 : Int64)) = .fin true (2 ^ 52) (-((52 : Nat) : Int)) := by decide +kernel
  obtain ⟨k, q, e⟩ := FP.Core.l2d_shape c
  have h2 := FP.Core.quotient_one FP.Core.good_b64 (FP.Core.val64_fits (FP.l2d c)) 52
  have h3 : FP.Core.quotient FP.Core.b64 (FP.Core.val64 (FP.l2d c)) (.fin true (2 ^ 52) (-((52 : Nat) : Int))) = FP.Core.negate (FP.Core.quotient FP.Core.b64 (FP.Core.val64 (FP.l2d c)) (.fin false (2 ^ 52) (-((52 : Nat) : Int)))) := by
    rw [e]
    rw [own_quo (by decide), own_quo (by decide), FP.Core.negate_roundRatio]
    congr 1
    cases decide (c.toInt < 0) <;> rfl
  rw [FP.Core.val64_ddiv, h1, h3, h2, FP.val64_dneg]
  exact FP.Core.order_self (by rw [e]; exact fun z => nomatch z)
theorem own_f2 (k b : Int64) (hk : -1048576 ≤ k.toInt ∧ k.toInt ≤ 1048576) (hb : (1 ≤ b.toInt ∧ b.toInt ≤ 1048576) ∨ (-1048576 ≤ b.toInt ∧ b.toInt ≤ -1)) :
    cmpValue (FP.dcmp (FP.ddiv (FP.l2d (k * b)) (FP.l2d b)) (FP.l2d k)) .l = 0 := by
  have hm : (k.toInt * b.toInt).natAbs ≤ 1048576 * 1048576 := by
    rw [Int.natAbs_mul]; exact Nat.mul_le_mul (by omega) (by omega)
  have hmul : (k * b).toInt = k.toInt * b.toInt := by
    have h1 := c_lmul k b
    have r1 := rng64 (k * b)
    generalize k.toInt * b.toInt = M at *
    omega
  have b0 : ¬ b = 0 := fun z => by
    rw [z] at hb; have : (0 : Int64).toInt = 0 := by decide
    omega
  apply own_cmp0
  have hd := own_div (k * b) b (own_small _ (by rw [hmul]; omega)) (own_small _ (by omega)) b0
  have hw : FP.Core.Whole k.toInt (FP.Core.val64 (FP.ddiv (FP.l2d (k * b)) (FP.l2d b))) := by
    rw [hd, hmul]
    have hc : FP.Core.roundRatio FP.Core.b64 (decide (k.toInt * b.toInt < 0) != decide (b.toInt < 0)) (k.toInt * b.toInt).natAbs b.toInt.natAbs 0 = FP.Core.roundRatio FP.Core.b64 (decide (k.toInt * b.toInt < 0) != decide (b.toInt < 0)) k.toInt.natAbs 1 0 := by
      refine FP.Core.roundRatio_congr (by omega) (by decide) ?_
      rw [Int.natAbs_mul]; simp
    rw [hc]
    refine FP.Core.whole_round (d := .fin (decide (k.toInt * b.toInt < 0) != decide (b.toInt < 0)) k.toInt.natAbs 0) FP.Core.good_b64 FP.Core.wide_b64 (Nat.le_trans (by omega : k.toInt.natAbs ≤ 1048576) (by decide)) ?_
    show FP.Core.signed _ (k.toInt.natAbs * 1) = k.toInt * ((1 : Nat) : Int)
    rw [Nat.mul_one]
    rcases hb with hb | hb
    · have e1 : decide (b.toInt < 0) = false := decide_eq_false (by omega)
      by_cases hn : k.toInt < 0
      · have e2 : decide (k.toInt * b.toInt < 0) = true := decide_eq_true (Int.mul_neg_of_neg_of_pos hn (by omega))
        rw [e1, e2]; show -((k.toInt.natAbs : Int)) = _; omega
      · have e2 : decide (k.toInt * b.toInt < 0) = false := decide_eq_false (Int.not_lt.mpr (Int.mul_nonneg (by omega) (by omega)))
        rw [e1, e2]; show ((k.toInt.natAbs : Int)) = _; omega
    · have e1 : decide (b.toInt < 0) = true := decide_eq_true (by omega)
      by_cases hn : 0 < k.toInt
      · have e2 : decide (k.toInt * b.toInt < 0) = true := decide_eq_true (Int.mul_neg_of_pos_of_neg hn (by omega))
        rw [e1, e2]; show ((k.toInt.natAbs : Int)) = _; omega
      · have e2 : decide (k.toInt * b.toInt < 0) = false := decide_eq_false (Int.not_lt.mpr (Int.mul_nonneg_of_nonpos_of_nonpos (by omega) (by omega)))
        rw [e1, e2]; show -((k.toInt.natAbs : Int)) = _; omega
  rw [FP.Core.order_whole hw (FP.Core.l2d_whole (own_small k (by omega)))]
  simp
theorem own_half (k : Int64) (hk : -536870912 ≤ k.toInt ∧ k.toInt ≤ 536870912) :
    FP.Core.val64 (FP.dadd (FP.l2d k) (4602678819172646912 : UInt64)) = FP.Core.roundRatio FP.Core.b64 (decide (2 * k.toInt + 1 < 0)) (2 * k.toInt + 1).natAbs 2 0 := by
  have h1 : FP.Core.val64 (4602678819172646912 : UInt64) = .fin false (2 ^ 52) (-53) := by decide +kernel
  obtain ⟨c, q, e, w⟩ := own_l2d k (own_small k (by omega))
  rw [FP.Core.val64_dadd, e, h1]
  have hu := FP.Core.whole_units w (e := min q (-53)) (by omega)
  show FP.Core.roundRatio FP.Core.b64 (FP.Core.sumSign _ _ (FP.Core.sumUnits _ c q false (2 ^ 52) (-53) (min q (-53)))) (FP.Core.sumUnits _ c q false (2 ^ 52) (-53) (min q (-53))).natAbs 1 (min q (-53)) = _
  generalize hE : min q (-53) = E at *
  have hE' : E ≤ -53 := by omega
  have hz : E.toNat = 0 := by omega
  have hs : FP.Core.sumUnits (decide (k.toInt < 0)) c q false (2 ^ 52) (-53) E = (2 * k.toInt + 1) * ((2 ^ (-1 - E).toNat : Nat) : Int) := by
    unfold FP.Core.sumUnits
    rw [hz] at hu
    have e1 : FP.Core.signed (decide (k.toInt < 0)) (FP.Core.inUnits c q E) = k.toInt * ((2 ^ (-E).toNat : Nat) : Int) := by simpa using hu
    have e2 : FP.Core.signed false (FP.Core.inUnits (2 ^ 52) (-53) E) = ((2 ^ (-1 - E).toNat : Nat) : Int) := by
      show ((2 ^ 52 * 2 ^ (-53 - E).toNat : Nat) : Int) = _
      rw [← Nat.pow_add, show 52 + (-53 - E).toNat = (-1 - E).toNat by omega]
    rw [e1, e2, show (-E).toNat = (-1 - E).toNat + 1 by omega, Nat.pow_succ, Int.add_mul]
    generalize (2 ^ (-1 - E).toNat : Nat) = P
    push_cast
    rw [Int.one_mul, Int.mul_comm 2 k.toInt, Int.mul_assoc k.toInt 2, Int.mul_comm 2 (P : Int)]
  have pP := Nat.two_pow_pos (-1 - E).toNat
  have hsg : FP.Core.sumSign (decide (k.toInt < 0)) false ((2 * k.toInt + 1) * ((2 ^ (-1 - E).toNat : Nat) : Int)) = decide (2 * k.toInt + 1 < 0) := by
    unfold FP.Core.sumSign
    generalize (2 ^ (-1 - E).toNat : Nat) = P at *
    have hne : (2 * k.toInt + 1) * (P : Int) ≠ 0 := Int.mul_ne_zero (by omega) (by omega)
    rw [if_neg hne, decide_eq_decide]
    constructor
    · intro h
      refine Int.lt_of_not_ge fun hge => ?_
      have := Int.mul_nonneg hge (show (0 : Int) ≤ (P : Int) by omega)
      omega
    · intro h; exact Int.mul_neg_of_neg_of_pos h (by omega)
  rw [hs, hsg, Int.natAbs_mul, Int.natAbs_natCast]
  refine FP.Core.roundRatio_congr (by decide) (by decide) ?_
  rw [show (E - 0).toNat = 0 by omega, show (0 - E).toNat = (-1 - E).toNat + 1 by omega, Nat.pow_succ]
  simp only [Nat.pow_zero, Nat.mul_one]
  ac_rfl
theorem own_odd (k : Int64) (hk : -536870912 ≤ k.toInt ∧ k.toInt ≤ 536870912) : (((2 : Int64) * k) + (1 : Int64)).toInt = 2 * k.toInt + 1 := by
  have h1 := c_lmul (2 : Int64) k
  have h2 := c_ladd ((2 : Int64) * k) (1 : Int64)
  have r1 := rng64 ((2 : Int64) * k)
  have r2 := rng64 (((2 : Int64) * k) + (1 : Int64))
  have w : (2 : Int64).toInt = 2 := by decide
  have o : (1 : Int64).toInt = 1 := by decide
  rw [w] at h1
  rw [o] at h2
  omega
theorem own_f3 (k : Int64) (hk : -536870912 ≤ k.toInt ∧ k.toInt ≤ 536870912) :
    cmpValue (FP.dcmp (FP.ddiv (FP.l2d (((2 : Int64) * k) + (1 : Int64))) (FP.l2d (2 : Int64))) (FP.dadd (FP.l2d k) (4602678819172646912 : UInt64))) .l = 0 := by
  apply own_cmp0
  have ho := own_odd k hk
  have w : (2 : Int64).toInt = 2 := by decide
  rw [own_div _ _ (own_small _ (by omega)) (own_small _ (by rw [w]; omega)) (by decide), own_half k hk, ho, w]
  have e1 : (decide (2 * k.toInt + 1 < 0) != decide ((2 : Int) < 0)) = decide (2 * k.toInt + 1 < 0) := by
    have : decide ((2 : Int) < 0) = false := by decide
    rw [this]; cases decide (2 * k.toInt + 1 < 0) <;> rfl
  rw [e1]
  exact FP.Core.order_self (FP.Core.roundRatio_ne_nan _ _ _ _ _)
theorem own_f4 (k : Int64) (hk : -536870912 ≤ k.toInt ∧ k.toInt ≤ 536870912) :
    cmpValue (FP.dcmp (FP.ddiv (FP.l2d (((2 : Int64) * k) + (1 : Int64))) (FP.l2d (-2 : Int64))) (FP.dneg (FP.dadd (FP.l2d k) (4602678819172646912 : UInt64)))) .l = 0 := by
  apply own_cmp0
  have ho := own_odd k hk
  have w : (-2 : Int64).toInt = -2 := by decide
  rw [own_div _ _ (own_small _ (by omega)) (own_small _ (by rw [w]; omega)) (by decide), FP.val64_dneg, own_half k hk, ho, w, FP.Core.negate_roundRatio]
  have e1 : (decide (2 * k.toInt + 1 < 0) != decide ((-2 : Int) < 0)) = !decide (2 * k.toInt + 1 < 0) := by
    have : decide ((-2 : Int) < 0) = true := by decide
    rw [this]; cases decide (2 * k.toInt + 1 < 0) <;> rfl
  rw [e1]
  exact FP.Core.order_self (FP.Core.roundRatio_ne_nan _ _ _ _ _)
theorem own_sum_nn (k : Int64) (hk : -536870912 ≤ k.toInt ∧ k.toInt ≤ 536870912) : Jvm.Free.Fl.NoNaN64 (FP.dadd (FP.l2d k) (4602678819172646912 : UInt64)) :=
  own_nan (by rw [own_half k hk]; exact FP.Core.roundRatio_ne_nan _ _ _ _ _)
theorem own_k2 (x : Int32) : -1048576 ≤ ((x >>> ((11 : Int32) &&& 31)).toInt64).toInt ∧ ((x >>> ((11 : Int32) &&& 31)).toInt64).toInt ≤ 1048576 := by
  have r := rng32 x
  rw [c_i2l, c_ishr x (11 : Int32) 11 (by decide)]
  omega
theorem own_k3 (x : Int32) : -536870912 ≤ ((x >>> ((2 : Int32) &&& 31)).toInt64).toInt ∧ ((x >>> ((2 : Int32) &&& 31)).toInt64).toInt ≤ 536870912 := by
  have r := rng32 x
  rw [c_i2l, c_ishr x (2 : Int32) 2 (by decide)]
  omega
theorem own_p2 (x : Int32) : 1 ≤ (((x &&& (1048575 : Int32)) + (1 : Int32)).toInt64).toInt ∧ (((x &&& (1048575 : Int32)) + (1 : Int32)).toInt64).toInt ≤ 1048576 := by
  have h1 := c_and x (1048575 : Int32) (by decide)
  have h2 := c_iadd (x &&& (1048575 : Int32)) (1 : Int32)
  have r := rng32 ((x &&& (1048575 : Int32)) + (1 : Int32))
  have w : (1048575 : Int32).toInt = 1048575 := by decide
  have o : (1 : Int32).toInt = 1 := by decide
  rw [w] at h1
  rw [o] at h2
  rw [c_i2l]
  omega
theorem own_pm (p : Int32) (q : Int64) (h : 1 ≤ q.toInt ∧ q.toInt ≤ 1048576) : (1 ≤ (if p < (0 : Int32) then (-q) else q).toInt ∧ (if p < (0 : Int32) then (-q) else q).toInt ≤ 1048576) ∨ (-1048576 ≤ (if p < (0 : Int32) then (-q) else q).toInt ∧ (if p < (0 : Int32) then (-q) else q).toInt ≤ -1) := by
  split
  · have h1 := c_lneg q
    have r := rng64 (-q)
    omega
  · exact Or.inl h
theorem own_ne0 (b : Int64) (hb : (1 ≤ b.toInt ∧ b.toInt ≤ 1048576) ∨ (-1048576 ≤ b.toInt ∧ b.toInt ≤ -1)) : ¬ b = (0 : Int64) := fun z => by
  rw [z] at hb; have : (0 : Int64).toInt = 0 := by decide
  omega
theorem own_pn0 : plainName "com/example/constraint/constraint/RoundRatiosRatioPinLaw" = true := by first | (simp [plainName, overriddenIn]; done) | decide +kernel
theorem own_ef0 (m : MethodId) (x0 : Int64) (x1 : Int32) (x2 : Int32) (x3 : Int32) : entryFrame m #[(.long x0), (.int x1), (.int x2), (.int x3)] maxLocals = mkF m 0 #[.val (.long x0), .second, .val (.int x1), .val (.int x2), .val (.int x3), .unset, .unset, .unset, .unset, .unset] [] := by first | (simp [entryFrame, mkF, argsToLocals, Value.category, maxLocals]; done) | rfl
def own_Q0 (h0 : Heap) (n0 : Nat) (v : Option Value) (h : Heap) (L : List Loc) : Prop := v = some (.int (1 : Int32)) ∧ Fr n0 L
set_option maxRecDepth 65536 in
set_option maxHeartbeats 40000000 in
theorem rm0 (l : Launch) (Z : State) (a0 : Array Value) (hw : ∀ d ∈ tables_1, d.before a0 Z = true) (ws : List Jvm.Cond) (qc : Int64) (pk : Int32) (pp : Int32) (pm : Int32) (h0 : Heap) (n0 : Nat) (Z0 : n0 ≤ h0.size) :
    MetFree l x (head1 (Jvm.Cond.code x code maxLocals ret :: ws) room_1) (fun a U => a = #[(.long qc), (.int pk), (.int pp), (.int pm)] ∧ Z.Warmed39 U.vm ∧ U.heap = h0) (fun _ _ _ _ _ => True) (fun _ U o U' => ∃ v L, o = .returned v ∧ own_Q0  h0 n0 v U'.heap L ∧ FrameEnd U o U' L room_1.cells room_1.slots) := by
  refine MetFree.of_bodySF (plainFor_of_name own_pn0) hisR ?_
  intro p e s m args below meth c s₁ Bd hml0 hP hK
  obtain ⟨rfl, hZ, hh⟩ := hP
  have hx := Bd.exec
  have hby := Bd.bytes
  have hml : c.maxLocals = 10 := hml0
  have hown : s.vm.findClass "com/example/constraint/constraint/RoundRatiosRatioPinLaw" = some m.cls := findClass_of_methodNamed Bd.named
  have hnm := (name_of_methodNamed Bd.named Bd.method).1
  have X0 : Stand p l e room_1 s m #[(.long qc), (.int pk), (.int pp), (.int pm)] below meth c s₁ [] 0 0 := Stand.of_body Bd
  have e0 : s₁.heap = h0 := by rw [← hh, Bd.state]; rfl
  have N0 := Fr.nil n0
  refine own_pre (A := (s₁.setTop (mkF m 0 #[.val (.long qc), .second, .val (.int pk), .val (.int pp), .val (.int pm), .unset, .unset, .unset, .unset, .unset] []))) (fun t k => castTop (own_ef0 m qc pk pp pm) k) ?_
  refine own_pre (A := (s₁.setTop (mkF m 8 #[.val (.long qc), .second, .val (.int pk), .val (.int pp), .val (.int pm), .val (.int (pm &&& (3 : Int32))), .unset, .unset, .unset, .unset] [(.int (pm &&& (3 : Int32)))]))) ?_ ?_
  · intro t k
    show Steps p.tables e below (s₁.setTop (mkF m 0 #[.val (.long qc), .second, .val (.int pk), .val (.int pp), .val (.int pm), .unset, .unset, .unset, .unset, .unset] [])) _
    refine XS.iload X0.here hx rfl (hb hby at_0) rfl ?_
    refine XS.iconst X0.here hx rfl (hb hby at_2) ?_
    refine XS.iand X0.here hx rfl (hb hby at_3) rfl ?_
    show Steps p.tables e below (s₁.setTop (mkF m 4 #[.val (.long qc), .second, .val (.int pk), .val (.int pp), .val (.int pm), .unset, .unset, .unset, .unset, .unset] [(.int (pm &&& (3 : Int32)))])) _
    refine XS.istore X0.here hx rfl (hb hby at_4) rfl (l' := #[.val (.long qc), .second, .val (.int pk), .val (.int pp), .val (.int pm), .val (.int (pm &&& (3 : Int32))), .unset, .unset, .unset, .unset]) rfl ?_
    refine XS.iload X0.here hx rfl (hb hby at_6) rfl ?_
    exact k
  by_cases hc7 : (pm &&& (3 : Int32)) = (0 : Int32)
  · skip
    refine own_pre (A := (s₁.setTop (mkF m 11 #[.val (.long qc), .second, .val (.int pk), .val (.int pp), .val (.int pm), .val (.int (pm &&& (3 : Int32))), .unset, .unset, .unset, .unset] []))) ?_ ?_
    · intro t k
      refine XS.ifNo X0.here hx rfl (hb hby at_8) rfl ((if0 _ _).trans (teq hc7).2) ?_
      exact k
    obtain ⟨T8, h8, X8, e8, E8, A8, D8, -, st8⟩ := newO X0 hx hZ hown (own_w hw 0 rfl) (own_w hw 1 rfl) (own_w hw 2 rfl) e0 (g := (mkF m 11 #[.val (.long qc), .second, .val (.int pk), .val (.int pp), .val (.int pm), .val (.int (pm &&& (3 : Int32))), .unset, .unset, .unset, .unset] [])) rfl (hb hby at_11) (by decide) (by decide)
    obtain ⟨b8, g8⟩ : ∃ z, z = h0.size := ⟨_, rfl⟩
    rw [← g8] at A8 D8 st8
    have gn_b8 : n0 ≤ b8 := Nat.le_trans Z0 (Nat.le_of_eq g8.symm)
    have Zs8 : n0 ≤ h8.size := Nat.le_trans Z0 E8.1
    have Kc8 : Keep h0 h8 [] := (Keep.refl h0 []).ext E8
    have F8_constraintNanos : Fld Z h8 b8 "com/example/constraint/constraint/RoundRatios$Pair" "constraintNanos" "J" (.long (0 : Int64)) := D8 (Or.inr (own_w hw 15 rfl)) (ty := .long) (by decide)
    have F8_peerNanos : Fld Z h8 b8 "com/example/constraint/constraint/RoundRatios$Pair" "peerNanos" "J" (.long (0 : Int64)) := D8 (Or.inr (own_w hw 17 rfl)) (ty := .long) (by decide)
    refine own_pre (fun t k => st8 t k) ?_
    refine own_pre (A := (T8.setTop (mkF m 17 #[.val (.long qc), .second, .val (.int pk), .val (.int pp), .val (.int pm), .val (.int (pm &&& (3 : Int32))), .unset, .unset, .unset, .unset] [(.long (1 : Int64)), (.long qc), (.ref b8), (.ref b8)]))) ?_ ?_
    · intro t k
      show Steps p.tables e below (T8.setTop (mkF m 14 #[.val (.long qc), .second, .val (.int pk), .val (.int pp), .val (.int pm), .val (.int (pm &&& (3 : Int32))), .unset, .unset, .unset, .unset] [(.ref b8)])) _
      refine XS.dup X8.here hx rfl (hb hby at_14) rfl rfl ?_
      refine XS.lloadN X8.here hx rfl (hb hby at_15) rfl ?_
      refine XS.lconst X8.here hx rfl (hb hby at_16) ?_
      exact k
    obtain ⟨_, _, ⟨T9, L9, k9, n9⟩, -, X9, ⟨Lc9, hQ9, l9, y9, z9⟩, st9⟩ := X8.specialBack hx (y := (⟨"com/example/constraint/constraint/RoundRatios$Pair", "<init>", "(JJ)V"⟩ : MethodName)) rfl hown (mvT hZ (own_w hw 3 rfl)) (mvT hZ (own_w hw 4 rfl)) (mvT hZ (own_w hw 5 rfl)) (by decide) (backOf (W := 1) (rm1 l Z a0 hw [] b8 qc (1 : Int64) h8 n0 Zs8 A8 F8_constraintNanos F8_peerNanos gn_b8) hZ (own_w hw 5 rfl) (own_w hw 2 rfl) (by decide) (by decide)) (g := (mkF m 17 #[.val (.long qc), .second, .val (.int pk), .val (.int pp), .val (.int pm), .val (.int (pm &&& (3 : Int32))), .unset, .unset, .unset, .unset] [(.long (1 : Int64)), (.long qc), (.ref b8), (.ref b8)])) rfl (by rw [hml]; rfl) (Steps.refl _) (a := b8) (argsL := [(.long qc), (.long (1 : Int64))]) (rest := [(.ref b8)]) (lenOf own_pd1 rfl) rfl (by show 2 * 0 + _ ≤ _; exact Nat.le_of_eq rfl) (hb hby at_17) (fun _ _ => ⟨rfl, e8, (by decide : 1 + 0 ≤ _), (by decide : 2 + 0 ≤ _)⟩)
    dsimp only [Pt.U, Pt.locs, Pt.cells, Pt.slots] at X9 l9 y9 z9 st9 hQ9
    subst l9 y9 z9
    obtain ⟨rfl, Nq9, Kq9, Fa9, Fb9⟩ := hQ9
    have N9 := Fr.app N0 Nq9
    refine own_pre (fun t k => st9.trans k) ?_
    have A8_9 := A8.keep Kq9
    have Zs9 : n0 ≤ T9.heap.size := Nat.le_trans Zs8 Kq9.1
    obtain ⟨cq10, kq10, q10a, q10b, q10c⟩ := isOf hZ rfl A8_9
    obtain ⟨_, _, ⟨T10, L10, k10, n10⟩, -, X10, ⟨Lc10, hQ10, l10, y10, z10⟩, st10⟩ := X9.virtualBack hx (y := (⟨"com/example/constraint/constraint/RoundRatios$Pair", "ratio", "()D"⟩ : MethodName)) (z := (⟨"com/example/constraint/constraint/RoundRatios$Pair", "ratio", "()D"⟩ : MethodName)) hown (mvT hZ (own_w hw 18 rfl)) (mvT hZ (own_w hw 19 rfl)) (notFace_of_selects (args := #[]) (mvT hZ (own_w hw 21 rfl))) (mvT hZ (own_w hw 21 rfl)) (mvT hZ (own_w hw 20 rfl)) (by decide) (backOf (W := 0) (rm4 l Z a0 hw [] b8 qc (1 : Int64) T9.heap n0 Zs9 Fa9 Fb9 (own_nn qc (1 : Int64) (by decide) (own_small _ (by decide)))) hZ (own_w hw 22 rfl) (own_w hw 2 rfl) (by decide) (by decide)) q10a q10c (g := (mkF m 20 #[.val (.long qc), .second, .val (.int pk), .val (.int pp), .val (.int pm), .val (.int (pm &&& (3 : Int32))), .unset, .unset, .unset, .unset] [(.ref b8)])) rfl (by rw [hml]; rfl) (Steps.refl _) (argsL := []) (rest := []) (lenOf own_pd2 rfl) rfl (by show 2 * 0 + _ ≤ _; exact Nat.le_of_eq rfl) (hb hby at_20) (fun _ _ => ⟨rfl, rfl, (by decide : 1 + 0 ≤ _), (by decide : 2 + 0 ≤ _)⟩)
    dsimp only [Pt.U, Pt.locs, Pt.cells, Pt.slots] at X10 l10 y10 z10 st10 hQ10
    subst l10 y10 z10
    obtain ⟨Nq10, rfl, eq10⟩ := hQ10
    have N10 := Fr.app N9 Nq10
    refine own_pre (fun t k => st10.trans k) ?_
    refine own_pre (A := (T10.setTop (mkF m 34 #[.val (.long qc), .second, .val (.int pk), .val (.int pp), .val (.int pm), .val (.int (pm &&& (3 : Int32))), .unset, .unset, .unset, .unset] [(.int (1 : Int32))]))) ?_ ?_
    · intro t k
      show Steps p.tables e below (T10.setTop (mkF m 23 #[.val (.long qc), .second, .val (.int pk), .val (.int pp), .val (.int pm), .val (.int (pm &&& (3 : Int32))), .unset, .unset, .unset, .unset] [(.double (FP.ddiv (FP.l2d qc) (FP.l2d (1 : Int64))))])) _
      refine XS.lloadN X10.here hx rfl (hb hby at_23) rfl ?_
      refine XS.l2dS X10.here hx rfl (hb hby at_24) rfl rfl ?_
      refine XS.dcmpS X10.here hx rfl (hb hby at_25) rfl rfl ?_
      refine XS.ifNo X10.here hx rfl (hb hby at_26) rfl ((if0 _ _).trans (teq (own_f0 qc : (cmpValue (FP.dcmp (FP.ddiv (FP.l2d qc) (FP.l2d (1 : Int64))) (FP.l2d qc)) .l) = (0 : Int32))).2) ?_
      refine XS.iconst X10.here hx rfl (hb hby at_29) ?_
      show Steps p.tables e below (T10.setTop (mkF m 30 #[.val (.long qc), .second, .val (.int pk), .val (.int pp), .val (.int pm), .val (.int (pm &&& (3 : Int32))), .unset, .unset, .unset, .unset] [(.int (1 : Int32))])) _
      refine XS.goto X10.here hx rfl (pc0 := 30) (pc' := 34) rfl (hb hby at_30) (by decide) (by decide) ?_
      exact k
    obtain ⟨fs, hr, hrun, hended, hW, hsame⟩ := X10.leave (hlocks := BodyLoose.notSynchronized Bd) (v := some (.int (1 : Int32))) (fun h => by rw [Bd.returns] at h; cases h)
    refine ⟨_, _, retOut X10 hx Bd.returns rfl (Or.inl ⟨rfl, Or.inr (Or.inl rfl), _, rfl⟩) (hb hby at_34) hr, hrun, hended, _, _, rfl, ?_, ⟨_, rfl⟩, hW, hsame.mono (by decide) (by decide)⟩
    show own_Q0 h0 n0 _ T10.heap _
    rw [eq10]
    exact ⟨rfl, N10⟩
  · skip
    refine own_pre (A := (s₁.setTop (mkF m 35 #[.val (.long qc), .second, .val (.int pk), .val (.int pp), .val (.int pm), .val (.int (pm &&& (3 : Int32))), .unset, .unset, .unset, .unset] []))) ?_ ?_
    · intro t k
      refine XS.ifYes X0.here hx rfl (pc0 := 8) (pc' := 35) rfl (hb hby at_8) rfl ((if0 _ _).trans (feq hc7).2) (by decide) (by decide) ?_
      exact k
    refine own_pre (A := (s₁.setTop (mkF m 38 #[.val (.long qc), .second, .val (.int pk), .val (.int pp), .val (.int pm), .val (.int (pm &&& (3 : Int32))), .unset, .unset, .unset, .unset] [(.int (1 : Int32)), (.int (pm &&& (3 : Int32)))]))) ?_ ?_
    · intro t k
      show Steps p.tables e below (s₁.setTop (mkF m 35 #[.val (.long qc), .second, .val (.int pk), .val (.int pp), .val (.int pm), .val (.int (pm &&& (3 : Int32))), .unset, .unset, .unset, .unset] [])) _
      refine XS.iload X0.here hx rfl (hb hby at_35) rfl ?_
      refine XS.iconst X0.here hx rfl (hb hby at_37) ?_
      exact k
    by_cases hc11 : (pm &&& (3 : Int32)) = (1 : Int32)
    · skip
      refine own_pre (A := (s₁.setTop (mkF m 41 #[.val (.long qc), .second, .val (.int pk), .val (.int pp), .val (.int pm), .val (.int (pm &&& (3 : Int32))), .unset, .unset, .unset, .unset] []))) ?_ ?_
      · intro t k
        refine XS.icmpNo X0.here hx rfl (hb hby at_38) rfl (teq hc11).2 ?_
        exact k
      obtain ⟨T12, h12, X12, e12, E12, A12, D12, -, st12⟩ := newO X0 hx hZ hown (own_w hw 0 rfl) (own_w hw 1 rfl) (own_w hw 2 rfl) e0 (g := (mkF m 41 #[.val (.long qc), .second, .val (.int pk), .val (.int pp), .val (.int pm), .val (.int (pm &&& (3 : Int32))), .unset, .unset, .unset, .unset] [])) rfl (hb hby at_41) (by decide) (by decide)
      obtain ⟨b12, g12⟩ : ∃ z, z = h0.size := ⟨_, rfl⟩
      rw [← g12] at A12 D12 st12
      have gn_b12 : n0 ≤ b12 := Nat.le_trans Z0 (Nat.le_of_eq g12.symm)
      have Zs12 : n0 ≤ h12.size := Nat.le_trans Z0 E12.1
      have Kc12 : Keep h0 h12 [] := (Keep.refl h0 []).ext E12
      have F12_constraintNanos : Fld Z h12 b12 "com/example/constraint/constraint/RoundRatios$Pair" "constraintNanos" "J" (.long (0 : Int64)) := D12 (Or.inr (own_w hw 15 rfl)) (ty := .long) (by decide)
      have F12_peerNanos : Fld Z h12 b12 "com/example/constraint/constraint/RoundRatios$Pair" "peerNanos" "J" (.long (0 : Int64)) := D12 (Or.inr (own_w hw 17 rfl)) (ty := .long) (by decide)
      refine own_pre (fun t k => st12 t k) ?_
      refine own_pre (A := (T12.setTop (mkF m 49 #[.val (.long qc), .second, .val (.int pk), .val (.int pp), .val (.int pm), .val (.int (pm &&& (3 : Int32))), .unset, .unset, .unset, .unset] [(.long (-1 : Int64)), (.long qc), (.ref b12), (.ref b12)]))) ?_ ?_
      · intro t k
        show Steps p.tables e below (T12.setTop (mkF m 44 #[.val (.long qc), .second, .val (.int pk), .val (.int pp), .val (.int pm), .val (.int (pm &&& (3 : Int32))), .unset, .unset, .unset, .unset] [(.ref b12)])) _
        refine XS.dup X12.here hx rfl (hb hby at_44) rfl rfl ?_
        refine XS.lloadN X12.here hx rfl (hb hby at_45) rfl ?_
        show Steps p.tables e below (T12.setTop (mkF m 46 #[.val (.long qc), .second, .val (.int pk), .val (.int pp), .val (.int pm), .val (.int (pm &&& (3 : Int32))), .unset, .unset, .unset, .unset] [(.long qc), (.ref b12), (.ref b12)])) _
        refine X12.ldc2Long hx hown (mvT hZ (own_w hw 27 rfl)) (g := (mkF m 46 #[.val (.long qc), .second, .val (.int pk), .val (.int pp), .val (.int pm), .val (.int (pm &&& (3 : Int32))), .unset, .unset, .unset, .unset] [(.long qc), (.ref b12), (.ref b12)])) rfl (hb hby at_46) _ ?_
        exact k
      obtain ⟨_, _, ⟨T13, L13, k13, n13⟩, -, X13, ⟨Lc13, hQ13, l13, y13, z13⟩, st13⟩ := X12.specialBack hx (y := (⟨"com/example/constraint/constraint/RoundRatios$Pair", "<init>", "(JJ)V"⟩ : MethodName)) rfl hown (mvT hZ (own_w hw 3 rfl)) (mvT hZ (own_w hw 4 rfl)) (mvT hZ (own_w hw 5 rfl)) (by decide) (backOf (W := 1) (rm1 l Z a0 hw [] b12 qc (-1 : Int64) h12 n0 Zs12 A12 F12_constraintNanos F12_peerNanos gn_b12) hZ (own_w hw 5 rfl) (own_w hw 2 rfl) (by decide) (by decide)) (g := (mkF m 49 #[.val (.long qc), .second, .val (.int pk), .val (.int pp), .val (.int pm), .val (.int (pm &&& (3 : Int32))), .unset, .unset, .unset, .unset] [(.long (-1 : Int64)), (.long qc), (.ref b12), (.ref b12)])) rfl (by rw [hml]; rfl) (Steps.refl _) (a := b12) (argsL := [(.long qc), (.long (-1 : Int64))]) (rest := [(.ref b12)]) (lenOf own_pd1 rfl) rfl (by show 2 * 0 + _ ≤ _; exact Nat.le_of_eq rfl) (hb hby at_49) (fun _ _ => ⟨rfl, e12, (by decide : 1 + 0 ≤ _), (by decide : 2 + 0 ≤ _)⟩)
      dsimp only [Pt.U, Pt.locs, Pt.cells, Pt.slots] at X13 l13 y13 z13 st13 hQ13
      subst l13 y13 z13
      obtain ⟨rfl, Nq13, Kq13, Fa13, Fb13⟩ := hQ13
      have N13 := Fr.app N0 Nq13
      refine own_pre (fun t k => st13.trans k) ?_
      have A12_13 := A12.keep Kq13
      have Zs13 : n0 ≤ T13.heap.size := Nat.le_trans Zs12 Kq13.1
      obtain ⟨cq14, kq14, q14a, q14b, q14c⟩ := isOf hZ rfl A12_13
      obtain ⟨_, _, ⟨T14, L14, k14, n14⟩, -, X14, ⟨Lc14, hQ14, l14, y14, z14⟩, st14⟩ := X13.virtualBack hx (y := (⟨"com/example/constraint/constraint/RoundRatios$Pair", "ratio", "()D"⟩ : MethodName)) (z := (⟨"com/example/constraint/constraint/RoundRatios$Pair", "ratio", "()D"⟩ : MethodName)) hown (mvT hZ (own_w hw 18 rfl)) (mvT hZ (own_w hw 19 rfl)) (notFace_of_selects (args := #[]) (mvT hZ (own_w hw 21 rfl))) (mvT hZ (own_w hw 21 rfl)) (mvT hZ (own_w hw 20 rfl)) (by decide) (backOf (W := 0) (rm4 l Z a0 hw [] b12 qc (-1 : Int64) T13.heap n0 Zs13 Fa13 Fb13 (own_nn qc (-1 : Int64) (by decide) (own_small _ (by decide)))) hZ (own_w hw 22 rfl) (own_w hw 2 rfl) (by decide) (by decide)) q14a q14c (g := (mkF m 52 #[.val (.long qc), .second, .val (.int pk), .val (.int pp), .val (.int pm), .val (.int (pm &&& (3 : Int32))), .unset, .unset, .unset, .unset] [(.ref b12)])) rfl (by rw [hml]; rfl) (Steps.refl _) (argsL := []) (rest := []) (lenOf own_pd2 rfl) rfl (by show 2 * 0 + _ ≤ _; exact Nat.le_of_eq rfl) (hb hby at_52) (fun _ _ => ⟨rfl, rfl, (by decide : 1 + 0 ≤ _), (by decide : 2 + 0 ≤ _)⟩)
      dsimp only [Pt.U, Pt.locs, Pt.cells, Pt.slots] at X14 l14 y14 z14 st14 hQ14
      subst l14 y14 z14
      obtain ⟨Nq14, rfl, eq14⟩ := hQ14
      have N14 := Fr.app N13 Nq14
      refine own_pre (fun t k => st14.trans k) ?_
      refine own_pre (A := (T14.setTop (mkF m 67 #[.val (.long qc), .second, .val (.int pk), .val (.int pp), .val (.int pm), .val (.int (pm &&& (3 : Int32))), .unset, .unset, .unset, .unset] [(.int (1 : Int32))]))) ?_ ?_
      · intro t k
        show Steps p.tables e below (T14.setTop (mkF m 55 #[.val (.long qc), .second, .val (.int pk), .val (.int pp), .val (.int pm), .val (.int (pm &&& (3 : Int32))), .unset, .unset, .unset, .unset] [(.double (FP.ddiv (FP.l2d qc) (FP.l2d (-1 : Int64))))])) _
        refine XS.lloadN X14.here hx rfl (hb hby at_55) rfl ?_
        refine XS.l2dS X14.here hx rfl (hb hby at_56) rfl rfl ?_
        refine XS.dnegS X14.here hx rfl (hb hby at_57) rfl rfl ?_
        refine XS.dcmpS X14.here hx rfl (hb hby at_58) rfl rfl ?_
        refine XS.ifNo X14.here hx rfl (hb hby at_59) rfl ((if0 _ _).trans (teq (own_f1 qc : (cmpValue (FP.dcmp (FP.ddiv (FP.l2d qc) (FP.l2d (-1 : Int64))) (FP.dneg (FP.l2d qc))) .l) = (0 : Int32))).2) ?_
        refine XS.iconst X14.here hx rfl (hb hby at_62) ?_
        show Steps p.tables e below (T14.setTop (mkF m 63 #[.val (.long qc), .second, .val (.int pk), .val (.int pp), .val (.int pm), .val (.int (pm &&& (3 : Int32))), .unset, .unset, .unset, .unset] [(.int (1 : Int32))])) _
        refine XS.goto X14.here hx rfl (pc0 := 63) (pc' := 67) rfl (hb hby at_63) (by decide) (by decide) ?_
        exact k
      obtain ⟨fs, hr, hrun, hended, hW, hsame⟩ := X14.leave (hlocks := BodyLoose.notSynchronized Bd) (v := some (.int (1 : Int32))) (fun h => by rw [Bd.returns] at h; cases h)
      refine ⟨_, _, retOut X14 hx Bd.returns rfl (Or.inl ⟨rfl, Or.inr (Or.inl rfl), _, rfl⟩) (hb hby at_67) hr, hrun, hended, _, _, rfl, ?_, ⟨_, rfl⟩, hW, hsame.mono (by decide) (by decide)⟩
      show own_Q0 h0 n0 _ T14.heap _
      rw [eq14]
      exact ⟨rfl, N14⟩
    · skip
      refine own_pre (A := (s₁.setTop (mkF m 68 #[.val (.long qc), .second, .val (.int pk), .val (.int pp), .val (.int pm), .val (.int (pm &&& (3 : Int32))), .unset, .unset, .unset, .unset] []))) ?_ ?_
      · intro t k
        refine XS.icmpYes X0.here hx rfl (pc0 := 38) (pc' := 68) rfl (hb hby at_38) rfl (feq hc11).2 (by decide) (by decide) ?_
        exact k
      refine own_pre (A := (s₁.setTop (mkF m 71 #[.val (.long qc), .second, .val (.int pk), .val (.int pp), .val (.int pm), .val (.int (pm &&& (3 : Int32))), .unset, .unset, .unset, .unset] [(.int (2 : Int32)), (.int (pm &&& (3 : Int32)))]))) ?_ ?_
      · intro t k
        show Steps p.tables e below (s₁.setTop (mkF m 68 #[.val (.long qc), .second, .val (.int pk), .val (.int pp), .val (.int pm), .val (.int (pm &&& (3 : Int32))), .unset, .unset, .unset, .unset] [])) _
        refine XS.iload X0.here hx rfl (hb hby at_68) rfl ?_
        refine XS.iconst X0.here hx rfl (hb hby at_70) ?_
        exact k
      by_cases hc15 : (pm &&& (3 : Int32)) = (2 : Int32)
      · skip
        refine own_pre (A := (s₁.setTop (mkF m 74 #[.val (.long qc), .second, .val (.int pk), .val (.int pp), .val (.int pm), .val (.int (pm &&& (3 : Int32))), .unset, .unset, .unset, .unset] []))) ?_ ?_
        · intro t k
          refine XS.icmpNo X0.here hx rfl (hb hby at_71) rfl (teq hc15).2 ?_
          exact k
        refine own_pre (A := (s₁.setTop (mkF m 90 #[.val (.long qc), .second, .val (.int pk), .val (.int pp), .val (.int pm), .val (.int (pm &&& (3 : Int32))), .val (.long ((pk >>> ((11 : Int32) &&& 31)).toInt64)), .second, .val (.long (((pp &&& (1048575 : Int32)) + (1 : Int32)).toInt64)), .second] []))) ?_ ?_
        · intro t k
          show Steps p.tables e below (s₁.setTop (mkF m 74 #[.val (.long qc), .second, .val (.int pk), .val (.int pp), .val (.int pm), .val (.int (pm &&& (3 : Int32))), .unset, .unset, .unset, .unset] [])) _
          refine XS.iloadN X0.here hx rfl (hb hby at_74) rfl ?_
          refine XS.bipush X0.here hx rfl (hb hby at_75) ?_
          refine XS.ishr X0.here hx rfl (hb hby at_77) rfl ?_
          refine XS.i2l X0.here hx rfl (hb hby at_78) rfl ?_
          show Steps p.tables e below (s₁.setTop (mkF m 79 #[.val (.long qc), .second, .val (.int pk), .val (.int pp), .val (.int pm), .val (.int (pm &&& (3 : Int32))), .unset, .unset, .unset, .unset] [(.long ((pk >>> ((11 : Int32) &&& 31)).toInt64))])) _
          refine XS.lstore X0.here hx rfl (hb hby at_79) rfl (l' := #[.val (.long qc), .second, .val (.int pk), .val (.int pp), .val (.int pm), .val (.int (pm &&& (3 : Int32))), .val (.long ((pk >>> ((11 : Int32) &&& 31)).toInt64)), .second, .unset, .unset]) rfl ?_
          refine XS.iloadN X0.here hx rfl (hb hby at_81) rfl ?_
          show Steps p.tables e below (s₁.setTop (mkF m 82 #[.val (.long qc), .second, .val (.int pk), .val (.int pp), .val (.int pm), .val (.int (pm &&& (3 : Int32))), .val (.long ((pk >>> ((11 : Int32) &&& 31)).toInt64)), .second, .unset, .unset] [(.int pp)])) _
          refine X0.ldcInt hx hown (mvT hZ (own_w hw 26 rfl)) (g := (mkF m 82 #[.val (.long qc), .second, .val (.int pk), .val (.int pp), .val (.int pm), .val (.int (pm &&& (3 : Int32))), .val (.long ((pk >>> ((11 : Int32) &&& 31)).toInt64)), .second, .unset, .unset] [(.int pp)])) rfl (hb hby at_82) _ ?_
          show Steps p.tables e below (s₁.setTop (mkF m 84 #[.val (.long qc), .second, .val (.int pk), .val (.int pp), .val (.int pm), .val (.int (pm &&& (3 : Int32))), .val (.long ((pk >>> ((11 : Int32) &&& 31)).toInt64)), .second, .unset, .unset] [(.int (1048575 : Int32)), (.int pp)])) _
          refine XS.iand X0.here hx rfl (hb hby at_84) rfl ?_
          refine XS.iconst X0.here hx rfl (hb hby at_85) ?_
          refine XS.iadd X0.here hx rfl (hb hby at_86) rfl ?_
          refine XS.i2l X0.here hx rfl (hb hby at_87) rfl ?_
          show Steps p.tables e below (s₁.setTop (mkF m 88 #[.val (.long qc), .second, .val (.int pk), .val (.int pp), .val (.int pm), .val (.int (pm &&& (3 : Int32))), .val (.long ((pk >>> ((11 : Int32) &&& 31)).toInt64)), .second, .unset, .unset] [(.long (((pp &&& (1048575 : Int32)) + (1 : Int32)).toInt64))])) _
          refine XS.lstore X0.here hx rfl (hb hby at_88) rfl (l' := #[.val (.long qc), .second, .val (.int pk), .val (.int pp), .val (.int pm), .val (.int (pm &&& (3 : Int32))), .val (.long ((pk >>> ((11 : Int32) &&& 31)).toInt64)), .second, .val (.long (((pp &&& (1048575 : Int32)) + (1 : Int32)).toInt64)), .second]) rfl ?_
          exact k
        obtain ⟨qk, hqk⟩ : ∃ z : Int64, z = ((pk >>> ((11 : Int32) &&& 31)).toInt64) := ⟨_, rfl⟩
        rw [← hqk]
        obtain ⟨qp1, hqp1⟩ : ∃ z : Int64, z = (((pp &&& (1048575 : Int32)) + (1 : Int32)).toInt64) := ⟨_, rfl⟩
        rw [← hqp1]
        have hkk2 : -1048576 ≤ qk.toInt ∧ qk.toInt ≤ 1048576 := by rw [hqk]; exact own_k2 _
        have hp1 : 1 ≤ qp1.toInt ∧ qp1.toInt ≤ 1048576 := by rw [hqp1]; exact own_p2 _
        refine own_pre (A := (s₁.setTop (mkF m 91 #[.val (.long qc), .second, .val (.int pk), .val (.int pp), .val (.int pm), .val (.int (pm &&& (3 : Int32))), .val (.long qk), .second, .val (.long qp1), .second] [(.int pp)]))) ?_ ?_
        · intro t k
          show Steps p.tables e below (s₁.setTop (mkF m 90 #[.val (.long qc), .second, .val (.int pk), .val (.int pp), .val (.int pm), .val (.int (pm &&& (3 : Int32))), .val (.long qk), .second, .val (.long qp1), .second] [])) _
          refine XS.iloadN X0.here hx rfl (hb hby at_90) rfl ?_
          exact k
        obtain ⟨v17, hv17⟩ : ∃ z : Int64, z = (if pp < (0 : Int32) then (-qp1) else qp1) := ⟨_, rfl⟩
        refine own_pre (A := (s₁.setTop (mkF m 99 #[.val (.long qc), .second, .val (.int pk), .val (.int pp), .val (.int pm), .val (.int (pm &&& (3 : Int32))), .val (.long qk), .second, .val (.long v17), .second] []))) ?_ ?_
        · intro t k
          show Steps p.tables e below (s₁.setTop (mkF m 91 #[.val (.long qc), .second, .val (.int pk), .val (.int pp), .val (.int pm), .val (.int (pm &&& (3 : Int32))), .val (.long qk), .second, .val (.long qp1), .second] [(.int pp)])) _
          by_cases hc16 : pp < (0 : Int32)
          · skip
            refine XS.ifNo X0.here hx rfl (hb hby at_91) rfl ((if0 _ _).trans (tlt hc16).2.1) ?_
            refine XS.lload X0.here hx rfl (hb hby at_94) rfl ?_
            refine XS.lneg X0.here hx rfl (hb hby at_96) rfl ?_
            show Steps p.tables e below (s₁.setTop (mkF m 97 #[.val (.long qc), .second, .val (.int pk), .val (.int pp), .val (.int pm), .val (.int (pm &&& (3 : Int32))), .val (.long qk), .second, .val (.long qp1), .second] [(.long (-qp1))])) _
            refine XS.lstore X0.here hx rfl (hb hby at_97) rfl (l' := #[.val (.long qc), .second, .val (.int pk), .val (.int pp), .val (.int pm), .val (.int (pm &&& (3 : Int32))), .val (.long qk), .second, .val (.long (-qp1)), .second]) rfl ?_
            rw [show v17 = (-qp1) from hv17.trans (by simp only [if_pos hc16])] at k
            exact k
          · skip
            refine XS.ifYes X0.here hx rfl (pc0 := 91) (pc' := 99) rfl (hb hby at_91) rfl ((if0 _ _).trans (flt hc16).2.1) (by decide) (by decide) ?_
            rw [show v17 = qp1 from hv17.trans (by simp only [if_neg hc16])] at k
            exact k
        obtain ⟨qp, hqp⟩ : ∃ z : Int64, z = v17 := ⟨_, rfl⟩
        rw [← hqp]
        have hpp : (1 ≤ qp.toInt ∧ qp.toInt ≤ 1048576) ∨ (-1048576 ≤ qp.toInt ∧ qp.toInt ≤ -1) := by rw [hqp, hv17]; exact own_pm _ _ hp1
        have hpp0 : ¬ qp = (0 : Int64) := own_ne0 _ hpp
        obtain ⟨T18, h18, X18, e18, E18, A18, D18, -, st18⟩ := newO X0 hx hZ hown (own_w hw 0 rfl) (own_w hw 1 rfl) (own_w hw 2 rfl) e0 (g := (mkF m 99 #[.val (.long qc), .second, .val (.int pk), .val (.int pp), .val (.int pm), .val (.int (pm &&& (3 : Int32))), .val (.long qk), .second, .val (.long qp), .second] [])) rfl (hb hby at_99) (by decide) (by decide)
        obtain ⟨b18, g18⟩ : ∃ z, z = h0.size := ⟨_, rfl⟩
        rw [← g18] at A18 D18 st18
        have gn_b18 : n0 ≤ b18 := Nat.le_trans Z0 (Nat.le_of_eq g18.symm)
        have Zs18 : n0 ≤ h18.size := Nat.le_trans Z0 E18.1
        have Kc18 : Keep h0 h18 [] := (Keep.refl h0 []).ext E18
        have F18_constraintNanos : Fld Z h18 b18 "com/example/constraint/constraint/RoundRatios$Pair" "constraintNanos" "J" (.long (0 : Int64)) := D18 (Or.inr (own_w hw 15 rfl)) (ty := .long) (by decide)
        have F18_peerNanos : Fld Z h18 b18 "com/example/constraint/constraint/RoundRatios$Pair" "peerNanos" "J" (.long (0 : Int64)) := D18 (Or.inr (own_w hw 17 rfl)) (ty := .long) (by decide)
        refine own_pre (fun t k => st18 t k) ?_
        refine own_pre (A := (T18.setTop (mkF m 110 #[.val (.long qc), .second, .val (.int pk), .val (.int pp), .val (.int pm), .val (.int (pm &&& (3 : Int32))), .val (.long qk), .second, .val (.long qp), .second] [(.long qp), (.long (qk * qp)), (.ref b18), (.ref b18)]))) ?_ ?_
        · intro t k
          show Steps p.tables e below (T18.setTop (mkF m 102 #[.val (.long qc), .second, .val (.int pk), .val (.int pp), .val (.int pm), .val (.int (pm &&& (3 : Int32))), .val (.long qk), .second, .val (.long qp), .second] [(.ref b18)])) _
          refine XS.dup X18.here hx rfl (hb hby at_102) rfl rfl ?_
          refine XS.lload X18.here hx rfl (hb hby at_103) rfl ?_
          refine XS.lload X18.here hx rfl (hb hby at_105) rfl ?_
          refine XS.lmul X18.here hx rfl (hb hby at_107) rfl ?_
          refine XS.lload X18.here hx rfl (hb hby at_108) rfl ?_
          exact k
        obtain ⟨_, _, ⟨T19, L19, k19, n19⟩, -, X19, ⟨Lc19, hQ19, l19, y19, z19⟩, st19⟩ := X18.specialBack hx (y := (⟨"com/example/constraint/constraint/RoundRatios$Pair", "<init>", "(JJ)V"⟩ : MethodName)) rfl hown (mvT hZ (own_w hw 3 rfl)) (mvT hZ (own_w hw 4 rfl)) (mvT hZ (own_w hw 5 rfl)) (by decide) (backOf (W := 1) (rm1 l Z a0 hw [] b18 (qk * qp) qp h18 n0 Zs18 A18 F18_constraintNanos F18_peerNanos gn_b18) hZ (own_w hw 5 rfl) (own_w hw 2 rfl) (by decide) (by decide)) (g := (mkF m 110 #[.val (.long qc), .second, .val (.int pk), .val (.int pp), .val (.int pm), .val (.int (pm &&& (3 : Int32))), .val (.long qk), .second, .val (.long qp), .second] [(.long qp), (.long (qk * qp)), (.ref b18), (.ref b18)])) rfl (by rw [hml]; rfl) (Steps.refl _) (a := b18) (argsL := [(.long (qk * qp)), (.long qp)]) (rest := [(.ref b18)]) (lenOf own_pd1 rfl) rfl (by show 2 * 0 + _ ≤ _; exact Nat.le_of_eq rfl) (hb hby at_110) (fun _ _ => ⟨rfl, e18, (by decide : 1 + 0 ≤ _), (by decide : 2 + 0 ≤ _)⟩)
        dsimp only [Pt.U, Pt.locs, Pt.cells, Pt.slots] at X19 l19 y19 z19 st19 hQ19
        subst l19 y19 z19
        obtain ⟨rfl, Nq19, Kq19, Fa19, Fb19⟩ := hQ19
        have N19 := Fr.app N0 Nq19
        refine own_pre (fun t k => st19.trans k) ?_
        have A18_19 := A18.keep Kq19
        have Zs19 : n0 ≤ T19.heap.size := Nat.le_trans Zs18 Kq19.1
        obtain ⟨cq20, kq20, q20a, q20b, q20c⟩ := isOf hZ rfl A18_19
        obtain ⟨_, _, ⟨T20, L20, k20, n20⟩, -, X20, ⟨Lc20, hQ20, l20, y20, z20⟩, st20⟩ := X19.virtualBack hx (y := (⟨"com/example/constraint/constraint/RoundRatios$Pair", "ratio", "()D"⟩ : MethodName)) (z := (⟨"com/example/constraint/constraint/RoundRatios$Pair", "ratio", "()D"⟩ : MethodName)) hown (mvT hZ (own_w hw 18 rfl)) (mvT hZ (own_w hw 19 rfl)) (notFace_of_selects (args := #[]) (mvT hZ (own_w hw 21 rfl))) (mvT hZ (own_w hw 21 rfl)) (mvT hZ (own_w hw 20 rfl)) (by decide) (backOf (W := 0) (rm4 l Z a0 hw [] b18 (qk * qp) qp T19.heap n0 Zs19 Fa19 Fb19 (own_nn (qk * qp) qp hpp0 (own_small _ (by omega)))) hZ (own_w hw 22 rfl) (own_w hw 2 rfl) (by decide) (by decide)) q20a q20c (g := (mkF m 113 #[.val (.long qc), .second, .val (.int pk), .val (.int pp), .val (.int pm), .val (.int (pm &&& (3 : Int32))), .val (.long qk), .second, .val (.long qp), .second] [(.ref b18)])) rfl (by rw [hml]; rfl) (Steps.refl _) (argsL := []) (rest := []) (lenOf own_pd2 rfl) rfl (by show 2 * 0 + _ ≤ _; exact Nat.le_of_eq rfl) (hb hby at_113) (fun _ _ => ⟨rfl, rfl, (by decide : 1 + 0 ≤ _), (by decide : 2 + 0 ≤ _)⟩)
        dsimp only [Pt.U, Pt.locs, Pt.cells, Pt.slots] at X20 l20 y20 z20 st20 hQ20
        subst l20 y20 z20
        obtain ⟨Nq20, rfl, eq20⟩ := hQ20
        have N20 := Fr.app N19 Nq20
        refine own_pre (fun t k => st20.trans k) ?_
        refine own_pre (A := (T20.setTop (mkF m 128 #[.val (.long qc), .second, .val (.int pk), .val (.int pp), .val (.int pm), .val (.int (pm &&& (3 : Int32))), .val (.long qk), .second, .val (.long qp), .second] [(.int (1 : Int32))]))) ?_ ?_
        · intro t k
          show Steps p.tables e below (T20.setTop (mkF m 116 #[.val (.long qc), .second, .val (.int pk), .val (.int pp), .val (.int pm), .val (.int (pm &&& (3 : Int32))), .val (.long qk), .second, .val (.long qp), .second] [(.double (FP.ddiv (FP.l2d (qk * qp)) (FP.l2d qp)))])) _
          refine XS.lload X20.here hx rfl (hb hby at_116) rfl ?_
          refine XS.l2dS X20.here hx rfl (hb hby at_118) rfl rfl ?_
          refine XS.dcmpS X20.here hx rfl (hb hby at_119) rfl rfl ?_
          refine XS.ifNo X20.here hx rfl (hb hby at_120) rfl ((if0 _ _).trans (teq (own_f2 qk qp hkk2 hpp : (cmpValue (FP.dcmp (FP.ddiv (FP.l2d (qk * qp)) (FP.l2d qp)) (FP.l2d qk)) .l) = (0 : Int32))).2) ?_
          refine XS.iconst X20.here hx rfl (hb hby at_123) ?_
          show Steps p.tables e below (T20.setTop (mkF m 124 #[.val (.long qc), .second, .val (.int pk), .val (.int pp), .val (.int pm), .val (.int (pm &&& (3 : Int32))), .val (.long qk), .second, .val (.long qp), .second] [(.int (1 : Int32))])) _
          refine XS.goto X20.here hx rfl (pc0 := 124) (pc' := 128) rfl (hb hby at_124) (by decide) (by decide) ?_
          exact k
        obtain ⟨fs, hr, hrun, hended, hW, hsame⟩ := X20.leave (hlocks := BodyLoose.notSynchronized Bd) (v := some (.int (1 : Int32))) (fun h => by rw [Bd.returns] at h; cases h)
        refine ⟨_, _, retOut X20 hx Bd.returns rfl (Or.inl ⟨rfl, Or.inr (Or.inl rfl), _, rfl⟩) (hb hby at_128) hr, hrun, hended, _, _, rfl, ?_, ⟨_, rfl⟩, hW, hsame.mono (by decide) (by decide)⟩
        show own_Q0 h0 n0 _ T20.heap _
        rw [eq20]
        exact ⟨rfl, N20⟩
      · skip
        refine own_pre (A := (s₁.setTop (mkF m 129 #[.val (.long qc), .second, .val (.int pk), .val (.int pp), .val (.int pm), .val (.int (pm &&& (3 : Int32))), .unset, .unset, .unset, .unset] []))) ?_ ?_
        · intro t k
          refine XS.icmpYes X0.here hx rfl (pc0 := 71) (pc' := 129) rfl (hb hby at_71) rfl (feq hc15).2 (by decide) (by decide) ?_
          exact k
        refine own_pre (A := (s₁.setTop (mkF m 135 #[.val (.long qc), .second, .val (.int pk), .val (.int pp), .val (.int pm), .val (.int (pm &&& (3 : Int32))), .val (.long ((pk >>> ((2 : Int32) &&& 31)).toInt64)), .second, .unset, .unset] []))) ?_ ?_
        · intro t k
          show Steps p.tables e below (s₁.setTop (mkF m 129 #[.val (.long qc), .second, .val (.int pk), .val (.int pp), .val (.int pm), .val (.int (pm &&& (3 : Int32))), .unset, .unset, .unset, .unset] [])) _
          refine XS.iloadN X0.here hx rfl (hb hby at_129) rfl ?_
          refine XS.iconst X0.here hx rfl (hb hby at_130) ?_
          refine XS.ishr X0.here hx rfl (hb hby at_131) rfl ?_
          refine XS.i2l X0.here hx rfl (hb hby at_132) rfl ?_
          show Steps p.tables e below (s₁.setTop (mkF m 133 #[.val (.long qc), .second, .val (.int pk), .val (.int pp), .val (.int pm), .val (.int (pm &&& (3 : Int32))), .unset, .unset, .unset, .unset] [(.long ((pk >>> ((2 : Int32) &&& 31)).toInt64))])) _
          refine XS.lstore X0.here hx rfl (hb hby at_133) rfl (l' := #[.val (.long qc), .second, .val (.int pk), .val (.int pp), .val (.int pm), .val (.int (pm &&& (3 : Int32))), .val (.long ((pk >>> ((2 : Int32) &&& 31)).toInt64)), .second, .unset, .unset]) rfl ?_
          exact k
        obtain ⟨qk, hqk⟩ : ∃ z : Int64, z = ((pk >>> ((2 : Int32) &&& 31)).toInt64) := ⟨_, rfl⟩
        rw [← hqk]
        have hkk : -536870912 ≤ qk.toInt ∧ qk.toInt ≤ 536870912 := by rw [hqk]; exact own_k3 _
        refine own_pre (A := (s₁.setTop (mkF m 145 #[.val (.long qc), .second, .val (.int pk), .val (.int pp), .val (.int pm), .val (.int (pm &&& (3 : Int32))), .val (.long qk), .second, .val (.double (FP.dadd (FP.l2d qk) (4602678819172646912 : UInt64))), .second] [(.int pp)]))) ?_ ?_
        · intro t k
          show Steps p.tables e below (s₁.setTop (mkF m 135 #[.val (.long qc), .second, .val (.int pk), .val (.int pp), .val (.int pm), .val (.int (pm &&& (3 : Int32))), .val (.long qk), .second, .unset, .unset] [])) _
          refine XS.lload X0.here hx rfl (hb hby at_135) rfl ?_
          refine XS.l2dS X0.here hx rfl (hb hby at_137) rfl rfl ?_
          show Steps p.tables e below (s₁.setTop (mkF m 138 #[.val (.long qc), .second, .val (.int pk), .val (.int pp), .val (.int pm), .val (.int (pm &&& (3 : Int32))), .val (.long qk), .second, .unset, .unset] [(.double (FP.l2d qk))])) _
          refine X0.ldc2DoubleC hx hown (mvT hZ (own_w hw 23 rfl)) (g := (mkF m 138 #[.val (.long qc), .second, .val (.int pk), .val (.int pp), .val (.int pm), .val (.int (pm &&& (3 : Int32))), .val (.long qk), .second, .unset, .unset] [(.double (FP.l2d qk))])) rfl (hb hby at_138) _ ?_
          show Steps p.tables e below (s₁.setTop (mkF m 141 #[.val (.long qc), .second, .val (.int pk), .val (.int pp), .val (.int pm), .val (.int (pm &&& (3 : Int32))), .val (.long qk), .second, .unset, .unset] [(.double (4602678819172646912 : UInt64)), (.double (FP.l2d qk))])) _
          refine XS.daddS X0.here hx rfl (hb hby at_141) rfl (own_sum_nn _ hkk) rfl ?_
          show Steps p.tables e below (s₁.setTop (mkF m 142 #[.val (.long qc), .second, .val (.int pk), .val (.int pp), .val (.int pm), .val (.int (pm &&& (3 : Int32))), .val (.long qk), .second, .unset, .unset] [(.double (FP.dadd (FP.l2d qk) (4602678819172646912 : UInt64)))])) _
          refine XS.dstore X0.here hx rfl (hb hby at_142) rfl (l' := #[.val (.long qc), .second, .val (.int pk), .val (.int pp), .val (.int pm), .val (.int (pm &&& (3 : Int32))), .val (.long qk), .second, .val (.double (FP.dadd (FP.l2d qk) (4602678819172646912 : UInt64))), .second]) rfl ?_
          refine XS.iloadN X0.here hx rfl (hb hby at_144) rfl ?_
          exact k
        by_cases hc21 : pp < (0 : Int32)
        · skip
          refine own_pre (A := (s₁.setTop (mkF m 148 #[.val (.long qc), .second, .val (.int pk), .val (.int pp), .val (.int pm), .val (.int (pm &&& (3 : Int32))), .val (.long qk), .second, .val (.double (FP.dadd (FP.l2d qk) (4602678819172646912 : UInt64))), .second] []))) ?_ ?_
          · intro t k
            refine XS.ifNo X0.here hx rfl (hb hby at_145) rfl ((if0 _ _).trans (tlt hc21).2.1) ?_
            exact k
          obtain ⟨T22, h22, X22, e22, E22, A22, D22, -, st22⟩ := newO X0 hx hZ hown (own_w hw 0 rfl) (own_w hw 1 rfl) (own_w hw 2 rfl) e0 (g := (mkF m 148 #[.val (.long qc), .second, .val (.int pk), .val (.int pp), .val (.int pm), .val (.int (pm &&& (3 : Int32))), .val (.long qk), .second, .val (.double (FP.dadd (FP.l2d qk) (4602678819172646912 : UInt64))), .second] [])) rfl (hb hby at_148) (by decide) (by decide)
          obtain ⟨b22, g22⟩ : ∃ z, z = h0.size := ⟨_, rfl⟩
          rw [← g22] at A22 D22 st22
          have gn_b22 : n0 ≤ b22 := Nat.le_trans Z0 (Nat.le_of_eq g22.symm)
          have Zs22 : n0 ≤ h22.size := Nat.le_trans Z0 E22.1
          have Kc22 : Keep h0 h22 [] := (Keep.refl h0 []).ext E22
          have F22_constraintNanos : Fld Z h22 b22 "com/example/constraint/constraint/RoundRatios$Pair" "constraintNanos" "J" (.long (0 : Int64)) := D22 (Or.inr (own_w hw 15 rfl)) (ty := .long) (by decide)
          have F22_peerNanos : Fld Z h22 b22 "com/example/constraint/constraint/RoundRatios$Pair" "peerNanos" "J" (.long (0 : Int64)) := D22 (Or.inr (own_w hw 17 rfl)) (ty := .long) (by decide)
          refine own_pre (fun t k => st22 t k) ?_
          refine own_pre (A := (T22.setTop (mkF m 163 #[.val (.long qc), .second, .val (.int pk), .val (.int pp), .val (.int pm), .val (.int (pm &&& (3 : Int32))), .val (.long qk), .second, .val (.double (FP.dadd (FP.l2d qk) (4602678819172646912 : UInt64))), .second] [(.long (-2 : Int64)), (.long (((2 : Int64) * qk) + (1 : Int64))), (.ref b22), (.ref b22)]))) ?_ ?_
          · intro t k
            show Steps p.tables e below (T22.setTop (mkF m 151 #[.val (.long qc), .second, .val (.int pk), .val (.int pp), .val (.int pm), .val (.int (pm &&& (3 : Int32))), .val (.long qk), .second, .val (.double (FP.dadd (FP.l2d qk) (4602678819172646912 : UInt64))), .second] [(.ref b22)])) _
            refine XS.dup X22.here hx rfl (hb hby at_151) rfl rfl ?_
            show Steps p.tables e below (T22.setTop (mkF m 152 #[.val (.long qc), .second, .val (.int pk), .val (.int pp), .val (.int pm), .val (.int (pm &&& (3 : Int32))), .val (.long qk), .second, .val (.double (FP.dadd (FP.l2d qk) (4602678819172646912 : UInt64))), .second] [(.ref b22), (.ref b22)])) _
            refine X22.ldc2Long hx hown (mvT hZ (own_w hw 24 rfl)) (g := (mkF m 152 #[.val (.long qc), .second, .val (.int pk), .val (.int pp), .val (.int pm), .val (.int (pm &&& (3 : Int32))), .val (.long qk), .second, .val (.double (FP.dadd (FP.l2d qk) (4602678819172646912 : UInt64))), .second] [(.ref b22), (.ref b22)])) rfl (hb hby at_152) _ ?_
            show Steps p.tables e below (T22.setTop (mkF m 155 #[.val (.long qc), .second, .val (.int pk), .val (.int pp), .val (.int pm), .val (.int (pm &&& (3 : Int32))), .val (.long qk), .second, .val (.double (FP.dadd (FP.l2d qk) (4602678819172646912 : UInt64))), .second] [(.long (2 : Int64)), (.ref b22), (.ref b22)])) _
            refine XS.lload X22.here hx rfl (hb hby at_155) rfl ?_
            refine XS.lmul X22.here hx rfl (hb hby at_157) rfl ?_
            refine XS.lconst X22.here hx rfl (hb hby at_158) ?_
            refine XS.ladd X22.here hx rfl (hb hby at_159) rfl ?_
            show Steps p.tables e below (T22.setTop (mkF m 160 #[.val (.long qc), .second, .val (.int pk), .val (.int pp), .val (.int pm), .val (.int (pm &&& (3 : Int32))), .val (.long qk), .second, .val (.double (FP.dadd (FP.l2d qk) (4602678819172646912 : UInt64))), .second] [(.long (((2 : Int64) * qk) + (1 : Int64))), (.ref b22), (.ref b22)])) _
            refine X22.ldc2Long hx hown (mvT hZ (own_w hw 25 rfl)) (g := (mkF m 160 #[.val (.long qc), .second, .val (.int pk), .val (.int pp), .val (.int pm), .val (.int (pm &&& (3 : Int32))), .val (.long qk), .second, .val (.double (FP.dadd (FP.l2d qk) (4602678819172646912 : UInt64))), .second] [(.long (((2 : Int64) * qk) + (1 : Int64))), (.ref b22), (.ref b22)])) rfl (hb hby at_160) _ ?_
            exact k
          obtain ⟨_, _, ⟨T23, L23, k23, n23⟩, -, X23, ⟨Lc23, hQ23, l23, y23, z23⟩, st23⟩ := X22.specialBack hx (y := (⟨"com/example/constraint/constraint/RoundRatios$Pair", "<init>", "(JJ)V"⟩ : MethodName)) rfl hown (mvT hZ (own_w hw 3 rfl)) (mvT hZ (own_w hw 4 rfl)) (mvT hZ (own_w hw 5 rfl)) (by decide) (backOf (W := 1) (rm1 l Z a0 hw [] b22 (((2 : Int64) * qk) + (1 : Int64)) (-2 : Int64) h22 n0 Zs22 A22 F22_constraintNanos F22_peerNanos gn_b22) hZ (own_w hw 5 rfl) (own_w hw 2 rfl) (by decide) (by decide)) (g := (mkF m 163 #[.val (.long qc), .second, .val (.int pk), .val (.int pp), .val (.int pm), .val (.int (pm &&& (3 : Int32))), .val (.long qk), .second, .val (.double (FP.dadd (FP.l2d qk) (4602678819172646912 : UInt64))), .second] [(.long (-2 : Int64)), (.long (((2 : Int64) * qk) + (1 : Int64))), (.ref b22), (.ref b22)])) rfl (by rw [hml]; rfl) (Steps.refl _) (a := b22) (argsL := [(.long (((2 : Int64) * qk) + (1 : Int64))), (.long (-2 : Int64))]) (rest := [(.ref b22)]) (lenOf own_pd1 rfl) rfl (by show 2 * 0 + _ ≤ _; exact Nat.le_of_eq rfl) (hb hby at_163) (fun _ _ => ⟨rfl, e22, (by decide : 1 + 0 ≤ _), (by decide : 2 + 0 ≤ _)⟩)
          dsimp only [Pt.U, Pt.locs, Pt.cells, Pt.slots] at X23 l23 y23 z23 st23 hQ23
          subst l23 y23 z23
          obtain ⟨rfl, Nq23, Kq23, Fa23, Fb23⟩ := hQ23
          have N23 := Fr.app N0 Nq23
          refine own_pre (fun t k => st23.trans k) ?_
          have A22_23 := A22.keep Kq23
          have Zs23 : n0 ≤ T23.heap.size := Nat.le_trans Zs22 Kq23.1
          obtain ⟨cq24, kq24, q24a, q24b, q24c⟩ := isOf hZ rfl A22_23
          obtain ⟨_, _, ⟨T24, L24, k24, n24⟩, -, X24, ⟨Lc24, hQ24, l24, y24, z24⟩, st24⟩ := X23.virtualBack hx (y := (⟨"com/example/constraint/constraint/RoundRatios$Pair", "ratio", "()D"⟩ : MethodName)) (z := (⟨"com/example/constraint/constraint/RoundRatios$Pair", "ratio", "()D"⟩ : MethodName)) hown (mvT hZ (own_w hw 18 rfl)) (mvT hZ (own_w hw 19 rfl)) (notFace_of_selects (args := #[]) (mvT hZ (own_w hw 21 rfl))) (mvT hZ (own_w hw 21 rfl)) (mvT hZ (own_w hw 20 rfl)) (by decide) (backOf (W := 0) (rm4 l Z a0 hw [] b22 (((2 : Int64) * qk) + (1 : Int64)) (-2 : Int64) T23.heap n0 Zs23 Fa23 Fb23 (own_nn (((2 : Int64) * qk) + (1 : Int64)) (-2 : Int64) (by decide) (own_small _ (by decide)))) hZ (own_w hw 22 rfl) (own_w hw 2 rfl) (by decide) (by decide)) q24a q24c (g := (mkF m 166 #[.val (.long qc), .second, .val (.int pk), .val (.int pp), .val (.int pm), .val (.int (pm &&& (3 : Int32))), .val (.long qk), .second, .val (.double (FP.dadd (FP.l2d qk) (4602678819172646912 : UInt64))), .second] [(.ref b22)])) rfl (by rw [hml]; rfl) (Steps.refl _) (argsL := []) (rest := []) (lenOf own_pd2 rfl) rfl (by show 2 * 0 + _ ≤ _; exact Nat.le_of_eq rfl) (hb hby at_166) (fun _ _ => ⟨rfl, rfl, (by decide : 1 + 0 ≤ _), (by decide : 2 + 0 ≤ _)⟩)
          dsimp only [Pt.U, Pt.locs, Pt.cells, Pt.slots] at X24 l24 y24 z24 st24 hQ24
          subst l24 y24 z24
          obtain ⟨Nq24, rfl, eq24⟩ := hQ24
          have N24 := Fr.app N23 Nq24
          refine own_pre (fun t k => st24.trans k) ?_
          refine own_pre (A := (T24.setTop (mkF m 181 #[.val (.long qc), .second, .val (.int pk), .val (.int pp), .val (.int pm), .val (.int (pm &&& (3 : Int32))), .val (.long qk), .second, .val (.double (FP.dadd (FP.l2d qk) (4602678819172646912 : UInt64))), .second] [(.int (1 : Int32))]))) ?_ ?_
          · intro t k
            show Steps p.tables e below (T24.setTop (mkF m 169 #[.val (.long qc), .second, .val (.int pk), .val (.int pp), .val (.int pm), .val (.int (pm &&& (3 : Int32))), .val (.long qk), .second, .val (.double (FP.dadd (FP.l2d qk) (4602678819172646912 : UInt64))), .second] [(.double (FP.ddiv (FP.l2d (((2 : Int64) * qk) + (1 : Int64))) (FP.l2d (-2 : Int64))))])) _
            refine XS.dload X24.here hx rfl (hb hby at_169) rfl ?_
            refine XS.dnegS X24.here hx rfl (hb hby at_171) rfl rfl ?_
            refine XS.dcmpS X24.here hx rfl (hb hby at_172) rfl rfl ?_
            refine XS.ifNo X24.here hx rfl (hb hby at_173) rfl ((if0 _ _).trans (teq (own_f4 qk hkk : (cmpValue (FP.dcmp (FP.ddiv (FP.l2d (((2 : Int64) * qk) + (1 : Int64))) (FP.l2d (-2 : Int64))) (FP.dneg (FP.dadd (FP.l2d qk) (4602678819172646912 : UInt64)))) .l) = (0 : Int32))).2) ?_
            refine XS.iconst X24.here hx rfl (hb hby at_176) ?_
            show Steps p.tables e below (T24.setTop (mkF m 177 #[.val (.long qc), .second, .val (.int pk), .val (.int pp), .val (.int pm), .val (.int (pm &&& (3 : Int32))), .val (.long qk), .second, .val (.double (FP.dadd (FP.l2d qk) (4602678819172646912 : UInt64))), .second] [(.int (1 : Int32))])) _
            refine XS.goto X24.here hx rfl (pc0 := 177) (pc' := 181) rfl (hb hby at_177) (by decide) (by decide) ?_
            exact k
          obtain ⟨fs, hr, hrun, hended, hW, hsame⟩ := X24.leave (hlocks := BodyLoose.notSynchronized Bd) (v := some (.int (1 : Int32))) (fun h => by rw [Bd.returns] at h; cases h)
          refine ⟨_, _, retOut X24 hx Bd.returns rfl (Or.inl ⟨rfl, Or.inr (Or.inl rfl), _, rfl⟩) (hb hby at_181) hr, hrun, hended, _, _, rfl, ?_, ⟨_, rfl⟩, hW, hsame.mono (by decide) (by decide)⟩
          show own_Q0 h0 n0 _ T24.heap _
          rw [eq24]
          exact ⟨rfl, N24⟩
        · skip
          refine own_pre (A := (s₁.setTop (mkF m 182 #[.val (.long qc), .second, .val (.int pk), .val (.int pp), .val (.int pm), .val (.int (pm &&& (3 : Int32))), .val (.long qk), .second, .val (.double (FP.dadd (FP.l2d qk) (4602678819172646912 : UInt64))), .second] []))) ?_ ?_
          · intro t k
            refine XS.ifYes X0.here hx rfl (pc0 := 145) (pc' := 182) rfl (hb hby at_145) rfl ((if0 _ _).trans (flt hc21).2.1) (by decide) (by decide) ?_
            exact k
          obtain ⟨T25, h25, X25, e25, E25, A25, D25, -, st25⟩ := newO X0 hx hZ hown (own_w hw 0 rfl) (own_w hw 1 rfl) (own_w hw 2 rfl) e0 (g := (mkF m 182 #[.val (.long qc), .second, .val (.int pk), .val (.int pp), .val (.int pm), .val (.int (pm &&& (3 : Int32))), .val (.long qk), .second, .val (.double (FP.dadd (FP.l2d qk) (4602678819172646912 : UInt64))), .second] [])) rfl (hb hby at_182) (by decide) (by decide)
          obtain ⟨b25, g25⟩ : ∃ z, z = h0.size := ⟨_, rfl⟩
          rw [← g25] at A25 D25 st25
          have gn_b25 : n0 ≤ b25 := Nat.le_trans Z0 (Nat.le_of_eq g25.symm)
          have Zs25 : n0 ≤ h25.size := Nat.le_trans Z0 E25.1
          have Kc25 : Keep h0 h25 [] := (Keep.refl h0 []).ext E25
          have F25_constraintNanos : Fld Z h25 b25 "com/example/constraint/constraint/RoundRatios$Pair" "constraintNanos" "J" (.long (0 : Int64)) := D25 (Or.inr (own_w hw 15 rfl)) (ty := .long) (by decide)
          have F25_peerNanos : Fld Z h25 b25 "com/example/constraint/constraint/RoundRatios$Pair" "peerNanos" "J" (.long (0 : Int64)) := D25 (Or.inr (own_w hw 17 rfl)) (ty := .long) (by decide)
          refine own_pre (fun t k => st25 t k) ?_
          refine own_pre (A := (T25.setTop (mkF m 197 #[.val (.long qc), .second, .val (.int pk), .val (.int pp), .val (.int pm), .val (.int (pm &&& (3 : Int32))), .val (.long qk), .second, .val (.double (FP.dadd (FP.l2d qk) (4602678819172646912 : UInt64))), .second] [(.long (2 : Int64)), (.long (((2 : Int64) * qk) + (1 : Int64))), (.ref b25), (.ref b25)]))) ?_ ?_
          · intro t k
            show Steps p.tables e below (T25.setTop (mkF m 185 #[.val (.long qc), .second, .val (.int pk), .val (.int pp), .val (.int pm), .val (.int (pm &&& (3 : Int32))), .val (.long qk), .second, .val (.double (FP.dadd (FP.l2d qk) (4602678819172646912 : UInt64))), .second] [(.ref b25)])) _
            refine XS.dup X25.here hx rfl (hb hby at_185) rfl rfl ?_
            show Steps p.tables e below (T25.setTop (mkF m 186 #[.val (.long qc), .second, .val (.int pk), .val (.int pp), .val (.int pm), .val (.int (pm &&& (3 : Int32))), .val (.long qk), .second, .val (.double (FP.dadd (FP.l2d qk) (4602678819172646912 : UInt64))), .second] [(.ref b25), (.ref b25)])) _
            refine X25.ldc2Long hx hown (mvT hZ (own_w hw 24 rfl)) (g := (mkF m 186 #[.val (.long qc), .second, .val (.int pk), .val (.int pp), .val (.int pm), .val (.int (pm &&& (3 : Int32))), .val (.long qk), .second, .val (.double (FP.dadd (FP.l2d qk) (4602678819172646912 : UInt64))), .second] [(.ref b25), (.ref b25)])) rfl (hb hby at_186) _ ?_
            show Steps p.tables e below (T25.setTop (mkF m 189 #[.val (.long qc), .second, .val (.int pk), .val (.int pp), .val (.int pm), .val (.int (pm &&& (3 : Int32))), .val (.long qk), .second, .val (.double (FP.dadd (FP.l2d qk) (4602678819172646912 : UInt64))), .second] [(.long (2 : Int64)), (.ref b25), (.ref b25)])) _
            refine XS.lload X25.here hx rfl (hb hby at_189) rfl ?_
            refine XS.lmul X25.here hx rfl (hb hby at_191) rfl ?_
            refine XS.lconst X25.here hx rfl (hb hby at_192) ?_
            refine XS.ladd X25.here hx rfl (hb hby at_193) rfl ?_
            show Steps p.tables e below (T25.setTop (mkF m 194 #[.val (.long qc), .second, .val (.int pk), .val (.int pp), .val (.int pm), .val (.int (pm &&& (3 : Int32))), .val (.long qk), .second, .val (.double (FP.dadd (FP.l2d qk) (4602678819172646912 : UInt64))), .second] [(.long (((2 : Int64) * qk) + (1 : Int64))), (.ref b25), (.ref b25)])) _
            refine X25.ldc2Long hx hown (mvT hZ (own_w hw 24 rfl)) (g := (mkF m 194 #[.val (.long qc), .second, .val (.int pk), .val (.int pp), .val (.int pm), .val (.int (pm &&& (3 : Int32))), .val (.long qk), .second, .val (.double (FP.dadd (FP.l2d qk) (4602678819172646912 : UInt64))), .second] [(.long (((2 : Int64) * qk) + (1 : Int64))), (.ref b25), (.ref b25)])) rfl (hb hby at_194) _ ?_
            exact k
          obtain ⟨_, _, ⟨T26, L26, k26, n26⟩, -, X26, ⟨Lc26, hQ26, l26, y26, z26⟩, st26⟩ := X25.specialBack hx (y := (⟨"com/example/constraint/constraint/RoundRatios$Pair", "<init>", "(JJ)V"⟩ : MethodName)) rfl hown (mvT hZ (own_w hw 3 rfl)) (mvT hZ (own_w hw 4 rfl)) (mvT hZ (own_w hw 5 rfl)) (by decide) (backOf (W := 1) (rm1 l Z a0 hw [] b25 (((2 : Int64) * qk) + (1 : Int64)) (2 : Int64) h25 n0 Zs25 A25 F25_constraintNanos F25_peerNanos gn_b25) hZ (own_w hw 5 rfl) (own_w hw 2 rfl) (by decide) (by decide)) (g := (mkF m 197 #[.val (.long qc), .second, .val (.int pk), .val (.int pp), .val (.int pm), .val (.int (pm &&& (3 : Int32))), .val (.long qk), .second, .val (.double (FP.dadd (FP.l2d qk) (4602678819172646912 : UInt64))), .second] [(.long (2 : Int64)), (.long (((2 : Int64) * qk) + (1 : Int64))), (.ref b25), (.ref b25)])) rfl (by rw [hml]; rfl) (Steps.refl _) (a := b25) (argsL := [(.long (((2 : Int64) * qk) + (1 : Int64))), (.long (2 : Int64))]) (rest := [(.ref b25)]) (lenOf own_pd1 rfl) rfl (by show 2 * 0 + _ ≤ _; exact Nat.le_of_eq rfl) (hb hby at_197) (fun _ _ => ⟨rfl, e25, (by decide : 1 + 0 ≤ _), (by decide : 2 + 0 ≤ _)⟩)
          dsimp only [Pt.U, Pt.locs, Pt.cells, Pt.slots] at X26 l26 y26 z26 st26 hQ26
          subst l26 y26 z26
          obtain ⟨rfl, Nq26, Kq26, Fa26, Fb26⟩ := hQ26
          have N26 := Fr.app N0 Nq26
          refine own_pre (fun t k => st26.trans k) ?_
          have A25_26 := A25.keep Kq26
          have Zs26 : n0 ≤ T26.heap.size := Nat.le_trans Zs25 Kq26.1
          obtain ⟨cq27, kq27, q27a, q27b, q27c⟩ := isOf hZ rfl A25_26
          obtain ⟨_, _, ⟨T27, L27, k27, n27⟩, -, X27, ⟨Lc27, hQ27, l27, y27, z27⟩, st27⟩ := X26.virtualBack hx (y := (⟨"com/example/constraint/constraint/RoundRatios$Pair", "ratio", "()D"⟩ : MethodName)) (z := (⟨"com/example/constraint/constraint/RoundRatios$Pair", "ratio", "()D"⟩ : MethodName)) hown (mvT hZ (own_w hw 18 rfl)) (mvT hZ (own_w hw 19 rfl)) (notFace_of_selects (args := #[]) (mvT hZ (own_w hw 21 rfl))) (mvT hZ (own_w hw 21 rfl)) (mvT hZ (own_w hw 20 rfl)) (by decide) (backOf (W := 0) (rm4 l Z a0 hw [] b25 (((2 : Int64) * qk) + (1 : Int64)) (2 : Int64) T26.heap n0 Zs26 Fa26 Fb26 (own_nn (((2 : Int64) * qk) + (1 : Int64)) (2 : Int64) (by decide) (own_small _ (by decide)))) hZ (own_w hw 22 rfl) (own_w hw 2 rfl) (by decide) (by decide)) q27a q27c (g := (mkF m 200 #[.val (.long qc), .second, .val (.int pk), .val (.int pp), .val (.int pm), .val (.int (pm &&& (3 : Int32))), .val (.long qk), .second, .val (.double (FP.dadd (FP.l2d qk) (4602678819172646912 : UInt64))), .second] [(.ref b25)])) rfl (by rw [hml]; rfl) (Steps.refl _) (argsL := []) (rest := []) (lenOf own_pd2 rfl) rfl (by show 2 * 0 + _ ≤ _; exact Nat.le_of_eq rfl) (hb hby at_200) (fun _ _ => ⟨rfl, rfl, (by decide : 1 + 0 ≤ _), (by decide : 2 + 0 ≤ _)⟩)
          dsimp only [Pt.U, Pt.locs, Pt.cells, Pt.slots] at X27 l27 y27 z27 st27 hQ27
          subst l27 y27 z27
          obtain ⟨Nq27, rfl, eq27⟩ := hQ27
          have N27 := Fr.app N26 Nq27
          refine own_pre (fun t k => st27.trans k) ?_
          refine own_pre (A := (T27.setTop (mkF m 214 #[.val (.long qc), .second, .val (.int pk), .val (.int pp), .val (.int pm), .val (.int (pm &&& (3 : Int32))), .val (.long qk), .second, .val (.double (FP.dadd (FP.l2d qk) (4602678819172646912 : UInt64))), .second] [(.int (1 : Int32))]))) ?_ ?_
          · intro t k
            show Steps p.tables e below (T27.setTop (mkF m 203 #[.val (.long qc), .second, .val (.int pk), .val (.int pp), .val (.int pm), .val (.int (pm &&& (3 : Int32))), .val (.long qk), .second, .val (.double (FP.dadd (FP.l2d qk) (4602678819172646912 : UInt64))), .second] [(.double (FP.ddiv (FP.l2d (((2 : Int64) * qk) + (1 : Int64))) (FP.l2d (2 : Int64))))])) _
            refine XS.dload X27.here hx rfl (hb hby at_203) rfl ?_
            refine XS.dcmpS X27.here hx rfl (hb hby at_205) rfl rfl ?_
            refine XS.ifNo X27.here hx rfl (hb hby at_206) rfl ((if0 _ _).trans (teq (own_f3 qk hkk : (cmpValue (FP.dcmp (FP.ddiv (FP.l2d (((2 : Int64) * qk) + (1 : Int64))) (FP.l2d (2 : Int64))) (FP.dadd (FP.l2d qk) (4602678819172646912 : UInt64))) .l) = (0 : Int32))).2) ?_
            refine XS.iconst X27.here hx rfl (hb hby at_209) ?_
            show Steps p.tables e below (T27.setTop (mkF m 210 #[.val (.long qc), .second, .val (.int pk), .val (.int pp), .val (.int pm), .val (.int (pm &&& (3 : Int32))), .val (.long qk), .second, .val (.double (FP.dadd (FP.l2d qk) (4602678819172646912 : UInt64))), .second] [(.int (1 : Int32))])) _
            refine XS.goto X27.here hx rfl (pc0 := 210) (pc' := 214) rfl (hb hby at_210) (by decide) (by decide) ?_
            exact k
          obtain ⟨fs, hr, hrun, hended, hW, hsame⟩ := X27.leave (hlocks := BodyLoose.notSynchronized Bd) (v := some (.int (1 : Int32))) (fun h => by rw [Bd.returns] at h; cases h)
          refine ⟨_, _, retOut X27 hx Bd.returns rfl (Or.inl ⟨rfl, Or.inr (Or.inl rfl), _, rfl⟩) (hb hby at_214) hr, hrun, hended, _, _, rfl, ?_, ⟨_, rfl⟩, hW, hsame.mono (by decide) (by decide)⟩
          show own_Q0 h0 n0 _ T27.heap _
          rw [eq27]
          exact ⟨rfl, N27⟩
set_option maxRecDepth 65536 in
set_option maxHeartbeats 40000000 in
theorem comes_1 {Post : Tables → Env → Array Value → State → Outcome → State → Prop} (hpost : ∀ tb e args s v u, (limb_1_1.after args s (.returned v) u = true ∧ limb_1_2.after args s (.returned v) u = true ∧ True) → FrameEnd s (.returned v) u (Jvm.fieldLocs frame_1_writes args s ++ Jvm.arrayLocs frame_1_arrays args s ++ Jvm.staticLocs frame_1_statics s) 16 128 → Post tb e args s (.returned v) u) :
    ArmFor flags0 classFile x code maxLocals ret World_1 tables_1 room_1 Calls_1 rest_1 Pre_1 Post := by
  intro l hfl _ _ p e ha hc hk s m args below hf hA hF happ hP
  obtain ⟨hcalls, hrest, hpre⟩ := hP
  obtain ⟨-, -, -, hnamed, -, -, -, hat⟩ := (Spec.applies_iff hf).mp happ
  obtain ⟨hg, hn⟩ := and_e (Cond.before_iff.mp (show (Jvm.Cond.and given_1 narrow_1).before args s = true from hpre))
  obtain ⟨gg1, gg2⟩ := and_e hg
  obtain ⟨gg3, gg4⟩ := and_e gg2
  obtain ⟨gg5, gg6⟩ := and_e gg4
  obtain ⟨gg7, gg8⟩ := and_e gg6
  obtain ⟨w0, w1, w2, w3, rfl⟩ : ∃ w0 w1 w2 w3 : Value, args = #[w0, w1, w2, w3] := by
    have hs : args.size = 4 := by simpa [Cond.value, given_1] using gg1
    obtain ⟨L⟩ := args
    match L, hs with
    | [w0, w1, w2, w3], _ => exact ⟨w0, w1, w2, w3, rfl⟩
  have hw := fun d (hd : d ∈ tables_1) => atoms_spec (ws := Jvm.Cond.code x code maxLocals ret :: tables_1) hat d (List.mem_cons_of_mem _ hd)
  obtain ⟨i0, ei0⟩ := isL_v gg3
  obtain rfl : w0 = (.long i0) := Option.some.inj ei0
  obtain ⟨i1, ei1⟩ := is_v gg5
  obtain rfl : w1 = (.int i1) := Option.some.inj ei1
  obtain ⟨i2, ei2⟩ := is_v gg7
  obtain rfl : w2 = (.int i2) := Option.some.inj ei2
  obtain ⟨i3, ei3⟩ := is_v gg8
  obtain rfl : w3 = (.int i3) := Option.some.inj ei3
  obtain ⟨n, o, h1, h2, h3, _, L, rfl, ⟨rfl, N⟩, hq⟩ := rm0 l s _ hw tables_1 i0 i1 i2 i3 s.heap s.heap.size (Nat.le_refl _) p e ha hc hk s m _ below hf ((Spec.applies_iff_loose hf).mp happ).1 ⟨rfl, State.Warmed39.refl s, rfl⟩ trivial
  refine ⟨n, _, h1, h2, h3, hpost _ _ _ _ _ _ ⟨Cond.after_iff.mpr rfl, Cond.after_iff.mpr (eq_i res_at (Term.int_eval (1)) rfl), trivial⟩ ⟨hq.1, hq.2.1, (hq.2.2.sift fun y hy => Or.inr (N y hy)).mono (by decide) (by decide)⟩⟩
theorem main_1_1 : Claimed_1_1 := comes_1 fun _ _ _ _ _ _ h hF => ⟨h.1, hF⟩
theorem main_1_2 : Claimed_1_2 := comes_1 fun _ _ _ _ _ _ h hF => ⟨h.2.1, hF⟩
end Jvm.Pilot.@@N@@
namespace Jvm.Pilot.@@N@@
open Jvm Jvm.ClassFile Sem Op Lib Jvm.Free Jvm.Stand Jvm.Pilot.@@N@@.Jvm.D
/-! MADE BY PROGRAM (witnessworld.py) out of the Statement's table words and the real class files: 10 classes; the members and pool entries that the words name. The judged class is class 1, her method 1. -/
namespace start1
open Jvm.ClassFile
def u (s : String) : CpInfo := .utf8 (stringToUtf16 s)
/-- a pool by its gaps: so many unusable entries, then the entry; so many at the end -/
def gap : Nat → List CpInfo → List CpInfo
  | 0, r => r
  | n + 1, r => .unusable :: gap n r
def poolList (es : List (Nat × CpInfo)) (last : Nat) : List CpInfo := es.foldr (fun e r => gap e.1 (e.2 :: r)) (gap last [])
def pool (es : List (Nat × CpInfo)) (last : Nat) : Array CpInfo := ⟨poolList es last⟩
def fileOf (pool : Array CpInfo) (this : Nat) (attrs : Array Attribute := #[]) (ms : Array MethodInfo := #[]) (fl : Nat := 33) (sup : Nat := 0) (ifs : Array Nat := #[]) (fds : Array FieldInfo := #[]) : ClassFile where
  minorVersion := 0
  majorVersion := 65
  constantPool := pool
  accessFlags := fl
  thisClass := this
  superClass := sup
  interfaces := ifs
  fields := fds
  methods := ms
  attributes := attrs
def plain (name : String) (sup : Option ClassId) : Class where
  name := name
  kind := .ordinary
  loader := none
  accessFlags := 33
  super := sup
  interfaces := #[]
  cf := none
  fields := #[]
  methods := #[]
  instanceTypes := #[]
  staticTypes := #[]
  resolved := #[]
  callSites := []
  init := .initialized
  statics := none
  mirror := none

def pool0 : Array CpInfo := pool [(5, u "<init>"), (0, u "()V"), (1, .class_ 10), (1, u "java/lang/Object")] 113

def k0c0 : Code := { maxStack := 0, maxLocals := 1, code := object_method_1_code, exceptionTable := #[], attributes := #[] }
def k0m0 : Method := { name := "<init>", desc := "()V", sig := { parameters := [], returnType := none }, accessFlags := 1, code := some k0c0 }
/-- java/lang/Object -/
def k0 : Class := { plain "java/lang/Object" none with
  accessFlags := 33
  interfaces := #[]
  cf := some (fileOf pool0 8 #[] #[{ accessFlags := 1, nameIndex := 5, descriptorIndex := 6, attributes := #[] }] 33 0 #[] #[])
  fields := #[]
  methods := #[k0m0]
  instanceTypes := #[]
  staticTypes := #[]
  resolved := Array.replicate 124 none
  statics := none }

def pool1 : Array CpInfo := pool [(2, .class_ 4), (1, u "java/lang/Object"), (0, u "<init>"), (0, u "()V"), (0, .class_ 8), (0, u "com/example/constraint/constraint/RoundRatios$Pair"), (0, .methodref 7 10), (0, .nameAndType 5 11), (0, u "(JJ)V"), (0, .methodref 7 13), (0, .nameAndType 14 15), (0, u "ratio"), (0, u "()D"), (0, .long 18446744073709551615), (1, .integer 1048575), (0, .double 4602678819172646912), (1, .long 2), (1, .long 18446744073709551614), (1, .class_ 26), (0, u "com/example/constraint/constraint/RoundRatiosRatioPinLaw"), (2, u "law"), (0, u "(JIII)Z")] 7

def k1m0 : Method := { name := "<init>", desc := "()V", sig := { parameters := [], returnType := none }, accessFlags := 1, code := none }
def k1c1 : Code := { maxStack := 6, maxLocals := 10, code := code, exceptionTable := #[], attributes := #[] }
def k1m1 : Method := { name := "law", desc := "(JIII)Z", sig := { parameters := [.long, .int, .int, .int], returnType := some .boolean }, accessFlags := 9, code := some k1c1 }
/-- com/example/constraint/constraint/RoundRatiosRatioPinLaw -/
def k1 : Class := { plain "com/example/constraint/constraint/RoundRatiosRatioPinLaw" (some 0) with
  accessFlags := 49
  interfaces := #[]
  cf := some (fileOf pool1 25 #[] #[{ accessFlags := 1, nameIndex := 5, descriptorIndex := 6, attributes := #[] }, { accessFlags := 9, nameIndex := 29, descriptorIndex := 30, attributes := #[] }] 49 2 #[] #[])
  fields := #[]
  methods := #[k1m0, k1m1]
  instanceTypes := #[]
  staticTypes := #[]
  resolved := Array.replicate 38 none
  statics := none }

def pool2 : Array CpInfo := pool [(1, .methodref 2 3), (0, .class_ 4), (0, .nameAndType 5 6), (0, u "java/lang/Object"), (0, u "<init>"), (0, u "()V"), (0, .class_ 8), (0, u "java/lang/Record")] 13

def k2c0 : Code := { maxStack := 1, maxLocals := 1, code := jdk_30_method_1_code, exceptionTable := #[], attributes := #[] }
def k2m0 : Method := { name := "<init>", desc := "()V", sig := { parameters := [], returnType := none }, accessFlags := 4, code := some k2c0 }
/-- java/lang/Record -/
def k2 : Class := { plain "java/lang/Record" (some 0) with
  accessFlags := 1057
  interfaces := #[]
  cf := some (fileOf pool2 7 #[] #[{ accessFlags := 4, nameIndex := 5, descriptorIndex := 6, attributes := #[] }] 1057 2 #[] #[])
  fields := #[]
  methods := #[k2m0]
  instanceTypes := #[]
  staticTypes := #[]
  resolved := Array.replicate 22 none
  statics := none }

def pool3 : Array CpInfo := pool [(1, .methodref 2 3), (0, .class_ 4), (0, .nameAndType 5 6), (0, u "java/lang/Record"), (0, u "<init>"), (0, u "()V"), (0, .fieldref 8 9), (0, .class_ 10), (0, .nameAndType 11 12), (0, u "com/example/constraint/constraint/RoundRatios$Pair"), (0, u "constraintNanos"), (0, u "J"), (0, .fieldref 8 14), (0, .nameAndType 15 12), (0, u "peerNanos"), (12, u "(JJ)V"), (3, u "ratio"), (0, u "()D"), (7, .class_ 42), (0, u "com/example/constraint/constraint/RoundRatios")] 20

def k3c0 : Code := { maxStack := 3, maxLocals := 5, code := prog_11_method_1_code, exceptionTable := #[], attributes := #[] }
def k3m0 : Method := { name := "<init>", desc := "(JJ)V", sig := { parameters := [.long, .long], returnType := none }, accessFlags := 0, code := some k3c0 }
def k3c1 : Code := { maxStack := 4, maxLocals := 1, code := prog_11_method_2_code, exceptionTable := #[], attributes := #[] }
def k3m1 : Method := { name := "ratio", desc := "()D", sig := { parameters := [], returnType := some .double }, accessFlags := 0, code := some k3c1 }
/-- com/example/constraint/constraint/RoundRatios$Pair -/
def k3 : Class := { plain "com/example/constraint/constraint/RoundRatios$Pair" (some 2) with
  accessFlags := 48
  interfaces := #[]
  cf := some (fileOf pool3 8 #[.nestHost 41] #[{ accessFlags := 0, nameIndex := 5, descriptorIndex := 28, attributes := #[] }, { accessFlags := 0, nameIndex := 32, descriptorIndex := 33, attributes := #[] }] 48 2 #[] #[{ accessFlags := 18, nameIndex := 11, descriptorIndex := 12, attributes := #[] }, { accessFlags := 18, nameIndex := 15, descriptorIndex := 12, attributes := #[] }])
  fields := #[{ name := "constraintNanos", type := .long, accessFlags := 18, slot := 0, constantValue := 0 }, { name := "peerNanos", type := .long, accessFlags := 18, slot := 1, constantValue := 0 }]
  methods := #[k3m0, k3m1]
  instanceTypes := #[.long, .long]
  staticTypes := #[]
  resolved := Array.replicate 63 none
  statics := none }

def pool4 : Array CpInfo := pool [(1, u "java/lang/Cloneable"), (0, .class_ 1), (0, u "java/lang/Object"), (0, .class_ 3)] 3

/-- java/lang/Cloneable -/
def k4 : Class := { plain "java/lang/Cloneable" (some 0) with
  accessFlags := 1537
  interfaces := #[]
  cf := some (fileOf pool4 2 #[] #[] 1537 4 #[] #[])
  fields := #[]
  methods := #[]
  instanceTypes := #[]
  staticTypes := #[]
  resolved := Array.replicate 8 none
  statics := none }

def pool5 : Array CpInfo := pool [(1, u "java/io/Serializable"), (0, .class_ 1), (0, u "java/lang/Object"), (0, .class_ 3)] 3

/-- java/io/Serializable -/
def k5 : Class := { plain "java/io/Serializable" (some 0) with
  accessFlags := 1537
  interfaces := #[]
  cf := some (fileOf pool5 2 #[] #[] 1537 4 #[] #[])
  fields := #[]
  methods := #[]
  instanceTypes := #[]
  staticTypes := #[]
  resolved := Array.replicate 8 none
  statics := none }

/-- the primitive byte -/
def k6 : Class := { plain "byte" none with kind := .primitive 'B', accessFlags := 0x411 }
/-- [B -/
def k7 : Class := { plain "[B" (some 0) with kind := .array 6 .byte, interfaces := #[4, 5], accessFlags := 1041 }

/-- the primitive int -/
def k8 : Class := { plain "int" none with kind := .primitive 'I', accessFlags := 0x411 }
/-- [I -/
def k9 : Class := { plain "[I" (some 0) with kind := .array 8 .int, interfaces := #[4, 5], accessFlags := 1041 }

def heap : Heap := #[]
def classes : Array Class := #[k0, k1, k2, k3, k4, k5, k6, k7, k8, k9]
def interned : List (Array UInt16 × Addr) := []
def slotsUsed : Nat := 0
def theMethod : MethodId := ⟨1, 1⟩
def args0 : Array Value := #[.long 5, .int 7, .int 9, .int 3]
def aboutOver (below : List Frame) : State where
  vm := { classes := classes, interned := interned.toArray }
  heap := heap
  slotsUsed := slotsUsed
  threads := #[{ frames := .invoking theMethod args0 :: below }]
def below0 : List Frame := [.native { method := ⟨0, 0⟩, args := #[] }]
def about1 : State := aboutOver below0
def p0 : Program := .bare "" "" ""
def e0 : Env := launch0.env 0 0 0
theorem w_frames : about1.frames = Frame.invoking theMethod args0 :: below0 := rfl
set_option maxRecDepth 65536 in
theorem w_args : argsFit about1.vm theMethod args0 = true := by decide +kernel
set_option maxRecDepth 65536 in
theorem w_heap : heapFits about1 = true := by decide +kernel
set_option maxRecDepth 65536 in
theorem w_runnable : about1.curStatus? = some .runnable := by decide +kernel
set_option maxRecDepth 65536 in
theorem w_alone : about1.alone = true := by decide +kernel
set_option maxRecDepth 65536 in
theorem w_named : about1.methodNamed? x = some theMethod := by decide +kernel
set_option maxRecDepth 65536 in
theorem w_hears : about1.hears theMethod below0 = true := by decide +kernel
set_option maxRecDepth 65536 in
theorem w_ripe : about1.ripe theMethod args0 below0 = true := by decide +kernel
theorem w_running : about1.status = .running := rfl
set_option maxRecDepth 65536 in
theorem w_room : about1.hasRoom e0.platform room_1 = true :=
  launch0.hasRoom_least _ room_1 (by decide +kernel) (by decide +kernel) (by decide +kernel) (by decide +kernel) (by decide +kernel) (by decide +kernel)
theorem allAtoms_all (ts : List Jvm.Cond) (a : Array Jvm.Value) (st : Jvm.State) : (allAtoms ts).before a st = ts.all (fun c => c.before a st) := by
  induction ts with
  | nil => rfl
  | cons c t ih =>
    show (Jvm.Cond.and c (allAtoms t)).before a st = _
    rw [Jvm.Cond.before_and, ih, List.all_cons]
def words1 : List Jvm.Cond := Jvm.Cond.code x code maxLocals ret :: tables_1
/-- a 'code' word, met by the world's own term for the bytes: nothing is compared byte by byte -/
theorem code_word {y : MethodName} {bytes : ByteArray} {mx : Nat} {rt : Option FieldType} {a : Array Value} {s : State} {m : MethodId} {meth : Method} {c : Code} (h1 : s.methodNamed? y = some m) (h2 : s.vm.method? m = some meth) (h3 : meth.code = some c) (h4 : c.code = bytes)
    (h5 : (c.maxLocals == mx && c.exceptionTable.isEmpty && decide (c.maxStack ≤ mostOperands) && decide (meth.sig.returnType = rt) && !meth.locks && decide (parseMethodDescriptor y.desc = some meth.sig)) = true) : (Jvm.Cond.code y bytes mx rt).before a s = true := by
  simp only [Bool.and_eq_true, beq_iff_eq, Bool.not_eq_true', decide_eq_true_eq] at h5
  obtain ⟨⟨⟨⟨⟨g1, g2⟩, g3⟩, g4⟩, g5⟩, g6⟩ := h5
  simp [Cond.before, Cond.holds, Cond.value, h1, h2, h3, h4, g1, g2, g3, g4, g5, g6]
def isCode : Jvm.Cond → Bool
  | .code _ _ _ _ => true
  | _ => false
theorem all_split {L : List Jvm.Cond} {P : Jvm.Cond → Bool} (h1 : L.all (fun c => isCode c || P c) = true) (h2 : ∀ c ∈ L.filter isCode, P c = true) : L.all P = true := by
  refine List.all_eq_true.mpr fun c hc => ?_
  have h := List.all_eq_true.mp h1 c hc
  rcases Bool.eq_false_or_eq_true (isCode c) with hi | hi
  · exact h2 c (List.mem_filter.mpr ⟨hc, hi⟩)
  · simpa [hi] using h
set_option maxRecDepth 65536 in
theorem w_c0 : (Jvm.Cond.code x code maxLocals ret).before args0 about1 = true := code_word (m := ⟨1, 1⟩) (meth := k1m1) (c := k1c1) (by decide +kernel) rfl rfl rfl (by decide +kernel)
set_option maxRecDepth 65536 in
theorem w_c1 : (Jvm.Cond.code ({ cls := "com/example/constraint/constraint/RoundRatios$Pair", name := "<init>", desc := "(JJ)V" } : Jvm.MethodName) prog_11_method_1_code (5 : Nat) (Option.none : Option Jvm.ClassFile.FieldType)).before args0 about1 = true := code_word (m := ⟨3, 0⟩) (meth := k3m0) (c := k3c0) (by decide +kernel) rfl rfl rfl (by decide +kernel)
set_option maxRecDepth 65536 in
theorem w_c2 : (Jvm.Cond.code ({ cls := "java/lang/Record", name := "<init>", desc := "()V" } : Jvm.MethodName) jdk_30_method_1_code (1 : Nat) (Option.none : Option Jvm.ClassFile.FieldType)).before args0 about1 = true := code_word (m := ⟨2, 0⟩) (meth := k2m0) (c := k2c0) (by decide +kernel) rfl rfl rfl (by decide +kernel)
set_option maxRecDepth 65536 in
theorem w_c3 : (Jvm.Cond.code ({ cls := "java/lang/Object", name := "<init>", desc := "()V" } : Jvm.MethodName) object_method_1_code (1 : Nat) (Option.none : Option Jvm.ClassFile.FieldType)).before args0 about1 = true := code_word (m := ⟨0, 0⟩) (meth := k0m0) (c := k0c0) (by decide +kernel) rfl rfl rfl (by decide +kernel)
set_option maxRecDepth 65536 in
theorem w_c4 : (Jvm.Cond.code ({ cls := "com/example/constraint/constraint/RoundRatios$Pair", name := "ratio", desc := "()D" } : Jvm.MethodName) prog_11_method_2_code (1 : Nat) (Option.some Jvm.ClassFile.FieldType.double)).before args0 about1 = true := code_word (m := ⟨3, 1⟩) (meth := k3m1) (c := k3c1) (by decide +kernel) rfl rfl rfl (by decide +kernel)
def codes1 : List Jvm.Cond := [Jvm.Cond.code x code maxLocals ret, Jvm.Cond.code ({ cls := "com/example/constraint/constraint/RoundRatios$Pair", name := "<init>", desc := "(JJ)V" } : Jvm.MethodName) prog_11_method_1_code (5 : Nat) (Option.none : Option Jvm.ClassFile.FieldType), Jvm.Cond.code ({ cls := "java/lang/Record", name := "<init>", desc := "()V" } : Jvm.MethodName) jdk_30_method_1_code (1 : Nat) (Option.none : Option Jvm.ClassFile.FieldType), Jvm.Cond.code ({ cls := "java/lang/Object", name := "<init>", desc := "()V" } : Jvm.MethodName) object_method_1_code (1 : Nat) (Option.none : Option Jvm.ClassFile.FieldType), Jvm.Cond.code ({ cls := "com/example/constraint/constraint/RoundRatios$Pair", name := "ratio", desc := "()D" } : Jvm.MethodName) prog_11_method_2_code (1 : Nat) (Option.some Jvm.ClassFile.FieldType.double)]
set_option maxRecDepth 65536 in
theorem codes_eq : words1.filter isCode = codes1 := rfl
theorem w_codes : ∀ c ∈ words1.filter isCode, c.before args0 about1 = true := by
  rw [codes_eq]
  intro c hc
  simp only [codes1, List.mem_cons, List.not_mem_nil, or_false] at hc
  rcases hc with rfl | rfl | rfl | rfl | rfl
  · exact w_c0
  · exact w_c1
  · exact w_c2
  · exact w_c3
  · exact w_c4
set_option maxRecDepth 65536 in
theorem w_t1 : (words1.take 24).all (fun c => isCode c || c.before args0 about1) = true := by decide +kernel
set_option maxRecDepth 65536 in
theorem w_t2 : (words1.drop 24).all (fun c => isCode c || c.before args0 about1) = true := by decide +kernel
theorem w_tables : (allAtoms (Jvm.Cond.code x code maxLocals ret :: tables_1)).before args0 about1 = true := by
  rw [allAtoms_all]
  show words1.all (fun c => c.before args0 about1) = true
  refine all_split ?_ w_codes
  rw [← List.take_append_drop 24 words1, List.all_append, w_t1, w_t2]
  rfl
set_option maxRecDepth 65536 in
theorem w_case : (Jvm.Cond.and given_1 narrow_1).before args0 about1 = true := by decide +kernel
theorem w_applies : (headSpec (Jvm.Cond.code x code maxLocals ret :: tables_1) room_1).applies x e0.platform about1 = true :=
  (Spec.applies_iff w_frames).mpr ⟨w_running, w_runnable, w_alone, w_named, w_hears, w_ripe, w_room, w_tables⟩
theorem atStart : AtStart classFile x code maxLocals ret World_1 tables_1 room_1 Calls_1 rest_1 Pre_1 launch0 p0 e0 about1 theMethod args0 below0 :=
  ⟨lists_1, trivial, launch0.admits_env _ _ _, launch0.least_env, fairChoices_fair.cas, fairChoices_fair.clock, w_frames, w_args, w_heap, w_applies, trivial, trivial, w_case⟩
end start1
theorem witness_1 : WitnessClaimed_1 := ⟨start1.p0, start1.e0, start1.about1, start1.theMethod, start1.args0, start1.below0, start1.atStart⟩
end Jvm.Pilot.@@N@@
