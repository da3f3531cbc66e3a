import JvmDerived
import JvmDerived.Pilot.@@N@@Statement
import JvmDerived.Pilot.@@N@@Code
set_option linter.unusedVariables false
set_option linter.unusedSimpArgs false

namespace Jvm.Pilot.@@N@@
open Jvm Jvm.ClassFile Sem Op Lib Jvm.Free Jvm.Stand Jvm.LawKit Jvm.RoadKit Bundle Jvm.Pilot.@@N@@.Jvm.D
theorem own_pre {tb : Tables} {e : Env} {below : List Frame} {A B : State} {C : State → Outcome → Prop} (k : ∀ t, Steps tb e below A t → Steps tb e below B t) (h : ∃ s₂ o, Steps tb e below A s₂ ∧ C s₂ o) : ∃ s₂ o, Steps tb e below B s₂ ∧ C s₂ o := by
  obtain ⟨s2, o, h1, h2⟩ := h
  exact ⟨s2, o, k _ h1, h2⟩
theorem own_lrem {p : Program} {l : Launch} {e : Env} {R : Room} {s : State} {m : MethodId} {args : Array Value} {below : List Frame} {meth : Method} {c : Code} {T : State} {locs : List Loc} {cells slots : Nat} {g : JFrame} {target : State} (X : Stand p l e R s m args below meth c T locs cells slots) (hx : p.tables.exec = Jvm.exec) (hg : g.method = m) {x y : Int64} {rest : List Value} (hd : decode c.code g.pc = .ok (.lrem, 1)) (hs : g.stack = .long y :: .long x :: rest) (hy : y ≠ 0)
    (hr : Steps p.tables e below (T.setTop { g with pc := g.pc + 1, stack := .long (x % y) :: rest }) target) : Steps p.tables e below (T.setTop g) target :=
  XS.lrem X.here hx hg hd hs hy (by rw [lrem_mod]; exact hr)
theorem own_w {wl : List Jvm.Cond} {a0 : Array Value} {Z : State} (h : ∀ d ∈ wl, d.before a0 Z = true) (i : Nat) {d : Jvm.Cond} (g : wl[i]? = some d) : d.before a0 Z = true := h d (List.mem_of_getElem? g)

theorem own_pd0 : parseMethodDescriptor "([I)V" = some ⟨[(.array .int)], none⟩ := by decide +kernel
theorem own_pd1 : parseMethodDescriptor "(II)I" = some ⟨[.int, .int], some .int⟩ := by decide +kernel
theorem own_pd2 : parseMethodDescriptor "(II)Lcom/example/otito/otito/chain/CodePointSet;" = some ⟨[.int, .int], some (.object "com/example/otito/otito/chain/CodePointSet")⟩ := by decide +kernel
theorem own_pd3 : parseMethodDescriptor "()I" = some ⟨[], some .int⟩ := by decide +kernel
theorem own_pd4 : parseMethodDescriptor "()Z" = some ⟨[], some .boolean⟩ := by decide +kernel
theorem own_pd5 : parseMethodDescriptor "(I)Z" = some ⟨[.int], some .boolean⟩ := by decide +kernel
theorem d1_0 : decode jdk_29_method_69_code 0 = .ok (.iload_n 0, 1) := by decide +kernel
theorem d1_1 : decode jdk_29_method_69_code 1 = .ok (.iload_n 1, 1) := by decide +kernel
theorem d1_2 : decode jdk_29_method_69_code 2 = .ok (.if_icmp .gt 7, 3) := by decide +kernel
theorem d1_5 : decode jdk_29_method_69_code 5 = .ok (.iload_n 0, 1) := by decide +kernel
theorem d1_6 : decode jdk_29_method_69_code 6 = .ok (.goto 4, 3) := by decide +kernel
theorem d1_9 : decode jdk_29_method_69_code 9 = .ok (.iload_n 1, 1) := by decide +kernel
theorem d1_10 : decode jdk_29_method_69_code 10 = .ok (.ireturn, 1) := by decide +kernel
theorem own_ef1 (m : MethodId) (x0 : Int32) (x1 : Int32) : entryFrame m #[(.int x0), (.int x1)] 2 = mkF m 0 #[.val (.int x0), .val (.int x1)] [] := by first | (simp [entryFrame, mkF, argsToLocals, Value.category]; done) | rfl
def own_min (px : Int32) (py : Int32) : Int32 := (if py < px then py else px)
def own_Q1 (px : Int32) (py : Int32) (h0 : Heap) (n0 : Nat) (v : Option Value) (h : Heap) (L : List Loc) : Prop := v = some (.int (own_min px py)) ∧ Fr n0 L ∧ h = h0
set_option maxRecDepth 65536 in
set_option maxHeartbeats 40000000 in
theorem rm1 (l : Launch) (Z : State) (a0 : Array Value) (hw : ∀ d ∈ tables_1, d.before a0 Z = true) (ws : List Jvm.Cond) (px : Int32) (py : Int32) (h0 : Heap) (n0 : Nat) (Z0 : n0 ≤ h0.size) :
    MetFree l (⟨"java/lang/Math", "min", "(II)I"⟩ : MethodName) (head1 (Jvm.Cond.code (⟨"java/lang/Math", "min", "(II)I"⟩ : MethodName) jdk_29_method_69_code 2 (some .int) :: ws) ({ frames := 0, cells := 0, slots := 0, locals := 0 } : Room)) (fun a U => a = #[(.int px), (.int py)] ∧ Z.Warmed39 U.vm ∧ U.heap = h0) (fun _ _ _ _ _ => True) (fun _ U o U' => ∃ v L, o = .returned v ∧ own_Q1 px py h0 n0 v U'.heap L ∧ FrameEnd U o U' L ({ frames := 0, cells := 0, slots := 0, locals := 0 } : Room).cells ({ frames := 0, cells := 0, slots := 0, locals := 0 } : Room).slots) := by
  refine MetFree.of_bodySF (Jvm.Free.JP.mathPlain rfl (by decide +kernel)) hisR ?_
  intro p e s m args below meth c s₁ Bd hml0 hP hK
  obtain ⟨rfl, hZ, hh⟩ := hP
  have hx := Bd.exec
  have hby := Bd.bytes
  have hml : c.maxLocals = 2 := hml0
  have hown : s.vm.findClass "java/lang/Math" = some m.cls := findClass_of_methodNamed Bd.named
  have hnm := (name_of_methodNamed Bd.named Bd.method).1
  have X0 : Stand p l e ({ frames := 0, cells := 0, slots := 0, locals := 0 } : Room) s m #[(.int px), (.int py)] below meth c s₁ [] 0 0 := Stand.of_body Bd
  have e0 : s₁.heap = h0 := by rw [← hh, Bd.state]; rfl
  have N0 := Fr.nil n0
  refine own_pre (A := (s₁.setTop (mkF m 0 #[.val (.int px), .val (.int py)] []))) (fun t k => castTop (own_ef1 m px py) k) ?_
  refine own_pre (A := (s₁.setTop (mkF m 2 #[.val (.int px), .val (.int py)] [(.int py), (.int px)]))) ?_ ?_
  · intro t k
    show Steps p.tables e below (s₁.setTop (mkF m 0 #[.val (.int px), .val (.int py)] [])) _
    refine XS.iloadN X0.here hx rfl (hb hby d1_0) rfl ?_
    show Steps p.tables e below (s₁.setTop (mkF m 1 #[.val (.int px), .val (.int py)] [(.int px)])) _
    refine XS.iloadN X0.here hx rfl (hb hby d1_1) rfl ?_
    exact k
  by_cases hc1 : py < px
  · skip
    refine own_pre (A := (s₁.setTop (mkF m 9 #[.val (.int px), .val (.int py)] []))) ?_ ?_
    · intro t k
      refine XS.icmpYes X0.here hx rfl (pc0 := 2) (pc' := 9) rfl (hb hby d1_2) rfl (tlt hc1).2.2.1 (by decide) (by decide) ?_
      exact k
    refine own_pre (A := (s₁.setTop (mkF m 10 #[.val (.int px), .val (.int py)] [(.int py)]))) ?_ ?_
    · intro t k
      show Steps p.tables e below (s₁.setTop (mkF m 9 #[.val (.int px), .val (.int py)] [])) _
      refine XS.iloadN X0.here hx rfl (hb hby d1_9) rfl ?_
      exact k
    have hz : own_min px py = py := by simp only [own_min, if_pos hc1]
    obtain ⟨fs, hr, hrun, hended, hW, hsame⟩ := X0.leave (v := some (.int py)) (fun h => by rw [Bd.returns] at h; cases h)
    refine ⟨_, _, retOut X0 hx Bd.returns rfl (Or.inl ⟨rfl, Or.inl rfl, _, rfl⟩) (hb hby d1_10) hr, hrun, hended, _, _, rfl, ?_, ⟨_, rfl⟩, hW, hsame.mono (by decide) (by decide)⟩
    show own_Q1 px py h0 n0 _ s₁.heap _
    rw [e0]
    exact ⟨by rw [hz], N0, rfl⟩
  · skip
    refine own_pre (A := (s₁.setTop (mkF m 5 #[.val (.int px), .val (.int py)] []))) ?_ ?_
    · intro t k
      refine XS.icmpNo X0.here hx rfl (hb hby d1_2) rfl (flt hc1).2.2.1 ?_
      exact k
    refine own_pre (A := (s₁.setTop (mkF m 10 #[.val (.int px), .val (.int py)] [(.int px)]))) ?_ ?_
    · intro t k
      show Steps p.tables e below (s₁.setTop (mkF m 5 #[.val (.int px), .val (.int py)] [])) _
      refine XS.iloadN X0.here hx rfl (hb hby d1_5) rfl ?_
      show Steps p.tables e below (s₁.setTop (mkF m 6 #[.val (.int px), .val (.int py)] [(.int px)])) _
      refine XS.goto X0.here hx rfl (pc0 := 6) (pc' := 10) rfl (hb hby d1_6) (by decide) (by decide) ?_
      exact k
    have hz : own_min px py = px := by simp only [own_min, if_neg hc1]
    obtain ⟨fs, hr, hrun, hended, hW, hsame⟩ := X0.leave (v := some (.int px)) (fun h => by rw [Bd.returns] at h; cases h)
    refine ⟨_, _, retOut X0 hx Bd.returns rfl (Or.inl ⟨rfl, Or.inl rfl, _, rfl⟩) (hb hby d1_10) hr, hrun, hended, _, _, rfl, ?_, ⟨_, rfl⟩, hW, hsame.mono (by decide) (by decide)⟩
    show own_Q1 px py h0 n0 _ s₁.heap _
    rw [e0]
    exact ⟨by rw [hz], N0, rfl⟩
theorem d2_0 : decode jdk_29_method_65_code 0 = .ok (.iload_n 0, 1) := by decide +kernel
theorem d2_1 : decode jdk_29_method_65_code 1 = .ok (.iload_n 1, 1) := by decide +kernel
theorem d2_2 : decode jdk_29_method_65_code 2 = .ok (.if_icmp .lt 7, 3) := by decide +kernel
theorem d2_5 : decode jdk_29_method_65_code 5 = .ok (.iload_n 0, 1) := by decide +kernel
theorem d2_6 : decode jdk_29_method_65_code 6 = .ok (.goto 4, 3) := by decide +kernel
theorem d2_9 : decode jdk_29_method_65_code 9 = .ok (.iload_n 1, 1) := by decide +kernel
theorem d2_10 : decode jdk_29_method_65_code 10 = .ok (.ireturn, 1) := by decide +kernel
theorem own_ef2 (m : MethodId) (x0 : Int32) (x1 : Int32) : entryFrame m #[(.int x0), (.int x1)] 2 = mkF m 0 #[.val (.int x0), .val (.int x1)] [] := by first | (simp [entryFrame, mkF, argsToLocals, Value.category]; done) | rfl
def own_max (px : Int32) (py : Int32) : Int32 := (if px < py then py else px)
def own_Q2 (px : Int32) (py : Int32) (h0 : Heap) (n0 : Nat) (v : Option Value) (h : Heap) (L : List Loc) : Prop := v = some (.int (own_max px py)) ∧ Fr n0 L ∧ h = h0
set_option maxRecDepth 65536 in
set_option maxHeartbeats 40000000 in
theorem rm2 (l : Launch) (Z : State) (a0 : Array Value) (hw : ∀ d ∈ tables_1, d.before a0 Z = true) (ws : List Jvm.Cond) (px : Int32) (py : Int32) (h0 : Heap) (n0 : Nat) (Z0 : n0 ≤ h0.size) :
    MetFree l (⟨"java/lang/Math", "max", "(II)I"⟩ : MethodName) (head1 (Jvm.Cond.code (⟨"java/lang/Math", "max", "(II)I"⟩ : MethodName) jdk_29_method_65_code 2 (some .int) :: ws) ({ frames := 0, cells := 0, slots := 0, locals := 0 } : Room)) (fun a U => a = #[(.int px), (.int py)] ∧ Z.Warmed39 U.vm ∧ U.heap = h0) (fun _ _ _ _ _ => True) (fun _ U o U' => ∃ v L, o = .returned v ∧ own_Q2 px py h0 n0 v U'.heap L ∧ FrameEnd U o U' L ({ frames := 0, cells := 0, slots := 0, locals := 0 } : Room).cells ({ frames := 0, cells := 0, slots := 0, locals := 0 } : Room).slots) := by
  refine MetFree.of_bodySF (Jvm.Free.JP.mathPlain rfl (by decide +kernel)) hisR ?_
  intro p e s m args below meth c s₁ Bd hml0 hP hK
  obtain ⟨rfl, hZ, hh⟩ := hP
  have hx := Bd.exec
  have hby := Bd.bytes
  have hml : c.maxLocals = 2 := hml0
  have hown : s.vm.findClass "java/lang/Math" = some m.cls := findClass_of_methodNamed Bd.named
  have hnm := (name_of_methodNamed Bd.named Bd.method).1
  have X0 : Stand p l e ({ frames := 0, cells := 0, slots := 0, locals := 0 } : Room) s m #[(.int px), (.int py)] below meth c s₁ [] 0 0 := Stand.of_body Bd
  have e0 : s₁.heap = h0 := by rw [← hh, Bd.state]; rfl
  have N0 := Fr.nil n0
  refine own_pre (A := (s₁.setTop (mkF m 0 #[.val (.int px), .val (.int py)] []))) (fun t k => castTop (own_ef2 m px py) k) ?_
  refine own_pre (A := (s₁.setTop (mkF m 2 #[.val (.int px), .val (.int py)] [(.int py), (.int px)]))) ?_ ?_
  · intro t k
    show Steps p.tables e below (s₁.setTop (mkF m 0 #[.val (.int px), .val (.int py)] [])) _
    refine XS.iloadN X0.here hx rfl (hb hby d2_0) rfl ?_
    show Steps p.tables e below (s₁.setTop (mkF m 1 #[.val (.int px), .val (.int py)] [(.int px)])) _
    refine XS.iloadN X0.here hx rfl (hb hby d2_1) rfl ?_
    exact k
  by_cases hc2 : px < py
  · skip
    refine own_pre (A := (s₁.setTop (mkF m 9 #[.val (.int px), .val (.int py)] []))) ?_ ?_
    · intro t k
      refine XS.icmpYes X0.here hx rfl (pc0 := 2) (pc' := 9) rfl (hb hby d2_2) rfl (tlt hc2).1 (by decide) (by decide) ?_
      exact k
    refine own_pre (A := (s₁.setTop (mkF m 10 #[.val (.int px), .val (.int py)] [(.int py)]))) ?_ ?_
    · intro t k
      show Steps p.tables e below (s₁.setTop (mkF m 9 #[.val (.int px), .val (.int py)] [])) _
      refine XS.iloadN X0.here hx rfl (hb hby d2_9) rfl ?_
      exact k
    have hz : own_max px py = py := by simp only [own_max, if_pos hc2]
    obtain ⟨fs, hr, hrun, hended, hW, hsame⟩ := X0.leave (v := some (.int py)) (fun h => by rw [Bd.returns] at h; cases h)
    refine ⟨_, _, retOut X0 hx Bd.returns rfl (Or.inl ⟨rfl, Or.inl rfl, _, rfl⟩) (hb hby d2_10) hr, hrun, hended, _, _, rfl, ?_, ⟨_, rfl⟩, hW, hsame.mono (by decide) (by decide)⟩
    show own_Q2 px py h0 n0 _ s₁.heap _
    rw [e0]
    exact ⟨by rw [hz], N0, rfl⟩
  · skip
    refine own_pre (A := (s₁.setTop (mkF m 5 #[.val (.int px), .val (.int py)] []))) ?_ ?_
    · intro t k
      refine XS.icmpNo X0.here hx rfl (hb hby d2_2) rfl (flt hc2).1 ?_
      exact k
    refine own_pre (A := (s₁.setTop (mkF m 10 #[.val (.int px), .val (.int py)] [(.int px)]))) ?_ ?_
    · intro t k
      show Steps p.tables e below (s₁.setTop (mkF m 5 #[.val (.int px), .val (.int py)] [])) _
      refine XS.iloadN X0.here hx rfl (hb hby d2_5) rfl ?_
      show Steps p.tables e below (s₁.setTop (mkF m 6 #[.val (.int px), .val (.int py)] [(.int px)])) _
      refine XS.goto X0.here hx rfl (pc0 := 6) (pc' := 10) rfl (hb hby d2_6) (by decide) (by decide) ?_
      exact k
    have hz : own_max px py = px := by simp only [own_max, if_neg hc2]
    obtain ⟨fs, hr, hrun, hended, hW, hsame⟩ := X0.leave (v := some (.int px)) (fun h => by rw [Bd.returns] at h; cases h)
    refine ⟨_, _, retOut X0 hx Bd.returns rfl (Or.inl ⟨rfl, Or.inl rfl, _, rfl⟩) (hb hby d2_10) hr, hrun, hended, _, _, rfl, ?_, ⟨_, rfl⟩, hW, hsame.mono (by decide) (by decide)⟩
    show own_Q2 px py h0 n0 _ s₁.heap _
    rw [e0]
    exact ⟨by rw [hz], N0, rfl⟩
theorem d4_0 : decode prog_5_method_1_code 0 = .ok (.aload_n 0, 1) := by decide +kernel
theorem d4_1 : decode prog_5_method_1_code 1 = .ok (.invokespecial 1, 3) := by decide +kernel
theorem d4_4 : decode prog_5_method_1_code 4 = .ok (.aload_n 0, 1) := by decide +kernel
theorem d4_5 : decode prog_5_method_1_code 5 = .ok (.aload_n 1, 1) := by decide +kernel
theorem d4_6 : decode prog_5_method_1_code 6 = .ok (.putfield 7, 3) := by decide +kernel
theorem d4_9 : decode prog_5_method_1_code 9 = .ok (.return_, 1) := by decide +kernel
theorem own_pn4 : plainName "com/example/otito/otito/chain/CodePointSet" = true := by first | (simp [plainName, overriddenIn]; done) | decide +kernel
theorem own_ef4 (m : MethodId) (x0 : Addr) (x1 : Addr) : entryFrame m #[(.ref x0), (.ref x1)] 2 = mkF m 0 #[.val (.ref x0), .val (.ref x1)] [] := by first | (simp [entryFrame, mkF, argsToLocals, Value.category]; done) | rfl
def own_Q4 (Z : State) (ax : Addr) (ab : Addr) (h0 : Heap) (n0 : Nat) (v : Option Value) (h : Heap) (L : List Loc) : Prop := v = none ∧ Fr n0 L ∧ Keep h0 h [ax] ∧ Fld Z h ax "com/example/otito/otito/chain/CodePointSet" "bounds" "[I" (.ref ab)
set_option maxRecDepth 65536 in
set_option maxHeartbeats 40000000 in
theorem rm4 (l : Launch) (Z : State) (a0 : Array Value) (hw : ∀ d ∈ tables_1, d.before a0 Z = true) (ws : List Jvm.Cond) (ax : Addr) (ab : Addr) (h0 : Heap) (n0 : Nat) (Z0 : n0 ≤ h0.size) (Ea : Exa Z h0 ax "com/example/otito/otito/chain/CodePointSet") (Fb : Fld Z h0 ax "com/example/otito/otito/chain/CodePointSet" "bounds" "[I" .null) (ga : n0 ≤ ax) :
    MetFree l (⟨"com/example/otito/otito/chain/CodePointSet", "<init>", "([I)V"⟩ : MethodName) (head1 (Jvm.Cond.code (⟨"com/example/otito/otito/chain/CodePointSet", "<init>", "([I)V"⟩ : MethodName) prog_5_method_1_code 2 none :: ws) ({ frames := 1, cells := 0, slots := 0, locals := 12 } : Room)) (fun a U => a = #[(.ref ax), (.ref ab)] ∧ Z.Warmed39 U.vm ∧ U.heap = h0) (fun _ _ _ _ _ => True) (fun _ U o U' => ∃ v L, o = .returned v ∧ own_Q4 Z ax ab h0 n0 v U'.heap L ∧ FrameEnd U o U' L ({ frames := 1, cells := 0, slots := 0, locals := 12 } : Room).cells ({ frames := 1, cells := 0, slots := 0, locals := 12 } : Room).slots) := by
  refine MetFree.of_bodySF (plainFor_of_name own_pn4) hisR ?_
  intro p e s m args below meth c s₁ Bd hml0 hP hK
  obtain ⟨rfl, hZ, hh⟩ := hP
  have hx := Bd.exec
  have hby := Bd.bytes
  have hml : c.maxLocals = 2 := hml0
  have hown : s.vm.findClass "com/example/otito/otito/chain/CodePointSet" = some m.cls := findClass_of_methodNamed Bd.named
  have hnm := (name_of_methodNamed Bd.named Bd.method).1
  have X0 : Stand p l e ({ frames := 1, cells := 0, slots := 0, locals := 12 } : Room) s m #[(.ref ax), (.ref ab)] below meth c s₁ [] 0 0 := Stand.of_body Bd
  have e0 : s₁.heap = h0 := by rw [← hh, Bd.state]; rfl
  have N0 := Fr.nil n0
  refine own_pre (A := (s₁.setTop (mkF m 0 #[.val (.ref ax), .val (.ref ab)] []))) (fun t k => castTop (own_ef4 m ax ab) k) ?_
  refine own_pre (A := (s₁.setTop (mkF m 1 #[.val (.ref ax), .val (.ref ab)] [(.ref ax)]))) ?_ ?_
  · intro t k
    show Steps p.tables e below (s₁.setTop (mkF m 0 #[.val (.ref ax), .val (.ref ab)] [])) _
    refine XS.aloadN X0.here hx rfl (hb hby d4_0) rfl rfl ?_
    exact k
  obtain ⟨T3, X3, e3, st3⟩ := initO X0 hx hZ hown (own_w hw 19 rfl) (own_w hw 20 rfl) (own_w hw 21 rfl) e0 (g := (mkF m 1 #[.val (.ref ax), .val (.ref ab)] [(.ref ax)])) rfl (by rw [hml]; rfl) rfl (hb hby d4_1) (by decide) (W := 0) (by show 2 * 0 + _ ≤ _; exact Nat.le_of_eq rfl) (by decide)
  refine own_pre (fun t k => st3 t k) ?_
  refine own_pre (A := (T3.setTop (mkF m 6 #[.val (.ref ax), .val (.ref ab)] [(.ref ab), (.ref ax)]))) ?_ ?_
  · intro t k
    show Steps p.tables e below (T3.setTop (mkF m 4 #[.val (.ref ax), .val (.ref ab)] [])) _
    refine XS.aloadN X3.here hx rfl (hb hby d4_4) rfl rfl ?_
    show Steps p.tables e below (T3.setTop (mkF m 5 #[.val (.ref ax), .val (.ref ab)] [(.ref ax)])) _
    refine XS.aloadN X3.here hx rfl (hb hby d4_5) rfl rfl ?_
    exact k
  obtain ⟨T4, h4, X4, e4, W4, st4⟩ := putF X3 hx hZ hown (host := "") (Or.inl (own_w hw 22 rfl)) Via.refl e3 Fb Ea (Or.inr ⟨(own_w hw 23 rfl), rfl, hnm⟩) (own_w hw 14 rfl) (ty := (.array .int)) (by decide) rfl rfl (g := (mkF m 6 #[.val (.ref ax), .val (.ref ab)] [(.ref ab), (.ref ax)])) rfl rfl (hb hby d4_6)
  have Kc4 : Keep h0 h4 [ax] := (Keep.refl h0 [ax]).wr W4 (Or.inl (List.mem_of_getElem? (i := 0) rfl))
  have N4 := Fr.snoc X4 N0 ga
  have Fw4 := Fb.same W4
  refine own_pre (fun t k => st4 t k) ?_
  obtain ⟨fs, hr, hrun, hended, hW, hsame⟩ := X4.leave (v := none) (fun _ => rfl)
  refine ⟨_, _, X4.returnOut hx Bd.returns (hb hby d4_9) hr, hrun, hended, _, _, rfl, ?_, ⟨_, rfl⟩, hW, hsame.mono (by decide) (by decide)⟩
  show own_Q4 Z ax ab h0 n0 _ T4.heap _
  rw [e4]
  exact ⟨rfl, N4, Kc4, Fw4⟩
theorem d3_0 : decode prog_5_method_3_code 0 = .ok (.new 8, 3) := by decide +kernel
theorem d3_3 : decode prog_5_method_3_code 3 = .ok (.dup, 1) := by decide +kernel
theorem d3_4 : decode prog_5_method_3_code 4 = .ok (.iconst 2, 1) := by decide +kernel
theorem d3_5 : decode prog_5_method_3_code 5 = .ok (.newarray .int, 2) := by decide +kernel
theorem d3_7 : decode prog_5_method_3_code 7 = .ok (.dup, 1) := by decide +kernel
theorem d3_8 : decode prog_5_method_3_code 8 = .ok (.iconst 0, 1) := by decide +kernel
theorem d3_9 : decode prog_5_method_3_code 9 = .ok (.iload_n 0, 1) := by decide +kernel
theorem d3_10 : decode prog_5_method_3_code 10 = .ok (.iastore, 1) := by decide +kernel
theorem d3_11 : decode prog_5_method_3_code 11 = .ok (.dup, 1) := by decide +kernel
theorem d3_12 : decode prog_5_method_3_code 12 = .ok (.iconst 1, 1) := by decide +kernel
theorem d3_13 : decode prog_5_method_3_code 13 = .ok (.iload_n 1, 1) := by decide +kernel
theorem d3_14 : decode prog_5_method_3_code 14 = .ok (.iastore, 1) := by decide +kernel
theorem d3_15 : decode prog_5_method_3_code 15 = .ok (.invokespecial 17, 3) := by decide +kernel
theorem d3_18 : decode prog_5_method_3_code 18 = .ok (.areturn, 1) := by decide +kernel
theorem own_pn3 : plainName "com/example/otito/otito/chain/CodePointSet" = true := by first | (simp [plainName, overriddenIn]; done) | decide +kernel
theorem own_ef3 (m : MethodId) (x0 : Int32) (x1 : Int32) : entryFrame m #[(.int x0), (.int x1)] 2 = mkF m 0 #[.val (.int x0), .val (.int x1)] [] := by first | (simp [entryFrame, mkF, argsToLocals, Value.category]; done) | rfl
def own_Q3 (Z : State) (pf : Int32) (pl : Int32) (h0 : Heap) (n0 : Nat) (v : Option Value) (h : Heap) (L : List Loc) : Prop := Fr n0 L ∧ ∃ (b ab : Addr) (kb : ClassId), v = some (.ref b) ∧ Exa Z h b "com/example/otito/otito/chain/CodePointSet" ∧ Fld Z h b "com/example/otito/otito/chain/CodePointSet" "bounds" "[I" (.ref ab) ∧ Arv Z h ab kb .int (2 : Int32) [(.int pf), (.int pl)] (.int (0 : Int32)) ∧ Keep h0 h []
set_option maxRecDepth 65536 in
set_option maxHeartbeats 40000000 in
theorem rm3 (l : Launch) (Z : State) (a0 : Array Value) (hw : ∀ d ∈ tables_1, d.before a0 Z = true) (ws : List Jvm.Cond) (pf : Int32) (pl : Int32) (h0 : Heap) (n0 : Nat) (Z0 : n0 ≤ h0.size) :
    MetFree l (⟨"com/example/otito/otito/chain/CodePointSet", "range", "(II)Lcom/example/otito/otito/chain/CodePointSet;"⟩ : MethodName) (head1 (Jvm.Cond.code (⟨"com/example/otito/otito/chain/CodePointSet", "range", "(II)Lcom/example/otito/otito/chain/CodePointSet;"⟩ : MethodName) prog_5_method_3_code 2 (some (.object "com/example/otito/otito/chain/CodePointSet")) :: ws) ({ frames := 2, cells := 2, slots := 3, locals := 26 } : Room)) (fun a U => a = #[(.int pf), (.int pl)] ∧ Z.Warmed39 U.vm ∧ U.heap = h0) (fun _ _ _ _ _ => True) (fun _ U o U' => ∃ v L, o = .returned v ∧ own_Q3 Z pf pl h0 n0 v U'.heap L ∧ FrameEnd U o U' L ({ frames := 2, cells := 2, slots := 3, locals := 26 } : Room).cells ({ frames := 2, cells := 2, slots := 3, locals := 26 } : Room).slots) := by
  refine MetFree.of_bodySF (plainFor_of_name own_pn3) hisR ?_
  intro p e s m args below meth c s₁ Bd hml0 hP hK
  obtain ⟨rfl, hZ, hh⟩ := hP
  have hx := Bd.exec
  have hby := Bd.bytes
  have hml : c.maxLocals = 2 := hml0
  have hown : s.vm.findClass "com/example/otito/otito/chain/CodePointSet" = some m.cls := findClass_of_methodNamed Bd.named
  have hnm := (name_of_methodNamed Bd.named Bd.method).1
  have X0 : Stand p l e ({ frames := 2, cells := 2, slots := 3, locals := 26 } : Room) s m #[(.int pf), (.int pl)] below meth c s₁ [] 0 0 := Stand.of_body Bd
  have e0 : s₁.heap = h0 := by rw [← hh, Bd.state]; rfl
  have N0 := Fr.nil n0
  refine own_pre (A := (s₁.setTop (mkF m 0 #[.val (.int pf), .val (.int pl)] []))) (fun t k => castTop (own_ef3 m pf pl) k) ?_
  obtain ⟨T5, h5, X5, e5, E5, A5, D5, -, st5⟩ := newO X0 hx hZ hown (own_w hw 13 rfl) (own_w hw 14 rfl) (own_w hw 11 rfl) e0 (g := (mkF m 0 #[.val (.int pf), .val (.int pl)] [])) rfl (hb hby d3_0) (by decide) (by decide)
  obtain ⟨b5, g5⟩ : ∃ z, z = h0.size := ⟨_, rfl⟩
  rw [← g5] at A5 D5 st5
  have gn_b5 : n0 ≤ b5 := Nat.le_trans Z0 (Nat.le_of_eq g5.symm)
  have sz_b5 : h0.size ≤ b5 := Nat.le_trans (Keep.refl h0 []).1 (Nat.le_of_eq g5.symm)
  have Zs5 : n0 ≤ h5.size := Nat.le_trans Z0 E5.1
  have Kc5 : Keep h0 h5 [] := (Keep.refl h0 []).ext E5
  have F5_bounds : Fld Z h5 b5 "com/example/otito/otito/chain/CodePointSet" "bounds" "[I" .null := D5 (Or.inr (own_w hw 23 rfl)) (ty := (.array .int)) (by decide)
  refine own_pre (fun t k => st5 t k) ?_
  refine own_pre (A := (T5.setTop (mkF m 5 #[.val (.int pf), .val (.int pl)] [(.int (2 : Int32)), (.ref b5), (.ref b5)]))) ?_ ?_
  · intro t k
    show Steps p.tables e below (T5.setTop (mkF m 3 #[.val (.int pf), .val (.int pl)] [(.ref b5)])) _
    refine XS.dup X5.here hx rfl (hb hby d3_3) rfl rfl ?_
    show Steps p.tables e below (T5.setTop (mkF m 4 #[.val (.int pf), .val (.int pl)] [(.ref b5), (.ref b5)])) _
    refine XS.iconst X5.here hx rfl (hb hby d3_4) ?_
    exact k
  obtain ⟨T6, h6, k6, X6, e6, E6, A6, st6⟩ := newP X5 hx hZ (own_w hw 15 rfl) e5 (g := (mkF m 5 #[.val (.int pf), .val (.int pl)] [(.int (2 : Int32)), (.ref b5), (.ref b5)])) rfl (hb hby d3_5) rfl (by decide) (cap := 2) (by decide) (by decide) (by decide) (by decide)
  obtain ⟨b6, g6⟩ : ∃ z, z = h5.size := ⟨_, rfl⟩
  rw [← g6] at A6 st6
  have ne_b5_b6 : b5 ≠ b6 := Nat.ne_of_lt (Nat.lt_of_lt_of_le A5.lt (Nat.le_of_eq g6.symm))
  have gn_b6 : n0 ≤ b6 := Nat.le_trans Zs5 (Nat.le_of_eq g6.symm)
  have sz_b6 : h0.size ≤ b6 := Nat.le_trans Kc5.1 (Nat.le_of_eq g6.symm)
  have A5_6 := A5.ext E6
  have F5_bounds_6 := F5_bounds.ext E6
  have Zs6 : n0 ≤ h6.size := Nat.le_trans Zs5 E6.1
  have Kc6 : Keep h0 h6 [] := Kc5.ext E6
  have V6 : Arv Z h6 b6 k6 .int (2 : Int32) [(.int (0 : Int32)), (.int (0 : Int32))] (.int (0 : Int32)) := (Arv.new A6 (by decide)).pad (pad_rep [] (.int (0 : Int32)) 2)
  refine own_pre (fun t k => st6 t k) ?_
  refine own_pre (A := (T6.setTop (mkF m 10 #[.val (.int pf), .val (.int pl)] [(.int pf), (.int (0 : Int32)), (.ref b6), (.ref b6), (.ref b5), (.ref b5)]))) ?_ ?_
  · intro t k
    show Steps p.tables e below (T6.setTop (mkF m 7 #[.val (.int pf), .val (.int pl)] [(.ref b6), (.ref b5), (.ref b5)])) _
    refine XS.dup X6.here hx rfl (hb hby d3_7) rfl rfl ?_
    show Steps p.tables e below (T6.setTop (mkF m 8 #[.val (.int pf), .val (.int pl)] [(.ref b6), (.ref b6), (.ref b5), (.ref b5)])) _
    refine XS.iconst X6.here hx rfl (hb hby d3_8) ?_
    show Steps p.tables e below (T6.setTop (mkF m 9 #[.val (.int pf), .val (.int pl)] [(.int (0 : Int32)), (.ref b6), (.ref b6), (.ref b5), (.ref b5)])) _
    refine XS.iloadN X6.here hx rfl (hb hby d3_9) rfl ?_
    exact k
  obtain ⟨cl7, Ar7, q7, S7, N7, H7, G7⟩ := V6
  have hin7 : ¬ ((0 : Int32) < 0 ∨ cl7.slots.size ≤ ((0 : Int32)).toNatClampNeg) := inb_of S7 ⟨by decide, by decide⟩
  obtain ⟨T7, h7, X7, e7, W7, st7⟩ := stI X6 hx hZ e6 Ar7 (j := (0 : Int32)) hin7 (g := (mkF m 10 #[.val (.int pf), .val (.int pl)] [(.int pf), (.int (0 : Int32)), (.ref b6), (.ref b6), (.ref b5), (.ref b5)])) rfl rfl (hb hby d3_10)
  have V7 : Arv Z h7 b6 k6 .int (2 : Int32) [(.int pf), (.int (0 : Int32))] (.int (0 : Int32)) := Arv.set Ar7 q7 S7 N7 H7 G7 rfl W7 0 rfl (Nat.le_of_ble_eq_true rfl)
  have A5_7 := A5_6.wr W7
  have F5_bounds_7 := F5_bounds_6.other W7 (Or.inl ne_b5_b6)
  have Zs7 : n0 ≤ h7.size := Nat.le_trans Zs6 (Keep.of_wr W7).1
  have Kc7 : Keep h0 h7 [] := Kc6.wr W7 (Or.inr sz_b6)
  have N7 := Fr.snoc X7 N0 gn_b6
  refine own_pre (fun t k => st7 t k) ?_
  refine own_pre (A := (T7.setTop (mkF m 14 #[.val (.int pf), .val (.int pl)] [(.int pl), (.int (1 : Int32)), (.ref b6), (.ref b6), (.ref b5), (.ref b5)]))) ?_ ?_
  · intro t k
    show Steps p.tables e below (T7.setTop (mkF m 11 #[.val (.int pf), .val (.int pl)] [(.ref b6), (.ref b5), (.ref b5)])) _
    refine XS.dup X7.here hx rfl (hb hby d3_11) rfl rfl ?_
    show Steps p.tables e below (T7.setTop (mkF m 12 #[.val (.int pf), .val (.int pl)] [(.ref b6), (.ref b6), (.ref b5), (.ref b5)])) _
    refine XS.iconst X7.here hx rfl (hb hby d3_12) ?_
    show Steps p.tables e below (T7.setTop (mkF m 13 #[.val (.int pf), .val (.int pl)] [(.int (1 : Int32)), (.ref b6), (.ref b6), (.ref b5), (.ref b5)])) _
    refine XS.iloadN X7.here hx rfl (hb hby d3_13) rfl ?_
    exact k
  obtain ⟨cl8, Ar8, q8, S8, N8, H8, G8⟩ := V7
  have hin8 : ¬ ((1 : Int32) < 0 ∨ cl8.slots.size ≤ ((1 : Int32)).toNatClampNeg) := inb_of S8 ⟨by decide, by decide⟩
  obtain ⟨T8, h8, X8, e8, W8, st8⟩ := stI X7 hx hZ e7 Ar8 (j := (1 : Int32)) hin8 (g := (mkF m 14 #[.val (.int pf), .val (.int pl)] [(.int pl), (.int (1 : Int32)), (.ref b6), (.ref b6), (.ref b5), (.ref b5)])) rfl rfl (hb hby d3_14)
  have V8 : Arv Z h8 b6 k6 .int (2 : Int32) [(.int pf), (.int pl)] (.int (0 : Int32)) := Arv.set Ar8 q8 S8 N8 H8 G8 rfl W8 1 rfl (Nat.le_of_ble_eq_true rfl)
  have A5_8 := A5_7.wr W8
  have F5_bounds_8 := F5_bounds_7.other W8 (Or.inl ne_b5_b6)
  have Zs8 : n0 ≤ h8.size := Nat.le_trans Zs7 (Keep.of_wr W8).1
  have Kc8 : Keep h0 h8 [] := Kc7.wr W8 (Or.inr sz_b6)
  have N8 := Fr.snoc X8 N7 gn_b6
  refine own_pre (fun t k => st8 t k) ?_
  obtain ⟨_, _, ⟨T9, L9, k9, n9⟩, -, X9, ⟨Lc9, hQ9, l9, y9, z9⟩, st9⟩ := X8.specialBack hx (y := (⟨"com/example/otito/otito/chain/CodePointSet", "<init>", "([I)V"⟩ : MethodName)) rfl hown (mvT hZ (own_w hw 16 rfl)) (mvT hZ (own_w hw 17 rfl)) (mvT hZ (own_w hw 18 rfl)) (by decide) (backOf (W := 1) (rm4 l Z a0 hw [] b5 b6 h8 n0 Zs8 A5_8 F5_bounds_8 gn_b5) hZ (own_w hw 18 rfl) (own_w hw 11 rfl) (by decide) (by decide)) (g := (mkF m 15 #[.val (.int pf), .val (.int pl)] [(.ref b6), (.ref b5), (.ref b5)])) rfl (by rw [hml]; rfl) (Steps.refl _) (a := b5) (argsL := [(.ref b6)]) (rest := [(.ref b5)]) (lenOf own_pd0 rfl) rfl (by show 2 * 0 + _ ≤ _; exact Nat.le_of_eq rfl) (hb hby d3_15) (fun _ _ => ⟨rfl, e8, (by decide : 2 + 0 ≤ _), (by decide : 3 + 0 ≤ _)⟩)
  dsimp only [Pt.U, Pt.locs, Pt.cells, Pt.slots] at X9 l9 y9 z9 st9 hQ9
  subst l9 y9 z9
  obtain ⟨rfl, Nq9, Kq9, Fb9⟩ := hQ9
  have N9 := Fr.app N8 Nq9
  refine own_pre (fun t k => st9.trans k) ?_
  have A5_9 := A5_8.keep Kq9
  have V8_9 := V8.keep Kq9 (ninS ne_b5_b6.symm nin0)
  have Kc9 : Keep h0 T9.heap [] := Kc8.trans Kq9 (allS (Or.inr sz_b5) all0)
  obtain ⟨fs, hr, hrun, hended, hW, hsame⟩ := X9.leave (v := some (.ref b5)) (fun h => by rw [Bd.returns] at h; cases h)
  refine ⟨_, _, retOut X9 hx Bd.returns rfl (Or.inr (Or.inr (Or.inr (Or.inr ⟨rfl, rfl, rfl⟩)))) (hb hby d3_18) hr, hrun, hended, _, _, rfl, ?_, ⟨_, rfl⟩, hW, hsame.mono (by decide) (by decide)⟩
  show own_Q3 Z pf pl h0 n0 _ T9.heap _
  exact ⟨N9, b5, b6, k6, rfl, A5_9, Fb9, V8_9, Kc9⟩
theorem d6_0 : decode prog_5_method_8_code 0 = .ok (.aload_n 0, 1) := by decide +kernel
theorem d6_1 : decode prog_5_method_8_code 1 = .ok (.getfield 7, 3) := by decide +kernel
theorem d6_4 : decode prog_5_method_8_code 4 = .ok (.iconst 0, 1) := by decide +kernel
theorem d6_5 : decode prog_5_method_8_code 5 = .ok (.iaload, 1) := by decide +kernel
theorem d6_6 : decode prog_5_method_8_code 6 = .ok (.ireturn, 1) := by decide +kernel
theorem own_pn6 : plainName "com/example/otito/otito/chain/CodePointSet" = true := by first | (simp [plainName, overriddenIn]; done) | decide +kernel
theorem own_ef6 (m : MethodId) (x0 : Addr) : entryFrame m #[(.ref x0)] 1 = mkF m 0 #[.val (.ref x0)] [] := by first | (simp [entryFrame, mkF, argsToLocals, Value.category]; done) | rfl
def own_first (pf : Int32) (pl : Int32) : Int32 := pf
def own_Q6 (Z : State) (ax : Addr) (ab : Addr) (kb : ClassId) (pf : Int32) (pl : Int32) (h0 : Heap) (n0 : Nat) (v : Option Value) (h : Heap) (L : List Loc) : Prop := v = some (.int (own_first pf pl)) ∧ Fr n0 L ∧ h = h0
set_option maxRecDepth 65536 in
set_option maxHeartbeats 40000000 in
theorem rm6 (l : Launch) (Z : State) (a0 : Array Value) (hw : ∀ d ∈ tables_1, d.before a0 Z = true) (ws : List Jvm.Cond) (ax : Addr) (ab : Addr) (kb : ClassId) (pf : Int32) (pl : Int32) (h0 : Heap) (n0 : Nat) (Z0 : n0 ≤ h0.size) (Fb : Fld Z h0 ax "com/example/otito/otito/chain/CodePointSet" "bounds" "[I" (.ref ab)) (Vb : Arv Z h0 ab kb .int (2 : Int32) [(.int pf), (.int pl)] (.int (0 : Int32))) :
    MetFree l (⟨"com/example/otito/otito/chain/CodePointSet", "first", "()I"⟩ : MethodName) (head1 (Jvm.Cond.code (⟨"com/example/otito/otito/chain/CodePointSet", "first", "()I"⟩ : MethodName) prog_5_method_8_code 1 (some .int) :: ws) ({ frames := 0, cells := 0, slots := 0, locals := 0 } : Room)) (fun a U => a = #[(.ref ax)] ∧ Z.Warmed39 U.vm ∧ U.heap = h0) (fun _ _ _ _ _ => True) (fun _ U o U' => ∃ v L, o = .returned v ∧ own_Q6 Z ax ab kb pf pl h0 n0 v U'.heap L ∧ FrameEnd U o U' L ({ frames := 0, cells := 0, slots := 0, locals := 0 } : Room).cells ({ frames := 0, cells := 0, slots := 0, locals := 0 } : Room).slots) := by
  refine MetFree.of_bodySF (plainFor_of_name own_pn6) hisR ?_
  intro p e s m args below meth c s₁ Bd hml0 hP hK
  obtain ⟨rfl, hZ, hh⟩ := hP
  have hx := Bd.exec
  have hby := Bd.bytes
  have hml : c.maxLocals = 1 := hml0
  have hown : s.vm.findClass "com/example/otito/otito/chain/CodePointSet" = some m.cls := findClass_of_methodNamed Bd.named
  have hnm := (name_of_methodNamed Bd.named Bd.method).1
  have X0 : Stand p l e ({ frames := 0, cells := 0, slots := 0, locals := 0 } : Room) s m #[(.ref ax)] below meth c s₁ [] 0 0 := Stand.of_body Bd
  have e0 : s₁.heap = h0 := by rw [← hh, Bd.state]; rfl
  have N0 := Fr.nil n0
  refine own_pre (A := (s₁.setTop (mkF m 0 #[.val (.ref ax)] []))) (fun t k => castTop (own_ef6 m ax) k) ?_
  refine own_pre (A := (s₁.setTop (mkF m 1 #[.val (.ref ax)] [(.ref ax)]))) ?_ ?_
  · intro t k
    show Steps p.tables e below (s₁.setTop (mkF m 0 #[.val (.ref ax)] [])) _
    refine XS.aloadN X0.here hx rfl (hb hby d6_0) rfl rfl ?_
    exact k
  obtain ⟨T10, X10, e10, st10⟩ := getF X0 hx hZ hown (host := "") (Or.inl (own_w hw 22 rfl)) Via.refl e0 Fb (g := (mkF m 1 #[.val (.ref ax)] [(.ref ax)])) rfl rfl (hb hby d6_1)
  refine own_pre (fun t k => st10 t k) ?_
  refine own_pre (A := (T10.setTop (mkF m 6 #[.val (.ref ax)] [(.int pf)]))) ?_ ?_
  · intro t k
    show Steps p.tables e below (T10.setTop (mkF m 4 #[.val (.ref ax)] [(.ref ab)])) _
    refine XS.iconst X10.here hx rfl (hb hby d6_4) ?_
    show Steps p.tables e below (T10.setTop (mkF m 5 #[.val (.ref ax)] [(.int (0 : Int32)), (.ref ab)])) _
    obtain ⟨cl11, Ar11, q11, S11, N11, H11, G11⟩ := Vb
    have hin11 : ¬ ((0 : Int32) < 0 ∨ cl11.slots.size ≤ ((0 : Int32)).toNatClampNeg) := inb_of S11 ⟨by decide, by decide⟩
    refine X10.iaload hx (j := (0 : Int32)) (v := (.int pf)) (by rw [e10]; exact Ar11.1) (State.isArrayOf_alike hZ.alike Ar11.2.1) Ar11.2.2 hin11 (H11.at hin11 rfl) (g := (mkF m 5 #[.val (.ref ax)] [(.int (0 : Int32)), (.ref ab)])) rfl rfl (hb hby d6_5) _ ?_
    exact k
  have hz : own_first pf pl = pf := rfl
  obtain ⟨fs, hr, hrun, hended, hW, hsame⟩ := X10.leave (v := some (.int pf)) (fun h => by rw [Bd.returns] at h; cases h)
  refine ⟨_, _, retOut X10 hx Bd.returns rfl (Or.inl ⟨rfl, Or.inl rfl, _, rfl⟩) (hb hby d6_6) hr, hrun, hended, _, _, rfl, ?_, ⟨_, rfl⟩, hW, hsame.mono (by decide) (by decide)⟩
  show own_Q6 Z ax ab kb pf pl h0 n0 _ T10.heap _
  rw [e10]
  exact ⟨by rw [hz], N0, rfl⟩
theorem d7_0 : decode prog_5_method_7_code 0 = .ok (.aload_n 0, 1) := by decide +kernel
theorem d7_1 : decode prog_5_method_7_code 1 = .ok (.getfield 7, 3) := by decide +kernel
theorem d7_4 : decode prog_5_method_7_code 4 = .ok (.arraylength, 1) := by decide +kernel
theorem d7_5 : decode prog_5_method_7_code 5 = .ok (.iconst 2, 1) := by decide +kernel
theorem d7_6 : decode prog_5_method_7_code 6 = .ok (.if_icmp .ne 22, 3) := by decide +kernel
theorem d7_9 : decode prog_5_method_7_code 9 = .ok (.aload_n 0, 1) := by decide +kernel
theorem d7_10 : decode prog_5_method_7_code 10 = .ok (.getfield 7, 3) := by decide +kernel
theorem d7_13 : decode prog_5_method_7_code 13 = .ok (.iconst 0, 1) := by decide +kernel
theorem d7_14 : decode prog_5_method_7_code 14 = .ok (.iaload, 1) := by decide +kernel
theorem d7_15 : decode prog_5_method_7_code 15 = .ok (.aload_n 0, 1) := by decide +kernel
theorem d7_16 : decode prog_5_method_7_code 16 = .ok (.getfield 7, 3) := by decide +kernel
theorem d7_19 : decode prog_5_method_7_code 19 = .ok (.iconst 1, 1) := by decide +kernel
theorem d7_20 : decode prog_5_method_7_code 20 = .ok (.iaload, 1) := by decide +kernel
theorem d7_21 : decode prog_5_method_7_code 21 = .ok (.if_icmp .ne 7, 3) := by decide +kernel
theorem d7_24 : decode prog_5_method_7_code 24 = .ok (.iconst 1, 1) := by decide +kernel
theorem d7_25 : decode prog_5_method_7_code 25 = .ok (.goto 4, 3) := by decide +kernel
theorem d7_28 : decode prog_5_method_7_code 28 = .ok (.iconst 0, 1) := by decide +kernel
theorem d7_29 : decode prog_5_method_7_code 29 = .ok (.ireturn, 1) := by decide +kernel
theorem own_pn7 : plainName "com/example/otito/otito/chain/CodePointSet" = true := by first | (simp [plainName, overriddenIn]; done) | decide +kernel
theorem own_ef7 (m : MethodId) (x0 : Addr) : entryFrame m #[(.ref x0)] 1 = mkF m 0 #[.val (.ref x0)] [] := by first | (simp [entryFrame, mkF, argsToLocals, Value.category]; done) | rfl
def own_single (pf : Int32) (pl : Int32) : Int32 := (if pf = pl then (1 : Int32) else (0 : Int32))
def own_Q7 (Z : State) (ax : Addr) (ab : Addr) (kb : ClassId) (pf : Int32) (pl : Int32) (h0 : Heap) (n0 : Nat) (v : Option Value) (h : Heap) (L : List Loc) : Prop := v = some (.int (own_single pf pl)) ∧ Fr n0 L ∧ h = h0
set_option maxRecDepth 65536 in
set_option maxHeartbeats 40000000 in
theorem rm7 (l : Launch) (Z : State) (a0 : Array Value) (hw : ∀ d ∈ tables_1, d.before a0 Z = true) (ws : List Jvm.Cond) (ax : Addr) (ab : Addr) (kb : ClassId) (pf : Int32) (pl : Int32) (h0 : Heap) (n0 : Nat) (Z0 : n0 ≤ h0.size) (Fb : Fld Z h0 ax "com/example/otito/otito/chain/CodePointSet" "bounds" "[I" (.ref ab)) (Vb : Arv Z h0 ab kb .int (2 : Int32) [(.int pf), (.int pl)] (.int (0 : Int32))) :
    MetFree l (⟨"com/example/otito/otito/chain/CodePointSet", "isSingle", "()Z"⟩ : MethodName) (head1 (Jvm.Cond.code (⟨"com/example/otito/otito/chain/CodePointSet", "isSingle", "()Z"⟩ : MethodName) prog_5_method_7_code 1 (some .boolean) :: ws) ({ frames := 0, cells := 0, slots := 0, locals := 0 } : Room)) (fun a U => a = #[(.ref ax)] ∧ Z.Warmed39 U.vm ∧ U.heap = h0) (fun _ _ _ _ _ => True) (fun _ U o U' => ∃ v L, o = .returned v ∧ own_Q7 Z ax ab kb pf pl h0 n0 v U'.heap L ∧ FrameEnd U o U' L ({ frames := 0, cells := 0, slots := 0, locals := 0 } : Room).cells ({ frames := 0, cells := 0, slots := 0, locals := 0 } : Room).slots) := by
  refine MetFree.of_bodySF (plainFor_of_name own_pn7) hisR ?_
  intro p e s m args below meth c s₁ Bd hml0 hP hK
  obtain ⟨rfl, hZ, hh⟩ := hP
  have hx := Bd.exec
  have hby := Bd.bytes
  have hml : c.maxLocals = 1 := hml0
  have hown : s.vm.findClass "com/example/otito/otito/chain/CodePointSet" = some m.cls := findClass_of_methodNamed Bd.named
  have hnm := (name_of_methodNamed Bd.named Bd.method).1
  have X0 : Stand p l e ({ frames := 0, cells := 0, slots := 0, locals := 0 } : Room) s m #[(.ref ax)] below meth c s₁ [] 0 0 := Stand.of_body Bd
  have e0 : s₁.heap = h0 := by rw [← hh, Bd.state]; rfl
  have N0 := Fr.nil n0
  refine own_pre (A := (s₁.setTop (mkF m 0 #[.val (.ref ax)] []))) (fun t k => castTop (own_ef7 m ax) k) ?_
  refine own_pre (A := (s₁.setTop (mkF m 1 #[.val (.ref ax)] [(.ref ax)]))) ?_ ?_
  · intro t k
    show Steps p.tables e below (s₁.setTop (mkF m 0 #[.val (.ref ax)] [])) _
    refine XS.aloadN X0.here hx rfl (hb hby d7_0) rfl rfl ?_
    exact k
  obtain ⟨T12, X12, e12, st12⟩ := getF X0 hx hZ hown (host := "") (Or.inl (own_w hw 22 rfl)) Via.refl e0 Fb (g := (mkF m 1 #[.val (.ref ax)] [(.ref ax)])) rfl rfl (hb hby d7_1)
  refine own_pre (fun t k => st12 t k) ?_
  refine own_pre (A := (T12.setTop (mkF m 10 #[.val (.ref ax)] [(.ref ax)]))) ?_ ?_
  · intro t k
    show Steps p.tables e below (T12.setTop (mkF m 4 #[.val (.ref ax)] [(.ref ab)])) _
    obtain ⟨cl13, Ar13, -, S13, N13, -, -⟩ := Vb
    refine X12.arraylength hx (by rw [e12]; exact Ar13.1) (State.isArrayOf_alike hZ.alike Ar13.2.1) (g := (mkF m 4 #[.val (.ref ax)] [(.ref ab)])) rfl rfl (hb hby d7_4) _ ?_
    rw [len_of S13 N13]
    show Steps p.tables e below (T12.setTop (mkF m 5 #[.val (.ref ax)] [(.int (2 : Int32))])) _
    refine XS.iconst X12.here hx rfl (hb hby d7_5) ?_
    show Steps p.tables e below (T12.setTop (mkF m 6 #[.val (.ref ax)] [(.int (2 : Int32)), (.int (2 : Int32))])) _
    refine XS.icmpNo X12.here hx rfl (hb hby d7_6) rfl (teq (by decide : (2 : Int32) = (2 : Int32))).2 ?_
    show Steps p.tables e below (T12.setTop (mkF m 9 #[.val (.ref ax)] [])) _
    refine XS.aloadN X12.here hx rfl (hb hby d7_9) rfl rfl ?_
    exact k
  obtain ⟨T14, X14, e14, st14⟩ := getF X12 hx hZ hown (host := "") (Or.inl (own_w hw 22 rfl)) Via.refl e12 Fb (g := (mkF m 10 #[.val (.ref ax)] [(.ref ax)])) rfl rfl (hb hby d7_10)
  refine own_pre (fun t k => st14 t k) ?_
  refine own_pre (A := (T14.setTop (mkF m 16 #[.val (.ref ax)] [(.ref ax), (.int pf)]))) ?_ ?_
  · intro t k
    show Steps p.tables e below (T14.setTop (mkF m 13 #[.val (.ref ax)] [(.ref ab)])) _
    refine XS.iconst X14.here hx rfl (hb hby d7_13) ?_
    show Steps p.tables e below (T14.setTop (mkF m 14 #[.val (.ref ax)] [(.int (0 : Int32)), (.ref ab)])) _
    obtain ⟨cl15, Ar15, q15, S15, N15, H15, G15⟩ := Vb
    have hin15 : ¬ ((0 : Int32) < 0 ∨ cl15.slots.size ≤ ((0 : Int32)).toNatClampNeg) := inb_of S15 ⟨by decide, by decide⟩
    refine X14.iaload hx (j := (0 : Int32)) (v := (.int pf)) (by rw [e14]; exact Ar15.1) (State.isArrayOf_alike hZ.alike Ar15.2.1) Ar15.2.2 hin15 (H15.at hin15 rfl) (g := (mkF m 14 #[.val (.ref ax)] [(.int (0 : Int32)), (.ref ab)])) rfl rfl (hb hby d7_14) _ ?_
    show Steps p.tables e below (T14.setTop (mkF m 15 #[.val (.ref ax)] [(.int pf)])) _
    refine XS.aloadN X14.here hx rfl (hb hby d7_15) rfl rfl ?_
    exact k
  obtain ⟨T16, X16, e16, st16⟩ := getF X14 hx hZ hown (host := "") (Or.inl (own_w hw 22 rfl)) Via.refl e14 Fb (g := (mkF m 16 #[.val (.ref ax)] [(.ref ax), (.int pf)])) rfl rfl (hb hby d7_16)
  refine own_pre (fun t k => st16 t k) ?_
  refine own_pre (A := (T16.setTop (mkF m 21 #[.val (.ref ax)] [(.int pl), (.int pf)]))) ?_ ?_
  · intro t k
    show Steps p.tables e below (T16.setTop (mkF m 19 #[.val (.ref ax)] [(.ref ab), (.int pf)])) _
    refine XS.iconst X16.here hx rfl (hb hby d7_19) ?_
    show Steps p.tables e below (T16.setTop (mkF m 20 #[.val (.ref ax)] [(.int (1 : Int32)), (.ref ab), (.int pf)])) _
    obtain ⟨cl17, Ar17, q17, S17, N17, H17, G17⟩ := Vb
    have hin17 : ¬ ((1 : Int32) < 0 ∨ cl17.slots.size ≤ ((1 : Int32)).toNatClampNeg) := inb_of S17 ⟨by decide, by decide⟩
    refine X16.iaload hx (j := (1 : Int32)) (v := (.int pl)) (by rw [e16]; exact Ar17.1) (State.isArrayOf_alike hZ.alike Ar17.2.1) Ar17.2.2 hin17 (H17.at hin17 rfl) (g := (mkF m 20 #[.val (.ref ax)] [(.int (1 : Int32)), (.ref ab), (.int pf)])) rfl rfl (hb hby d7_20) _ ?_
    exact k
  by_cases hc18 : pf = pl
  · skip
    refine own_pre (A := (T16.setTop (mkF m 24 #[.val (.ref ax)] []))) ?_ ?_
    · intro t k
      refine XS.icmpNo X16.here hx rfl (hb hby d7_21) rfl (teq hc18).2 ?_
      exact k
    refine own_pre (A := (T16.setTop (mkF m 29 #[.val (.ref ax)] [(.int (1 : Int32))]))) ?_ ?_
    · intro t k
      show Steps p.tables e below (T16.setTop (mkF m 24 #[.val (.ref ax)] [])) _
      refine XS.iconst X16.here hx rfl (hb hby d7_24) ?_
      show Steps p.tables e below (T16.setTop (mkF m 25 #[.val (.ref ax)] [(.int (1 : Int32))])) _
      refine XS.goto X16.here hx rfl (pc0 := 25) (pc' := 29) rfl (hb hby d7_25) (by decide) (by decide) ?_
      exact k
    have hz : own_single pf pl = (1 : Int32) := by simp only [own_single, if_pos hc18]
    obtain ⟨fs, hr, hrun, hended, hW, hsame⟩ := X16.leave (v := some (.int (1 : Int32))) (fun h => by rw [Bd.returns] at h; cases h)
    refine ⟨_, _, retOut X16 hx Bd.returns rfl (Or.inl ⟨rfl, Or.inr (Or.inl rfl), _, rfl⟩) (hb hby d7_29) hr, hrun, hended, _, _, rfl, ?_, ⟨_, rfl⟩, hW, hsame.mono (by decide) (by decide)⟩
    show own_Q7 Z ax ab kb pf pl h0 n0 _ T16.heap _
    rw [e16]
    exact ⟨by rw [hz], N0, rfl⟩
  · skip
    refine own_pre (A := (T16.setTop (mkF m 28 #[.val (.ref ax)] []))) ?_ ?_
    · intro t k
      refine XS.icmpYes X16.here hx rfl (pc0 := 21) (pc' := 28) rfl (hb hby d7_21) rfl (feq hc18).2 (by decide) (by decide) ?_
      exact k
    refine own_pre (A := (T16.setTop (mkF m 29 #[.val (.ref ax)] [(.int (0 : Int32))]))) ?_ ?_
    · intro t k
      show Steps p.tables e below (T16.setTop (mkF m 28 #[.val (.ref ax)] [])) _
      refine XS.iconst X16.here hx rfl (hb hby d7_28) ?_
      exact k
    have hz : own_single pf pl = (0 : Int32) := by simp only [own_single, if_neg hc18]
    obtain ⟨fs, hr, hrun, hended, hW, hsame⟩ := X16.leave (v := some (.int (0 : Int32))) (fun h => by rw [Bd.returns] at h; cases h)
    refine ⟨_, _, retOut X16 hx Bd.returns rfl (Or.inl ⟨rfl, Or.inr (Or.inl rfl), _, rfl⟩) (hb hby d7_29) hr, hrun, hended, _, _, rfl, ?_, ⟨_, rfl⟩, hW, hsame.mono (by decide) (by decide)⟩
    show own_Q7 Z ax ab kb pf pl h0 n0 _ T16.heap _
    rw [e16]
    exact ⟨by rw [hz], N0, rfl⟩
theorem d8_0 : decode prog_5_method_9_code 0 = .ok (.iconst 0, 1) := by decide +kernel
theorem d8_1 : decode prog_5_method_9_code 1 = .ok (.istore_n 2, 1) := by decide +kernel
theorem d8_2 : decode prog_5_method_9_code 2 = .ok (.aload_n 0, 1) := by decide +kernel
theorem d8_3 : decode prog_5_method_9_code 3 = .ok (.getfield 7, 3) := by decide +kernel
theorem d8_6 : decode prog_5_method_9_code 6 = .ok (.arraylength, 1) := by decide +kernel
theorem d8_7 : decode prog_5_method_9_code 7 = .ok (.iconst 2, 1) := by decide +kernel
theorem d8_8 : decode prog_5_method_9_code 8 = .ok (.idiv, 1) := by decide +kernel
theorem d8_9 : decode prog_5_method_9_code 9 = .ok (.iconst 1, 1) := by decide +kernel
theorem d8_10 : decode prog_5_method_9_code 10 = .ok (.isub, 1) := by decide +kernel
theorem d8_11 : decode prog_5_method_9_code 11 = .ok (.istore_n 3, 1) := by decide +kernel
theorem d8_12 : decode prog_5_method_9_code 12 = .ok (.iload_n 2, 1) := by decide +kernel
theorem d8_13 : decode prog_5_method_9_code 13 = .ok (.iload_n 3, 1) := by decide +kernel
theorem d8_14 : decode prog_5_method_9_code 14 = .ok (.if_icmp .gt 59, 3) := by decide +kernel
theorem d8_17 : decode prog_5_method_9_code 17 = .ok (.iload_n 2, 1) := by decide +kernel
theorem d8_18 : decode prog_5_method_9_code 18 = .ok (.iload_n 3, 1) := by decide +kernel
theorem d8_19 : decode prog_5_method_9_code 19 = .ok (.iadd, 1) := by decide +kernel
theorem d8_20 : decode prog_5_method_9_code 20 = .ok (.iconst 1, 1) := by decide +kernel
theorem d8_21 : decode prog_5_method_9_code 21 = .ok (.iushr, 1) := by decide +kernel
theorem d8_22 : decode prog_5_method_9_code 22 = .ok (.istore 4, 2) := by decide +kernel
theorem d8_24 : decode prog_5_method_9_code 24 = .ok (.iload_n 1, 1) := by decide +kernel
theorem d8_25 : decode prog_5_method_9_code 25 = .ok (.aload_n 0, 1) := by decide +kernel
theorem d8_26 : decode prog_5_method_9_code 26 = .ok (.getfield 7, 3) := by decide +kernel
theorem d8_29 : decode prog_5_method_9_code 29 = .ok (.iconst 2, 1) := by decide +kernel
theorem d8_30 : decode prog_5_method_9_code 30 = .ok (.iload 4, 2) := by decide +kernel
theorem d8_32 : decode prog_5_method_9_code 32 = .ok (.imul, 1) := by decide +kernel
theorem d8_33 : decode prog_5_method_9_code 33 = .ok (.iaload, 1) := by decide +kernel
theorem d8_34 : decode prog_5_method_9_code 34 = .ok (.if_icmp .ge 11, 3) := by decide +kernel
theorem d8_37 : decode prog_5_method_9_code 37 = .ok (.iload 4, 2) := by decide +kernel
theorem d8_39 : decode prog_5_method_9_code 39 = .ok (.iconst 1, 1) := by decide +kernel
theorem d8_40 : decode prog_5_method_9_code 40 = .ok (.isub, 1) := by decide +kernel
theorem d8_41 : decode prog_5_method_9_code 41 = .ok (.istore_n 3, 1) := by decide +kernel
theorem d8_42 : decode prog_5_method_9_code 42 = .ok (.goto 28, 3) := by decide +kernel
theorem d8_45 : decode prog_5_method_9_code 45 = .ok (.iload_n 1, 1) := by decide +kernel
theorem d8_46 : decode prog_5_method_9_code 46 = .ok (.aload_n 0, 1) := by decide +kernel
theorem d8_47 : decode prog_5_method_9_code 47 = .ok (.getfield 7, 3) := by decide +kernel
theorem d8_50 : decode prog_5_method_9_code 50 = .ok (.iconst 2, 1) := by decide +kernel
theorem d8_51 : decode prog_5_method_9_code 51 = .ok (.iload 4, 2) := by decide +kernel
theorem d8_53 : decode prog_5_method_9_code 53 = .ok (.imul, 1) := by decide +kernel
theorem d8_54 : decode prog_5_method_9_code 54 = .ok (.iconst 1, 1) := by decide +kernel
theorem d8_55 : decode prog_5_method_9_code 55 = .ok (.iadd, 1) := by decide +kernel
theorem d8_56 : decode prog_5_method_9_code 56 = .ok (.iaload, 1) := by decide +kernel
theorem d8_57 : decode prog_5_method_9_code 57 = .ok (.if_icmp .le 11, 3) := by decide +kernel
theorem d8_60 : decode prog_5_method_9_code 60 = .ok (.iload 4, 2) := by decide +kernel
theorem d8_62 : decode prog_5_method_9_code 62 = .ok (.iconst 1, 1) := by decide +kernel
theorem d8_63 : decode prog_5_method_9_code 63 = .ok (.iadd, 1) := by decide +kernel
theorem d8_64 : decode prog_5_method_9_code 64 = .ok (.istore_n 2, 1) := by decide +kernel
theorem d8_65 : decode prog_5_method_9_code 65 = .ok (.goto 5, 3) := by decide +kernel
theorem d8_68 : decode prog_5_method_9_code 68 = .ok (.iconst 1, 1) := by decide +kernel
theorem d8_69 : decode prog_5_method_9_code 69 = .ok (.ireturn, 1) := by decide +kernel
theorem d8_70 : decode prog_5_method_9_code 70 = .ok (.goto (-58), 3) := by decide +kernel
theorem d8_73 : decode prog_5_method_9_code 73 = .ok (.iconst 0, 1) := by decide +kernel
theorem d8_74 : decode prog_5_method_9_code 74 = .ok (.ireturn, 1) := by decide +kernel
theorem own_pn8 : plainName "com/example/otito/otito/chain/CodePointSet" = true := by first | (simp [plainName, overriddenIn]; done) | decide +kernel
theorem own_ef8 (m : MethodId) (x0 : Addr) (x1 : Int32) : entryFrame m #[(.ref x0), (.int x1)] 5 = mkF m 0 #[.val (.ref x0), .val (.int x1), .unset, .unset, .unset] [] := by first | (simp [entryFrame, mkF, argsToLocals, Value.category]; done) | rfl
def own_ctn (px : Int32) (pf : Int32) (pl : Int32) : Int32 := (if px < pf then (0 : Int32) else (if pl < px then (0 : Int32) else (1 : Int32)))
def own_Q8 (Z : State) (ax : Addr) (px : Int32) (ab : Addr) (kb : ClassId) (pf : Int32) (pl : Int32) (h0 : Heap) (n0 : Nat) (v : Option Value) (h : Heap) (L : List Loc) : Prop := v = some (.int (own_ctn px pf pl)) ∧ Fr n0 L ∧ h = h0
set_option maxRecDepth 65536 in
set_option maxHeartbeats 40000000 in
theorem rm8 (l : Launch) (Z : State) (a0 : Array Value) (hw : ∀ d ∈ tables_1, d.before a0 Z = true) (ws : List Jvm.Cond) (ax : Addr) (px : Int32) (ab : Addr) (kb : ClassId) (pf : Int32) (pl : Int32) (h0 : Heap) (n0 : Nat) (Z0 : n0 ≤ h0.size) (Fb : Fld Z h0 ax "com/example/otito/otito/chain/CodePointSet" "bounds" "[I" (.ref ab)) (Vb : Arv Z h0 ab kb .int (2 : Int32) [(.int pf), (.int pl)] (.int (0 : Int32))) :
    MetFree l (⟨"com/example/otito/otito/chain/CodePointSet", "contains", "(I)Z"⟩ : MethodName) (head1 (Jvm.Cond.code (⟨"com/example/otito/otito/chain/CodePointSet", "contains", "(I)Z"⟩ : MethodName) prog_5_method_9_code 5 (some .boolean) :: ws) ({ frames := 0, cells := 0, slots := 0, locals := 0 } : Room)) (fun a U => a = #[(.ref ax), (.int px)] ∧ Z.Warmed39 U.vm ∧ U.heap = h0) (fun _ _ _ _ _ => True) (fun _ U o U' => ∃ v L, o = .returned v ∧ own_Q8 Z ax px ab kb pf pl h0 n0 v U'.heap L ∧ FrameEnd U o U' L ({ frames := 0, cells := 0, slots := 0, locals := 0 } : Room).cells ({ frames := 0, cells := 0, slots := 0, locals := 0 } : Room).slots) := by
  refine MetFree.of_bodySF (plainFor_of_name own_pn8) hisR ?_
  intro p e s m args below meth c s₁ Bd hml0 hP hK
  obtain ⟨rfl, hZ, hh⟩ := hP
  have hx := Bd.exec
  have hby := Bd.bytes
  have hml : c.maxLocals = 5 := hml0
  have hown : s.vm.findClass "com/example/otito/otito/chain/CodePointSet" = some m.cls := findClass_of_methodNamed Bd.named
  have hnm := (name_of_methodNamed Bd.named Bd.method).1
  have X0 : Stand p l e ({ frames := 0, cells := 0, slots := 0, locals := 0 } : Room) s m #[(.ref ax), (.int px)] below meth c s₁ [] 0 0 := Stand.of_body Bd
  have e0 : s₁.heap = h0 := by rw [← hh, Bd.state]; rfl
  have N0 := Fr.nil n0
  refine own_pre (A := (s₁.setTop (mkF m 0 #[.val (.ref ax), .val (.int px), .unset, .unset, .unset] []))) (fun t k => castTop (own_ef8 m ax px) k) ?_
  refine own_pre (A := (s₁.setTop (mkF m 3 #[.val (.ref ax), .val (.int px), .val (.int (0 : Int32)), .unset, .unset] [(.ref ax)]))) ?_ ?_
  · intro t k
    show Steps p.tables e below (s₁.setTop (mkF m 0 #[.val (.ref ax), .val (.int px), .unset, .unset, .unset] [])) _
    refine XS.iconst X0.here hx rfl (hb hby d8_0) ?_
    show Steps p.tables e below (s₁.setTop (mkF m 1 #[.val (.ref ax), .val (.int px), .unset, .unset, .unset] [(.int (0 : Int32))])) _
    refine XS.istoreN X0.here hx rfl (hb hby d8_1) rfl (l' := #[.val (.ref ax), .val (.int px), .val (.int (0 : Int32)), .unset, .unset]) rfl ?_
    show Steps p.tables e below (s₁.setTop (mkF m 2 #[.val (.ref ax), .val (.int px), .val (.int (0 : Int32)), .unset, .unset] [])) _
    refine XS.aloadN X0.here hx rfl (hb hby d8_2) rfl rfl ?_
    exact k
  obtain ⟨T19, X19, e19, st19⟩ := getF X0 hx hZ hown (host := "") (Or.inl (own_w hw 22 rfl)) Via.refl e0 Fb (g := (mkF m 3 #[.val (.ref ax), .val (.int px), .val (.int (0 : Int32)), .unset, .unset] [(.ref ax)])) rfl rfl (hb hby d8_3)
  refine own_pre (fun t k => st19 t k) ?_
  refine own_pre (A := (T19.setTop (mkF m 26 #[.val (.ref ax), .val (.int px), .val (.int (0 : Int32)), .val (.int (0 : Int32)), .val (.int (0 : Int32))] [(.ref ax), (.int px)]))) ?_ ?_
  · intro t k
    show Steps p.tables e below (T19.setTop (mkF m 6 #[.val (.ref ax), .val (.int px), .val (.int (0 : Int32)), .unset, .unset] [(.ref ab)])) _
    obtain ⟨cl20, Ar20, -, S20, N20, -, -⟩ := Vb
    refine X19.arraylength hx (by rw [e19]; exact Ar20.1) (State.isArrayOf_alike hZ.alike Ar20.2.1) (g := (mkF m 6 #[.val (.ref ax), .val (.int px), .val (.int (0 : Int32)), .unset, .unset] [(.ref ab)])) rfl rfl (hb hby d8_6) _ ?_
    rw [len_of S20 N20]
    show Steps p.tables e below (T19.setTop (mkF m 7 #[.val (.ref ax), .val (.int px), .val (.int (0 : Int32)), .unset, .unset] [(.int (2 : Int32))])) _
    refine XS.iconst X19.here hx rfl (hb hby d8_7) ?_
    show Steps p.tables e below (T19.setTop (mkF m 8 #[.val (.ref ax), .val (.int px), .val (.int (0 : Int32)), .unset, .unset] [(.int (2 : Int32)), (.int (2 : Int32))])) _
    refine XS.idiv X19.here hx rfl (hb hby d8_8) rfl (by decide) ?_
    show Steps p.tables e below (T19.setTop (mkF m 9 #[.val (.ref ax), .val (.int px), .val (.int (0 : Int32)), .unset, .unset] [(.int ((2 : Int32) / (2 : Int32)))])) _
    rw [show ((2 : Int32) / (2 : Int32)) = (1 : Int32) from by decide]
    show Steps p.tables e below (T19.setTop (mkF m 9 #[.val (.ref ax), .val (.int px), .val (.int (0 : Int32)), .unset, .unset] [(.int (1 : Int32))])) _
    refine XS.iconst X19.here hx rfl (hb hby d8_9) ?_
    show Steps p.tables e below (T19.setTop (mkF m 10 #[.val (.ref ax), .val (.int px), .val (.int (0 : Int32)), .unset, .unset] [(.int (1 : Int32)), (.int (1 : Int32))])) _
    refine XS.isub X19.here hx rfl (hb hby d8_10) rfl ?_
    show Steps p.tables e below (T19.setTop (mkF m 11 #[.val (.ref ax), .val (.int px), .val (.int (0 : Int32)), .unset, .unset] [(.int ((1 : Int32) - (1 : Int32)))])) _
    rw [show ((1 : Int32) - (1 : Int32)) = (0 : Int32) from by decide]
    show Steps p.tables e below (T19.setTop (mkF m 11 #[.val (.ref ax), .val (.int px), .val (.int (0 : Int32)), .unset, .unset] [(.int (0 : Int32))])) _
    refine XS.istoreN X19.here hx rfl (hb hby d8_11) rfl (l' := #[.val (.ref ax), .val (.int px), .val (.int (0 : Int32)), .val (.int (0 : Int32)), .unset]) rfl ?_
    show Steps p.tables e below (T19.setTop (mkF m 12 #[.val (.ref ax), .val (.int px), .val (.int (0 : Int32)), .val (.int (0 : Int32)), .unset] [])) _
    refine XS.iloadN X19.here hx rfl (hb hby d8_12) rfl ?_
    show Steps p.tables e below (T19.setTop (mkF m 13 #[.val (.ref ax), .val (.int px), .val (.int (0 : Int32)), .val (.int (0 : Int32)), .unset] [(.int (0 : Int32))])) _
    refine XS.iloadN X19.here hx rfl (hb hby d8_13) rfl ?_
    show Steps p.tables e below (T19.setTop (mkF m 14 #[.val (.ref ax), .val (.int px), .val (.int (0 : Int32)), .val (.int (0 : Int32)), .unset] [(.int (0 : Int32)), (.int (0 : Int32))])) _
    refine XS.icmpNo X19.here hx rfl (hb hby d8_14) rfl (flt (by decide : ¬ ((0 : Int32) < (0 : Int32)))).2.2.1 ?_
    show Steps p.tables e below (T19.setTop (mkF m 17 #[.val (.ref ax), .val (.int px), .val (.int (0 : Int32)), .val (.int (0 : Int32)), .unset] [])) _
    refine XS.iloadN X19.here hx rfl (hb hby d8_17) rfl ?_
    show Steps p.tables e below (T19.setTop (mkF m 18 #[.val (.ref ax), .val (.int px), .val (.int (0 : Int32)), .val (.int (0 : Int32)), .unset] [(.int (0 : Int32))])) _
    refine XS.iloadN X19.here hx rfl (hb hby d8_18) rfl ?_
    show Steps p.tables e below (T19.setTop (mkF m 19 #[.val (.ref ax), .val (.int px), .val (.int (0 : Int32)), .val (.int (0 : Int32)), .unset] [(.int (0 : Int32)), (.int (0 : Int32))])) _
    refine XS.iadd X19.here hx rfl (hb hby d8_19) rfl ?_
    show Steps p.tables e below (T19.setTop (mkF m 20 #[.val (.ref ax), .val (.int px), .val (.int (0 : Int32)), .val (.int (0 : Int32)), .unset] [(.int ((0 : Int32) + (0 : Int32)))])) _
    rw [show ((0 : Int32) + (0 : Int32)) = (0 : Int32) from by decide]
    show Steps p.tables e below (T19.setTop (mkF m 20 #[.val (.ref ax), .val (.int px), .val (.int (0 : Int32)), .val (.int (0 : Int32)), .unset] [(.int (0 : Int32))])) _
    refine XS.iconst X19.here hx rfl (hb hby d8_20) ?_
    show Steps p.tables e below (T19.setTop (mkF m 21 #[.val (.ref ax), .val (.int px), .val (.int (0 : Int32)), .val (.int (0 : Int32)), .unset] [(.int (1 : Int32)), (.int (0 : Int32))])) _
    refine XS.iushr X19.here hx rfl (hb hby d8_21) rfl ?_
    show Steps p.tables e below (T19.setTop (mkF m 22 #[.val (.ref ax), .val (.int px), .val (.int (0 : Int32)), .val (.int (0 : Int32)), .unset] [(.int (((0 : Int32).toUInt32 >>> ((1 : Int32) &&& 31).toUInt32).toInt32))])) _
    rw [show (((0 : Int32).toUInt32 >>> ((1 : Int32) &&& 31).toUInt32).toInt32) = (0 : Int32) from by decide]
    show Steps p.tables e below (T19.setTop (mkF m 22 #[.val (.ref ax), .val (.int px), .val (.int (0 : Int32)), .val (.int (0 : Int32)), .unset] [(.int (0 : Int32))])) _
    refine XS.istore X19.here hx rfl (hb hby d8_22) rfl (l' := #[.val (.ref ax), .val (.int px), .val (.int (0 : Int32)), .val (.int (0 : Int32)), .val (.int (0 : Int32))]) rfl ?_
    show Steps p.tables e below (T19.setTop (mkF m 24 #[.val (.ref ax), .val (.int px), .val (.int (0 : Int32)), .val (.int (0 : Int32)), .val (.int (0 : Int32))] [])) _
    refine XS.iloadN X19.here hx rfl (hb hby d8_24) rfl ?_
    show Steps p.tables e below (T19.setTop (mkF m 25 #[.val (.ref ax), .val (.int px), .val (.int (0 : Int32)), .val (.int (0 : Int32)), .val (.int (0 : Int32))] [(.int px)])) _
    refine XS.aloadN X19.here hx rfl (hb hby d8_25) rfl rfl ?_
    exact k
  obtain ⟨T21, X21, e21, st21⟩ := getF X19 hx hZ hown (host := "") (Or.inl (own_w hw 22 rfl)) Via.refl e19 Fb (g := (mkF m 26 #[.val (.ref ax), .val (.int px), .val (.int (0 : Int32)), .val (.int (0 : Int32)), .val (.int (0 : Int32))] [(.ref ax), (.int px)])) rfl rfl (hb hby d8_26)
  refine own_pre (fun t k => st21 t k) ?_
  refine own_pre (A := (T21.setTop (mkF m 34 #[.val (.ref ax), .val (.int px), .val (.int (0 : Int32)), .val (.int (0 : Int32)), .val (.int (0 : Int32))] [(.int pf), (.int px)]))) ?_ ?_
  · intro t k
    show Steps p.tables e below (T21.setTop (mkF m 29 #[.val (.ref ax), .val (.int px), .val (.int (0 : Int32)), .val (.int (0 : Int32)), .val (.int (0 : Int32))] [(.ref ab), (.int px)])) _
    refine XS.iconst X21.here hx rfl (hb hby d8_29) ?_
    show Steps p.tables e below (T21.setTop (mkF m 30 #[.val (.ref ax), .val (.int px), .val (.int (0 : Int32)), .val (.int (0 : Int32)), .val (.int (0 : Int32))] [(.int (2 : Int32)), (.ref ab), (.int px)])) _
    refine XS.iload X21.here hx rfl (hb hby d8_30) rfl ?_
    show Steps p.tables e below (T21.setTop (mkF m 32 #[.val (.ref ax), .val (.int px), .val (.int (0 : Int32)), .val (.int (0 : Int32)), .val (.int (0 : Int32))] [(.int (0 : Int32)), (.int (2 : Int32)), (.ref ab), (.int px)])) _
    refine XS.imul X21.here hx rfl (hb hby d8_32) rfl ?_
    show Steps p.tables e below (T21.setTop (mkF m 33 #[.val (.ref ax), .val (.int px), .val (.int (0 : Int32)), .val (.int (0 : Int32)), .val (.int (0 : Int32))] [(.int ((2 : Int32) * (0 : Int32))), (.ref ab), (.int px)])) _
    rw [show ((2 : Int32) * (0 : Int32)) = (0 : Int32) from by decide]
    show Steps p.tables e below (T21.setTop (mkF m 33 #[.val (.ref ax), .val (.int px), .val (.int (0 : Int32)), .val (.int (0 : Int32)), .val (.int (0 : Int32))] [(.int (0 : Int32)), (.ref ab), (.int px)])) _
    obtain ⟨cl22, Ar22, q22, S22, N22, H22, G22⟩ := Vb
    have hin22 : ¬ ((0 : Int32) < 0 ∨ cl22.slots.size ≤ ((0 : Int32)).toNatClampNeg) := inb_of S22 ⟨by decide, by decide⟩
    refine X21.iaload hx (j := (0 : Int32)) (v := (.int pf)) (by rw [e21]; exact Ar22.1) (State.isArrayOf_alike hZ.alike Ar22.2.1) Ar22.2.2 hin22 (H22.at hin22 rfl) (g := (mkF m 33 #[.val (.ref ax), .val (.int px), .val (.int (0 : Int32)), .val (.int (0 : Int32)), .val (.int (0 : Int32))] [(.int (0 : Int32)), (.ref ab), (.int px)])) rfl rfl (hb hby d8_33) _ ?_
    exact k
  by_cases hc23 : px < pf
  · skip
    refine own_pre (A := (T21.setTop (mkF m 37 #[.val (.ref ax), .val (.int px), .val (.int (0 : Int32)), .val (.int (0 : Int32)), .val (.int (0 : Int32))] []))) ?_ ?_
    · intro t k
      refine XS.icmpNo X21.here hx rfl (hb hby d8_34) rfl (tlt hc23).2.1 ?_
      exact k
    refine own_pre (A := (T21.setTop (mkF m 74 #[.val (.ref ax), .val (.int px), .val (.int (0 : Int32)), .val (.int (-1 : Int32)), .val (.int (0 : Int32))] [(.int (0 : Int32))]))) ?_ ?_
    · intro t k
      show Steps p.tables e below (T21.setTop (mkF m 37 #[.val (.ref ax), .val (.int px), .val (.int (0 : Int32)), .val (.int (0 : Int32)), .val (.int (0 : Int32))] [])) _
      refine XS.iload X21.here hx rfl (hb hby d8_37) rfl ?_
      show Steps p.tables e below (T21.setTop (mkF m 39 #[.val (.ref ax), .val (.int px), .val (.int (0 : Int32)), .val (.int (0 : Int32)), .val (.int (0 : Int32))] [(.int (0 : Int32))])) _
      refine XS.iconst X21.here hx rfl (hb hby d8_39) ?_
      show Steps p.tables e below (T21.setTop (mkF m 40 #[.val (.ref ax), .val (.int px), .val (.int (0 : Int32)), .val (.int (0 : Int32)), .val (.int (0 : Int32))] [(.int (1 : Int32)), (.int (0 : Int32))])) _
      refine XS.isub X21.here hx rfl (hb hby d8_40) rfl ?_
      show Steps p.tables e below (T21.setTop (mkF m 41 #[.val (.ref ax), .val (.int px), .val (.int (0 : Int32)), .val (.int (0 : Int32)), .val (.int (0 : Int32))] [(.int ((0 : Int32) - (1 : Int32)))])) _
      rw [show ((0 : Int32) - (1 : Int32)) = (-1 : Int32) from by decide]
      show Steps p.tables e below (T21.setTop (mkF m 41 #[.val (.ref ax), .val (.int px), .val (.int (0 : Int32)), .val (.int (0 : Int32)), .val (.int (0 : Int32))] [(.int (-1 : Int32))])) _
      refine XS.istoreN X21.here hx rfl (hb hby d8_41) rfl (l' := #[.val (.ref ax), .val (.int px), .val (.int (0 : Int32)), .val (.int (-1 : Int32)), .val (.int (0 : Int32))]) rfl ?_
      show Steps p.tables e below (T21.setTop (mkF m 42 #[.val (.ref ax), .val (.int px), .val (.int (0 : Int32)), .val (.int (-1 : Int32)), .val (.int (0 : Int32))] [])) _
      refine XS.goto X21.here hx rfl (pc0 := 42) (pc' := 70) rfl (hb hby d8_42) (by decide) (by decide) ?_
      show Steps p.tables e below (T21.setTop (mkF m 70 #[.val (.ref ax), .val (.int px), .val (.int (0 : Int32)), .val (.int (-1 : Int32)), .val (.int (0 : Int32))] [])) _
      refine XS.goto X21.here hx rfl (pc0 := 70) (pc' := 12) rfl (hb hby d8_70) (by decide) (by decide) ?_
      show Steps p.tables e below (T21.setTop (mkF m 12 #[.val (.ref ax), .val (.int px), .val (.int (0 : Int32)), .val (.int (-1 : Int32)), .val (.int (0 : Int32))] [])) _
      refine XS.iloadN X21.here hx rfl (hb hby d8_12) rfl ?_
      show Steps p.tables e below (T21.setTop (mkF m 13 #[.val (.ref ax), .val (.int px), .val (.int (0 : Int32)), .val (.int (-1 : Int32)), .val (.int (0 : Int32))] [(.int (0 : Int32))])) _
      refine XS.iloadN X21.here hx rfl (hb hby d8_13) rfl ?_
      show Steps p.tables e below (T21.setTop (mkF m 14 #[.val (.ref ax), .val (.int px), .val (.int (0 : Int32)), .val (.int (-1 : Int32)), .val (.int (0 : Int32))] [(.int (-1 : Int32)), (.int (0 : Int32))])) _
      refine XS.icmpYes X21.here hx rfl (pc0 := 14) (pc' := 73) rfl (hb hby d8_14) rfl (tlt (by decide : (-1 : Int32) < (0 : Int32))).2.2.1 (by decide) (by decide) ?_
      show Steps p.tables e below (T21.setTop (mkF m 73 #[.val (.ref ax), .val (.int px), .val (.int (0 : Int32)), .val (.int (-1 : Int32)), .val (.int (0 : Int32))] [])) _
      refine XS.iconst X21.here hx rfl (hb hby d8_73) ?_
      exact k
    have hz : own_ctn px pf pl = (0 : Int32) := by simp only [own_ctn, if_pos hc23]
    obtain ⟨fs, hr, hrun, hended, hW, hsame⟩ := X21.leave (v := some (.int (0 : Int32))) (fun h => by rw [Bd.returns] at h; cases h)
    refine ⟨_, _, retOut X21 hx Bd.returns rfl (Or.inl ⟨rfl, Or.inr (Or.inl rfl), _, rfl⟩) (hb hby d8_74) hr, hrun, hended, _, _, rfl, ?_, ⟨_, rfl⟩, hW, hsame.mono (by decide) (by decide)⟩
    show own_Q8 Z ax px ab kb pf pl h0 n0 _ T21.heap _
    rw [e21]
    exact ⟨by rw [hz], N0, rfl⟩
  · skip
    refine own_pre (A := (T21.setTop (mkF m 45 #[.val (.ref ax), .val (.int px), .val (.int (0 : Int32)), .val (.int (0 : Int32)), .val (.int (0 : Int32))] []))) ?_ ?_
    · intro t k
      refine XS.icmpYes X21.here hx rfl (pc0 := 34) (pc' := 45) rfl (hb hby d8_34) rfl (flt hc23).2.1 (by decide) (by decide) ?_
      exact k
    refine own_pre (A := (T21.setTop (mkF m 47 #[.val (.ref ax), .val (.int px), .val (.int (0 : Int32)), .val (.int (0 : Int32)), .val (.int (0 : Int32))] [(.ref ax), (.int px)]))) ?_ ?_
    · intro t k
      show Steps p.tables e below (T21.setTop (mkF m 45 #[.val (.ref ax), .val (.int px), .val (.int (0 : Int32)), .val (.int (0 : Int32)), .val (.int (0 : Int32))] [])) _
      refine XS.iloadN X21.here hx rfl (hb hby d8_45) rfl ?_
      show Steps p.tables e below (T21.setTop (mkF m 46 #[.val (.ref ax), .val (.int px), .val (.int (0 : Int32)), .val (.int (0 : Int32)), .val (.int (0 : Int32))] [(.int px)])) _
      refine XS.aloadN X21.here hx rfl (hb hby d8_46) rfl rfl ?_
      exact k
    obtain ⟨T24, X24, e24, st24⟩ := getF X21 hx hZ hown (host := "") (Or.inl (own_w hw 22 rfl)) Via.refl e21 Fb (g := (mkF m 47 #[.val (.ref ax), .val (.int px), .val (.int (0 : Int32)), .val (.int (0 : Int32)), .val (.int (0 : Int32))] [(.ref ax), (.int px)])) rfl rfl (hb hby d8_47)
    refine own_pre (fun t k => st24 t k) ?_
    refine own_pre (A := (T24.setTop (mkF m 57 #[.val (.ref ax), .val (.int px), .val (.int (0 : Int32)), .val (.int (0 : Int32)), .val (.int (0 : Int32))] [(.int pl), (.int px)]))) ?_ ?_
    · intro t k
      show Steps p.tables e below (T24.setTop (mkF m 50 #[.val (.ref ax), .val (.int px), .val (.int (0 : Int32)), .val (.int (0 : Int32)), .val (.int (0 : Int32))] [(.ref ab), (.int px)])) _
      refine XS.iconst X24.here hx rfl (hb hby d8_50) ?_
      show Steps p.tables e below (T24.setTop (mkF m 51 #[.val (.ref ax), .val (.int px), .val (.int (0 : Int32)), .val (.int (0 : Int32)), .val (.int (0 : Int32))] [(.int (2 : Int32)), (.ref ab), (.int px)])) _
      refine XS.iload X24.here hx rfl (hb hby d8_51) rfl ?_
      show Steps p.tables e below (T24.setTop (mkF m 53 #[.val (.ref ax), .val (.int px), .val (.int (0 : Int32)), .val (.int (0 : Int32)), .val (.int (0 : Int32))] [(.int (0 : Int32)), (.int (2 : Int32)), (.ref ab), (.int px)])) _
      refine XS.imul X24.here hx rfl (hb hby d8_53) rfl ?_
      show Steps p.tables e below (T24.setTop (mkF m 54 #[.val (.ref ax), .val (.int px), .val (.int (0 : Int32)), .val (.int (0 : Int32)), .val (.int (0 : Int32))] [(.int ((2 : Int32) * (0 : Int32))), (.ref ab), (.int px)])) _
      rw [show ((2 : Int32) * (0 : Int32)) = (0 : Int32) from by decide]
      show Steps p.tables e below (T24.setTop (mkF m 54 #[.val (.ref ax), .val (.int px), .val (.int (0 : Int32)), .val (.int (0 : Int32)), .val (.int (0 : Int32))] [(.int (0 : Int32)), (.ref ab), (.int px)])) _
      refine XS.iconst X24.here hx rfl (hb hby d8_54) ?_
      show Steps p.tables e below (T24.setTop (mkF m 55 #[.val (.ref ax), .val (.int px), .val (.int (0 : Int32)), .val (.int (0 : Int32)), .val (.int (0 : Int32))] [(.int (1 : Int32)), (.int (0 : Int32)), (.ref ab), (.int px)])) _
      refine XS.iadd X24.here hx rfl (hb hby d8_55) rfl ?_
      show Steps p.tables e below (T24.setTop (mkF m 56 #[.val (.ref ax), .val (.int px), .val (.int (0 : Int32)), .val (.int (0 : Int32)), .val (.int (0 : Int32))] [(.int ((0 : Int32) + (1 : Int32))), (.ref ab), (.int px)])) _
      rw [show ((0 : Int32) + (1 : Int32)) = (1 : Int32) from by decide]
      show Steps p.tables e below (T24.setTop (mkF m 56 #[.val (.ref ax), .val (.int px), .val (.int (0 : Int32)), .val (.int (0 : Int32)), .val (.int (0 : Int32))] [(.int (1 : Int32)), (.ref ab), (.int px)])) _
      obtain ⟨cl25, Ar25, q25, S25, N25, H25, G25⟩ := Vb
      have hin25 : ¬ ((1 : Int32) < 0 ∨ cl25.slots.size ≤ ((1 : Int32)).toNatClampNeg) := inb_of S25 ⟨by decide, by decide⟩
      refine X24.iaload hx (j := (1 : Int32)) (v := (.int pl)) (by rw [e24]; exact Ar25.1) (State.isArrayOf_alike hZ.alike Ar25.2.1) Ar25.2.2 hin25 (H25.at hin25 rfl) (g := (mkF m 56 #[.val (.ref ax), .val (.int px), .val (.int (0 : Int32)), .val (.int (0 : Int32)), .val (.int (0 : Int32))] [(.int (1 : Int32)), (.ref ab), (.int px)])) rfl rfl (hb hby d8_56) _ ?_
      exact k
    by_cases hc26 : pl < px
    · skip
      refine own_pre (A := (T24.setTop (mkF m 60 #[.val (.ref ax), .val (.int px), .val (.int (0 : Int32)), .val (.int (0 : Int32)), .val (.int (0 : Int32))] []))) ?_ ?_
      · intro t k
        refine XS.icmpNo X24.here hx rfl (hb hby d8_57) rfl (tlt hc26).2.2.2 ?_
        exact k
      refine own_pre (A := (T24.setTop (mkF m 74 #[.val (.ref ax), .val (.int px), .val (.int (1 : Int32)), .val (.int (0 : Int32)), .val (.int (0 : Int32))] [(.int (0 : Int32))]))) ?_ ?_
      · intro t k
        show Steps p.tables e below (T24.setTop (mkF m 60 #[.val (.ref ax), .val (.int px), .val (.int (0 : Int32)), .val (.int (0 : Int32)), .val (.int (0 : Int32))] [])) _
        refine XS.iload X24.here hx rfl (hb hby d8_60) rfl ?_
        show Steps p.tables e below (T24.setTop (mkF m 62 #[.val (.ref ax), .val (.int px), .val (.int (0 : Int32)), .val (.int (0 : Int32)), .val (.int (0 : Int32))] [(.int (0 : Int32))])) _
        refine XS.iconst X24.here hx rfl (hb hby d8_62) ?_
        show Steps p.tables e below (T24.setTop (mkF m 63 #[.val (.ref ax), .val (.int px), .val (.int (0 : Int32)), .val (.int (0 : Int32)), .val (.int (0 : Int32))] [(.int (1 : Int32)), (.int (0 : Int32))])) _
        refine XS.iadd X24.here hx rfl (hb hby d8_63) rfl ?_
        show Steps p.tables e below (T24.setTop (mkF m 64 #[.val (.ref ax), .val (.int px), .val (.int (0 : Int32)), .val (.int (0 : Int32)), .val (.int (0 : Int32))] [(.int ((0 : Int32) + (1 : Int32)))])) _
        rw [show ((0 : Int32) + (1 : Int32)) = (1 : Int32) from by decide]
        show Steps p.tables e below (T24.setTop (mkF m 64 #[.val (.ref ax), .val (.int px), .val (.int (0 : Int32)), .val (.int (0 : Int32)), .val (.int (0 : Int32))] [(.int (1 : Int32))])) _
        refine XS.istoreN X24.here hx rfl (hb hby d8_64) rfl (l' := #[.val (.ref ax), .val (.int px), .val (.int (1 : Int32)), .val (.int (0 : Int32)), .val (.int (0 : Int32))]) rfl ?_
        show Steps p.tables e below (T24.setTop (mkF m 65 #[.val (.ref ax), .val (.int px), .val (.int (1 : Int32)), .val (.int (0 : Int32)), .val (.int (0 : Int32))] [])) _
        refine XS.goto X24.here hx rfl (pc0 := 65) (pc' := 70) rfl (hb hby d8_65) (by decide) (by decide) ?_
        show Steps p.tables e below (T24.setTop (mkF m 70 #[.val (.ref ax), .val (.int px), .val (.int (1 : Int32)), .val (.int (0 : Int32)), .val (.int (0 : Int32))] [])) _
        refine XS.goto X24.here hx rfl (pc0 := 70) (pc' := 12) rfl (hb hby d8_70) (by decide) (by decide) ?_
        show Steps p.tables e below (T24.setTop (mkF m 12 #[.val (.ref ax), .val (.int px), .val (.int (1 : Int32)), .val (.int (0 : Int32)), .val (.int (0 : Int32))] [])) _
        refine XS.iloadN X24.here hx rfl (hb hby d8_12) rfl ?_
        show Steps p.tables e below (T24.setTop (mkF m 13 #[.val (.ref ax), .val (.int px), .val (.int (1 : Int32)), .val (.int (0 : Int32)), .val (.int (0 : Int32))] [(.int (1 : Int32))])) _
        refine XS.iloadN X24.here hx rfl (hb hby d8_13) rfl ?_
        show Steps p.tables e below (T24.setTop (mkF m 14 #[.val (.ref ax), .val (.int px), .val (.int (1 : Int32)), .val (.int (0 : Int32)), .val (.int (0 : Int32))] [(.int (0 : Int32)), (.int (1 : Int32))])) _
        refine XS.icmpYes X24.here hx rfl (pc0 := 14) (pc' := 73) rfl (hb hby d8_14) rfl (tlt (by decide : (0 : Int32) < (1 : Int32))).2.2.1 (by decide) (by decide) ?_
        show Steps p.tables e below (T24.setTop (mkF m 73 #[.val (.ref ax), .val (.int px), .val (.int (1 : Int32)), .val (.int (0 : Int32)), .val (.int (0 : Int32))] [])) _
        refine XS.iconst X24.here hx rfl (hb hby d8_73) ?_
        exact k
      have hz : own_ctn px pf pl = (0 : Int32) := by simp only [own_ctn, if_neg hc23, if_pos hc26]
      obtain ⟨fs, hr, hrun, hended, hW, hsame⟩ := X24.leave (v := some (.int (0 : Int32))) (fun h => by rw [Bd.returns] at h; cases h)
      refine ⟨_, _, retOut X24 hx Bd.returns rfl (Or.inl ⟨rfl, Or.inr (Or.inl rfl), _, rfl⟩) (hb hby d8_74) hr, hrun, hended, _, _, rfl, ?_, ⟨_, rfl⟩, hW, hsame.mono (by decide) (by decide)⟩
      show own_Q8 Z ax px ab kb pf pl h0 n0 _ T24.heap _
      rw [e24]
      exact ⟨by rw [hz], N0, rfl⟩
    · skip
      refine own_pre (A := (T24.setTop (mkF m 68 #[.val (.ref ax), .val (.int px), .val (.int (0 : Int32)), .val (.int (0 : Int32)), .val (.int (0 : Int32))] []))) ?_ ?_
      · intro t k
        refine XS.icmpYes X24.here hx rfl (pc0 := 57) (pc' := 68) rfl (hb hby d8_57) rfl (flt hc26).2.2.2 (by decide) (by decide) ?_
        exact k
      refine own_pre (A := (T24.setTop (mkF m 69 #[.val (.ref ax), .val (.int px), .val (.int (0 : Int32)), .val (.int (0 : Int32)), .val (.int (0 : Int32))] [(.int (1 : Int32))]))) ?_ ?_
      · intro t k
        show Steps p.tables e below (T24.setTop (mkF m 68 #[.val (.ref ax), .val (.int px), .val (.int (0 : Int32)), .val (.int (0 : Int32)), .val (.int (0 : Int32))] [])) _
        refine XS.iconst X24.here hx rfl (hb hby d8_68) ?_
        exact k
      have hz : own_ctn px pf pl = (1 : Int32) := by simp only [own_ctn, if_neg hc23, if_neg hc26]
      obtain ⟨fs, hr, hrun, hended, hW, hsame⟩ := X24.leave (v := some (.int (1 : Int32))) (fun h => by rw [Bd.returns] at h; cases h)
      refine ⟨_, _, retOut X24 hx Bd.returns rfl (Or.inl ⟨rfl, Or.inr (Or.inl rfl), _, rfl⟩) (hb hby d8_69) hr, hrun, hended, _, _, rfl, ?_, ⟨_, rfl⟩, hW, hsame.mono (by decide) (by decide)⟩
      show own_Q8 Z ax px ab kb pf pl h0 n0 _ T24.heap _
      rw [e24]
      exact ⟨by rw [hz], N0, rfl⟩
theorem own_cp (x : Int32) : 0 ≤ ((x &&& (2147483647 : Int32)) % (1114112 : Int32)).toInt ∧ ((x &&& (2147483647 : Int32)) % (1114112 : Int32)).toInt < 1114112 := by
  have h1 := (c_and x (2147483647 : Int32) (by decide)).1
  have h := (c_irem (x &&& (2147483647 : Int32)) (1114112 : Int32) 1114112 (by decide)).1 h1
  rw [h]; omega
theorem own_minmax (x y : Int32) (hx : 0 ≤ x.toInt ∧ x.toInt < 1114112) (hy : 0 ≤ y.toInt ∧ y.toInt < 1114112) : 0 ≤ (own_min x y).toInt ∧ (own_min x y).toInt ≤ (own_max x y).toInt ∧ (own_max x y).toInt < 1114112 := by
  simp only [own_min, own_max, Int32.lt_iff_toInt_lt]
  split <;> split <;> refine ⟨?_, ?_, ?_⟩ <;> omega
theorem own_o : (1 : Int32).toInt = 1 := by decide
theorem own_z : (0 : Int32).toInt = 0 := by decide
theorem own_span (f l : Int32) (h : 0 ≤ f.toInt ∧ f.toInt ≤ l.toInt ∧ l.toInt < 1114112) : ((l - f) + (1 : Int32)).toInt = l.toInt - f.toInt + 1 ∧ ((l - f) + (1 : Int32)) ≠ 0 := by
  have h1 := c_isub l f
  have h2 := c_iadd (l - f) (1 : Int32)
  have r1 := rng32 (l - f)
  have r2 := rng32 ((l - f) + (1 : Int32))
  rw [own_o] at h2
  have e : ((l - f) + (1 : Int32)).toInt = l.toInt - f.toInt + 1 := by omega
  refine ⟨e, fun q => ?_⟩
  rw [← Int32.toInt_inj, e, own_z] at q
  omega
theorem own_mid (f l x : Int32) (h : 0 ≤ f.toInt ∧ f.toInt ≤ l.toInt ∧ l.toInt < 1114112) : f.toInt ≤ (f + ((x &&& (2147483647 : Int32)) % ((l - f) + (1 : Int32)))).toInt ∧ (f + ((x &&& (2147483647 : Int32)) % ((l - f) + (1 : Int32)))).toInt ≤ l.toInt := by
  have h1 := (own_span f l h).1
  have h2 := (c_and x (2147483647 : Int32) (by decide)).1
  have h3 := (c_irem (x &&& (2147483647 : Int32)) ((l - f) + (1 : Int32)) _ h1).1 h2
  have h4 := Int.emod_nonneg (x &&& (2147483647 : Int32)).toInt (b := l.toInt - f.toInt + 1) (by omega)
  have h5 := Int.emod_lt_of_pos (x &&& (2147483647 : Int32)).toInt (b := l.toInt - f.toInt + 1) (by omega)
  have h6 := c_iadd f ((x &&& (2147483647 : Int32)) % ((l - f) + (1 : Int32)))
  have r2 := rng32 (f + ((x &&& (2147483647 : Int32)) % ((l - f) + (1 : Int32))))
  rw [h3] at h6
  generalize (x &&& (2147483647 : Int32)).toInt % (l.toInt - f.toInt + 1) = X at *
  omega
theorem own_in (q f l : Int32) (h : f.toInt ≤ q.toInt ∧ q.toInt ≤ l.toInt) : ¬ own_ctn q f l = (0 : Int32) := by
  simp only [own_ctn, Int32.lt_iff_toInt_lt]
  rw [if_neg (by omega), if_neg (by omega)]; decide
theorem own_lo (f l : Int32) (h : 0 ≤ f.toInt ∧ f.toInt ≤ l.toInt ∧ l.toInt < 1114112) : own_ctn (f - (1 : Int32)) f l = (0 : Int32) := by
  have h1 := c_isub f (1 : Int32)
  have r := rng32 (f - (1 : Int32))
  rw [own_o] at h1
  simp only [own_ctn, Int32.lt_iff_toInt_lt]
  rw [if_pos (by omega)]
theorem own_hi (f l : Int32) (h : 0 ≤ f.toInt ∧ f.toInt ≤ l.toInt ∧ l.toInt < 1114112) : own_ctn (l + (1 : Int32)) f l = (0 : Int32) := by
  have h1 := c_iadd l (1 : Int32)
  have r := rng32 (l + (1 : Int32))
  rw [own_o] at h1
  simp only [own_ctn, Int32.lt_iff_toInt_lt]
  rw [if_neg (by omega), if_pos (by omega)]
theorem own_pn0 : plainName "com/example/otito/otito/chain/CodePointSetRangePinLaw" = true := by first | (simp [plainName, overriddenIn]; done) | decide +kernel
theorem own_ef0 (m : MethodId) (x0 : Int32) (x1 : Int32) (x2 : Int32) (x3 : Int32) : entryFrame m #[(.int x0), (.int x1), (.int x2), (.int x3)] maxLocals = mkF m 0 #[.val (.int x0), .val (.int x1), .val (.int x2), .val (.int x3), .unset, .unset, .unset, .unset, .unset, .unset, .unset] [] := by first | (simp [entryFrame, mkF, argsToLocals, Value.category, maxLocals]; done) | rfl
def own_Q0 (h0 : Heap) (n0 : Nat) (v : Option Value) (h : Heap) (L : List Loc) : Prop := v = some (.int (1 : Int32)) ∧ Fr n0 L
set_option maxRecDepth 65536 in
set_option maxHeartbeats 40000000 in
theorem rm0 (l : Launch) (Z : State) (a0 : Array Value) (hw : ∀ d ∈ tables_1, d.before a0 Z = true) (ws : List Jvm.Cond) (p0 : Int32) (p1 : Int32) (p2 : Int32) (p3 : Int32) (h0 : Heap) (n0 : Nat) (Z0 : n0 ≤ h0.size) :
    MetFree l x (head1 (Jvm.Cond.code x code maxLocals ret :: ws) room_1) (fun a U => a = #[(.int p0), (.int p1), (.int p2), (.int p3)] ∧ Z.Warmed39 U.vm ∧ U.heap = h0) (fun _ _ _ _ _ => True) (fun _ U o U' => ∃ v L, o = .returned v ∧ own_Q0  h0 n0 v U'.heap L ∧ FrameEnd U o U' L room_1.cells room_1.slots) := by
  refine MetFree.of_bodySF (plainFor_of_name own_pn0) hisR ?_
  intro p e s m args below meth c s₁ Bd hml0 hP hK
  obtain ⟨rfl, hZ, hh⟩ := hP
  have hx := Bd.exec
  have hby := Bd.bytes
  have hml : c.maxLocals = 11 := hml0
  have hown : s.vm.findClass "com/example/otito/otito/chain/CodePointSetRangePinLaw" = some m.cls := findClass_of_methodNamed Bd.named
  have hnm := (name_of_methodNamed Bd.named Bd.method).1
  have X0 : Stand p l e room_1 s m #[(.int p0), (.int p1), (.int p2), (.int p3)] below meth c s₁ [] 0 0 := Stand.of_body Bd
  have e0 : s₁.heap = h0 := by rw [← hh, Bd.state]; rfl
  have N0 := Fr.nil n0
  refine own_pre (A := (s₁.setTop (mkF m 0 #[.val (.int p0), .val (.int p1), .val (.int p2), .val (.int p3), .unset, .unset, .unset, .unset, .unset, .unset, .unset] []))) (fun t k => castTop (own_ef0 m p0 p1 p2 p3) k) ?_
  refine own_pre (A := (s₁.setTop (mkF m 22 #[.val (.int p0), .val (.int p1), .val (.int p2), .val (.int p3), .val (.int ((p0 &&& (2147483647 : Int32)) % (1114112 : Int32))), .val (.int ((p1 &&& (2147483647 : Int32)) % (1114112 : Int32))), .unset, .unset, .unset, .unset, .unset] [(.int ((p1 &&& (2147483647 : Int32)) % (1114112 : Int32))), (.int ((p0 &&& (2147483647 : Int32)) % (1114112 : Int32)))]))) ?_ ?_
  · intro t k
    show Steps p.tables e below (s₁.setTop (mkF m 0 #[.val (.int p0), .val (.int p1), .val (.int p2), .val (.int p3), .unset, .unset, .unset, .unset, .unset, .unset, .unset] [])) _
    refine XS.iloadN X0.here hx rfl (hb hby at_0) rfl ?_
    show Steps p.tables e below (s₁.setTop (mkF m 1 #[.val (.int p0), .val (.int p1), .val (.int p2), .val (.int p3), .unset, .unset, .unset, .unset, .unset, .unset, .unset] [(.int p0)])) _
    refine X0.ldcInt hx hown (mvT hZ (own_w hw 0 rfl)) (g := (mkF m 1 #[.val (.int p0), .val (.int p1), .val (.int p2), .val (.int p3), .unset, .unset, .unset, .unset, .unset, .unset, .unset] [(.int p0)])) rfl (hb hby at_1) _ ?_
    show Steps p.tables e below (s₁.setTop (mkF m 3 #[.val (.int p0), .val (.int p1), .val (.int p2), .val (.int p3), .unset, .unset, .unset, .unset, .unset, .unset, .unset] [(.int (2147483647 : Int32)), (.int p0)])) _
    refine XS.iand X0.here hx rfl (hb hby at_3) rfl ?_
    show Steps p.tables e below (s₁.setTop (mkF m 4 #[.val (.int p0), .val (.int p1), .val (.int p2), .val (.int p3), .unset, .unset, .unset, .unset, .unset, .unset, .unset] [(.int (p0 &&& (2147483647 : Int32)))])) _
    refine X0.ldcInt hx hown (mvT hZ (own_w hw 1 rfl)) (g := (mkF m 4 #[.val (.int p0), .val (.int p1), .val (.int p2), .val (.int p3), .unset, .unset, .unset, .unset, .unset, .unset, .unset] [(.int (p0 &&& (2147483647 : Int32)))])) rfl (hb hby at_4) _ ?_
    show Steps p.tables e below (s₁.setTop (mkF m 6 #[.val (.int p0), .val (.int p1), .val (.int p2), .val (.int p3), .unset, .unset, .unset, .unset, .unset, .unset, .unset] [(.int (1114112 : Int32)), (.int (p0 &&& (2147483647 : Int32)))])) _
    refine iremM X0 hx rfl (hb hby at_6) rfl (by decide) ?_
    show Steps p.tables e below (s₁.setTop (mkF m 7 #[.val (.int p0), .val (.int p1), .val (.int p2), .val (.int p3), .unset, .unset, .unset, .unset, .unset, .unset, .unset] [(.int ((p0 &&& (2147483647 : Int32)) % (1114112 : Int32)))])) _
    refine XS.istore X0.here hx rfl (hb hby at_7) rfl (l' := #[.val (.int p0), .val (.int p1), .val (.int p2), .val (.int p3), .val (.int ((p0 &&& (2147483647 : Int32)) % (1114112 : Int32))), .unset, .unset, .unset, .unset, .unset, .unset]) rfl ?_
    show Steps p.tables e below (s₁.setTop (mkF m 9 #[.val (.int p0), .val (.int p1), .val (.int p2), .val (.int p3), .val (.int ((p0 &&& (2147483647 : Int32)) % (1114112 : Int32))), .unset, .unset, .unset, .unset, .unset, .unset] [])) _
    refine XS.iloadN X0.here hx rfl (hb hby at_9) rfl ?_
    show Steps p.tables e below (s₁.setTop (mkF m 10 #[.val (.int p0), .val (.int p1), .val (.int p2), .val (.int p3), .val (.int ((p0 &&& (2147483647 : Int32)) % (1114112 : Int32))), .unset, .unset, .unset, .unset, .unset, .unset] [(.int p1)])) _
    refine X0.ldcInt hx hown (mvT hZ (own_w hw 0 rfl)) (g := (mkF m 10 #[.val (.int p0), .val (.int p1), .val (.int p2), .val (.int p3), .val (.int ((p0 &&& (2147483647 : Int32)) % (1114112 : Int32))), .unset, .unset, .unset, .unset, .unset, .unset] [(.int p1)])) rfl (hb hby at_10) _ ?_
    show Steps p.tables e below (s₁.setTop (mkF m 12 #[.val (.int p0), .val (.int p1), .val (.int p2), .val (.int p3), .val (.int ((p0 &&& (2147483647 : Int32)) % (1114112 : Int32))), .unset, .unset, .unset, .unset, .unset, .unset] [(.int (2147483647 : Int32)), (.int p1)])) _
    refine XS.iand X0.here hx rfl (hb hby at_12) rfl ?_
    show Steps p.tables e below (s₁.setTop (mkF m 13 #[.val (.int p0), .val (.int p1), .val (.int p2), .val (.int p3), .val (.int ((p0 &&& (2147483647 : Int32)) % (1114112 : Int32))), .unset, .unset, .unset, .unset, .unset, .unset] [(.int (p1 &&& (2147483647 : Int32)))])) _
    refine X0.ldcInt hx hown (mvT hZ (own_w hw 1 rfl)) (g := (mkF m 13 #[.val (.int p0), .val (.int p1), .val (.int p2), .val (.int p3), .val (.int ((p0 &&& (2147483647 : Int32)) % (1114112 : Int32))), .unset, .unset, .unset, .unset, .unset, .unset] [(.int (p1 &&& (2147483647 : Int32)))])) rfl (hb hby at_13) _ ?_
    show Steps p.tables e below (s₁.setTop (mkF m 15 #[.val (.int p0), .val (.int p1), .val (.int p2), .val (.int p3), .val (.int ((p0 &&& (2147483647 : Int32)) % (1114112 : Int32))), .unset, .unset, .unset, .unset, .unset, .unset] [(.int (1114112 : Int32)), (.int (p1 &&& (2147483647 : Int32)))])) _
    refine iremM X0 hx rfl (hb hby at_15) rfl (by decide) ?_
    show Steps p.tables e below (s₁.setTop (mkF m 16 #[.val (.int p0), .val (.int p1), .val (.int p2), .val (.int p3), .val (.int ((p0 &&& (2147483647 : Int32)) % (1114112 : Int32))), .unset, .unset, .unset, .unset, .unset, .unset] [(.int ((p1 &&& (2147483647 : Int32)) % (1114112 : Int32)))])) _
    refine XS.istore X0.here hx rfl (hb hby at_16) rfl (l' := #[.val (.int p0), .val (.int p1), .val (.int p2), .val (.int p3), .val (.int ((p0 &&& (2147483647 : Int32)) % (1114112 : Int32))), .val (.int ((p1 &&& (2147483647 : Int32)) % (1114112 : Int32))), .unset, .unset, .unset, .unset, .unset]) rfl ?_
    show Steps p.tables e below (s₁.setTop (mkF m 18 #[.val (.int p0), .val (.int p1), .val (.int p2), .val (.int p3), .val (.int ((p0 &&& (2147483647 : Int32)) % (1114112 : Int32))), .val (.int ((p1 &&& (2147483647 : Int32)) % (1114112 : Int32))), .unset, .unset, .unset, .unset, .unset] [])) _
    refine XS.iload X0.here hx rfl (hb hby at_18) rfl ?_
    show Steps p.tables e below (s₁.setTop (mkF m 20 #[.val (.int p0), .val (.int p1), .val (.int p2), .val (.int p3), .val (.int ((p0 &&& (2147483647 : Int32)) % (1114112 : Int32))), .val (.int ((p1 &&& (2147483647 : Int32)) % (1114112 : Int32))), .unset, .unset, .unset, .unset, .unset] [(.int ((p0 &&& (2147483647 : Int32)) % (1114112 : Int32)))])) _
    refine XS.iload X0.here hx rfl (hb hby at_20) rfl ?_
    exact k
  obtain ⟨_, _, ⟨T27, L27, k27, n27⟩, -, X27, ⟨Lc27, hQ27, l27, y27, z27⟩, st27⟩ := Jvm.LawKit.callS X0 hx (y := (⟨"java/lang/Math", "min", "(II)I"⟩ : MethodName)) hown (mvT hZ (own_w hw 2 rfl)) (mvT hZ (own_w hw 3 rfl)) (mvT hZ (own_w hw 4 rfl)) (mvT hZ (own_w hw 5 rfl)) (by decide) (backOf (W := 0) (rm1 l Z a0 hw [] ((p0 &&& (2147483647 : Int32)) % (1114112 : Int32)) ((p1 &&& (2147483647 : Int32)) % (1114112 : Int32)) h0 n0 Z0) hZ (own_w hw 5 rfl) (own_w hw 4 rfl) (by decide) (by decide)) (g := (mkF m 22 #[.val (.int p0), .val (.int p1), .val (.int p2), .val (.int p3), .val (.int ((p0 &&& (2147483647 : Int32)) % (1114112 : Int32))), .val (.int ((p1 &&& (2147483647 : Int32)) % (1114112 : Int32))), .unset, .unset, .unset, .unset, .unset] [(.int ((p1 &&& (2147483647 : Int32)) % (1114112 : Int32))), (.int ((p0 &&& (2147483647 : Int32)) % (1114112 : Int32)))])) rfl (by rw [hml]; rfl) (argsL := [(.int ((p0 &&& (2147483647 : Int32)) % (1114112 : Int32))), (.int ((p1 &&& (2147483647 : Int32)) % (1114112 : Int32)))]) (rest := []) (lenOf own_pd1 rfl) rfl (by show 2 * 0 + _ ≤ _; exact Nat.le_of_eq rfl) (hb hby at_22) (fun _ _ => ⟨rfl, e0, (by decide : 0 + 0 ≤ _), (by decide : 0 + 0 ≤ _)⟩)
  dsimp only [Pt.U, Pt.locs, Pt.cells, Pt.slots] at X27 l27 y27 z27 st27 hQ27
  subst l27 y27 z27
  obtain ⟨rfl, Nq27, eq27⟩ := hQ27
  have N27 := Fr.app N0 Nq27
  refine own_pre (fun t k => st27 t k) ?_
  refine own_pre (A := (T27.setTop (mkF m 31 #[.val (.int p0), .val (.int p1), .val (.int p2), .val (.int p3), .val (.int ((p0 &&& (2147483647 : Int32)) % (1114112 : Int32))), .val (.int ((p1 &&& (2147483647 : Int32)) % (1114112 : Int32))), .val (.int (own_min ((p0 &&& (2147483647 : Int32)) % (1114112 : Int32)) ((p1 &&& (2147483647 : Int32)) % (1114112 : Int32)))), .unset, .unset, .unset, .unset] [(.int ((p1 &&& (2147483647 : Int32)) % (1114112 : Int32))), (.int ((p0 &&& (2147483647 : Int32)) % (1114112 : Int32)))]))) ?_ ?_
  · intro t k
    show Steps p.tables e below (T27.setTop (mkF m 25 #[.val (.int p0), .val (.int p1), .val (.int p2), .val (.int p3), .val (.int ((p0 &&& (2147483647 : Int32)) % (1114112 : Int32))), .val (.int ((p1 &&& (2147483647 : Int32)) % (1114112 : Int32))), .unset, .unset, .unset, .unset, .unset] [(.int (own_min ((p0 &&& (2147483647 : Int32)) % (1114112 : Int32)) ((p1 &&& (2147483647 : Int32)) % (1114112 : Int32))))])) _
    refine XS.istore X27.here hx rfl (hb hby at_25) rfl (l' := #[.val (.int p0), .val (.int p1), .val (.int p2), .val (.int p3), .val (.int ((p0 &&& (2147483647 : Int32)) % (1114112 : Int32))), .val (.int ((p1 &&& (2147483647 : Int32)) % (1114112 : Int32))), .val (.int (own_min ((p0 &&& (2147483647 : Int32)) % (1114112 : Int32)) ((p1 &&& (2147483647 : Int32)) % (1114112 : Int32)))), .unset, .unset, .unset, .unset]) rfl ?_
    show Steps p.tables e below (T27.setTop (mkF m 27 #[.val (.int p0), .val (.int p1), .val (.int p2), .val (.int p3), .val (.int ((p0 &&& (2147483647 : Int32)) % (1114112 : Int32))), .val (.int ((p1 &&& (2147483647 : Int32)) % (1114112 : Int32))), .val (.int (own_min ((p0 &&& (2147483647 : Int32)) % (1114112 : Int32)) ((p1 &&& (2147483647 : Int32)) % (1114112 : Int32)))), .unset, .unset, .unset, .unset] [])) _
    refine XS.iload X27.here hx rfl (hb hby at_27) rfl ?_
    show Steps p.tables e below (T27.setTop (mkF m 29 #[.val (.int p0), .val (.int p1), .val (.int p2), .val (.int p3), .val (.int ((p0 &&& (2147483647 : Int32)) % (1114112 : Int32))), .val (.int ((p1 &&& (2147483647 : Int32)) % (1114112 : Int32))), .val (.int (own_min ((p0 &&& (2147483647 : Int32)) % (1114112 : Int32)) ((p1 &&& (2147483647 : Int32)) % (1114112 : Int32)))), .unset, .unset, .unset, .unset] [(.int ((p0 &&& (2147483647 : Int32)) % (1114112 : Int32)))])) _
    refine XS.iload X27.here hx rfl (hb hby at_29) rfl ?_
    exact k
  obtain ⟨_, _, ⟨T28, L28, k28, n28⟩, -, X28, ⟨Lc28, hQ28, l28, y28, z28⟩, st28⟩ := Jvm.LawKit.callS X27 hx (y := (⟨"java/lang/Math", "max", "(II)I"⟩ : MethodName)) hown (mvT hZ (own_w hw 6 rfl)) (mvT hZ (own_w hw 7 rfl)) (mvT hZ (own_w hw 4 rfl)) (mvT hZ (own_w hw 8 rfl)) (by decide) (backOf (W := 0) (rm2 l Z a0 hw [] ((p0 &&& (2147483647 : Int32)) % (1114112 : Int32)) ((p1 &&& (2147483647 : Int32)) % (1114112 : Int32)) h0 n0 Z0) hZ (own_w hw 8 rfl) (own_w hw 4 rfl) (by decide) (by decide)) (g := (mkF m 31 #[.val (.int p0), .val (.int p1), .val (.int p2), .val (.int p3), .val (.int ((p0 &&& (2147483647 : Int32)) % (1114112 : Int32))), .val (.int ((p1 &&& (2147483647 : Int32)) % (1114112 : Int32))), .val (.int (own_min ((p0 &&& (2147483647 : Int32)) % (1114112 : Int32)) ((p1 &&& (2147483647 : Int32)) % (1114112 : Int32)))), .unset, .unset, .unset, .unset] [(.int ((p1 &&& (2147483647 : Int32)) % (1114112 : Int32))), (.int ((p0 &&& (2147483647 : Int32)) % (1114112 : Int32)))])) rfl (by rw [hml]; rfl) (argsL := [(.int ((p0 &&& (2147483647 : Int32)) % (1114112 : Int32))), (.int ((p1 &&& (2147483647 : Int32)) % (1114112 : Int32)))]) (rest := []) (lenOf own_pd1 rfl) rfl (by show 2 * 0 + _ ≤ _; exact Nat.le_of_eq rfl) (hb hby at_31) (fun _ _ => ⟨rfl, eq27, (by decide : 0 + 0 ≤ _), (by decide : 0 + 0 ≤ _)⟩)
  dsimp only [Pt.U, Pt.locs, Pt.cells, Pt.slots] at X28 l28 y28 z28 st28 hQ28
  subst l28 y28 z28
  obtain ⟨rfl, Nq28, eq28⟩ := hQ28
  have N28 := Fr.app N27 Nq28
  refine own_pre (fun t k => st28 t k) ?_
  refine own_pre (A := (T28.setTop (mkF m 36 #[.val (.int p0), .val (.int p1), .val (.int p2), .val (.int p3), .val (.int ((p0 &&& (2147483647 : Int32)) % (1114112 : Int32))), .val (.int ((p1 &&& (2147483647 : Int32)) % (1114112 : Int32))), .val (.int (own_min ((p0 &&& (2147483647 : Int32)) % (1114112 : Int32)) ((p1 &&& (2147483647 : Int32)) % (1114112 : Int32)))), .val (.int (own_max ((p0 &&& (2147483647 : Int32)) % (1114112 : Int32)) ((p1 &&& (2147483647 : Int32)) % (1114112 : Int32)))), .unset, .unset, .unset] []))) ?_ ?_
  · intro t k
    show Steps p.tables e below (T28.setTop (mkF m 34 #[.val (.int p0), .val (.int p1), .val (.int p2), .val (.int p3), .val (.int ((p0 &&& (2147483647 : Int32)) % (1114112 : Int32))), .val (.int ((p1 &&& (2147483647 : Int32)) % (1114112 : Int32))), .val (.int (own_min ((p0 &&& (2147483647 : Int32)) % (1114112 : Int32)) ((p1 &&& (2147483647 : Int32)) % (1114112 : Int32)))), .unset, .unset, .unset, .unset] [(.int (own_max ((p0 &&& (2147483647 : Int32)) % (1114112 : Int32)) ((p1 &&& (2147483647 : Int32)) % (1114112 : Int32))))])) _
    refine XS.istore X28.here hx rfl (hb hby at_34) rfl (l' := #[.val (.int p0), .val (.int p1), .val (.int p2), .val (.int p3), .val (.int ((p0 &&& (2147483647 : Int32)) % (1114112 : Int32))), .val (.int ((p1 &&& (2147483647 : Int32)) % (1114112 : Int32))), .val (.int (own_min ((p0 &&& (2147483647 : Int32)) % (1114112 : Int32)) ((p1 &&& (2147483647 : Int32)) % (1114112 : Int32)))), .val (.int (own_max ((p0 &&& (2147483647 : Int32)) % (1114112 : Int32)) ((p1 &&& (2147483647 : Int32)) % (1114112 : Int32)))), .unset, .unset, .unset]) rfl ?_
    exact k
  obtain ⟨pf, hpf⟩ : ∃ z : Int32, z = (own_min ((p0 &&& (2147483647 : Int32)) % (1114112 : Int32)) ((p1 &&& (2147483647 : Int32)) % (1114112 : Int32))) := ⟨_, rfl⟩
  rw [← hpf]
  obtain ⟨pl, hpl⟩ : ∃ z : Int32, z = (own_max ((p0 &&& (2147483647 : Int32)) % (1114112 : Int32)) ((p1 &&& (2147483647 : Int32)) % (1114112 : Int32))) := ⟨_, rfl⟩
  rw [← hpl]
  have hfl : 0 ≤ pf.toInt ∧ pf.toInt ≤ pl.toInt ∧ pl.toInt < 1114112 := by rw [hpf, hpl]; exact own_minmax _ _ (own_cp _) (own_cp _)
  refine own_pre (A := (T28.setTop (mkF m 53 #[.val (.int p0), .val (.int p1), .val (.int p2), .val (.int p3), .val (.int ((p0 &&& (2147483647 : Int32)) % (1114112 : Int32))), .val (.int ((p1 &&& (2147483647 : Int32)) % (1114112 : Int32))), .val (.int pf), .val (.int pl), .val (.int (pf + ((p3 &&& (2147483647 : Int32)) % ((pl - pf) + (1 : Int32))))), .unset, .unset] []))) ?_ ?_
  · intro t k
    show Steps p.tables e below (T28.setTop (mkF m 36 #[.val (.int p0), .val (.int p1), .val (.int p2), .val (.int p3), .val (.int ((p0 &&& (2147483647 : Int32)) % (1114112 : Int32))), .val (.int ((p1 &&& (2147483647 : Int32)) % (1114112 : Int32))), .val (.int pf), .val (.int pl), .unset, .unset, .unset] [])) _
    refine XS.iload X28.here hx rfl (hb hby at_36) rfl ?_
    show Steps p.tables e below (T28.setTop (mkF m 38 #[.val (.int p0), .val (.int p1), .val (.int p2), .val (.int p3), .val (.int ((p0 &&& (2147483647 : Int32)) % (1114112 : Int32))), .val (.int ((p1 &&& (2147483647 : Int32)) % (1114112 : Int32))), .val (.int pf), .val (.int pl), .unset, .unset, .unset] [(.int pf)])) _
    refine XS.iloadN X28.here hx rfl (hb hby at_38) rfl ?_
    show Steps p.tables e below (T28.setTop (mkF m 39 #[.val (.int p0), .val (.int p1), .val (.int p2), .val (.int p3), .val (.int ((p0 &&& (2147483647 : Int32)) % (1114112 : Int32))), .val (.int ((p1 &&& (2147483647 : Int32)) % (1114112 : Int32))), .val (.int pf), .val (.int pl), .unset, .unset, .unset] [(.int p3), (.int pf)])) _
    refine X28.ldcInt hx hown (mvT hZ (own_w hw 0 rfl)) (g := (mkF m 39 #[.val (.int p0), .val (.int p1), .val (.int p2), .val (.int p3), .val (.int ((p0 &&& (2147483647 : Int32)) % (1114112 : Int32))), .val (.int ((p1 &&& (2147483647 : Int32)) % (1114112 : Int32))), .val (.int pf), .val (.int pl), .unset, .unset, .unset] [(.int p3), (.int pf)])) rfl (hb hby at_39) _ ?_
    show Steps p.tables e below (T28.setTop (mkF m 41 #[.val (.int p0), .val (.int p1), .val (.int p2), .val (.int p3), .val (.int ((p0 &&& (2147483647 : Int32)) % (1114112 : Int32))), .val (.int ((p1 &&& (2147483647 : Int32)) % (1114112 : Int32))), .val (.int pf), .val (.int pl), .unset, .unset, .unset] [(.int (2147483647 : Int32)), (.int p3), (.int pf)])) _
    refine XS.iand X28.here hx rfl (hb hby at_41) rfl ?_
    show Steps p.tables e below (T28.setTop (mkF m 42 #[.val (.int p0), .val (.int p1), .val (.int p2), .val (.int p3), .val (.int ((p0 &&& (2147483647 : Int32)) % (1114112 : Int32))), .val (.int ((p1 &&& (2147483647 : Int32)) % (1114112 : Int32))), .val (.int pf), .val (.int pl), .unset, .unset, .unset] [(.int (p3 &&& (2147483647 : Int32))), (.int pf)])) _
    refine XS.iload X28.here hx rfl (hb hby at_42) rfl ?_
    show Steps p.tables e below (T28.setTop (mkF m 44 #[.val (.int p0), .val (.int p1), .val (.int p2), .val (.int p3), .val (.int ((p0 &&& (2147483647 : Int32)) % (1114112 : Int32))), .val (.int ((p1 &&& (2147483647 : Int32)) % (1114112 : Int32))), .val (.int pf), .val (.int pl), .unset, .unset, .unset] [(.int pl), (.int (p3 &&& (2147483647 : Int32))), (.int pf)])) _
    refine XS.iload X28.here hx rfl (hb hby at_44) rfl ?_
    show Steps p.tables e below (T28.setTop (mkF m 46 #[.val (.int p0), .val (.int p1), .val (.int p2), .val (.int p3), .val (.int ((p0 &&& (2147483647 : Int32)) % (1114112 : Int32))), .val (.int ((p1 &&& (2147483647 : Int32)) % (1114112 : Int32))), .val (.int pf), .val (.int pl), .unset, .unset, .unset] [(.int pf), (.int pl), (.int (p3 &&& (2147483647 : Int32))), (.int pf)])) _
    refine XS.isub X28.here hx rfl (hb hby at_46) rfl ?_
    show Steps p.tables e below (T28.setTop (mkF m 47 #[.val (.int p0), .val (.int p1), .val (.int p2), .val (.int p3), .val (.int ((p0 &&& (2147483647 : Int32)) % (1114112 : Int32))), .val (.int ((p1 &&& (2147483647 : Int32)) % (1114112 : Int32))), .val (.int pf), .val (.int pl), .unset, .unset, .unset] [(.int (pl - pf)), (.int (p3 &&& (2147483647 : Int32))), (.int pf)])) _
    refine XS.iconst X28.here hx rfl (hb hby at_47) ?_
    show Steps p.tables e below (T28.setTop (mkF m 48 #[.val (.int p0), .val (.int p1), .val (.int p2), .val (.int p3), .val (.int ((p0 &&& (2147483647 : Int32)) % (1114112 : Int32))), .val (.int ((p1 &&& (2147483647 : Int32)) % (1114112 : Int32))), .val (.int pf), .val (.int pl), .unset, .unset, .unset] [(.int (1 : Int32)), (.int (pl - pf)), (.int (p3 &&& (2147483647 : Int32))), (.int pf)])) _
    refine XS.iadd X28.here hx rfl (hb hby at_48) rfl ?_
    show Steps p.tables e below (T28.setTop (mkF m 49 #[.val (.int p0), .val (.int p1), .val (.int p2), .val (.int p3), .val (.int ((p0 &&& (2147483647 : Int32)) % (1114112 : Int32))), .val (.int ((p1 &&& (2147483647 : Int32)) % (1114112 : Int32))), .val (.int pf), .val (.int pl), .unset, .unset, .unset] [(.int ((pl - pf) + (1 : Int32))), (.int (p3 &&& (2147483647 : Int32))), (.int pf)])) _
    refine iremM X28 hx rfl (hb hby at_49) rfl (own_span pf pl hfl).2 ?_
    show Steps p.tables e below (T28.setTop (mkF m 50 #[.val (.int p0), .val (.int p1), .val (.int p2), .val (.int p3), .val (.int ((p0 &&& (2147483647 : Int32)) % (1114112 : Int32))), .val (.int ((p1 &&& (2147483647 : Int32)) % (1114112 : Int32))), .val (.int pf), .val (.int pl), .unset, .unset, .unset] [(.int ((p3 &&& (2147483647 : Int32)) % ((pl - pf) + (1 : Int32)))), (.int pf)])) _
    refine XS.iadd X28.here hx rfl (hb hby at_50) rfl ?_
    show Steps p.tables e below (T28.setTop (mkF m 51 #[.val (.int p0), .val (.int p1), .val (.int p2), .val (.int p3), .val (.int ((p0 &&& (2147483647 : Int32)) % (1114112 : Int32))), .val (.int ((p1 &&& (2147483647 : Int32)) % (1114112 : Int32))), .val (.int pf), .val (.int pl), .unset, .unset, .unset] [(.int (pf + ((p3 &&& (2147483647 : Int32)) % ((pl - pf) + (1 : Int32)))))])) _
    refine XS.istore X28.here hx rfl (hb hby at_51) rfl (l' := #[.val (.int p0), .val (.int p1), .val (.int p2), .val (.int p3), .val (.int ((p0 &&& (2147483647 : Int32)) % (1114112 : Int32))), .val (.int ((p1 &&& (2147483647 : Int32)) % (1114112 : Int32))), .val (.int pf), .val (.int pl), .val (.int (pf + ((p3 &&& (2147483647 : Int32)) % ((pl - pf) + (1 : Int32))))), .unset, .unset]) rfl ?_
    exact k
  obtain ⟨pd, hpd⟩ : ∃ z : Int32, z = (pf + ((p3 &&& (2147483647 : Int32)) % ((pl - pf) + (1 : Int32)))) := ⟨_, rfl⟩
  rw [← hpd]
  have hpd' : pf.toInt ≤ pd.toInt ∧ pd.toInt ≤ pl.toInt := by rw [hpd]; exact own_mid pf pl _ hfl
  refine own_pre (A := (T28.setTop (mkF m 57 #[.val (.int p0), .val (.int p1), .val (.int p2), .val (.int p3), .val (.int ((p0 &&& (2147483647 : Int32)) % (1114112 : Int32))), .val (.int ((p1 &&& (2147483647 : Int32)) % (1114112 : Int32))), .val (.int pf), .val (.int pl), .val (.int pd), .unset, .unset] [(.int pl), (.int pf)]))) ?_ ?_
  · intro t k
    show Steps p.tables e below (T28.setTop (mkF m 53 #[.val (.int p0), .val (.int p1), .val (.int p2), .val (.int p3), .val (.int ((p0 &&& (2147483647 : Int32)) % (1114112 : Int32))), .val (.int ((p1 &&& (2147483647 : Int32)) % (1114112 : Int32))), .val (.int pf), .val (.int pl), .val (.int pd), .unset, .unset] [])) _
    refine XS.iload X28.here hx rfl (hb hby at_53) rfl ?_
    show Steps p.tables e below (T28.setTop (mkF m 55 #[.val (.int p0), .val (.int p1), .val (.int p2), .val (.int p3), .val (.int ((p0 &&& (2147483647 : Int32)) % (1114112 : Int32))), .val (.int ((p1 &&& (2147483647 : Int32)) % (1114112 : Int32))), .val (.int pf), .val (.int pl), .val (.int pd), .unset, .unset] [(.int pf)])) _
    refine XS.iload X28.here hx rfl (hb hby at_55) rfl ?_
    exact k
  obtain ⟨_, _, ⟨T29, L29, k29, n29⟩, -, X29, ⟨Lc29, hQ29, l29, y29, z29⟩, st29⟩ := Jvm.LawKit.callS X28 hx (y := (⟨"com/example/otito/otito/chain/CodePointSet", "range", "(II)Lcom/example/otito/otito/chain/CodePointSet;"⟩ : MethodName)) hown (mvT hZ (own_w hw 9 rfl)) (mvT hZ (own_w hw 10 rfl)) (mvT hZ (own_w hw 11 rfl)) (mvT hZ (own_w hw 12 rfl)) (by decide) (backOf (W := 0) (rm3 l Z a0 hw [] pf pl h0 n0 Z0 ) hZ (own_w hw 12 rfl) (own_w hw 11 rfl) (by decide) (by decide)) (g := (mkF m 57 #[.val (.int p0), .val (.int p1), .val (.int p2), .val (.int p3), .val (.int ((p0 &&& (2147483647 : Int32)) % (1114112 : Int32))), .val (.int ((p1 &&& (2147483647 : Int32)) % (1114112 : Int32))), .val (.int pf), .val (.int pl), .val (.int pd), .unset, .unset] [(.int pl), (.int pf)])) rfl (by rw [hml]; rfl) (argsL := [(.int pf), (.int pl)]) (rest := []) (lenOf own_pd2 rfl) rfl (by show 2 * 0 + _ ≤ _; exact Nat.le_of_eq rfl) (hb hby at_57) (fun _ _ => ⟨rfl, eq28, (by decide : 0 + 2 ≤ _), (by decide : 0 + 3 ≤ _)⟩)
  dsimp only [Pt.U, Pt.locs, Pt.cells, Pt.slots] at X29 l29 y29 z29 st29 hQ29
  subst l29 y29 z29
  obtain ⟨Nq29, b29, ab29, kb29, rfl, Eb29, Fb29, Vb29, Kq29⟩ := hQ29
  have N29 := Fr.app N28 Nq29
  refine own_pre (fun t k => st29 t k) ?_
  have Zs29 : n0 ≤ T29.heap.size := Nat.le_trans Z0 Kq29.1
  have Kc29 : Keep h0 T29.heap [] := (Keep.refl h0 []).trans Kq29 all0
  refine own_pre (A := (T29.setTop (mkF m 64 #[.val (.int p0), .val (.int p1), .val (.int p2), .val (.int p3), .val (.int ((p0 &&& (2147483647 : Int32)) % (1114112 : Int32))), .val (.int ((p1 &&& (2147483647 : Int32)) % (1114112 : Int32))), .val (.int pf), .val (.int pl), .val (.int pd), .val (.ref b29), .unset] [(.ref b29)]))) ?_ ?_
  · intro t k
    show Steps p.tables e below (T29.setTop (mkF m 60 #[.val (.int p0), .val (.int p1), .val (.int p2), .val (.int p3), .val (.int ((p0 &&& (2147483647 : Int32)) % (1114112 : Int32))), .val (.int ((p1 &&& (2147483647 : Int32)) % (1114112 : Int32))), .val (.int pf), .val (.int pl), .val (.int pd), .unset, .unset] [(.ref b29)])) _
    refine XS.astore X29.here hx rfl (hb hby at_60) rfl rfl (l' := #[.val (.int p0), .val (.int p1), .val (.int p2), .val (.int p3), .val (.int ((p0 &&& (2147483647 : Int32)) % (1114112 : Int32))), .val (.int ((p1 &&& (2147483647 : Int32)) % (1114112 : Int32))), .val (.int pf), .val (.int pl), .val (.int pd), .val (.ref b29), .unset]) rfl ?_
    show Steps p.tables e below (T29.setTop (mkF m 62 #[.val (.int p0), .val (.int p1), .val (.int p2), .val (.int p3), .val (.int ((p0 &&& (2147483647 : Int32)) % (1114112 : Int32))), .val (.int ((p1 &&& (2147483647 : Int32)) % (1114112 : Int32))), .val (.int pf), .val (.int pl), .val (.int pd), .val (.ref b29), .unset] [])) _
    refine XS.aload X29.here hx rfl (hb hby at_62) rfl rfl ?_
    exact k
  obtain ⟨cq30, kq30, q30a, q30b, q30c⟩ := isOf hZ rfl Eb29
  obtain ⟨_, _, ⟨T30, L30, k30, n30⟩, -, X30, ⟨Lc30, hQ30, l30, y30, z30⟩, st30⟩ := X29.virtualBack hx (y := (⟨"com/example/otito/otito/chain/CodePointSet", "first", "()I"⟩ : MethodName)) (z := (⟨"com/example/otito/otito/chain/CodePointSet", "first", "()I"⟩ : MethodName)) hown (mvT hZ (own_w hw 24 rfl)) (mvT hZ (own_w hw 25 rfl)) (notFace_of_selects (args := #[]) (mvT hZ (own_w hw 27 rfl))) (mvT hZ (own_w hw 27 rfl)) (mvT hZ (own_w hw 26 rfl)) (by decide) (backOf (W := 0) (rm6 l Z a0 hw [] b29 ab29 kb29 pf pl T29.heap n0 Zs29 Fb29 Vb29) hZ (own_w hw 28 rfl) (own_w hw 11 rfl) (by decide) (by decide)) q30a q30c (g := (mkF m 64 #[.val (.int p0), .val (.int p1), .val (.int p2), .val (.int p3), .val (.int ((p0 &&& (2147483647 : Int32)) % (1114112 : Int32))), .val (.int ((p1 &&& (2147483647 : Int32)) % (1114112 : Int32))), .val (.int pf), .val (.int pl), .val (.int pd), .val (.ref b29), .unset] [(.ref b29)])) rfl (by rw [hml]; rfl) (Steps.refl _) (argsL := []) (rest := []) (lenOf own_pd3 rfl) rfl (by show 2 * 0 + _ ≤ _; exact Nat.le_of_eq rfl) (hb hby at_64) (fun _ _ => ⟨rfl, rfl, (by decide : 2 + 0 ≤ _), (by decide : 3 + 0 ≤ _)⟩)
  dsimp only [Pt.U, Pt.locs, Pt.cells, Pt.slots] at X30 l30 y30 z30 st30 hQ30
  subst l30 y30 z30
  obtain ⟨rfl, Nq30, eq30⟩ := hQ30
  have N30 := Fr.app N29 Nq30
  refine own_pre (fun t k => st30.trans k) ?_
  refine own_pre (A := (T30.setTop (mkF m 86 #[.val (.int p0), .val (.int p1), .val (.int p2), .val (.int p3), .val (.int ((p0 &&& (2147483647 : Int32)) % (1114112 : Int32))), .val (.int ((p1 &&& (2147483647 : Int32)) % (1114112 : Int32))), .val (.int pf), .val (.int pl), .val (.int pd), .val (.ref b29), .val (.int (1 : Int32))] [(.ref b29)]))) ?_ ?_
  · intro t k
    show Steps p.tables e below (T30.setTop (mkF m 67 #[.val (.int p0), .val (.int p1), .val (.int p2), .val (.int p3), .val (.int ((p0 &&& (2147483647 : Int32)) % (1114112 : Int32))), .val (.int ((p1 &&& (2147483647 : Int32)) % (1114112 : Int32))), .val (.int pf), .val (.int pl), .val (.int pd), .val (.ref b29), .unset] [(.int (own_first pf pl))])) _
    refine XS.iload X30.here hx rfl (hb hby at_67) rfl ?_
    show Steps p.tables e below (T30.setTop (mkF m 69 #[.val (.int p0), .val (.int p1), .val (.int p2), .val (.int p3), .val (.int ((p0 &&& (2147483647 : Int32)) % (1114112 : Int32))), .val (.int ((p1 &&& (2147483647 : Int32)) % (1114112 : Int32))), .val (.int pf), .val (.int pl), .val (.int pd), .val (.ref b29), .unset] [(.int pf), (.int (own_first pf pl))])) _
    refine XS.icmpNo X30.here hx rfl (hb hby at_69) rfl (teq (show (own_first pf pl) = pf from rfl)).2 ?_
    show Steps p.tables e below (T30.setTop (mkF m 72 #[.val (.int p0), .val (.int p1), .val (.int p2), .val (.int p3), .val (.int ((p0 &&& (2147483647 : Int32)) % (1114112 : Int32))), .val (.int ((p1 &&& (2147483647 : Int32)) % (1114112 : Int32))), .val (.int pf), .val (.int pl), .val (.int pd), .val (.ref b29), .unset] [])) _
    refine XS.iconst X30.here hx rfl (hb hby at_72) ?_
    show Steps p.tables e below (T30.setTop (mkF m 73 #[.val (.int p0), .val (.int p1), .val (.int p2), .val (.int p3), .val (.int ((p0 &&& (2147483647 : Int32)) % (1114112 : Int32))), .val (.int ((p1 &&& (2147483647 : Int32)) % (1114112 : Int32))), .val (.int pf), .val (.int pl), .val (.int pd), .val (.ref b29), .unset] [(.int (1 : Int32))])) _
    refine XS.goto X30.here hx rfl (pc0 := 73) (pc' := 77) rfl (hb hby at_73) (by decide) (by decide) ?_
    show Steps p.tables e below (T30.setTop (mkF m 77 #[.val (.int p0), .val (.int p1), .val (.int p2), .val (.int p3), .val (.int ((p0 &&& (2147483647 : Int32)) % (1114112 : Int32))), .val (.int ((p1 &&& (2147483647 : Int32)) % (1114112 : Int32))), .val (.int pf), .val (.int pl), .val (.int pd), .val (.ref b29), .unset] [(.int (1 : Int32))])) _
    refine XS.istore X30.here hx rfl (hb hby at_77) rfl (l' := #[.val (.int p0), .val (.int p1), .val (.int p2), .val (.int p3), .val (.int ((p0 &&& (2147483647 : Int32)) % (1114112 : Int32))), .val (.int ((p1 &&& (2147483647 : Int32)) % (1114112 : Int32))), .val (.int pf), .val (.int pl), .val (.int pd), .val (.ref b29), .val (.int (1 : Int32))]) rfl ?_
    show Steps p.tables e below (T30.setTop (mkF m 79 #[.val (.int p0), .val (.int p1), .val (.int p2), .val (.int p3), .val (.int ((p0 &&& (2147483647 : Int32)) % (1114112 : Int32))), .val (.int ((p1 &&& (2147483647 : Int32)) % (1114112 : Int32))), .val (.int pf), .val (.int pl), .val (.int pd), .val (.ref b29), .val (.int (1 : Int32))] [])) _
    refine XS.iload X30.here hx rfl (hb hby at_79) rfl ?_
    show Steps p.tables e below (T30.setTop (mkF m 81 #[.val (.int p0), .val (.int p1), .val (.int p2), .val (.int p3), .val (.int ((p0 &&& (2147483647 : Int32)) % (1114112 : Int32))), .val (.int ((p1 &&& (2147483647 : Int32)) % (1114112 : Int32))), .val (.int pf), .val (.int pl), .val (.int pd), .val (.ref b29), .val (.int (1 : Int32))] [(.int (1 : Int32))])) _
    refine XS.ifNo X30.here hx rfl (hb hby at_81) rfl ((if0 _ _).trans (feq (by decide : ¬ ((1 : Int32) = (0 : Int32)))).1) ?_
    show Steps p.tables e below (T30.setTop (mkF m 84 #[.val (.int p0), .val (.int p1), .val (.int p2), .val (.int p3), .val (.int ((p0 &&& (2147483647 : Int32)) % (1114112 : Int32))), .val (.int ((p1 &&& (2147483647 : Int32)) % (1114112 : Int32))), .val (.int pf), .val (.int pl), .val (.int pd), .val (.ref b29), .val (.int (1 : Int32))] [])) _
    refine XS.aload X30.here hx rfl (hb hby at_84) rfl rfl ?_
    exact k
  obtain ⟨cq31, kq31, q31a, q31b, q31c⟩ := isOf hZ eq30 Eb29
  obtain ⟨_, _, ⟨T31, L31, k31, n31⟩, -, X31, ⟨Lc31, hQ31, l31, y31, z31⟩, st31⟩ := X30.virtualBack hx (y := (⟨"com/example/otito/otito/chain/CodePointSet", "isSingle", "()Z"⟩ : MethodName)) (z := (⟨"com/example/otito/otito/chain/CodePointSet", "isSingle", "()Z"⟩ : MethodName)) hown (mvT hZ (own_w hw 29 rfl)) (mvT hZ (own_w hw 30 rfl)) (notFace_of_selects (args := #[]) (mvT hZ (own_w hw 32 rfl))) (mvT hZ (own_w hw 32 rfl)) (mvT hZ (own_w hw 31 rfl)) (by decide) (backOf (W := 0) (rm7 l Z a0 hw [] b29 ab29 kb29 pf pl T29.heap n0 Zs29 Fb29 Vb29) hZ (own_w hw 33 rfl) (own_w hw 11 rfl) (by decide) (by decide)) q31a q31c (g := (mkF m 86 #[.val (.int p0), .val (.int p1), .val (.int p2), .val (.int p3), .val (.int ((p0 &&& (2147483647 : Int32)) % (1114112 : Int32))), .val (.int ((p1 &&& (2147483647 : Int32)) % (1114112 : Int32))), .val (.int pf), .val (.int pl), .val (.int pd), .val (.ref b29), .val (.int (1 : Int32))] [(.ref b29)])) rfl (by rw [hml]; rfl) (Steps.refl _) (argsL := []) (rest := []) (lenOf own_pd4 rfl) rfl (by show 2 * 0 + _ ≤ _; exact Nat.le_of_eq rfl) (hb hby at_86) (fun _ _ => ⟨rfl, eq30, (by decide : 2 + 0 ≤ _), (by decide : 3 + 0 ≤ _)⟩)
  dsimp only [Pt.U, Pt.locs, Pt.cells, Pt.slots] at X31 l31 y31 z31 st31 hQ31
  subst l31 y31 z31
  obtain ⟨rfl, Nq31, eq31⟩ := hQ31
  have N31 := Fr.app N30 Nq31
  refine own_pre (fun t k => st31.trans k) ?_
  refine own_pre (A := (T31.setTop (mkF m 93 #[.val (.int p0), .val (.int p1), .val (.int p2), .val (.int p3), .val (.int ((p0 &&& (2147483647 : Int32)) % (1114112 : Int32))), .val (.int ((p1 &&& (2147483647 : Int32)) % (1114112 : Int32))), .val (.int pf), .val (.int pl), .val (.int pd), .val (.ref b29), .val (.int (1 : Int32))] [(.int pl), (.int pf), (.int (own_single pf pl))]))) ?_ ?_
  · intro t k
    show Steps p.tables e below (T31.setTop (mkF m 89 #[.val (.int p0), .val (.int p1), .val (.int p2), .val (.int p3), .val (.int ((p0 &&& (2147483647 : Int32)) % (1114112 : Int32))), .val (.int ((p1 &&& (2147483647 : Int32)) % (1114112 : Int32))), .val (.int pf), .val (.int pl), .val (.int pd), .val (.ref b29), .val (.int (1 : Int32))] [(.int (own_single pf pl))])) _
    refine XS.iload X31.here hx rfl (hb hby at_89) rfl ?_
    show Steps p.tables e below (T31.setTop (mkF m 91 #[.val (.int p0), .val (.int p1), .val (.int p2), .val (.int p3), .val (.int ((p0 &&& (2147483647 : Int32)) % (1114112 : Int32))), .val (.int ((p1 &&& (2147483647 : Int32)) % (1114112 : Int32))), .val (.int pf), .val (.int pl), .val (.int pd), .val (.ref b29), .val (.int (1 : Int32))] [(.int pf), (.int (own_single pf pl))])) _
    refine XS.iload X31.here hx rfl (hb hby at_91) rfl ?_
    exact k
  obtain ⟨v33, hv33⟩ : ∃ z : Int32, z = (if pf = pl then (1 : Int32) else (0 : Int32)) := ⟨_, rfl⟩
  refine own_pre (A := (T31.setTop (mkF m 101 #[.val (.int p0), .val (.int p1), .val (.int p2), .val (.int p3), .val (.int ((p0 &&& (2147483647 : Int32)) % (1114112 : Int32))), .val (.int ((p1 &&& (2147483647 : Int32)) % (1114112 : Int32))), .val (.int pf), .val (.int pl), .val (.int pd), .val (.ref b29), .val (.int (1 : Int32))] [(.int v33), (.int (own_single pf pl))]))) ?_ ?_
  · intro t k
    show Steps p.tables e below (T31.setTop (mkF m 93 #[.val (.int p0), .val (.int p1), .val (.int p2), .val (.int p3), .val (.int ((p0 &&& (2147483647 : Int32)) % (1114112 : Int32))), .val (.int ((p1 &&& (2147483647 : Int32)) % (1114112 : Int32))), .val (.int pf), .val (.int pl), .val (.int pd), .val (.ref b29), .val (.int (1 : Int32))] [(.int pl), (.int pf), (.int (own_single pf pl))])) _
    by_cases hc32 : pf = pl
    · skip
      refine XS.icmpNo X31.here hx rfl (hb hby at_93) rfl (teq hc32).2 ?_
      show Steps p.tables e below (T31.setTop (mkF m 96 #[.val (.int p0), .val (.int p1), .val (.int p2), .val (.int p3), .val (.int ((p0 &&& (2147483647 : Int32)) % (1114112 : Int32))), .val (.int ((p1 &&& (2147483647 : Int32)) % (1114112 : Int32))), .val (.int pf), .val (.int pl), .val (.int pd), .val (.ref b29), .val (.int (1 : Int32))] [(.int (own_single pf pl))])) _
      refine XS.iconst X31.here hx rfl (hb hby at_96) ?_
      show Steps p.tables e below (T31.setTop (mkF m 97 #[.val (.int p0), .val (.int p1), .val (.int p2), .val (.int p3), .val (.int ((p0 &&& (2147483647 : Int32)) % (1114112 : Int32))), .val (.int ((p1 &&& (2147483647 : Int32)) % (1114112 : Int32))), .val (.int pf), .val (.int pl), .val (.int pd), .val (.ref b29), .val (.int (1 : Int32))] [(.int (1 : Int32)), (.int (own_single pf pl))])) _
      refine XS.goto X31.here hx rfl (pc0 := 97) (pc' := 101) rfl (hb hby at_97) (by decide) (by decide) ?_
      rw [show v33 = (1 : Int32) from hv33.trans (by simp only [if_pos hc32])] at k
      exact k
    · skip
      refine XS.icmpYes X31.here hx rfl (pc0 := 93) (pc' := 100) rfl (hb hby at_93) rfl (feq hc32).2 (by decide) (by decide) ?_
      show Steps p.tables e below (T31.setTop (mkF m 100 #[.val (.int p0), .val (.int p1), .val (.int p2), .val (.int p3), .val (.int ((p0 &&& (2147483647 : Int32)) % (1114112 : Int32))), .val (.int ((p1 &&& (2147483647 : Int32)) % (1114112 : Int32))), .val (.int pf), .val (.int pl), .val (.int pd), .val (.ref b29), .val (.int (1 : Int32))] [(.int (own_single pf pl))])) _
      refine XS.iconst X31.here hx rfl (hb hby at_100) ?_
      rw [show v33 = (0 : Int32) from hv33.trans (by simp only [if_neg hc32])] at k
      exact k
  refine own_pre (A := (T31.setTop (mkF m 120 #[.val (.int p0), .val (.int p1), .val (.int p2), .val (.int p3), .val (.int ((p0 &&& (2147483647 : Int32)) % (1114112 : Int32))), .val (.int ((p1 &&& (2147483647 : Int32)) % (1114112 : Int32))), .val (.int pf), .val (.int pl), .val (.int pd), .val (.ref b29), .val (.int (1 : Int32))] [(.int pf), (.ref b29)]))) ?_ ?_
  · intro t k
    show Steps p.tables e below (T31.setTop (mkF m 101 #[.val (.int p0), .val (.int p1), .val (.int p2), .val (.int p3), .val (.int ((p0 &&& (2147483647 : Int32)) % (1114112 : Int32))), .val (.int ((p1 &&& (2147483647 : Int32)) % (1114112 : Int32))), .val (.int pf), .val (.int pl), .val (.int pd), .val (.ref b29), .val (.int (1 : Int32))] [(.int v33), (.int (own_single pf pl))])) _
    refine XS.icmpNo X31.here hx rfl (hb hby at_101) rfl (teq (show (own_single pf pl) = v33 from hv33.symm)).2 ?_
    show Steps p.tables e below (T31.setTop (mkF m 104 #[.val (.int p0), .val (.int p1), .val (.int p2), .val (.int p3), .val (.int ((p0 &&& (2147483647 : Int32)) % (1114112 : Int32))), .val (.int ((p1 &&& (2147483647 : Int32)) % (1114112 : Int32))), .val (.int pf), .val (.int pl), .val (.int pd), .val (.ref b29), .val (.int (1 : Int32))] [])) _
    refine XS.iconst X31.here hx rfl (hb hby at_104) ?_
    show Steps p.tables e below (T31.setTop (mkF m 105 #[.val (.int p0), .val (.int p1), .val (.int p2), .val (.int p3), .val (.int ((p0 &&& (2147483647 : Int32)) % (1114112 : Int32))), .val (.int ((p1 &&& (2147483647 : Int32)) % (1114112 : Int32))), .val (.int pf), .val (.int pl), .val (.int pd), .val (.ref b29), .val (.int (1 : Int32))] [(.int (1 : Int32))])) _
    refine XS.goto X31.here hx rfl (pc0 := 105) (pc' := 109) rfl (hb hby at_105) (by decide) (by decide) ?_
    show Steps p.tables e below (T31.setTop (mkF m 109 #[.val (.int p0), .val (.int p1), .val (.int p2), .val (.int p3), .val (.int ((p0 &&& (2147483647 : Int32)) % (1114112 : Int32))), .val (.int ((p1 &&& (2147483647 : Int32)) % (1114112 : Int32))), .val (.int pf), .val (.int pl), .val (.int pd), .val (.ref b29), .val (.int (1 : Int32))] [(.int (1 : Int32))])) _
    refine XS.istore X31.here hx rfl (hb hby at_109) rfl (l' := #[.val (.int p0), .val (.int p1), .val (.int p2), .val (.int p3), .val (.int ((p0 &&& (2147483647 : Int32)) % (1114112 : Int32))), .val (.int ((p1 &&& (2147483647 : Int32)) % (1114112 : Int32))), .val (.int pf), .val (.int pl), .val (.int pd), .val (.ref b29), .val (.int (1 : Int32))]) rfl ?_
    show Steps p.tables e below (T31.setTop (mkF m 111 #[.val (.int p0), .val (.int p1), .val (.int p2), .val (.int p3), .val (.int ((p0 &&& (2147483647 : Int32)) % (1114112 : Int32))), .val (.int ((p1 &&& (2147483647 : Int32)) % (1114112 : Int32))), .val (.int pf), .val (.int pl), .val (.int pd), .val (.ref b29), .val (.int (1 : Int32))] [])) _
    refine XS.iload X31.here hx rfl (hb hby at_111) rfl ?_
    show Steps p.tables e below (T31.setTop (mkF m 113 #[.val (.int p0), .val (.int p1), .val (.int p2), .val (.int p3), .val (.int ((p0 &&& (2147483647 : Int32)) % (1114112 : Int32))), .val (.int ((p1 &&& (2147483647 : Int32)) % (1114112 : Int32))), .val (.int pf), .val (.int pl), .val (.int pd), .val (.ref b29), .val (.int (1 : Int32))] [(.int (1 : Int32))])) _
    refine XS.ifNo X31.here hx rfl (hb hby at_113) rfl ((if0 _ _).trans (feq (by decide : ¬ ((1 : Int32) = (0 : Int32)))).1) ?_
    show Steps p.tables e below (T31.setTop (mkF m 116 #[.val (.int p0), .val (.int p1), .val (.int p2), .val (.int p3), .val (.int ((p0 &&& (2147483647 : Int32)) % (1114112 : Int32))), .val (.int ((p1 &&& (2147483647 : Int32)) % (1114112 : Int32))), .val (.int pf), .val (.int pl), .val (.int pd), .val (.ref b29), .val (.int (1 : Int32))] [])) _
    refine XS.aload X31.here hx rfl (hb hby at_116) rfl rfl ?_
    show Steps p.tables e below (T31.setTop (mkF m 118 #[.val (.int p0), .val (.int p1), .val (.int p2), .val (.int p3), .val (.int ((p0 &&& (2147483647 : Int32)) % (1114112 : Int32))), .val (.int ((p1 &&& (2147483647 : Int32)) % (1114112 : Int32))), .val (.int pf), .val (.int pl), .val (.int pd), .val (.ref b29), .val (.int (1 : Int32))] [(.ref b29)])) _
    refine XS.iload X31.here hx rfl (hb hby at_118) rfl ?_
    exact k
  obtain ⟨cq34, kq34, q34a, q34b, q34c⟩ := isOf hZ eq31 Eb29
  obtain ⟨_, _, ⟨T34, L34, k34, n34⟩, -, X34, ⟨Lc34, hQ34, l34, y34, z34⟩, st34⟩ := X31.virtualBack hx (y := (⟨"com/example/otito/otito/chain/CodePointSet", "contains", "(I)Z"⟩ : MethodName)) (z := (⟨"com/example/otito/otito/chain/CodePointSet", "contains", "(I)Z"⟩ : MethodName)) hown (mvT hZ (own_w hw 34 rfl)) (mvT hZ (own_w hw 35 rfl)) (notFace_of_selects (args := #[]) (mvT hZ (own_w hw 37 rfl))) (mvT hZ (own_w hw 37 rfl)) (mvT hZ (own_w hw 36 rfl)) (by decide) (backOf (W := 0) (rm8 l Z a0 hw [] b29 pf ab29 kb29 pf pl T29.heap n0 Zs29 Fb29 Vb29) hZ (own_w hw 38 rfl) (own_w hw 11 rfl) (by decide) (by decide)) q34a q34c (g := (mkF m 120 #[.val (.int p0), .val (.int p1), .val (.int p2), .val (.int p3), .val (.int ((p0 &&& (2147483647 : Int32)) % (1114112 : Int32))), .val (.int ((p1 &&& (2147483647 : Int32)) % (1114112 : Int32))), .val (.int pf), .val (.int pl), .val (.int pd), .val (.ref b29), .val (.int (1 : Int32))] [(.int pf), (.ref b29)])) rfl (by rw [hml]; rfl) (Steps.refl _) (argsL := [(.int pf)]) (rest := []) (lenOf own_pd5 rfl) rfl (by show 2 * 0 + _ ≤ _; exact Nat.le_of_eq rfl) (hb hby at_120) (fun _ _ => ⟨rfl, eq31, (by decide : 2 + 0 ≤ _), (by decide : 3 + 0 ≤ _)⟩)
  dsimp only [Pt.U, Pt.locs, Pt.cells, Pt.slots] at X34 l34 y34 z34 st34 hQ34
  subst l34 y34 z34
  obtain ⟨rfl, Nq34, eq34⟩ := hQ34
  have N34 := Fr.app N31 Nq34
  refine own_pre (fun t k => st34.trans k) ?_
  refine own_pre (A := (T34.setTop (mkF m 142 #[.val (.int p0), .val (.int p1), .val (.int p2), .val (.int p3), .val (.int ((p0 &&& (2147483647 : Int32)) % (1114112 : Int32))), .val (.int ((p1 &&& (2147483647 : Int32)) % (1114112 : Int32))), .val (.int pf), .val (.int pl), .val (.int pd), .val (.ref b29), .val (.int (1 : Int32))] [(.int pl), (.ref b29)]))) ?_ ?_
  · intro t k
    show Steps p.tables e below (T34.setTop (mkF m 123 #[.val (.int p0), .val (.int p1), .val (.int p2), .val (.int p3), .val (.int ((p0 &&& (2147483647 : Int32)) % (1114112 : Int32))), .val (.int ((p1 &&& (2147483647 : Int32)) % (1114112 : Int32))), .val (.int pf), .val (.int pl), .val (.int pd), .val (.ref b29), .val (.int (1 : Int32))] [(.int (own_ctn pf pf pl))])) _
    refine XS.ifNo X34.here hx rfl (hb hby at_123) rfl ((if0 _ _).trans (feq (own_in pf pf pl ⟨Int.le_refl _, hfl.2.1⟩)).1) ?_
    show Steps p.tables e below (T34.setTop (mkF m 126 #[.val (.int p0), .val (.int p1), .val (.int p2), .val (.int p3), .val (.int ((p0 &&& (2147483647 : Int32)) % (1114112 : Int32))), .val (.int ((p1 &&& (2147483647 : Int32)) % (1114112 : Int32))), .val (.int pf), .val (.int pl), .val (.int pd), .val (.ref b29), .val (.int (1 : Int32))] [])) _
    refine XS.iconst X34.here hx rfl (hb hby at_126) ?_
    show Steps p.tables e below (T34.setTop (mkF m 127 #[.val (.int p0), .val (.int p1), .val (.int p2), .val (.int p3), .val (.int ((p0 &&& (2147483647 : Int32)) % (1114112 : Int32))), .val (.int ((p1 &&& (2147483647 : Int32)) % (1114112 : Int32))), .val (.int pf), .val (.int pl), .val (.int pd), .val (.ref b29), .val (.int (1 : Int32))] [(.int (1 : Int32))])) _
    refine XS.goto X34.here hx rfl (pc0 := 127) (pc' := 131) rfl (hb hby at_127) (by decide) (by decide) ?_
    show Steps p.tables e below (T34.setTop (mkF m 131 #[.val (.int p0), .val (.int p1), .val (.int p2), .val (.int p3), .val (.int ((p0 &&& (2147483647 : Int32)) % (1114112 : Int32))), .val (.int ((p1 &&& (2147483647 : Int32)) % (1114112 : Int32))), .val (.int pf), .val (.int pl), .val (.int pd), .val (.ref b29), .val (.int (1 : Int32))] [(.int (1 : Int32))])) _
    refine XS.istore X34.here hx rfl (hb hby at_131) rfl (l' := #[.val (.int p0), .val (.int p1), .val (.int p2), .val (.int p3), .val (.int ((p0 &&& (2147483647 : Int32)) % (1114112 : Int32))), .val (.int ((p1 &&& (2147483647 : Int32)) % (1114112 : Int32))), .val (.int pf), .val (.int pl), .val (.int pd), .val (.ref b29), .val (.int (1 : Int32))]) rfl ?_
    show Steps p.tables e below (T34.setTop (mkF m 133 #[.val (.int p0), .val (.int p1), .val (.int p2), .val (.int p3), .val (.int ((p0 &&& (2147483647 : Int32)) % (1114112 : Int32))), .val (.int ((p1 &&& (2147483647 : Int32)) % (1114112 : Int32))), .val (.int pf), .val (.int pl), .val (.int pd), .val (.ref b29), .val (.int (1 : Int32))] [])) _
    refine XS.iload X34.here hx rfl (hb hby at_133) rfl ?_
    show Steps p.tables e below (T34.setTop (mkF m 135 #[.val (.int p0), .val (.int p1), .val (.int p2), .val (.int p3), .val (.int ((p0 &&& (2147483647 : Int32)) % (1114112 : Int32))), .val (.int ((p1 &&& (2147483647 : Int32)) % (1114112 : Int32))), .val (.int pf), .val (.int pl), .val (.int pd), .val (.ref b29), .val (.int (1 : Int32))] [(.int (1 : Int32))])) _
    refine XS.ifNo X34.here hx rfl (hb hby at_135) rfl ((if0 _ _).trans (feq (by decide : ¬ ((1 : Int32) = (0 : Int32)))).1) ?_
    show Steps p.tables e below (T34.setTop (mkF m 138 #[.val (.int p0), .val (.int p1), .val (.int p2), .val (.int p3), .val (.int ((p0 &&& (2147483647 : Int32)) % (1114112 : Int32))), .val (.int ((p1 &&& (2147483647 : Int32)) % (1114112 : Int32))), .val (.int pf), .val (.int pl), .val (.int pd), .val (.ref b29), .val (.int (1 : Int32))] [])) _
    refine XS.aload X34.here hx rfl (hb hby at_138) rfl rfl ?_
    show Steps p.tables e below (T34.setTop (mkF m 140 #[.val (.int p0), .val (.int p1), .val (.int p2), .val (.int p3), .val (.int ((p0 &&& (2147483647 : Int32)) % (1114112 : Int32))), .val (.int ((p1 &&& (2147483647 : Int32)) % (1114112 : Int32))), .val (.int pf), .val (.int pl), .val (.int pd), .val (.ref b29), .val (.int (1 : Int32))] [(.ref b29)])) _
    refine XS.iload X34.here hx rfl (hb hby at_140) rfl ?_
    exact k
  obtain ⟨cq35, kq35, q35a, q35b, q35c⟩ := isOf hZ eq34 Eb29
  obtain ⟨_, _, ⟨T35, L35, k35, n35⟩, -, X35, ⟨Lc35, hQ35, l35, y35, z35⟩, st35⟩ := X34.virtualBack hx (y := (⟨"com/example/otito/otito/chain/CodePointSet", "contains", "(I)Z"⟩ : MethodName)) (z := (⟨"com/example/otito/otito/chain/CodePointSet", "contains", "(I)Z"⟩ : MethodName)) hown (mvT hZ (own_w hw 34 rfl)) (mvT hZ (own_w hw 35 rfl)) (notFace_of_selects (args := #[]) (mvT hZ (own_w hw 37 rfl))) (mvT hZ (own_w hw 37 rfl)) (mvT hZ (own_w hw 36 rfl)) (by decide) (backOf (W := 0) (rm8 l Z a0 hw [] b29 pl ab29 kb29 pf pl T29.heap n0 Zs29 Fb29 Vb29) hZ (own_w hw 38 rfl) (own_w hw 11 rfl) (by decide) (by decide)) q35a q35c (g := (mkF m 142 #[.val (.int p0), .val (.int p1), .val (.int p2), .val (.int p3), .val (.int ((p0 &&& (2147483647 : Int32)) % (1114112 : Int32))), .val (.int ((p1 &&& (2147483647 : Int32)) % (1114112 : Int32))), .val (.int pf), .val (.int pl), .val (.int pd), .val (.ref b29), .val (.int (1 : Int32))] [(.int pl), (.ref b29)])) rfl (by rw [hml]; rfl) (Steps.refl _) (argsL := [(.int pl)]) (rest := []) (lenOf own_pd5 rfl) rfl (by show 2 * 0 + _ ≤ _; exact Nat.le_of_eq rfl) (hb hby at_142) (fun _ _ => ⟨rfl, eq34, (by decide : 2 + 0 ≤ _), (by decide : 3 + 0 ≤ _)⟩)
  dsimp only [Pt.U, Pt.locs, Pt.cells, Pt.slots] at X35 l35 y35 z35 st35 hQ35
  subst l35 y35 z35
  obtain ⟨rfl, Nq35, eq35⟩ := hQ35
  have N35 := Fr.app N34 Nq35
  refine own_pre (fun t k => st35.trans k) ?_
  refine own_pre (A := (T35.setTop (mkF m 164 #[.val (.int p0), .val (.int p1), .val (.int p2), .val (.int p3), .val (.int ((p0 &&& (2147483647 : Int32)) % (1114112 : Int32))), .val (.int ((p1 &&& (2147483647 : Int32)) % (1114112 : Int32))), .val (.int pf), .val (.int pl), .val (.int pd), .val (.ref b29), .val (.int (1 : Int32))] [(.int pd), (.ref b29)]))) ?_ ?_
  · intro t k
    show Steps p.tables e below (T35.setTop (mkF m 145 #[.val (.int p0), .val (.int p1), .val (.int p2), .val (.int p3), .val (.int ((p0 &&& (2147483647 : Int32)) % (1114112 : Int32))), .val (.int ((p1 &&& (2147483647 : Int32)) % (1114112 : Int32))), .val (.int pf), .val (.int pl), .val (.int pd), .val (.ref b29), .val (.int (1 : Int32))] [(.int (own_ctn pl pf pl))])) _
    refine XS.ifNo X35.here hx rfl (hb hby at_145) rfl ((if0 _ _).trans (feq (own_in pl pf pl ⟨hfl.2.1, Int.le_refl _⟩)).1) ?_
    show Steps p.tables e below (T35.setTop (mkF m 148 #[.val (.int p0), .val (.int p1), .val (.int p2), .val (.int p3), .val (.int ((p0 &&& (2147483647 : Int32)) % (1114112 : Int32))), .val (.int ((p1 &&& (2147483647 : Int32)) % (1114112 : Int32))), .val (.int pf), .val (.int pl), .val (.int pd), .val (.ref b29), .val (.int (1 : Int32))] [])) _
    refine XS.iconst X35.here hx rfl (hb hby at_148) ?_
    show Steps p.tables e below (T35.setTop (mkF m 149 #[.val (.int p0), .val (.int p1), .val (.int p2), .val (.int p3), .val (.int ((p0 &&& (2147483647 : Int32)) % (1114112 : Int32))), .val (.int ((p1 &&& (2147483647 : Int32)) % (1114112 : Int32))), .val (.int pf), .val (.int pl), .val (.int pd), .val (.ref b29), .val (.int (1 : Int32))] [(.int (1 : Int32))])) _
    refine XS.goto X35.here hx rfl (pc0 := 149) (pc' := 153) rfl (hb hby at_149) (by decide) (by decide) ?_
    show Steps p.tables e below (T35.setTop (mkF m 153 #[.val (.int p0), .val (.int p1), .val (.int p2), .val (.int p3), .val (.int ((p0 &&& (2147483647 : Int32)) % (1114112 : Int32))), .val (.int ((p1 &&& (2147483647 : Int32)) % (1114112 : Int32))), .val (.int pf), .val (.int pl), .val (.int pd), .val (.ref b29), .val (.int (1 : Int32))] [(.int (1 : Int32))])) _
    refine XS.istore X35.here hx rfl (hb hby at_153) rfl (l' := #[.val (.int p0), .val (.int p1), .val (.int p2), .val (.int p3), .val (.int ((p0 &&& (2147483647 : Int32)) % (1114112 : Int32))), .val (.int ((p1 &&& (2147483647 : Int32)) % (1114112 : Int32))), .val (.int pf), .val (.int pl), .val (.int pd), .val (.ref b29), .val (.int (1 : Int32))]) rfl ?_
    show Steps p.tables e below (T35.setTop (mkF m 155 #[.val (.int p0), .val (.int p1), .val (.int p2), .val (.int p3), .val (.int ((p0 &&& (2147483647 : Int32)) % (1114112 : Int32))), .val (.int ((p1 &&& (2147483647 : Int32)) % (1114112 : Int32))), .val (.int pf), .val (.int pl), .val (.int pd), .val (.ref b29), .val (.int (1 : Int32))] [])) _
    refine XS.iload X35.here hx rfl (hb hby at_155) rfl ?_
    show Steps p.tables e below (T35.setTop (mkF m 157 #[.val (.int p0), .val (.int p1), .val (.int p2), .val (.int p3), .val (.int ((p0 &&& (2147483647 : Int32)) % (1114112 : Int32))), .val (.int ((p1 &&& (2147483647 : Int32)) % (1114112 : Int32))), .val (.int pf), .val (.int pl), .val (.int pd), .val (.ref b29), .val (.int (1 : Int32))] [(.int (1 : Int32))])) _
    refine XS.ifNo X35.here hx rfl (hb hby at_157) rfl ((if0 _ _).trans (feq (by decide : ¬ ((1 : Int32) = (0 : Int32)))).1) ?_
    show Steps p.tables e below (T35.setTop (mkF m 160 #[.val (.int p0), .val (.int p1), .val (.int p2), .val (.int p3), .val (.int ((p0 &&& (2147483647 : Int32)) % (1114112 : Int32))), .val (.int ((p1 &&& (2147483647 : Int32)) % (1114112 : Int32))), .val (.int pf), .val (.int pl), .val (.int pd), .val (.ref b29), .val (.int (1 : Int32))] [])) _
    refine XS.aload X35.here hx rfl (hb hby at_160) rfl rfl ?_
    show Steps p.tables e below (T35.setTop (mkF m 162 #[.val (.int p0), .val (.int p1), .val (.int p2), .val (.int p3), .val (.int ((p0 &&& (2147483647 : Int32)) % (1114112 : Int32))), .val (.int ((p1 &&& (2147483647 : Int32)) % (1114112 : Int32))), .val (.int pf), .val (.int pl), .val (.int pd), .val (.ref b29), .val (.int (1 : Int32))] [(.ref b29)])) _
    refine XS.iload X35.here hx rfl (hb hby at_162) rfl ?_
    exact k
  obtain ⟨cq36, kq36, q36a, q36b, q36c⟩ := isOf hZ eq35 Eb29
  obtain ⟨_, _, ⟨T36, L36, k36, n36⟩, -, X36, ⟨Lc36, hQ36, l36, y36, z36⟩, st36⟩ := X35.virtualBack hx (y := (⟨"com/example/otito/otito/chain/CodePointSet", "contains", "(I)Z"⟩ : MethodName)) (z := (⟨"com/example/otito/otito/chain/CodePointSet", "contains", "(I)Z"⟩ : MethodName)) hown (mvT hZ (own_w hw 34 rfl)) (mvT hZ (own_w hw 35 rfl)) (notFace_of_selects (args := #[]) (mvT hZ (own_w hw 37 rfl))) (mvT hZ (own_w hw 37 rfl)) (mvT hZ (own_w hw 36 rfl)) (by decide) (backOf (W := 0) (rm8 l Z a0 hw [] b29 pd ab29 kb29 pf pl T29.heap n0 Zs29 Fb29 Vb29) hZ (own_w hw 38 rfl) (own_w hw 11 rfl) (by decide) (by decide)) q36a q36c (g := (mkF m 164 #[.val (.int p0), .val (.int p1), .val (.int p2), .val (.int p3), .val (.int ((p0 &&& (2147483647 : Int32)) % (1114112 : Int32))), .val (.int ((p1 &&& (2147483647 : Int32)) % (1114112 : Int32))), .val (.int pf), .val (.int pl), .val (.int pd), .val (.ref b29), .val (.int (1 : Int32))] [(.int pd), (.ref b29)])) rfl (by rw [hml]; rfl) (Steps.refl _) (argsL := [(.int pd)]) (rest := []) (lenOf own_pd5 rfl) rfl (by show 2 * 0 + _ ≤ _; exact Nat.le_of_eq rfl) (hb hby at_164) (fun _ _ => ⟨rfl, eq35, (by decide : 2 + 0 ≤ _), (by decide : 3 + 0 ≤ _)⟩)
  dsimp only [Pt.U, Pt.locs, Pt.cells, Pt.slots] at X36 l36 y36 z36 st36 hQ36
  subst l36 y36 z36
  obtain ⟨rfl, Nq36, eq36⟩ := hQ36
  have N36 := Fr.app N35 Nq36
  refine own_pre (fun t k => st36.trans k) ?_
  refine own_pre (A := (T36.setTop (mkF m 188 #[.val (.int p0), .val (.int p1), .val (.int p2), .val (.int p3), .val (.int ((p0 &&& (2147483647 : Int32)) % (1114112 : Int32))), .val (.int ((p1 &&& (2147483647 : Int32)) % (1114112 : Int32))), .val (.int pf), .val (.int pl), .val (.int pd), .val (.ref b29), .val (.int (1 : Int32))] [(.int (pf - (1 : Int32))), (.ref b29)]))) ?_ ?_
  · intro t k
    show Steps p.tables e below (T36.setTop (mkF m 167 #[.val (.int p0), .val (.int p1), .val (.int p2), .val (.int p3), .val (.int ((p0 &&& (2147483647 : Int32)) % (1114112 : Int32))), .val (.int ((p1 &&& (2147483647 : Int32)) % (1114112 : Int32))), .val (.int pf), .val (.int pl), .val (.int pd), .val (.ref b29), .val (.int (1 : Int32))] [(.int (own_ctn pd pf pl))])) _
    refine XS.ifNo X36.here hx rfl (hb hby at_167) rfl ((if0 _ _).trans (feq (own_in pd pf pl hpd')).1) ?_
    show Steps p.tables e below (T36.setTop (mkF m 170 #[.val (.int p0), .val (.int p1), .val (.int p2), .val (.int p3), .val (.int ((p0 &&& (2147483647 : Int32)) % (1114112 : Int32))), .val (.int ((p1 &&& (2147483647 : Int32)) % (1114112 : Int32))), .val (.int pf), .val (.int pl), .val (.int pd), .val (.ref b29), .val (.int (1 : Int32))] [])) _
    refine XS.iconst X36.here hx rfl (hb hby at_170) ?_
    show Steps p.tables e below (T36.setTop (mkF m 171 #[.val (.int p0), .val (.int p1), .val (.int p2), .val (.int p3), .val (.int ((p0 &&& (2147483647 : Int32)) % (1114112 : Int32))), .val (.int ((p1 &&& (2147483647 : Int32)) % (1114112 : Int32))), .val (.int pf), .val (.int pl), .val (.int pd), .val (.ref b29), .val (.int (1 : Int32))] [(.int (1 : Int32))])) _
    refine XS.goto X36.here hx rfl (pc0 := 171) (pc' := 175) rfl (hb hby at_171) (by decide) (by decide) ?_
    show Steps p.tables e below (T36.setTop (mkF m 175 #[.val (.int p0), .val (.int p1), .val (.int p2), .val (.int p3), .val (.int ((p0 &&& (2147483647 : Int32)) % (1114112 : Int32))), .val (.int ((p1 &&& (2147483647 : Int32)) % (1114112 : Int32))), .val (.int pf), .val (.int pl), .val (.int pd), .val (.ref b29), .val (.int (1 : Int32))] [(.int (1 : Int32))])) _
    refine XS.istore X36.here hx rfl (hb hby at_175) rfl (l' := #[.val (.int p0), .val (.int p1), .val (.int p2), .val (.int p3), .val (.int ((p0 &&& (2147483647 : Int32)) % (1114112 : Int32))), .val (.int ((p1 &&& (2147483647 : Int32)) % (1114112 : Int32))), .val (.int pf), .val (.int pl), .val (.int pd), .val (.ref b29), .val (.int (1 : Int32))]) rfl ?_
    show Steps p.tables e below (T36.setTop (mkF m 177 #[.val (.int p0), .val (.int p1), .val (.int p2), .val (.int p3), .val (.int ((p0 &&& (2147483647 : Int32)) % (1114112 : Int32))), .val (.int ((p1 &&& (2147483647 : Int32)) % (1114112 : Int32))), .val (.int pf), .val (.int pl), .val (.int pd), .val (.ref b29), .val (.int (1 : Int32))] [])) _
    refine XS.iload X36.here hx rfl (hb hby at_177) rfl ?_
    show Steps p.tables e below (T36.setTop (mkF m 179 #[.val (.int p0), .val (.int p1), .val (.int p2), .val (.int p3), .val (.int ((p0 &&& (2147483647 : Int32)) % (1114112 : Int32))), .val (.int ((p1 &&& (2147483647 : Int32)) % (1114112 : Int32))), .val (.int pf), .val (.int pl), .val (.int pd), .val (.ref b29), .val (.int (1 : Int32))] [(.int (1 : Int32))])) _
    refine XS.ifNo X36.here hx rfl (hb hby at_179) rfl ((if0 _ _).trans (feq (by decide : ¬ ((1 : Int32) = (0 : Int32)))).1) ?_
    show Steps p.tables e below (T36.setTop (mkF m 182 #[.val (.int p0), .val (.int p1), .val (.int p2), .val (.int p3), .val (.int ((p0 &&& (2147483647 : Int32)) % (1114112 : Int32))), .val (.int ((p1 &&& (2147483647 : Int32)) % (1114112 : Int32))), .val (.int pf), .val (.int pl), .val (.int pd), .val (.ref b29), .val (.int (1 : Int32))] [])) _
    refine XS.aload X36.here hx rfl (hb hby at_182) rfl rfl ?_
    show Steps p.tables e below (T36.setTop (mkF m 184 #[.val (.int p0), .val (.int p1), .val (.int p2), .val (.int p3), .val (.int ((p0 &&& (2147483647 : Int32)) % (1114112 : Int32))), .val (.int ((p1 &&& (2147483647 : Int32)) % (1114112 : Int32))), .val (.int pf), .val (.int pl), .val (.int pd), .val (.ref b29), .val (.int (1 : Int32))] [(.ref b29)])) _
    refine XS.iload X36.here hx rfl (hb hby at_184) rfl ?_
    show Steps p.tables e below (T36.setTop (mkF m 186 #[.val (.int p0), .val (.int p1), .val (.int p2), .val (.int p3), .val (.int ((p0 &&& (2147483647 : Int32)) % (1114112 : Int32))), .val (.int ((p1 &&& (2147483647 : Int32)) % (1114112 : Int32))), .val (.int pf), .val (.int pl), .val (.int pd), .val (.ref b29), .val (.int (1 : Int32))] [(.int pf), (.ref b29)])) _
    refine XS.iconst X36.here hx rfl (hb hby at_186) ?_
    show Steps p.tables e below (T36.setTop (mkF m 187 #[.val (.int p0), .val (.int p1), .val (.int p2), .val (.int p3), .val (.int ((p0 &&& (2147483647 : Int32)) % (1114112 : Int32))), .val (.int ((p1 &&& (2147483647 : Int32)) % (1114112 : Int32))), .val (.int pf), .val (.int pl), .val (.int pd), .val (.ref b29), .val (.int (1 : Int32))] [(.int (1 : Int32)), (.int pf), (.ref b29)])) _
    refine XS.isub X36.here hx rfl (hb hby at_187) rfl ?_
    exact k
  obtain ⟨cq37, kq37, q37a, q37b, q37c⟩ := isOf hZ eq36 Eb29
  obtain ⟨_, _, ⟨T37, L37, k37, n37⟩, -, X37, ⟨Lc37, hQ37, l37, y37, z37⟩, st37⟩ := X36.virtualBack hx (y := (⟨"com/example/otito/otito/chain/CodePointSet", "contains", "(I)Z"⟩ : MethodName)) (z := (⟨"com/example/otito/otito/chain/CodePointSet", "contains", "(I)Z"⟩ : MethodName)) hown (mvT hZ (own_w hw 34 rfl)) (mvT hZ (own_w hw 35 rfl)) (notFace_of_selects (args := #[]) (mvT hZ (own_w hw 37 rfl))) (mvT hZ (own_w hw 37 rfl)) (mvT hZ (own_w hw 36 rfl)) (by decide) (backOf (W := 0) (rm8 l Z a0 hw [] b29 (pf - (1 : Int32)) ab29 kb29 pf pl T29.heap n0 Zs29 Fb29 Vb29) hZ (own_w hw 38 rfl) (own_w hw 11 rfl) (by decide) (by decide)) q37a q37c (g := (mkF m 188 #[.val (.int p0), .val (.int p1), .val (.int p2), .val (.int p3), .val (.int ((p0 &&& (2147483647 : Int32)) % (1114112 : Int32))), .val (.int ((p1 &&& (2147483647 : Int32)) % (1114112 : Int32))), .val (.int pf), .val (.int pl), .val (.int pd), .val (.ref b29), .val (.int (1 : Int32))] [(.int (pf - (1 : Int32))), (.ref b29)])) rfl (by rw [hml]; rfl) (Steps.refl _) (argsL := [(.int (pf - (1 : Int32)))]) (rest := []) (lenOf own_pd5 rfl) rfl (by show 2 * 0 + _ ≤ _; exact Nat.le_of_eq rfl) (hb hby at_188) (fun _ _ => ⟨rfl, eq36, (by decide : 2 + 0 ≤ _), (by decide : 3 + 0 ≤ _)⟩)
  dsimp only [Pt.U, Pt.locs, Pt.cells, Pt.slots] at X37 l37 y37 z37 st37 hQ37
  subst l37 y37 z37
  obtain ⟨rfl, Nq37, eq37⟩ := hQ37
  have N37 := Fr.app N36 Nq37
  refine own_pre (fun t k => st37.trans k) ?_
  refine own_pre (A := (T37.setTop (mkF m 212 #[.val (.int p0), .val (.int p1), .val (.int p2), .val (.int p3), .val (.int ((p0 &&& (2147483647 : Int32)) % (1114112 : Int32))), .val (.int ((p1 &&& (2147483647 : Int32)) % (1114112 : Int32))), .val (.int pf), .val (.int pl), .val (.int pd), .val (.ref b29), .val (.int (1 : Int32))] [(.int (pl + (1 : Int32))), (.ref b29)]))) ?_ ?_
  · intro t k
    show Steps p.tables e below (T37.setTop (mkF m 191 #[.val (.int p0), .val (.int p1), .val (.int p2), .val (.int p3), .val (.int ((p0 &&& (2147483647 : Int32)) % (1114112 : Int32))), .val (.int ((p1 &&& (2147483647 : Int32)) % (1114112 : Int32))), .val (.int pf), .val (.int pl), .val (.int pd), .val (.ref b29), .val (.int (1 : Int32))] [(.int (own_ctn (pf - (1 : Int32)) pf pl))])) _
    refine XS.ifNo X37.here hx rfl (hb hby at_191) rfl ((if0 _ _).trans (teq (own_lo pf pl hfl)).2) ?_
    show Steps p.tables e below (T37.setTop (mkF m 194 #[.val (.int p0), .val (.int p1), .val (.int p2), .val (.int p3), .val (.int ((p0 &&& (2147483647 : Int32)) % (1114112 : Int32))), .val (.int ((p1 &&& (2147483647 : Int32)) % (1114112 : Int32))), .val (.int pf), .val (.int pl), .val (.int pd), .val (.ref b29), .val (.int (1 : Int32))] [])) _
    refine XS.iconst X37.here hx rfl (hb hby at_194) ?_
    show Steps p.tables e below (T37.setTop (mkF m 195 #[.val (.int p0), .val (.int p1), .val (.int p2), .val (.int p3), .val (.int ((p0 &&& (2147483647 : Int32)) % (1114112 : Int32))), .val (.int ((p1 &&& (2147483647 : Int32)) % (1114112 : Int32))), .val (.int pf), .val (.int pl), .val (.int pd), .val (.ref b29), .val (.int (1 : Int32))] [(.int (1 : Int32))])) _
    refine XS.goto X37.here hx rfl (pc0 := 195) (pc' := 199) rfl (hb hby at_195) (by decide) (by decide) ?_
    show Steps p.tables e below (T37.setTop (mkF m 199 #[.val (.int p0), .val (.int p1), .val (.int p2), .val (.int p3), .val (.int ((p0 &&& (2147483647 : Int32)) % (1114112 : Int32))), .val (.int ((p1 &&& (2147483647 : Int32)) % (1114112 : Int32))), .val (.int pf), .val (.int pl), .val (.int pd), .val (.ref b29), .val (.int (1 : Int32))] [(.int (1 : Int32))])) _
    refine XS.istore X37.here hx rfl (hb hby at_199) rfl (l' := #[.val (.int p0), .val (.int p1), .val (.int p2), .val (.int p3), .val (.int ((p0 &&& (2147483647 : Int32)) % (1114112 : Int32))), .val (.int ((p1 &&& (2147483647 : Int32)) % (1114112 : Int32))), .val (.int pf), .val (.int pl), .val (.int pd), .val (.ref b29), .val (.int (1 : Int32))]) rfl ?_
    show Steps p.tables e below (T37.setTop (mkF m 201 #[.val (.int p0), .val (.int p1), .val (.int p2), .val (.int p3), .val (.int ((p0 &&& (2147483647 : Int32)) % (1114112 : Int32))), .val (.int ((p1 &&& (2147483647 : Int32)) % (1114112 : Int32))), .val (.int pf), .val (.int pl), .val (.int pd), .val (.ref b29), .val (.int (1 : Int32))] [])) _
    refine XS.iload X37.here hx rfl (hb hby at_201) rfl ?_
    show Steps p.tables e below (T37.setTop (mkF m 203 #[.val (.int p0), .val (.int p1), .val (.int p2), .val (.int p3), .val (.int ((p0 &&& (2147483647 : Int32)) % (1114112 : Int32))), .val (.int ((p1 &&& (2147483647 : Int32)) % (1114112 : Int32))), .val (.int pf), .val (.int pl), .val (.int pd), .val (.ref b29), .val (.int (1 : Int32))] [(.int (1 : Int32))])) _
    refine XS.ifNo X37.here hx rfl (hb hby at_203) rfl ((if0 _ _).trans (feq (by decide : ¬ ((1 : Int32) = (0 : Int32)))).1) ?_
    show Steps p.tables e below (T37.setTop (mkF m 206 #[.val (.int p0), .val (.int p1), .val (.int p2), .val (.int p3), .val (.int ((p0 &&& (2147483647 : Int32)) % (1114112 : Int32))), .val (.int ((p1 &&& (2147483647 : Int32)) % (1114112 : Int32))), .val (.int pf), .val (.int pl), .val (.int pd), .val (.ref b29), .val (.int (1 : Int32))] [])) _
    refine XS.aload X37.here hx rfl (hb hby at_206) rfl rfl ?_
    show Steps p.tables e below (T37.setTop (mkF m 208 #[.val (.int p0), .val (.int p1), .val (.int p2), .val (.int p3), .val (.int ((p0 &&& (2147483647 : Int32)) % (1114112 : Int32))), .val (.int ((p1 &&& (2147483647 : Int32)) % (1114112 : Int32))), .val (.int pf), .val (.int pl), .val (.int pd), .val (.ref b29), .val (.int (1 : Int32))] [(.ref b29)])) _
    refine XS.iload X37.here hx rfl (hb hby at_208) rfl ?_
    show Steps p.tables e below (T37.setTop (mkF m 210 #[.val (.int p0), .val (.int p1), .val (.int p2), .val (.int p3), .val (.int ((p0 &&& (2147483647 : Int32)) % (1114112 : Int32))), .val (.int ((p1 &&& (2147483647 : Int32)) % (1114112 : Int32))), .val (.int pf), .val (.int pl), .val (.int pd), .val (.ref b29), .val (.int (1 : Int32))] [(.int pl), (.ref b29)])) _
    refine XS.iconst X37.here hx rfl (hb hby at_210) ?_
    show Steps p.tables e below (T37.setTop (mkF m 211 #[.val (.int p0), .val (.int p1), .val (.int p2), .val (.int p3), .val (.int ((p0 &&& (2147483647 : Int32)) % (1114112 : Int32))), .val (.int ((p1 &&& (2147483647 : Int32)) % (1114112 : Int32))), .val (.int pf), .val (.int pl), .val (.int pd), .val (.ref b29), .val (.int (1 : Int32))] [(.int (1 : Int32)), (.int pl), (.ref b29)])) _
    refine XS.iadd X37.here hx rfl (hb hby at_211) rfl ?_
    exact k
  obtain ⟨cq38, kq38, q38a, q38b, q38c⟩ := isOf hZ eq37 Eb29
  obtain ⟨_, _, ⟨T38, L38, k38, n38⟩, -, X38, ⟨Lc38, hQ38, l38, y38, z38⟩, st38⟩ := X37.virtualBack hx (y := (⟨"com/example/otito/otito/chain/CodePointSet", "contains", "(I)Z"⟩ : MethodName)) (z := (⟨"com/example/otito/otito/chain/CodePointSet", "contains", "(I)Z"⟩ : MethodName)) hown (mvT hZ (own_w hw 34 rfl)) (mvT hZ (own_w hw 35 rfl)) (notFace_of_selects (args := #[]) (mvT hZ (own_w hw 37 rfl))) (mvT hZ (own_w hw 37 rfl)) (mvT hZ (own_w hw 36 rfl)) (by decide) (backOf (W := 0) (rm8 l Z a0 hw [] b29 (pl + (1 : Int32)) ab29 kb29 pf pl T29.heap n0 Zs29 Fb29 Vb29) hZ (own_w hw 38 rfl) (own_w hw 11 rfl) (by decide) (by decide)) q38a q38c (g := (mkF m 212 #[.val (.int p0), .val (.int p1), .val (.int p2), .val (.int p3), .val (.int ((p0 &&& (2147483647 : Int32)) % (1114112 : Int32))), .val (.int ((p1 &&& (2147483647 : Int32)) % (1114112 : Int32))), .val (.int pf), .val (.int pl), .val (.int pd), .val (.ref b29), .val (.int (1 : Int32))] [(.int (pl + (1 : Int32))), (.ref b29)])) rfl (by rw [hml]; rfl) (Steps.refl _) (argsL := [(.int (pl + (1 : Int32)))]) (rest := []) (lenOf own_pd5 rfl) rfl (by show 2 * 0 + _ ≤ _; exact Nat.le_of_eq rfl) (hb hby at_212) (fun _ _ => ⟨rfl, eq37, (by decide : 2 + 0 ≤ _), (by decide : 3 + 0 ≤ _)⟩)
  dsimp only [Pt.U, Pt.locs, Pt.cells, Pt.slots] at X38 l38 y38 z38 st38 hQ38
  subst l38 y38 z38
  obtain ⟨rfl, Nq38, eq38⟩ := hQ38
  have N38 := Fr.app N37 Nq38
  refine own_pre (fun t k => st38.trans k) ?_
  refine own_pre (A := (T38.setTop (mkF m 233 #[.val (.int p0), .val (.int p1), .val (.int p2), .val (.int p3), .val (.int ((p0 &&& (2147483647 : Int32)) % (1114112 : Int32))), .val (.int ((p1 &&& (2147483647 : Int32)) % (1114112 : Int32))), .val (.int pf), .val (.int pl), .val (.int pd), .val (.ref b29), .val (.int (1 : Int32))] [(.int p2), (.ref b29)]))) ?_ ?_
  · intro t k
    show Steps p.tables e below (T38.setTop (mkF m 215 #[.val (.int p0), .val (.int p1), .val (.int p2), .val (.int p3), .val (.int ((p0 &&& (2147483647 : Int32)) % (1114112 : Int32))), .val (.int ((p1 &&& (2147483647 : Int32)) % (1114112 : Int32))), .val (.int pf), .val (.int pl), .val (.int pd), .val (.ref b29), .val (.int (1 : Int32))] [(.int (own_ctn (pl + (1 : Int32)) pf pl))])) _
    refine XS.ifNo X38.here hx rfl (hb hby at_215) rfl ((if0 _ _).trans (teq (own_hi pf pl hfl)).2) ?_
    show Steps p.tables e below (T38.setTop (mkF m 218 #[.val (.int p0), .val (.int p1), .val (.int p2), .val (.int p3), .val (.int ((p0 &&& (2147483647 : Int32)) % (1114112 : Int32))), .val (.int ((p1 &&& (2147483647 : Int32)) % (1114112 : Int32))), .val (.int pf), .val (.int pl), .val (.int pd), .val (.ref b29), .val (.int (1 : Int32))] [])) _
    refine XS.iconst X38.here hx rfl (hb hby at_218) ?_
    show Steps p.tables e below (T38.setTop (mkF m 219 #[.val (.int p0), .val (.int p1), .val (.int p2), .val (.int p3), .val (.int ((p0 &&& (2147483647 : Int32)) % (1114112 : Int32))), .val (.int ((p1 &&& (2147483647 : Int32)) % (1114112 : Int32))), .val (.int pf), .val (.int pl), .val (.int pd), .val (.ref b29), .val (.int (1 : Int32))] [(.int (1 : Int32))])) _
    refine XS.goto X38.here hx rfl (pc0 := 219) (pc' := 223) rfl (hb hby at_219) (by decide) (by decide) ?_
    show Steps p.tables e below (T38.setTop (mkF m 223 #[.val (.int p0), .val (.int p1), .val (.int p2), .val (.int p3), .val (.int ((p0 &&& (2147483647 : Int32)) % (1114112 : Int32))), .val (.int ((p1 &&& (2147483647 : Int32)) % (1114112 : Int32))), .val (.int pf), .val (.int pl), .val (.int pd), .val (.ref b29), .val (.int (1 : Int32))] [(.int (1 : Int32))])) _
    refine XS.istore X38.here hx rfl (hb hby at_223) rfl (l' := #[.val (.int p0), .val (.int p1), .val (.int p2), .val (.int p3), .val (.int ((p0 &&& (2147483647 : Int32)) % (1114112 : Int32))), .val (.int ((p1 &&& (2147483647 : Int32)) % (1114112 : Int32))), .val (.int pf), .val (.int pl), .val (.int pd), .val (.ref b29), .val (.int (1 : Int32))]) rfl ?_
    show Steps p.tables e below (T38.setTop (mkF m 225 #[.val (.int p0), .val (.int p1), .val (.int p2), .val (.int p3), .val (.int ((p0 &&& (2147483647 : Int32)) % (1114112 : Int32))), .val (.int ((p1 &&& (2147483647 : Int32)) % (1114112 : Int32))), .val (.int pf), .val (.int pl), .val (.int pd), .val (.ref b29), .val (.int (1 : Int32))] [])) _
    refine XS.iload X38.here hx rfl (hb hby at_225) rfl ?_
    show Steps p.tables e below (T38.setTop (mkF m 227 #[.val (.int p0), .val (.int p1), .val (.int p2), .val (.int p3), .val (.int ((p0 &&& (2147483647 : Int32)) % (1114112 : Int32))), .val (.int ((p1 &&& (2147483647 : Int32)) % (1114112 : Int32))), .val (.int pf), .val (.int pl), .val (.int pd), .val (.ref b29), .val (.int (1 : Int32))] [(.int (1 : Int32))])) _
    refine XS.ifNo X38.here hx rfl (hb hby at_227) rfl ((if0 _ _).trans (feq (by decide : ¬ ((1 : Int32) = (0 : Int32)))).1) ?_
    show Steps p.tables e below (T38.setTop (mkF m 230 #[.val (.int p0), .val (.int p1), .val (.int p2), .val (.int p3), .val (.int ((p0 &&& (2147483647 : Int32)) % (1114112 : Int32))), .val (.int ((p1 &&& (2147483647 : Int32)) % (1114112 : Int32))), .val (.int pf), .val (.int pl), .val (.int pd), .val (.ref b29), .val (.int (1 : Int32))] [])) _
    refine XS.aload X38.here hx rfl (hb hby at_230) rfl rfl ?_
    show Steps p.tables e below (T38.setTop (mkF m 232 #[.val (.int p0), .val (.int p1), .val (.int p2), .val (.int p3), .val (.int ((p0 &&& (2147483647 : Int32)) % (1114112 : Int32))), .val (.int ((p1 &&& (2147483647 : Int32)) % (1114112 : Int32))), .val (.int pf), .val (.int pl), .val (.int pd), .val (.ref b29), .val (.int (1 : Int32))] [(.ref b29)])) _
    refine XS.iloadN X38.here hx rfl (hb hby at_232) rfl ?_
    exact k
  obtain ⟨cq39, kq39, q39a, q39b, q39c⟩ := isOf hZ eq38 Eb29
  obtain ⟨_, _, ⟨T39, L39, k39, n39⟩, -, X39, ⟨Lc39, hQ39, l39, y39, z39⟩, st39⟩ := X38.virtualBack hx (y := (⟨"com/example/otito/otito/chain/CodePointSet", "contains", "(I)Z"⟩ : MethodName)) (z := (⟨"com/example/otito/otito/chain/CodePointSet", "contains", "(I)Z"⟩ : MethodName)) hown (mvT hZ (own_w hw 34 rfl)) (mvT hZ (own_w hw 35 rfl)) (notFace_of_selects (args := #[]) (mvT hZ (own_w hw 37 rfl))) (mvT hZ (own_w hw 37 rfl)) (mvT hZ (own_w hw 36 rfl)) (by decide) (backOf (W := 0) (rm8 l Z a0 hw [] b29 p2 ab29 kb29 pf pl T29.heap n0 Zs29 Fb29 Vb29) hZ (own_w hw 38 rfl) (own_w hw 11 rfl) (by decide) (by decide)) q39a q39c (g := (mkF m 233 #[.val (.int p0), .val (.int p1), .val (.int p2), .val (.int p3), .val (.int ((p0 &&& (2147483647 : Int32)) % (1114112 : Int32))), .val (.int ((p1 &&& (2147483647 : Int32)) % (1114112 : Int32))), .val (.int pf), .val (.int pl), .val (.int pd), .val (.ref b29), .val (.int (1 : Int32))] [(.int p2), (.ref b29)])) rfl (by rw [hml]; rfl) (Steps.refl _) (argsL := [(.int p2)]) (rest := []) (lenOf own_pd5 rfl) rfl (by show 2 * 0 + _ ≤ _; exact Nat.le_of_eq rfl) (hb hby at_233) (fun _ _ => ⟨rfl, eq38, (by decide : 2 + 0 ≤ _), (by decide : 3 + 0 ≤ _)⟩)
  dsimp only [Pt.U, Pt.locs, Pt.cells, Pt.slots] at X39 l39 y39 z39 st39 hQ39
  subst l39 y39 z39
  obtain ⟨rfl, Nq39, eq39⟩ := hQ39
  have N39 := Fr.app N38 Nq39
  refine own_pre (fun t k => st39.trans k) ?_
  refine own_pre (A := (T39.setTop (mkF m 239 #[.val (.int p0), .val (.int p1), .val (.int p2), .val (.int p3), .val (.int ((p0 &&& (2147483647 : Int32)) % (1114112 : Int32))), .val (.int ((p1 &&& (2147483647 : Int32)) % (1114112 : Int32))), .val (.int pf), .val (.int pl), .val (.int pd), .val (.ref b29), .val (.int (1 : Int32))] [(.int p2), (.int pf), (.int (own_ctn p2 pf pl))]))) ?_ ?_
  · intro t k
    show Steps p.tables e below (T39.setTop (mkF m 236 #[.val (.int p0), .val (.int p1), .val (.int p2), .val (.int p3), .val (.int ((p0 &&& (2147483647 : Int32)) % (1114112 : Int32))), .val (.int ((p1 &&& (2147483647 : Int32)) % (1114112 : Int32))), .val (.int pf), .val (.int pl), .val (.int pd), .val (.ref b29), .val (.int (1 : Int32))] [(.int (own_ctn p2 pf pl))])) _
    refine XS.iload X39.here hx rfl (hb hby at_236) rfl ?_
    show Steps p.tables e below (T39.setTop (mkF m 238 #[.val (.int p0), .val (.int p1), .val (.int p2), .val (.int p3), .val (.int ((p0 &&& (2147483647 : Int32)) % (1114112 : Int32))), .val (.int ((p1 &&& (2147483647 : Int32)) % (1114112 : Int32))), .val (.int pf), .val (.int pl), .val (.int pd), .val (.ref b29), .val (.int (1 : Int32))] [(.int pf), (.int (own_ctn p2 pf pl))])) _
    refine XS.iloadN X39.here hx rfl (hb hby at_238) rfl ?_
    exact k
  obtain ⟨v42, hv42⟩ : ∃ z : Int32, z = (if p2 < pf then (0 : Int32) else (if pl < p2 then (0 : Int32) else (1 : Int32))) := ⟨_, rfl⟩
  refine own_pre (A := (T39.setTop (mkF m 253 #[.val (.int p0), .val (.int p1), .val (.int p2), .val (.int p3), .val (.int ((p0 &&& (2147483647 : Int32)) % (1114112 : Int32))), .val (.int ((p1 &&& (2147483647 : Int32)) % (1114112 : Int32))), .val (.int pf), .val (.int pl), .val (.int pd), .val (.ref b29), .val (.int (1 : Int32))] [(.int v42), (.int (own_ctn p2 pf pl))]))) ?_ ?_
  · intro t k
    show Steps p.tables e below (T39.setTop (mkF m 239 #[.val (.int p0), .val (.int p1), .val (.int p2), .val (.int p3), .val (.int ((p0 &&& (2147483647 : Int32)) % (1114112 : Int32))), .val (.int ((p1 &&& (2147483647 : Int32)) % (1114112 : Int32))), .val (.int pf), .val (.int pl), .val (.int pd), .val (.ref b29), .val (.int (1 : Int32))] [(.int p2), (.int pf), (.int (own_ctn p2 pf pl))])) _
    by_cases hc40 : p2 < pf
    · skip
      refine XS.icmpYes X39.here hx rfl (pc0 := 239) (pc' := 252) rfl (hb hby at_239) rfl (tlt hc40).2.2.1 (by decide) (by decide) ?_
      show Steps p.tables e below (T39.setTop (mkF m 252 #[.val (.int p0), .val (.int p1), .val (.int p2), .val (.int p3), .val (.int ((p0 &&& (2147483647 : Int32)) % (1114112 : Int32))), .val (.int ((p1 &&& (2147483647 : Int32)) % (1114112 : Int32))), .val (.int pf), .val (.int pl), .val (.int pd), .val (.ref b29), .val (.int (1 : Int32))] [(.int (own_ctn p2 pf pl))])) _
      refine XS.iconst X39.here hx rfl (hb hby at_252) ?_
      rw [show v42 = (0 : Int32) from hv42.trans (by simp only [if_pos hc40])] at k
      exact k
    · skip
      refine XS.icmpNo X39.here hx rfl (hb hby at_239) rfl (flt hc40).2.2.1 ?_
      show Steps p.tables e below (T39.setTop (mkF m 242 #[.val (.int p0), .val (.int p1), .val (.int p2), .val (.int p3), .val (.int ((p0 &&& (2147483647 : Int32)) % (1114112 : Int32))), .val (.int ((p1 &&& (2147483647 : Int32)) % (1114112 : Int32))), .val (.int pf), .val (.int pl), .val (.int pd), .val (.ref b29), .val (.int (1 : Int32))] [(.int (own_ctn p2 pf pl))])) _
      refine XS.iloadN X39.here hx rfl (hb hby at_242) rfl ?_
      show Steps p.tables e below (T39.setTop (mkF m 243 #[.val (.int p0), .val (.int p1), .val (.int p2), .val (.int p3), .val (.int ((p0 &&& (2147483647 : Int32)) % (1114112 : Int32))), .val (.int ((p1 &&& (2147483647 : Int32)) % (1114112 : Int32))), .val (.int pf), .val (.int pl), .val (.int pd), .val (.ref b29), .val (.int (1 : Int32))] [(.int p2), (.int (own_ctn p2 pf pl))])) _
      refine XS.iload X39.here hx rfl (hb hby at_243) rfl ?_
      show Steps p.tables e below (T39.setTop (mkF m 245 #[.val (.int p0), .val (.int p1), .val (.int p2), .val (.int p3), .val (.int ((p0 &&& (2147483647 : Int32)) % (1114112 : Int32))), .val (.int ((p1 &&& (2147483647 : Int32)) % (1114112 : Int32))), .val (.int pf), .val (.int pl), .val (.int pd), .val (.ref b29), .val (.int (1 : Int32))] [(.int pl), (.int p2), (.int (own_ctn p2 pf pl))])) _
      by_cases hc41 : pl < p2
      · skip
        refine XS.icmpYes X39.here hx rfl (pc0 := 245) (pc' := 252) rfl (hb hby at_245) rfl (tlt hc41).2.2.1 (by decide) (by decide) ?_
        show Steps p.tables e below (T39.setTop (mkF m 252 #[.val (.int p0), .val (.int p1), .val (.int p2), .val (.int p3), .val (.int ((p0 &&& (2147483647 : Int32)) % (1114112 : Int32))), .val (.int ((p1 &&& (2147483647 : Int32)) % (1114112 : Int32))), .val (.int pf), .val (.int pl), .val (.int pd), .val (.ref b29), .val (.int (1 : Int32))] [(.int (own_ctn p2 pf pl))])) _
        refine XS.iconst X39.here hx rfl (hb hby at_252) ?_
        rw [show v42 = (0 : Int32) from hv42.trans (by simp only [if_neg hc40, if_pos hc41])] at k
        exact k
      · skip
        refine XS.icmpNo X39.here hx rfl (hb hby at_245) rfl (flt hc41).2.2.1 ?_
        show Steps p.tables e below (T39.setTop (mkF m 248 #[.val (.int p0), .val (.int p1), .val (.int p2), .val (.int p3), .val (.int ((p0 &&& (2147483647 : Int32)) % (1114112 : Int32))), .val (.int ((p1 &&& (2147483647 : Int32)) % (1114112 : Int32))), .val (.int pf), .val (.int pl), .val (.int pd), .val (.ref b29), .val (.int (1 : Int32))] [(.int (own_ctn p2 pf pl))])) _
        refine XS.iconst X39.here hx rfl (hb hby at_248) ?_
        show Steps p.tables e below (T39.setTop (mkF m 249 #[.val (.int p0), .val (.int p1), .val (.int p2), .val (.int p3), .val (.int ((p0 &&& (2147483647 : Int32)) % (1114112 : Int32))), .val (.int ((p1 &&& (2147483647 : Int32)) % (1114112 : Int32))), .val (.int pf), .val (.int pl), .val (.int pd), .val (.ref b29), .val (.int (1 : Int32))] [(.int (1 : Int32)), (.int (own_ctn p2 pf pl))])) _
        refine XS.goto X39.here hx rfl (pc0 := 249) (pc' := 253) rfl (hb hby at_249) (by decide) (by decide) ?_
        rw [show v42 = (1 : Int32) from hv42.trans (by simp only [if_neg hc40, if_neg hc41])] at k
        exact k
  refine own_pre (A := (T39.setTop (mkF m 265 #[.val (.int p0), .val (.int p1), .val (.int p2), .val (.int p3), .val (.int ((p0 &&& (2147483647 : Int32)) % (1114112 : Int32))), .val (.int ((p1 &&& (2147483647 : Int32)) % (1114112 : Int32))), .val (.int pf), .val (.int pl), .val (.int pd), .val (.ref b29), .val (.int (1 : Int32))] [(.int (1 : Int32))]))) ?_ ?_
  · intro t k
    show Steps p.tables e below (T39.setTop (mkF m 253 #[.val (.int p0), .val (.int p1), .val (.int p2), .val (.int p3), .val (.int ((p0 &&& (2147483647 : Int32)) % (1114112 : Int32))), .val (.int ((p1 &&& (2147483647 : Int32)) % (1114112 : Int32))), .val (.int pf), .val (.int pl), .val (.int pd), .val (.ref b29), .val (.int (1 : Int32))] [(.int v42), (.int (own_ctn p2 pf pl))])) _
    refine XS.icmpNo X39.here hx rfl (hb hby at_253) rfl (teq (show (own_ctn p2 pf pl) = v42 from hv42.symm)).2 ?_
    show Steps p.tables e below (T39.setTop (mkF m 256 #[.val (.int p0), .val (.int p1), .val (.int p2), .val (.int p3), .val (.int ((p0 &&& (2147483647 : Int32)) % (1114112 : Int32))), .val (.int ((p1 &&& (2147483647 : Int32)) % (1114112 : Int32))), .val (.int pf), .val (.int pl), .val (.int pd), .val (.ref b29), .val (.int (1 : Int32))] [])) _
    refine XS.iconst X39.here hx rfl (hb hby at_256) ?_
    show Steps p.tables e below (T39.setTop (mkF m 257 #[.val (.int p0), .val (.int p1), .val (.int p2), .val (.int p3), .val (.int ((p0 &&& (2147483647 : Int32)) % (1114112 : Int32))), .val (.int ((p1 &&& (2147483647 : Int32)) % (1114112 : Int32))), .val (.int pf), .val (.int pl), .val (.int pd), .val (.ref b29), .val (.int (1 : Int32))] [(.int (1 : Int32))])) _
    refine XS.goto X39.here hx rfl (pc0 := 257) (pc' := 261) rfl (hb hby at_257) (by decide) (by decide) ?_
    show Steps p.tables e below (T39.setTop (mkF m 261 #[.val (.int p0), .val (.int p1), .val (.int p2), .val (.int p3), .val (.int ((p0 &&& (2147483647 : Int32)) % (1114112 : Int32))), .val (.int ((p1 &&& (2147483647 : Int32)) % (1114112 : Int32))), .val (.int pf), .val (.int pl), .val (.int pd), .val (.ref b29), .val (.int (1 : Int32))] [(.int (1 : Int32))])) _
    refine XS.istore X39.here hx rfl (hb hby at_261) rfl (l' := #[.val (.int p0), .val (.int p1), .val (.int p2), .val (.int p3), .val (.int ((p0 &&& (2147483647 : Int32)) % (1114112 : Int32))), .val (.int ((p1 &&& (2147483647 : Int32)) % (1114112 : Int32))), .val (.int pf), .val (.int pl), .val (.int pd), .val (.ref b29), .val (.int (1 : Int32))]) rfl ?_
    show Steps p.tables e below (T39.setTop (mkF m 263 #[.val (.int p0), .val (.int p1), .val (.int p2), .val (.int p3), .val (.int ((p0 &&& (2147483647 : Int32)) % (1114112 : Int32))), .val (.int ((p1 &&& (2147483647 : Int32)) % (1114112 : Int32))), .val (.int pf), .val (.int pl), .val (.int pd), .val (.ref b29), .val (.int (1 : Int32))] [])) _
    refine XS.iload X39.here hx rfl (hb hby at_263) rfl ?_
    exact k
  obtain ⟨fs, hr, hrun, hended, hW, hsame⟩ := X39.leave (v := some (.int (1 : Int32))) (fun h => by rw [Bd.returns] at h; cases h)
  refine ⟨_, _, retOut X39 hx Bd.returns rfl (Or.inl ⟨rfl, Or.inr (Or.inl rfl), _, rfl⟩) (hb hby at_265) hr, hrun, hended, _, _, rfl, ?_, ⟨_, rfl⟩, hW, hsame.mono (by decide) (by decide)⟩
  show own_Q0 h0 n0 _ T39.heap _
  rw [eq39]
  exact ⟨rfl, N39⟩
set_option maxRecDepth 65536 in
set_option maxHeartbeats 40000000 in
theorem comes_1 {Post : Tables → Env → Array Value → State → Outcome → State → Prop} (hpost : ∀ tb e args s v u, (limb_1_1.after args s (.returned v) u = true ∧ limb_1_2.after args s (.returned v) u = true ∧ True) → FrameEnd s (.returned v) u (Jvm.fieldLocs frame_1_writes args s ++ Jvm.arrayLocs frame_1_arrays args s ++ Jvm.staticLocs frame_1_statics s) 16 128 → Post tb e args s (.returned v) u) :
    ArmFor flags0 classFile x code maxLocals ret World_1 tables_1 room_1 Calls_1 rest_1 Pre_1 Post := by
  intro l hfl _ _ p e ha hc hk s m args below hf hA hF happ hP
  obtain ⟨hcalls, hrest, hpre⟩ := hP
  obtain ⟨-, -, -, hnamed, -, -, -, hat⟩ := (Spec.applies_iff hf).mp happ
  obtain ⟨hg, hn⟩ := and_e (Cond.before_iff.mp (show (Jvm.Cond.and given_1 narrow_1).before args s = true from hpre))
  obtain ⟨gg1, gg2⟩ := and_e hg
  obtain ⟨gg3, gg4⟩ := and_e gg2
  obtain ⟨gg5, gg6⟩ := and_e gg4
  obtain ⟨gg7, gg8⟩ := and_e gg6
  obtain ⟨w0, w1, w2, w3, rfl⟩ : ∃ w0 w1 w2 w3 : Value, args = #[w0, w1, w2, w3] := by
    have hs : args.size = 4 := by simpa [Cond.value, given_1] using gg1
    obtain ⟨L⟩ := args
    match L, hs with
    | [w0, w1, w2, w3], _ => exact ⟨w0, w1, w2, w3, rfl⟩
  have hw := fun d (hd : d ∈ tables_1) => atoms_spec (ws := Jvm.Cond.code x code maxLocals ret :: tables_1) hat d (List.mem_cons_of_mem _ hd)
  obtain ⟨i0, ei0⟩ := is_v gg3
  obtain rfl : w0 = (.int i0) := Option.some.inj ei0
  obtain ⟨i1, ei1⟩ := is_v gg5
  obtain rfl : w1 = (.int i1) := Option.some.inj ei1
  obtain ⟨i2, ei2⟩ := is_v gg7
  obtain rfl : w2 = (.int i2) := Option.some.inj ei2
  obtain ⟨i3, ei3⟩ := is_v gg8
  obtain rfl : w3 = (.int i3) := Option.some.inj ei3
  obtain ⟨n, o, h1, h2, h3, _, L, rfl, ⟨rfl, N⟩, hq⟩ := rm0 l s _ hw tables_1 i0 i1 i2 i3 s.heap s.heap.size (Nat.le_refl _) p e ha hc hk s m _ below hf ((Spec.applies_iff_loose hf).mp happ).1 ⟨rfl, State.Warmed39.refl s, rfl⟩ trivial
  refine ⟨n, _, h1, h2, h3, hpost _ _ _ _ _ _ ⟨Cond.after_iff.mpr rfl, Cond.after_iff.mpr (eq_i res_at (Term.int_eval (1)) rfl), trivial⟩ ⟨hq.1, hq.2.1, (hq.2.2.sift fun y hy => Or.inr (N y hy)).mono (by decide) (by decide)⟩⟩
theorem main_1_1 : Claimed_1_1 := comes_1 fun _ _ _ _ _ _ h hF => ⟨h.1, hF⟩
theorem main_1_2 : Claimed_1_2 := comes_1 fun _ _ _ _ _ _ h hF => ⟨h.2.1, hF⟩
end Jvm.Pilot.@@N@@
namespace Jvm.Pilot.@@N@@
open Jvm Jvm.ClassFile Sem Op Lib Jvm.Free Jvm.Stand Jvm.Pilot.@@N@@.Jvm.D
/-! MADE BY PROGRAM (witnessworld.py) out of the Statement's table words and the real class files: 10 classes; the members and pool entries that the words name. The judged class is class 1, her method 1. -/
namespace start1
open Jvm.ClassFile
def u (s : String) : CpInfo := .utf8 (stringToUtf16 s)
/-- a pool by its gaps: so many unusable entries, then the entry; so many at the end -/
def gap : Nat → List CpInfo → List CpInfo
  | 0, r => r
  | n + 1, r => .unusable :: gap n r
def poolList (es : List (Nat × CpInfo)) (last : Nat) : List CpInfo := es.foldr (fun e r => gap e.1 (e.2 :: r)) (gap last [])
def pool (es : List (Nat × CpInfo)) (last : Nat) : Array CpInfo := ⟨poolList es last⟩
def fileOf (pool : Array CpInfo) (this : Nat) (attrs : Array Attribute := #[]) (ms : Array MethodInfo := #[]) (fl : Nat := 33) (sup : Nat := 0) (ifs : Array Nat := #[]) (fds : Array FieldInfo := #[]) : ClassFile where
  minorVersion := 0
  majorVersion := 65
  constantPool := pool
  accessFlags := fl
  thisClass := this
  superClass := sup
  interfaces := ifs
  fields := fds
  methods := ms
  attributes := attrs
def plain (name : String) (sup : Option ClassId) : Class where
  name := name
  kind := .ordinary
  loader := none
  accessFlags := 33
  super := sup
  interfaces := #[]
  cf := none
  fields := #[]
  methods := #[]
  instanceTypes := #[]
  staticTypes := #[]
  resolved := #[]
  callSites := []
  init := .initialized
  statics := none
  mirror := none

def pool0 : Array CpInfo := pool [(5, u "<init>"), (0, u "()V"), (1, .class_ 10), (1, u "java/lang/Object")] 113

def k0c0 : Code := { maxStack := 0, maxLocals := 1, code := object_method_1_code, exceptionTable := #[], attributes := #[] }
def k0m0 : Method := { name := "<init>", desc := "()V", sig := { parameters := [], returnType := none }, accessFlags := 1, code := some k0c0 }
/-- java/lang/Object -/
def k0 : Class := { plain "java/lang/Object" none with
  accessFlags := 33
  interfaces := #[]
  cf := some (fileOf pool0 8 #[] #[{ accessFlags := 1, nameIndex := 5, descriptorIndex := 6, attributes := #[] }] 33 0 #[] #[])
  fields := #[]
  methods := #[k0m0]
  instanceTypes := #[]
  staticTypes := #[]
  resolved := Array.replicate 124 none
  statics := none }

def pool1 : Array CpInfo := pool [(2, .class_ 4), (1, u "java/lang/Object"), (0, u "<init>"), (0, u "()V"), (0, .integer 2147483647), (0, .integer 1114112), (0, .methodref 10 11), (0, .class_ 12), (0, .nameAndType 13 14), (0, u "java/lang/Math"), (0, u "min"), (0, u "(II)I"), (0, .methodref 10 16), (0, .nameAndType 17 14), (0, u "max"), (0, .methodref 19 20), (0, .class_ 21), (0, .nameAndType 22 23), (0, u "com/example/otito/otito/chain/CodePointSet"), (0, u "range"), (0, u "(II)Lcom/example/otito/otito/chain/CodePointSet;"), (0, .methodref 19 25), (0, .nameAndType 26 27), (0, u "first"), (0, u "()I"), (0, .methodref 19 29), (0, .nameAndType 30 31), (0, u "isSingle"), (0, u "()Z"), (0, .methodref 19 33), (0, .nameAndType 34 35), (0, u "contains"), (0, u "(I)Z"), (0, .class_ 37), (0, u "com/example/otito/otito/chain/CodePointSetRangePinLaw"), (2, u "law"), (0, u "(IIII)Z")] 3

def k1m0 : Method := { name := "<init>", desc := "()V", sig := { parameters := [], returnType := none }, accessFlags := 1, code := none }
def k1c1 : Code := { maxStack := 4, maxLocals := 11, code := code, exceptionTable := #[], attributes := #[] }
def k1m1 : Method := { name := "law", desc := "(IIII)Z", sig := { parameters := [.int, .int, .int, .int], returnType := some .boolean }, accessFlags := 9, code := some k1c1 }
/-- com/example/otito/otito/chain/CodePointSetRangePinLaw -/
def k1 : Class := { plain "com/example/otito/otito/chain/CodePointSetRangePinLaw" (some 0) with
  accessFlags := 49
  interfaces := #[]
  cf := some (fileOf pool1 36 #[] #[{ accessFlags := 1, nameIndex := 5, descriptorIndex := 6, attributes := #[] }, { accessFlags := 9, nameIndex := 40, descriptorIndex := 41, attributes := #[] }] 49 2 #[] #[])
  fields := #[]
  methods := #[k1m0, k1m1]
  instanceTypes := #[]
  staticTypes := #[]
  resolved := Array.replicate 45 none
  statics := none }

def pool2 : Array CpInfo := pool [(1, .class_ 2), (0, u "java/lang/Math"), (1, .class_ 6), (1, u "java/lang/Object"), (0, u "<init>"), (0, u "()V"), (89, .class_ 100), (1, u "java/lang/Math$RandomNumberGeneratorHolder"), (71, u "negativeZeroFloatBits"), (0, u "J"), (2, u "negativeZeroDoubleBits"), (21, u "max"), (2, u "min"), (43, u "$assertionsDisabled"), (0, u "Z"), (88, u "(II)I"), (2, u "twoToTheDoubleScaleDown"), (0, u "D"), (4, u "twoToTheDoubleScaleUp"), (9, u "E"), (3, u "PI"), (2, u "TAU"), (2, u "DEGREES_TO_RADIANS"), (0, u "RADIANS_TO_DEGREES")] 94

def k2m0 : Method := { name := "<init>", desc := "()V", sig := { parameters := [], returnType := none }, accessFlags := 2, code := none }
def k2c1 : Code := { maxStack := 2, maxLocals := 2, code := jdk_29_method_65_code, exceptionTable := #[], attributes := #[] }
def k2m1 : Method := { name := "max", desc := "(II)I", sig := { parameters := [.int, .int], returnType := some .int }, accessFlags := 9, code := some k2c1 }
def k2c2 : Code := { maxStack := 2, maxLocals := 2, code := jdk_29_method_69_code, exceptionTable := #[], attributes := #[] }
def k2m2 : Method := { name := "min", desc := "(II)I", sig := { parameters := [.int, .int], returnType := some .int }, accessFlags := 9, code := some k2c2 }
/-- java/lang/Math -/
def k2 : Class := { plain "java/lang/Math" (some 0) with
  accessFlags := 49
  interfaces := #[]
  cf := some (fileOf pool2 1 #[.nestMembers #[98]] #[{ accessFlags := 2, nameIndex := 7, descriptorIndex := 8, attributes := #[] }, { accessFlags := 9, nameIndex := 198, descriptorIndex := 335, attributes := #[] }, { accessFlags := 9, nameIndex := 201, descriptorIndex := 335, attributes := #[] }] 49 4 #[] #[{ accessFlags := 25, nameIndex := 354, descriptorIndex := 339, attributes := #[] }, { accessFlags := 25, nameIndex := 358, descriptorIndex := 339, attributes := #[] }, { accessFlags := 25, nameIndex := 361, descriptorIndex := 339, attributes := #[] }, { accessFlags := 26, nameIndex := 364, descriptorIndex := 339, attributes := #[] }, { accessFlags := 26, nameIndex := 365, descriptorIndex := 339, attributes := #[] }, { accessFlags := 26, nameIndex := 172, descriptorIndex := 173, attributes := #[] }, { accessFlags := 26, nameIndex := 176, descriptorIndex := 173, attributes := #[] }, { accessFlags := 8, nameIndex := 344, descriptorIndex := 339, attributes := #[] }, { accessFlags := 8, nameIndex := 338, descriptorIndex := 339, attributes := #[] }, { accessFlags := 4120, nameIndex := 245, descriptorIndex := 246, attributes := #[] }])
  fields := #[{ name := "E", type := .double, accessFlags := 25, slot := 0, constantValue := 0 }, { name := "PI", type := .double, accessFlags := 25, slot := 1, constantValue := 0 }, { name := "TAU", type := .double, accessFlags := 25, slot := 2, constantValue := 0 }, { name := "DEGREES_TO_RADIANS", type := .double, accessFlags := 26, slot := 3, constantValue := 0 }, { name := "RADIANS_TO_DEGREES", type := .double, accessFlags := 26, slot := 4, constantValue := 0 }, { name := "negativeZeroFloatBits", type := .long, accessFlags := 26, slot := 5, constantValue := 0 }, { name := "negativeZeroDoubleBits", type := .long, accessFlags := 26, slot := 6, constantValue := 0 }, { name := "twoToTheDoubleScaleUp", type := .double, accessFlags := 8, slot := 7, constantValue := 0 }, { name := "twoToTheDoubleScaleDown", type := .double, accessFlags := 8, slot := 8, constantValue := 0 }, { name := "$assertionsDisabled", type := .boolean, accessFlags := 4120, slot := 9, constantValue := 0 }]
  methods := #[k2m0, k2m1, k2m2]
  instanceTypes := #[]
  staticTypes := #[.double, .double, .double, .double, .double, .long, .long, .double, .double, .boolean]
  resolved := Array.replicate 460 none
  statics := none }

def pool3 : Array CpInfo := pool [(1, .methodref 2 3), (0, .class_ 4), (0, .nameAndType 5 6), (0, u "java/lang/Object"), (0, u "<init>"), (0, u "()V"), (0, .fieldref 8 9), (0, .class_ 10), (0, .nameAndType 11 12), (0, u "com/example/otito/otito/chain/CodePointSet"), (0, u "bounds"), (0, u "[I"), (2, u "range"), (0, u "(II)Lcom/example/otito/otito/chain/CodePointSet;"), (0, .methodref 8 18), (0, .nameAndType 5 19), (0, u "([I)V"), (0, .class_ 21), (0, u "com/example/otito/otito/chain/CodePointSet$Builder"), (29, .class_ 53), (1, u "com/example/otito/otito/chain/CodePointSet$Spaces"), (1, u "Lcom/example/otito/otito/chain/CodePointSet;"), (2, u "DIGITS"), (13, u "WORD"), (2, u "LINE_TERMINATORS"), (5, u "DOT"), (6, u "isSingle"), (0, u "()Z"), (0, u "first"), (0, u "()I"), (0, u "contains"), (0, u "(I)Z")] 27

def k3c0 : Code := { maxStack := 2, maxLocals := 2, code := prog_5_method_1_code, exceptionTable := #[], attributes := #[] }
def k3m0 : Method := { name := "<init>", desc := "([I)V", sig := { parameters := [(.array .int)], returnType := none }, accessFlags := 2, code := some k3c0 }
def k3c1 : Code := { maxStack := 6, maxLocals := 2, code := prog_5_method_3_code, exceptionTable := #[], attributes := #[] }
def k3m1 : Method := { name := "range", desc := "(II)Lcom/example/otito/otito/chain/CodePointSet;", sig := { parameters := [.int, .int], returnType := some (.object "com/example/otito/otito/chain/CodePointSet") }, accessFlags := 8, code := some k3c1 }
def k3c2 : Code := { maxStack := 3, maxLocals := 1, code := prog_5_method_7_code, exceptionTable := #[], attributes := #[] }
def k3m2 : Method := { name := "isSingle", desc := "()Z", sig := { parameters := [], returnType := some .boolean }, accessFlags := 0, code := some k3c2 }
def k3c3 : Code := { maxStack := 2, maxLocals := 1, code := prog_5_method_8_code, exceptionTable := #[], attributes := #[] }
def k3m3 : Method := { name := "first", desc := "()I", sig := { parameters := [], returnType := some .int }, accessFlags := 0, code := some k3c3 }
def k3c4 : Code := { maxStack := 4, maxLocals := 5, code := prog_5_method_9_code, exceptionTable := #[], attributes := #[] }
def k3m4 : Method := { name := "contains", desc := "(I)Z", sig := { parameters := [.int], returnType := some .boolean }, accessFlags := 0, code := some k3c4 }
/-- com/example/otito/otito/chain/CodePointSet -/
def k3 : Class := { plain "com/example/otito/otito/chain/CodePointSet" (some 0) with
  accessFlags := 48
  interfaces := #[]
  cf := some (fileOf pool3 8 #[.nestMembers #[20, 51]] #[{ accessFlags := 2, nameIndex := 5, descriptorIndex := 19, attributes := #[] }, { accessFlags := 8, nameIndex := 15, descriptorIndex := 16, attributes := #[] }, { accessFlags := 0, nameIndex := 88, descriptorIndex := 89, attributes := #[] }, { accessFlags := 0, nameIndex := 90, descriptorIndex := 91, attributes := #[] }, { accessFlags := 0, nameIndex := 92, descriptorIndex := 93, attributes := #[] }] 48 2 #[] #[{ accessFlags := 24, nameIndex := 58, descriptorIndex := 55, attributes := #[] }, { accessFlags := 24, nameIndex := 72, descriptorIndex := 55, attributes := #[] }, { accessFlags := 24, nameIndex := 75, descriptorIndex := 55, attributes := #[] }, { accessFlags := 24, nameIndex := 81, descriptorIndex := 55, attributes := #[] }, { accessFlags := 18, nameIndex := 11, descriptorIndex := 12, attributes := #[] }])
  fields := #[{ name := "DIGITS", type := (.object "com/example/otito/otito/chain/CodePointSet"), accessFlags := 24, slot := 0, constantValue := 0 }, { name := "WORD", type := (.object "com/example/otito/otito/chain/CodePointSet"), accessFlags := 24, slot := 1, constantValue := 0 }, { name := "LINE_TERMINATORS", type := (.object "com/example/otito/otito/chain/CodePointSet"), accessFlags := 24, slot := 2, constantValue := 0 }, { name := "DOT", type := (.object "com/example/otito/otito/chain/CodePointSet"), accessFlags := 24, slot := 3, constantValue := 0 }, { name := "bounds", type := (.array .int), accessFlags := 18, slot := 0, constantValue := 0 }]
  methods := #[k3m0, k3m1, k3m2, k3m3, k3m4]
  instanceTypes := #[(.array .int)]
  staticTypes := #[(.object "com/example/otito/otito/chain/CodePointSet"), (.object "com/example/otito/otito/chain/CodePointSet"), (.object "com/example/otito/otito/chain/CodePointSet"), (.object "com/example/otito/otito/chain/CodePointSet")]
  resolved := Array.replicate 121 none
  statics := none }

def pool4 : Array CpInfo := pool [(1, u "java/lang/Cloneable"), (0, .class_ 1), (0, u "java/lang/Object"), (0, .class_ 3)] 3

/-- java/lang/Cloneable -/
def k4 : Class := { plain "java/lang/Cloneable" (some 0) with
  accessFlags := 1537
  interfaces := #[]
  cf := some (fileOf pool4 2 #[] #[] 1537 4 #[] #[])
  fields := #[]
  methods := #[]
  instanceTypes := #[]
  staticTypes := #[]
  resolved := Array.replicate 8 none
  statics := none }

def pool5 : Array CpInfo := pool [(1, u "java/io/Serializable"), (0, .class_ 1), (0, u "java/lang/Object"), (0, .class_ 3)] 3

/-- java/io/Serializable -/
def k5 : Class := { plain "java/io/Serializable" (some 0) with
  accessFlags := 1537
  interfaces := #[]
  cf := some (fileOf pool5 2 #[] #[] 1537 4 #[] #[])
  fields := #[]
  methods := #[]
  instanceTypes := #[]
  staticTypes := #[]
  resolved := Array.replicate 8 none
  statics := none }

/-- the primitive byte -/
def k6 : Class := { plain "byte" none with kind := .primitive 'B', accessFlags := 0x411 }
/-- [B -/
def k7 : Class := { plain "[B" (some 0) with kind := .array 6 .byte, interfaces := #[4, 5], accessFlags := 1041 }

/-- the primitive int -/
def k8 : Class := { plain "int" none with kind := .primitive 'I', accessFlags := 0x411 }
/-- [I -/
def k9 : Class := { plain "[I" (some 0) with kind := .array 8 .int, interfaces := #[4, 5], accessFlags := 1041 }

def heap : Heap := #[]
def classes : Array Class := #[k0, k1, k2, k3, k4, k5, k6, k7, k8, k9]
def interned : List (Array UInt16 × Addr) := []
def slotsUsed : Nat := 0
def theMethod : MethodId := ⟨1, 1⟩
def args0 : Array Value := #[.int 5, .int 7, .int 9, .int 3]
def aboutOver (below : List Frame) : State where
  vm := { classes := classes, interned := interned.toArray }
  heap := heap
  slotsUsed := slotsUsed
  threads := #[{ frames := .invoking theMethod args0 :: below }]
def below0 : List Frame := [.native { method := ⟨0, 0⟩, args := #[] }]
def about1 : State := aboutOver below0
def p0 : Program := .bare "" "" ""
def e0 : Env := launch0.env 0 0 0
theorem w_frames : about1.frames = Frame.invoking theMethod args0 :: below0 := rfl
set_option maxRecDepth 65536 in
theorem w_args : argsFit about1.vm theMethod args0 = true := by decide +kernel
set_option maxRecDepth 65536 in
theorem w_heap : heapFits about1 = true := by decide +kernel
set_option maxRecDepth 65536 in
theorem w_runnable : about1.curStatus? = some .runnable := by decide +kernel
set_option maxRecDepth 65536 in
theorem w_alone : about1.alone = true := by decide +kernel
set_option maxRecDepth 65536 in
theorem w_named : about1.methodNamed? x = some theMethod := by decide +kernel
set_option maxRecDepth 65536 in
theorem w_hears : about1.hears theMethod below0 = true := by decide +kernel
set_option maxRecDepth 65536 in
theorem w_ripe : about1.ripe theMethod args0 below0 = true := by decide +kernel
theorem w_running : about1.status = .running := rfl
set_option maxRecDepth 65536 in
theorem w_room : about1.hasRoom e0.platform room_1 = true :=
  launch0.hasRoom_least _ room_1 (by decide +kernel) (by decide +kernel) (by decide +kernel) (by decide +kernel) (by decide +kernel) (by decide +kernel)
theorem allAtoms_all (ts : List Jvm.Cond) (a : Array Jvm.Value) (st : Jvm.State) : (allAtoms ts).before a st = ts.all (fun c => c.before a st) := by
  induction ts with
  | nil => rfl
  | cons c t ih =>
    show (Jvm.Cond.and c (allAtoms t)).before a st = _
    rw [Jvm.Cond.before_and, ih, List.all_cons]
def words1 : List Jvm.Cond := Jvm.Cond.code x code maxLocals ret :: tables_1
/-- a 'code' word, met by the world's own term for the bytes: nothing is compared byte by byte -/
theorem code_word {y : MethodName} {bytes : ByteArray} {mx : Nat} {rt : Option FieldType} {a : Array Value} {s : State} {m : MethodId} {meth : Method} {c : Code} (h1 : s.methodNamed? y = some m) (h2 : s.vm.method? m = some meth) (h3 : meth.code = some c) (h4 : c.code = bytes)
    (h5 : (c.maxLocals == mx && c.exceptionTable.isEmpty && decide (c.maxStack ≤ mostOperands) && decide (meth.sig.returnType = rt) && !meth.locks && decide (parseMethodDescriptor y.desc = some meth.sig)) = true) : (Jvm.Cond.code y bytes mx rt).before a s = true := by
  simp only [Bool.and_eq_true, beq_iff_eq, Bool.not_eq_true', decide_eq_true_eq] at h5
  obtain ⟨⟨⟨⟨⟨g1, g2⟩, g3⟩, g4⟩, g5⟩, g6⟩ := h5
  simp [Cond.before, Cond.holds, Cond.value, h1, h2, h3, h4, g1, g2, g3, g4, g5, g6]
def isCode : Jvm.Cond → Bool
  | .code _ _ _ _ => true
  | _ => false
theorem all_split {L : List Jvm.Cond} {P : Jvm.Cond → Bool} (h1 : L.all (fun c => isCode c || P c) = true) (h2 : ∀ c ∈ L.filter isCode, P c = true) : L.all P = true := by
  refine List.all_eq_true.mpr fun c hc => ?_
  have h := List.all_eq_true.mp h1 c hc
  rcases Bool.eq_false_or_eq_true (isCode c) with hi | hi
  · exact h2 c (List.mem_filter.mpr ⟨hc, hi⟩)
  · simpa [hi] using h
set_option maxRecDepth 65536 in
theorem w_c0 : (Jvm.Cond.code x code maxLocals ret).before args0 about1 = true := code_word (m := ⟨1, 1⟩) (meth := k1m1) (c := k1c1) (by decide +kernel) rfl rfl rfl (by decide +kernel)
set_option maxRecDepth 65536 in
theorem w_c1 : (Jvm.Cond.code ({ cls := "java/lang/Math", name := "min", desc := "(II)I" } : Jvm.MethodName) jdk_29_method_69_code (2 : Nat) (Option.some Jvm.ClassFile.FieldType.int)).before args0 about1 = true := code_word (m := ⟨2, 2⟩) (meth := k2m2) (c := k2c2) (by decide +kernel) rfl rfl rfl (by decide +kernel)
set_option maxRecDepth 65536 in
theorem w_c2 : (Jvm.Cond.code ({ cls := "java/lang/Math", name := "max", desc := "(II)I" } : Jvm.MethodName) jdk_29_method_65_code (2 : Nat) (Option.some Jvm.ClassFile.FieldType.int)).before args0 about1 = true := code_word (m := ⟨2, 1⟩) (meth := k2m1) (c := k2c1) (by decide +kernel) rfl rfl rfl (by decide +kernel)
set_option maxRecDepth 65536 in
theorem w_c3 : (Jvm.Cond.code ({ cls := "com/example/otito/otito/chain/CodePointSet", name := "range", desc := "(II)Lcom/example/otito/otito/chain/CodePointSet;" } : Jvm.MethodName) prog_5_method_3_code (2 : Nat) (Option.some (Jvm.ClassFile.FieldType.object "com/example/otito/otito/chain/CodePointSet"))).before args0 about1 = true := code_word (m := ⟨3, 1⟩) (meth := k3m1) (c := k3c1) (by decide +kernel) rfl rfl rfl (by decide +kernel)
set_option maxRecDepth 65536 in
theorem w_c4 : (Jvm.Cond.code ({ cls := "com/example/otito/otito/chain/CodePointSet", name := "<init>", desc := "([I)V" } : Jvm.MethodName) prog_5_method_1_code (2 : Nat) (Option.none : Option Jvm.ClassFile.FieldType)).before args0 about1 = true := code_word (m := ⟨3, 0⟩) (meth := k3m0) (c := k3c0) (by decide +kernel) rfl rfl rfl (by decide +kernel)
set_option maxRecDepth 65536 in
theorem w_c5 : (Jvm.Cond.code ({ cls := "java/lang/Object", name := "<init>", desc := "()V" } : Jvm.MethodName) object_method_1_code (1 : Nat) (Option.none : Option Jvm.ClassFile.FieldType)).before args0 about1 = true := code_word (m := ⟨0, 0⟩) (meth := k0m0) (c := k0c0) (by decide +kernel) rfl rfl rfl (by decide +kernel)
set_option maxRecDepth 65536 in
theorem w_c6 : (Jvm.Cond.code ({ cls := "com/example/otito/otito/chain/CodePointSet", name := "first", desc := "()I" } : Jvm.MethodName) prog_5_method_8_code (1 : Nat) (Option.some Jvm.ClassFile.FieldType.int)).before args0 about1 = true := code_word (m := ⟨3, 3⟩) (meth := k3m3) (c := k3c3) (by decide +kernel) rfl rfl rfl (by decide +kernel)
set_option maxRecDepth 65536 in
theorem w_c7 : (Jvm.Cond.code ({ cls := "com/example/otito/otito/chain/CodePointSet", name := "isSingle", desc := "()Z" } : Jvm.MethodName) prog_5_method_7_code (1 : Nat) (Option.some Jvm.ClassFile.FieldType.boolean)).before args0 about1 = true := code_word (m := ⟨3, 2⟩) (meth := k3m2) (c := k3c2) (by decide +kernel) rfl rfl rfl (by decide +kernel)
set_option maxRecDepth 65536 in
theorem w_c8 : (Jvm.Cond.code ({ cls := "com/example/otito/otito/chain/CodePointSet", name := "contains", desc := "(I)Z" } : Jvm.MethodName) prog_5_method_9_code (5 : Nat) (Option.some Jvm.ClassFile.FieldType.boolean)).before args0 about1 = true := code_word (m := ⟨3, 4⟩) (meth := k3m4) (c := k3c4) (by decide +kernel) rfl rfl rfl (by decide +kernel)
def codes1 : List Jvm.Cond := [Jvm.Cond.code x code maxLocals ret, Jvm.Cond.code ({ cls := "java/lang/Math", name := "min", desc := "(II)I" } : Jvm.MethodName) jdk_29_method_69_code (2 : Nat) (Option.some Jvm.ClassFile.FieldType.int), Jvm.Cond.code ({ cls := "java/lang/Math", name := "max", desc := "(II)I" } : Jvm.MethodName) jdk_29_method_65_code (2 : Nat) (Option.some Jvm.ClassFile.FieldType.int), Jvm.Cond.code ({ cls := "com/example/otito/otito/chain/CodePointSet", name := "range", desc := "(II)Lcom/example/otito/otito/chain/CodePointSet;" } : Jvm.MethodName) prog_5_method_3_code (2 : Nat) (Option.some (Jvm.ClassFile.FieldType.object "com/example/otito/otito/chain/CodePointSet")), Jvm.Cond.code ({ cls := "com/example/otito/otito/chain/CodePointSet", name := "<init>", desc := "([I)V" } : Jvm.MethodName) prog_5_method_1_code (2 : Nat) (Option.none : Option Jvm.ClassFile.FieldType), Jvm.Cond.code ({ cls := "java/lang/Object", name := "<init>", desc := "()V" } : Jvm.MethodName) object_method_1_code (1 : Nat) (Option.none : Option Jvm.ClassFile.FieldType), Jvm.Cond.code ({ cls := "com/example/otito/otito/chain/CodePointSet", name := "first", desc := "()I" } : Jvm.MethodName) prog_5_method_8_code (1 : Nat) (Option.some Jvm.ClassFile.FieldType.int), Jvm.Cond.code ({ cls := "com/example/otito/otito/chain/CodePointSet", name := "isSingle", desc := "()Z" } : Jvm.MethodName) prog_5_method_7_code (1 : Nat) (Option.some Jvm.ClassFile.FieldType.boolean), Jvm.Cond.code ({ cls := "com/example/otito/otito/chain/CodePointSet", name := "contains", desc := "(I)Z" } : Jvm.MethodName) prog_5_method_9_code (5 : Nat) (Option.some Jvm.ClassFile.FieldType.boolean)]
set_option maxRecDepth 65536 in
theorem codes_eq : words1.filter isCode = codes1 := rfl
theorem w_codes : ∀ c ∈ words1.filter isCode, c.before args0 about1 = true := by
  rw [codes_eq]
  intro c hc
  simp only [codes1, List.mem_cons, List.not_mem_nil, or_false] at hc
  rcases hc with rfl | rfl | rfl | rfl | rfl | rfl | rfl | rfl | rfl
  · exact w_c0
  · exact w_c1
  · exact w_c2
  · exact w_c3
  · exact w_c4
  · exact w_c5
  · exact w_c6
  · exact w_c7
  · exact w_c8
set_option maxRecDepth 65536 in
theorem w_t1 : (words1.take 24).all (fun c => isCode c || c.before args0 about1) = true := by decide +kernel
set_option maxRecDepth 65536 in
theorem w_t2 : (words1.drop 24).all (fun c => isCode c || c.before args0 about1) = true := by decide +kernel
theorem w_tables : (allAtoms (Jvm.Cond.code x code maxLocals ret :: tables_1)).before args0 about1 = true := by
  rw [allAtoms_all]
  show words1.all (fun c => c.before args0 about1) = true
  refine all_split ?_ w_codes
  rw [← List.take_append_drop 24 words1, List.all_append, w_t1, w_t2]
  rfl
set_option maxRecDepth 65536 in
theorem w_case : (Jvm.Cond.and given_1 narrow_1).before args0 about1 = true := by decide +kernel
theorem w_applies : (headSpec (Jvm.Cond.code x code maxLocals ret :: tables_1) room_1).applies x e0.platform about1 = true :=
  (Spec.applies_iff w_frames).mpr ⟨w_running, w_runnable, w_alone, w_named, w_hears, w_ripe, w_room, w_tables⟩
theorem atStart : AtStart classFile x code maxLocals ret World_1 tables_1 room_1 Calls_1 rest_1 Pre_1 launch0 p0 e0 about1 theMethod args0 below0 :=
  ⟨lists_1, trivial, launch0.admits_env _ _ _, launch0.least_env, fairChoices_fair.cas, fairChoices_fair.clock, w_frames, w_args, w_heap, w_applies, trivial, trivial, w_case⟩
end start1
theorem witness_1 : WitnessClaimed_1 := ⟨start1.p0, start1.e0, start1.about1, start1.theMethod, start1.args0, start1.below0, start1.atStart⟩
end Jvm.Pilot.@@N@@
