import JvmDerived
import JvmDerived.Pilot.@@N@@Statement
import JvmDerived.Pilot.@@N@@Code
set_option linter.unusedVariables false
set_option linter.unusedSimpArgs false

namespace Jvm.Pilot.@@N@@
open Jvm Jvm.ClassFile Sem Op Lib Jvm.Free Jvm.Stand Jvm.LawKit Jvm.RoadKit Bundle Jvm.Pilot.@@N@@.Jvm.D
theorem own_pre {tb : Tables} {e : Env} {below : List Frame} {A B : State} {C : State → Outcome → Prop} (k : ∀ t, Steps tb e below A t → Steps tb e below B t) (h : ∃ s₂ o, Steps tb e below A s₂ ∧ C s₂ o) : ∃ s₂ o, Steps tb e below B s₂ ∧ C s₂ o := by
  obtain ⟨s2, o, h1, h2⟩ := h
  exact ⟨s2, o, k _ h1, h2⟩
theorem own_lrem {p : Program} {l : Launch} {e : Env} {R : Room} {s : State} {m : MethodId} {args : Array Value} {below : List Frame} {meth : Method} {c : Code} {T : State} {locs : List Loc} {cells slots : Nat} {g : JFrame} {target : State} (X : Stand p l e R s m args below meth c T locs cells slots) (hx : p.tables.exec = Jvm.exec) (hg : g.method = m) {x y : Int64} {rest : List Value} (hd : decode c.code g.pc = .ok (.lrem, 1)) (hs : g.stack = .long y :: .long x :: rest) (hy : y ≠ 0)
    (hr : Steps p.tables e below (T.setTop { g with pc := g.pc + 1, stack := .long (x % y) :: rest }) target) : Steps p.tables e below (T.setTop g) target :=
  XS.lrem X.here hx hg hd hs hy (by rw [lrem_mod]; exact hr)
theorem own_w {wl : List Jvm.Cond} {a0 : Array Value} {Z : State} (h : ∀ d ∈ wl, d.before a0 Z = true) (i : Nat) {d : Jvm.Cond} (g : wl[i]? = some d) : d.before a0 Z = true := h d (List.mem_of_getElem? g)

theorem own_pd0 : parseMethodDescriptor "(I)Z" = some ⟨[.int], some .boolean⟩ := by decide +kernel
theorem d1_0 : decode prog_30_method_2_code 0 = .ok (.iload_n 0, 1) := by decide +kernel
theorem d1_1 : decode prog_30_method_2_code 1 = .ok (.bipush 48, 2) := by decide +kernel
theorem d1_3 : decode prog_30_method_2_code 3 = .ok (.if_icmp .lt 13, 3) := by decide +kernel
theorem d1_6 : decode prog_30_method_2_code 6 = .ok (.iload_n 0, 1) := by decide +kernel
theorem d1_7 : decode prog_30_method_2_code 7 = .ok (.bipush 57, 2) := by decide +kernel
theorem d1_9 : decode prog_30_method_2_code 9 = .ok (.if_icmp .gt 7, 3) := by decide +kernel
theorem d1_12 : decode prog_30_method_2_code 12 = .ok (.iconst 1, 1) := by decide +kernel
theorem d1_13 : decode prog_30_method_2_code 13 = .ok (.goto 4, 3) := by decide +kernel
theorem d1_16 : decode prog_30_method_2_code 16 = .ok (.iconst 0, 1) := by decide +kernel
theorem d1_17 : decode prog_30_method_2_code 17 = .ok (.ireturn, 1) := by decide +kernel
theorem own_pn1 : plainName "com/example/constraint/constraint/keyword/Ascii" = true := by first | (simp [plainName, overriddenIn]; done) | decide +kernel
theorem own_ef1 (m : MethodId) (x0 : Int32) : entryFrame m #[(.int x0)] 1 = mkF m 0 #[.val (.int x0)] [] := by first | (simp [entryFrame, mkF, argsToLocals, Value.category]; done) | rfl
def own_isD (px : Int32) : Int32 := (if px < (48 : Int32) then (0 : Int32) else (if (57 : Int32) < px then (0 : Int32) else (1 : Int32)))
def own_Q1 (px : Int32) (h0 : Heap) (n0 : Nat) (v : Option Value) (h : Heap) (L : List Loc) : Prop := v = some (.int (own_isD px)) ∧ Fr n0 L ∧ h = h0
set_option maxRecDepth 65536 in
set_option maxHeartbeats 40000000 in
theorem rm1 (l : Launch) (Z : State) (a0 : Array Value) (hw : ∀ d ∈ tables_1, d.before a0 Z = true) (ws : List Jvm.Cond) (px : Int32) (h0 : Heap) (n0 : Nat) (Z0 : n0 ≤ h0.size) :
    MetFree l (⟨"com/example/constraint/constraint/keyword/Ascii", "isDigit", "(I)Z"⟩ : MethodName) (head1 (Jvm.Cond.code (⟨"com/example/constraint/constraint/keyword/Ascii", "isDigit", "(I)Z"⟩ : MethodName) prog_30_method_2_code 1 (some .boolean) :: ws) ({ frames := 0, cells := 0, slots := 0, locals := 0 } : Room)) (fun a U => a = #[(.int px)] ∧ Z.Warmed39 U.vm ∧ U.heap = h0) (fun _ _ _ _ _ => True) (fun _ U o U' => ∃ v L, o = .returned v ∧ own_Q1 px h0 n0 v U'.heap L ∧ FrameEnd U o U' L ({ frames := 0, cells := 0, slots := 0, locals := 0 } : Room).cells ({ frames := 0, cells := 0, slots := 0, locals := 0 } : Room).slots) := by
  refine MetFree.of_bodySF (plainFor_of_name own_pn1) hisR ?_
  intro p e s m args below meth c s₁ Bd hml0 hP hK
  obtain ⟨rfl, hZ, hh⟩ := hP
  have hx := Bd.exec
  have hby := Bd.bytes
  have hml : c.maxLocals = 1 := hml0
  have hown : s.vm.findClass "com/example/constraint/constraint/keyword/Ascii" = some m.cls := findClass_of_methodNamed Bd.named
  have hnm := (name_of_methodNamed Bd.named Bd.method).1
  have X0 : Stand p l e ({ frames := 0, cells := 0, slots := 0, locals := 0 } : Room) s m #[(.int px)] below meth c s₁ [] 0 0 := Stand.of_body Bd
  have e0 : s₁.heap = h0 := by rw [← hh, Bd.state]; rfl
  have N0 := Fr.nil n0
  refine own_pre (A := (s₁.setTop (mkF m 0 #[.val (.int px)] []))) (fun t k => castTop (own_ef1 m px) k) ?_
  refine own_pre (A := (s₁.setTop (mkF m 3 #[.val (.int px)] [(.int (48 : Int32)), (.int px)]))) ?_ ?_
  · intro t k
    show Steps p.tables e below (s₁.setTop (mkF m 0 #[.val (.int px)] [])) _
    refine XS.iloadN X0.here hx rfl (hb hby d1_0) rfl ?_
    show Steps p.tables e below (s₁.setTop (mkF m 1 #[.val (.int px)] [(.int px)])) _
    refine XS.bipush X0.here hx rfl (hb hby d1_1) ?_
    exact k
  by_cases hc1 : px < (48 : Int32)
  · skip
    refine own_pre (A := (s₁.setTop (mkF m 16 #[.val (.int px)] []))) ?_ ?_
    · intro t k
      refine XS.icmpYes X0.here hx rfl (pc0 := 3) (pc' := 16) rfl (hb hby d1_3) rfl (tlt hc1).1 (by decide) (by decide) ?_
      exact k
    refine own_pre (A := (s₁.setTop (mkF m 17 #[.val (.int px)] [(.int (0 : Int32))]))) ?_ ?_
    · intro t k
      show Steps p.tables e below (s₁.setTop (mkF m 16 #[.val (.int px)] [])) _
      refine XS.iconst X0.here hx rfl (hb hby d1_16) ?_
      exact k
    have hz : own_isD px = (0 : Int32) := by simp only [own_isD, if_pos hc1]
    obtain ⟨fs, hr, hrun, hended, hW, hsame⟩ := X0.leave (hlocks := BodyLoose.notSynchronized Bd) (v := some (.int (0 : Int32))) (fun h => by rw [Bd.returns] at h; cases h)
    refine ⟨_, _, retOut X0 hx Bd.returns rfl (Or.inl ⟨rfl, Or.inr (Or.inl rfl), _, rfl⟩) (hb hby d1_17) hr, hrun, hended, _, _, rfl, ?_, ⟨_, rfl⟩, hW, hsame.mono (by decide) (by decide)⟩
    show own_Q1 px h0 n0 _ s₁.heap _
    rw [e0]
    exact ⟨by rw [hz], N0, rfl⟩
  · skip
    refine own_pre (A := (s₁.setTop (mkF m 6 #[.val (.int px)] []))) ?_ ?_
    · intro t k
      refine XS.icmpNo X0.here hx rfl (hb hby d1_3) rfl (flt hc1).1 ?_
      exact k
    refine own_pre (A := (s₁.setTop (mkF m 9 #[.val (.int px)] [(.int (57 : Int32)), (.int px)]))) ?_ ?_
    · intro t k
      show Steps p.tables e below (s₁.setTop (mkF m 6 #[.val (.int px)] [])) _
      refine XS.iloadN X0.here hx rfl (hb hby d1_6) rfl ?_
      show Steps p.tables e below (s₁.setTop (mkF m 7 #[.val (.int px)] [(.int px)])) _
      refine XS.bipush X0.here hx rfl (hb hby d1_7) ?_
      exact k
    by_cases hc2 : (57 : Int32) < px
    · skip
      refine own_pre (A := (s₁.setTop (mkF m 16 #[.val (.int px)] []))) ?_ ?_
      · intro t k
        refine XS.icmpYes X0.here hx rfl (pc0 := 9) (pc' := 16) rfl (hb hby d1_9) rfl (tlt hc2).2.2.1 (by decide) (by decide) ?_
        exact k
      refine own_pre (A := (s₁.setTop (mkF m 17 #[.val (.int px)] [(.int (0 : Int32))]))) ?_ ?_
      · intro t k
        show Steps p.tables e below (s₁.setTop (mkF m 16 #[.val (.int px)] [])) _
        refine XS.iconst X0.here hx rfl (hb hby d1_16) ?_
        exact k
      have hz : own_isD px = (0 : Int32) := by simp only [own_isD, if_neg hc1, if_pos hc2]
      obtain ⟨fs, hr, hrun, hended, hW, hsame⟩ := X0.leave (hlocks := BodyLoose.notSynchronized Bd) (v := some (.int (0 : Int32))) (fun h => by rw [Bd.returns] at h; cases h)
      refine ⟨_, _, retOut X0 hx Bd.returns rfl (Or.inl ⟨rfl, Or.inr (Or.inl rfl), _, rfl⟩) (hb hby d1_17) hr, hrun, hended, _, _, rfl, ?_, ⟨_, rfl⟩, hW, hsame.mono (by decide) (by decide)⟩
      show own_Q1 px h0 n0 _ s₁.heap _
      rw [e0]
      exact ⟨by rw [hz], N0, rfl⟩
    · skip
      refine own_pre (A := (s₁.setTop (mkF m 12 #[.val (.int px)] []))) ?_ ?_
      · intro t k
        refine XS.icmpNo X0.here hx rfl (hb hby d1_9) rfl (flt hc2).2.2.1 ?_
        exact k
      refine own_pre (A := (s₁.setTop (mkF m 17 #[.val (.int px)] [(.int (1 : Int32))]))) ?_ ?_
      · intro t k
        show Steps p.tables e below (s₁.setTop (mkF m 12 #[.val (.int px)] [])) _
        refine XS.iconst X0.here hx rfl (hb hby d1_12) ?_
        show Steps p.tables e below (s₁.setTop (mkF m 13 #[.val (.int px)] [(.int (1 : Int32))])) _
        refine XS.goto X0.here hx rfl (pc0 := 13) (pc' := 17) rfl (hb hby d1_13) (by decide) (by decide) ?_
        exact k
      have hz : own_isD px = (1 : Int32) := by simp only [own_isD, if_neg hc1, if_neg hc2]
      obtain ⟨fs, hr, hrun, hended, hW, hsame⟩ := X0.leave (hlocks := BodyLoose.notSynchronized Bd) (v := some (.int (1 : Int32))) (fun h => by rw [Bd.returns] at h; cases h)
      refine ⟨_, _, retOut X0 hx Bd.returns rfl (Or.inl ⟨rfl, Or.inr (Or.inl rfl), _, rfl⟩) (hb hby d1_17) hr, hrun, hended, _, _, rfl, ?_, ⟨_, rfl⟩, hW, hsame.mono (by decide) (by decide)⟩
      show own_Q1 px h0 n0 _ s₁.heap _
      rw [e0]
      exact ⟨by rw [hz], N0, rfl⟩
theorem d2_0 : decode method_2_code 0 = .ok (.iload_n 0, 1) := by decide +kernel
theorem d2_1 : decode method_2_code 1 = .ok (.bipush 48, 2) := by decide +kernel
theorem d2_3 : decode method_2_code 3 = .ok (.if_icmp .eq 57, 3) := by decide +kernel
theorem d2_6 : decode method_2_code 6 = .ok (.iload_n 0, 1) := by decide +kernel
theorem d2_7 : decode method_2_code 7 = .ok (.bipush 49, 2) := by decide +kernel
theorem d2_9 : decode method_2_code 9 = .ok (.if_icmp .eq 51, 3) := by decide +kernel
theorem d2_12 : decode method_2_code 12 = .ok (.iload_n 0, 1) := by decide +kernel
theorem d2_13 : decode method_2_code 13 = .ok (.bipush 50, 2) := by decide +kernel
theorem d2_15 : decode method_2_code 15 = .ok (.if_icmp .eq 45, 3) := by decide +kernel
theorem d2_18 : decode method_2_code 18 = .ok (.iload_n 0, 1) := by decide +kernel
theorem d2_19 : decode method_2_code 19 = .ok (.bipush 51, 2) := by decide +kernel
theorem d2_21 : decode method_2_code 21 = .ok (.if_icmp .eq 39, 3) := by decide +kernel
theorem d2_24 : decode method_2_code 24 = .ok (.iload_n 0, 1) := by decide +kernel
theorem d2_25 : decode method_2_code 25 = .ok (.bipush 52, 2) := by decide +kernel
theorem d2_27 : decode method_2_code 27 = .ok (.if_icmp .eq 33, 3) := by decide +kernel
theorem d2_30 : decode method_2_code 30 = .ok (.iload_n 0, 1) := by decide +kernel
theorem d2_31 : decode method_2_code 31 = .ok (.bipush 53, 2) := by decide +kernel
theorem d2_33 : decode method_2_code 33 = .ok (.if_icmp .eq 27, 3) := by decide +kernel
theorem d2_36 : decode method_2_code 36 = .ok (.iload_n 0, 1) := by decide +kernel
theorem d2_37 : decode method_2_code 37 = .ok (.bipush 54, 2) := by decide +kernel
theorem d2_39 : decode method_2_code 39 = .ok (.if_icmp .eq 21, 3) := by decide +kernel
theorem d2_42 : decode method_2_code 42 = .ok (.iload_n 0, 1) := by decide +kernel
theorem d2_43 : decode method_2_code 43 = .ok (.bipush 55, 2) := by decide +kernel
theorem d2_45 : decode method_2_code 45 = .ok (.if_icmp .eq 15, 3) := by decide +kernel
theorem d2_48 : decode method_2_code 48 = .ok (.iload_n 0, 1) := by decide +kernel
theorem d2_49 : decode method_2_code 49 = .ok (.bipush 56, 2) := by decide +kernel
theorem d2_51 : decode method_2_code 51 = .ok (.if_icmp .eq 9, 3) := by decide +kernel
theorem d2_54 : decode method_2_code 54 = .ok (.iload_n 0, 1) := by decide +kernel
theorem d2_55 : decode method_2_code 55 = .ok (.bipush 57, 2) := by decide +kernel
theorem d2_57 : decode method_2_code 57 = .ok (.if_icmp .ne 7, 3) := by decide +kernel
theorem d2_60 : decode method_2_code 60 = .ok (.iconst 1, 1) := by decide +kernel
theorem d2_61 : decode method_2_code 61 = .ok (.goto 4, 3) := by decide +kernel
theorem d2_64 : decode method_2_code 64 = .ok (.iconst 0, 1) := by decide +kernel
theorem d2_65 : decode method_2_code 65 = .ok (.ireturn, 1) := by decide +kernel
theorem own_pn2 : plainName "com/example/constraint/constraint/keyword/AsciiIsDigitPinLaw" = true := by first | (simp [plainName, overriddenIn]; done) | decide +kernel
theorem own_ef2 (m : MethodId) (x0 : Int32) : entryFrame m #[(.int x0)] 1 = mkF m 0 #[.val (.int x0)] [] := by first | (simp [entryFrame, mkF, argsToLocals, Value.category]; done) | rfl
def own_ref (px : Int32) : Int32 := (if px = (48 : Int32) then (1 : Int32) else (if px = (49 : Int32) then (1 : Int32) else (if px = (50 : Int32) then (1 : Int32) else (if px = (51 : Int32) then (1 : Int32) else (if px = (52 : Int32) then (1 : Int32) else (if px = (53 : Int32) then (1 : Int32) else (if px = (54 : Int32) then (1 : Int32) else (if px = (55 : Int32) then (1 : Int32) else (if px = (56 : Int32) then (1 : Int32) else (if px = (57 : Int32) then (1 : Int32) else (0 : Int32)))))))))))
def own_Q2 (px : Int32) (h0 : Heap) (n0 : Nat) (v : Option Value) (h : Heap) (L : List Loc) : Prop := v = some (.int (own_ref px)) ∧ Fr n0 L ∧ h = h0
set_option maxRecDepth 65536 in
set_option maxHeartbeats 40000000 in
theorem rm2 (l : Launch) (Z : State) (a0 : Array Value) (hw : ∀ d ∈ tables_1, d.before a0 Z = true) (ws : List Jvm.Cond) (px : Int32) (h0 : Heap) (n0 : Nat) (Z0 : n0 ≤ h0.size) :
    MetFree l (⟨"com/example/constraint/constraint/keyword/AsciiIsDigitPinLaw", "ref", "(I)Z"⟩ : MethodName) (head1 (Jvm.Cond.code (⟨"com/example/constraint/constraint/keyword/AsciiIsDigitPinLaw", "ref", "(I)Z"⟩ : MethodName) method_2_code 1 (some .boolean) :: ws) ({ frames := 0, cells := 0, slots := 0, locals := 0 } : Room)) (fun a U => a = #[(.int px)] ∧ Z.Warmed39 U.vm ∧ U.heap = h0) (fun _ _ _ _ _ => True) (fun _ U o U' => ∃ v L, o = .returned v ∧ own_Q2 px h0 n0 v U'.heap L ∧ FrameEnd U o U' L ({ frames := 0, cells := 0, slots := 0, locals := 0 } : Room).cells ({ frames := 0, cells := 0, slots := 0, locals := 0 } : Room).slots) := by
  refine MetFree.of_bodySF (plainFor_of_name own_pn2) hisR ?_
  intro p e s m args below meth c s₁ Bd hml0 hP hK
  obtain ⟨rfl, hZ, hh⟩ := hP
  have hx := Bd.exec
  have hby := Bd.bytes
  have hml : c.maxLocals = 1 := hml0
  have hown : s.vm.findClass "com/example/constraint/constraint/keyword/AsciiIsDigitPinLaw" = some m.cls := findClass_of_methodNamed Bd.named
  have hnm := (name_of_methodNamed Bd.named Bd.method).1
  have X0 : Stand p l e ({ frames := 0, cells := 0, slots := 0, locals := 0 } : Room) s m #[(.int px)] below meth c s₁ [] 0 0 := Stand.of_body Bd
  have e0 : s₁.heap = h0 := by rw [← hh, Bd.state]; rfl
  have N0 := Fr.nil n0
  refine own_pre (A := (s₁.setTop (mkF m 0 #[.val (.int px)] []))) (fun t k => castTop (own_ef2 m px) k) ?_
  refine own_pre (A := (s₁.setTop (mkF m 3 #[.val (.int px)] [(.int (48 : Int32)), (.int px)]))) ?_ ?_
  · intro t k
    show Steps p.tables e below (s₁.setTop (mkF m 0 #[.val (.int px)] [])) _
    refine XS.iloadN X0.here hx rfl (hb hby d2_0) rfl ?_
    show Steps p.tables e below (s₁.setTop (mkF m 1 #[.val (.int px)] [(.int px)])) _
    refine XS.bipush X0.here hx rfl (hb hby d2_1) ?_
    exact k
  by_cases hc3 : px = (48 : Int32)
  · skip
    refine own_pre (A := (s₁.setTop (mkF m 60 #[.val (.int px)] []))) ?_ ?_
    · intro t k
      refine XS.icmpYes X0.here hx rfl (pc0 := 3) (pc' := 60) rfl (hb hby d2_3) rfl (teq hc3).1 (by decide) (by decide) ?_
      exact k
    refine own_pre (A := (s₁.setTop (mkF m 65 #[.val (.int px)] [(.int (1 : Int32))]))) ?_ ?_
    · intro t k
      show Steps p.tables e below (s₁.setTop (mkF m 60 #[.val (.int px)] [])) _
      refine XS.iconst X0.here hx rfl (hb hby d2_60) ?_
      show Steps p.tables e below (s₁.setTop (mkF m 61 #[.val (.int px)] [(.int (1 : Int32))])) _
      refine XS.goto X0.here hx rfl (pc0 := 61) (pc' := 65) rfl (hb hby d2_61) (by decide) (by decide) ?_
      exact k
    have hz : own_ref px = (1 : Int32) := by simp only [own_ref, if_pos hc3]
    obtain ⟨fs, hr, hrun, hended, hW, hsame⟩ := X0.leave (hlocks := BodyLoose.notSynchronized Bd) (v := some (.int (1 : Int32))) (fun h => by rw [Bd.returns] at h; cases h)
    refine ⟨_, _, retOut X0 hx Bd.returns rfl (Or.inl ⟨rfl, Or.inr (Or.inl rfl), _, rfl⟩) (hb hby d2_65) hr, hrun, hended, _, _, rfl, ?_, ⟨_, rfl⟩, hW, hsame.mono (by decide) (by decide)⟩
    show own_Q2 px h0 n0 _ s₁.heap _
    rw [e0]
    exact ⟨by rw [hz], N0, rfl⟩
  · skip
    refine own_pre (A := (s₁.setTop (mkF m 6 #[.val (.int px)] []))) ?_ ?_
    · intro t k
      refine XS.icmpNo X0.here hx rfl (hb hby d2_3) rfl (feq hc3).1 ?_
      exact k
    refine own_pre (A := (s₁.setTop (mkF m 9 #[.val (.int px)] [(.int (49 : Int32)), (.int px)]))) ?_ ?_
    · intro t k
      show Steps p.tables e below (s₁.setTop (mkF m 6 #[.val (.int px)] [])) _
      refine XS.iloadN X0.here hx rfl (hb hby d2_6) rfl ?_
      show Steps p.tables e below (s₁.setTop (mkF m 7 #[.val (.int px)] [(.int px)])) _
      refine XS.bipush X0.here hx rfl (hb hby d2_7) ?_
      exact k
    by_cases hc4 : px = (49 : Int32)
    · skip
      refine own_pre (A := (s₁.setTop (mkF m 60 #[.val (.int px)] []))) ?_ ?_
      · intro t k
        refine XS.icmpYes X0.here hx rfl (pc0 := 9) (pc' := 60) rfl (hb hby d2_9) rfl (teq hc4).1 (by decide) (by decide) ?_
        exact k
      refine own_pre (A := (s₁.setTop (mkF m 65 #[.val (.int px)] [(.int (1 : Int32))]))) ?_ ?_
      · intro t k
        show Steps p.tables e below (s₁.setTop (mkF m 60 #[.val (.int px)] [])) _
        refine XS.iconst X0.here hx rfl (hb hby d2_60) ?_
        show Steps p.tables e below (s₁.setTop (mkF m 61 #[.val (.int px)] [(.int (1 : Int32))])) _
        refine XS.goto X0.here hx rfl (pc0 := 61) (pc' := 65) rfl (hb hby d2_61) (by decide) (by decide) ?_
        exact k
      have hz : own_ref px = (1 : Int32) := by simp only [own_ref, if_neg hc3, if_pos hc4]
      obtain ⟨fs, hr, hrun, hended, hW, hsame⟩ := X0.leave (hlocks := BodyLoose.notSynchronized Bd) (v := some (.int (1 : Int32))) (fun h => by rw [Bd.returns] at h; cases h)
      refine ⟨_, _, retOut X0 hx Bd.returns rfl (Or.inl ⟨rfl, Or.inr (Or.inl rfl), _, rfl⟩) (hb hby d2_65) hr, hrun, hended, _, _, rfl, ?_, ⟨_, rfl⟩, hW, hsame.mono (by decide) (by decide)⟩
      show own_Q2 px h0 n0 _ s₁.heap _
      rw [e0]
      exact ⟨by rw [hz], N0, rfl⟩
    · skip
      refine own_pre (A := (s₁.setTop (mkF m 12 #[.val (.int px)] []))) ?_ ?_
      · intro t k
        refine XS.icmpNo X0.here hx rfl (hb hby d2_9) rfl (feq hc4).1 ?_
        exact k
      refine own_pre (A := (s₁.setTop (mkF m 15 #[.val (.int px)] [(.int (50 : Int32)), (.int px)]))) ?_ ?_
      · intro t k
        show Steps p.tables e below (s₁.setTop (mkF m 12 #[.val (.int px)] [])) _
        refine XS.iloadN X0.here hx rfl (hb hby d2_12) rfl ?_
        show Steps p.tables e below (s₁.setTop (mkF m 13 #[.val (.int px)] [(.int px)])) _
        refine XS.bipush X0.here hx rfl (hb hby d2_13) ?_
        exact k
      by_cases hc5 : px = (50 : Int32)
      · skip
        refine own_pre (A := (s₁.setTop (mkF m 60 #[.val (.int px)] []))) ?_ ?_
        · intro t k
          refine XS.icmpYes X0.here hx rfl (pc0 := 15) (pc' := 60) rfl (hb hby d2_15) rfl (teq hc5).1 (by decide) (by decide) ?_
          exact k
        refine own_pre (A := (s₁.setTop (mkF m 65 #[.val (.int px)] [(.int (1 : Int32))]))) ?_ ?_
        · intro t k
          show Steps p.tables e below (s₁.setTop (mkF m 60 #[.val (.int px)] [])) _
          refine XS.iconst X0.here hx rfl (hb hby d2_60) ?_
          show Steps p.tables e below (s₁.setTop (mkF m 61 #[.val (.int px)] [(.int (1 : Int32))])) _
          refine XS.goto X0.here hx rfl (pc0 := 61) (pc' := 65) rfl (hb hby d2_61) (by decide) (by decide) ?_
          exact k
        have hz : own_ref px = (1 : Int32) := by simp only [own_ref, if_neg hc3, if_neg hc4, if_pos hc5]
        obtain ⟨fs, hr, hrun, hended, hW, hsame⟩ := X0.leave (hlocks := BodyLoose.notSynchronized Bd) (v := some (.int (1 : Int32))) (fun h => by rw [Bd.returns] at h; cases h)
        refine ⟨_, _, retOut X0 hx Bd.returns rfl (Or.inl ⟨rfl, Or.inr (Or.inl rfl), _, rfl⟩) (hb hby d2_65) hr, hrun, hended, _, _, rfl, ?_, ⟨_, rfl⟩, hW, hsame.mono (by decide) (by decide)⟩
        show own_Q2 px h0 n0 _ s₁.heap _
        rw [e0]
        exact ⟨by rw [hz], N0, rfl⟩
      · skip
        refine own_pre (A := (s₁.setTop (mkF m 18 #[.val (.int px)] []))) ?_ ?_
        · intro t k
          refine XS.icmpNo X0.here hx rfl (hb hby d2_15) rfl (feq hc5).1 ?_
          exact k
        refine own_pre (A := (s₁.setTop (mkF m 21 #[.val (.int px)] [(.int (51 : Int32)), (.int px)]))) ?_ ?_
        · intro t k
          show Steps p.tables e below (s₁.setTop (mkF m 18 #[.val (.int px)] [])) _
          refine XS.iloadN X0.here hx rfl (hb hby d2_18) rfl ?_
          show Steps p.tables e below (s₁.setTop (mkF m 19 #[.val (.int px)] [(.int px)])) _
          refine XS.bipush X0.here hx rfl (hb hby d2_19) ?_
          exact k
        by_cases hc6 : px = (51 : Int32)
        · skip
          refine own_pre (A := (s₁.setTop (mkF m 60 #[.val (.int px)] []))) ?_ ?_
          · intro t k
            refine XS.icmpYes X0.here hx rfl (pc0 := 21) (pc' := 60) rfl (hb hby d2_21) rfl (teq hc6).1 (by decide) (by decide) ?_
            exact k
          refine own_pre (A := (s₁.setTop (mkF m 65 #[.val (.int px)] [(.int (1 : Int32))]))) ?_ ?_
          · intro t k
            show Steps p.tables e below (s₁.setTop (mkF m 60 #[.val (.int px)] [])) _
            refine XS.iconst X0.here hx rfl (hb hby d2_60) ?_
            show Steps p.tables e below (s₁.setTop (mkF m 61 #[.val (.int px)] [(.int (1 : Int32))])) _
            refine XS.goto X0.here hx rfl (pc0 := 61) (pc' := 65) rfl (hb hby d2_61) (by decide) (by decide) ?_
            exact k
          have hz : own_ref px = (1 : Int32) := by simp only [own_ref, if_neg hc3, if_neg hc4, if_neg hc5, if_pos hc6]
          obtain ⟨fs, hr, hrun, hended, hW, hsame⟩ := X0.leave (hlocks := BodyLoose.notSynchronized Bd) (v := some (.int (1 : Int32))) (fun h => by rw [Bd.returns] at h; cases h)
          refine ⟨_, _, retOut X0 hx Bd.returns rfl (Or.inl ⟨rfl, Or.inr (Or.inl rfl), _, rfl⟩) (hb hby d2_65) hr, hrun, hended, _, _, rfl, ?_, ⟨_, rfl⟩, hW, hsame.mono (by decide) (by decide)⟩
          show own_Q2 px h0 n0 _ s₁.heap _
          rw [e0]
          exact ⟨by rw [hz], N0, rfl⟩
        · skip
          refine own_pre (A := (s₁.setTop (mkF m 24 #[.val (.int px)] []))) ?_ ?_
          · intro t k
            refine XS.icmpNo X0.here hx rfl (hb hby d2_21) rfl (feq hc6).1 ?_
            exact k
          refine own_pre (A := (s₁.setTop (mkF m 27 #[.val (.int px)] [(.int (52 : Int32)), (.int px)]))) ?_ ?_
          · intro t k
            show Steps p.tables e below (s₁.setTop (mkF m 24 #[.val (.int px)] [])) _
            refine XS.iloadN X0.here hx rfl (hb hby d2_24) rfl ?_
            show Steps p.tables e below (s₁.setTop (mkF m 25 #[.val (.int px)] [(.int px)])) _
            refine XS.bipush X0.here hx rfl (hb hby d2_25) ?_
            exact k
          by_cases hc7 : px = (52 : Int32)
          · skip
            refine own_pre (A := (s₁.setTop (mkF m 60 #[.val (.int px)] []))) ?_ ?_
            · intro t k
              refine XS.icmpYes X0.here hx rfl (pc0 := 27) (pc' := 60) rfl (hb hby d2_27) rfl (teq hc7).1 (by decide) (by decide) ?_
              exact k
            refine own_pre (A := (s₁.setTop (mkF m 65 #[.val (.int px)] [(.int (1 : Int32))]))) ?_ ?_
            · intro t k
              show Steps p.tables e below (s₁.setTop (mkF m 60 #[.val (.int px)] [])) _
              refine XS.iconst X0.here hx rfl (hb hby d2_60) ?_
              show Steps p.tables e below (s₁.setTop (mkF m 61 #[.val (.int px)] [(.int (1 : Int32))])) _
              refine XS.goto X0.here hx rfl (pc0 := 61) (pc' := 65) rfl (hb hby d2_61) (by decide) (by decide) ?_
              exact k
            have hz : own_ref px = (1 : Int32) := by simp only [own_ref, if_neg hc3, if_neg hc4, if_neg hc5, if_neg hc6, if_pos hc7]
            obtain ⟨fs, hr, hrun, hended, hW, hsame⟩ := X0.leave (hlocks := BodyLoose.notSynchronized Bd) (v := some (.int (1 : Int32))) (fun h => by rw [Bd.returns] at h; cases h)
            refine ⟨_, _, retOut X0 hx Bd.returns rfl (Or.inl ⟨rfl, Or.inr (Or.inl rfl), _, rfl⟩) (hb hby d2_65) hr, hrun, hended, _, _, rfl, ?_, ⟨_, rfl⟩, hW, hsame.mono (by decide) (by decide)⟩
            show own_Q2 px h0 n0 _ s₁.heap _
            rw [e0]
            exact ⟨by rw [hz], N0, rfl⟩
          · skip
            refine own_pre (A := (s₁.setTop (mkF m 30 #[.val (.int px)] []))) ?_ ?_
            · intro t k
              refine XS.icmpNo X0.here hx rfl (hb hby d2_27) rfl (feq hc7).1 ?_
              exact k
            refine own_pre (A := (s₁.setTop (mkF m 33 #[.val (.int px)] [(.int (53 : Int32)), (.int px)]))) ?_ ?_
            · intro t k
              show Steps p.tables e below (s₁.setTop (mkF m 30 #[.val (.int px)] [])) _
              refine XS.iloadN X0.here hx rfl (hb hby d2_30) rfl ?_
              show Steps p.tables e below (s₁.setTop (mkF m 31 #[.val (.int px)] [(.int px)])) _
              refine XS.bipush X0.here hx rfl (hb hby d2_31) ?_
              exact k
            by_cases hc8 : px = (53 : Int32)
            · skip
              refine own_pre (A := (s₁.setTop (mkF m 60 #[.val (.int px)] []))) ?_ ?_
              · intro t k
                refine XS.icmpYes X0.here hx rfl (pc0 := 33) (pc' := 60) rfl (hb hby d2_33) rfl (teq hc8).1 (by decide) (by decide) ?_
                exact k
              refine own_pre (A := (s₁.setTop (mkF m 65 #[.val (.int px)] [(.int (1 : Int32))]))) ?_ ?_
              · intro t k
                show Steps p.tables e below (s₁.setTop (mkF m 60 #[.val (.int px)] [])) _
                refine XS.iconst X0.here hx rfl (hb hby d2_60) ?_
                show Steps p.tables e below (s₁.setTop (mkF m 61 #[.val (.int px)] [(.int (1 : Int32))])) _
                refine XS.goto X0.here hx rfl (pc0 := 61) (pc' := 65) rfl (hb hby d2_61) (by decide) (by decide) ?_
                exact k
              have hz : own_ref px = (1 : Int32) := by simp only [own_ref, if_neg hc3, if_neg hc4, if_neg hc5, if_neg hc6, if_neg hc7, if_pos hc8]
              obtain ⟨fs, hr, hrun, hended, hW, hsame⟩ := X0.leave (hlocks := BodyLoose.notSynchronized Bd) (v := some (.int (1 : Int32))) (fun h => by rw [Bd.returns] at h; cases h)
              refine ⟨_, _, retOut X0 hx Bd.returns rfl (Or.inl ⟨rfl, Or.inr (Or.inl rfl), _, rfl⟩) (hb hby d2_65) hr, hrun, hended, _, _, rfl, ?_, ⟨_, rfl⟩, hW, hsame.mono (by decide) (by decide)⟩
              show own_Q2 px h0 n0 _ s₁.heap _
              rw [e0]
              exact ⟨by rw [hz], N0, rfl⟩
            · skip
              refine own_pre (A := (s₁.setTop (mkF m 36 #[.val (.int px)] []))) ?_ ?_
              · intro t k
                refine XS.icmpNo X0.here hx rfl (hb hby d2_33) rfl (feq hc8).1 ?_
                exact k
              refine own_pre (A := (s₁.setTop (mkF m 39 #[.val (.int px)] [(.int (54 : Int32)), (.int px)]))) ?_ ?_
              · intro t k
                show Steps p.tables e below (s₁.setTop (mkF m 36 #[.val (.int px)] [])) _
                refine XS.iloadN X0.here hx rfl (hb hby d2_36) rfl ?_
                show Steps p.tables e below (s₁.setTop (mkF m 37 #[.val (.int px)] [(.int px)])) _
                refine XS.bipush X0.here hx rfl (hb hby d2_37) ?_
                exact k
              by_cases hc9 : px = (54 : Int32)
              · skip
                refine own_pre (A := (s₁.setTop (mkF m 60 #[.val (.int px)] []))) ?_ ?_
                · intro t k
                  refine XS.icmpYes X0.here hx rfl (pc0 := 39) (pc' := 60) rfl (hb hby d2_39) rfl (teq hc9).1 (by decide) (by decide) ?_
                  exact k
                refine own_pre (A := (s₁.setTop (mkF m 65 #[.val (.int px)] [(.int (1 : Int32))]))) ?_ ?_
                · intro t k
                  show Steps p.tables e below (s₁.setTop (mkF m 60 #[.val (.int px)] [])) _
                  refine XS.iconst X0.here hx rfl (hb hby d2_60) ?_
                  show Steps p.tables e below (s₁.setTop (mkF m 61 #[.val (.int px)] [(.int (1 : Int32))])) _
                  refine XS.goto X0.here hx rfl (pc0 := 61) (pc' := 65) rfl (hb hby d2_61) (by decide) (by decide) ?_
                  exact k
                have hz : own_ref px = (1 : Int32) := by simp only [own_ref, if_neg hc3, if_neg hc4, if_neg hc5, if_neg hc6, if_neg hc7, if_neg hc8, if_pos hc9]
                obtain ⟨fs, hr, hrun, hended, hW, hsame⟩ := X0.leave (hlocks := BodyLoose.notSynchronized Bd) (v := some (.int (1 : Int32))) (fun h => by rw [Bd.returns] at h; cases h)
                refine ⟨_, _, retOut X0 hx Bd.returns rfl (Or.inl ⟨rfl, Or.inr (Or.inl rfl), _, rfl⟩) (hb hby d2_65) hr, hrun, hended, _, _, rfl, ?_, ⟨_, rfl⟩, hW, hsame.mono (by decide) (by decide)⟩
                show own_Q2 px h0 n0 _ s₁.heap _
                rw [e0]
                exact ⟨by rw [hz], N0, rfl⟩
              · skip
                refine own_pre (A := (s₁.setTop (mkF m 42 #[.val (.int px)] []))) ?_ ?_
                · intro t k
                  refine XS.icmpNo X0.here hx rfl (hb hby d2_39) rfl (feq hc9).1 ?_
                  exact k
                refine own_pre (A := (s₁.setTop (mkF m 45 #[.val (.int px)] [(.int (55 : Int32)), (.int px)]))) ?_ ?_
                · intro t k
                  show Steps p.tables e below (s₁.setTop (mkF m 42 #[.val (.int px)] [])) _
                  refine XS.iloadN X0.here hx rfl (hb hby d2_42) rfl ?_
                  show Steps p.tables e below (s₁.setTop (mkF m 43 #[.val (.int px)] [(.int px)])) _
                  refine XS.bipush X0.here hx rfl (hb hby d2_43) ?_
                  exact k
                by_cases hc10 : px = (55 : Int32)
                · skip
                  refine own_pre (A := (s₁.setTop (mkF m 60 #[.val (.int px)] []))) ?_ ?_
                  · intro t k
                    refine XS.icmpYes X0.here hx rfl (pc0 := 45) (pc' := 60) rfl (hb hby d2_45) rfl (teq hc10).1 (by decide) (by decide) ?_
                    exact k
                  refine own_pre (A := (s₁.setTop (mkF m 65 #[.val (.int px)] [(.int (1 : Int32))]))) ?_ ?_
                  · intro t k
                    show Steps p.tables e below (s₁.setTop (mkF m 60 #[.val (.int px)] [])) _
                    refine XS.iconst X0.here hx rfl (hb hby d2_60) ?_
                    show Steps p.tables e below (s₁.setTop (mkF m 61 #[.val (.int px)] [(.int (1 : Int32))])) _
                    refine XS.goto X0.here hx rfl (pc0 := 61) (pc' := 65) rfl (hb hby d2_61) (by decide) (by decide) ?_
                    exact k
                  have hz : own_ref px = (1 : Int32) := by simp only [own_ref, if_neg hc3, if_neg hc4, if_neg hc5, if_neg hc6, if_neg hc7, if_neg hc8, if_neg hc9, if_pos hc10]
                  obtain ⟨fs, hr, hrun, hended, hW, hsame⟩ := X0.leave (hlocks := BodyLoose.notSynchronized Bd) (v := some (.int (1 : Int32))) (fun h => by rw [Bd.returns] at h; cases h)
                  refine ⟨_, _, retOut X0 hx Bd.returns rfl (Or.inl ⟨rfl, Or.inr (Or.inl rfl), _, rfl⟩) (hb hby d2_65) hr, hrun, hended, _, _, rfl, ?_, ⟨_, rfl⟩, hW, hsame.mono (by decide) (by decide)⟩
                  show own_Q2 px h0 n0 _ s₁.heap _
                  rw [e0]
                  exact ⟨by rw [hz], N0, rfl⟩
                · skip
                  refine own_pre (A := (s₁.setTop (mkF m 48 #[.val (.int px)] []))) ?_ ?_
                  · intro t k
                    refine XS.icmpNo X0.here hx rfl (hb hby d2_45) rfl (feq hc10).1 ?_
                    exact k
                  refine own_pre (A := (s₁.setTop (mkF m 51 #[.val (.int px)] [(.int (56 : Int32)), (.int px)]))) ?_ ?_
                  · intro t k
                    show Steps p.tables e below (s₁.setTop (mkF m 48 #[.val (.int px)] [])) _
                    refine XS.iloadN X0.here hx rfl (hb hby d2_48) rfl ?_
                    show Steps p.tables e below (s₁.setTop (mkF m 49 #[.val (.int px)] [(.int px)])) _
                    refine XS.bipush X0.here hx rfl (hb hby d2_49) ?_
                    exact k
                  by_cases hc11 : px = (56 : Int32)
                  · skip
                    refine own_pre (A := (s₁.setTop (mkF m 60 #[.val (.int px)] []))) ?_ ?_
                    · intro t k
                      refine XS.icmpYes X0.here hx rfl (pc0 := 51) (pc' := 60) rfl (hb hby d2_51) rfl (teq hc11).1 (by decide) (by decide) ?_
                      exact k
                    refine own_pre (A := (s₁.setTop (mkF m 65 #[.val (.int px)] [(.int (1 : Int32))]))) ?_ ?_
                    · intro t k
                      show Steps p.tables e below (s₁.setTop (mkF m 60 #[.val (.int px)] [])) _
                      refine XS.iconst X0.here hx rfl (hb hby d2_60) ?_
                      show Steps p.tables e below (s₁.setTop (mkF m 61 #[.val (.int px)] [(.int (1 : Int32))])) _
                      refine XS.goto X0.here hx rfl (pc0 := 61) (pc' := 65) rfl (hb hby d2_61) (by decide) (by decide) ?_
                      exact k
                    have hz : own_ref px = (1 : Int32) := by simp only [own_ref, if_neg hc3, if_neg hc4, if_neg hc5, if_neg hc6, if_neg hc7, if_neg hc8, if_neg hc9, if_neg hc10, if_pos hc11]
                    obtain ⟨fs, hr, hrun, hended, hW, hsame⟩ := X0.leave (hlocks := BodyLoose.notSynchronized Bd) (v := some (.int (1 : Int32))) (fun h => by rw [Bd.returns] at h; cases h)
                    refine ⟨_, _, retOut X0 hx Bd.returns rfl (Or.inl ⟨rfl, Or.inr (Or.inl rfl), _, rfl⟩) (hb hby d2_65) hr, hrun, hended, _, _, rfl, ?_, ⟨_, rfl⟩, hW, hsame.mono (by decide) (by decide)⟩
                    show own_Q2 px h0 n0 _ s₁.heap _
                    rw [e0]
                    exact ⟨by rw [hz], N0, rfl⟩
                  · skip
                    refine own_pre (A := (s₁.setTop (mkF m 54 #[.val (.int px)] []))) ?_ ?_
                    · intro t k
                      refine XS.icmpNo X0.here hx rfl (hb hby d2_51) rfl (feq hc11).1 ?_
                      exact k
                    refine own_pre (A := (s₁.setTop (mkF m 57 #[.val (.int px)] [(.int (57 : Int32)), (.int px)]))) ?_ ?_
                    · intro t k
                      show Steps p.tables e below (s₁.setTop (mkF m 54 #[.val (.int px)] [])) _
                      refine XS.iloadN X0.here hx rfl (hb hby d2_54) rfl ?_
                      show Steps p.tables e below (s₁.setTop (mkF m 55 #[.val (.int px)] [(.int px)])) _
                      refine XS.bipush X0.here hx rfl (hb hby d2_55) ?_
                      exact k
                    by_cases hc12 : px = (57 : Int32)
                    · skip
                      refine own_pre (A := (s₁.setTop (mkF m 60 #[.val (.int px)] []))) ?_ ?_
                      · intro t k
                        refine XS.icmpNo X0.here hx rfl (hb hby d2_57) rfl (teq hc12).2 ?_
                        exact k
                      refine own_pre (A := (s₁.setTop (mkF m 65 #[.val (.int px)] [(.int (1 : Int32))]))) ?_ ?_
                      · intro t k
                        show Steps p.tables e below (s₁.setTop (mkF m 60 #[.val (.int px)] [])) _
                        refine XS.iconst X0.here hx rfl (hb hby d2_60) ?_
                        show Steps p.tables e below (s₁.setTop (mkF m 61 #[.val (.int px)] [(.int (1 : Int32))])) _
                        refine XS.goto X0.here hx rfl (pc0 := 61) (pc' := 65) rfl (hb hby d2_61) (by decide) (by decide) ?_
                        exact k
                      have hz : own_ref px = (1 : Int32) := by simp only [own_ref, if_neg hc3, if_neg hc4, if_neg hc5, if_neg hc6, if_neg hc7, if_neg hc8, if_neg hc9, if_neg hc10, if_neg hc11, if_pos hc12]
                      obtain ⟨fs, hr, hrun, hended, hW, hsame⟩ := X0.leave (hlocks := BodyLoose.notSynchronized Bd) (v := some (.int (1 : Int32))) (fun h => by rw [Bd.returns] at h; cases h)
                      refine ⟨_, _, retOut X0 hx Bd.returns rfl (Or.inl ⟨rfl, Or.inr (Or.inl rfl), _, rfl⟩) (hb hby d2_65) hr, hrun, hended, _, _, rfl, ?_, ⟨_, rfl⟩, hW, hsame.mono (by decide) (by decide)⟩
                      show own_Q2 px h0 n0 _ s₁.heap _
                      rw [e0]
                      exact ⟨by rw [hz], N0, rfl⟩
                    · skip
                      refine own_pre (A := (s₁.setTop (mkF m 64 #[.val (.int px)] []))) ?_ ?_
                      · intro t k
                        refine XS.icmpYes X0.here hx rfl (pc0 := 57) (pc' := 64) rfl (hb hby d2_57) rfl (feq hc12).2 (by decide) (by decide) ?_
                        exact k
                      refine own_pre (A := (s₁.setTop (mkF m 65 #[.val (.int px)] [(.int (0 : Int32))]))) ?_ ?_
                      · intro t k
                        show Steps p.tables e below (s₁.setTop (mkF m 64 #[.val (.int px)] [])) _
                        refine XS.iconst X0.here hx rfl (hb hby d2_64) ?_
                        exact k
                      have hz : own_ref px = (0 : Int32) := by simp only [own_ref, if_neg hc3, if_neg hc4, if_neg hc5, if_neg hc6, if_neg hc7, if_neg hc8, if_neg hc9, if_neg hc10, if_neg hc11, if_neg hc12]
                      obtain ⟨fs, hr, hrun, hended, hW, hsame⟩ := X0.leave (hlocks := BodyLoose.notSynchronized Bd) (v := some (.int (0 : Int32))) (fun h => by rw [Bd.returns] at h; cases h)
                      refine ⟨_, _, retOut X0 hx Bd.returns rfl (Or.inl ⟨rfl, Or.inr (Or.inl rfl), _, rfl⟩) (hb hby d2_65) hr, hrun, hended, _, _, rfl, ?_, ⟨_, rfl⟩, hW, hsame.mono (by decide) (by decide)⟩
                      show own_Q2 px h0 n0 _ s₁.heap _
                      rw [e0]
                      exact ⟨by rw [hz], N0, rfl⟩
set_option maxHeartbeats 4000000 in
theorem own_eq (p : Int32) : own_isD p = own_ref p := by
  have a48 : (48 : Int32).toInt = 48 := by decide
  have a49 : (49 : Int32).toInt = 49 := by decide
  have a50 : (50 : Int32).toInt = 50 := by decide
  have a51 : (51 : Int32).toInt = 51 := by decide
  have a52 : (52 : Int32).toInt = 52 := by decide
  have a53 : (53 : Int32).toInt = 53 := by decide
  have a54 : (54 : Int32).toInt = 54 := by decide
  have a55 : (55 : Int32).toInt = 55 := by decide
  have a56 : (56 : Int32).toInt = 56 := by decide
  have a57 : (57 : Int32).toInt = 57 := by decide
  simp only [own_isD, own_ref, Int32.lt_iff_toInt_lt, ← Int32.toInt_inj, a48, a49, a50, a51, a52, a53, a54, a55, a56, a57]
  repeat' split
  all_goals first | rfl | omega
theorem own_pn0 : plainName "com/example/constraint/constraint/keyword/AsciiIsDigitPinLaw" = true := by first | (simp [plainName, overriddenIn]; done) | decide +kernel
theorem own_ef0 (m : MethodId) (x0 : Int32) (x1 : Int32) : entryFrame m #[(.int x0), (.int x1)] maxLocals = mkF m 0 #[.val (.int x0), .val (.int x1), .unset, .unset, .unset] [] := by first | (simp [entryFrame, mkF, argsToLocals, Value.category, maxLocals]; done) | rfl
def own_Q0 (h0 : Heap) (n0 : Nat) (v : Option Value) (h : Heap) (L : List Loc) : Prop := v = some (.int (1 : Int32)) ∧ Fr n0 L
set_option maxRecDepth 65536 in
set_option maxHeartbeats 40000000 in
theorem rm0 (l : Launch) (Z : State) (a0 : Array Value) (hw : ∀ d ∈ tables_1, d.before a0 Z = true) (ws : List Jvm.Cond) (px : Int32) (py : Int32) (h0 : Heap) (n0 : Nat) (Z0 : n0 ≤ h0.size) :
    MetFree l x (head1 (Jvm.Cond.code x code maxLocals ret :: ws) room_1) (fun a U => a = #[(.int px), (.int py)] ∧ Z.Warmed39 U.vm ∧ U.heap = h0) (fun _ _ _ _ _ => True) (fun _ U o U' => ∃ v L, o = .returned v ∧ own_Q0  h0 n0 v U'.heap L ∧ FrameEnd U o U' L room_1.cells room_1.slots) := by
  refine MetFree.of_bodySF (plainFor_of_name own_pn0) hisR ?_
  intro p e s m args below meth c s₁ Bd hml0 hP hK
  obtain ⟨rfl, hZ, hh⟩ := hP
  have hx := Bd.exec
  have hby := Bd.bytes
  have hml : c.maxLocals = 5 := hml0
  have hown : s.vm.findClass "com/example/constraint/constraint/keyword/AsciiIsDigitPinLaw" = some m.cls := findClass_of_methodNamed Bd.named
  have hnm := (name_of_methodNamed Bd.named Bd.method).1
  have X0 : Stand p l e room_1 s m #[(.int px), (.int py)] below meth c s₁ [] 0 0 := Stand.of_body Bd
  have e0 : s₁.heap = h0 := by rw [← hh, Bd.state]; rfl
  have N0 := Fr.nil n0
  refine own_pre (A := (s₁.setTop (mkF m 0 #[.val (.int px), .val (.int py), .unset, .unset, .unset] []))) (fun t k => castTop (own_ef0 m px py) k) ?_
  refine own_pre (A := (s₁.setTop (mkF m 9 #[.val (.int px), .val (.int py), .val (.int ((45 : Int32) + (py &&& (15 : Int32)))), .unset, .unset] [(.int px)]))) ?_ ?_
  · intro t k
    show Steps p.tables e below (s₁.setTop (mkF m 0 #[.val (.int px), .val (.int py), .unset, .unset, .unset] [])) _
    refine XS.bipush X0.here hx rfl (hb hby at_0) ?_
    show Steps p.tables e below (s₁.setTop (mkF m 2 #[.val (.int px), .val (.int py), .unset, .unset, .unset] [(.int (45 : Int32))])) _
    refine XS.iloadN X0.here hx rfl (hb hby at_2) rfl ?_
    show Steps p.tables e below (s₁.setTop (mkF m 3 #[.val (.int px), .val (.int py), .unset, .unset, .unset] [(.int py), (.int (45 : Int32))])) _
    refine XS.bipush X0.here hx rfl (hb hby at_3) ?_
    show Steps p.tables e below (s₁.setTop (mkF m 5 #[.val (.int px), .val (.int py), .unset, .unset, .unset] [(.int (15 : Int32)), (.int py), (.int (45 : Int32))])) _
    refine XS.iand X0.here hx rfl (hb hby at_5) rfl ?_
    show Steps p.tables e below (s₁.setTop (mkF m 6 #[.val (.int px), .val (.int py), .unset, .unset, .unset] [(.int (py &&& (15 : Int32))), (.int (45 : Int32))])) _
    refine XS.iadd X0.here hx rfl (hb hby at_6) rfl ?_
    show Steps p.tables e below (s₁.setTop (mkF m 7 #[.val (.int px), .val (.int py), .unset, .unset, .unset] [(.int ((45 : Int32) + (py &&& (15 : Int32))))])) _
    refine XS.istoreN X0.here hx rfl (hb hby at_7) rfl (l' := #[.val (.int px), .val (.int py), .val (.int ((45 : Int32) + (py &&& (15 : Int32)))), .unset, .unset]) rfl ?_
    show Steps p.tables e below (s₁.setTop (mkF m 8 #[.val (.int px), .val (.int py), .val (.int ((45 : Int32) + (py &&& (15 : Int32)))), .unset, .unset] [])) _
    refine XS.iloadN X0.here hx rfl (hb hby at_8) rfl ?_
    exact k
  obtain ⟨_, _, ⟨T13, L13, k13, n13⟩, -, X13, ⟨Lc13, hQ13, l13, y13, z13⟩, st13⟩ := Jvm.LawKit.callS X0 hx (y := (⟨"com/example/constraint/constraint/keyword/Ascii", "isDigit", "(I)Z"⟩ : MethodName)) hown (mvT hZ (own_w hw 0 rfl)) (mvT hZ (own_w hw 1 rfl)) (mvT hZ (own_w hw 2 rfl)) (mvT hZ (own_w hw 3 rfl)) (by decide) (backOf (W := 0) (rm1 l Z a0 hw [] px h0 n0 Z0) hZ (own_w hw 3 rfl) (own_w hw 2 rfl) (by decide) (by decide)) (g := (mkF m 9 #[.val (.int px), .val (.int py), .val (.int ((45 : Int32) + (py &&& (15 : Int32)))), .unset, .unset] [(.int px)])) rfl (by rw [hml]; rfl) (argsL := [(.int px)]) (rest := []) (lenOf own_pd0 rfl) rfl (by show 2 * 0 + _ ≤ _; exact Nat.le_of_eq rfl) (hb hby at_9) (fun _ _ => ⟨rfl, e0, (by decide : 0 + 0 ≤ _), (by decide : 0 + 0 ≤ _)⟩)
  dsimp only [Pt.U, Pt.locs, Pt.cells, Pt.slots] at X13 l13 y13 z13 st13 hQ13
  subst l13 y13 z13
  obtain ⟨rfl, Nq13, eq13⟩ := hQ13
  have N13 := Fr.app N0 Nq13
  refine own_pre (fun t k => st13 t k) ?_
  refine own_pre (A := (T13.setTop (mkF m 13 #[.val (.int px), .val (.int py), .val (.int ((45 : Int32) + (py &&& (15 : Int32)))), .unset, .unset] [(.int px), (.int (own_isD px))]))) ?_ ?_
  · intro t k
    show Steps p.tables e below (T13.setTop (mkF m 12 #[.val (.int px), .val (.int py), .val (.int ((45 : Int32) + (py &&& (15 : Int32)))), .unset, .unset] [(.int (own_isD px))])) _
    refine XS.iloadN X13.here hx rfl (hb hby at_12) rfl ?_
    exact k
  obtain ⟨_, _, ⟨T14, L14, k14, n14⟩, -, X14, ⟨Lc14, hQ14, l14, y14, z14⟩, st14⟩ := Jvm.LawKit.callS X13 hx (y := (⟨"com/example/constraint/constraint/keyword/AsciiIsDigitPinLaw", "ref", "(I)Z"⟩ : MethodName)) hown (mvT hZ (own_w hw 4 rfl)) (mvT hZ (own_w hw 5 rfl)) (mvT hZ (own_w hw 6 rfl)) (mvT hZ (own_w hw 7 rfl)) (by decide) (backOf (W := 1) (rm2 l Z a0 hw [] px h0 n0 Z0) hZ (own_w hw 7 rfl) (own_w hw 6 rfl) (by decide) (by decide)) (g := (mkF m 13 #[.val (.int px), .val (.int py), .val (.int ((45 : Int32) + (py &&& (15 : Int32)))), .unset, .unset] [(.int px), (.int (own_isD px))])) rfl (by rw [hml]; rfl) (argsL := [(.int px)]) (rest := [(.int (own_isD px))]) (lenOf own_pd0 rfl) rfl (by show 2 * 0 + _ ≤ _; exact Nat.le_of_eq rfl) (hb hby at_13) (fun _ _ => ⟨rfl, eq13, (by decide : 0 + 0 ≤ _), (by decide : 0 + 0 ≤ _)⟩)
  dsimp only [Pt.U, Pt.locs, Pt.cells, Pt.slots] at X14 l14 y14 z14 st14 hQ14
  subst l14 y14 z14
  obtain ⟨rfl, Nq14, eq14⟩ := hQ14
  have N14 := Fr.app N13 Nq14
  refine own_pre (fun t k => st14 t k) ?_
  obtain ⟨v16, hv16⟩ : ∃ z : Int32, z = (if (own_isD px) = (own_ref px) then (1 : Int32) else (0 : Int32)) := ⟨_, rfl⟩
  refine own_pre (A := (T14.setTop (mkF m 24 #[.val (.int px), .val (.int py), .val (.int ((45 : Int32) + (py &&& (15 : Int32)))), .unset, .unset] [(.int v16)]))) ?_ ?_
  · intro t k
    show Steps p.tables e below (T14.setTop (mkF m 16 #[.val (.int px), .val (.int py), .val (.int ((45 : Int32) + (py &&& (15 : Int32)))), .unset, .unset] [(.int (own_ref px)), (.int (own_isD px))])) _
    by_cases hc15 : (own_isD px) = (own_ref px)
    · skip
      refine XS.icmpNo X14.here hx rfl (hb hby at_16) rfl (teq hc15).2 ?_
      show Steps p.tables e below (T14.setTop (mkF m 19 #[.val (.int px), .val (.int py), .val (.int ((45 : Int32) + (py &&& (15 : Int32)))), .unset, .unset] [])) _
      refine XS.iconst X14.here hx rfl (hb hby at_19) ?_
      show Steps p.tables e below (T14.setTop (mkF m 20 #[.val (.int px), .val (.int py), .val (.int ((45 : Int32) + (py &&& (15 : Int32)))), .unset, .unset] [(.int (1 : Int32))])) _
      refine XS.goto X14.here hx rfl (pc0 := 20) (pc' := 24) rfl (hb hby at_20) (by decide) (by decide) ?_
      rw [show v16 = (1 : Int32) from hv16.trans (by simp only [if_pos hc15])] at k
      exact k
    · skip
      refine XS.icmpYes X14.here hx rfl (pc0 := 16) (pc' := 23) rfl (hb hby at_16) rfl (feq hc15).2 (by decide) (by decide) ?_
      show Steps p.tables e below (T14.setTop (mkF m 23 #[.val (.int px), .val (.int py), .val (.int ((45 : Int32) + (py &&& (15 : Int32)))), .unset, .unset] [])) _
      refine XS.iconst X14.here hx rfl (hb hby at_23) ?_
      rw [show v16 = (0 : Int32) from hv16.trans (by simp only [if_neg hc15])] at k
      exact k
  refine own_pre (A := (T14.setTop (mkF m 26 #[.val (.int px), .val (.int py), .val (.int ((45 : Int32) + (py &&& (15 : Int32)))), .val (.int v16), .unset] [(.int ((45 : Int32) + (py &&& (15 : Int32))))]))) ?_ ?_
  · intro t k
    show Steps p.tables e below (T14.setTop (mkF m 24 #[.val (.int px), .val (.int py), .val (.int ((45 : Int32) + (py &&& (15 : Int32)))), .unset, .unset] [(.int v16)])) _
    refine XS.istoreN X14.here hx rfl (hb hby at_24) rfl (l' := #[.val (.int px), .val (.int py), .val (.int ((45 : Int32) + (py &&& (15 : Int32)))), .val (.int v16), .unset]) rfl ?_
    show Steps p.tables e below (T14.setTop (mkF m 25 #[.val (.int px), .val (.int py), .val (.int ((45 : Int32) + (py &&& (15 : Int32)))), .val (.int v16), .unset] [])) _
    refine XS.iloadN X14.here hx rfl (hb hby at_25) rfl ?_
    exact k
  obtain ⟨_, _, ⟨T17, L17, k17, n17⟩, -, X17, ⟨Lc17, hQ17, l17, y17, z17⟩, st17⟩ := Jvm.LawKit.callS X14 hx (y := (⟨"com/example/constraint/constraint/keyword/Ascii", "isDigit", "(I)Z"⟩ : MethodName)) hown (mvT hZ (own_w hw 0 rfl)) (mvT hZ (own_w hw 1 rfl)) (mvT hZ (own_w hw 2 rfl)) (mvT hZ (own_w hw 3 rfl)) (by decide) (backOf (W := 0) (rm1 l Z a0 hw [] ((45 : Int32) + (py &&& (15 : Int32))) h0 n0 Z0) hZ (own_w hw 3 rfl) (own_w hw 2 rfl) (by decide) (by decide)) (g := (mkF m 26 #[.val (.int px), .val (.int py), .val (.int ((45 : Int32) + (py &&& (15 : Int32)))), .val (.int v16), .unset] [(.int ((45 : Int32) + (py &&& (15 : Int32))))])) rfl (by rw [hml]; rfl) (argsL := [(.int ((45 : Int32) + (py &&& (15 : Int32))))]) (rest := []) (lenOf own_pd0 rfl) rfl (by show 2 * 0 + _ ≤ _; exact Nat.le_of_eq rfl) (hb hby at_26) (fun _ _ => ⟨rfl, eq14, (by decide : 0 + 0 ≤ _), (by decide : 0 + 0 ≤ _)⟩)
  dsimp only [Pt.U, Pt.locs, Pt.cells, Pt.slots] at X17 l17 y17 z17 st17 hQ17
  subst l17 y17 z17
  obtain ⟨rfl, Nq17, eq17⟩ := hQ17
  have N17 := Fr.app N14 Nq17
  refine own_pre (fun t k => st17 t k) ?_
  refine own_pre (A := (T17.setTop (mkF m 30 #[.val (.int px), .val (.int py), .val (.int ((45 : Int32) + (py &&& (15 : Int32)))), .val (.int v16), .unset] [(.int ((45 : Int32) + (py &&& (15 : Int32)))), (.int (own_isD ((45 : Int32) + (py &&& (15 : Int32)))))]))) ?_ ?_
  · intro t k
    show Steps p.tables e below (T17.setTop (mkF m 29 #[.val (.int px), .val (.int py), .val (.int ((45 : Int32) + (py &&& (15 : Int32)))), .val (.int v16), .unset] [(.int (own_isD ((45 : Int32) + (py &&& (15 : Int32)))))])) _
    refine XS.iloadN X17.here hx rfl (hb hby at_29) rfl ?_
    exact k
  obtain ⟨_, _, ⟨T18, L18, k18, n18⟩, -, X18, ⟨Lc18, hQ18, l18, y18, z18⟩, st18⟩ := Jvm.LawKit.callS X17 hx (y := (⟨"com/example/constraint/constraint/keyword/AsciiIsDigitPinLaw", "ref", "(I)Z"⟩ : MethodName)) hown (mvT hZ (own_w hw 4 rfl)) (mvT hZ (own_w hw 5 rfl)) (mvT hZ (own_w hw 6 rfl)) (mvT hZ (own_w hw 7 rfl)) (by decide) (backOf (W := 1) (rm2 l Z a0 hw [] ((45 : Int32) + (py &&& (15 : Int32))) h0 n0 Z0) hZ (own_w hw 7 rfl) (own_w hw 6 rfl) (by decide) (by decide)) (g := (mkF m 30 #[.val (.int px), .val (.int py), .val (.int ((45 : Int32) + (py &&& (15 : Int32)))), .val (.int v16), .unset] [(.int ((45 : Int32) + (py &&& (15 : Int32)))), (.int (own_isD ((45 : Int32) + (py &&& (15 : Int32)))))])) rfl (by rw [hml]; rfl) (argsL := [(.int ((45 : Int32) + (py &&& (15 : Int32))))]) (rest := [(.int (own_isD ((45 : Int32) + (py &&& (15 : Int32)))))]) (lenOf own_pd0 rfl) rfl (by show 2 * 0 + _ ≤ _; exact Nat.le_of_eq rfl) (hb hby at_30) (fun _ _ => ⟨rfl, eq17, (by decide : 0 + 0 ≤ _), (by decide : 0 + 0 ≤ _)⟩)
  dsimp only [Pt.U, Pt.locs, Pt.cells, Pt.slots] at X18 l18 y18 z18 st18 hQ18
  subst l18 y18 z18
  obtain ⟨rfl, Nq18, eq18⟩ := hQ18
  have N18 := Fr.app N17 Nq18
  refine own_pre (fun t k => st18 t k) ?_
  obtain ⟨v20, hv20⟩ : ∃ z : Int32, z = (if (own_isD ((45 : Int32) + (py &&& (15 : Int32)))) = (own_ref ((45 : Int32) + (py &&& (15 : Int32)))) then (1 : Int32) else (0 : Int32)) := ⟨_, rfl⟩
  refine own_pre (A := (T18.setTop (mkF m 41 #[.val (.int px), .val (.int py), .val (.int ((45 : Int32) + (py &&& (15 : Int32)))), .val (.int v16), .unset] [(.int v20)]))) ?_ ?_
  · intro t k
    show Steps p.tables e below (T18.setTop (mkF m 33 #[.val (.int px), .val (.int py), .val (.int ((45 : Int32) + (py &&& (15 : Int32)))), .val (.int v16), .unset] [(.int (own_ref ((45 : Int32) + (py &&& (15 : Int32))))), (.int (own_isD ((45 : Int32) + (py &&& (15 : Int32)))))])) _
    by_cases hc19 : (own_isD ((45 : Int32) + (py &&& (15 : Int32)))) = (own_ref ((45 : Int32) + (py &&& (15 : Int32))))
    · skip
      refine XS.icmpNo X18.here hx rfl (hb hby at_33) rfl (teq hc19).2 ?_
      show Steps p.tables e below (T18.setTop (mkF m 36 #[.val (.int px), .val (.int py), .val (.int ((45 : Int32) + (py &&& (15 : Int32)))), .val (.int v16), .unset] [])) _
      refine XS.iconst X18.here hx rfl (hb hby at_36) ?_
      show Steps p.tables e below (T18.setTop (mkF m 37 #[.val (.int px), .val (.int py), .val (.int ((45 : Int32) + (py &&& (15 : Int32)))), .val (.int v16), .unset] [(.int (1 : Int32))])) _
      refine XS.goto X18.here hx rfl (pc0 := 37) (pc' := 41) rfl (hb hby at_37) (by decide) (by decide) ?_
      rw [show v20 = (1 : Int32) from hv20.trans (by simp only [if_pos hc19])] at k
      exact k
    · skip
      refine XS.icmpYes X18.here hx rfl (pc0 := 33) (pc' := 40) rfl (hb hby at_33) rfl (feq hc19).2 (by decide) (by decide) ?_
      show Steps p.tables e below (T18.setTop (mkF m 40 #[.val (.int px), .val (.int py), .val (.int ((45 : Int32) + (py &&& (15 : Int32)))), .val (.int v16), .unset] [])) _
      refine XS.iconst X18.here hx rfl (hb hby at_40) ?_
      rw [show v20 = (0 : Int32) from hv20.trans (by simp only [if_neg hc19])] at k
      exact k
  refine own_pre (A := (T18.setTop (mkF m 44 #[.val (.int px), .val (.int py), .val (.int ((45 : Int32) + (py &&& (15 : Int32)))), .val (.int v16), .val (.int v20)] [(.int v16)]))) ?_ ?_
  · intro t k
    show Steps p.tables e below (T18.setTop (mkF m 41 #[.val (.int px), .val (.int py), .val (.int ((45 : Int32) + (py &&& (15 : Int32)))), .val (.int v16), .unset] [(.int v20)])) _
    refine XS.istore X18.here hx rfl (hb hby at_41) rfl (l' := #[.val (.int px), .val (.int py), .val (.int ((45 : Int32) + (py &&& (15 : Int32)))), .val (.int v16), .val (.int v20)]) rfl ?_
    show Steps p.tables e below (T18.setTop (mkF m 43 #[.val (.int px), .val (.int py), .val (.int ((45 : Int32) + (py &&& (15 : Int32)))), .val (.int v16), .val (.int v20)] [])) _
    refine XS.iloadN X18.here hx rfl (hb hby at_43) rfl ?_
    exact k
  obtain ⟨v23, hv23⟩ : ∃ z : Int32, z = (if v16 = (0 : Int32) then (0 : Int32) else (if v20 = (0 : Int32) then (0 : Int32) else (1 : Int32))) := ⟨_, rfl⟩
  refine own_pre (A := (T18.setTop (mkF m 57 #[.val (.int px), .val (.int py), .val (.int ((45 : Int32) + (py &&& (15 : Int32)))), .val (.int v16), .val (.int v20)] [(.int v23)]))) ?_ ?_
  · intro t k
    show Steps p.tables e below (T18.setTop (mkF m 44 #[.val (.int px), .val (.int py), .val (.int ((45 : Int32) + (py &&& (15 : Int32)))), .val (.int v16), .val (.int v20)] [(.int v16)])) _
    by_cases hc21 : v16 = (0 : Int32)
    · skip
      refine XS.ifYes X18.here hx rfl (pc0 := 44) (pc' := 56) rfl (hb hby at_44) rfl ((if0 _ _).trans (teq hc21).1) (by decide) (by decide) ?_
      show Steps p.tables e below (T18.setTop (mkF m 56 #[.val (.int px), .val (.int py), .val (.int ((45 : Int32) + (py &&& (15 : Int32)))), .val (.int v16), .val (.int v20)] [])) _
      refine XS.iconst X18.here hx rfl (hb hby at_56) ?_
      rw [show v23 = (0 : Int32) from hv23.trans (by simp only [if_pos hc21])] at k
      exact k
    · skip
      refine XS.ifNo X18.here hx rfl (hb hby at_44) rfl ((if0 _ _).trans (feq hc21).1) ?_
      show Steps p.tables e below (T18.setTop (mkF m 47 #[.val (.int px), .val (.int py), .val (.int ((45 : Int32) + (py &&& (15 : Int32)))), .val (.int v16), .val (.int v20)] [])) _
      refine XS.iload X18.here hx rfl (hb hby at_47) rfl ?_
      show Steps p.tables e below (T18.setTop (mkF m 49 #[.val (.int px), .val (.int py), .val (.int ((45 : Int32) + (py &&& (15 : Int32)))), .val (.int v16), .val (.int v20)] [(.int v20)])) _
      by_cases hc22 : v20 = (0 : Int32)
      · skip
        refine XS.ifYes X18.here hx rfl (pc0 := 49) (pc' := 56) rfl (hb hby at_49) rfl ((if0 _ _).trans (teq hc22).1) (by decide) (by decide) ?_
        show Steps p.tables e below (T18.setTop (mkF m 56 #[.val (.int px), .val (.int py), .val (.int ((45 : Int32) + (py &&& (15 : Int32)))), .val (.int v16), .val (.int v20)] [])) _
        refine XS.iconst X18.here hx rfl (hb hby at_56) ?_
        rw [show v23 = (0 : Int32) from hv23.trans (by simp only [if_neg hc21, if_pos hc22])] at k
        exact k
      · skip
        refine XS.ifNo X18.here hx rfl (hb hby at_49) rfl ((if0 _ _).trans (feq hc22).1) ?_
        show Steps p.tables e below (T18.setTop (mkF m 52 #[.val (.int px), .val (.int py), .val (.int ((45 : Int32) + (py &&& (15 : Int32)))), .val (.int v16), .val (.int v20)] [])) _
        refine XS.iconst X18.here hx rfl (hb hby at_52) ?_
        show Steps p.tables e below (T18.setTop (mkF m 53 #[.val (.int px), .val (.int py), .val (.int ((45 : Int32) + (py &&& (15 : Int32)))), .val (.int v16), .val (.int v20)] [(.int (1 : Int32))])) _
        refine XS.goto X18.here hx rfl (pc0 := 53) (pc' := 57) rfl (hb hby at_53) (by decide) (by decide) ?_
        rw [show v23 = (1 : Int32) from hv23.trans (by simp only [if_neg hc21, if_neg hc22])] at k
        exact k
  have hz : v23 = (1 : Int32) := by
    subst_vars
    rw [if_pos (own_eq _), if_pos (own_eq _)]
    decide
  rw [hz]
  obtain ⟨fs, hr, hrun, hended, hW, hsame⟩ := X18.leave (hlocks := BodyLoose.notSynchronized Bd) (v := some (.int (1 : Int32))) (fun h => by rw [Bd.returns] at h; cases h)
  refine ⟨_, _, retOut X18 hx Bd.returns rfl (Or.inl ⟨rfl, Or.inr (Or.inl rfl), _, rfl⟩) (hb hby at_57) hr, hrun, hended, _, _, rfl, ?_, ⟨_, rfl⟩, hW, hsame.mono (by decide) (by decide)⟩
  show own_Q0 h0 n0 _ T18.heap _
  rw [eq18]
  exact ⟨rfl, N18⟩
set_option maxRecDepth 65536 in
set_option maxHeartbeats 40000000 in
theorem comes_1 {Post : Tables → Env → Array Value → State → Outcome → State → Prop} (hpost : ∀ tb e args s v u, (limb_1_1.after args s (.returned v) u = true ∧ limb_1_2.after args s (.returned v) u = true ∧ True) → FrameEnd s (.returned v) u (Jvm.fieldLocs frame_1_writes args s ++ Jvm.arrayLocs frame_1_arrays args s ++ Jvm.staticLocs frame_1_statics s) 0 0 → Post tb e args s (.returned v) u) :
    ArmFor flags0 classFile x code maxLocals ret World_1 tables_1 room_1 Calls_1 rest_1 Pre_1 Post := by
  intro l hfl _ _ p e ha hc hk s m args below hf hA hF happ hP
  obtain ⟨hcalls, hrest, hpre⟩ := hP
  obtain ⟨-, -, -, hnamed, -, -, -, hat⟩ := (Spec.applies_iff hf).mp happ
  obtain ⟨hg, hn⟩ := and_e (Cond.before_iff.mp (show (Jvm.Cond.and given_1 narrow_1).before args s = true from hpre))
  obtain ⟨gg1, gg2⟩ := and_e hg
  obtain ⟨gg3, gg4⟩ := and_e gg2
  obtain ⟨w0, w1, rfl⟩ : ∃ w0 w1 : Value, args = #[w0, w1] := by
    have hs : args.size = 2 := by simpa [Cond.value, given_1] using gg1
    obtain ⟨L⟩ := args
    match L, hs with
    | [w0, w1], _ => exact ⟨w0, w1, rfl⟩
  have hw := fun d (hd : d ∈ tables_1) => atoms_spec (ws := Jvm.Cond.code x code maxLocals ret :: tables_1) hat d (List.mem_cons_of_mem _ hd)
  obtain ⟨i0, ei0⟩ := is_v gg3
  obtain rfl : w0 = (.int i0) := Option.some.inj ei0
  obtain ⟨i1, ei1⟩ := is_v gg4
  obtain rfl : w1 = (.int i1) := Option.some.inj ei1
  obtain ⟨n, o, h1, h2, h3, _, L, rfl, ⟨rfl, N⟩, hq⟩ := rm0 l s _ hw tables_1 i0 i1 s.heap s.heap.size (Nat.le_refl _) p e ha hc hk s m _ below hf ((Spec.applies_iff_loose hf).mp happ).1 ⟨rfl, State.Warmed39.refl s, rfl⟩ trivial
  refine ⟨n, _, h1, h2, h3, hpost _ _ _ _ _ _ ⟨Cond.after_iff.mpr rfl, Cond.after_iff.mpr (eq_i res_at (Term.int_eval (1)) rfl), trivial⟩ ⟨hq.1, hq.2.1, (hq.2.2.sift fun y hy => Or.inr (N y hy)).mono (by decide) (by decide)⟩⟩
theorem main_1_1 : Claimed_1_1 := comes_1 fun _ _ _ _ _ _ h hF => ⟨h.1, hF⟩
theorem main_1_2 : Claimed_1_2 := comes_1 fun _ _ _ _ _ _ h hF => ⟨h.2.1, hF⟩
end Jvm.Pilot.@@N@@
namespace Jvm.Pilot.@@N@@
open Jvm Jvm.ClassFile Sem Op Lib Jvm.Free Jvm.Stand Jvm.Pilot.@@N@@.Jvm.D
/-! MADE BY PROGRAM (witnessworld.py) out of the Statement's table words and the real class files: 9 classes; the members and pool entries that the words name. The judged class is class 1, her method 2. -/
namespace start1
open Jvm.ClassFile
def u (s : String) : CpInfo := .utf8 (stringToUtf16 s)
/-- a pool by its gaps: so many unusable entries, then the entry; so many at the end -/
def gap : Nat → List CpInfo → List CpInfo
  | 0, r => r
  | n + 1, r => .unusable :: gap n r
def poolList (es : List (Nat × CpInfo)) (last : Nat) : List CpInfo := es.foldr (fun e r => gap e.1 (e.2 :: r)) (gap last [])
def pool (es : List (Nat × CpInfo)) (last : Nat) : Array CpInfo := ⟨poolList es last⟩
def fileOf (pool : Array CpInfo) (this : Nat) (attrs : Array Attribute := #[]) (ms : Array MethodInfo := #[]) (fl : Nat := 33) (sup : Nat := 0) (ifs : Array Nat := #[]) (fds : Array FieldInfo := #[]) : ClassFile where
  minorVersion := 0
  majorVersion := 65
  constantPool := pool
  accessFlags := fl
  thisClass := this
  superClass := sup
  interfaces := ifs
  fields := fds
  methods := ms
  attributes := attrs
def plain (name : String) (sup : Option ClassId) : Class where
  name := name
  kind := .ordinary
  loader := none
  accessFlags := 33
  super := sup
  interfaces := #[]
  cf := none
  fields := #[]
  methods := #[]
  instanceTypes := #[]
  staticTypes := #[]
  resolved := #[]
  callSites := []
  init := .initialized
  statics := none
  mirror := none

def pool0 : Array CpInfo := pool [(5, u "<init>"), (0, u "()V"), (1, .class_ 10), (1, u "java/lang/Object")] 113

def k0m0 : Method := { name := "<init>", desc := "()V", sig := { parameters := [], returnType := none }, accessFlags := 1, code := none }
/-- java/lang/Object -/
def k0 : Class := { plain "java/lang/Object" none with
  accessFlags := 33
  interfaces := #[]
  cf := some (fileOf pool0 8 #[] #[{ accessFlags := 1, nameIndex := 5, descriptorIndex := 6, attributes := #[] }] 33 0 #[] #[])
  fields := #[]
  methods := #[k0m0]
  instanceTypes := #[]
  staticTypes := #[]
  resolved := Array.replicate 124 none
  statics := none }

def pool1 : Array CpInfo := pool [(2, .class_ 4), (1, u "java/lang/Object"), (0, u "<init>"), (0, u "()V"), (0, .methodref 8 9), (0, .class_ 10), (0, .nameAndType 11 12), (0, u "com/example/constraint/constraint/keyword/Ascii"), (0, u "isDigit"), (0, u "(I)Z"), (0, .methodref 14 15), (0, .class_ 16), (0, .nameAndType 17 12), (0, u "com/example/constraint/constraint/keyword/AsciiIsDigitPinLaw"), (0, u "ref"), (3, u "law"), (0, u "(II)Z")] 2

def k1m0 : Method := { name := "<init>", desc := "()V", sig := { parameters := [], returnType := none }, accessFlags := 2, code := none }
def k1c1 : Code := { maxStack := 2, maxLocals := 1, code := method_2_code, exceptionTable := #[], attributes := #[] }
def k1m1 : Method := { name := "ref", desc := "(I)Z", sig := { parameters := [.int], returnType := some .boolean }, accessFlags := 10, code := some k1c1 }
def k1c2 : Code := { maxStack := 3, maxLocals := 5, code := code, exceptionTable := #[], attributes := #[] }
def k1m2 : Method := { name := "law", desc := "(II)Z", sig := { parameters := [.int, .int], returnType := some .boolean }, accessFlags := 9, code := some k1c2 }
/-- com/example/constraint/constraint/keyword/AsciiIsDigitPinLaw -/
def k1 : Class := { plain "com/example/constraint/constraint/keyword/AsciiIsDigitPinLaw" (some 0) with
  accessFlags := 49
  interfaces := #[]
  cf := some (fileOf pool1 14 #[] #[{ accessFlags := 2, nameIndex := 5, descriptorIndex := 6, attributes := #[] }, { accessFlags := 10, nameIndex := 17, descriptorIndex := 12, attributes := #[] }, { accessFlags := 9, nameIndex := 21, descriptorIndex := 22, attributes := #[] }] 49 2 #[] #[])
  fields := #[]
  methods := #[k1m0, k1m1, k1m2]
  instanceTypes := #[]
  staticTypes := #[]
  resolved := Array.replicate 25 none
  statics := none }

def pool2 : Array CpInfo := pool [(2, .class_ 4), (1, u "java/lang/Object"), (0, u "<init>"), (0, u "()V"), (1, .class_ 10), (1, u "com/example/constraint/constraint/keyword/Ascii"), (0, u "isDigit"), (0, u "(I)Z")] 45

def k2m0 : Method := { name := "<init>", desc := "()V", sig := { parameters := [], returnType := none }, accessFlags := 2, code := none }
def k2c1 : Code := { maxStack := 2, maxLocals := 1, code := prog_30_method_2_code, exceptionTable := #[], attributes := #[] }
def k2m1 : Method := { name := "isDigit", desc := "(I)Z", sig := { parameters := [.int], returnType := some .boolean }, accessFlags := 8, code := some k2c1 }
/-- com/example/constraint/constraint/keyword/Ascii -/
def k2 : Class := { plain "com/example/constraint/constraint/keyword/Ascii" (some 0) with
  accessFlags := 32
  interfaces := #[]
  cf := some (fileOf pool2 8 #[] #[{ accessFlags := 2, nameIndex := 5, descriptorIndex := 6, attributes := #[] }, { accessFlags := 8, nameIndex := 11, descriptorIndex := 12, attributes := #[] }] 32 2 #[] #[])
  fields := #[]
  methods := #[k2m0, k2m1]
  instanceTypes := #[]
  staticTypes := #[]
  resolved := Array.replicate 58 none
  statics := none }

def pool3 : Array CpInfo := pool [(1, u "java/lang/Cloneable"), (0, .class_ 1), (0, u "java/lang/Object"), (0, .class_ 3)] 3

/-- java/lang/Cloneable -/
def k3 : Class := { plain "java/lang/Cloneable" (some 0) with
  accessFlags := 1537
  interfaces := #[]
  cf := some (fileOf pool3 2 #[] #[] 1537 4 #[] #[])
  fields := #[]
  methods := #[]
  instanceTypes := #[]
  staticTypes := #[]
  resolved := Array.replicate 8 none
  statics := none }

def pool4 : Array CpInfo := pool [(1, u "java/io/Serializable"), (0, .class_ 1), (0, u "java/lang/Object"), (0, .class_ 3)] 3

/-- java/io/Serializable -/
def k4 : Class := { plain "java/io/Serializable" (some 0) with
  accessFlags := 1537
  interfaces := #[]
  cf := some (fileOf pool4 2 #[] #[] 1537 4 #[] #[])
  fields := #[]
  methods := #[]
  instanceTypes := #[]
  staticTypes := #[]
  resolved := Array.replicate 8 none
  statics := none }

/-- the primitive byte -/
def k5 : Class := { plain "byte" none with kind := .primitive 'B', accessFlags := 0x411 }
/-- [B -/
def k6 : Class := { plain "[B" (some 0) with kind := .array 5 .byte, interfaces := #[3, 4], accessFlags := 1041 }

/-- the primitive int -/
def k7 : Class := { plain "int" none with kind := .primitive 'I', accessFlags := 0x411 }
/-- [I -/
def k8 : Class := { plain "[I" (some 0) with kind := .array 7 .int, interfaces := #[3, 4], accessFlags := 1041 }

def heap : Heap := #[]
def classes : Array Class := #[k0, k1, k2, k3, k4, k5, k6, k7, k8]
def interned : List (Array UInt16 × Addr) := []
def slotsUsed : Nat := 0
def theMethod : MethodId := ⟨1, 2⟩
def args0 : Array Value := #[.int 5, .int 7]
def aboutOver (below : List Frame) : State where
  vm := { classes := classes, interned := interned.toArray }
  heap := heap
  slotsUsed := slotsUsed
  threads := #[{ frames := .invoking theMethod args0 :: below }]
def below0 : List Frame := [.native { method := ⟨0, 0⟩, args := #[] }]
def about1 : State := aboutOver below0
def p0 : Program := .bare "" "" ""
def e0 : Env := launch0.env 0 0 0
theorem w_frames : about1.frames = Frame.invoking theMethod args0 :: below0 := rfl
set_option maxRecDepth 65536 in
theorem w_args : argsFit about1.vm theMethod args0 = true := by decide +kernel
set_option maxRecDepth 65536 in
theorem w_heap : heapFits about1 = true := by decide +kernel
set_option maxRecDepth 65536 in
theorem w_runnable : about1.curStatus? = some .runnable := by decide +kernel
set_option maxRecDepth 65536 in
theorem w_alone : about1.alone = true := by decide +kernel
set_option maxRecDepth 65536 in
theorem w_named : about1.methodNamed? x = some theMethod := by decide +kernel
set_option maxRecDepth 65536 in
theorem w_hears : about1.hears theMethod below0 = true := by decide +kernel
set_option maxRecDepth 65536 in
theorem w_ripe : about1.ripe theMethod args0 below0 = true := by decide +kernel
theorem w_running : about1.status = .running := rfl
set_option maxRecDepth 65536 in
theorem w_room : about1.hasRoom e0.platform room_1 = true :=
  launch0.hasRoom_least _ room_1 (by decide +kernel) (by decide +kernel) (by decide +kernel) (by decide +kernel) (by decide +kernel) (by decide +kernel)
theorem allAtoms_all (ts : List Jvm.Cond) (a : Array Jvm.Value) (st : Jvm.State) : (allAtoms ts).before a st = ts.all (fun c => c.before a st) := by
  induction ts with
  | nil => rfl
  | cons c t ih =>
    show (Jvm.Cond.and c (allAtoms t)).before a st = _
    rw [Jvm.Cond.before_and, ih, List.all_cons]
def words1 : List Jvm.Cond := Jvm.Cond.code x code maxLocals ret :: tables_1
/-- a 'code' word, met by the world's own term for the bytes: nothing is compared byte by byte -/
theorem code_word {y : MethodName} {bytes : ByteArray} {mx : Nat} {rt : Option FieldType} {a : Array Value} {s : State} {m : MethodId} {meth : Method} {c : Code} (h1 : s.methodNamed? y = some m) (h2 : s.vm.method? m = some meth) (h3 : meth.code = some c) (h4 : c.code = bytes)
    (h5 : (c.maxLocals == mx && c.exceptionTable.isEmpty && decide (c.maxStack ≤ mostOperands) && decide (meth.sig.returnType = rt) && !meth.locks && decide (parseMethodDescriptor y.desc = some meth.sig)) = true) : (Jvm.Cond.code y bytes mx rt).before a s = true := by
  simp only [Bool.and_eq_true, beq_iff_eq, Bool.not_eq_true', decide_eq_true_eq] at h5
  obtain ⟨⟨⟨⟨⟨g1, g2⟩, g3⟩, g4⟩, g5⟩, g6⟩ := h5
  simp [Cond.before, Cond.holds, Cond.value, h1, h2, h3, h4, g1, g2, g3, g4, g5, g6]
def isCode : Jvm.Cond → Bool
  | .code _ _ _ _ => true
  | _ => false
theorem all_split {L : List Jvm.Cond} {P : Jvm.Cond → Bool} (h1 : L.all (fun c => isCode c || P c) = true) (h2 : ∀ c ∈ L.filter isCode, P c = true) : L.all P = true := by
  refine List.all_eq_true.mpr fun c hc => ?_
  have h := List.all_eq_true.mp h1 c hc
  rcases Bool.eq_false_or_eq_true (isCode c) with hi | hi
  · exact h2 c (List.mem_filter.mpr ⟨hc, hi⟩)
  · simpa [hi] using h
set_option maxRecDepth 65536 in
theorem w_c0 : (Jvm.Cond.code x code maxLocals ret).before args0 about1 = true := code_word (m := ⟨1, 2⟩) (meth := k1m2) (c := k1c2) (by decide +kernel) rfl rfl rfl (by decide +kernel)
set_option maxRecDepth 65536 in
theorem w_c1 : (Jvm.Cond.code ({ cls := "com/example/constraint/constraint/keyword/Ascii", name := "isDigit", desc := "(I)Z" } : Jvm.MethodName) prog_30_method_2_code (1 : Nat) (Option.some Jvm.ClassFile.FieldType.boolean)).before args0 about1 = true := code_word (m := ⟨2, 1⟩) (meth := k2m1) (c := k2c1) (by decide +kernel) rfl rfl rfl (by decide +kernel)
set_option maxRecDepth 65536 in
theorem w_c2 : (Jvm.Cond.code ({ cls := "com/example/constraint/constraint/keyword/AsciiIsDigitPinLaw", name := "ref", desc := "(I)Z" } : Jvm.MethodName) method_2_code (1 : Nat) (Option.some Jvm.ClassFile.FieldType.boolean)).before args0 about1 = true := code_word (m := ⟨1, 1⟩) (meth := k1m1) (c := k1c1) (by decide +kernel) rfl rfl rfl (by decide +kernel)
def codes1 : List Jvm.Cond := [Jvm.Cond.code x code maxLocals ret, Jvm.Cond.code ({ cls := "com/example/constraint/constraint/keyword/Ascii", name := "isDigit", desc := "(I)Z" } : Jvm.MethodName) prog_30_method_2_code (1 : Nat) (Option.some Jvm.ClassFile.FieldType.boolean), Jvm.Cond.code ({ cls := "com/example/constraint/constraint/keyword/AsciiIsDigitPinLaw", name := "ref", desc := "(I)Z" } : Jvm.MethodName) method_2_code (1 : Nat) (Option.some Jvm.ClassFile.FieldType.boolean)]
set_option maxRecDepth 65536 in
theorem codes_eq : words1.filter isCode = codes1 := rfl
theorem w_codes : ∀ c ∈ words1.filter isCode, c.before args0 about1 = true := by
  rw [codes_eq]
  intro c hc
  simp only [codes1, List.mem_cons, List.not_mem_nil, or_false] at hc
  rcases hc with rfl | rfl | rfl
  · exact w_c0
  · exact w_c1
  · exact w_c2
set_option maxRecDepth 65536 in
theorem w_t1 : words1.all (fun c => isCode c || c.before args0 about1) = true := by decide +kernel
theorem w_tables : (allAtoms (Jvm.Cond.code x code maxLocals ret :: tables_1)).before args0 about1 = true := by
  rw [allAtoms_all]
  show words1.all (fun c => c.before args0 about1) = true
  refine all_split ?_ w_codes
  rw [w_t1]
set_option maxRecDepth 65536 in
theorem w_case : (Jvm.Cond.and given_1 narrow_1).before args0 about1 = true := by decide +kernel
theorem w_applies : (headSpec (Jvm.Cond.code x code maxLocals ret :: tables_1) room_1).applies x e0.platform about1 = true :=
  (Spec.applies_iff w_frames).mpr ⟨w_running, w_runnable, w_alone, w_named, w_hears, w_ripe, w_room, w_tables⟩
theorem atStart : AtStart classFile x code maxLocals ret World_1 tables_1 room_1 Calls_1 rest_1 Pre_1 launch0 p0 e0 about1 theMethod args0 below0 :=
  ⟨lists_1, trivial, launch0.admits_env _ _ _, launch0.least_env, fairChoices_fair.cas, fairChoices_fair.clock, w_frames, w_args, w_heap, w_applies, trivial, trivial, w_case⟩
end start1
theorem witness_1 : WitnessClaimed_1 := ⟨start1.p0, start1.e0, start1.about1, start1.theMethod, start1.args0, start1.below0, start1.atStart⟩
end Jvm.Pilot.@@N@@
