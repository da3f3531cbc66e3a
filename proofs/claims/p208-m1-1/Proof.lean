import JvmDerived
import JvmDerived.Pilot.@@N@@Statement
import JvmDerived.Pilot.@@N@@Code
set_option linter.unusedVariables false
set_option linter.unusedSimpArgs false

namespace Jvm.Pilot.@@N@@
open Jvm Jvm.ClassFile Sem Op Lib Jvm.Free Jvm.Stand Jvm.LawKit Jvm.RoadKit Bundle Jvm.Pilot.@@N@@.Jvm.D
theorem own_pre {tb : Tables} {e : Env} {below : List Frame} {A B : State} {C : State → Outcome → Prop} (k : ∀ t, Steps tb e below A t → Steps tb e below B t) (h : ∃ s₂ o, Steps tb e below A s₂ ∧ C s₂ o) : ∃ s₂ o, Steps tb e below B s₂ ∧ C s₂ o := by
  obtain ⟨s2, o, h1, h2⟩ := h
  exact ⟨s2, o, k _ h1, h2⟩
theorem own_lrem {p : Program} {l : Launch} {e : Env} {R : Room} {s : State} {m : MethodId} {args : Array Value} {below : List Frame} {meth : Method} {c : Code} {T : State} {locs : List Loc} {cells slots : Nat} {g : JFrame} {target : State} (X : Stand p l e R s m args below meth c T locs cells slots) (hx : p.tables.exec = Jvm.exec) (hg : g.method = m) {x y : Int64} {rest : List Value} (hd : decode c.code g.pc = .ok (.lrem, 1)) (hs : g.stack = .long y :: .long x :: rest) (hy : y ≠ 0)
    (hr : Steps p.tables e below (T.setTop { g with pc := g.pc + 1, stack := .long (x % y) :: rest }) target) : Steps p.tables e below (T.setTop g) target :=
  XS.lrem X.here hx hg hd hs hy (by rw [lrem_mod]; exact hr)
theorem own_w {wl : List Jvm.Cond} {a0 : Array Value} {Z : State} (h : ∀ d ∈ wl, d.before a0 Z = true) (i : Nat) {d : Jvm.Cond} (g : wl[i]? = some d) : d.before a0 Z = true := h d (List.mem_of_getElem? g)

theorem own_pd0 : parseMethodDescriptor "(I)Z" = some ⟨[.int], some .boolean⟩ := by decide +kernel
theorem d1_0 : decode prog_30_method_4_code 0 = .ok (.iload_n 0, 1) := by decide +kernel
theorem d1_1 : decode prog_30_method_4_code 1 = .ok (.bipush 97, 2) := by decide +kernel
theorem d1_3 : decode prog_30_method_4_code 3 = .ok (.if_icmp .lt 9, 3) := by decide +kernel
theorem d1_6 : decode prog_30_method_4_code 6 = .ok (.iload_n 0, 1) := by decide +kernel
theorem d1_7 : decode prog_30_method_4_code 7 = .ok (.bipush 122, 2) := by decide +kernel
theorem d1_9 : decode prog_30_method_4_code 9 = .ok (.if_icmp .le 15, 3) := by decide +kernel
theorem d1_12 : decode prog_30_method_4_code 12 = .ok (.iload_n 0, 1) := by decide +kernel
theorem d1_13 : decode prog_30_method_4_code 13 = .ok (.bipush 65, 2) := by decide +kernel
theorem d1_15 : decode prog_30_method_4_code 15 = .ok (.if_icmp .lt 13, 3) := by decide +kernel
theorem d1_18 : decode prog_30_method_4_code 18 = .ok (.iload_n 0, 1) := by decide +kernel
theorem d1_19 : decode prog_30_method_4_code 19 = .ok (.bipush 90, 2) := by decide +kernel
theorem d1_21 : decode prog_30_method_4_code 21 = .ok (.if_icmp .gt 7, 3) := by decide +kernel
theorem d1_24 : decode prog_30_method_4_code 24 = .ok (.iconst 1, 1) := by decide +kernel
theorem d1_25 : decode prog_30_method_4_code 25 = .ok (.goto 4, 3) := by decide +kernel
theorem d1_28 : decode prog_30_method_4_code 28 = .ok (.iconst 0, 1) := by decide +kernel
theorem d1_29 : decode prog_30_method_4_code 29 = .ok (.ireturn, 1) := by decide +kernel
theorem own_pn1 : plainName "com/example/constraint/constraint/keyword/Ascii" = true := by first | (simp [plainName, overriddenIn]; done) | decide +kernel
theorem own_ef1 (m : MethodId) (x0 : Int32) : entryFrame m #[(.int x0)] 1 = mkF m 0 #[.val (.int x0)] [] := by first | (simp [entryFrame, mkF, argsToLocals, Value.category]; done) | rfl
def own_isL (px : Int32) : Int32 := (if px < (97 : Int32) then (if px < (65 : Int32) then (0 : Int32) else (if (90 : Int32) < px then (0 : Int32) else (1 : Int32))) else (if (122 : Int32) < px then (if px < (65 : Int32) then (0 : Int32) else (if (90 : Int32) < px then (0 : Int32) else (1 : Int32))) else (1 : Int32)))
def own_Q1 (px : Int32) (h0 : Heap) (n0 : Nat) (v : Option Value) (h : Heap) (L : List Loc) : Prop := v = some (.int (own_isL px)) ∧ Fr n0 L ∧ h = h0
set_option maxRecDepth 65536 in
set_option maxHeartbeats 40000000 in
theorem rm1 (l : Launch) (Z : State) (a0 : Array Value) (hw : ∀ d ∈ tables_1, d.before a0 Z = true) (ws : List Jvm.Cond) (px : Int32) (h0 : Heap) (n0 : Nat) (Z0 : n0 ≤ h0.size) :
    MetFree l (⟨"com/example/constraint/constraint/keyword/Ascii", "isLetter", "(I)Z"⟩ : MethodName) (head1 (Jvm.Cond.code (⟨"com/example/constraint/constraint/keyword/Ascii", "isLetter", "(I)Z"⟩ : MethodName) prog_30_method_4_code 1 (some .boolean) :: ws) ({ frames := 0, cells := 0, slots := 0, locals := 0 } : Room)) (fun a U => a = #[(.int px)] ∧ Z.Warmed39 U.vm ∧ U.heap = h0) (fun _ _ _ _ _ => True) (fun _ U o U' => ∃ v L, o = .returned v ∧ own_Q1 px h0 n0 v U'.heap L ∧ FrameEnd U o U' L ({ frames := 0, cells := 0, slots := 0, locals := 0 } : Room).cells ({ frames := 0, cells := 0, slots := 0, locals := 0 } : Room).slots) := by
  refine MetFree.of_bodySF (plainFor_of_name own_pn1) hisR ?_
  intro p e s m args below meth c s₁ Bd hml0 hP hK
  obtain ⟨rfl, hZ, hh⟩ := hP
  have hx := Bd.exec
  have hby := Bd.bytes
  have hml : c.maxLocals = 1 := hml0
  have hown : s.vm.findClass "com/example/constraint/constraint/keyword/Ascii" = some m.cls := findClass_of_methodNamed Bd.named
  have hnm := (name_of_methodNamed Bd.named Bd.method).1
  have X0 : Stand p l e ({ frames := 0, cells := 0, slots := 0, locals := 0 } : Room) s m #[(.int px)] below meth c s₁ [] 0 0 := Stand.of_body Bd
  have e0 : s₁.heap = h0 := by rw [← hh, Bd.state]; rfl
  have N0 := Fr.nil n0
  refine own_pre (A := (s₁.setTop (mkF m 0 #[.val (.int px)] []))) (fun t k => castTop (own_ef1 m px) k) ?_
  refine own_pre (A := (s₁.setTop (mkF m 3 #[.val (.int px)] [(.int (97 : Int32)), (.int px)]))) ?_ ?_
  · intro t k
    show Steps p.tables e below (s₁.setTop (mkF m 0 #[.val (.int px)] [])) _
    refine XS.iloadN X0.here hx rfl (hb hby d1_0) rfl ?_
    show Steps p.tables e below (s₁.setTop (mkF m 1 #[.val (.int px)] [(.int px)])) _
    refine XS.bipush X0.here hx rfl (hb hby d1_1) ?_
    exact k
  by_cases hc1 : px < (97 : Int32)
  · skip
    refine own_pre (A := (s₁.setTop (mkF m 12 #[.val (.int px)] []))) ?_ ?_
    · intro t k
      refine XS.icmpYes X0.here hx rfl (pc0 := 3) (pc' := 12) rfl (hb hby d1_3) rfl (tlt hc1).1 (by decide) (by decide) ?_
      exact k
    refine own_pre (A := (s₁.setTop (mkF m 15 #[.val (.int px)] [(.int (65 : Int32)), (.int px)]))) ?_ ?_
    · intro t k
      show Steps p.tables e below (s₁.setTop (mkF m 12 #[.val (.int px)] [])) _
      refine XS.iloadN X0.here hx rfl (hb hby d1_12) rfl ?_
      show Steps p.tables e below (s₁.setTop (mkF m 13 #[.val (.int px)] [(.int px)])) _
      refine XS.bipush X0.here hx rfl (hb hby d1_13) ?_
      exact k
    by_cases hc2 : px < (65 : Int32)
    · skip
      refine own_pre (A := (s₁.setTop (mkF m 28 #[.val (.int px)] []))) ?_ ?_
      · intro t k
        refine XS.icmpYes X0.here hx rfl (pc0 := 15) (pc' := 28) rfl (hb hby d1_15) rfl (tlt hc2).1 (by decide) (by decide) ?_
        exact k
      refine own_pre (A := (s₁.setTop (mkF m 29 #[.val (.int px)] [(.int (0 : Int32))]))) ?_ ?_
      · intro t k
        show Steps p.tables e below (s₁.setTop (mkF m 28 #[.val (.int px)] [])) _
        refine XS.iconst X0.here hx rfl (hb hby d1_28) ?_
        exact k
      have hz : own_isL px = (0 : Int32) := by simp only [own_isL, if_pos hc1, if_pos hc2]
      obtain ⟨fs, hr, hrun, hended, hW, hsame⟩ := X0.leave (v := some (.int (0 : Int32))) (fun h => by rw [Bd.returns] at h; cases h)
      refine ⟨_, _, retOut X0 hx Bd.returns rfl (Or.inl ⟨rfl, Or.inr (Or.inl rfl), _, rfl⟩) (hb hby d1_29) hr, hrun, hended, _, _, rfl, ?_, ⟨_, rfl⟩, hW, hsame.mono (by decide) (by decide)⟩
      show own_Q1 px h0 n0 _ s₁.heap _
      rw [e0]
      exact ⟨by rw [hz], N0, rfl⟩
    · skip
      refine own_pre (A := (s₁.setTop (mkF m 18 #[.val (.int px)] []))) ?_ ?_
      · intro t k
        refine XS.icmpNo X0.here hx rfl (hb hby d1_15) rfl (flt hc2).1 ?_
        exact k
      refine own_pre (A := (s₁.setTop (mkF m 21 #[.val (.int px)] [(.int (90 : Int32)), (.int px)]))) ?_ ?_
      · intro t k
        show Steps p.tables e below (s₁.setTop (mkF m 18 #[.val (.int px)] [])) _
        refine XS.iloadN X0.here hx rfl (hb hby d1_18) rfl ?_
        show Steps p.tables e below (s₁.setTop (mkF m 19 #[.val (.int px)] [(.int px)])) _
        refine XS.bipush X0.here hx rfl (hb hby d1_19) ?_
        exact k
      by_cases hc3 : (90 : Int32) < px
      · skip
        refine own_pre (A := (s₁.setTop (mkF m 28 #[.val (.int px)] []))) ?_ ?_
        · intro t k
          refine XS.icmpYes X0.here hx rfl (pc0 := 21) (pc' := 28) rfl (hb hby d1_21) rfl (tlt hc3).2.2.1 (by decide) (by decide) ?_
          exact k
        refine own_pre (A := (s₁.setTop (mkF m 29 #[.val (.int px)] [(.int (0 : Int32))]))) ?_ ?_
        · intro t k
          show Steps p.tables e below (s₁.setTop (mkF m 28 #[.val (.int px)] [])) _
          refine XS.iconst X0.here hx rfl (hb hby d1_28) ?_
          exact k
        have hz : own_isL px = (0 : Int32) := by simp only [own_isL, if_pos hc1, if_neg hc2, if_pos hc3]
        obtain ⟨fs, hr, hrun, hended, hW, hsame⟩ := X0.leave (v := some (.int (0 : Int32))) (fun h => by rw [Bd.returns] at h; cases h)
        refine ⟨_, _, retOut X0 hx Bd.returns rfl (Or.inl ⟨rfl, Or.inr (Or.inl rfl), _, rfl⟩) (hb hby d1_29) hr, hrun, hended, _, _, rfl, ?_, ⟨_, rfl⟩, hW, hsame.mono (by decide) (by decide)⟩
        show own_Q1 px h0 n0 _ s₁.heap _
        rw [e0]
        exact ⟨by rw [hz], N0, rfl⟩
      · skip
        refine own_pre (A := (s₁.setTop (mkF m 24 #[.val (.int px)] []))) ?_ ?_
        · intro t k
          refine XS.icmpNo X0.here hx rfl (hb hby d1_21) rfl (flt hc3).2.2.1 ?_
          exact k
        refine own_pre (A := (s₁.setTop (mkF m 29 #[.val (.int px)] [(.int (1 : Int32))]))) ?_ ?_
        · intro t k
          show Steps p.tables e below (s₁.setTop (mkF m 24 #[.val (.int px)] [])) _
          refine XS.iconst X0.here hx rfl (hb hby d1_24) ?_
          show Steps p.tables e below (s₁.setTop (mkF m 25 #[.val (.int px)] [(.int (1 : Int32))])) _
          refine XS.goto X0.here hx rfl (pc0 := 25) (pc' := 29) rfl (hb hby d1_25) (by decide) (by decide) ?_
          exact k
        have hz : own_isL px = (1 : Int32) := by simp only [own_isL, if_pos hc1, if_neg hc2, if_neg hc3]
        obtain ⟨fs, hr, hrun, hended, hW, hsame⟩ := X0.leave (v := some (.int (1 : Int32))) (fun h => by rw [Bd.returns] at h; cases h)
        refine ⟨_, _, retOut X0 hx Bd.returns rfl (Or.inl ⟨rfl, Or.inr (Or.inl rfl), _, rfl⟩) (hb hby d1_29) hr, hrun, hended, _, _, rfl, ?_, ⟨_, rfl⟩, hW, hsame.mono (by decide) (by decide)⟩
        show own_Q1 px h0 n0 _ s₁.heap _
        rw [e0]
        exact ⟨by rw [hz], N0, rfl⟩
  · skip
    refine own_pre (A := (s₁.setTop (mkF m 6 #[.val (.int px)] []))) ?_ ?_
    · intro t k
      refine XS.icmpNo X0.here hx rfl (hb hby d1_3) rfl (flt hc1).1 ?_
      exact k
    refine own_pre (A := (s₁.setTop (mkF m 9 #[.val (.int px)] [(.int (122 : Int32)), (.int px)]))) ?_ ?_
    · intro t k
      show Steps p.tables e below (s₁.setTop (mkF m 6 #[.val (.int px)] [])) _
      refine XS.iloadN X0.here hx rfl (hb hby d1_6) rfl ?_
      show Steps p.tables e below (s₁.setTop (mkF m 7 #[.val (.int px)] [(.int px)])) _
      refine XS.bipush X0.here hx rfl (hb hby d1_7) ?_
      exact k
    by_cases hc4 : (122 : Int32) < px
    · skip
      refine own_pre (A := (s₁.setTop (mkF m 12 #[.val (.int px)] []))) ?_ ?_
      · intro t k
        refine XS.icmpNo X0.here hx rfl (hb hby d1_9) rfl (tlt hc4).2.2.2 ?_
        exact k
      refine own_pre (A := (s₁.setTop (mkF m 15 #[.val (.int px)] [(.int (65 : Int32)), (.int px)]))) ?_ ?_
      · intro t k
        show Steps p.tables e below (s₁.setTop (mkF m 12 #[.val (.int px)] [])) _
        refine XS.iloadN X0.here hx rfl (hb hby d1_12) rfl ?_
        show Steps p.tables e below (s₁.setTop (mkF m 13 #[.val (.int px)] [(.int px)])) _
        refine XS.bipush X0.here hx rfl (hb hby d1_13) ?_
        exact k
      by_cases hc5 : px < (65 : Int32)
      · skip
        refine own_pre (A := (s₁.setTop (mkF m 28 #[.val (.int px)] []))) ?_ ?_
        · intro t k
          refine XS.icmpYes X0.here hx rfl (pc0 := 15) (pc' := 28) rfl (hb hby d1_15) rfl (tlt hc5).1 (by decide) (by decide) ?_
          exact k
        refine own_pre (A := (s₁.setTop (mkF m 29 #[.val (.int px)] [(.int (0 : Int32))]))) ?_ ?_
        · intro t k
          show Steps p.tables e below (s₁.setTop (mkF m 28 #[.val (.int px)] [])) _
          refine XS.iconst X0.here hx rfl (hb hby d1_28) ?_
          exact k
        have hz : own_isL px = (0 : Int32) := by simp only [own_isL, if_neg hc1, if_pos hc4, if_pos hc5]
        obtain ⟨fs, hr, hrun, hended, hW, hsame⟩ := X0.leave (v := some (.int (0 : Int32))) (fun h => by rw [Bd.returns] at h; cases h)
        refine ⟨_, _, retOut X0 hx Bd.returns rfl (Or.inl ⟨rfl, Or.inr (Or.inl rfl), _, rfl⟩) (hb hby d1_29) hr, hrun, hended, _, _, rfl, ?_, ⟨_, rfl⟩, hW, hsame.mono (by decide) (by decide)⟩
        show own_Q1 px h0 n0 _ s₁.heap _
        rw [e0]
        exact ⟨by rw [hz], N0, rfl⟩
      · skip
        refine own_pre (A := (s₁.setTop (mkF m 18 #[.val (.int px)] []))) ?_ ?_
        · intro t k
          refine XS.icmpNo X0.here hx rfl (hb hby d1_15) rfl (flt hc5).1 ?_
          exact k
        refine own_pre (A := (s₁.setTop (mkF m 21 #[.val (.int px)] [(.int (90 : Int32)), (.int px)]))) ?_ ?_
        · intro t k
          show Steps p.tables e below (s₁.setTop (mkF m 18 #[.val (.int px)] [])) _
          refine XS.iloadN X0.here hx rfl (hb hby d1_18) rfl ?_
          show Steps p.tables e below (s₁.setTop (mkF m 19 #[.val (.int px)] [(.int px)])) _
          refine XS.bipush X0.here hx rfl (hb hby d1_19) ?_
          exact k
        by_cases hc6 : (90 : Int32) < px
        · skip
          refine own_pre (A := (s₁.setTop (mkF m 28 #[.val (.int px)] []))) ?_ ?_
          · intro t k
            refine XS.icmpYes X0.here hx rfl (pc0 := 21) (pc' := 28) rfl (hb hby d1_21) rfl (tlt hc6).2.2.1 (by decide) (by decide) ?_
            exact k
          refine own_pre (A := (s₁.setTop (mkF m 29 #[.val (.int px)] [(.int (0 : Int32))]))) ?_ ?_
          · intro t k
            show Steps p.tables e below (s₁.setTop (mkF m 28 #[.val (.int px)] [])) _
            refine XS.iconst X0.here hx rfl (hb hby d1_28) ?_
            exact k
          have hz : own_isL px = (0 : Int32) := by simp only [own_isL, if_neg hc1, if_pos hc4, if_neg hc5, if_pos hc6]
          obtain ⟨fs, hr, hrun, hended, hW, hsame⟩ := X0.leave (v := some (.int (0 : Int32))) (fun h => by rw [Bd.returns] at h; cases h)
          refine ⟨_, _, retOut X0 hx Bd.returns rfl (Or.inl ⟨rfl, Or.inr (Or.inl rfl), _, rfl⟩) (hb hby d1_29) hr, hrun, hended, _, _, rfl, ?_, ⟨_, rfl⟩, hW, hsame.mono (by decide) (by decide)⟩
          show own_Q1 px h0 n0 _ s₁.heap _
          rw [e0]
          exact ⟨by rw [hz], N0, rfl⟩
        · skip
          refine own_pre (A := (s₁.setTop (mkF m 24 #[.val (.int px)] []))) ?_ ?_
          · intro t k
            refine XS.icmpNo X0.here hx rfl (hb hby d1_21) rfl (flt hc6).2.2.1 ?_
            exact k
          refine own_pre (A := (s₁.setTop (mkF m 29 #[.val (.int px)] [(.int (1 : Int32))]))) ?_ ?_
          · intro t k
            show Steps p.tables e below (s₁.setTop (mkF m 24 #[.val (.int px)] [])) _
            refine XS.iconst X0.here hx rfl (hb hby d1_24) ?_
            show Steps p.tables e below (s₁.setTop (mkF m 25 #[.val (.int px)] [(.int (1 : Int32))])) _
            refine XS.goto X0.here hx rfl (pc0 := 25) (pc' := 29) rfl (hb hby d1_25) (by decide) (by decide) ?_
            exact k
          have hz : own_isL px = (1 : Int32) := by simp only [own_isL, if_neg hc1, if_pos hc4, if_neg hc5, if_neg hc6]
          obtain ⟨fs, hr, hrun, hended, hW, hsame⟩ := X0.leave (v := some (.int (1 : Int32))) (fun h => by rw [Bd.returns] at h; cases h)
          refine ⟨_, _, retOut X0 hx Bd.returns rfl (Or.inl ⟨rfl, Or.inr (Or.inl rfl), _, rfl⟩) (hb hby d1_29) hr, hrun, hended, _, _, rfl, ?_, ⟨_, rfl⟩, hW, hsame.mono (by decide) (by decide)⟩
          show own_Q1 px h0 n0 _ s₁.heap _
          rw [e0]
          exact ⟨by rw [hz], N0, rfl⟩
    · skip
      refine own_pre (A := (s₁.setTop (mkF m 24 #[.val (.int px)] []))) ?_ ?_
      · intro t k
        refine XS.icmpYes X0.here hx rfl (pc0 := 9) (pc' := 24) rfl (hb hby d1_9) rfl (flt hc4).2.2.2 (by decide) (by decide) ?_
        exact k
      refine own_pre (A := (s₁.setTop (mkF m 29 #[.val (.int px)] [(.int (1 : Int32))]))) ?_ ?_
      · intro t k
        show Steps p.tables e below (s₁.setTop (mkF m 24 #[.val (.int px)] [])) _
        refine XS.iconst X0.here hx rfl (hb hby d1_24) ?_
        show Steps p.tables e below (s₁.setTop (mkF m 25 #[.val (.int px)] [(.int (1 : Int32))])) _
        refine XS.goto X0.here hx rfl (pc0 := 25) (pc' := 29) rfl (hb hby d1_25) (by decide) (by decide) ?_
        exact k
      have hz : own_isL px = (1 : Int32) := by simp only [own_isL, if_neg hc1, if_neg hc4]
      obtain ⟨fs, hr, hrun, hended, hW, hsame⟩ := X0.leave (v := some (.int (1 : Int32))) (fun h => by rw [Bd.returns] at h; cases h)
      refine ⟨_, _, retOut X0 hx Bd.returns rfl (Or.inl ⟨rfl, Or.inr (Or.inl rfl), _, rfl⟩) (hb hby d1_29) hr, hrun, hended, _, _, rfl, ?_, ⟨_, rfl⟩, hW, hsame.mono (by decide) (by decide)⟩
      show own_Q1 px h0 n0 _ s₁.heap _
      rw [e0]
      exact ⟨by rw [hz], N0, rfl⟩
theorem d2_0 : decode method_2_code 0 = .ok (.iload_n 0, 1) := by decide +kernel
theorem d2_1 : decode method_2_code 1 = .ok (.bipush 32, 2) := by decide +kernel
theorem d2_3 : decode method_2_code 3 = .ok (.ior, 1) := by decide +kernel
theorem d2_4 : decode method_2_code 4 = .ok (.istore_n 1, 1) := by decide +kernel
theorem d2_5 : decode method_2_code 5 = .ok (.iload_n 1, 1) := by decide +kernel
theorem d2_6 : decode method_2_code 6 = .ok (.bipush 97, 2) := by decide +kernel
theorem d2_8 : decode method_2_code 8 = .ok (.if_icmp .lt 13, 3) := by decide +kernel
theorem d2_11 : decode method_2_code 11 = .ok (.iload_n 1, 1) := by decide +kernel
theorem d2_12 : decode method_2_code 12 = .ok (.bipush 122, 2) := by decide +kernel
theorem d2_14 : decode method_2_code 14 = .ok (.if_icmp .gt 7, 3) := by decide +kernel
theorem d2_17 : decode method_2_code 17 = .ok (.iconst 1, 1) := by decide +kernel
theorem d2_18 : decode method_2_code 18 = .ok (.goto 4, 3) := by decide +kernel
theorem d2_21 : decode method_2_code 21 = .ok (.iconst 0, 1) := by decide +kernel
theorem d2_22 : decode method_2_code 22 = .ok (.ireturn, 1) := by decide +kernel
theorem own_pn2 : plainName "com/example/constraint/constraint/keyword/AsciiIsLetterPinLaw" = true := by first | (simp [plainName, overriddenIn]; done) | decide +kernel
theorem own_ef2 (m : MethodId) (x0 : Int32) : entryFrame m #[(.int x0)] 2 = mkF m 0 #[.val (.int x0), .unset] [] := by first | (simp [entryFrame, mkF, argsToLocals, Value.category]; done) | rfl
def own_ref (px : Int32) : Int32 := (if (px ||| (32 : Int32)) < (97 : Int32) then (0 : Int32) else (if (122 : Int32) < (px ||| (32 : Int32)) then (0 : Int32) else (1 : Int32)))
def own_Q2 (px : Int32) (h0 : Heap) (n0 : Nat) (v : Option Value) (h : Heap) (L : List Loc) : Prop := v = some (.int (own_ref px)) ∧ Fr n0 L ∧ h = h0
set_option maxRecDepth 65536 in
set_option maxHeartbeats 40000000 in
theorem rm2 (l : Launch) (Z : State) (a0 : Array Value) (hw : ∀ d ∈ tables_1, d.before a0 Z = true) (ws : List Jvm.Cond) (px : Int32) (h0 : Heap) (n0 : Nat) (Z0 : n0 ≤ h0.size) :
    MetFree l (⟨"com/example/constraint/constraint/keyword/AsciiIsLetterPinLaw", "reference", "(I)Z"⟩ : MethodName) (head1 (Jvm.Cond.code (⟨"com/example/constraint/constraint/keyword/AsciiIsLetterPinLaw", "reference", "(I)Z"⟩ : MethodName) method_2_code 2 (some .boolean) :: ws) ({ frames := 0, cells := 0, slots := 0, locals := 0 } : Room)) (fun a U => a = #[(.int px)] ∧ Z.Warmed39 U.vm ∧ U.heap = h0) (fun _ _ _ _ _ => True) (fun _ U o U' => ∃ v L, o = .returned v ∧ own_Q2 px h0 n0 v U'.heap L ∧ FrameEnd U o U' L ({ frames := 0, cells := 0, slots := 0, locals := 0 } : Room).cells ({ frames := 0, cells := 0, slots := 0, locals := 0 } : Room).slots) := by
  refine MetFree.of_bodySF (plainFor_of_name own_pn2) hisR ?_
  intro p e s m args below meth c s₁ Bd hml0 hP hK
  obtain ⟨rfl, hZ, hh⟩ := hP
  have hx := Bd.exec
  have hby := Bd.bytes
  have hml : c.maxLocals = 2 := hml0
  have hown : s.vm.findClass "com/example/constraint/constraint/keyword/AsciiIsLetterPinLaw" = some m.cls := findClass_of_methodNamed Bd.named
  have hnm := (name_of_methodNamed Bd.named Bd.method).1
  have X0 : Stand p l e ({ frames := 0, cells := 0, slots := 0, locals := 0 } : Room) s m #[(.int px)] below meth c s₁ [] 0 0 := Stand.of_body Bd
  have e0 : s₁.heap = h0 := by rw [← hh, Bd.state]; rfl
  have N0 := Fr.nil n0
  refine own_pre (A := (s₁.setTop (mkF m 0 #[.val (.int px), .unset] []))) (fun t k => castTop (own_ef2 m px) k) ?_
  refine own_pre (A := (s₁.setTop (mkF m 8 #[.val (.int px), .val (.int (px ||| (32 : Int32)))] [(.int (97 : Int32)), (.int (px ||| (32 : Int32)))]))) ?_ ?_
  · intro t k
    show Steps p.tables e below (s₁.setTop (mkF m 0 #[.val (.int px), .unset] [])) _
    refine XS.iloadN X0.here hx rfl (hb hby d2_0) rfl ?_
    show Steps p.tables e below (s₁.setTop (mkF m 1 #[.val (.int px), .unset] [(.int px)])) _
    refine XS.bipush X0.here hx rfl (hb hby d2_1) ?_
    show Steps p.tables e below (s₁.setTop (mkF m 3 #[.val (.int px), .unset] [(.int (32 : Int32)), (.int px)])) _
    refine XS.ior X0.here hx rfl (hb hby d2_3) rfl ?_
    show Steps p.tables e below (s₁.setTop (mkF m 4 #[.val (.int px), .unset] [(.int (px ||| (32 : Int32)))])) _
    refine XS.istoreN X0.here hx rfl (hb hby d2_4) rfl (l' := #[.val (.int px), .val (.int (px ||| (32 : Int32)))]) rfl ?_
    show Steps p.tables e below (s₁.setTop (mkF m 5 #[.val (.int px), .val (.int (px ||| (32 : Int32)))] [])) _
    refine XS.iloadN X0.here hx rfl (hb hby d2_5) rfl ?_
    show Steps p.tables e below (s₁.setTop (mkF m 6 #[.val (.int px), .val (.int (px ||| (32 : Int32)))] [(.int (px ||| (32 : Int32)))])) _
    refine XS.bipush X0.here hx rfl (hb hby d2_6) ?_
    exact k
  by_cases hc7 : (px ||| (32 : Int32)) < (97 : Int32)
  · skip
    refine own_pre (A := (s₁.setTop (mkF m 21 #[.val (.int px), .val (.int (px ||| (32 : Int32)))] []))) ?_ ?_
    · intro t k
      refine XS.icmpYes X0.here hx rfl (pc0 := 8) (pc' := 21) rfl (hb hby d2_8) rfl (tlt hc7).1 (by decide) (by decide) ?_
      exact k
    refine own_pre (A := (s₁.setTop (mkF m 22 #[.val (.int px), .val (.int (px ||| (32 : Int32)))] [(.int (0 : Int32))]))) ?_ ?_
    · intro t k
      show Steps p.tables e below (s₁.setTop (mkF m 21 #[.val (.int px), .val (.int (px ||| (32 : Int32)))] [])) _
      refine XS.iconst X0.here hx rfl (hb hby d2_21) ?_
      exact k
    have hz : own_ref px = (0 : Int32) := by simp only [own_ref, if_pos hc7]
    obtain ⟨fs, hr, hrun, hended, hW, hsame⟩ := X0.leave (v := some (.int (0 : Int32))) (fun h => by rw [Bd.returns] at h; cases h)
    refine ⟨_, _, retOut X0 hx Bd.returns rfl (Or.inl ⟨rfl, Or.inr (Or.inl rfl), _, rfl⟩) (hb hby d2_22) hr, hrun, hended, _, _, rfl, ?_, ⟨_, rfl⟩, hW, hsame.mono (by decide) (by decide)⟩
    show own_Q2 px h0 n0 _ s₁.heap _
    rw [e0]
    exact ⟨by rw [hz], N0, rfl⟩
  · skip
    refine own_pre (A := (s₁.setTop (mkF m 11 #[.val (.int px), .val (.int (px ||| (32 : Int32)))] []))) ?_ ?_
    · intro t k
      refine XS.icmpNo X0.here hx rfl (hb hby d2_8) rfl (flt hc7).1 ?_
      exact k
    refine own_pre (A := (s₁.setTop (mkF m 14 #[.val (.int px), .val (.int (px ||| (32 : Int32)))] [(.int (122 : Int32)), (.int (px ||| (32 : Int32)))]))) ?_ ?_
    · intro t k
      show Steps p.tables e below (s₁.setTop (mkF m 11 #[.val (.int px), .val (.int (px ||| (32 : Int32)))] [])) _
      refine XS.iloadN X0.here hx rfl (hb hby d2_11) rfl ?_
      show Steps p.tables e below (s₁.setTop (mkF m 12 #[.val (.int px), .val (.int (px ||| (32 : Int32)))] [(.int (px ||| (32 : Int32)))])) _
      refine XS.bipush X0.here hx rfl (hb hby d2_12) ?_
      exact k
    by_cases hc8 : (122 : Int32) < (px ||| (32 : Int32))
    · skip
      refine own_pre (A := (s₁.setTop (mkF m 21 #[.val (.int px), .val (.int (px ||| (32 : Int32)))] []))) ?_ ?_
      · intro t k
        refine XS.icmpYes X0.here hx rfl (pc0 := 14) (pc' := 21) rfl (hb hby d2_14) rfl (tlt hc8).2.2.1 (by decide) (by decide) ?_
        exact k
      refine own_pre (A := (s₁.setTop (mkF m 22 #[.val (.int px), .val (.int (px ||| (32 : Int32)))] [(.int (0 : Int32))]))) ?_ ?_
      · intro t k
        show Steps p.tables e below (s₁.setTop (mkF m 21 #[.val (.int px), .val (.int (px ||| (32 : Int32)))] [])) _
        refine XS.iconst X0.here hx rfl (hb hby d2_21) ?_
        exact k
      have hz : own_ref px = (0 : Int32) := by simp only [own_ref, if_neg hc7, if_pos hc8]
      obtain ⟨fs, hr, hrun, hended, hW, hsame⟩ := X0.leave (v := some (.int (0 : Int32))) (fun h => by rw [Bd.returns] at h; cases h)
      refine ⟨_, _, retOut X0 hx Bd.returns rfl (Or.inl ⟨rfl, Or.inr (Or.inl rfl), _, rfl⟩) (hb hby d2_22) hr, hrun, hended, _, _, rfl, ?_, ⟨_, rfl⟩, hW, hsame.mono (by decide) (by decide)⟩
      show own_Q2 px h0 n0 _ s₁.heap _
      rw [e0]
      exact ⟨by rw [hz], N0, rfl⟩
    · skip
      refine own_pre (A := (s₁.setTop (mkF m 17 #[.val (.int px), .val (.int (px ||| (32 : Int32)))] []))) ?_ ?_
      · intro t k
        refine XS.icmpNo X0.here hx rfl (hb hby d2_14) rfl (flt hc8).2.2.1 ?_
        exact k
      refine own_pre (A := (s₁.setTop (mkF m 22 #[.val (.int px), .val (.int (px ||| (32 : Int32)))] [(.int (1 : Int32))]))) ?_ ?_
      · intro t k
        show Steps p.tables e below (s₁.setTop (mkF m 17 #[.val (.int px), .val (.int (px ||| (32 : Int32)))] [])) _
        refine XS.iconst X0.here hx rfl (hb hby d2_17) ?_
        show Steps p.tables e below (s₁.setTop (mkF m 18 #[.val (.int px), .val (.int (px ||| (32 : Int32)))] [(.int (1 : Int32))])) _
        refine XS.goto X0.here hx rfl (pc0 := 18) (pc' := 22) rfl (hb hby d2_18) (by decide) (by decide) ?_
        exact k
      have hz : own_ref px = (1 : Int32) := by simp only [own_ref, if_neg hc7, if_neg hc8]
      obtain ⟨fs, hr, hrun, hended, hW, hsame⟩ := X0.leave (v := some (.int (1 : Int32))) (fun h => by rw [Bd.returns] at h; cases h)
      refine ⟨_, _, retOut X0 hx Bd.returns rfl (Or.inl ⟨rfl, Or.inr (Or.inl rfl), _, rfl⟩) (hb hby d2_22) hr, hrun, hended, _, _, rfl, ?_, ⟨_, rfl⟩, hW, hsame.mono (by decide) (by decide)⟩
      show own_Q2 px h0 n0 _ s₁.heap _
      rw [e0]
      exact ⟨by rw [hz], N0, rfl⟩
theorem own_small : ∀ n, n < 128 → own_isL (Int32.ofNat n) = own_ref (Int32.ofNat n) := by decide +kernel
theorem own_or (p : Int32) : p.toBitVec.toNat ≤ (p ||| 32).toBitVec.toNat := by
  rw [Int32.toBitVec_or, BitVec.toNat_or]
  exact Nat.left_le_or
theorem own_tn (p : Int32) : (p.toBitVec.toNat : Int) = p.toInt % 4294967296 := by
  have h := p.toBitVec.isLt
  show _ = p.toBitVec.toInt % _
  rw [BitVec.toInt_eq_toNat_cond]
  split <;> omega
theorem own_eq (p : Int32) : own_isL p = own_ref p := by
  by_cases h : 0 ≤ p.toInt ∧ p.toInt < 128
  · have h1 := own_small p.toInt.toNat (by omega)
    have h2 : Int32.ofNat p.toInt.toNat = p := by
      apply Int32.toInt_inj.mp
      rw [Int32.toInt_ofNat_small (by omega)]
      omega
    rwa [h2] at h1
  · have h1 := own_or p
    have h2 := own_tn p
    have h3 := own_tn (p ||| 32)
    have r1 := rng32 p
    have r2 := rng32 (p ||| 32)
    have a97 : (97 : Int32).toInt = 97 := by decide
    have a65 : (65 : Int32).toInt = 65 := by decide
    have a90 : (90 : Int32).toInt = 90 := by decide
    have a122 : (122 : Int32).toInt = 122 := by decide
    simp only [own_isL, own_ref, Int32.lt_iff_toInt_lt, a97, a65, a90, a122]
    repeat' split
    all_goals first | rfl | omega
theorem own_pn0 : plainName "com/example/constraint/constraint/keyword/AsciiIsLetterPinLaw" = true := by first | (simp [plainName, overriddenIn]; done) | decide +kernel
theorem own_ef0 (m : MethodId) (x0 : Int32) : entryFrame m #[(.int x0)] maxLocals = mkF m 0 #[.val (.int x0), .unset, .unset, .unset] [] := by first | (simp [entryFrame, mkF, argsToLocals, Value.category, maxLocals]; done) | rfl
def own_Q0 (h0 : Heap) (n0 : Nat) (v : Option Value) (h : Heap) (L : List Loc) : Prop := v = some (.int (1 : Int32)) ∧ Fr n0 L
set_option maxRecDepth 65536 in
set_option maxHeartbeats 40000000 in
theorem rm0 (l : Launch) (Z : State) (a0 : Array Value) (hw : ∀ d ∈ tables_1, d.before a0 Z = true) (ws : List Jvm.Cond) (px : Int32) (h0 : Heap) (n0 : Nat) (Z0 : n0 ≤ h0.size) :
    MetFree l x (head1 (Jvm.Cond.code x code maxLocals ret :: ws) room_1) (fun a U => a = #[(.int px)] ∧ Z.Warmed39 U.vm ∧ U.heap = h0) (fun _ _ _ _ _ => True) (fun _ U o U' => ∃ v L, o = .returned v ∧ own_Q0  h0 n0 v U'.heap L ∧ FrameEnd U o U' L room_1.cells room_1.slots) := by
  refine MetFree.of_bodySF (plainFor_of_name own_pn0) hisR ?_
  intro p e s m args below meth c s₁ Bd hml0 hP hK
  obtain ⟨rfl, hZ, hh⟩ := hP
  have hx := Bd.exec
  have hby := Bd.bytes
  have hml : c.maxLocals = 4 := hml0
  have hown : s.vm.findClass "com/example/constraint/constraint/keyword/AsciiIsLetterPinLaw" = some m.cls := findClass_of_methodNamed Bd.named
  have hnm := (name_of_methodNamed Bd.named Bd.method).1
  have X0 : Stand p l e room_1 s m #[(.int px)] below meth c s₁ [] 0 0 := Stand.of_body Bd
  have e0 : s₁.heap = h0 := by rw [← hh, Bd.state]; rfl
  have N0 := Fr.nil n0
  refine own_pre (A := (s₁.setTop (mkF m 0 #[.val (.int px), .unset, .unset, .unset] []))) (fun t k => castTop (own_ef0 m px) k) ?_
  refine own_pre (A := (s₁.setTop (mkF m 6 #[.val (.int px), .val (.int (px &&& (127 : Int32))), .unset, .unset] [(.int px)]))) ?_ ?_
  · intro t k
    show Steps p.tables e below (s₁.setTop (mkF m 0 #[.val (.int px), .unset, .unset, .unset] [])) _
    refine XS.iloadN X0.here hx rfl (hb hby at_0) rfl ?_
    show Steps p.tables e below (s₁.setTop (mkF m 1 #[.val (.int px), .unset, .unset, .unset] [(.int px)])) _
    refine XS.bipush X0.here hx rfl (hb hby at_1) ?_
    show Steps p.tables e below (s₁.setTop (mkF m 3 #[.val (.int px), .unset, .unset, .unset] [(.int (127 : Int32)), (.int px)])) _
    refine XS.iand X0.here hx rfl (hb hby at_3) rfl ?_
    show Steps p.tables e below (s₁.setTop (mkF m 4 #[.val (.int px), .unset, .unset, .unset] [(.int (px &&& (127 : Int32)))])) _
    refine XS.istoreN X0.here hx rfl (hb hby at_4) rfl (l' := #[.val (.int px), .val (.int (px &&& (127 : Int32))), .unset, .unset]) rfl ?_
    show Steps p.tables e below (s₁.setTop (mkF m 5 #[.val (.int px), .val (.int (px &&& (127 : Int32))), .unset, .unset] [])) _
    refine XS.iloadN X0.here hx rfl (hb hby at_5) rfl ?_
    exact k
  obtain ⟨_, _, ⟨T9, L9, k9, n9⟩, -, X9, ⟨Lc9, hQ9, l9, y9, z9⟩, st9⟩ := Jvm.LawKit.callS X0 hx (y := (⟨"com/example/constraint/constraint/keyword/Ascii", "isLetter", "(I)Z"⟩ : MethodName)) hown (mvT hZ (own_w hw 0 rfl)) (mvT hZ (own_w hw 1 rfl)) (mvT hZ (own_w hw 2 rfl)) (mvT hZ (own_w hw 3 rfl)) (by decide) (backOf (W := 0) (rm1 l Z a0 hw [] px h0 n0 Z0) hZ (own_w hw 3 rfl) (own_w hw 2 rfl) (by decide) (by decide)) (g := (mkF m 6 #[.val (.int px), .val (.int (px &&& (127 : Int32))), .unset, .unset] [(.int px)])) rfl (by rw [hml]; rfl) (argsL := [(.int px)]) (rest := []) (lenOf own_pd0 rfl) rfl (by show 2 * 0 + _ ≤ _; exact Nat.le_of_eq rfl) (hb hby at_6) (fun _ _ => ⟨rfl, e0, (by decide : 0 + 0 ≤ _), (by decide : 0 + 0 ≤ _)⟩)
  dsimp only [Pt.U, Pt.locs, Pt.cells, Pt.slots] at X9 l9 y9 z9 st9 hQ9
  subst l9 y9 z9
  obtain ⟨rfl, Nq9, eq9⟩ := hQ9
  have N9 := Fr.app N0 Nq9
  refine own_pre (fun t k => st9 t k) ?_
  refine own_pre (A := (T9.setTop (mkF m 10 #[.val (.int px), .val (.int (px &&& (127 : Int32))), .unset, .unset] [(.int px), (.int (own_isL px))]))) ?_ ?_
  · intro t k
    show Steps p.tables e below (T9.setTop (mkF m 9 #[.val (.int px), .val (.int (px &&& (127 : Int32))), .unset, .unset] [(.int (own_isL px))])) _
    refine XS.iloadN X9.here hx rfl (hb hby at_9) rfl ?_
    exact k
  obtain ⟨_, _, ⟨T10, L10, k10, n10⟩, -, X10, ⟨Lc10, hQ10, l10, y10, z10⟩, st10⟩ := Jvm.LawKit.callS X9 hx (y := (⟨"com/example/constraint/constraint/keyword/AsciiIsLetterPinLaw", "reference", "(I)Z"⟩ : MethodName)) hown (mvT hZ (own_w hw 4 rfl)) (mvT hZ (own_w hw 5 rfl)) (mvT hZ (own_w hw 6 rfl)) (mvT hZ (own_w hw 7 rfl)) (by decide) (backOf (W := 1) (rm2 l Z a0 hw [] px h0 n0 Z0) hZ (own_w hw 7 rfl) (own_w hw 6 rfl) (by decide) (by decide)) (g := (mkF m 10 #[.val (.int px), .val (.int (px &&& (127 : Int32))), .unset, .unset] [(.int px), (.int (own_isL px))])) rfl (by rw [hml]; rfl) (argsL := [(.int px)]) (rest := [(.int (own_isL px))]) (lenOf own_pd0 rfl) rfl (by show 2 * 0 + _ ≤ _; exact Nat.le_of_eq rfl) (hb hby at_10) (fun _ _ => ⟨rfl, eq9, (by decide : 0 + 0 ≤ _), (by decide : 0 + 0 ≤ _)⟩)
  dsimp only [Pt.U, Pt.locs, Pt.cells, Pt.slots] at X10 l10 y10 z10 st10 hQ10
  subst l10 y10 z10
  obtain ⟨rfl, Nq10, eq10⟩ := hQ10
  have N10 := Fr.app N9 Nq10
  refine own_pre (fun t k => st10 t k) ?_
  obtain ⟨v12, hv12⟩ : ∃ z : Int32, z = (if (own_isL px) = (own_ref px) then (1 : Int32) else (0 : Int32)) := ⟨_, rfl⟩
  refine own_pre (A := (T10.setTop (mkF m 21 #[.val (.int px), .val (.int (px &&& (127 : Int32))), .unset, .unset] [(.int v12)]))) ?_ ?_
  · intro t k
    show Steps p.tables e below (T10.setTop (mkF m 13 #[.val (.int px), .val (.int (px &&& (127 : Int32))), .unset, .unset] [(.int (own_ref px)), (.int (own_isL px))])) _
    by_cases hc11 : (own_isL px) = (own_ref px)
    · skip
      refine XS.icmpNo X10.here hx rfl (hb hby at_13) rfl (teq hc11).2 ?_
      show Steps p.tables e below (T10.setTop (mkF m 16 #[.val (.int px), .val (.int (px &&& (127 : Int32))), .unset, .unset] [])) _
      refine XS.iconst X10.here hx rfl (hb hby at_16) ?_
      show Steps p.tables e below (T10.setTop (mkF m 17 #[.val (.int px), .val (.int (px &&& (127 : Int32))), .unset, .unset] [(.int (1 : Int32))])) _
      refine XS.goto X10.here hx rfl (pc0 := 17) (pc' := 21) rfl (hb hby at_17) (by decide) (by decide) ?_
      rw [show v12 = (1 : Int32) from hv12.trans (by simp only [if_pos hc11])] at k
      exact k
    · skip
      refine XS.icmpYes X10.here hx rfl (pc0 := 13) (pc' := 20) rfl (hb hby at_13) rfl (feq hc11).2 (by decide) (by decide) ?_
      show Steps p.tables e below (T10.setTop (mkF m 20 #[.val (.int px), .val (.int (px &&& (127 : Int32))), .unset, .unset] [])) _
      refine XS.iconst X10.here hx rfl (hb hby at_20) ?_
      rw [show v12 = (0 : Int32) from hv12.trans (by simp only [if_neg hc11])] at k
      exact k
  refine own_pre (A := (T10.setTop (mkF m 23 #[.val (.int px), .val (.int (px &&& (127 : Int32))), .val (.int v12), .unset] [(.int (px &&& (127 : Int32)))]))) ?_ ?_
  · intro t k
    show Steps p.tables e below (T10.setTop (mkF m 21 #[.val (.int px), .val (.int (px &&& (127 : Int32))), .unset, .unset] [(.int v12)])) _
    refine XS.istoreN X10.here hx rfl (hb hby at_21) rfl (l' := #[.val (.int px), .val (.int (px &&& (127 : Int32))), .val (.int v12), .unset]) rfl ?_
    show Steps p.tables e below (T10.setTop (mkF m 22 #[.val (.int px), .val (.int (px &&& (127 : Int32))), .val (.int v12), .unset] [])) _
    refine XS.iloadN X10.here hx rfl (hb hby at_22) rfl ?_
    exact k
  obtain ⟨_, _, ⟨T13, L13, k13, n13⟩, -, X13, ⟨Lc13, hQ13, l13, y13, z13⟩, st13⟩ := Jvm.LawKit.callS X10 hx (y := (⟨"com/example/constraint/constraint/keyword/Ascii", "isLetter", "(I)Z"⟩ : MethodName)) hown (mvT hZ (own_w hw 0 rfl)) (mvT hZ (own_w hw 1 rfl)) (mvT hZ (own_w hw 2 rfl)) (mvT hZ (own_w hw 3 rfl)) (by decide) (backOf (W := 0) (rm1 l Z a0 hw [] (px &&& (127 : Int32)) h0 n0 Z0) hZ (own_w hw 3 rfl) (own_w hw 2 rfl) (by decide) (by decide)) (g := (mkF m 23 #[.val (.int px), .val (.int (px &&& (127 : Int32))), .val (.int v12), .unset] [(.int (px &&& (127 : Int32)))])) rfl (by rw [hml]; rfl) (argsL := [(.int (px &&& (127 : Int32)))]) (rest := []) (lenOf own_pd0 rfl) rfl (by show 2 * 0 + _ ≤ _; exact Nat.le_of_eq rfl) (hb hby at_23) (fun _ _ => ⟨rfl, eq10, (by decide : 0 + 0 ≤ _), (by decide : 0 + 0 ≤ _)⟩)
  dsimp only [Pt.U, Pt.locs, Pt.cells, Pt.slots] at X13 l13 y13 z13 st13 hQ13
  subst l13 y13 z13
  obtain ⟨rfl, Nq13, eq13⟩ := hQ13
  have N13 := Fr.app N10 Nq13
  refine own_pre (fun t k => st13 t k) ?_
  refine own_pre (A := (T13.setTop (mkF m 27 #[.val (.int px), .val (.int (px &&& (127 : Int32))), .val (.int v12), .unset] [(.int (px &&& (127 : Int32))), (.int (own_isL (px &&& (127 : Int32))))]))) ?_ ?_
  · intro t k
    show Steps p.tables e below (T13.setTop (mkF m 26 #[.val (.int px), .val (.int (px &&& (127 : Int32))), .val (.int v12), .unset] [(.int (own_isL (px &&& (127 : Int32))))])) _
    refine XS.iloadN X13.here hx rfl (hb hby at_26) rfl ?_
    exact k
  obtain ⟨_, _, ⟨T14, L14, k14, n14⟩, -, X14, ⟨Lc14, hQ14, l14, y14, z14⟩, st14⟩ := Jvm.LawKit.callS X13 hx (y := (⟨"com/example/constraint/constraint/keyword/AsciiIsLetterPinLaw", "reference", "(I)Z"⟩ : MethodName)) hown (mvT hZ (own_w hw 4 rfl)) (mvT hZ (own_w hw 5 rfl)) (mvT hZ (own_w hw 6 rfl)) (mvT hZ (own_w hw 7 rfl)) (by decide) (backOf (W := 1) (rm2 l Z a0 hw [] (px &&& (127 : Int32)) h0 n0 Z0) hZ (own_w hw 7 rfl) (own_w hw 6 rfl) (by decide) (by decide)) (g := (mkF m 27 #[.val (.int px), .val (.int (px &&& (127 : Int32))), .val (.int v12), .unset] [(.int (px &&& (127 : Int32))), (.int (own_isL (px &&& (127 : Int32))))])) rfl (by rw [hml]; rfl) (argsL := [(.int (px &&& (127 : Int32)))]) (rest := [(.int (own_isL (px &&& (127 : Int32))))]) (lenOf own_pd0 rfl) rfl (by show 2 * 0 + _ ≤ _; exact Nat.le_of_eq rfl) (hb hby at_27) (fun _ _ => ⟨rfl, eq13, (by decide : 0 + 0 ≤ _), (by decide : 0 + 0 ≤ _)⟩)
  dsimp only [Pt.U, Pt.locs, Pt.cells, Pt.slots] at X14 l14 y14 z14 st14 hQ14
  subst l14 y14 z14
  obtain ⟨rfl, Nq14, eq14⟩ := hQ14
  have N14 := Fr.app N13 Nq14
  refine own_pre (fun t k => st14 t k) ?_
  obtain ⟨v16, hv16⟩ : ∃ z : Int32, z = (if (own_isL (px &&& (127 : Int32))) = (own_ref (px &&& (127 : Int32))) then (1 : Int32) else (0 : Int32)) := ⟨_, rfl⟩
  refine own_pre (A := (T14.setTop (mkF m 38 #[.val (.int px), .val (.int (px &&& (127 : Int32))), .val (.int v12), .unset] [(.int v16)]))) ?_ ?_
  · intro t k
    show Steps p.tables e below (T14.setTop (mkF m 30 #[.val (.int px), .val (.int (px &&& (127 : Int32))), .val (.int v12), .unset] [(.int (own_ref (px &&& (127 : Int32)))), (.int (own_isL (px &&& (127 : Int32))))])) _
    by_cases hc15 : (own_isL (px &&& (127 : Int32))) = (own_ref (px &&& (127 : Int32)))
    · skip
      refine XS.icmpNo X14.here hx rfl (hb hby at_30) rfl (teq hc15).2 ?_
      show Steps p.tables e below (T14.setTop (mkF m 33 #[.val (.int px), .val (.int (px &&& (127 : Int32))), .val (.int v12), .unset] [])) _
      refine XS.iconst X14.here hx rfl (hb hby at_33) ?_
      show Steps p.tables e below (T14.setTop (mkF m 34 #[.val (.int px), .val (.int (px &&& (127 : Int32))), .val (.int v12), .unset] [(.int (1 : Int32))])) _
      refine XS.goto X14.here hx rfl (pc0 := 34) (pc' := 38) rfl (hb hby at_34) (by decide) (by decide) ?_
      rw [show v16 = (1 : Int32) from hv16.trans (by simp only [if_pos hc15])] at k
      exact k
    · skip
      refine XS.icmpYes X14.here hx rfl (pc0 := 30) (pc' := 37) rfl (hb hby at_30) rfl (feq hc15).2 (by decide) (by decide) ?_
      show Steps p.tables e below (T14.setTop (mkF m 37 #[.val (.int px), .val (.int (px &&& (127 : Int32))), .val (.int v12), .unset] [])) _
      refine XS.iconst X14.here hx rfl (hb hby at_37) ?_
      rw [show v16 = (0 : Int32) from hv16.trans (by simp only [if_neg hc15])] at k
      exact k
  refine own_pre (A := (T14.setTop (mkF m 40 #[.val (.int px), .val (.int (px &&& (127 : Int32))), .val (.int v12), .val (.int v16)] [(.int v12)]))) ?_ ?_
  · intro t k
    show Steps p.tables e below (T14.setTop (mkF m 38 #[.val (.int px), .val (.int (px &&& (127 : Int32))), .val (.int v12), .unset] [(.int v16)])) _
    refine XS.istoreN X14.here hx rfl (hb hby at_38) rfl (l' := #[.val (.int px), .val (.int (px &&& (127 : Int32))), .val (.int v12), .val (.int v16)]) rfl ?_
    show Steps p.tables e below (T14.setTop (mkF m 39 #[.val (.int px), .val (.int (px &&& (127 : Int32))), .val (.int v12), .val (.int v16)] [])) _
    refine XS.iloadN X14.here hx rfl (hb hby at_39) rfl ?_
    exact k
  obtain ⟨v19, hv19⟩ : ∃ z : Int32, z = (if v12 = (0 : Int32) then (0 : Int32) else (if v16 = (0 : Int32) then (0 : Int32) else (1 : Int32))) := ⟨_, rfl⟩
  refine own_pre (A := (T14.setTop (mkF m 52 #[.val (.int px), .val (.int (px &&& (127 : Int32))), .val (.int v12), .val (.int v16)] [(.int v19)]))) ?_ ?_
  · intro t k
    show Steps p.tables e below (T14.setTop (mkF m 40 #[.val (.int px), .val (.int (px &&& (127 : Int32))), .val (.int v12), .val (.int v16)] [(.int v12)])) _
    by_cases hc17 : v12 = (0 : Int32)
    · skip
      refine XS.ifYes X14.here hx rfl (pc0 := 40) (pc' := 51) rfl (hb hby at_40) rfl ((if0 _ _).trans (teq hc17).1) (by decide) (by decide) ?_
      show Steps p.tables e below (T14.setTop (mkF m 51 #[.val (.int px), .val (.int (px &&& (127 : Int32))), .val (.int v12), .val (.int v16)] [])) _
      refine XS.iconst X14.here hx rfl (hb hby at_51) ?_
      rw [show v19 = (0 : Int32) from hv19.trans (by simp only [if_pos hc17])] at k
      exact k
    · skip
      refine XS.ifNo X14.here hx rfl (hb hby at_40) rfl ((if0 _ _).trans (feq hc17).1) ?_
      show Steps p.tables e below (T14.setTop (mkF m 43 #[.val (.int px), .val (.int (px &&& (127 : Int32))), .val (.int v12), .val (.int v16)] [])) _
      refine XS.iloadN X14.here hx rfl (hb hby at_43) rfl ?_
      show Steps p.tables e below (T14.setTop (mkF m 44 #[.val (.int px), .val (.int (px &&& (127 : Int32))), .val (.int v12), .val (.int v16)] [(.int v16)])) _
      by_cases hc18 : v16 = (0 : Int32)
      · skip
        refine XS.ifYes X14.here hx rfl (pc0 := 44) (pc' := 51) rfl (hb hby at_44) rfl ((if0 _ _).trans (teq hc18).1) (by decide) (by decide) ?_
        show Steps p.tables e below (T14.setTop (mkF m 51 #[.val (.int px), .val (.int (px &&& (127 : Int32))), .val (.int v12), .val (.int v16)] [])) _
        refine XS.iconst X14.here hx rfl (hb hby at_51) ?_
        rw [show v19 = (0 : Int32) from hv19.trans (by simp only [if_neg hc17, if_pos hc18])] at k
        exact k
      · skip
        refine XS.ifNo X14.here hx rfl (hb hby at_44) rfl ((if0 _ _).trans (feq hc18).1) ?_
        show Steps p.tables e below (T14.setTop (mkF m 47 #[.val (.int px), .val (.int (px &&& (127 : Int32))), .val (.int v12), .val (.int v16)] [])) _
        refine XS.iconst X14.here hx rfl (hb hby at_47) ?_
        show Steps p.tables e below (T14.setTop (mkF m 48 #[.val (.int px), .val (.int (px &&& (127 : Int32))), .val (.int v12), .val (.int v16)] [(.int (1 : Int32))])) _
        refine XS.goto X14.here hx rfl (pc0 := 48) (pc' := 52) rfl (hb hby at_48) (by decide) (by decide) ?_
        rw [show v19 = (1 : Int32) from hv19.trans (by simp only [if_neg hc17, if_neg hc18])] at k
        exact k
  have hz : v19 = (1 : Int32) := by subst_vars; simp [own_eq]
  rw [hz]
  obtain ⟨fs, hr, hrun, hended, hW, hsame⟩ := X14.leave (v := some (.int (1 : Int32))) (fun h => by rw [Bd.returns] at h; cases h)
  refine ⟨_, _, retOut X14 hx Bd.returns rfl (Or.inl ⟨rfl, Or.inr (Or.inl rfl), _, rfl⟩) (hb hby at_52) hr, hrun, hended, _, _, rfl, ?_, ⟨_, rfl⟩, hW, hsame.mono (by decide) (by decide)⟩
  show own_Q0 h0 n0 _ T14.heap _
  rw [eq14]
  exact ⟨rfl, N14⟩
set_option maxRecDepth 65536 in
set_option maxHeartbeats 40000000 in
theorem comes_1 {Post : Tables → Env → Array Value → State → Outcome → State → Prop} (hpost : ∀ tb e args s v u, (limb_1_1.after args s (.returned v) u = true ∧ limb_1_2.after args s (.returned v) u = true ∧ True) → FrameEnd s (.returned v) u (Jvm.fieldLocs frame_1_writes args s ++ Jvm.arrayLocs frame_1_arrays args s ++ Jvm.staticLocs frame_1_statics s) 0 0 → Post tb e args s (.returned v) u) :
    ArmFor flags0 classFile x code maxLocals ret World_1 tables_1 room_1 Calls_1 rest_1 Pre_1 Post := by
  intro l hfl _ _ p e ha hc hk s m args below hf hA hF happ hP
  obtain ⟨hcalls, hrest, hpre⟩ := hP
  obtain ⟨-, -, -, hnamed, -, -, -, hat⟩ := (Spec.applies_iff hf).mp happ
  obtain ⟨hg, hn⟩ := and_e (Cond.before_iff.mp (show (Jvm.Cond.and given_1 narrow_1).before args s = true from hpre))
  obtain ⟨gg1, gg2⟩ := and_e hg
  obtain ⟨w0, rfl⟩ : ∃ w0 : Value, args = #[w0] := by
    have hs : args.size = 1 := by simpa [Cond.value, given_1] using gg1
    obtain ⟨L⟩ := args
    match L, hs with
    | [w0], _ => exact ⟨w0, rfl⟩
  have hw := fun d (hd : d ∈ tables_1) => atoms_spec (ws := Jvm.Cond.code x code maxLocals ret :: tables_1) hat d (List.mem_cons_of_mem _ hd)
  obtain ⟨i0, ei0⟩ := is_v gg2
  obtain rfl : w0 = (.int i0) := Option.some.inj ei0
  obtain ⟨n, o, h1, h2, h3, _, L, rfl, ⟨rfl, N⟩, hq⟩ := rm0 l s _ hw tables_1 i0 s.heap s.heap.size (Nat.le_refl _) p e ha hc hk s m _ below hf ((Spec.applies_iff_loose hf).mp happ).1 ⟨rfl, State.Warmed39.refl s, rfl⟩ trivial
  refine ⟨n, _, h1, h2, h3, hpost _ _ _ _ _ _ ⟨Cond.after_iff.mpr rfl, Cond.after_iff.mpr (eq_i res_at (Term.int_eval (1)) rfl), trivial⟩ ⟨hq.1, hq.2.1, (hq.2.2.sift fun y hy => Or.inr (N y hy)).mono (by decide) (by decide)⟩⟩
theorem main_1_1 : Claimed_1_1 := comes_1 fun _ _ _ _ _ _ h hF => ⟨h.1, hF⟩
theorem main_1_2 : Claimed_1_2 := comes_1 fun _ _ _ _ _ _ h hF => ⟨h.2.1, hF⟩
end Jvm.Pilot.@@N@@
namespace Jvm.Pilot.@@N@@
open Jvm Jvm.ClassFile Sem Op Lib Jvm.Free Jvm.Stand Jvm.Pilot.@@N@@.Jvm.D
/-! MADE BY PROGRAM (witnessworld.py) out of the Statement's table words and the real class files: 9 classes; the members and pool entries that the words name. The judged class is class 1, her method 2. -/
namespace start1
open Jvm.ClassFile
def u (s : String) : CpInfo := .utf8 (stringToUtf16 s)
/-- a pool by its gaps: so many unusable entries, then the entry; so many at the end -/
def gap : Nat → List CpInfo → List CpInfo
  | 0, r => r
  | n + 1, r => .unusable :: gap n r
def poolList (es : List (Nat × CpInfo)) (last : Nat) : List CpInfo := es.foldr (fun e r => gap e.1 (e.2 :: r)) (gap last [])
def pool (es : List (Nat × CpInfo)) (last : Nat) : Array CpInfo := ⟨poolList es last⟩
def fileOf (pool : Array CpInfo) (this : Nat) (attrs : Array Attribute := #[]) (ms : Array MethodInfo := #[]) (fl : Nat := 33) (sup : Nat := 0) (ifs : Array Nat := #[]) (fds : Array FieldInfo := #[]) : ClassFile where
  minorVersion := 0
  majorVersion := 65
  constantPool := pool
  accessFlags := fl
  thisClass := this
  superClass := sup
  interfaces := ifs
  fields := fds
  methods := ms
  attributes := attrs
def plain (name : String) (sup : Option ClassId) : Class where
  name := name
  kind := .ordinary
  loader := none
  accessFlags := 33
  super := sup
  interfaces := #[]
  cf := none
  fields := #[]
  methods := #[]
  instanceTypes := #[]
  staticTypes := #[]
  resolved := #[]
  callSites := []
  init := .initialized
  statics := none
  mirror := none

def pool0 : Array CpInfo := pool [(5, u "<init>"), (0, u "()V"), (1, .class_ 10), (1, u "java/lang/Object")] 113

def k0m0 : Method := { name := "<init>", desc := "()V", sig := { parameters := [], returnType := none }, accessFlags := 1, code := none }
/-- java/lang/Object -/
def k0 : Class := { plain "java/lang/Object" none with
  accessFlags := 33
  interfaces := #[]
  cf := some (fileOf pool0 8 #[] #[{ accessFlags := 1, nameIndex := 5, descriptorIndex := 6, attributes := #[] }] 33 0 #[] #[])
  fields := #[]
  methods := #[k0m0]
  instanceTypes := #[]
  staticTypes := #[]
  resolved := Array.replicate 124 none
  statics := none }

def pool1 : Array CpInfo := pool [(2, .class_ 4), (1, u "java/lang/Object"), (0, u "<init>"), (0, u "()V"), (0, .methodref 8 9), (0, .class_ 10), (0, .nameAndType 11 12), (0, u "com/example/constraint/constraint/keyword/Ascii"), (0, u "isLetter"), (0, u "(I)Z"), (0, .methodref 14 15), (0, .class_ 16), (0, .nameAndType 17 12), (0, u "com/example/constraint/constraint/keyword/AsciiIsLetterPinLaw"), (0, u "reference"), (3, u "law")] 2

def k1m0 : Method := { name := "<init>", desc := "()V", sig := { parameters := [], returnType := none }, accessFlags := 2, code := none }
def k1c1 : Code := { maxStack := 2, maxLocals := 2, code := method_2_code, exceptionTable := #[], attributes := #[] }
def k1m1 : Method := { name := "reference", desc := "(I)Z", sig := { parameters := [.int], returnType := some .boolean }, accessFlags := 10, code := some k1c1 }
def k1c2 : Code := { maxStack := 2, maxLocals := 4, code := code, exceptionTable := #[], attributes := #[] }
def k1m2 : Method := { name := "law", desc := "(I)Z", sig := { parameters := [.int], returnType := some .boolean }, accessFlags := 9, code := some k1c2 }
/-- com/example/constraint/constraint/keyword/AsciiIsLetterPinLaw -/
def k1 : Class := { plain "com/example/constraint/constraint/keyword/AsciiIsLetterPinLaw" (some 0) with
  accessFlags := 49
  interfaces := #[]
  cf := some (fileOf pool1 14 #[] #[{ accessFlags := 2, nameIndex := 5, descriptorIndex := 6, attributes := #[] }, { accessFlags := 10, nameIndex := 17, descriptorIndex := 12, attributes := #[] }, { accessFlags := 9, nameIndex := 21, descriptorIndex := 12, attributes := #[] }] 49 2 #[] #[])
  fields := #[]
  methods := #[k1m0, k1m1, k1m2]
  instanceTypes := #[]
  staticTypes := #[]
  resolved := Array.replicate 24 none
  statics := none }

def pool2 : Array CpInfo := pool [(2, .class_ 4), (1, u "java/lang/Object"), (0, u "<init>"), (0, u "()V"), (1, .class_ 10), (1, u "com/example/constraint/constraint/keyword/Ascii"), (1, u "(I)Z"), (24, u "isLetter")] 20

def k2m0 : Method := { name := "<init>", desc := "()V", sig := { parameters := [], returnType := none }, accessFlags := 2, code := none }
def k2c1 : Code := { maxStack := 2, maxLocals := 1, code := prog_30_method_4_code, exceptionTable := #[], attributes := #[] }
def k2m1 : Method := { name := "isLetter", desc := "(I)Z", sig := { parameters := [.int], returnType := some .boolean }, accessFlags := 8, code := some k2c1 }
/-- com/example/constraint/constraint/keyword/Ascii -/
def k2 : Class := { plain "com/example/constraint/constraint/keyword/Ascii" (some 0) with
  accessFlags := 32
  interfaces := #[]
  cf := some (fileOf pool2 8 #[] #[{ accessFlags := 2, nameIndex := 5, descriptorIndex := 6, attributes := #[] }, { accessFlags := 8, nameIndex := 37, descriptorIndex := 12, attributes := #[] }] 32 2 #[] #[])
  fields := #[]
  methods := #[k2m0, k2m1]
  instanceTypes := #[]
  staticTypes := #[]
  resolved := Array.replicate 58 none
  statics := none }

def pool3 : Array CpInfo := pool [(1, u "java/lang/Cloneable"), (0, .class_ 1), (0, u "java/lang/Object"), (0, .class_ 3)] 3

/-- java/lang/Cloneable -/
def k3 : Class := { plain "java/lang/Cloneable" (some 0) with
  accessFlags := 1537
  interfaces := #[]
  cf := some (fileOf pool3 2 #[] #[] 1537 4 #[] #[])
  fields := #[]
  methods := #[]
  instanceTypes := #[]
  staticTypes := #[]
  resolved := Array.replicate 8 none
  statics := none }

def pool4 : Array CpInfo := pool [(1, u "java/io/Serializable"), (0, .class_ 1), (0, u "java/lang/Object"), (0, .class_ 3)] 3

/-- java/io/Serializable -/
def k4 : Class := { plain "java/io/Serializable" (some 0) with
  accessFlags := 1537
  interfaces := #[]
  cf := some (fileOf pool4 2 #[] #[] 1537 4 #[] #[])
  fields := #[]
  methods := #[]
  instanceTypes := #[]
  staticTypes := #[]
  resolved := Array.replicate 8 none
  statics := none }

/-- the primitive byte -/
def k5 : Class := { plain "byte" none with kind := .primitive 'B', accessFlags := 0x411 }
/-- [B -/
def k6 : Class := { plain "[B" (some 0) with kind := .array 5 .byte, interfaces := #[3, 4], accessFlags := 1041 }

/-- the primitive int -/
def k7 : Class := { plain "int" none with kind := .primitive 'I', accessFlags := 0x411 }
/-- [I -/
def k8 : Class := { plain "[I" (some 0) with kind := .array 7 .int, interfaces := #[3, 4], accessFlags := 1041 }

def heap : Heap := #[]
def classes : Array Class := #[k0, k1, k2, k3, k4, k5, k6, k7, k8]
def interned : List (Array UInt16 × Addr) := []
def slotsUsed : Nat := 0
def theMethod : MethodId := ⟨1, 2⟩
def args0 : Array Value := #[.int 5]
def aboutOver (below : List Frame) : State where
  vm := { classes := classes, interned := interned.toArray }
  heap := heap
  slotsUsed := slotsUsed
  threads := #[{ frames := .invoking theMethod args0 :: below }]
def below0 : List Frame := [.native { method := ⟨0, 0⟩, args := #[] }]
def about1 : State := aboutOver below0
def p0 : Program := .bare "" "" ""
def e0 : Env := launch0.env 0 0 0
theorem w_frames : about1.frames = Frame.invoking theMethod args0 :: below0 := rfl
set_option maxRecDepth 65536 in
theorem w_args : argsFit about1.vm theMethod args0 = true := by decide +kernel
set_option maxRecDepth 65536 in
theorem w_heap : heapFits about1 = true := by decide +kernel
set_option maxRecDepth 65536 in
theorem w_runnable : about1.curStatus? = some .runnable := by decide +kernel
set_option maxRecDepth 65536 in
theorem w_alone : about1.alone = true := by decide +kernel
set_option maxRecDepth 65536 in
theorem w_named : about1.methodNamed? x = some theMethod := by decide +kernel
set_option maxRecDepth 65536 in
theorem w_hears : about1.hears theMethod below0 = true := by decide +kernel
set_option maxRecDepth 65536 in
theorem w_ripe : about1.ripe theMethod args0 below0 = true := by decide +kernel
theorem w_running : about1.status = .running := rfl
set_option maxRecDepth 65536 in
theorem w_room : about1.hasRoom e0.platform room_1 = true :=
  launch0.hasRoom_least _ room_1 (by decide +kernel) (by decide +kernel) (by decide +kernel) (by decide +kernel) (by decide +kernel) (by decide +kernel)
theorem allAtoms_all (ts : List Jvm.Cond) (a : Array Jvm.Value) (st : Jvm.State) : (allAtoms ts).before a st = ts.all (fun c => c.before a st) := by
  induction ts with
  | nil => rfl
  | cons c t ih =>
    show (Jvm.Cond.and c (allAtoms t)).before a st = _
    rw [Jvm.Cond.before_and, ih, List.all_cons]
def words1 : List Jvm.Cond := Jvm.Cond.code x code maxLocals ret :: tables_1
/-- a 'code' word, met by the world's own term for the bytes: nothing is compared byte by byte -/
theorem code_word {y : MethodName} {bytes : ByteArray} {mx : Nat} {rt : Option FieldType} {a : Array Value} {s : State} {m : MethodId} {meth : Method} {c : Code} (h1 : s.methodNamed? y = some m) (h2 : s.vm.method? m = some meth) (h3 : meth.code = some c) (h4 : c.code = bytes)
    (h5 : (c.maxLocals == mx && c.exceptionTable.isEmpty && decide (c.maxStack ≤ mostOperands) && decide (meth.sig.returnType = rt) && !meth.locks && decide (parseMethodDescriptor y.desc = some meth.sig)) = true) : (Jvm.Cond.code y bytes mx rt).before a s = true := by
  simp only [Bool.and_eq_true, beq_iff_eq, Bool.not_eq_true', decide_eq_true_eq] at h5
  obtain ⟨⟨⟨⟨⟨g1, g2⟩, g3⟩, g4⟩, g5⟩, g6⟩ := h5
  simp [Cond.before, Cond.holds, Cond.value, h1, h2, h3, h4, g1, g2, g3, g4, g5, g6]
def isCode : Jvm.Cond → Bool
  | .code _ _ _ _ => true
  | _ => false
theorem all_split {L : List Jvm.Cond} {P : Jvm.Cond → Bool} (h1 : L.all (fun c => isCode c || P c) = true) (h2 : ∀ c ∈ L.filter isCode, P c = true) : L.all P = true := by
  refine List.all_eq_true.mpr fun c hc => ?_
  have h := List.all_eq_true.mp h1 c hc
  rcases Bool.eq_false_or_eq_true (isCode c) with hi | hi
  · exact h2 c (List.mem_filter.mpr ⟨hc, hi⟩)
  · simpa [hi] using h
set_option maxRecDepth 65536 in
theorem w_c0 : (Jvm.Cond.code x code maxLocals ret).before args0 about1 = true := code_word (m := ⟨1, 2⟩) (meth := k1m2) (c := k1c2) (by decide +kernel) rfl rfl rfl (by decide +kernel)
set_option maxRecDepth 65536 in
theorem w_c1 : (Jvm.Cond.code ({ cls := "com/example/constraint/constraint/keyword/Ascii", name := "isLetter", desc := "(I)Z" } : Jvm.MethodName) prog_30_method_4_code (1 : Nat) (Option.some Jvm.ClassFile.FieldType.boolean)).before args0 about1 = true := code_word (m := ⟨2, 1⟩) (meth := k2m1) (c := k2c1) (by decide +kernel) rfl rfl rfl (by decide +kernel)
set_option maxRecDepth 65536 in
theorem w_c2 : (Jvm.Cond.code ({ cls := "com/example/constraint/constraint/keyword/AsciiIsLetterPinLaw", name := "reference", desc := "(I)Z" } : Jvm.MethodName) method_2_code (2 : Nat) (Option.some Jvm.ClassFile.FieldType.boolean)).before args0 about1 = true := code_word (m := ⟨1, 1⟩) (meth := k1m1) (c := k1c1) (by decide +kernel) rfl rfl rfl (by decide +kernel)
def codes1 : List Jvm.Cond := [Jvm.Cond.code x code maxLocals ret, Jvm.Cond.code ({ cls := "com/example/constraint/constraint/keyword/Ascii", name := "isLetter", desc := "(I)Z" } : Jvm.MethodName) prog_30_method_4_code (1 : Nat) (Option.some Jvm.ClassFile.FieldType.boolean), Jvm.Cond.code ({ cls := "com/example/constraint/constraint/keyword/AsciiIsLetterPinLaw", name := "reference", desc := "(I)Z" } : Jvm.MethodName) method_2_code (2 : Nat) (Option.some Jvm.ClassFile.FieldType.boolean)]
set_option maxRecDepth 65536 in
theorem codes_eq : words1.filter isCode = codes1 := rfl
theorem w_codes : ∀ c ∈ words1.filter isCode, c.before args0 about1 = true := by
  rw [codes_eq]
  intro c hc
  simp only [codes1, List.mem_cons, List.not_mem_nil, or_false] at hc
  rcases hc with rfl | rfl | rfl
  · exact w_c0
  · exact w_c1
  · exact w_c2
set_option maxRecDepth 65536 in
theorem w_t1 : words1.all (fun c => isCode c || c.before args0 about1) = true := by decide +kernel
theorem w_tables : (allAtoms (Jvm.Cond.code x code maxLocals ret :: tables_1)).before args0 about1 = true := by
  rw [allAtoms_all]
  show words1.all (fun c => c.before args0 about1) = true
  refine all_split ?_ w_codes
  rw [w_t1]
set_option maxRecDepth 65536 in
theorem w_case : (Jvm.Cond.and given_1 narrow_1).before args0 about1 = true := by decide +kernel
theorem w_applies : (headSpec (Jvm.Cond.code x code maxLocals ret :: tables_1) room_1).applies x e0.platform about1 = true :=
  (Spec.applies_iff w_frames).mpr ⟨w_running, w_runnable, w_alone, w_named, w_hears, w_ripe, w_room, w_tables⟩
theorem atStart : AtStart classFile x code maxLocals ret World_1 tables_1 room_1 Calls_1 rest_1 Pre_1 launch0 p0 e0 about1 theMethod args0 below0 :=
  ⟨lists_1, trivial, launch0.admits_env _ _ _, launch0.least_env, fairChoices_fair.cas, fairChoices_fair.clock, w_frames, w_args, w_heap, w_applies, trivial, trivial, w_case⟩
end start1
theorem witness_1 : WitnessClaimed_1 := ⟨start1.p0, start1.e0, start1.about1, start1.theMethod, start1.args0, start1.below0, start1.atStart⟩
end Jvm.Pilot.@@N@@
