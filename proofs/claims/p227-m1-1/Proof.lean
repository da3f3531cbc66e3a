import JvmDerived
import JvmDerived.Pilot.@@N@@Statement
import JvmDerived.Pilot.@@N@@Code
set_option linter.unusedVariables false
set_option linter.unusedSimpArgs false

namespace Jvm.Pilot.@@N@@
open Jvm Jvm.ClassFile Sem Op Lib Jvm.Free Jvm.Stand Jvm.LawKit Jvm.RoadKit Bundle Jvm.Pilot.@@N@@.Jvm.D
theorem own_pre {tb : Tables} {e : Env} {below : List Frame} {A B : State} {C : State → Outcome → Prop} (k : ∀ t, Steps tb e below A t → Steps tb e below B t) (h : ∃ s₂ o, Steps tb e below A s₂ ∧ C s₂ o) : ∃ s₂ o, Steps tb e below B s₂ ∧ C s₂ o := by
  obtain ⟨s2, o, h1, h2⟩ := h
  exact ⟨s2, o, k _ h1, h2⟩
theorem own_lrem {p : Program} {l : Launch} {e : Env} {R : Room} {s : State} {m : MethodId} {args : Array Value} {below : List Frame} {meth : Method} {c : Code} {T : State} {locs : List Loc} {cells slots : Nat} {g : JFrame} {target : State} (X : Stand p l e R s m args below meth c T locs cells slots) (hx : p.tables.exec = Jvm.exec) (hg : g.method = m) {x y : Int64} {rest : List Value} (hd : decode c.code g.pc = .ok (.lrem, 1)) (hs : g.stack = .long y :: .long x :: rest) (hy : y ≠ 0)
    (hr : Steps p.tables e below (T.setTop { g with pc := g.pc + 1, stack := .long (x % y) :: rest }) target) : Steps p.tables e below (T.setTop g) target :=
  XS.lrem X.here hx hg hd hs hy (by rw [lrem_mod]; exact hr)
theorem own_w {wl : List Jvm.Cond} {a0 : Array Value} {Z : State} (h : ∀ d ∈ wl, d.before a0 Z = true) (i : Nat) {d : Jvm.Cond} (g : wl[i]? = some d) : d.before a0 Z = true := h d (List.mem_of_getElem? g)

theorem own_pd0 : parseMethodDescriptor "(JJ)I" = some ⟨[.long, .long], some .int⟩ := by decide +kernel
theorem own_pd1 : parseMethodDescriptor "(J)I" = some ⟨[.long], some .int⟩ := by decide +kernel
theorem d3_0 : decode jdk_35_method_42_code 0 = .ok (.lload_n 0, 1) := by decide +kernel
theorem d3_1 : decode jdk_35_method_42_code 1 = .ok (.lload_n 2, 1) := by decide +kernel
theorem d3_2 : decode jdk_35_method_42_code 2 = .ok (.lcmp, 1) := by decide +kernel
theorem d3_3 : decode jdk_35_method_42_code 3 = .ok (.ifCond .ge 7, 3) := by decide +kernel
theorem d3_6 : decode jdk_35_method_42_code 6 = .ok (.iconst (-1), 1) := by decide +kernel
theorem d3_7 : decode jdk_35_method_42_code 7 = .ok (.goto 14, 3) := by decide +kernel
theorem d3_10 : decode jdk_35_method_42_code 10 = .ok (.lload_n 0, 1) := by decide +kernel
theorem d3_11 : decode jdk_35_method_42_code 11 = .ok (.lload_n 2, 1) := by decide +kernel
theorem d3_12 : decode jdk_35_method_42_code 12 = .ok (.lcmp, 1) := by decide +kernel
theorem d3_13 : decode jdk_35_method_42_code 13 = .ok (.ifCond .ne 7, 3) := by decide +kernel
theorem d3_16 : decode jdk_35_method_42_code 16 = .ok (.iconst 0, 1) := by decide +kernel
theorem d3_17 : decode jdk_35_method_42_code 17 = .ok (.goto 4, 3) := by decide +kernel
theorem d3_20 : decode jdk_35_method_42_code 20 = .ok (.iconst 1, 1) := by decide +kernel
theorem d3_21 : decode jdk_35_method_42_code 21 = .ok (.ireturn, 1) := by decide +kernel
theorem own_pn3 : plainName "java/lang/Long" = true := by first | (simp [plainName, overriddenIn]; done) | decide +kernel
theorem own_ef3 (m : MethodId) (x0 : Int64) (x1 : Int64) : entryFrame m #[(.long x0), (.long x1)] 4 = mkF m 0 #[.val (.long x0), .second, .val (.long x1), .second] [] := by first | (simp [entryFrame, mkF, argsToLocals, Value.category]; done) | rfl
def own_cmp (qx : Int64) (qy : Int64) : Int32 := (if qx < qy then (-1 : Int32) else (if qx = qy then (0 : Int32) else (1 : Int32)))
def own_Q3 (qx : Int64) (qy : Int64) (h0 : Heap) (n0 : Nat) (v : Option Value) (h : Heap) (L : List Loc) : Prop := v = some (.int (own_cmp qx qy)) ∧ Fr n0 L ∧ h = h0
set_option maxRecDepth 65536 in
set_option maxHeartbeats 40000000 in
theorem rm3 (l : Launch) (Z : State) (a0 : Array Value) (hw : ∀ d ∈ tables_1, d.before a0 Z = true) (ws : List Jvm.Cond) (qx : Int64) (qy : Int64) (h0 : Heap) (n0 : Nat) (Z0 : n0 ≤ h0.size) :
    MetFree l (⟨"java/lang/Long", "compare", "(JJ)I"⟩ : MethodName) (head1 (Jvm.Cond.code (⟨"java/lang/Long", "compare", "(JJ)I"⟩ : MethodName) jdk_35_method_42_code 4 (some .int) :: ws) ({ frames := 0, cells := 0, slots := 0, locals := 0 } : Room)) (fun a U => a = #[(.long qx), (.long qy)] ∧ Z.Warmed39 U.vm ∧ U.heap = h0) (fun _ _ _ _ _ => True) (fun _ U o U' => ∃ v L, o = .returned v ∧ own_Q3 qx qy h0 n0 v U'.heap L ∧ FrameEnd U o U' L ({ frames := 0, cells := 0, slots := 0, locals := 0 } : Room).cells ({ frames := 0, cells := 0, slots := 0, locals := 0 } : Room).slots) := by
  refine MetFree.of_bodySF (plainFor_of_name own_pn3) hisR ?_
  intro p e s m args below meth c s₁ Bd hml0 hP hK
  obtain ⟨rfl, hZ, hh⟩ := hP
  have hx := Bd.exec
  have hby := Bd.bytes
  have hml : c.maxLocals = 4 := hml0
  have hown : s.vm.findClass "java/lang/Long" = some m.cls := findClass_of_methodNamed Bd.named
  have hnm := (name_of_methodNamed Bd.named Bd.method).1
  have X0 : Stand p l e ({ frames := 0, cells := 0, slots := 0, locals := 0 } : Room) s m #[(.long qx), (.long qy)] below meth c s₁ [] 0 0 := Stand.of_body Bd
  have e0 : s₁.heap = h0 := by rw [← hh, Bd.state]; rfl
  have N0 := Fr.nil n0
  refine own_pre (A := (s₁.setTop (mkF m 0 #[.val (.long qx), .second, .val (.long qy), .second] []))) (fun t k => castTop (own_ef3 m qx qy) k) ?_
  refine own_pre (A := (s₁.setTop (mkF m 3 #[.val (.long qx), .second, .val (.long qy), .second] [(.int (lcmpW qx qy))]))) ?_ ?_
  · intro t k
    show Steps p.tables e below (s₁.setTop (mkF m 0 #[.val (.long qx), .second, .val (.long qy), .second] [])) _
    refine XS.lloadN X0.here hx rfl (hb hby d3_0) rfl ?_
    show Steps p.tables e below (s₁.setTop (mkF m 1 #[.val (.long qx), .second, .val (.long qy), .second] [(.long qx)])) _
    refine XS.lloadN X0.here hx rfl (hb hby d3_1) rfl ?_
    show Steps p.tables e below (s₁.setTop (mkF m 2 #[.val (.long qx), .second, .val (.long qy), .second] [(.long qy), (.long qx)])) _
    refine XS.lcmp X0.here hx rfl (hb hby d3_2) rfl ?_
    exact k
  by_cases hc1 : qx < qy
  · skip
    refine own_pre (A := (s₁.setTop (mkF m 6 #[.val (.long qx), .second, .val (.long qy), .second] []))) ?_ ?_
    · intro t k
      refine XS.ifNo X0.here hx rfl (hb hby d3_3) rfl ((if0 _ _).trans (tlt ((lw_lt qx qy).mpr hc1)).2.1) ?_
      exact k
    refine own_pre (A := (s₁.setTop (mkF m 21 #[.val (.long qx), .second, .val (.long qy), .second] [(.int (-1 : Int32))]))) ?_ ?_
    · intro t k
      show Steps p.tables e below (s₁.setTop (mkF m 6 #[.val (.long qx), .second, .val (.long qy), .second] [])) _
      refine XS.iconst X0.here hx rfl (hb hby d3_6) ?_
      show Steps p.tables e below (s₁.setTop (mkF m 7 #[.val (.long qx), .second, .val (.long qy), .second] [(.int (-1 : Int32))])) _
      refine XS.goto X0.here hx rfl (pc0 := 7) (pc' := 21) rfl (hb hby d3_7) (by decide) (by decide) ?_
      exact k
    have hz : own_cmp qx qy = (-1 : Int32) := by simp only [own_cmp, if_pos hc1]
    obtain ⟨fs, hr, hrun, hended, hW, hsame⟩ := X0.leave (hlocks := BodyLoose.notSynchronized Bd) (v := some (.int (-1 : Int32))) (fun h => by rw [Bd.returns] at h; cases h)
    refine ⟨_, _, retOut X0 hx Bd.returns rfl (Or.inl ⟨rfl, Or.inl rfl, _, rfl⟩) (hb hby d3_21) hr, hrun, hended, _, _, rfl, ?_, ⟨_, rfl⟩, hW, hsame.mono (by decide) (by decide)⟩
    show own_Q3 qx qy h0 n0 _ s₁.heap _
    rw [e0]
    exact ⟨by rw [hz], N0, rfl⟩
  · skip
    refine own_pre (A := (s₁.setTop (mkF m 10 #[.val (.long qx), .second, .val (.long qy), .second] []))) ?_ ?_
    · intro t k
      refine XS.ifYes X0.here hx rfl (pc0 := 3) (pc' := 10) rfl (hb hby d3_3) rfl ((if0 _ _).trans (flt (fun q => hc1 ((lw_lt qx qy).mp q))).2.1) (by decide) (by decide) ?_
      exact k
    refine own_pre (A := (s₁.setTop (mkF m 13 #[.val (.long qx), .second, .val (.long qy), .second] [(.int (lcmpW qx qy))]))) ?_ ?_
    · intro t k
      show Steps p.tables e below (s₁.setTop (mkF m 10 #[.val (.long qx), .second, .val (.long qy), .second] [])) _
      refine XS.lloadN X0.here hx rfl (hb hby d3_10) rfl ?_
      show Steps p.tables e below (s₁.setTop (mkF m 11 #[.val (.long qx), .second, .val (.long qy), .second] [(.long qx)])) _
      refine XS.lloadN X0.here hx rfl (hb hby d3_11) rfl ?_
      show Steps p.tables e below (s₁.setTop (mkF m 12 #[.val (.long qx), .second, .val (.long qy), .second] [(.long qy), (.long qx)])) _
      refine XS.lcmp X0.here hx rfl (hb hby d3_12) rfl ?_
      exact k
    by_cases hc2 : qx = qy
    · skip
      refine own_pre (A := (s₁.setTop (mkF m 16 #[.val (.long qx), .second, .val (.long qy), .second] []))) ?_ ?_
      · intro t k
        refine XS.ifNo X0.here hx rfl (hb hby d3_13) rfl ((if0 _ _).trans (teq ((lw_eq qx qy).mpr hc2)).2) ?_
        exact k
      refine own_pre (A := (s₁.setTop (mkF m 21 #[.val (.long qx), .second, .val (.long qy), .second] [(.int (0 : Int32))]))) ?_ ?_
      · intro t k
        show Steps p.tables e below (s₁.setTop (mkF m 16 #[.val (.long qx), .second, .val (.long qy), .second] [])) _
        refine XS.iconst X0.here hx rfl (hb hby d3_16) ?_
        show Steps p.tables e below (s₁.setTop (mkF m 17 #[.val (.long qx), .second, .val (.long qy), .second] [(.int (0 : Int32))])) _
        refine XS.goto X0.here hx rfl (pc0 := 17) (pc' := 21) rfl (hb hby d3_17) (by decide) (by decide) ?_
        exact k
      have hz : own_cmp qx qy = (0 : Int32) := by simp only [own_cmp, if_neg hc1, if_pos hc2]
      obtain ⟨fs, hr, hrun, hended, hW, hsame⟩ := X0.leave (hlocks := BodyLoose.notSynchronized Bd) (v := some (.int (0 : Int32))) (fun h => by rw [Bd.returns] at h; cases h)
      refine ⟨_, _, retOut X0 hx Bd.returns rfl (Or.inl ⟨rfl, Or.inl rfl, _, rfl⟩) (hb hby d3_21) hr, hrun, hended, _, _, rfl, ?_, ⟨_, rfl⟩, hW, hsame.mono (by decide) (by decide)⟩
      show own_Q3 qx qy h0 n0 _ s₁.heap _
      rw [e0]
      exact ⟨by rw [hz], N0, rfl⟩
    · skip
      refine own_pre (A := (s₁.setTop (mkF m 20 #[.val (.long qx), .second, .val (.long qy), .second] []))) ?_ ?_
      · intro t k
        refine XS.ifYes X0.here hx rfl (pc0 := 13) (pc' := 20) rfl (hb hby d3_13) rfl ((if0 _ _).trans (feq (fun q => hc2 ((lw_eq qx qy).mp q))).2) (by decide) (by decide) ?_
        exact k
      refine own_pre (A := (s₁.setTop (mkF m 21 #[.val (.long qx), .second, .val (.long qy), .second] [(.int (1 : Int32))]))) ?_ ?_
      · intro t k
        show Steps p.tables e below (s₁.setTop (mkF m 20 #[.val (.long qx), .second, .val (.long qy), .second] [])) _
        refine XS.iconst X0.here hx rfl (hb hby d3_20) ?_
        exact k
      have hz : own_cmp qx qy = (1 : Int32) := by simp only [own_cmp, if_neg hc1, if_neg hc2]
      obtain ⟨fs, hr, hrun, hended, hW, hsame⟩ := X0.leave (hlocks := BodyLoose.notSynchronized Bd) (v := some (.int (1 : Int32))) (fun h => by rw [Bd.returns] at h; cases h)
      refine ⟨_, _, retOut X0 hx Bd.returns rfl (Or.inl ⟨rfl, Or.inl rfl, _, rfl⟩) (hb hby d3_21) hr, hrun, hended, _, _, rfl, ?_, ⟨_, rfl⟩, hW, hsame.mono (by decide) (by decide)⟩
      show own_Q3 qx qy h0 n0 _ s₁.heap _
      rw [e0]
      exact ⟨by rw [hz], N0, rfl⟩
theorem d2_0 : decode jdk_35_method_43_code 0 = .ok (.lload_n 0, 1) := by decide +kernel
theorem d2_1 : decode jdk_35_method_43_code 1 = .ok (.ldc2_w 168, 3) := by decide +kernel
theorem d2_4 : decode jdk_35_method_43_code 4 = .ok (.ladd, 1) := by decide +kernel
theorem d2_5 : decode jdk_35_method_43_code 5 = .ok (.lload_n 2, 1) := by decide +kernel
theorem d2_6 : decode jdk_35_method_43_code 6 = .ok (.ldc2_w 168, 3) := by decide +kernel
theorem d2_9 : decode jdk_35_method_43_code 9 = .ok (.ladd, 1) := by decide +kernel
theorem d2_10 : decode jdk_35_method_43_code 10 = .ok (.invokestatic 302, 3) := by decide +kernel
theorem d2_13 : decode jdk_35_method_43_code 13 = .ok (.ireturn, 1) := by decide +kernel
theorem own_pn2 : plainName "java/lang/Long" = true := by first | (simp [plainName, overriddenIn]; done) | decide +kernel
theorem own_ef2 (m : MethodId) (x0 : Int64) (x1 : Int64) : entryFrame m #[(.long x0), (.long x1)] 4 = mkF m 0 #[.val (.long x0), .second, .val (.long x1), .second] [] := by first | (simp [entryFrame, mkF, argsToLocals, Value.category]; done) | rfl
def own_cmpU (qx : Int64) (qy : Int64) : Int32 := (own_cmp (qx + (-9223372036854775808 : Int64)) (qy + (-9223372036854775808 : Int64)))
def own_Q2 (qx : Int64) (qy : Int64) (h0 : Heap) (n0 : Nat) (v : Option Value) (h : Heap) (L : List Loc) : Prop := v = some (.int (own_cmpU qx qy)) ∧ Fr n0 L ∧ h = h0
set_option maxRecDepth 65536 in
set_option maxHeartbeats 40000000 in
theorem rm2 (l : Launch) (Z : State) (a0 : Array Value) (hw : ∀ d ∈ tables_1, d.before a0 Z = true) (ws : List Jvm.Cond) (qx : Int64) (qy : Int64) (h0 : Heap) (n0 : Nat) (Z0 : n0 ≤ h0.size) :
    MetFree l (⟨"java/lang/Long", "compareUnsigned", "(JJ)I"⟩ : MethodName) (head1 (Jvm.Cond.code (⟨"java/lang/Long", "compareUnsigned", "(JJ)I"⟩ : MethodName) jdk_35_method_43_code 4 (some .int) :: ws) ({ frames := 1, cells := 0, slots := 0, locals := 15 } : Room)) (fun a U => a = #[(.long qx), (.long qy)] ∧ Z.Warmed39 U.vm ∧ U.heap = h0) (fun _ _ _ _ _ => True) (fun _ U o U' => ∃ v L, o = .returned v ∧ own_Q2 qx qy h0 n0 v U'.heap L ∧ FrameEnd U o U' L ({ frames := 1, cells := 0, slots := 0, locals := 15 } : Room).cells ({ frames := 1, cells := 0, slots := 0, locals := 15 } : Room).slots) := by
  refine MetFree.of_bodySF (plainFor_of_name own_pn2) hisR ?_
  intro p e s m args below meth c s₁ Bd hml0 hP hK
  obtain ⟨rfl, hZ, hh⟩ := hP
  have hx := Bd.exec
  have hby := Bd.bytes
  have hml : c.maxLocals = 4 := hml0
  have hown : s.vm.findClass "java/lang/Long" = some m.cls := findClass_of_methodNamed Bd.named
  have hnm := (name_of_methodNamed Bd.named Bd.method).1
  have X0 : Stand p l e ({ frames := 1, cells := 0, slots := 0, locals := 15 } : Room) s m #[(.long qx), (.long qy)] below meth c s₁ [] 0 0 := Stand.of_body Bd
  have e0 : s₁.heap = h0 := by rw [← hh, Bd.state]; rfl
  have N0 := Fr.nil n0
  refine own_pre (A := (s₁.setTop (mkF m 0 #[.val (.long qx), .second, .val (.long qy), .second] []))) (fun t k => castTop (own_ef2 m qx qy) k) ?_
  refine own_pre (A := (s₁.setTop (mkF m 10 #[.val (.long qx), .second, .val (.long qy), .second] [(.long (qy + (-9223372036854775808 : Int64))), (.long (qx + (-9223372036854775808 : Int64)))]))) ?_ ?_
  · intro t k
    show Steps p.tables e below (s₁.setTop (mkF m 0 #[.val (.long qx), .second, .val (.long qy), .second] [])) _
    refine XS.lloadN X0.here hx rfl (hb hby d2_0) rfl ?_
    show Steps p.tables e below (s₁.setTop (mkF m 1 #[.val (.long qx), .second, .val (.long qy), .second] [(.long qx)])) _
    refine X0.ldc2Long hx hown (mvT hZ (own_w hw 9 rfl)) (g := (mkF m 1 #[.val (.long qx), .second, .val (.long qy), .second] [(.long qx)])) rfl (hb hby d2_1) _ ?_
    show Steps p.tables e below (s₁.setTop (mkF m 4 #[.val (.long qx), .second, .val (.long qy), .second] [(.long (-9223372036854775808 : Int64)), (.long qx)])) _
    refine XS.ladd X0.here hx rfl (hb hby d2_4) rfl ?_
    show Steps p.tables e below (s₁.setTop (mkF m 5 #[.val (.long qx), .second, .val (.long qy), .second] [(.long (qx + (-9223372036854775808 : Int64)))])) _
    refine XS.lloadN X0.here hx rfl (hb hby d2_5) rfl ?_
    show Steps p.tables e below (s₁.setTop (mkF m 6 #[.val (.long qx), .second, .val (.long qy), .second] [(.long qy), (.long (qx + (-9223372036854775808 : Int64)))])) _
    refine X0.ldc2Long hx hown (mvT hZ (own_w hw 9 rfl)) (g := (mkF m 6 #[.val (.long qx), .second, .val (.long qy), .second] [(.long qy), (.long (qx + (-9223372036854775808 : Int64)))])) rfl (hb hby d2_6) _ ?_
    show Steps p.tables e below (s₁.setTop (mkF m 9 #[.val (.long qx), .second, .val (.long qy), .second] [(.long (-9223372036854775808 : Int64)), (.long qy), (.long (qx + (-9223372036854775808 : Int64)))])) _
    refine XS.ladd X0.here hx rfl (hb hby d2_9) rfl ?_
    exact k
  obtain ⟨_, _, ⟨T3, L3, k3, n3⟩, -, X3, ⟨Lc3, hQ3, l3, y3, z3⟩, st3⟩ := Jvm.LawKit.callS X0 hx (y := (⟨"java/lang/Long", "compare", "(JJ)I"⟩ : MethodName)) hown (mvT hZ (own_w hw 10 rfl)) (mvT hZ (own_w hw 11 rfl)) (mvT hZ (own_w hw 7 rfl)) (mvT hZ (own_w hw 12 rfl)) (by decide) (backOf (W := 0) (rm3 l Z a0 hw [] (qx + (-9223372036854775808 : Int64)) (qy + (-9223372036854775808 : Int64)) h0 n0 Z0) hZ (own_w hw 12 rfl) (own_w hw 7 rfl) (by decide) (by decide)) (g := (mkF m 10 #[.val (.long qx), .second, .val (.long qy), .second] [(.long (qy + (-9223372036854775808 : Int64))), (.long (qx + (-9223372036854775808 : Int64)))])) rfl (by rw [hml]; rfl) (argsL := [(.long (qx + (-9223372036854775808 : Int64))), (.long (qy + (-9223372036854775808 : Int64)))]) (rest := []) (lenOf own_pd0 rfl) rfl (by show 2 * 0 + _ ≤ _; exact Nat.le_of_eq rfl) (hb hby d2_10) (fun _ _ => ⟨rfl, e0, (by decide : 0 + 0 ≤ _), (by decide : 0 + 0 ≤ _)⟩)
  dsimp only [Pt.U, Pt.locs, Pt.cells, Pt.slots] at X3 l3 y3 z3 st3 hQ3
  subst l3 y3 z3
  obtain ⟨rfl, Nq3, eq3⟩ := hQ3
  have N3 := Fr.app N0 Nq3
  refine own_pre (fun t k => st3 t k) ?_
  have hz : own_cmpU qx qy = (own_cmp (qx + (-9223372036854775808 : Int64)) (qy + (-9223372036854775808 : Int64))) := rfl
  obtain ⟨fs, hr, hrun, hended, hW, hsame⟩ := X3.leave (hlocks := BodyLoose.notSynchronized Bd) (v := some (.int (own_cmp (qx + (-9223372036854775808 : Int64)) (qy + (-9223372036854775808 : Int64))))) (fun h => by rw [Bd.returns] at h; cases h)
  refine ⟨_, _, retOut X3 hx Bd.returns rfl (Or.inl ⟨rfl, Or.inl rfl, _, rfl⟩) (hb hby d2_13) hr, hrun, hended, _, _, rfl, ?_, ⟨_, rfl⟩, hW, hsame.mono (by decide) (by decide)⟩
  show own_Q2 qx qy h0 n0 _ T3.heap _
  rw [eq3]
  exact ⟨by rw [hz], N3, rfl⟩
theorem d1_0 : decode prog_8_method_15_code 0 = .ok (.lload_n 0, 1) := by decide +kernel
theorem d1_1 : decode prog_8_method_15_code 1 = .ok (.ldc2_w 171, 3) := by decide +kernel
theorem d1_4 : decode prog_8_method_15_code 4 = .ok (.invokestatic 173, 3) := by decide +kernel
theorem d1_7 : decode prog_8_method_15_code 7 = .ok (.ifCond .ge 5, 3) := by decide +kernel
theorem d1_10 : decode prog_8_method_15_code 10 = .ok (.iconst 1, 1) := by decide +kernel
theorem d1_11 : decode prog_8_method_15_code 11 = .ok (.ireturn, 1) := by decide +kernel
theorem d1_12 : decode prog_8_method_15_code 12 = .ok (.bipush 8, 2) := by decide +kernel
theorem d1_14 : decode prog_8_method_15_code 14 = .ok (.istore_n 2, 1) := by decide +kernel
theorem d1_15 : decode prog_8_method_15_code 15 = .ok (.iload_n 2, 1) := by decide +kernel
theorem d1_16 : decode prog_8_method_15_code 16 = .ok (.iconst 1, 1) := by decide +kernel
theorem d1_17 : decode prog_8_method_15_code 17 = .ok (.if_icmp .le 20, 3) := by decide +kernel
theorem d1_20 : decode prog_8_method_15_code 20 = .ok (.lload_n 0, 1) := by decide +kernel
theorem d1_21 : decode prog_8_method_15_code 21 = .ok (.iconst 4, 1) := by decide +kernel
theorem d1_22 : decode prog_8_method_15_code 22 = .ok (.iload_n 2, 1) := by decide +kernel
theorem d1_23 : decode prog_8_method_15_code 23 = .ok (.imul, 1) := by decide +kernel
theorem d1_24 : decode prog_8_method_15_code 24 = .ok (.lushr, 1) := by decide +kernel
theorem d1_25 : decode prog_8_method_15_code 25 = .ok (.lconst 0, 1) := by decide +kernel
theorem d1_26 : decode prog_8_method_15_code 26 = .ok (.lcmp, 1) := by decide +kernel
theorem d1_27 : decode prog_8_method_15_code 27 = .ok (.ifCond .ne 10, 3) := by decide +kernel
theorem d1_30 : decode prog_8_method_15_code 30 = .ok (.iload_n 2, 1) := by decide +kernel
theorem d1_31 : decode prog_8_method_15_code 31 = .ok (.iconst 2, 1) := by decide +kernel
theorem d1_32 : decode prog_8_method_15_code 32 = .ok (.idiv, 1) := by decide +kernel
theorem d1_33 : decode prog_8_method_15_code 33 = .ok (.istore_n 2, 1) := by decide +kernel
theorem d1_34 : decode prog_8_method_15_code 34 = .ok (.goto (-19), 3) := by decide +kernel
theorem d1_37 : decode prog_8_method_15_code 37 = .ok (.iconst 1, 1) := by decide +kernel
theorem d1_38 : decode prog_8_method_15_code 38 = .ok (.iload_n 2, 1) := by decide +kernel
theorem d1_39 : decode prog_8_method_15_code 39 = .ok (.iadd, 1) := by decide +kernel
theorem d1_40 : decode prog_8_method_15_code 40 = .ok (.ireturn, 1) := by decide +kernel
theorem own_pn1 : plainName "com/example/sigillum/sigillum/cose/CborItem" = true := by first | (simp [plainName, overriddenIn]; done) | decide +kernel
theorem own_ef1 (m : MethodId) (x0 : Int64) : entryFrame m #[(.long x0)] 3 = mkF m 0 #[.val (.long x0), .second, .unset] [] := by first | (simp [entryFrame, mkF, argsToLocals, Value.category]; done) | rfl
def own_hl (qa : Int64) : Int32 := (if (own_cmpU qa (24 : Int64)) < (0 : Int32) then (1 : Int32) else (if ((qa.toUInt64 >>> ((32 : Int32) &&& 0x3f).toInt64.toUInt64).toInt64) = (0 : Int64) then (if ((qa.toUInt64 >>> ((16 : Int32) &&& 0x3f).toInt64.toUInt64).toInt64) = (0 : Int64) then (if ((qa.toUInt64 >>> ((8 : Int32) &&& 0x3f).toInt64.toUInt64).toInt64) = (0 : Int64) then (2 : Int32) else (3 : Int32)) else (5 : Int32)) else (9 : Int32)))
def own_Q1 (qa : Int64) (h0 : Heap) (n0 : Nat) (v : Option Value) (h : Heap) (L : List Loc) : Prop := v = some (.int (own_hl qa)) ∧ Fr n0 L ∧ h = h0
set_option maxRecDepth 65536 in
set_option maxHeartbeats 40000000 in
theorem rm1 (l : Launch) (Z : State) (a0 : Array Value) (hw : ∀ d ∈ tables_1, d.before a0 Z = true) (ws : List Jvm.Cond) (qa : Int64) (h0 : Heap) (n0 : Nat) (Z0 : n0 ≤ h0.size) :
    MetFree l (⟨"com/example/sigillum/sigillum/cose/CborItem", "headLength", "(J)I"⟩ : MethodName) (head1 (Jvm.Cond.code (⟨"com/example/sigillum/sigillum/cose/CborItem", "headLength", "(J)I"⟩ : MethodName) prog_8_method_15_code 3 (some .int) :: ws) ({ frames := 2, cells := 0, slots := 0, locals := 30 } : Room)) (fun a U => a = #[(.long qa)] ∧ Z.Warmed39 U.vm ∧ U.heap = h0) (fun _ _ _ _ _ => True) (fun _ U o U' => ∃ v L, o = .returned v ∧ own_Q1 qa h0 n0 v U'.heap L ∧ FrameEnd U o U' L ({ frames := 2, cells := 0, slots := 0, locals := 30 } : Room).cells ({ frames := 2, cells := 0, slots := 0, locals := 30 } : Room).slots) := by
  refine MetFree.of_bodySF (plainFor_of_name own_pn1) hisR ?_
  intro p e s m args below meth c s₁ Bd hml0 hP hK
  obtain ⟨rfl, hZ, hh⟩ := hP
  have hx := Bd.exec
  have hby := Bd.bytes
  have hml : c.maxLocals = 3 := hml0
  have hown : s.vm.findClass "com/example/sigillum/sigillum/cose/CborItem" = some m.cls := findClass_of_methodNamed Bd.named
  have hnm := (name_of_methodNamed Bd.named Bd.method).1
  have X0 : Stand p l e ({ frames := 2, cells := 0, slots := 0, locals := 30 } : Room) s m #[(.long qa)] below meth c s₁ [] 0 0 := Stand.of_body Bd
  have e0 : s₁.heap = h0 := by rw [← hh, Bd.state]; rfl
  have N0 := Fr.nil n0
  refine own_pre (A := (s₁.setTop (mkF m 0 #[.val (.long qa), .second, .unset] []))) (fun t k => castTop (own_ef1 m qa) k) ?_
  refine own_pre (A := (s₁.setTop (mkF m 4 #[.val (.long qa), .second, .unset] [(.long (24 : Int64)), (.long qa)]))) ?_ ?_
  · intro t k
    show Steps p.tables e below (s₁.setTop (mkF m 0 #[.val (.long qa), .second, .unset] [])) _
    refine XS.lloadN X0.here hx rfl (hb hby d1_0) rfl ?_
    show Steps p.tables e below (s₁.setTop (mkF m 1 #[.val (.long qa), .second, .unset] [(.long qa)])) _
    refine X0.ldc2Long hx hown (mvT hZ (own_w hw 4 rfl)) (g := (mkF m 1 #[.val (.long qa), .second, .unset] [(.long qa)])) rfl (hb hby d1_1) _ ?_
    exact k
  obtain ⟨_, _, ⟨T4, L4, k4, n4⟩, -, X4, ⟨Lc4, hQ4, l4, y4, z4⟩, st4⟩ := Jvm.LawKit.callS X0 hx (y := (⟨"java/lang/Long", "compareUnsigned", "(JJ)I"⟩ : MethodName)) hown (mvT hZ (own_w hw 5 rfl)) (mvT hZ (own_w hw 6 rfl)) (mvT hZ (own_w hw 7 rfl)) (mvT hZ (own_w hw 8 rfl)) (by decide) (backOf (W := 0) (rm2 l Z a0 hw [] qa (24 : Int64) h0 n0 Z0) hZ (own_w hw 8 rfl) (own_w hw 7 rfl) (by decide) (by decide)) (g := (mkF m 4 #[.val (.long qa), .second, .unset] [(.long (24 : Int64)), (.long qa)])) rfl (by rw [hml]; rfl) (argsL := [(.long qa), (.long (24 : Int64))]) (rest := []) (lenOf own_pd0 rfl) rfl (by show 2 * 0 + _ ≤ _; exact Nat.le_of_eq rfl) (hb hby d1_4) (fun _ _ => ⟨rfl, e0, (by decide : 0 + 0 ≤ _), (by decide : 0 + 0 ≤ _)⟩)
  dsimp only [Pt.U, Pt.locs, Pt.cells, Pt.slots] at X4 l4 y4 z4 st4 hQ4
  subst l4 y4 z4
  obtain ⟨rfl, Nq4, eq4⟩ := hQ4
  have N4 := Fr.app N0 Nq4
  refine own_pre (fun t k => st4 t k) ?_
  by_cases hc5 : (own_cmpU qa (24 : Int64)) < (0 : Int32)
  · skip
    refine own_pre (A := (T4.setTop (mkF m 10 #[.val (.long qa), .second, .unset] []))) ?_ ?_
    · intro t k
      refine XS.ifNo X4.here hx rfl (hb hby d1_7) rfl ((if0 _ _).trans (tlt hc5).2.1) ?_
      exact k
    refine own_pre (A := (T4.setTop (mkF m 11 #[.val (.long qa), .second, .unset] [(.int (1 : Int32))]))) ?_ ?_
    · intro t k
      show Steps p.tables e below (T4.setTop (mkF m 10 #[.val (.long qa), .second, .unset] [])) _
      refine XS.iconst X4.here hx rfl (hb hby d1_10) ?_
      exact k
    have hz : own_hl qa = (1 : Int32) := by simp only [own_hl, if_pos hc5]
    obtain ⟨fs, hr, hrun, hended, hW, hsame⟩ := X4.leave (hlocks := BodyLoose.notSynchronized Bd) (v := some (.int (1 : Int32))) (fun h => by rw [Bd.returns] at h; cases h)
    refine ⟨_, _, retOut X4 hx Bd.returns rfl (Or.inl ⟨rfl, Or.inl rfl, _, rfl⟩) (hb hby d1_11) hr, hrun, hended, _, _, rfl, ?_, ⟨_, rfl⟩, hW, hsame.mono (by decide) (by decide)⟩
    show own_Q1 qa h0 n0 _ T4.heap _
    rw [eq4]
    exact ⟨by rw [hz], N4, rfl⟩
  · skip
    refine own_pre (A := (T4.setTop (mkF m 12 #[.val (.long qa), .second, .unset] []))) ?_ ?_
    · intro t k
      refine XS.ifYes X4.here hx rfl (pc0 := 7) (pc' := 12) rfl (hb hby d1_7) rfl ((if0 _ _).trans (flt hc5).2.1) (by decide) (by decide) ?_
      exact k
    refine own_pre (A := (T4.setTop (mkF m 27 #[.val (.long qa), .second, .val (.int (8 : Int32))] [(.int (lcmpW ((qa.toUInt64 >>> ((32 : Int32) &&& 0x3f).toInt64.toUInt64).toInt64) (0 : Int64)))]))) ?_ ?_
    · intro t k
      show Steps p.tables e below (T4.setTop (mkF m 12 #[.val (.long qa), .second, .unset] [])) _
      refine XS.bipush X4.here hx rfl (hb hby d1_12) ?_
      show Steps p.tables e below (T4.setTop (mkF m 14 #[.val (.long qa), .second, .unset] [(.int (8 : Int32))])) _
      refine XS.istoreN X4.here hx rfl (hb hby d1_14) rfl (l' := #[.val (.long qa), .second, .val (.int (8 : Int32))]) rfl ?_
      show Steps p.tables e below (T4.setTop (mkF m 15 #[.val (.long qa), .second, .val (.int (8 : Int32))] [])) _
      refine XS.iloadN X4.here hx rfl (hb hby d1_15) rfl ?_
      show Steps p.tables e below (T4.setTop (mkF m 16 #[.val (.long qa), .second, .val (.int (8 : Int32))] [(.int (8 : Int32))])) _
      refine XS.iconst X4.here hx rfl (hb hby d1_16) ?_
      show Steps p.tables e below (T4.setTop (mkF m 17 #[.val (.long qa), .second, .val (.int (8 : Int32))] [(.int (1 : Int32)), (.int (8 : Int32))])) _
      refine XS.icmpNo X4.here hx rfl (hb hby d1_17) rfl (tlt (by decide : (1 : Int32) < (8 : Int32))).2.2.2 ?_
      show Steps p.tables e below (T4.setTop (mkF m 20 #[.val (.long qa), .second, .val (.int (8 : Int32))] [])) _
      refine XS.lloadN X4.here hx rfl (hb hby d1_20) rfl ?_
      show Steps p.tables e below (T4.setTop (mkF m 21 #[.val (.long qa), .second, .val (.int (8 : Int32))] [(.long qa)])) _
      refine XS.iconst X4.here hx rfl (hb hby d1_21) ?_
      show Steps p.tables e below (T4.setTop (mkF m 22 #[.val (.long qa), .second, .val (.int (8 : Int32))] [(.int (4 : Int32)), (.long qa)])) _
      refine XS.iloadN X4.here hx rfl (hb hby d1_22) rfl ?_
      show Steps p.tables e below (T4.setTop (mkF m 23 #[.val (.long qa), .second, .val (.int (8 : Int32))] [(.int (8 : Int32)), (.int (4 : Int32)), (.long qa)])) _
      refine XS.imul X4.here hx rfl (hb hby d1_23) rfl ?_
      show Steps p.tables e below (T4.setTop (mkF m 24 #[.val (.long qa), .second, .val (.int (8 : Int32))] [(.int ((4 : Int32) * (8 : Int32))), (.long qa)])) _
      rw [show ((4 : Int32) * (8 : Int32)) = (32 : Int32) from by decide]
      show Steps p.tables e below (T4.setTop (mkF m 24 #[.val (.long qa), .second, .val (.int (8 : Int32))] [(.int (32 : Int32)), (.long qa)])) _
      refine XS.lushr X4.here hx rfl (hb hby d1_24) rfl ?_
      show Steps p.tables e below (T4.setTop (mkF m 25 #[.val (.long qa), .second, .val (.int (8 : Int32))] [(.long ((qa.toUInt64 >>> ((32 : Int32) &&& 0x3f).toInt64.toUInt64).toInt64))])) _
      refine XS.lconst X4.here hx rfl (hb hby d1_25) ?_
      show Steps p.tables e below (T4.setTop (mkF m 26 #[.val (.long qa), .second, .val (.int (8 : Int32))] [(.long (0 : Int64)), (.long ((qa.toUInt64 >>> ((32 : Int32) &&& 0x3f).toInt64.toUInt64).toInt64))])) _
      refine XS.lcmp X4.here hx rfl (hb hby d1_26) rfl ?_
      exact k
    by_cases hc6 : ((qa.toUInt64 >>> ((32 : Int32) &&& 0x3f).toInt64.toUInt64).toInt64) = (0 : Int64)
    · skip
      refine own_pre (A := (T4.setTop (mkF m 30 #[.val (.long qa), .second, .val (.int (8 : Int32))] []))) ?_ ?_
      · intro t k
        refine XS.ifNo X4.here hx rfl (hb hby d1_27) rfl ((if0 _ _).trans (teq ((lw_eq ((qa.toUInt64 >>> ((32 : Int32) &&& 0x3f).toInt64.toUInt64).toInt64) (0 : Int64)).mpr hc6)).2) ?_
        exact k
      refine own_pre (A := (T4.setTop (mkF m 27 #[.val (.long qa), .second, .val (.int (4 : Int32))] [(.int (lcmpW ((qa.toUInt64 >>> ((16 : Int32) &&& 0x3f).toInt64.toUInt64).toInt64) (0 : Int64)))]))) ?_ ?_
      · intro t k
        show Steps p.tables e below (T4.setTop (mkF m 30 #[.val (.long qa), .second, .val (.int (8 : Int32))] [])) _
        refine XS.iloadN X4.here hx rfl (hb hby d1_30) rfl ?_
        show Steps p.tables e below (T4.setTop (mkF m 31 #[.val (.long qa), .second, .val (.int (8 : Int32))] [(.int (8 : Int32))])) _
        refine XS.iconst X4.here hx rfl (hb hby d1_31) ?_
        show Steps p.tables e below (T4.setTop (mkF m 32 #[.val (.long qa), .second, .val (.int (8 : Int32))] [(.int (2 : Int32)), (.int (8 : Int32))])) _
        refine XS.idiv X4.here hx rfl (hb hby d1_32) rfl (by decide) ?_
        show Steps p.tables e below (T4.setTop (mkF m 33 #[.val (.long qa), .second, .val (.int (8 : Int32))] [(.int ((8 : Int32) / (2 : Int32)))])) _
        rw [show ((8 : Int32) / (2 : Int32)) = (4 : Int32) from by decide]
        show Steps p.tables e below (T4.setTop (mkF m 33 #[.val (.long qa), .second, .val (.int (8 : Int32))] [(.int (4 : Int32))])) _
        refine XS.istoreN X4.here hx rfl (hb hby d1_33) rfl (l' := #[.val (.long qa), .second, .val (.int (4 : Int32))]) rfl ?_
        show Steps p.tables e below (T4.setTop (mkF m 34 #[.val (.long qa), .second, .val (.int (4 : Int32))] [])) _
        refine XS.goto X4.here hx rfl (pc0 := 34) (pc' := 15) rfl (hb hby d1_34) (by decide) (by decide) ?_
        show Steps p.tables e below (T4.setTop (mkF m 15 #[.val (.long qa), .second, .val (.int (4 : Int32))] [])) _
        refine XS.iloadN X4.here hx rfl (hb hby d1_15) rfl ?_
        show Steps p.tables e below (T4.setTop (mkF m 16 #[.val (.long qa), .second, .val (.int (4 : Int32))] [(.int (4 : Int32))])) _
        refine XS.iconst X4.here hx rfl (hb hby d1_16) ?_
        show Steps p.tables e below (T4.setTop (mkF m 17 #[.val (.long qa), .second, .val (.int (4 : Int32))] [(.int (1 : Int32)), (.int (4 : Int32))])) _
        refine XS.icmpNo X4.here hx rfl (hb hby d1_17) rfl (tlt (by decide : (1 : Int32) < (4 : Int32))).2.2.2 ?_
        show Steps p.tables e below (T4.setTop (mkF m 20 #[.val (.long qa), .second, .val (.int (4 : Int32))] [])) _
        refine XS.lloadN X4.here hx rfl (hb hby d1_20) rfl ?_
        show Steps p.tables e below (T4.setTop (mkF m 21 #[.val (.long qa), .second, .val (.int (4 : Int32))] [(.long qa)])) _
        refine XS.iconst X4.here hx rfl (hb hby d1_21) ?_
        show Steps p.tables e below (T4.setTop (mkF m 22 #[.val (.long qa), .second, .val (.int (4 : Int32))] [(.int (4 : Int32)), (.long qa)])) _
        refine XS.iloadN X4.here hx rfl (hb hby d1_22) rfl ?_
        show Steps p.tables e below (T4.setTop (mkF m 23 #[.val (.long qa), .second, .val (.int (4 : Int32))] [(.int (4 : Int32)), (.int (4 : Int32)), (.long qa)])) _
        refine XS.imul X4.here hx rfl (hb hby d1_23) rfl ?_
        show Steps p.tables e below (T4.setTop (mkF m 24 #[.val (.long qa), .second, .val (.int (4 : Int32))] [(.int ((4 : Int32) * (4 : Int32))), (.long qa)])) _
        rw [show ((4 : Int32) * (4 : Int32)) = (16 : Int32) from by decide]
        show Steps p.tables e below (T4.setTop (mkF m 24 #[.val (.long qa), .second, .val (.int (4 : Int32))] [(.int (16 : Int32)), (.long qa)])) _
        refine XS.lushr X4.here hx rfl (hb hby d1_24) rfl ?_
        show Steps p.tables e below (T4.setTop (mkF m 25 #[.val (.long qa), .second, .val (.int (4 : Int32))] [(.long ((qa.toUInt64 >>> ((16 : Int32) &&& 0x3f).toInt64.toUInt64).toInt64))])) _
        refine XS.lconst X4.here hx rfl (hb hby d1_25) ?_
        show Steps p.tables e below (T4.setTop (mkF m 26 #[.val (.long qa), .second, .val (.int (4 : Int32))] [(.long (0 : Int64)), (.long ((qa.toUInt64 >>> ((16 : Int32) &&& 0x3f).toInt64.toUInt64).toInt64))])) _
        refine XS.lcmp X4.here hx rfl (hb hby d1_26) rfl ?_
        exact k
      by_cases hc7 : ((qa.toUInt64 >>> ((16 : Int32) &&& 0x3f).toInt64.toUInt64).toInt64) = (0 : Int64)
      · skip
        refine own_pre (A := (T4.setTop (mkF m 30 #[.val (.long qa), .second, .val (.int (4 : Int32))] []))) ?_ ?_
        · intro t k
          refine XS.ifNo X4.here hx rfl (hb hby d1_27) rfl ((if0 _ _).trans (teq ((lw_eq ((qa.toUInt64 >>> ((16 : Int32) &&& 0x3f).toInt64.toUInt64).toInt64) (0 : Int64)).mpr hc7)).2) ?_
          exact k
        refine own_pre (A := (T4.setTop (mkF m 27 #[.val (.long qa), .second, .val (.int (2 : Int32))] [(.int (lcmpW ((qa.toUInt64 >>> ((8 : Int32) &&& 0x3f).toInt64.toUInt64).toInt64) (0 : Int64)))]))) ?_ ?_
        · intro t k
          show Steps p.tables e below (T4.setTop (mkF m 30 #[.val (.long qa), .second, .val (.int (4 : Int32))] [])) _
          refine XS.iloadN X4.here hx rfl (hb hby d1_30) rfl ?_
          show Steps p.tables e below (T4.setTop (mkF m 31 #[.val (.long qa), .second, .val (.int (4 : Int32))] [(.int (4 : Int32))])) _
          refine XS.iconst X4.here hx rfl (hb hby d1_31) ?_
          show Steps p.tables e below (T4.setTop (mkF m 32 #[.val (.long qa), .second, .val (.int (4 : Int32))] [(.int (2 : Int32)), (.int (4 : Int32))])) _
          refine XS.idiv X4.here hx rfl (hb hby d1_32) rfl (by decide) ?_
          show Steps p.tables e below (T4.setTop (mkF m 33 #[.val (.long qa), .second, .val (.int (4 : Int32))] [(.int ((4 : Int32) / (2 : Int32)))])) _
          rw [show ((4 : Int32) / (2 : Int32)) = (2 : Int32) from by decide]
          show Steps p.tables e below (T4.setTop (mkF m 33 #[.val (.long qa), .second, .val (.int (4 : Int32))] [(.int (2 : Int32))])) _
          refine XS.istoreN X4.here hx rfl (hb hby d1_33) rfl (l' := #[.val (.long qa), .second, .val (.int (2 : Int32))]) rfl ?_
          show Steps p.tables e below (T4.setTop (mkF m 34 #[.val (.long qa), .second, .val (.int (2 : Int32))] [])) _
          refine XS.goto X4.here hx rfl (pc0 := 34) (pc' := 15) rfl (hb hby d1_34) (by decide) (by decide) ?_
          show Steps p.tables e below (T4.setTop (mkF m 15 #[.val (.long qa), .second, .val (.int (2 : Int32))] [])) _
          refine XS.iloadN X4.here hx rfl (hb hby d1_15) rfl ?_
          show Steps p.tables e below (T4.setTop (mkF m 16 #[.val (.long qa), .second, .val (.int (2 : Int32))] [(.int (2 : Int32))])) _
          refine XS.iconst X4.here hx rfl (hb hby d1_16) ?_
          show Steps p.tables e below (T4.setTop (mkF m 17 #[.val (.long qa), .second, .val (.int (2 : Int32))] [(.int (1 : Int32)), (.int (2 : Int32))])) _
          refine XS.icmpNo X4.here hx rfl (hb hby d1_17) rfl (tlt (by decide : (1 : Int32) < (2 : Int32))).2.2.2 ?_
          show Steps p.tables e below (T4.setTop (mkF m 20 #[.val (.long qa), .second, .val (.int (2 : Int32))] [])) _
          refine XS.lloadN X4.here hx rfl (hb hby d1_20) rfl ?_
          show Steps p.tables e below (T4.setTop (mkF m 21 #[.val (.long qa), .second, .val (.int (2 : Int32))] [(.long qa)])) _
          refine XS.iconst X4.here hx rfl (hb hby d1_21) ?_
          show Steps p.tables e below (T4.setTop (mkF m 22 #[.val (.long qa), .second, .val (.int (2 : Int32))] [(.int (4 : Int32)), (.long qa)])) _
          refine XS.iloadN X4.here hx rfl (hb hby d1_22) rfl ?_
          show Steps p.tables e below (T4.setTop (mkF m 23 #[.val (.long qa), .second, .val (.int (2 : Int32))] [(.int (2 : Int32)), (.int (4 : Int32)), (.long qa)])) _
          refine XS.imul X4.here hx rfl (hb hby d1_23) rfl ?_
          show Steps p.tables e below (T4.setTop (mkF m 24 #[.val (.long qa), .second, .val (.int (2 : Int32))] [(.int ((4 : Int32) * (2 : Int32))), (.long qa)])) _
          rw [show ((4 : Int32) * (2 : Int32)) = (8 : Int32) from by decide]
          show Steps p.tables e below (T4.setTop (mkF m 24 #[.val (.long qa), .second, .val (.int (2 : Int32))] [(.int (8 : Int32)), (.long qa)])) _
          refine XS.lushr X4.here hx rfl (hb hby d1_24) rfl ?_
          show Steps p.tables e below (T4.setTop (mkF m 25 #[.val (.long qa), .second, .val (.int (2 : Int32))] [(.long ((qa.toUInt64 >>> ((8 : Int32) &&& 0x3f).toInt64.toUInt64).toInt64))])) _
          refine XS.lconst X4.here hx rfl (hb hby d1_25) ?_
          show Steps p.tables e below (T4.setTop (mkF m 26 #[.val (.long qa), .second, .val (.int (2 : Int32))] [(.long (0 : Int64)), (.long ((qa.toUInt64 >>> ((8 : Int32) &&& 0x3f).toInt64.toUInt64).toInt64))])) _
          refine XS.lcmp X4.here hx rfl (hb hby d1_26) rfl ?_
          exact k
        by_cases hc8 : ((qa.toUInt64 >>> ((8 : Int32) &&& 0x3f).toInt64.toUInt64).toInt64) = (0 : Int64)
        · skip
          refine own_pre (A := (T4.setTop (mkF m 30 #[.val (.long qa), .second, .val (.int (2 : Int32))] []))) ?_ ?_
          · intro t k
            refine XS.ifNo X4.here hx rfl (hb hby d1_27) rfl ((if0 _ _).trans (teq ((lw_eq ((qa.toUInt64 >>> ((8 : Int32) &&& 0x3f).toInt64.toUInt64).toInt64) (0 : Int64)).mpr hc8)).2) ?_
            exact k
          refine own_pre (A := (T4.setTop (mkF m 40 #[.val (.long qa), .second, .val (.int (1 : Int32))] [(.int (2 : Int32))]))) ?_ ?_
          · intro t k
            show Steps p.tables e below (T4.setTop (mkF m 30 #[.val (.long qa), .second, .val (.int (2 : Int32))] [])) _
            refine XS.iloadN X4.here hx rfl (hb hby d1_30) rfl ?_
            show Steps p.tables e below (T4.setTop (mkF m 31 #[.val (.long qa), .second, .val (.int (2 : Int32))] [(.int (2 : Int32))])) _
            refine XS.iconst X4.here hx rfl (hb hby d1_31) ?_
            show Steps p.tables e below (T4.setTop (mkF m 32 #[.val (.long qa), .second, .val (.int (2 : Int32))] [(.int (2 : Int32)), (.int (2 : Int32))])) _
            refine XS.idiv X4.here hx rfl (hb hby d1_32) rfl (by decide) ?_
            show Steps p.tables e below (T4.setTop (mkF m 33 #[.val (.long qa), .second, .val (.int (2 : Int32))] [(.int ((2 : Int32) / (2 : Int32)))])) _
            rw [show ((2 : Int32) / (2 : Int32)) = (1 : Int32) from by decide]
            show Steps p.tables e below (T4.setTop (mkF m 33 #[.val (.long qa), .second, .val (.int (2 : Int32))] [(.int (1 : Int32))])) _
            refine XS.istoreN X4.here hx rfl (hb hby d1_33) rfl (l' := #[.val (.long qa), .second, .val (.int (1 : Int32))]) rfl ?_
            show Steps p.tables e below (T4.setTop (mkF m 34 #[.val (.long qa), .second, .val (.int (1 : Int32))] [])) _
            refine XS.goto X4.here hx rfl (pc0 := 34) (pc' := 15) rfl (hb hby d1_34) (by decide) (by decide) ?_
            show Steps p.tables e below (T4.setTop (mkF m 15 #[.val (.long qa), .second, .val (.int (1 : Int32))] [])) _
            refine XS.iloadN X4.here hx rfl (hb hby d1_15) rfl ?_
            show Steps p.tables e below (T4.setTop (mkF m 16 #[.val (.long qa), .second, .val (.int (1 : Int32))] [(.int (1 : Int32))])) _
            refine XS.iconst X4.here hx rfl (hb hby d1_16) ?_
            show Steps p.tables e below (T4.setTop (mkF m 17 #[.val (.long qa), .second, .val (.int (1 : Int32))] [(.int (1 : Int32)), (.int (1 : Int32))])) _
            refine XS.icmpYes X4.here hx rfl (pc0 := 17) (pc' := 37) rfl (hb hby d1_17) rfl (flt (by decide : ¬ ((1 : Int32) < (1 : Int32)))).2.2.2 (by decide) (by decide) ?_
            show Steps p.tables e below (T4.setTop (mkF m 37 #[.val (.long qa), .second, .val (.int (1 : Int32))] [])) _
            refine XS.iconst X4.here hx rfl (hb hby d1_37) ?_
            show Steps p.tables e below (T4.setTop (mkF m 38 #[.val (.long qa), .second, .val (.int (1 : Int32))] [(.int (1 : Int32))])) _
            refine XS.iloadN X4.here hx rfl (hb hby d1_38) rfl ?_
            show Steps p.tables e below (T4.setTop (mkF m 39 #[.val (.long qa), .second, .val (.int (1 : Int32))] [(.int (1 : Int32)), (.int (1 : Int32))])) _
            refine XS.iadd X4.here hx rfl (hb hby d1_39) rfl ?_
            show Steps p.tables e below (T4.setTop (mkF m 40 #[.val (.long qa), .second, .val (.int (1 : Int32))] [(.int ((1 : Int32) + (1 : Int32)))])) _
            rw [show ((1 : Int32) + (1 : Int32)) = (2 : Int32) from by decide]
            exact k
          have hz : own_hl qa = (2 : Int32) := by simp only [own_hl, if_neg hc5, if_pos hc6, if_pos hc7, if_pos hc8]
          obtain ⟨fs, hr, hrun, hended, hW, hsame⟩ := X4.leave (hlocks := BodyLoose.notSynchronized Bd) (v := some (.int (2 : Int32))) (fun h => by rw [Bd.returns] at h; cases h)
          refine ⟨_, _, retOut X4 hx Bd.returns rfl (Or.inl ⟨rfl, Or.inl rfl, _, rfl⟩) (hb hby d1_40) hr, hrun, hended, _, _, rfl, ?_, ⟨_, rfl⟩, hW, hsame.mono (by decide) (by decide)⟩
          show own_Q1 qa h0 n0 _ T4.heap _
          rw [eq4]
          exact ⟨by rw [hz], N4, rfl⟩
        · skip
          refine own_pre (A := (T4.setTop (mkF m 37 #[.val (.long qa), .second, .val (.int (2 : Int32))] []))) ?_ ?_
          · intro t k
            refine XS.ifYes X4.here hx rfl (pc0 := 27) (pc' := 37) rfl (hb hby d1_27) rfl ((if0 _ _).trans (feq (fun q => hc8 ((lw_eq ((qa.toUInt64 >>> ((8 : Int32) &&& 0x3f).toInt64.toUInt64).toInt64) (0 : Int64)).mp q))).2) (by decide) (by decide) ?_
            exact k
          refine own_pre (A := (T4.setTop (mkF m 40 #[.val (.long qa), .second, .val (.int (2 : Int32))] [(.int (3 : Int32))]))) ?_ ?_
          · intro t k
            show Steps p.tables e below (T4.setTop (mkF m 37 #[.val (.long qa), .second, .val (.int (2 : Int32))] [])) _
            refine XS.iconst X4.here hx rfl (hb hby d1_37) ?_
            show Steps p.tables e below (T4.setTop (mkF m 38 #[.val (.long qa), .second, .val (.int (2 : Int32))] [(.int (1 : Int32))])) _
            refine XS.iloadN X4.here hx rfl (hb hby d1_38) rfl ?_
            show Steps p.tables e below (T4.setTop (mkF m 39 #[.val (.long qa), .second, .val (.int (2 : Int32))] [(.int (2 : Int32)), (.int (1 : Int32))])) _
            refine XS.iadd X4.here hx rfl (hb hby d1_39) rfl ?_
            show Steps p.tables e below (T4.setTop (mkF m 40 #[.val (.long qa), .second, .val (.int (2 : Int32))] [(.int ((1 : Int32) + (2 : Int32)))])) _
            rw [show ((1 : Int32) + (2 : Int32)) = (3 : Int32) from by decide]
            exact k
          have hz : own_hl qa = (3 : Int32) := by simp only [own_hl, if_neg hc5, if_pos hc6, if_pos hc7, if_neg hc8]
          obtain ⟨fs, hr, hrun, hended, hW, hsame⟩ := X4.leave (hlocks := BodyLoose.notSynchronized Bd) (v := some (.int (3 : Int32))) (fun h => by rw [Bd.returns] at h; cases h)
          refine ⟨_, _, retOut X4 hx Bd.returns rfl (Or.inl ⟨rfl, Or.inl rfl, _, rfl⟩) (hb hby d1_40) hr, hrun, hended, _, _, rfl, ?_, ⟨_, rfl⟩, hW, hsame.mono (by decide) (by decide)⟩
          show own_Q1 qa h0 n0 _ T4.heap _
          rw [eq4]
          exact ⟨by rw [hz], N4, rfl⟩
      · skip
        refine own_pre (A := (T4.setTop (mkF m 37 #[.val (.long qa), .second, .val (.int (4 : Int32))] []))) ?_ ?_
        · intro t k
          refine XS.ifYes X4.here hx rfl (pc0 := 27) (pc' := 37) rfl (hb hby d1_27) rfl ((if0 _ _).trans (feq (fun q => hc7 ((lw_eq ((qa.toUInt64 >>> ((16 : Int32) &&& 0x3f).toInt64.toUInt64).toInt64) (0 : Int64)).mp q))).2) (by decide) (by decide) ?_
          exact k
        refine own_pre (A := (T4.setTop (mkF m 40 #[.val (.long qa), .second, .val (.int (4 : Int32))] [(.int (5 : Int32))]))) ?_ ?_
        · intro t k
          show Steps p.tables e below (T4.setTop (mkF m 37 #[.val (.long qa), .second, .val (.int (4 : Int32))] [])) _
          refine XS.iconst X4.here hx rfl (hb hby d1_37) ?_
          show Steps p.tables e below (T4.setTop (mkF m 38 #[.val (.long qa), .second, .val (.int (4 : Int32))] [(.int (1 : Int32))])) _
          refine XS.iloadN X4.here hx rfl (hb hby d1_38) rfl ?_
          show Steps p.tables e below (T4.setTop (mkF m 39 #[.val (.long qa), .second, .val (.int (4 : Int32))] [(.int (4 : Int32)), (.int (1 : Int32))])) _
          refine XS.iadd X4.here hx rfl (hb hby d1_39) rfl ?_
          show Steps p.tables e below (T4.setTop (mkF m 40 #[.val (.long qa), .second, .val (.int (4 : Int32))] [(.int ((1 : Int32) + (4 : Int32)))])) _
          rw [show ((1 : Int32) + (4 : Int32)) = (5 : Int32) from by decide]
          exact k
        have hz : own_hl qa = (5 : Int32) := by simp only [own_hl, if_neg hc5, if_pos hc6, if_neg hc7]
        obtain ⟨fs, hr, hrun, hended, hW, hsame⟩ := X4.leave (hlocks := BodyLoose.notSynchronized Bd) (v := some (.int (5 : Int32))) (fun h => by rw [Bd.returns] at h; cases h)
        refine ⟨_, _, retOut X4 hx Bd.returns rfl (Or.inl ⟨rfl, Or.inl rfl, _, rfl⟩) (hb hby d1_40) hr, hrun, hended, _, _, rfl, ?_, ⟨_, rfl⟩, hW, hsame.mono (by decide) (by decide)⟩
        show own_Q1 qa h0 n0 _ T4.heap _
        rw [eq4]
        exact ⟨by rw [hz], N4, rfl⟩
    · skip
      refine own_pre (A := (T4.setTop (mkF m 37 #[.val (.long qa), .second, .val (.int (8 : Int32))] []))) ?_ ?_
      · intro t k
        refine XS.ifYes X4.here hx rfl (pc0 := 27) (pc' := 37) rfl (hb hby d1_27) rfl ((if0 _ _).trans (feq (fun q => hc6 ((lw_eq ((qa.toUInt64 >>> ((32 : Int32) &&& 0x3f).toInt64.toUInt64).toInt64) (0 : Int64)).mp q))).2) (by decide) (by decide) ?_
        exact k
      refine own_pre (A := (T4.setTop (mkF m 40 #[.val (.long qa), .second, .val (.int (8 : Int32))] [(.int (9 : Int32))]))) ?_ ?_
      · intro t k
        show Steps p.tables e below (T4.setTop (mkF m 37 #[.val (.long qa), .second, .val (.int (8 : Int32))] [])) _
        refine XS.iconst X4.here hx rfl (hb hby d1_37) ?_
        show Steps p.tables e below (T4.setTop (mkF m 38 #[.val (.long qa), .second, .val (.int (8 : Int32))] [(.int (1 : Int32))])) _
        refine XS.iloadN X4.here hx rfl (hb hby d1_38) rfl ?_
        show Steps p.tables e below (T4.setTop (mkF m 39 #[.val (.long qa), .second, .val (.int (8 : Int32))] [(.int (8 : Int32)), (.int (1 : Int32))])) _
        refine XS.iadd X4.here hx rfl (hb hby d1_39) rfl ?_
        show Steps p.tables e below (T4.setTop (mkF m 40 #[.val (.long qa), .second, .val (.int (8 : Int32))] [(.int ((1 : Int32) + (8 : Int32)))])) _
        rw [show ((1 : Int32) + (8 : Int32)) = (9 : Int32) from by decide]
        exact k
      have hz : own_hl qa = (9 : Int32) := by simp only [own_hl, if_neg hc5, if_neg hc6]
      obtain ⟨fs, hr, hrun, hended, hW, hsame⟩ := X4.leave (hlocks := BodyLoose.notSynchronized Bd) (v := some (.int (9 : Int32))) (fun h => by rw [Bd.returns] at h; cases h)
      refine ⟨_, _, retOut X4 hx Bd.returns rfl (Or.inl ⟨rfl, Or.inl rfl, _, rfl⟩) (hb hby d1_40) hr, hrun, hended, _, _, rfl, ?_, ⟨_, rfl⟩, hW, hsame.mono (by decide) (by decide)⟩
      show own_Q1 qa h0 n0 _ T4.heap _
      rw [eq4]
      exact ⟨by rw [hz], N4, rfl⟩
theorem d4_0 : decode method_2_code 0 = .ok (.lload_n 0, 1) := by decide +kernel
theorem d4_1 : decode method_2_code 1 = .ok (.lconst 0, 1) := by decide +kernel
theorem d4_2 : decode method_2_code 2 = .ok (.lcmp, 1) := by decide +kernel
theorem d4_3 : decode method_2_code 3 = .ok (.ifCond .lt 13, 3) := by decide +kernel
theorem d4_6 : decode method_2_code 6 = .ok (.lload_n 0, 1) := by decide +kernel
theorem d4_7 : decode method_2_code 7 = .ok (.ldc2_w 7, 3) := by decide +kernel
theorem d4_10 : decode method_2_code 10 = .ok (.lcmp, 1) := by decide +kernel
theorem d4_11 : decode method_2_code 11 = .ok (.ifCond .ge 5, 3) := by decide +kernel
theorem d4_14 : decode method_2_code 14 = .ok (.iconst 1, 1) := by decide +kernel
theorem d4_15 : decode method_2_code 15 = .ok (.ireturn, 1) := by decide +kernel
theorem d4_16 : decode method_2_code 16 = .ok (.lload_n 0, 1) := by decide +kernel
theorem d4_17 : decode method_2_code 17 = .ok (.bipush 8, 2) := by decide +kernel
theorem d4_19 : decode method_2_code 19 = .ok (.lushr, 1) := by decide +kernel
theorem d4_20 : decode method_2_code 20 = .ok (.lconst 0, 1) := by decide +kernel
theorem d4_21 : decode method_2_code 21 = .ok (.lcmp, 1) := by decide +kernel
theorem d4_22 : decode method_2_code 22 = .ok (.ifCond .ne 5, 3) := by decide +kernel
theorem d4_25 : decode method_2_code 25 = .ok (.iconst 2, 1) := by decide +kernel
theorem d4_26 : decode method_2_code 26 = .ok (.ireturn, 1) := by decide +kernel
theorem d4_27 : decode method_2_code 27 = .ok (.lload_n 0, 1) := by decide +kernel
theorem d4_28 : decode method_2_code 28 = .ok (.bipush 16, 2) := by decide +kernel
theorem d4_30 : decode method_2_code 30 = .ok (.lushr, 1) := by decide +kernel
theorem d4_31 : decode method_2_code 31 = .ok (.lconst 0, 1) := by decide +kernel
theorem d4_32 : decode method_2_code 32 = .ok (.lcmp, 1) := by decide +kernel
theorem d4_33 : decode method_2_code 33 = .ok (.ifCond .ne 5, 3) := by decide +kernel
theorem d4_36 : decode method_2_code 36 = .ok (.iconst 3, 1) := by decide +kernel
theorem d4_37 : decode method_2_code 37 = .ok (.ireturn, 1) := by decide +kernel
theorem d4_38 : decode method_2_code 38 = .ok (.lload_n 0, 1) := by decide +kernel
theorem d4_39 : decode method_2_code 39 = .ok (.bipush 32, 2) := by decide +kernel
theorem d4_41 : decode method_2_code 41 = .ok (.lushr, 1) := by decide +kernel
theorem d4_42 : decode method_2_code 42 = .ok (.lconst 0, 1) := by decide +kernel
theorem d4_43 : decode method_2_code 43 = .ok (.lcmp, 1) := by decide +kernel
theorem d4_44 : decode method_2_code 44 = .ok (.ifCond .ne 5, 3) := by decide +kernel
theorem d4_47 : decode method_2_code 47 = .ok (.iconst 5, 1) := by decide +kernel
theorem d4_48 : decode method_2_code 48 = .ok (.ireturn, 1) := by decide +kernel
theorem d4_49 : decode method_2_code 49 = .ok (.bipush 9, 2) := by decide +kernel
theorem d4_51 : decode method_2_code 51 = .ok (.ireturn, 1) := by decide +kernel
theorem own_pn4 : plainName "com/example/sigillum/sigillum/cose/CborItemHeadLengthPinLaw" = true := by first | (simp [plainName, overriddenIn]; done) | decide +kernel
theorem own_ef4 (m : MethodId) (x0 : Int64) : entryFrame m #[(.long x0)] 2 = mkF m 0 #[.val (.long x0), .second] [] := by first | (simp [entryFrame, mkF, argsToLocals, Value.category]; done) | rfl
def own_exp (qa : Int64) : Int32 := (if qa < (0 : Int64) then (if ((qa.toUInt64 >>> ((8 : Int32) &&& 0x3f).toInt64.toUInt64).toInt64) = (0 : Int64) then (2 : Int32) else (if ((qa.toUInt64 >>> ((16 : Int32) &&& 0x3f).toInt64.toUInt64).toInt64) = (0 : Int64) then (3 : Int32) else (if ((qa.toUInt64 >>> ((32 : Int32) &&& 0x3f).toInt64.toUInt64).toInt64) = (0 : Int64) then (5 : Int32) else (9 : Int32)))) else (if qa < (24 : Int64) then (1 : Int32) else (if ((qa.toUInt64 >>> ((8 : Int32) &&& 0x3f).toInt64.toUInt64).toInt64) = (0 : Int64) then (2 : Int32) else (if ((qa.toUInt64 >>> ((16 : Int32) &&& 0x3f).toInt64.toUInt64).toInt64) = (0 : Int64) then (3 : Int32) else (if ((qa.toUInt64 >>> ((32 : Int32) &&& 0x3f).toInt64.toUInt64).toInt64) = (0 : Int64) then (5 : Int32) else (9 : Int32))))))
def own_Q4 (qa : Int64) (h0 : Heap) (n0 : Nat) (v : Option Value) (h : Heap) (L : List Loc) : Prop := v = some (.int (own_exp qa)) ∧ Fr n0 L ∧ h = h0
set_option maxRecDepth 65536 in
set_option maxHeartbeats 40000000 in
theorem rm4 (l : Launch) (Z : State) (a0 : Array Value) (hw : ∀ d ∈ tables_1, d.before a0 Z = true) (ws : List Jvm.Cond) (qa : Int64) (h0 : Heap) (n0 : Nat) (Z0 : n0 ≤ h0.size) :
    MetFree l (⟨"com/example/sigillum/sigillum/cose/CborItemHeadLengthPinLaw", "expected", "(J)I"⟩ : MethodName) (head1 (Jvm.Cond.code (⟨"com/example/sigillum/sigillum/cose/CborItemHeadLengthPinLaw", "expected", "(J)I"⟩ : MethodName) method_2_code 2 (some .int) :: ws) ({ frames := 0, cells := 0, slots := 0, locals := 0 } : Room)) (fun a U => a = #[(.long qa)] ∧ Z.Warmed39 U.vm ∧ U.heap = h0) (fun _ _ _ _ _ => True) (fun _ U o U' => ∃ v L, o = .returned v ∧ own_Q4 qa h0 n0 v U'.heap L ∧ FrameEnd U o U' L ({ frames := 0, cells := 0, slots := 0, locals := 0 } : Room).cells ({ frames := 0, cells := 0, slots := 0, locals := 0 } : Room).slots) := by
  refine MetFree.of_bodySF (plainFor_of_name own_pn4) hisR ?_
  intro p e s m args below meth c s₁ Bd hml0 hP hK
  obtain ⟨rfl, hZ, hh⟩ := hP
  have hx := Bd.exec
  have hby := Bd.bytes
  have hml : c.maxLocals = 2 := hml0
  have hown : s.vm.findClass "com/example/sigillum/sigillum/cose/CborItemHeadLengthPinLaw" = some m.cls := findClass_of_methodNamed Bd.named
  have hnm := (name_of_methodNamed Bd.named Bd.method).1
  have X0 : Stand p l e ({ frames := 0, cells := 0, slots := 0, locals := 0 } : Room) s m #[(.long qa)] below meth c s₁ [] 0 0 := Stand.of_body Bd
  have e0 : s₁.heap = h0 := by rw [← hh, Bd.state]; rfl
  have N0 := Fr.nil n0
  refine own_pre (A := (s₁.setTop (mkF m 0 #[.val (.long qa), .second] []))) (fun t k => castTop (own_ef4 m qa) k) ?_
  refine own_pre (A := (s₁.setTop (mkF m 3 #[.val (.long qa), .second] [(.int (lcmpW qa (0 : Int64)))]))) ?_ ?_
  · intro t k
    show Steps p.tables e below (s₁.setTop (mkF m 0 #[.val (.long qa), .second] [])) _
    refine XS.lloadN X0.here hx rfl (hb hby d4_0) rfl ?_
    show Steps p.tables e below (s₁.setTop (mkF m 1 #[.val (.long qa), .second] [(.long qa)])) _
    refine XS.lconst X0.here hx rfl (hb hby d4_1) ?_
    show Steps p.tables e below (s₁.setTop (mkF m 2 #[.val (.long qa), .second] [(.long (0 : Int64)), (.long qa)])) _
    refine XS.lcmp X0.here hx rfl (hb hby d4_2) rfl ?_
    exact k
  by_cases hc9 : qa < (0 : Int64)
  · skip
    refine own_pre (A := (s₁.setTop (mkF m 16 #[.val (.long qa), .second] []))) ?_ ?_
    · intro t k
      refine XS.ifYes X0.here hx rfl (pc0 := 3) (pc' := 16) rfl (hb hby d4_3) rfl ((if0 _ _).trans (tlt ((lw_lt qa (0 : Int64)).mpr hc9)).1) (by decide) (by decide) ?_
      exact k
    refine own_pre (A := (s₁.setTop (mkF m 22 #[.val (.long qa), .second] [(.int (lcmpW ((qa.toUInt64 >>> ((8 : Int32) &&& 0x3f).toInt64.toUInt64).toInt64) (0 : Int64)))]))) ?_ ?_
    · intro t k
      show Steps p.tables e below (s₁.setTop (mkF m 16 #[.val (.long qa), .second] [])) _
      refine XS.lloadN X0.here hx rfl (hb hby d4_16) rfl ?_
      show Steps p.tables e below (s₁.setTop (mkF m 17 #[.val (.long qa), .second] [(.long qa)])) _
      refine XS.bipush X0.here hx rfl (hb hby d4_17) ?_
      show Steps p.tables e below (s₁.setTop (mkF m 19 #[.val (.long qa), .second] [(.int (8 : Int32)), (.long qa)])) _
      refine XS.lushr X0.here hx rfl (hb hby d4_19) rfl ?_
      show Steps p.tables e below (s₁.setTop (mkF m 20 #[.val (.long qa), .second] [(.long ((qa.toUInt64 >>> ((8 : Int32) &&& 0x3f).toInt64.toUInt64).toInt64))])) _
      refine XS.lconst X0.here hx rfl (hb hby d4_20) ?_
      show Steps p.tables e below (s₁.setTop (mkF m 21 #[.val (.long qa), .second] [(.long (0 : Int64)), (.long ((qa.toUInt64 >>> ((8 : Int32) &&& 0x3f).toInt64.toUInt64).toInt64))])) _
      refine XS.lcmp X0.here hx rfl (hb hby d4_21) rfl ?_
      exact k
    by_cases hc10 : ((qa.toUInt64 >>> ((8 : Int32) &&& 0x3f).toInt64.toUInt64).toInt64) = (0 : Int64)
    · skip
      refine own_pre (A := (s₁.setTop (mkF m 25 #[.val (.long qa), .second] []))) ?_ ?_
      · intro t k
        refine XS.ifNo X0.here hx rfl (hb hby d4_22) rfl ((if0 _ _).trans (teq ((lw_eq ((qa.toUInt64 >>> ((8 : Int32) &&& 0x3f).toInt64.toUInt64).toInt64) (0 : Int64)).mpr hc10)).2) ?_
        exact k
      refine own_pre (A := (s₁.setTop (mkF m 26 #[.val (.long qa), .second] [(.int (2 : Int32))]))) ?_ ?_
      · intro t k
        show Steps p.tables e below (s₁.setTop (mkF m 25 #[.val (.long qa), .second] [])) _
        refine XS.iconst X0.here hx rfl (hb hby d4_25) ?_
        exact k
      have hz : own_exp qa = (2 : Int32) := by simp only [own_exp, if_pos hc9, if_pos hc10]
      obtain ⟨fs, hr, hrun, hended, hW, hsame⟩ := X0.leave (hlocks := BodyLoose.notSynchronized Bd) (v := some (.int (2 : Int32))) (fun h => by rw [Bd.returns] at h; cases h)
      refine ⟨_, _, retOut X0 hx Bd.returns rfl (Or.inl ⟨rfl, Or.inl rfl, _, rfl⟩) (hb hby d4_26) hr, hrun, hended, _, _, rfl, ?_, ⟨_, rfl⟩, hW, hsame.mono (by decide) (by decide)⟩
      show own_Q4 qa h0 n0 _ s₁.heap _
      rw [e0]
      exact ⟨by rw [hz], N0, rfl⟩
    · skip
      refine own_pre (A := (s₁.setTop (mkF m 27 #[.val (.long qa), .second] []))) ?_ ?_
      · intro t k
        refine XS.ifYes X0.here hx rfl (pc0 := 22) (pc' := 27) rfl (hb hby d4_22) rfl ((if0 _ _).trans (feq (fun q => hc10 ((lw_eq ((qa.toUInt64 >>> ((8 : Int32) &&& 0x3f).toInt64.toUInt64).toInt64) (0 : Int64)).mp q))).2) (by decide) (by decide) ?_
        exact k
      refine own_pre (A := (s₁.setTop (mkF m 33 #[.val (.long qa), .second] [(.int (lcmpW ((qa.toUInt64 >>> ((16 : Int32) &&& 0x3f).toInt64.toUInt64).toInt64) (0 : Int64)))]))) ?_ ?_
      · intro t k
        show Steps p.tables e below (s₁.setTop (mkF m 27 #[.val (.long qa), .second] [])) _
        refine XS.lloadN X0.here hx rfl (hb hby d4_27) rfl ?_
        show Steps p.tables e below (s₁.setTop (mkF m 28 #[.val (.long qa), .second] [(.long qa)])) _
        refine XS.bipush X0.here hx rfl (hb hby d4_28) ?_
        show Steps p.tables e below (s₁.setTop (mkF m 30 #[.val (.long qa), .second] [(.int (16 : Int32)), (.long qa)])) _
        refine XS.lushr X0.here hx rfl (hb hby d4_30) rfl ?_
        show Steps p.tables e below (s₁.setTop (mkF m 31 #[.val (.long qa), .second] [(.long ((qa.toUInt64 >>> ((16 : Int32) &&& 0x3f).toInt64.toUInt64).toInt64))])) _
        refine XS.lconst X0.here hx rfl (hb hby d4_31) ?_
        show Steps p.tables e below (s₁.setTop (mkF m 32 #[.val (.long qa), .second] [(.long (0 : Int64)), (.long ((qa.toUInt64 >>> ((16 : Int32) &&& 0x3f).toInt64.toUInt64).toInt64))])) _
        refine XS.lcmp X0.here hx rfl (hb hby d4_32) rfl ?_
        exact k
      by_cases hc11 : ((qa.toUInt64 >>> ((16 : Int32) &&& 0x3f).toInt64.toUInt64).toInt64) = (0 : Int64)
      · skip
        refine own_pre (A := (s₁.setTop (mkF m 36 #[.val (.long qa), .second] []))) ?_ ?_
        · intro t k
          refine XS.ifNo X0.here hx rfl (hb hby d4_33) rfl ((if0 _ _).trans (teq ((lw_eq ((qa.toUInt64 >>> ((16 : Int32) &&& 0x3f).toInt64.toUInt64).toInt64) (0 : Int64)).mpr hc11)).2) ?_
          exact k
        refine own_pre (A := (s₁.setTop (mkF m 37 #[.val (.long qa), .second] [(.int (3 : Int32))]))) ?_ ?_
        · intro t k
          show Steps p.tables e below (s₁.setTop (mkF m 36 #[.val (.long qa), .second] [])) _
          refine XS.iconst X0.here hx rfl (hb hby d4_36) ?_
          exact k
        have hz : own_exp qa = (3 : Int32) := by simp only [own_exp, if_pos hc9, if_neg hc10, if_pos hc11]
        obtain ⟨fs, hr, hrun, hended, hW, hsame⟩ := X0.leave (hlocks := BodyLoose.notSynchronized Bd) (v := some (.int (3 : Int32))) (fun h => by rw [Bd.returns] at h; cases h)
        refine ⟨_, _, retOut X0 hx Bd.returns rfl (Or.inl ⟨rfl, Or.inl rfl, _, rfl⟩) (hb hby d4_37) hr, hrun, hended, _, _, rfl, ?_, ⟨_, rfl⟩, hW, hsame.mono (by decide) (by decide)⟩
        show own_Q4 qa h0 n0 _ s₁.heap _
        rw [e0]
        exact ⟨by rw [hz], N0, rfl⟩
      · skip
        refine own_pre (A := (s₁.setTop (mkF m 38 #[.val (.long qa), .second] []))) ?_ ?_
        · intro t k
          refine XS.ifYes X0.here hx rfl (pc0 := 33) (pc' := 38) rfl (hb hby d4_33) rfl ((if0 _ _).trans (feq (fun q => hc11 ((lw_eq ((qa.toUInt64 >>> ((16 : Int32) &&& 0x3f).toInt64.toUInt64).toInt64) (0 : Int64)).mp q))).2) (by decide) (by decide) ?_
          exact k
        refine own_pre (A := (s₁.setTop (mkF m 44 #[.val (.long qa), .second] [(.int (lcmpW ((qa.toUInt64 >>> ((32 : Int32) &&& 0x3f).toInt64.toUInt64).toInt64) (0 : Int64)))]))) ?_ ?_
        · intro t k
          show Steps p.tables e below (s₁.setTop (mkF m 38 #[.val (.long qa), .second] [])) _
          refine XS.lloadN X0.here hx rfl (hb hby d4_38) rfl ?_
          show Steps p.tables e below (s₁.setTop (mkF m 39 #[.val (.long qa), .second] [(.long qa)])) _
          refine XS.bipush X0.here hx rfl (hb hby d4_39) ?_
          show Steps p.tables e below (s₁.setTop (mkF m 41 #[.val (.long qa), .second] [(.int (32 : Int32)), (.long qa)])) _
          refine XS.lushr X0.here hx rfl (hb hby d4_41) rfl ?_
          show Steps p.tables e below (s₁.setTop (mkF m 42 #[.val (.long qa), .second] [(.long ((qa.toUInt64 >>> ((32 : Int32) &&& 0x3f).toInt64.toUInt64).toInt64))])) _
          refine XS.lconst X0.here hx rfl (hb hby d4_42) ?_
          show Steps p.tables e below (s₁.setTop (mkF m 43 #[.val (.long qa), .second] [(.long (0 : Int64)), (.long ((qa.toUInt64 >>> ((32 : Int32) &&& 0x3f).toInt64.toUInt64).toInt64))])) _
          refine XS.lcmp X0.here hx rfl (hb hby d4_43) rfl ?_
          exact k
        by_cases hc12 : ((qa.toUInt64 >>> ((32 : Int32) &&& 0x3f).toInt64.toUInt64).toInt64) = (0 : Int64)
        · skip
          refine own_pre (A := (s₁.setTop (mkF m 47 #[.val (.long qa), .second] []))) ?_ ?_
          · intro t k
            refine XS.ifNo X0.here hx rfl (hb hby d4_44) rfl ((if0 _ _).trans (teq ((lw_eq ((qa.toUInt64 >>> ((32 : Int32) &&& 0x3f).toInt64.toUInt64).toInt64) (0 : Int64)).mpr hc12)).2) ?_
            exact k
          refine own_pre (A := (s₁.setTop (mkF m 48 #[.val (.long qa), .second] [(.int (5 : Int32))]))) ?_ ?_
          · intro t k
            show Steps p.tables e below (s₁.setTop (mkF m 47 #[.val (.long qa), .second] [])) _
            refine XS.iconst X0.here hx rfl (hb hby d4_47) ?_
            exact k
          have hz : own_exp qa = (5 : Int32) := by simp only [own_exp, if_pos hc9, if_neg hc10, if_neg hc11, if_pos hc12]
          obtain ⟨fs, hr, hrun, hended, hW, hsame⟩ := X0.leave (hlocks := BodyLoose.notSynchronized Bd) (v := some (.int (5 : Int32))) (fun h => by rw [Bd.returns] at h; cases h)
          refine ⟨_, _, retOut X0 hx Bd.returns rfl (Or.inl ⟨rfl, Or.inl rfl, _, rfl⟩) (hb hby d4_48) hr, hrun, hended, _, _, rfl, ?_, ⟨_, rfl⟩, hW, hsame.mono (by decide) (by decide)⟩
          show own_Q4 qa h0 n0 _ s₁.heap _
          rw [e0]
          exact ⟨by rw [hz], N0, rfl⟩
        · skip
          refine own_pre (A := (s₁.setTop (mkF m 49 #[.val (.long qa), .second] []))) ?_ ?_
          · intro t k
            refine XS.ifYes X0.here hx rfl (pc0 := 44) (pc' := 49) rfl (hb hby d4_44) rfl ((if0 _ _).trans (feq (fun q => hc12 ((lw_eq ((qa.toUInt64 >>> ((32 : Int32) &&& 0x3f).toInt64.toUInt64).toInt64) (0 : Int64)).mp q))).2) (by decide) (by decide) ?_
            exact k
          refine own_pre (A := (s₁.setTop (mkF m 51 #[.val (.long qa), .second] [(.int (9 : Int32))]))) ?_ ?_
          · intro t k
            show Steps p.tables e below (s₁.setTop (mkF m 49 #[.val (.long qa), .second] [])) _
            refine XS.bipush X0.here hx rfl (hb hby d4_49) ?_
            exact k
          have hz : own_exp qa = (9 : Int32) := by simp only [own_exp, if_pos hc9, if_neg hc10, if_neg hc11, if_neg hc12]
          obtain ⟨fs, hr, hrun, hended, hW, hsame⟩ := X0.leave (hlocks := BodyLoose.notSynchronized Bd) (v := some (.int (9 : Int32))) (fun h => by rw [Bd.returns] at h; cases h)
          refine ⟨_, _, retOut X0 hx Bd.returns rfl (Or.inl ⟨rfl, Or.inl rfl, _, rfl⟩) (hb hby d4_51) hr, hrun, hended, _, _, rfl, ?_, ⟨_, rfl⟩, hW, hsame.mono (by decide) (by decide)⟩
          show own_Q4 qa h0 n0 _ s₁.heap _
          rw [e0]
          exact ⟨by rw [hz], N0, rfl⟩
  · skip
    refine own_pre (A := (s₁.setTop (mkF m 6 #[.val (.long qa), .second] []))) ?_ ?_
    · intro t k
      refine XS.ifNo X0.here hx rfl (hb hby d4_3) rfl ((if0 _ _).trans (flt (fun q => hc9 ((lw_lt qa (0 : Int64)).mp q))).1) ?_
      exact k
    refine own_pre (A := (s₁.setTop (mkF m 11 #[.val (.long qa), .second] [(.int (lcmpW qa (24 : Int64)))]))) ?_ ?_
    · intro t k
      show Steps p.tables e below (s₁.setTop (mkF m 6 #[.val (.long qa), .second] [])) _
      refine XS.lloadN X0.here hx rfl (hb hby d4_6) rfl ?_
      show Steps p.tables e below (s₁.setTop (mkF m 7 #[.val (.long qa), .second] [(.long qa)])) _
      refine X0.ldc2Long hx hown (mvT hZ (own_w hw 17 rfl)) (g := (mkF m 7 #[.val (.long qa), .second] [(.long qa)])) rfl (hb hby d4_7) _ ?_
      show Steps p.tables e below (s₁.setTop (mkF m 10 #[.val (.long qa), .second] [(.long (24 : Int64)), (.long qa)])) _
      refine XS.lcmp X0.here hx rfl (hb hby d4_10) rfl ?_
      exact k
    by_cases hc13 : qa < (24 : Int64)
    · skip
      refine own_pre (A := (s₁.setTop (mkF m 14 #[.val (.long qa), .second] []))) ?_ ?_
      · intro t k
        refine XS.ifNo X0.here hx rfl (hb hby d4_11) rfl ((if0 _ _).trans (tlt ((lw_lt qa (24 : Int64)).mpr hc13)).2.1) ?_
        exact k
      refine own_pre (A := (s₁.setTop (mkF m 15 #[.val (.long qa), .second] [(.int (1 : Int32))]))) ?_ ?_
      · intro t k
        show Steps p.tables e below (s₁.setTop (mkF m 14 #[.val (.long qa), .second] [])) _
        refine XS.iconst X0.here hx rfl (hb hby d4_14) ?_
        exact k
      have hz : own_exp qa = (1 : Int32) := by simp only [own_exp, if_neg hc9, if_pos hc13]
      obtain ⟨fs, hr, hrun, hended, hW, hsame⟩ := X0.leave (hlocks := BodyLoose.notSynchronized Bd) (v := some (.int (1 : Int32))) (fun h => by rw [Bd.returns] at h; cases h)
      refine ⟨_, _, retOut X0 hx Bd.returns rfl (Or.inl ⟨rfl, Or.inl rfl, _, rfl⟩) (hb hby d4_15) hr, hrun, hended, _, _, rfl, ?_, ⟨_, rfl⟩, hW, hsame.mono (by decide) (by decide)⟩
      show own_Q4 qa h0 n0 _ s₁.heap _
      rw [e0]
      exact ⟨by rw [hz], N0, rfl⟩
    · skip
      refine own_pre (A := (s₁.setTop (mkF m 16 #[.val (.long qa), .second] []))) ?_ ?_
      · intro t k
        refine XS.ifYes X0.here hx rfl (pc0 := 11) (pc' := 16) rfl (hb hby d4_11) rfl ((if0 _ _).trans (flt (fun q => hc13 ((lw_lt qa (24 : Int64)).mp q))).2.1) (by decide) (by decide) ?_
        exact k
      refine own_pre (A := (s₁.setTop (mkF m 22 #[.val (.long qa), .second] [(.int (lcmpW ((qa.toUInt64 >>> ((8 : Int32) &&& 0x3f).toInt64.toUInt64).toInt64) (0 : Int64)))]))) ?_ ?_
      · intro t k
        show Steps p.tables e below (s₁.setTop (mkF m 16 #[.val (.long qa), .second] [])) _
        refine XS.lloadN X0.here hx rfl (hb hby d4_16) rfl ?_
        show Steps p.tables e below (s₁.setTop (mkF m 17 #[.val (.long qa), .second] [(.long qa)])) _
        refine XS.bipush X0.here hx rfl (hb hby d4_17) ?_
        show Steps p.tables e below (s₁.setTop (mkF m 19 #[.val (.long qa), .second] [(.int (8 : Int32)), (.long qa)])) _
        refine XS.lushr X0.here hx rfl (hb hby d4_19) rfl ?_
        show Steps p.tables e below (s₁.setTop (mkF m 20 #[.val (.long qa), .second] [(.long ((qa.toUInt64 >>> ((8 : Int32) &&& 0x3f).toInt64.toUInt64).toInt64))])) _
        refine XS.lconst X0.here hx rfl (hb hby d4_20) ?_
        show Steps p.tables e below (s₁.setTop (mkF m 21 #[.val (.long qa), .second] [(.long (0 : Int64)), (.long ((qa.toUInt64 >>> ((8 : Int32) &&& 0x3f).toInt64.toUInt64).toInt64))])) _
        refine XS.lcmp X0.here hx rfl (hb hby d4_21) rfl ?_
        exact k
      by_cases hc14 : ((qa.toUInt64 >>> ((8 : Int32) &&& 0x3f).toInt64.toUInt64).toInt64) = (0 : Int64)
      · skip
        refine own_pre (A := (s₁.setTop (mkF m 25 #[.val (.long qa), .second] []))) ?_ ?_
        · intro t k
          refine XS.ifNo X0.here hx rfl (hb hby d4_22) rfl ((if0 _ _).trans (teq ((lw_eq ((qa.toUInt64 >>> ((8 : Int32) &&& 0x3f).toInt64.toUInt64).toInt64) (0 : Int64)).mpr hc14)).2) ?_
          exact k
        refine own_pre (A := (s₁.setTop (mkF m 26 #[.val (.long qa), .second] [(.int (2 : Int32))]))) ?_ ?_
        · intro t k
          show Steps p.tables e below (s₁.setTop (mkF m 25 #[.val (.long qa), .second] [])) _
          refine XS.iconst X0.here hx rfl (hb hby d4_25) ?_
          exact k
        have hz : own_exp qa = (2 : Int32) := by simp only [own_exp, if_neg hc9, if_neg hc13, if_pos hc14]
        obtain ⟨fs, hr, hrun, hended, hW, hsame⟩ := X0.leave (hlocks := BodyLoose.notSynchronized Bd) (v := some (.int (2 : Int32))) (fun h => by rw [Bd.returns] at h; cases h)
        refine ⟨_, _, retOut X0 hx Bd.returns rfl (Or.inl ⟨rfl, Or.inl rfl, _, rfl⟩) (hb hby d4_26) hr, hrun, hended, _, _, rfl, ?_, ⟨_, rfl⟩, hW, hsame.mono (by decide) (by decide)⟩
        show own_Q4 qa h0 n0 _ s₁.heap _
        rw [e0]
        exact ⟨by rw [hz], N0, rfl⟩
      · skip
        refine own_pre (A := (s₁.setTop (mkF m 27 #[.val (.long qa), .second] []))) ?_ ?_
        · intro t k
          refine XS.ifYes X0.here hx rfl (pc0 := 22) (pc' := 27) rfl (hb hby d4_22) rfl ((if0 _ _).trans (feq (fun q => hc14 ((lw_eq ((qa.toUInt64 >>> ((8 : Int32) &&& 0x3f).toInt64.toUInt64).toInt64) (0 : Int64)).mp q))).2) (by decide) (by decide) ?_
          exact k
        refine own_pre (A := (s₁.setTop (mkF m 33 #[.val (.long qa), .second] [(.int (lcmpW ((qa.toUInt64 >>> ((16 : Int32) &&& 0x3f).toInt64.toUInt64).toInt64) (0 : Int64)))]))) ?_ ?_
        · intro t k
          show Steps p.tables e below (s₁.setTop (mkF m 27 #[.val (.long qa), .second] [])) _
          refine XS.lloadN X0.here hx rfl (hb hby d4_27) rfl ?_
          show Steps p.tables e below (s₁.setTop (mkF m 28 #[.val (.long qa), .second] [(.long qa)])) _
          refine XS.bipush X0.here hx rfl (hb hby d4_28) ?_
          show Steps p.tables e below (s₁.setTop (mkF m 30 #[.val (.long qa), .second] [(.int (16 : Int32)), (.long qa)])) _
          refine XS.lushr X0.here hx rfl (hb hby d4_30) rfl ?_
          show Steps p.tables e below (s₁.setTop (mkF m 31 #[.val (.long qa), .second] [(.long ((qa.toUInt64 >>> ((16 : Int32) &&& 0x3f).toInt64.toUInt64).toInt64))])) _
          refine XS.lconst X0.here hx rfl (hb hby d4_31) ?_
          show Steps p.tables e below (s₁.setTop (mkF m 32 #[.val (.long qa), .second] [(.long (0 : Int64)), (.long ((qa.toUInt64 >>> ((16 : Int32) &&& 0x3f).toInt64.toUInt64).toInt64))])) _
          refine XS.lcmp X0.here hx rfl (hb hby d4_32) rfl ?_
          exact k
        by_cases hc15 : ((qa.toUInt64 >>> ((16 : Int32) &&& 0x3f).toInt64.toUInt64).toInt64) = (0 : Int64)
        · skip
          refine own_pre (A := (s₁.setTop (mkF m 36 #[.val (.long qa), .second] []))) ?_ ?_
          · intro t k
            refine XS.ifNo X0.here hx rfl (hb hby d4_33) rfl ((if0 _ _).trans (teq ((lw_eq ((qa.toUInt64 >>> ((16 : Int32) &&& 0x3f).toInt64.toUInt64).toInt64) (0 : Int64)).mpr hc15)).2) ?_
            exact k
          refine own_pre (A := (s₁.setTop (mkF m 37 #[.val (.long qa), .second] [(.int (3 : Int32))]))) ?_ ?_
          · intro t k
            show Steps p.tables e below (s₁.setTop (mkF m 36 #[.val (.long qa), .second] [])) _
            refine XS.iconst X0.here hx rfl (hb hby d4_36) ?_
            exact k
          have hz : own_exp qa = (3 : Int32) := by simp only [own_exp, if_neg hc9, if_neg hc13, if_neg hc14, if_pos hc15]
          obtain ⟨fs, hr, hrun, hended, hW, hsame⟩ := X0.leave (hlocks := BodyLoose.notSynchronized Bd) (v := some (.int (3 : Int32))) (fun h => by rw [Bd.returns] at h; cases h)
          refine ⟨_, _, retOut X0 hx Bd.returns rfl (Or.inl ⟨rfl, Or.inl rfl, _, rfl⟩) (hb hby d4_37) hr, hrun, hended, _, _, rfl, ?_, ⟨_, rfl⟩, hW, hsame.mono (by decide) (by decide)⟩
          show own_Q4 qa h0 n0 _ s₁.heap _
          rw [e0]
          exact ⟨by rw [hz], N0, rfl⟩
        · skip
          refine own_pre (A := (s₁.setTop (mkF m 38 #[.val (.long qa), .second] []))) ?_ ?_
          · intro t k
            refine XS.ifYes X0.here hx rfl (pc0 := 33) (pc' := 38) rfl (hb hby d4_33) rfl ((if0 _ _).trans (feq (fun q => hc15 ((lw_eq ((qa.toUInt64 >>> ((16 : Int32) &&& 0x3f).toInt64.toUInt64).toInt64) (0 : Int64)).mp q))).2) (by decide) (by decide) ?_
            exact k
          refine own_pre (A := (s₁.setTop (mkF m 44 #[.val (.long qa), .second] [(.int (lcmpW ((qa.toUInt64 >>> ((32 : Int32) &&& 0x3f).toInt64.toUInt64).toInt64) (0 : Int64)))]))) ?_ ?_
          · intro t k
            show Steps p.tables e below (s₁.setTop (mkF m 38 #[.val (.long qa), .second] [])) _
            refine XS.lloadN X0.here hx rfl (hb hby d4_38) rfl ?_
            show Steps p.tables e below (s₁.setTop (mkF m 39 #[.val (.long qa), .second] [(.long qa)])) _
            refine XS.bipush X0.here hx rfl (hb hby d4_39) ?_
            show Steps p.tables e below (s₁.setTop (mkF m 41 #[.val (.long qa), .second] [(.int (32 : Int32)), (.long qa)])) _
            refine XS.lushr X0.here hx rfl (hb hby d4_41) rfl ?_
            show Steps p.tables e below (s₁.setTop (mkF m 42 #[.val (.long qa), .second] [(.long ((qa.toUInt64 >>> ((32 : Int32) &&& 0x3f).toInt64.toUInt64).toInt64))])) _
            refine XS.lconst X0.here hx rfl (hb hby d4_42) ?_
            show Steps p.tables e below (s₁.setTop (mkF m 43 #[.val (.long qa), .second] [(.long (0 : Int64)), (.long ((qa.toUInt64 >>> ((32 : Int32) &&& 0x3f).toInt64.toUInt64).toInt64))])) _
            refine XS.lcmp X0.here hx rfl (hb hby d4_43) rfl ?_
            exact k
          by_cases hc16 : ((qa.toUInt64 >>> ((32 : Int32) &&& 0x3f).toInt64.toUInt64).toInt64) = (0 : Int64)
          · skip
            refine own_pre (A := (s₁.setTop (mkF m 47 #[.val (.long qa), .second] []))) ?_ ?_
            · intro t k
              refine XS.ifNo X0.here hx rfl (hb hby d4_44) rfl ((if0 _ _).trans (teq ((lw_eq ((qa.toUInt64 >>> ((32 : Int32) &&& 0x3f).toInt64.toUInt64).toInt64) (0 : Int64)).mpr hc16)).2) ?_
              exact k
            refine own_pre (A := (s₁.setTop (mkF m 48 #[.val (.long qa), .second] [(.int (5 : Int32))]))) ?_ ?_
            · intro t k
              show Steps p.tables e below (s₁.setTop (mkF m 47 #[.val (.long qa), .second] [])) _
              refine XS.iconst X0.here hx rfl (hb hby d4_47) ?_
              exact k
            have hz : own_exp qa = (5 : Int32) := by simp only [own_exp, if_neg hc9, if_neg hc13, if_neg hc14, if_neg hc15, if_pos hc16]
            obtain ⟨fs, hr, hrun, hended, hW, hsame⟩ := X0.leave (hlocks := BodyLoose.notSynchronized Bd) (v := some (.int (5 : Int32))) (fun h => by rw [Bd.returns] at h; cases h)
            refine ⟨_, _, retOut X0 hx Bd.returns rfl (Or.inl ⟨rfl, Or.inl rfl, _, rfl⟩) (hb hby d4_48) hr, hrun, hended, _, _, rfl, ?_, ⟨_, rfl⟩, hW, hsame.mono (by decide) (by decide)⟩
            show own_Q4 qa h0 n0 _ s₁.heap _
            rw [e0]
            exact ⟨by rw [hz], N0, rfl⟩
          · skip
            refine own_pre (A := (s₁.setTop (mkF m 49 #[.val (.long qa), .second] []))) ?_ ?_
            · intro t k
              refine XS.ifYes X0.here hx rfl (pc0 := 44) (pc' := 49) rfl (hb hby d4_44) rfl ((if0 _ _).trans (feq (fun q => hc16 ((lw_eq ((qa.toUInt64 >>> ((32 : Int32) &&& 0x3f).toInt64.toUInt64).toInt64) (0 : Int64)).mp q))).2) (by decide) (by decide) ?_
              exact k
            refine own_pre (A := (s₁.setTop (mkF m 51 #[.val (.long qa), .second] [(.int (9 : Int32))]))) ?_ ?_
            · intro t k
              show Steps p.tables e below (s₁.setTop (mkF m 49 #[.val (.long qa), .second] [])) _
              refine XS.bipush X0.here hx rfl (hb hby d4_49) ?_
              exact k
            have hz : own_exp qa = (9 : Int32) := by simp only [own_exp, if_neg hc9, if_neg hc13, if_neg hc14, if_neg hc15, if_neg hc16]
            obtain ⟨fs, hr, hrun, hended, hW, hsame⟩ := X0.leave (hlocks := BodyLoose.notSynchronized Bd) (v := some (.int (9 : Int32))) (fun h => by rw [Bd.returns] at h; cases h)
            refine ⟨_, _, retOut X0 hx Bd.returns rfl (Or.inl ⟨rfl, Or.inl rfl, _, rfl⟩) (hb hby d4_51) hr, hrun, hended, _, _, rfl, ?_, ⟨_, rfl⟩, hW, hsame.mono (by decide) (by decide)⟩
            show own_Q4 qa h0 n0 _ s₁.heap _
            rw [e0]
            exact ⟨by rw [hz], N0, rfl⟩
theorem own_sh (a : Int64) (k : Nat) (q : Int32) (hk : q.toBitVec.toNat % 64 = k) (h0 : 0 < k) : ((a.toUInt64 >>> (q &&& 0x3f).toInt64.toUInt64).toInt64 = 0) ↔ (a.toInt % 18446744073709551616) / (2 ^ k : Nat) = 0 := by
  rw [← Int64.toInt_inj, c_lushr a q k hk h0]
  exact Iff.rfl
theorem own_u (a : Int64) : own_cmpU a (24 : Int64) < 0 ↔ (0 ≤ a.toInt ∧ a.toInt < 24) := by
  have h1 := c_ladd a (-9223372036854775808 : Int64)
  have h2 : ((24 : Int64) + (-9223372036854775808 : Int64)).toInt = -9223372036854775784 := by decide
  have h3 : (-9223372036854775808 : Int64).toInt = -9223372036854775808 := by decide
  have r1 := rng64 a
  have r2 := rng64 (a + (-9223372036854775808 : Int64))
  rw [h3] at h1
  simp only [own_cmpU, own_cmp, Int64.lt_iff_toInt_lt, ← Int64.toInt_inj, h2]
  constructor
  · intro h
    split at h
    · omega
    · split at h <;> exact absurd h (by decide)
  · intro h
    rw [if_pos (by omega)]
    decide
theorem own_eq (a : Int64) : own_hl a = own_exp a := by
  have s8 := own_sh a 8 (8 : Int32) (by decide) (by decide)
  have s16 := own_sh a 16 (16 : Int32) (by decide) (by decide)
  have s32 := own_sh a 32 (32 : Int32) (by decide) (by decide)
  have r1 := rng64 a
  have a0 : (0 : Int64).toInt = 0 := by decide
  have a24 : (24 : Int64).toInt = 24 := by decide
  simp only [own_hl, own_exp, own_u, s8, s16, s32, Int64.lt_iff_toInt_lt, a0, a24]
  repeat' split
  all_goals first | rfl | omega
theorem own_pn0 : plainName "com/example/sigillum/sigillum/cose/CborItemHeadLengthPinLaw" = true := by first | (simp [plainName, overriddenIn]; done) | decide +kernel
theorem own_ef0 (m : MethodId) (x0 : Int64) (x1 : Int32) : entryFrame m #[(.long x0), (.int x1)] maxLocals = mkF m 0 #[.val (.long x0), .second, .val (.int x1), .unset, .unset] [] := by first | (simp [entryFrame, mkF, argsToLocals, Value.category, maxLocals]; done) | rfl
def own_Q0 (h0 : Heap) (n0 : Nat) (v : Option Value) (h : Heap) (L : List Loc) : Prop := v = some (.int (1 : Int32)) ∧ Fr n0 L
set_option maxRecDepth 65536 in
set_option maxHeartbeats 40000000 in
theorem rm0 (l : Launch) (Z : State) (a0 : Array Value) (hw : ∀ d ∈ tables_1, d.before a0 Z = true) (ws : List Jvm.Cond) (qx : Int64) (py : Int32) (h0 : Heap) (n0 : Nat) (Z0 : n0 ≤ h0.size) :
    MetFree l x (head1 (Jvm.Cond.code x code maxLocals ret :: ws) room_1) (fun a U => a = #[(.long qx), (.int py)] ∧ Z.Warmed39 U.vm ∧ U.heap = h0) (fun _ _ _ _ _ => True) (fun _ U o U' => ∃ v L, o = .returned v ∧ own_Q0  h0 n0 v U'.heap L ∧ FrameEnd U o U' L room_1.cells room_1.slots) := by
  refine MetFree.of_bodySF (plainFor_of_name own_pn0) hisR ?_
  intro p e s m args below meth c s₁ Bd hml0 hP hK
  obtain ⟨rfl, hZ, hh⟩ := hP
  have hx := Bd.exec
  have hby := Bd.bytes
  have hml : c.maxLocals = 5 := hml0
  have hown : s.vm.findClass "com/example/sigillum/sigillum/cose/CborItemHeadLengthPinLaw" = some m.cls := findClass_of_methodNamed Bd.named
  have hnm := (name_of_methodNamed Bd.named Bd.method).1
  have X0 : Stand p l e room_1 s m #[(.long qx), (.int py)] below meth c s₁ [] 0 0 := Stand.of_body Bd
  have e0 : s₁.heap = h0 := by rw [← hh, Bd.state]; rfl
  have N0 := Fr.nil n0
  refine own_pre (A := (s₁.setTop (mkF m 0 #[.val (.long qx), .second, .val (.int py), .unset, .unset] []))) (fun t k => castTop (own_ef0 m qx py) k) ?_
  refine own_pre (A := (s₁.setTop (mkF m 8 #[.val (.long qx), .second, .val (.int py), .val (.long ((qx.toUInt64 >>> ((py &&& (63 : Int32)) &&& 0x3f).toInt64.toUInt64).toInt64)), .second] [(.long ((qx.toUInt64 >>> ((py &&& (63 : Int32)) &&& 0x3f).toInt64.toUInt64).toInt64))]))) ?_ ?_
  · intro t k
    show Steps p.tables e below (s₁.setTop (mkF m 0 #[.val (.long qx), .second, .val (.int py), .unset, .unset] [])) _
    refine XS.lloadN X0.here hx rfl (hb hby at_0) rfl ?_
    show Steps p.tables e below (s₁.setTop (mkF m 1 #[.val (.long qx), .second, .val (.int py), .unset, .unset] [(.long qx)])) _
    refine XS.iloadN X0.here hx rfl (hb hby at_1) rfl ?_
    show Steps p.tables e below (s₁.setTop (mkF m 2 #[.val (.long qx), .second, .val (.int py), .unset, .unset] [(.int py), (.long qx)])) _
    refine XS.bipush X0.here hx rfl (hb hby at_2) ?_
    show Steps p.tables e below (s₁.setTop (mkF m 4 #[.val (.long qx), .second, .val (.int py), .unset, .unset] [(.int (63 : Int32)), (.int py), (.long qx)])) _
    refine XS.iand X0.here hx rfl (hb hby at_4) rfl ?_
    show Steps p.tables e below (s₁.setTop (mkF m 5 #[.val (.long qx), .second, .val (.int py), .unset, .unset] [(.int (py &&& (63 : Int32))), (.long qx)])) _
    refine XS.lushr X0.here hx rfl (hb hby at_5) rfl ?_
    show Steps p.tables e below (s₁.setTop (mkF m 6 #[.val (.long qx), .second, .val (.int py), .unset, .unset] [(.long ((qx.toUInt64 >>> ((py &&& (63 : Int32)) &&& 0x3f).toInt64.toUInt64).toInt64))])) _
    refine XS.lstoreN X0.here hx rfl (hb hby at_6) rfl (l' := #[.val (.long qx), .second, .val (.int py), .val (.long ((qx.toUInt64 >>> ((py &&& (63 : Int32)) &&& 0x3f).toInt64.toUInt64).toInt64)), .second]) rfl ?_
    show Steps p.tables e below (s₁.setTop (mkF m 7 #[.val (.long qx), .second, .val (.int py), .val (.long ((qx.toUInt64 >>> ((py &&& (63 : Int32)) &&& 0x3f).toInt64.toUInt64).toInt64)), .second] [])) _
    refine XS.lloadN X0.here hx rfl (hb hby at_7) rfl ?_
    exact k
  obtain ⟨_, _, ⟨T17, L17, k17, n17⟩, -, X17, ⟨Lc17, hQ17, l17, y17, z17⟩, st17⟩ := Jvm.LawKit.callS X0 hx (y := (⟨"com/example/sigillum/sigillum/cose/CborItem", "headLength", "(J)I"⟩ : MethodName)) hown (mvT hZ (own_w hw 0 rfl)) (mvT hZ (own_w hw 1 rfl)) (mvT hZ (own_w hw 2 rfl)) (mvT hZ (own_w hw 3 rfl)) (by decide) (backOf (W := 0) (rm1 l Z a0 hw [] ((qx.toUInt64 >>> ((py &&& (63 : Int32)) &&& 0x3f).toInt64.toUInt64).toInt64) h0 n0 Z0) hZ (own_w hw 3 rfl) (own_w hw 2 rfl) (by decide) (by decide)) (g := (mkF m 8 #[.val (.long qx), .second, .val (.int py), .val (.long ((qx.toUInt64 >>> ((py &&& (63 : Int32)) &&& 0x3f).toInt64.toUInt64).toInt64)), .second] [(.long ((qx.toUInt64 >>> ((py &&& (63 : Int32)) &&& 0x3f).toInt64.toUInt64).toInt64))])) rfl (by rw [hml]; rfl) (argsL := [(.long ((qx.toUInt64 >>> ((py &&& (63 : Int32)) &&& 0x3f).toInt64.toUInt64).toInt64))]) (rest := []) (lenOf own_pd1 rfl) rfl (by show 2 * 0 + _ ≤ _; exact Nat.le_of_eq rfl) (hb hby at_8) (fun _ _ => ⟨rfl, e0, (by decide : 0 + 0 ≤ _), (by decide : 0 + 0 ≤ _)⟩)
  dsimp only [Pt.U, Pt.locs, Pt.cells, Pt.slots] at X17 l17 y17 z17 st17 hQ17
  subst l17 y17 z17
  obtain ⟨rfl, Nq17, eq17⟩ := hQ17
  have N17 := Fr.app N0 Nq17
  refine own_pre (fun t k => st17 t k) ?_
  refine own_pre (A := (T17.setTop (mkF m 12 #[.val (.long qx), .second, .val (.int py), .val (.long ((qx.toUInt64 >>> ((py &&& (63 : Int32)) &&& 0x3f).toInt64.toUInt64).toInt64)), .second] [(.long ((qx.toUInt64 >>> ((py &&& (63 : Int32)) &&& 0x3f).toInt64.toUInt64).toInt64)), (.int (own_hl ((qx.toUInt64 >>> ((py &&& (63 : Int32)) &&& 0x3f).toInt64.toUInt64).toInt64)))]))) ?_ ?_
  · intro t k
    show Steps p.tables e below (T17.setTop (mkF m 11 #[.val (.long qx), .second, .val (.int py), .val (.long ((qx.toUInt64 >>> ((py &&& (63 : Int32)) &&& 0x3f).toInt64.toUInt64).toInt64)), .second] [(.int (own_hl ((qx.toUInt64 >>> ((py &&& (63 : Int32)) &&& 0x3f).toInt64.toUInt64).toInt64)))])) _
    refine XS.lloadN X17.here hx rfl (hb hby at_11) rfl ?_
    exact k
  obtain ⟨_, _, ⟨T18, L18, k18, n18⟩, -, X18, ⟨Lc18, hQ18, l18, y18, z18⟩, st18⟩ := Jvm.LawKit.callS X17 hx (y := (⟨"com/example/sigillum/sigillum/cose/CborItemHeadLengthPinLaw", "expected", "(J)I"⟩ : MethodName)) hown (mvT hZ (own_w hw 13 rfl)) (mvT hZ (own_w hw 14 rfl)) (mvT hZ (own_w hw 15 rfl)) (mvT hZ (own_w hw 16 rfl)) (by decide) (backOf (W := 1) (rm4 l Z a0 hw [] ((qx.toUInt64 >>> ((py &&& (63 : Int32)) &&& 0x3f).toInt64.toUInt64).toInt64) h0 n0 Z0) hZ (own_w hw 16 rfl) (own_w hw 15 rfl) (by decide) (by decide)) (g := (mkF m 12 #[.val (.long qx), .second, .val (.int py), .val (.long ((qx.toUInt64 >>> ((py &&& (63 : Int32)) &&& 0x3f).toInt64.toUInt64).toInt64)), .second] [(.long ((qx.toUInt64 >>> ((py &&& (63 : Int32)) &&& 0x3f).toInt64.toUInt64).toInt64)), (.int (own_hl ((qx.toUInt64 >>> ((py &&& (63 : Int32)) &&& 0x3f).toInt64.toUInt64).toInt64)))])) rfl (by rw [hml]; rfl) (argsL := [(.long ((qx.toUInt64 >>> ((py &&& (63 : Int32)) &&& 0x3f).toInt64.toUInt64).toInt64))]) (rest := [(.int (own_hl ((qx.toUInt64 >>> ((py &&& (63 : Int32)) &&& 0x3f).toInt64.toUInt64).toInt64)))]) (lenOf own_pd1 rfl) rfl (by show 2 * 0 + _ ≤ _; exact Nat.le_of_eq rfl) (hb hby at_12) (fun _ _ => ⟨rfl, eq17, (by decide : 0 + 0 ≤ _), (by decide : 0 + 0 ≤ _)⟩)
  dsimp only [Pt.U, Pt.locs, Pt.cells, Pt.slots] at X18 l18 y18 z18 st18 hQ18
  subst l18 y18 z18
  obtain ⟨rfl, Nq18, eq18⟩ := hQ18
  have N18 := Fr.app N17 Nq18
  refine own_pre (fun t k => st18 t k) ?_
  obtain ⟨v20, hv20⟩ : ∃ z : Int32, z = (if (own_hl ((qx.toUInt64 >>> ((py &&& (63 : Int32)) &&& 0x3f).toInt64.toUInt64).toInt64)) = (own_exp ((qx.toUInt64 >>> ((py &&& (63 : Int32)) &&& 0x3f).toInt64.toUInt64).toInt64)) then (1 : Int32) else (0 : Int32)) := ⟨_, rfl⟩
  refine own_pre (A := (T18.setTop (mkF m 23 #[.val (.long qx), .second, .val (.int py), .val (.long ((qx.toUInt64 >>> ((py &&& (63 : Int32)) &&& 0x3f).toInt64.toUInt64).toInt64)), .second] [(.int v20)]))) ?_ ?_
  · intro t k
    show Steps p.tables e below (T18.setTop (mkF m 15 #[.val (.long qx), .second, .val (.int py), .val (.long ((qx.toUInt64 >>> ((py &&& (63 : Int32)) &&& 0x3f).toInt64.toUInt64).toInt64)), .second] [(.int (own_exp ((qx.toUInt64 >>> ((py &&& (63 : Int32)) &&& 0x3f).toInt64.toUInt64).toInt64))), (.int (own_hl ((qx.toUInt64 >>> ((py &&& (63 : Int32)) &&& 0x3f).toInt64.toUInt64).toInt64)))])) _
    by_cases hc19 : (own_hl ((qx.toUInt64 >>> ((py &&& (63 : Int32)) &&& 0x3f).toInt64.toUInt64).toInt64)) = (own_exp ((qx.toUInt64 >>> ((py &&& (63 : Int32)) &&& 0x3f).toInt64.toUInt64).toInt64))
    · skip
      refine XS.icmpNo X18.here hx rfl (hb hby at_15) rfl (teq hc19).2 ?_
      show Steps p.tables e below (T18.setTop (mkF m 18 #[.val (.long qx), .second, .val (.int py), .val (.long ((qx.toUInt64 >>> ((py &&& (63 : Int32)) &&& 0x3f).toInt64.toUInt64).toInt64)), .second] [])) _
      refine XS.iconst X18.here hx rfl (hb hby at_18) ?_
      show Steps p.tables e below (T18.setTop (mkF m 19 #[.val (.long qx), .second, .val (.int py), .val (.long ((qx.toUInt64 >>> ((py &&& (63 : Int32)) &&& 0x3f).toInt64.toUInt64).toInt64)), .second] [(.int (1 : Int32))])) _
      refine XS.goto X18.here hx rfl (pc0 := 19) (pc' := 23) rfl (hb hby at_19) (by decide) (by decide) ?_
      rw [show v20 = (1 : Int32) from hv20.trans (by simp only [if_pos hc19])] at k
      exact k
    · skip
      refine XS.icmpYes X18.here hx rfl (pc0 := 15) (pc' := 22) rfl (hb hby at_15) rfl (feq hc19).2 (by decide) (by decide) ?_
      show Steps p.tables e below (T18.setTop (mkF m 22 #[.val (.long qx), .second, .val (.int py), .val (.long ((qx.toUInt64 >>> ((py &&& (63 : Int32)) &&& 0x3f).toInt64.toUInt64).toInt64)), .second] [])) _
      refine XS.iconst X18.here hx rfl (hb hby at_22) ?_
      rw [show v20 = (0 : Int32) from hv20.trans (by simp only [if_neg hc19])] at k
      exact k
  have hz : v20 = (1 : Int32) := by subst_vars; simp [own_eq]
  rw [hz]
  obtain ⟨fs, hr, hrun, hended, hW, hsame⟩ := X18.leave (hlocks := BodyLoose.notSynchronized Bd) (v := some (.int (1 : Int32))) (fun h => by rw [Bd.returns] at h; cases h)
  refine ⟨_, _, retOut X18 hx Bd.returns rfl (Or.inl ⟨rfl, Or.inr (Or.inl rfl), _, rfl⟩) (hb hby at_23) hr, hrun, hended, _, _, rfl, ?_, ⟨_, rfl⟩, hW, hsame.mono (by decide) (by decide)⟩
  show own_Q0 h0 n0 _ T18.heap _
  rw [eq18]
  exact ⟨rfl, N18⟩
set_option maxRecDepth 65536 in
set_option maxHeartbeats 40000000 in
theorem comes_1 {Post : Tables → Env → Array Value → State → Outcome → State → Prop} (hpost : ∀ tb e args s v u, (limb_1_1.after args s (.returned v) u = true ∧ limb_1_2.after args s (.returned v) u = true ∧ True) → FrameEnd s (.returned v) u (Jvm.fieldLocs frame_1_writes args s ++ Jvm.arrayLocs frame_1_arrays args s ++ Jvm.staticLocs frame_1_statics s) 0 0 → Post tb e args s (.returned v) u) :
    ArmFor flags0 classFile x code maxLocals ret World_1 tables_1 room_1 Calls_1 rest_1 Pre_1 Post := by
  intro l hfl _ _ p e ha hc hk s m args below hf hA hF happ hP
  obtain ⟨hcalls, hrest, hpre⟩ := hP
  obtain ⟨-, -, -, hnamed, -, -, -, hat⟩ := (Spec.applies_iff hf).mp happ
  obtain ⟨hg, hn⟩ := and_e (Cond.before_iff.mp (show (Jvm.Cond.and given_1 narrow_1).before args s = true from hpre))
  obtain ⟨gg1, gg2⟩ := and_e hg
  obtain ⟨gg3, gg4⟩ := and_e gg2
  obtain ⟨w0, w1, rfl⟩ : ∃ w0 w1 : Value, args = #[w0, w1] := by
    have hs : args.size = 2 := by simpa [Cond.value, given_1] using gg1
    obtain ⟨L⟩ := args
    match L, hs with
    | [w0, w1], _ => exact ⟨w0, w1, rfl⟩
  have hw := fun d (hd : d ∈ tables_1) => atoms_spec (ws := Jvm.Cond.code x code maxLocals ret :: tables_1) hat d (List.mem_cons_of_mem _ hd)
  obtain ⟨i0, ei0⟩ := isL_v gg3
  obtain rfl : w0 = (.long i0) := Option.some.inj ei0
  obtain ⟨i1, ei1⟩ := is_v gg4
  obtain rfl : w1 = (.int i1) := Option.some.inj ei1
  obtain ⟨n, o, h1, h2, h3, _, L, rfl, ⟨rfl, N⟩, hq⟩ := rm0 l s _ hw tables_1 i0 i1 s.heap s.heap.size (Nat.le_refl _) p e ha hc hk s m _ below hf ((Spec.applies_iff_loose hf).mp happ).1 ⟨rfl, State.Warmed39.refl s, rfl⟩ trivial
  refine ⟨n, _, h1, h2, h3, hpost _ _ _ _ _ _ ⟨Cond.after_iff.mpr rfl, Cond.after_iff.mpr (eq_i res_at (Term.int_eval (1)) rfl), trivial⟩ ⟨hq.1, hq.2.1, (hq.2.2.sift fun y hy => Or.inr (N y hy)).mono (by decide) (by decide)⟩⟩
theorem main_1_1 : Claimed_1_1 := comes_1 fun _ _ _ _ _ _ h hF => ⟨h.1, hF⟩
theorem main_1_2 : Claimed_1_2 := comes_1 fun _ _ _ _ _ _ h hF => ⟨h.2.1, hF⟩
end Jvm.Pilot.@@N@@
namespace Jvm.Pilot.@@N@@
open Jvm Jvm.ClassFile Sem Op Lib Jvm.Free Jvm.Stand Jvm.Pilot.@@N@@.Jvm.D
/-! MADE BY PROGRAM (witnessworld.py) out of the Statement's table words and the real class files: 14 classes; the members and pool entries that the words name. The judged class is class 1, her method 2. -/
namespace start1
open Jvm.ClassFile
def u (s : String) : CpInfo := .utf8 (stringToUtf16 s)
/-- a pool by its gaps: so many unusable entries, then the entry; so many at the end -/
def gap : Nat → List CpInfo → List CpInfo
  | 0, r => r
  | n + 1, r => .unusable :: gap n r
def poolList (es : List (Nat × CpInfo)) (last : Nat) : List CpInfo := es.foldr (fun e r => gap e.1 (e.2 :: r)) (gap last [])
def pool (es : List (Nat × CpInfo)) (last : Nat) : Array CpInfo := ⟨poolList es last⟩
def fileOf (pool : Array CpInfo) (this : Nat) (attrs : Array Attribute := #[]) (ms : Array MethodInfo := #[]) (fl : Nat := 33) (sup : Nat := 0) (ifs : Array Nat := #[]) (fds : Array FieldInfo := #[]) : ClassFile where
  minorVersion := 0
  majorVersion := 65
  constantPool := pool
  accessFlags := fl
  thisClass := this
  superClass := sup
  interfaces := ifs
  fields := fds
  methods := ms
  attributes := attrs
def plain (name : String) (sup : Option ClassId) : Class where
  name := name
  kind := .ordinary
  loader := none
  accessFlags := 33
  super := sup
  interfaces := #[]
  cf := none
  fields := #[]
  methods := #[]
  instanceTypes := #[]
  staticTypes := #[]
  resolved := #[]
  callSites := []
  init := .initialized
  statics := none
  mirror := none

def pool0 : Array CpInfo := pool [(5, u "<init>"), (0, u "()V"), (1, .class_ 10), (1, u "java/lang/Object")] 113

def k0m0 : Method := { name := "<init>", desc := "()V", sig := { parameters := [], returnType := none }, accessFlags := 1, code := none }
/-- java/lang/Object -/
def k0 : Class := { plain "java/lang/Object" none with
  accessFlags := 33
  interfaces := #[]
  cf := some (fileOf pool0 8 #[] #[{ accessFlags := 1, nameIndex := 5, descriptorIndex := 6, attributes := #[] }] 33 0 #[] #[])
  fields := #[]
  methods := #[k0m0]
  instanceTypes := #[]
  staticTypes := #[]
  resolved := Array.replicate 124 none
  statics := none }

def pool1 : Array CpInfo := pool [(2, .class_ 4), (1, u "java/lang/Object"), (0, u "<init>"), (0, u "()V"), (0, .long 24), (1, .methodref 10 11), (0, .class_ 12), (0, .nameAndType 13 14), (0, u "com/example/sigillum/sigillum/cose/CborItem"), (0, u "headLength"), (0, u "(J)I"), (0, .methodref 16 17), (0, .class_ 18), (0, .nameAndType 19 14), (0, u "com/example/sigillum/sigillum/cose/CborItemHeadLengthPinLaw"), (0, u "expected"), (3, u "law"), (0, u "(JI)Z")] 2

def k1m0 : Method := { name := "<init>", desc := "()V", sig := { parameters := [], returnType := none }, accessFlags := 2, code := none }
def k1c1 : Code := { maxStack := 4, maxLocals := 2, code := method_2_code, exceptionTable := #[], attributes := #[] }
def k1m1 : Method := { name := "expected", desc := "(J)I", sig := { parameters := [.long], returnType := some .int }, accessFlags := 10, code := some k1c1 }
def k1c2 : Code := { maxStack := 4, maxLocals := 5, code := code, exceptionTable := #[], attributes := #[] }
def k1m2 : Method := { name := "law", desc := "(JI)Z", sig := { parameters := [.long, .int], returnType := some .boolean }, accessFlags := 9, code := some k1c2 }
/-- com/example/sigillum/sigillum/cose/CborItemHeadLengthPinLaw -/
def k1 : Class := { plain "com/example/sigillum/sigillum/cose/CborItemHeadLengthPinLaw" (some 0) with
  accessFlags := 49
  interfaces := #[]
  cf := some (fileOf pool1 16 #[] #[{ accessFlags := 2, nameIndex := 5, descriptorIndex := 6, attributes := #[] }, { accessFlags := 10, nameIndex := 19, descriptorIndex := 14, attributes := #[] }, { accessFlags := 9, nameIndex := 23, descriptorIndex := 24, attributes := #[] }] 49 2 #[] #[])
  fields := #[]
  methods := #[k1m0, k1m1, k1m2]
  instanceTypes := #[]
  staticTypes := #[]
  resolved := Array.replicate 27 none
  statics := none }

def pool2 : Array CpInfo := pool [(2, .class_ 4), (1, u "java/lang/Object"), (3, .class_ 10), (1, u "com/example/sigillum/sigillum/cose/CborItem"), (0, u "encoding"), (0, u "[B"), (2, u "head"), (3, u "Lcom/example/sigillum/sigillum/cose/CborItem$Head;"), (1, .class_ 23), (1, u "com/example/sigillum/sigillum/cose/CborItem$Head"), (7, .class_ 32), (0, u "com/example/sigillum/sigillum/cose/CborItem$Walk"), (23, .class_ 58), (1, u "com/example/sigillum/sigillum/cose/CborItem$Type"), (5, u "I"), (6, u "BYTE_STRING"), (2, u "TEXT_STRING"), (21, u "ARRAY"), (2, u "MAP"), (14, .class_ 115), (0, u "com/example/sigillum/sigillum/cose/CborItem$Items"), (42, .class_ 159), (0, u "com/example/sigillum/sigillum/cose/CborItem$KeySort"), (8, u "TAG"), (2, .long 24), (1, .methodref 174 175), (0, .class_ 176), (0, .nameAndType 177 178), (0, u "java/lang/Long"), (0, u "compareUnsigned"), (0, u "(JJ)I"), (2, u "headLength"), (0, u "(J)I"), (34, u "UNSIGNED_INTEGER"), (8, u "NEGATIVE_INTEGER"), (14, u "SIMPLE"), (2, u "MAX_DEPTH"), (2, u "INDEFINITE"), (1, u "BREAK")] 49

def k2c0 : Code := { maxStack := 4, maxLocals := 3, code := prog_8_method_15_code, exceptionTable := #[], attributes := #[] }
def k2m0 : Method := { name := "headLength", desc := "(J)I", sig := { parameters := [.long], returnType := some .int }, accessFlags := 8, code := some k2c0 }
/-- com/example/sigillum/sigillum/cose/CborItem -/
def k2 : Class := { plain "com/example/sigillum/sigillum/cose/CborItem" (some 0) with
  accessFlags := 49
  interfaces := #[]
  cf := some (fileOf pool2 8 #[.nestMembers #[31, 21, 114, 158, 56]] #[{ accessFlags := 8, nameIndex := 181, descriptorIndex := 182, attributes := #[] }] 49 2 #[] #[{ accessFlags := 24, nameIndex := 244, descriptorIndex := 64, attributes := #[] }, { accessFlags := 26, nameIndex := 217, descriptorIndex := 64, attributes := #[] }, { accessFlags := 26, nameIndex := 226, descriptorIndex := 64, attributes := #[] }, { accessFlags := 26, nameIndex := 71, descriptorIndex := 64, attributes := #[] }, { accessFlags := 26, nameIndex := 74, descriptorIndex := 64, attributes := #[] }, { accessFlags := 26, nameIndex := 96, descriptorIndex := 64, attributes := #[] }, { accessFlags := 26, nameIndex := 99, descriptorIndex := 64, attributes := #[] }, { accessFlags := 26, nameIndex := 168, descriptorIndex := 64, attributes := #[] }, { accessFlags := 26, nameIndex := 241, descriptorIndex := 64, attributes := #[] }, { accessFlags := 26, nameIndex := 247, descriptorIndex := 64, attributes := #[] }, { accessFlags := 26, nameIndex := 249, descriptorIndex := 64, attributes := #[] }, { accessFlags := 18, nameIndex := 11, descriptorIndex := 12, attributes := #[] }, { accessFlags := 18, nameIndex := 15, descriptorIndex := 19, attributes := #[] }])
  fields := #[{ name := "MAX_DEPTH", type := .int, accessFlags := 24, slot := 0, constantValue := 0 }, { name := "UNSIGNED_INTEGER", type := .int, accessFlags := 26, slot := 1, constantValue := 0 }, { name := "NEGATIVE_INTEGER", type := .int, accessFlags := 26, slot := 2, constantValue := 0 }, { name := "BYTE_STRING", type := .int, accessFlags := 26, slot := 3, constantValue := 0 }, { name := "TEXT_STRING", type := .int, accessFlags := 26, slot := 4, constantValue := 0 }, { name := "ARRAY", type := .int, accessFlags := 26, slot := 5, constantValue := 0 }, { name := "MAP", type := .int, accessFlags := 26, slot := 6, constantValue := 0 }, { name := "TAG", type := .int, accessFlags := 26, slot := 7, constantValue := 0 }, { name := "SIMPLE", type := .int, accessFlags := 26, slot := 8, constantValue := 0 }, { name := "INDEFINITE", type := .int, accessFlags := 26, slot := 9, constantValue := 0 }, { name := "BREAK", type := .int, accessFlags := 26, slot := 10, constantValue := 0 }, { name := "encoding", type := (.array .byte), accessFlags := 18, slot := 0, constantValue := 0 }, { name := "head", type := (.object "com/example/sigillum/sigillum/cose/CborItem$Head"), accessFlags := 18, slot := 1, constantValue := 0 }]
  methods := #[k2m0]
  instanceTypes := #[(.array .byte), (.object "com/example/sigillum/sigillum/cose/CborItem$Head")]
  staticTypes := #[.int, .int, .int, .int, .int, .int, .int, .int, .int, .int, .int]
  resolved := Array.replicate 299 none
  statics := none }

def pool3 : Array CpInfo := pool [(1, .class_ 2), (0, u "java/io/Serializable"), (0, .class_ 4), (0, u "java/lang/Object")] 2

/-- java/io/Serializable -/
def k3 : Class := { plain "java/io/Serializable" (some 0) with
  accessFlags := 1537
  interfaces := #[]
  cf := some (fileOf pool3 1 #[] #[] 1537 3 #[] #[])
  fields := #[]
  methods := #[]
  instanceTypes := #[]
  staticTypes := #[]
  resolved := Array.replicate 7 none
  statics := none }

def pool4 : Array CpInfo := pool [(2, .class_ 4), (1, u "java/lang/Object"), (0, u "<init>"), (0, u "()V"), (1, .class_ 10), (1, u "java/lang/Number"), (2, .class_ 14), (0, u "java/io/Serializable"), (0, u "serialVersionUID"), (0, u "J")] 20

def k4m0 : Method := { name := "<init>", desc := "()V", sig := { parameters := [], returnType := none }, accessFlags := 1, code := none }
/-- java/lang/Number -/
def k4 : Class := { plain "java/lang/Number" (some 0) with
  accessFlags := 1057
  interfaces := #[3]
  cf := some (fileOf pool4 8 #[] #[{ accessFlags := 1, nameIndex := 5, descriptorIndex := 6, attributes := #[] }] 1057 2 #[13] #[{ accessFlags := 26, nameIndex := 15, descriptorIndex := 16, attributes := #[] }])
  fields := #[{ name := "serialVersionUID", type := .long, accessFlags := 26, slot := 0, constantValue := 0 }]
  methods := #[k4m0]
  instanceTypes := #[]
  staticTypes := #[.long]
  resolved := Array.replicate 37 none
  statics := none }

def pool5 : Array CpInfo := pool [(1, .class_ 2), (0, u "java/lang/Comparable"), (0, .class_ 4), (0, u "java/lang/Object")] 7

/-- java/lang/Comparable -/
def k5 : Class := { plain "java/lang/Comparable" (some 0) with
  accessFlags := 1537
  interfaces := #[]
  cf := some (fileOf pool5 1 #[] #[] 1537 3 #[] #[])
  fields := #[]
  methods := #[]
  instanceTypes := #[]
  staticTypes := #[]
  resolved := Array.replicate 12 none
  statics := none }

def pool6 : Array CpInfo := pool [(1, .class_ 2), (0, u "java/lang/constant/Constable"), (0, .class_ 4), (0, u "java/lang/Object")] 6

/-- java/lang/constant/Constable -/
def k6 : Class := { plain "java/lang/constant/Constable" (some 0) with
  accessFlags := 1537
  interfaces := #[]
  cf := some (fileOf pool6 1 #[] #[] 1537 3 #[] #[])
  fields := #[]
  methods := #[]
  instanceTypes := #[]
  staticTypes := #[]
  resolved := Array.replicate 11 none
  statics := none }

def pool7 : Array CpInfo := pool [(1, .class_ 2), (0, u "java/lang/constant/ConstantDesc"), (0, .class_ 4), (0, u "java/lang/Object")] 32

/-- java/lang/constant/ConstantDesc -/
def k7 : Class := { plain "java/lang/constant/ConstantDesc" (some 0) with
  accessFlags := 1537
  interfaces := #[]
  cf := some (fileOf pool7 1 #[] #[] 1537 3 #[] #[])
  fields := #[]
  methods := #[]
  instanceTypes := #[]
  staticTypes := #[]
  resolved := Array.replicate 37 none
  statics := none }

def pool8 : Array CpInfo := pool [(1, .class_ 2), (0, u "java/lang/Long"), (165, .long 9223372036854775808), (66, .class_ 237), (1, u "java/lang/Long$LongCache"), (33, .class_ 272), (0, u "java/lang/Number"), (2, u "value"), (0, u "J"), (25, .methodref 1 303), (0, .nameAndType 304 305), (0, u "compare"), (0, u "(JJ)I"), (55, u "TYPE"), (0, u "Ljava/lang/Class;"), (0, .class_ 364), (0, u "java/lang/Comparable"), (0, .class_ 366), (0, u "java/lang/constant/Constable"), (0, .class_ 368), (0, u "java/lang/constant/ConstantDesc"), (0, u "MIN_VALUE"), (1, u "MAX_VALUE"), (4, u "SIZE"), (0, u "I"), (1, u "BYTES"), (1, u "serialVersionUID"), (87, u "compareUnsigned")] 54

def k8c0 : Code := { maxStack := 4, maxLocals := 4, code := jdk_35_method_42_code, exceptionTable := #[], attributes := #[] }
def k8m0 : Method := { name := "compare", desc := "(JJ)I", sig := { parameters := [.long, .long], returnType := some .int }, accessFlags := 9, code := some k8c0 }
def k8c1 : Code := { maxStack := 6, maxLocals := 4, code := jdk_35_method_43_code, exceptionTable := #[], attributes := #[] }
def k8m1 : Method := { name := "compareUnsigned", desc := "(JJ)I", sig := { parameters := [.long, .long], returnType := some .int }, accessFlags := 9, code := some k8c1 }
/-- java/lang/Long -/
def k8 : Class := { plain "java/lang/Long" (some 4) with
  accessFlags := 49
  interfaces := #[5, 6, 7]
  cf := some (fileOf pool8 1 #[.nestMembers #[235]] #[{ accessFlags := 9, nameIndex := 304, descriptorIndex := 305, attributes := #[] }, { accessFlags := 9, nameIndex := 469, descriptorIndex := 305, attributes := #[] }] 49 271 #[363, 365, 367] #[{ accessFlags := 25, nameIndex := 369, descriptorIndex := 276, attributes := #[] }, { accessFlags := 25, nameIndex := 371, descriptorIndex := 276, attributes := #[] }, { accessFlags := 25, nameIndex := 361, descriptorIndex := 362, attributes := #[] }, { accessFlags := 18, nameIndex := 275, descriptorIndex := 276, attributes := #[] }, { accessFlags := 25, nameIndex := 376, descriptorIndex := 377, attributes := #[] }, { accessFlags := 25, nameIndex := 379, descriptorIndex := 377, attributes := #[] }, { accessFlags := 26, nameIndex := 381, descriptorIndex := 276, attributes := #[] }])
  fields := #[{ name := "MIN_VALUE", type := .long, accessFlags := 25, slot := 0, constantValue := 0 }, { name := "MAX_VALUE", type := .long, accessFlags := 25, slot := 1, constantValue := 0 }, { name := "TYPE", type := (.object "java/lang/Class"), accessFlags := 25, slot := 2, constantValue := 0 }, { name := "value", type := .long, accessFlags := 18, slot := 0, constantValue := 0 }, { name := "SIZE", type := .int, accessFlags := 25, slot := 3, constantValue := 0 }, { name := "BYTES", type := .int, accessFlags := 25, slot := 4, constantValue := 0 }, { name := "serialVersionUID", type := .long, accessFlags := 26, slot := 5, constantValue := 0 }]
  methods := #[k8m0, k8m1]
  instanceTypes := #[.long]
  staticTypes := #[.long, .long, (.object "java/lang/Class"), .int, .int, .long]
  resolved := Array.replicate 524 none
  statics := none }

def pool9 : Array CpInfo := pool [(1, u "java/lang/Cloneable"), (0, .class_ 1), (0, u "java/lang/Object"), (0, .class_ 3)] 3

/-- java/lang/Cloneable -/
def k9 : Class := { plain "java/lang/Cloneable" (some 0) with
  accessFlags := 1537
  interfaces := #[]
  cf := some (fileOf pool9 2 #[] #[] 1537 4 #[] #[])
  fields := #[]
  methods := #[]
  instanceTypes := #[]
  staticTypes := #[]
  resolved := Array.replicate 8 none
  statics := none }

/-- the primitive byte -/
def k10 : Class := { plain "byte" none with kind := .primitive 'B', accessFlags := 0x411 }
/-- [B -/
def k11 : Class := { plain "[B" (some 0) with kind := .array 10 .byte, interfaces := #[9, 3], accessFlags := 1041 }

/-- the primitive int -/
def k12 : Class := { plain "int" none with kind := .primitive 'I', accessFlags := 0x411 }
/-- [I -/
def k13 : Class := { plain "[I" (some 0) with kind := .array 12 .int, interfaces := #[9, 3], accessFlags := 1041 }

def heap : Heap := #[]
def classes : Array Class := #[k0, k1, k2, k3, k4, k5, k6, k7, k8, k9, k10, k11, k12, k13]
def interned : List (Array UInt16 × Addr) := []
def slotsUsed : Nat := 0
def theMethod : MethodId := ⟨1, 2⟩
def args0 : Array Value := #[.long 5, .int 7]
def aboutOver (below : List Frame) : State where
  vm := { classes := classes, interned := interned.toArray }
  heap := heap
  slotsUsed := slotsUsed
  threads := #[{ frames := .invoking theMethod args0 :: below }]
def below0 : List Frame := [.native { method := ⟨0, 0⟩, args := #[] }]
def about1 : State := aboutOver below0
def p0 : Program := .bare "" "" ""
def e0 : Env := launch0.env 0 0 0
theorem w_frames : about1.frames = Frame.invoking theMethod args0 :: below0 := rfl
set_option maxRecDepth 65536 in
theorem w_args : argsFit about1.vm theMethod args0 = true := by decide +kernel
set_option maxRecDepth 65536 in
theorem w_heap : heapFits about1 = true := by decide +kernel
set_option maxRecDepth 65536 in
theorem w_runnable : about1.curStatus? = some .runnable := by decide +kernel
set_option maxRecDepth 65536 in
theorem w_alone : about1.alone = true := by decide +kernel
set_option maxRecDepth 65536 in
theorem w_named : about1.methodNamed? x = some theMethod := by decide +kernel
set_option maxRecDepth 65536 in
theorem w_hears : about1.hears theMethod below0 = true := by decide +kernel
set_option maxRecDepth 65536 in
theorem w_ripe : about1.ripe theMethod args0 below0 = true := by decide +kernel
theorem w_running : about1.status = .running := rfl
set_option maxRecDepth 65536 in
theorem w_room : about1.hasRoom e0.platform room_1 = true :=
  launch0.hasRoom_least _ room_1 (by decide +kernel) (by decide +kernel) (by decide +kernel) (by decide +kernel) (by decide +kernel) (by decide +kernel)
theorem allAtoms_all (ts : List Jvm.Cond) (a : Array Jvm.Value) (st : Jvm.State) : (allAtoms ts).before a st = ts.all (fun c => c.before a st) := by
  induction ts with
  | nil => rfl
  | cons c t ih =>
    show (Jvm.Cond.and c (allAtoms t)).before a st = _
    rw [Jvm.Cond.before_and, ih, List.all_cons]
def words1 : List Jvm.Cond := Jvm.Cond.code x code maxLocals ret :: tables_1
/-- a 'code' word, met by the world's own term for the bytes: nothing is compared byte by byte -/
theorem code_word {y : MethodName} {bytes : ByteArray} {mx : Nat} {rt : Option FieldType} {a : Array Value} {s : State} {m : MethodId} {meth : Method} {c : Code} (h1 : s.methodNamed? y = some m) (h2 : s.vm.method? m = some meth) (h3 : meth.code = some c) (h4 : c.code = bytes)
    (h5 : (c.maxLocals == mx && c.exceptionTable.isEmpty && decide (c.maxStack ≤ mostOperands) && decide (meth.sig.returnType = rt) && !meth.locks && decide (parseMethodDescriptor y.desc = some meth.sig)) = true) : (Jvm.Cond.code y bytes mx rt).before a s = true := by
  simp only [Bool.and_eq_true, beq_iff_eq, Bool.not_eq_true', decide_eq_true_eq] at h5
  obtain ⟨⟨⟨⟨⟨g1, g2⟩, g3⟩, g4⟩, g5⟩, g6⟩ := h5
  simp [Cond.before, Cond.holds, Cond.value, h1, h2, h3, h4, g1, g2, g3, g4, g5, g6]
def isCode : Jvm.Cond → Bool
  | .code _ _ _ _ => true
  | _ => false
theorem all_split {L : List Jvm.Cond} {P : Jvm.Cond → Bool} (h1 : L.all (fun c => isCode c || P c) = true) (h2 : ∀ c ∈ L.filter isCode, P c = true) : L.all P = true := by
  refine List.all_eq_true.mpr fun c hc => ?_
  have h := List.all_eq_true.mp h1 c hc
  rcases Bool.eq_false_or_eq_true (isCode c) with hi | hi
  · exact h2 c (List.mem_filter.mpr ⟨hc, hi⟩)
  · simpa [hi] using h
set_option maxRecDepth 65536 in
theorem w_c0 : (Jvm.Cond.code x code maxLocals ret).before args0 about1 = true := code_word (m := ⟨1, 2⟩) (meth := k1m2) (c := k1c2) (by decide +kernel) rfl rfl rfl (by decide +kernel)
set_option maxRecDepth 65536 in
theorem w_c1 : (Jvm.Cond.code ({ cls := "com/example/sigillum/sigillum/cose/CborItem", name := "headLength", desc := "(J)I" } : Jvm.MethodName) prog_8_method_15_code (3 : Nat) (Option.some Jvm.ClassFile.FieldType.int)).before args0 about1 = true := code_word (m := ⟨2, 0⟩) (meth := k2m0) (c := k2c0) (by decide +kernel) rfl rfl rfl (by decide +kernel)
set_option maxRecDepth 65536 in
theorem w_c2 : (Jvm.Cond.code ({ cls := "java/lang/Long", name := "compareUnsigned", desc := "(JJ)I" } : Jvm.MethodName) jdk_35_method_43_code (4 : Nat) (Option.some Jvm.ClassFile.FieldType.int)).before args0 about1 = true := code_word (m := ⟨8, 1⟩) (meth := k8m1) (c := k8c1) (by decide +kernel) rfl rfl rfl (by decide +kernel)
set_option maxRecDepth 65536 in
theorem w_c3 : (Jvm.Cond.code ({ cls := "java/lang/Long", name := "compare", desc := "(JJ)I" } : Jvm.MethodName) jdk_35_method_42_code (4 : Nat) (Option.some Jvm.ClassFile.FieldType.int)).before args0 about1 = true := code_word (m := ⟨8, 0⟩) (meth := k8m0) (c := k8c0) (by decide +kernel) rfl rfl rfl (by decide +kernel)
set_option maxRecDepth 65536 in
theorem w_c4 : (Jvm.Cond.code ({ cls := "com/example/sigillum/sigillum/cose/CborItemHeadLengthPinLaw", name := "expected", desc := "(J)I" } : Jvm.MethodName) method_2_code (2 : Nat) (Option.some Jvm.ClassFile.FieldType.int)).before args0 about1 = true := code_word (m := ⟨1, 1⟩) (meth := k1m1) (c := k1c1) (by decide +kernel) rfl rfl rfl (by decide +kernel)
def codes1 : List Jvm.Cond := [Jvm.Cond.code x code maxLocals ret, Jvm.Cond.code ({ cls := "com/example/sigillum/sigillum/cose/CborItem", name := "headLength", desc := "(J)I" } : Jvm.MethodName) prog_8_method_15_code (3 : Nat) (Option.some Jvm.ClassFile.FieldType.int), Jvm.Cond.code ({ cls := "java/lang/Long", name := "compareUnsigned", desc := "(JJ)I" } : Jvm.MethodName) jdk_35_method_43_code (4 : Nat) (Option.some Jvm.ClassFile.FieldType.int), Jvm.Cond.code ({ cls := "java/lang/Long", name := "compare", desc := "(JJ)I" } : Jvm.MethodName) jdk_35_method_42_code (4 : Nat) (Option.some Jvm.ClassFile.FieldType.int), Jvm.Cond.code ({ cls := "com/example/sigillum/sigillum/cose/CborItemHeadLengthPinLaw", name := "expected", desc := "(J)I" } : Jvm.MethodName) method_2_code (2 : Nat) (Option.some Jvm.ClassFile.FieldType.int)]
set_option maxRecDepth 65536 in
theorem codes_eq : words1.filter isCode = codes1 := rfl
theorem w_codes : ∀ c ∈ words1.filter isCode, c.before args0 about1 = true := by
  rw [codes_eq]
  intro c hc
  simp only [codes1, List.mem_cons, List.not_mem_nil, or_false] at hc
  rcases hc with rfl | rfl | rfl | rfl | rfl
  · exact w_c0
  · exact w_c1
  · exact w_c2
  · exact w_c3
  · exact w_c4
set_option maxRecDepth 65536 in
theorem w_t1 : words1.all (fun c => isCode c || c.before args0 about1) = true := by decide +kernel
theorem w_tables : (allAtoms (Jvm.Cond.code x code maxLocals ret :: tables_1)).before args0 about1 = true := by
  rw [allAtoms_all]
  show words1.all (fun c => c.before args0 about1) = true
  refine all_split ?_ w_codes
  rw [w_t1]
set_option maxRecDepth 65536 in
theorem w_case : (Jvm.Cond.and given_1 narrow_1).before args0 about1 = true := by decide +kernel
theorem w_applies : (headSpec (Jvm.Cond.code x code maxLocals ret :: tables_1) room_1).applies x e0.platform about1 = true :=
  (Spec.applies_iff w_frames).mpr ⟨w_running, w_runnable, w_alone, w_named, w_hears, w_ripe, w_room, w_tables⟩
theorem atStart : AtStart classFile x code maxLocals ret World_1 tables_1 room_1 Calls_1 rest_1 Pre_1 launch0 p0 e0 about1 theMethod args0 below0 :=
  ⟨lists_1, trivial, launch0.admits_env _ _ _, launch0.least_env, fairChoices_fair.cas, fairChoices_fair.clock, w_frames, w_args, w_heap, w_applies, trivial, trivial, w_case⟩
end start1
theorem witness_1 : WitnessClaimed_1 := ⟨start1.p0, start1.e0, start1.about1, start1.theMethod, start1.args0, start1.below0, start1.atStart⟩
end Jvm.Pilot.@@N@@
