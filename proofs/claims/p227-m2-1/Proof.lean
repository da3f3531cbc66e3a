import JvmDerived
import JvmDerived.Pilot.@@N@@Statement
import JvmDerived.Pilot.@@N@@Code
set_option linter.unusedVariables false
set_option linter.unusedSimpArgs false

namespace Jvm.Pilot.@@N@@
open Jvm Jvm.ClassFile Sem Op Lib Jvm.Free Jvm.Stand Jvm.LawKit Jvm.RoadKit Bundle Jvm.Pilot.@@N@@.Jvm.D
theorem own_pre {tb : Tables} {e : Env} {below : List Frame} {A B : State} {C : State → Outcome → Prop} (k : ∀ t, Steps tb e below A t → Steps tb e below B t) (h : ∃ s₂ o, Steps tb e below A s₂ ∧ C s₂ o) : ∃ s₂ o, Steps tb e below B s₂ ∧ C s₂ o := by
  obtain ⟨s2, o, h1, h2⟩ := h
  exact ⟨s2, o, k _ h1, h2⟩
theorem own_lrem {p : Program} {l : Launch} {e : Env} {R : Room} {s : State} {m : MethodId} {args : Array Value} {below : List Frame} {meth : Method} {c : Code} {T : State} {locs : List Loc} {cells slots : Nat} {g : JFrame} {target : State} (X : Stand p l e R s m args below meth c T locs cells slots) (hx : p.tables.exec = Jvm.exec) (hg : g.method = m) {x y : Int64} {rest : List Value} (hd : decode c.code g.pc = .ok (.lrem, 1)) (hs : g.stack = .long y :: .long x :: rest) (hy : y ≠ 0)
    (hr : Steps p.tables e below (T.setTop { g with pc := g.pc + 1, stack := .long (x % y) :: rest }) target) : Steps p.tables e below (T.setTop g) target :=
  XS.lrem X.here hx hg hd hs hy (by rw [lrem_mod]; exact hr)
theorem own_w {wl : List Jvm.Cond} {a0 : Array Value} {Z : State} (h : ∀ d ∈ wl, d.before a0 Z = true) (i : Nat) {d : Jvm.Cond} (g : wl[i]? = some d) : d.before a0 Z = true := h d (List.mem_of_getElem? g)

theorem own_pd0 : parseMethodDescriptor "(JJ)I" = some ⟨[.long, .long], some .int⟩ := by decide +kernel
theorem own_pd1 : parseMethodDescriptor "(J)I" = some ⟨[.long], some .int⟩ := by decide +kernel
theorem own_pd2 : parseMethodDescriptor "(I)I" = some ⟨[.int], some .int⟩ := by decide +kernel
theorem own_pd3 : parseMethodDescriptor "(IJI)I" = some ⟨[.int, .long, .int], some .int⟩ := by decide +kernel
theorem d4_0 : decode jdk_35_method_42_code 0 = .ok (.lload_n 0, 1) := by decide +kernel
theorem d4_1 : decode jdk_35_method_42_code 1 = .ok (.lload_n 2, 1) := by decide +kernel
theorem d4_2 : decode jdk_35_method_42_code 2 = .ok (.lcmp, 1) := by decide +kernel
theorem d4_3 : decode jdk_35_method_42_code 3 = .ok (.ifCond .ge 7, 3) := by decide +kernel
theorem d4_6 : decode jdk_35_method_42_code 6 = .ok (.iconst (-1), 1) := by decide +kernel
theorem d4_7 : decode jdk_35_method_42_code 7 = .ok (.goto 14, 3) := by decide +kernel
theorem d4_10 : decode jdk_35_method_42_code 10 = .ok (.lload_n 0, 1) := by decide +kernel
theorem d4_11 : decode jdk_35_method_42_code 11 = .ok (.lload_n 2, 1) := by decide +kernel
theorem d4_12 : decode jdk_35_method_42_code 12 = .ok (.lcmp, 1) := by decide +kernel
theorem d4_13 : decode jdk_35_method_42_code 13 = .ok (.ifCond .ne 7, 3) := by decide +kernel
theorem d4_16 : decode jdk_35_method_42_code 16 = .ok (.iconst 0, 1) := by decide +kernel
theorem d4_17 : decode jdk_35_method_42_code 17 = .ok (.goto 4, 3) := by decide +kernel
theorem d4_20 : decode jdk_35_method_42_code 20 = .ok (.iconst 1, 1) := by decide +kernel
theorem d4_21 : decode jdk_35_method_42_code 21 = .ok (.ireturn, 1) := by decide +kernel
theorem own_pn4 : plainName "java/lang/Long" = true := by first | (simp [plainName, overriddenIn]; done) | decide +kernel
theorem own_ef4 (m : MethodId) (x0 : Int64) (x1 : Int64) : entryFrame m #[(.long x0), (.long x1)] 4 = mkF m 0 #[.val (.long x0), .second, .val (.long x1), .second] [] := by first | (simp [entryFrame, mkF, argsToLocals, Value.category]; done) | rfl
def own_cmp (qx : Int64) (qy : Int64) : Int32 := (if qx < qy then (-1 : Int32) else (if qx = qy then (0 : Int32) else (1 : Int32)))
def own_Q4 (qx : Int64) (qy : Int64) (h0 : Heap) (n0 : Nat) (v : Option Value) (h : Heap) (L : List Loc) : Prop := v = some (.int (own_cmp qx qy)) ∧ Fr n0 L ∧ h = h0
set_option maxRecDepth 65536 in
set_option maxHeartbeats 40000000 in
theorem rm4 (l : Launch) (Z : State) (a0 : Array Value) (hw : ∀ d ∈ tables_1, d.before a0 Z = true) (ws : List Jvm.Cond) (qx : Int64) (qy : Int64) (h0 : Heap) (n0 : Nat) (Z0 : n0 ≤ h0.size) :
    MetFree l (⟨"java/lang/Long", "compare", "(JJ)I"⟩ : MethodName) (head1 (Jvm.Cond.code (⟨"java/lang/Long", "compare", "(JJ)I"⟩ : MethodName) jdk_35_method_42_code 4 (some .int) :: ws) ({ frames := 0, cells := 0, slots := 0, locals := 0 } : Room)) (fun a U => a = #[(.long qx), (.long qy)] ∧ Z.Warmed39 U.vm ∧ U.heap = h0) (fun _ _ _ _ _ => True) (fun _ U o U' => ∃ v L, o = .returned v ∧ own_Q4 qx qy h0 n0 v U'.heap L ∧ FrameEnd U o U' L ({ frames := 0, cells := 0, slots := 0, locals := 0 } : Room).cells ({ frames := 0, cells := 0, slots := 0, locals := 0 } : Room).slots) := by
  refine MetFree.of_bodySF (plainFor_of_name own_pn4) hisR ?_
  intro p e s m args below meth c s₁ Bd hml0 hP hK
  obtain ⟨rfl, hZ, hh⟩ := hP
  have hx := Bd.exec
  have hby := Bd.bytes
  have hml : c.maxLocals = 4 := hml0
  have hown : s.vm.findClass "java/lang/Long" = some m.cls := findClass_of_methodNamed Bd.named
  have hnm := (name_of_methodNamed Bd.named Bd.method).1
  have X0 : Stand p l e ({ frames := 0, cells := 0, slots := 0, locals := 0 } : Room) s m #[(.long qx), (.long qy)] below meth c s₁ [] 0 0 := Stand.of_body Bd
  have e0 : s₁.heap = h0 := by rw [← hh, Bd.state]; rfl
  have N0 := Fr.nil n0
  refine own_pre (A := (s₁.setTop (mkF m 0 #[.val (.long qx), .second, .val (.long qy), .second] []))) (fun t k => castTop (own_ef4 m qx qy) k) ?_
  refine own_pre (A := (s₁.setTop (mkF m 3 #[.val (.long qx), .second, .val (.long qy), .second] [(.int (lcmpW qx qy))]))) ?_ ?_
  · intro t k
    show Steps p.tables e below (s₁.setTop (mkF m 0 #[.val (.long qx), .second, .val (.long qy), .second] [])) _
    refine XS.lloadN X0.here hx rfl (hb hby d4_0) rfl ?_
    refine XS.lloadN X0.here hx rfl (hb hby d4_1) rfl ?_
    refine XS.lcmp X0.here hx rfl (hb hby d4_2) rfl ?_
    exact k
  by_cases hc1 : qx < qy
  · skip
    refine own_pre (A := (s₁.setTop (mkF m 6 #[.val (.long qx), .second, .val (.long qy), .second] []))) ?_ ?_
    · intro t k
      refine XS.ifNo X0.here hx rfl (hb hby d4_3) rfl ((if0 _ _).trans (tlt ((lw_lt qx qy).mpr hc1)).2.1) ?_
      exact k
    refine own_pre (A := (s₁.setTop (mkF m 21 #[.val (.long qx), .second, .val (.long qy), .second] [(.int (-1 : Int32))]))) ?_ ?_
    · intro t k
      show Steps p.tables e below (s₁.setTop (mkF m 6 #[.val (.long qx), .second, .val (.long qy), .second] [])) _
      refine XS.iconst X0.here hx rfl (hb hby d4_6) ?_
      show Steps p.tables e below (s₁.setTop (mkF m 7 #[.val (.long qx), .second, .val (.long qy), .second] [(.int (-1 : Int32))])) _
      refine XS.goto X0.here hx rfl (pc0 := 7) (pc' := 21) rfl (hb hby d4_7) (by decide) (by decide) ?_
      exact k
    have hz : own_cmp qx qy = (-1 : Int32) := by simp only [own_cmp, if_pos hc1]
    obtain ⟨fs, hr, hrun, hended, hW, hsame⟩ := X0.leave (hlocks := BodyLoose.notSynchronized Bd) (v := some (.int (-1 : Int32))) (fun h => by rw [Bd.returns] at h; cases h)
    refine ⟨_, _, retOut X0 hx Bd.returns rfl (Or.inl ⟨rfl, Or.inl rfl, _, rfl⟩) (hb hby d4_21) hr, hrun, hended, _, _, rfl, ?_, ⟨_, rfl⟩, hW, hsame.mono (by decide) (by decide)⟩
    show own_Q4 qx qy h0 n0 _ s₁.heap _
    rw [e0]
    exact ⟨by rw [hz], N0, rfl⟩
  · skip
    refine own_pre (A := (s₁.setTop (mkF m 10 #[.val (.long qx), .second, .val (.long qy), .second] []))) ?_ ?_
    · intro t k
      refine XS.ifYes X0.here hx rfl (pc0 := 3) (pc' := 10) rfl (hb hby d4_3) rfl ((if0 _ _).trans (flt (fun q => hc1 ((lw_lt qx qy).mp q))).2.1) (by decide) (by decide) ?_
      exact k
    refine own_pre (A := (s₁.setTop (mkF m 13 #[.val (.long qx), .second, .val (.long qy), .second] [(.int (lcmpW qx qy))]))) ?_ ?_
    · intro t k
      show Steps p.tables e below (s₁.setTop (mkF m 10 #[.val (.long qx), .second, .val (.long qy), .second] [])) _
      refine XS.lloadN X0.here hx rfl (hb hby d4_10) rfl ?_
      refine XS.lloadN X0.here hx rfl (hb hby d4_11) rfl ?_
      refine XS.lcmp X0.here hx rfl (hb hby d4_12) rfl ?_
      exact k
    by_cases hc2 : qx = qy
    · skip
      refine own_pre (A := (s₁.setTop (mkF m 16 #[.val (.long qx), .second, .val (.long qy), .second] []))) ?_ ?_
      · intro t k
        refine XS.ifNo X0.here hx rfl (hb hby d4_13) rfl ((if0 _ _).trans (teq ((lw_eq qx qy).mpr hc2)).2) ?_
        exact k
      refine own_pre (A := (s₁.setTop (mkF m 21 #[.val (.long qx), .second, .val (.long qy), .second] [(.int (0 : Int32))]))) ?_ ?_
      · intro t k
        show Steps p.tables e below (s₁.setTop (mkF m 16 #[.val (.long qx), .second, .val (.long qy), .second] [])) _
        refine XS.iconst X0.here hx rfl (hb hby d4_16) ?_
        show Steps p.tables e below (s₁.setTop (mkF m 17 #[.val (.long qx), .second, .val (.long qy), .second] [(.int (0 : Int32))])) _
        refine XS.goto X0.here hx rfl (pc0 := 17) (pc' := 21) rfl (hb hby d4_17) (by decide) (by decide) ?_
        exact k
      have hz : own_cmp qx qy = (0 : Int32) := by simp only [own_cmp, if_neg hc1, if_pos hc2]
      obtain ⟨fs, hr, hrun, hended, hW, hsame⟩ := X0.leave (hlocks := BodyLoose.notSynchronized Bd) (v := some (.int (0 : Int32))) (fun h => by rw [Bd.returns] at h; cases h)
      refine ⟨_, _, retOut X0 hx Bd.returns rfl (Or.inl ⟨rfl, Or.inl rfl, _, rfl⟩) (hb hby d4_21) hr, hrun, hended, _, _, rfl, ?_, ⟨_, rfl⟩, hW, hsame.mono (by decide) (by decide)⟩
      show own_Q4 qx qy h0 n0 _ s₁.heap _
      rw [e0]
      exact ⟨by rw [hz], N0, rfl⟩
    · skip
      refine own_pre (A := (s₁.setTop (mkF m 20 #[.val (.long qx), .second, .val (.long qy), .second] []))) ?_ ?_
      · intro t k
        refine XS.ifYes X0.here hx rfl (pc0 := 13) (pc' := 20) rfl (hb hby d4_13) rfl ((if0 _ _).trans (feq (fun q => hc2 ((lw_eq qx qy).mp q))).2) (by decide) (by decide) ?_
        exact k
      refine own_pre (A := (s₁.setTop (mkF m 21 #[.val (.long qx), .second, .val (.long qy), .second] [(.int (1 : Int32))]))) ?_ ?_
      · intro t k
        show Steps p.tables e below (s₁.setTop (mkF m 20 #[.val (.long qx), .second, .val (.long qy), .second] [])) _
        refine XS.iconst X0.here hx rfl (hb hby d4_20) ?_
        exact k
      have hz : own_cmp qx qy = (1 : Int32) := by simp only [own_cmp, if_neg hc1, if_neg hc2]
      obtain ⟨fs, hr, hrun, hended, hW, hsame⟩ := X0.leave (hlocks := BodyLoose.notSynchronized Bd) (v := some (.int (1 : Int32))) (fun h => by rw [Bd.returns] at h; cases h)
      refine ⟨_, _, retOut X0 hx Bd.returns rfl (Or.inl ⟨rfl, Or.inl rfl, _, rfl⟩) (hb hby d4_21) hr, hrun, hended, _, _, rfl, ?_, ⟨_, rfl⟩, hW, hsame.mono (by decide) (by decide)⟩
      show own_Q4 qx qy h0 n0 _ s₁.heap _
      rw [e0]
      exact ⟨by rw [hz], N0, rfl⟩
theorem d3_0 : decode jdk_35_method_43_code 0 = .ok (.lload_n 0, 1) := by decide +kernel
theorem d3_1 : decode jdk_35_method_43_code 1 = .ok (.ldc2_w 168, 3) := by decide +kernel
theorem d3_4 : decode jdk_35_method_43_code 4 = .ok (.ladd, 1) := by decide +kernel
theorem d3_5 : decode jdk_35_method_43_code 5 = .ok (.lload_n 2, 1) := by decide +kernel
theorem d3_6 : decode jdk_35_method_43_code 6 = .ok (.ldc2_w 168, 3) := by decide +kernel
theorem d3_9 : decode jdk_35_method_43_code 9 = .ok (.ladd, 1) := by decide +kernel
theorem d3_10 : decode jdk_35_method_43_code 10 = .ok (.invokestatic 302, 3) := by decide +kernel
theorem d3_13 : decode jdk_35_method_43_code 13 = .ok (.ireturn, 1) := by decide +kernel
theorem own_pn3 : plainName "java/lang/Long" = true := by first | (simp [plainName, overriddenIn]; done) | decide +kernel
theorem own_ef3 (m : MethodId) (x0 : Int64) (x1 : Int64) : entryFrame m #[(.long x0), (.long x1)] 4 = mkF m 0 #[.val (.long x0), .second, .val (.long x1), .second] [] := by first | (simp [entryFrame, mkF, argsToLocals, Value.category]; done) | rfl
def own_cmpU (qx : Int64) (qy : Int64) : Int32 := (own_cmp (qx + (-9223372036854775808 : Int64)) (qy + (-9223372036854775808 : Int64)))
def own_Q3 (qx : Int64) (qy : Int64) (h0 : Heap) (n0 : Nat) (v : Option Value) (h : Heap) (L : List Loc) : Prop := v = some (.int (own_cmpU qx qy)) ∧ Fr n0 L ∧ h = h0
set_option maxRecDepth 65536 in
set_option maxHeartbeats 40000000 in
theorem rm3 (l : Launch) (Z : State) (a0 : Array Value) (hw : ∀ d ∈ tables_1, d.before a0 Z = true) (ws : List Jvm.Cond) (qx : Int64) (qy : Int64) (h0 : Heap) (n0 : Nat) (Z0 : n0 ≤ h0.size) :
    MetFree l (⟨"java/lang/Long", "compareUnsigned", "(JJ)I"⟩ : MethodName) (head1 (Jvm.Cond.code (⟨"java/lang/Long", "compareUnsigned", "(JJ)I"⟩ : MethodName) jdk_35_method_43_code 4 (some .int) :: ws) ({ frames := 1, cells := 0, slots := 0, locals := 15 } : Room)) (fun a U => a = #[(.long qx), (.long qy)] ∧ Z.Warmed39 U.vm ∧ U.heap = h0) (fun _ _ _ _ _ => True) (fun _ U o U' => ∃ v L, o = .returned v ∧ own_Q3 qx qy h0 n0 v U'.heap L ∧ FrameEnd U o U' L ({ frames := 1, cells := 0, slots := 0, locals := 15 } : Room).cells ({ frames := 1, cells := 0, slots := 0, locals := 15 } : Room).slots) := by
  refine MetFree.of_bodySF (plainFor_of_name own_pn3) hisR ?_
  intro p e s m args below meth c s₁ Bd hml0 hP hK
  obtain ⟨rfl, hZ, hh⟩ := hP
  have hx := Bd.exec
  have hby := Bd.bytes
  have hml : c.maxLocals = 4 := hml0
  have hown : s.vm.findClass "java/lang/Long" = some m.cls := findClass_of_methodNamed Bd.named
  have hnm := (name_of_methodNamed Bd.named Bd.method).1
  have X0 : Stand p l e ({ frames := 1, cells := 0, slots := 0, locals := 15 } : Room) s m #[(.long qx), (.long qy)] below meth c s₁ [] 0 0 := Stand.of_body Bd
  have e0 : s₁.heap = h0 := by rw [← hh, Bd.state]; rfl
  have N0 := Fr.nil n0
  refine own_pre (A := (s₁.setTop (mkF m 0 #[.val (.long qx), .second, .val (.long qy), .second] []))) (fun t k => castTop (own_ef3 m qx qy) k) ?_
  refine own_pre (A := (s₁.setTop (mkF m 10 #[.val (.long qx), .second, .val (.long qy), .second] [(.long (qy + (-9223372036854775808 : Int64))), (.long (qx + (-9223372036854775808 : Int64)))]))) ?_ ?_
  · intro t k
    show Steps p.tables e below (s₁.setTop (mkF m 0 #[.val (.long qx), .second, .val (.long qy), .second] [])) _
    refine XS.lloadN X0.here hx rfl (hb hby d3_0) rfl ?_
    show Steps p.tables e below (s₁.setTop (mkF m 1 #[.val (.long qx), .second, .val (.long qy), .second] [(.long qx)])) _
    refine X0.ldc2Long hx hown (mvT hZ (own_w hw 14 rfl)) (g := (mkF m 1 #[.val (.long qx), .second, .val (.long qy), .second] [(.long qx)])) rfl (hb hby d3_1) _ ?_
    show Steps p.tables e below (s₁.setTop (mkF m 4 #[.val (.long qx), .second, .val (.long qy), .second] [(.long (-9223372036854775808 : Int64)), (.long qx)])) _
    refine XS.ladd X0.here hx rfl (hb hby d3_4) rfl ?_
    refine XS.lloadN X0.here hx rfl (hb hby d3_5) rfl ?_
    show Steps p.tables e below (s₁.setTop (mkF m 6 #[.val (.long qx), .second, .val (.long qy), .second] [(.long qy), (.long (qx + (-9223372036854775808 : Int64)))])) _
    refine X0.ldc2Long hx hown (mvT hZ (own_w hw 14 rfl)) (g := (mkF m 6 #[.val (.long qx), .second, .val (.long qy), .second] [(.long qy), (.long (qx + (-9223372036854775808 : Int64)))])) rfl (hb hby d3_6) _ ?_
    show Steps p.tables e below (s₁.setTop (mkF m 9 #[.val (.long qx), .second, .val (.long qy), .second] [(.long (-9223372036854775808 : Int64)), (.long qy), (.long (qx + (-9223372036854775808 : Int64)))])) _
    refine XS.ladd X0.here hx rfl (hb hby d3_9) rfl ?_
    exact k
  obtain ⟨_, _, ⟨T3, L3, k3, n3⟩, -, X3, ⟨Lc3, hQ3, l3, y3, z3⟩, st3⟩ := Jvm.LawKit.callS X0 hx (y := (⟨"java/lang/Long", "compare", "(JJ)I"⟩ : MethodName)) hown (mvT hZ (own_w hw 15 rfl)) (mvT hZ (own_w hw 16 rfl)) (mvT hZ (own_w hw 12 rfl)) (mvT hZ (own_w hw 17 rfl)) (by decide) (backOf (W := 0) (rm4 l Z a0 hw [] (qx + (-9223372036854775808 : Int64)) (qy + (-9223372036854775808 : Int64)) h0 n0 Z0) hZ (own_w hw 17 rfl) (own_w hw 12 rfl) (by decide) (by decide)) (g := (mkF m 10 #[.val (.long qx), .second, .val (.long qy), .second] [(.long (qy + (-9223372036854775808 : Int64))), (.long (qx + (-9223372036854775808 : Int64)))])) rfl (by rw [hml]; rfl) (argsL := [(.long (qx + (-9223372036854775808 : Int64))), (.long (qy + (-9223372036854775808 : Int64)))]) (rest := []) (lenOf own_pd0 rfl) rfl (by show 2 * 0 + _ ≤ _; exact Nat.le_of_eq rfl) (hb hby d3_10) (fun _ _ => ⟨rfl, e0, (by decide : 0 + 0 ≤ _), (by decide : 0 + 0 ≤ _)⟩)
  dsimp only [Pt.U, Pt.locs, Pt.cells, Pt.slots] at X3 l3 y3 z3 st3 hQ3
  subst l3 y3 z3
  obtain ⟨rfl, Nq3, eq3⟩ := hQ3
  have N3 := Fr.app N0 Nq3
  refine own_pre (fun t k => st3 t k) ?_
  have hz : own_cmpU qx qy = (own_cmp (qx + (-9223372036854775808 : Int64)) (qy + (-9223372036854775808 : Int64))) := rfl
  obtain ⟨fs, hr, hrun, hended, hW, hsame⟩ := X3.leave (hlocks := BodyLoose.notSynchronized Bd) (v := some (.int (own_cmp (qx + (-9223372036854775808 : Int64)) (qy + (-9223372036854775808 : Int64))))) (fun h => by rw [Bd.returns] at h; cases h)
  refine ⟨_, _, retOut X3 hx Bd.returns rfl (Or.inl ⟨rfl, Or.inl rfl, _, rfl⟩) (hb hby d3_13) hr, hrun, hended, _, _, rfl, ?_, ⟨_, rfl⟩, hW, hsame.mono (by decide) (by decide)⟩
  show own_Q3 qx qy h0 n0 _ T3.heap _
  rw [eq3]
  exact ⟨by rw [hz], N3, rfl⟩
theorem d2_0 : decode prog_8_method_15_code 0 = .ok (.lload_n 0, 1) := by decide +kernel
theorem d2_1 : decode prog_8_method_15_code 1 = .ok (.ldc2_w 171, 3) := by decide +kernel
theorem d2_4 : decode prog_8_method_15_code 4 = .ok (.invokestatic 173, 3) := by decide +kernel
theorem d2_7 : decode prog_8_method_15_code 7 = .ok (.ifCond .ge 5, 3) := by decide +kernel
theorem d2_10 : decode prog_8_method_15_code 10 = .ok (.iconst 1, 1) := by decide +kernel
theorem d2_11 : decode prog_8_method_15_code 11 = .ok (.ireturn, 1) := by decide +kernel
theorem d2_12 : decode prog_8_method_15_code 12 = .ok (.bipush 8, 2) := by decide +kernel
theorem d2_14 : decode prog_8_method_15_code 14 = .ok (.istore_n 2, 1) := by decide +kernel
theorem d2_15 : decode prog_8_method_15_code 15 = .ok (.iload_n 2, 1) := by decide +kernel
theorem d2_16 : decode prog_8_method_15_code 16 = .ok (.iconst 1, 1) := by decide +kernel
theorem d2_17 : decode prog_8_method_15_code 17 = .ok (.if_icmp .le 20, 3) := by decide +kernel
theorem d2_20 : decode prog_8_method_15_code 20 = .ok (.lload_n 0, 1) := by decide +kernel
theorem d2_21 : decode prog_8_method_15_code 21 = .ok (.iconst 4, 1) := by decide +kernel
theorem d2_22 : decode prog_8_method_15_code 22 = .ok (.iload_n 2, 1) := by decide +kernel
theorem d2_23 : decode prog_8_method_15_code 23 = .ok (.imul, 1) := by decide +kernel
theorem d2_24 : decode prog_8_method_15_code 24 = .ok (.lushr, 1) := by decide +kernel
theorem d2_25 : decode prog_8_method_15_code 25 = .ok (.lconst 0, 1) := by decide +kernel
theorem d2_26 : decode prog_8_method_15_code 26 = .ok (.lcmp, 1) := by decide +kernel
theorem d2_27 : decode prog_8_method_15_code 27 = .ok (.ifCond .ne 10, 3) := by decide +kernel
theorem d2_30 : decode prog_8_method_15_code 30 = .ok (.iload_n 2, 1) := by decide +kernel
theorem d2_31 : decode prog_8_method_15_code 31 = .ok (.iconst 2, 1) := by decide +kernel
theorem d2_32 : decode prog_8_method_15_code 32 = .ok (.idiv, 1) := by decide +kernel
theorem d2_33 : decode prog_8_method_15_code 33 = .ok (.istore_n 2, 1) := by decide +kernel
theorem d2_34 : decode prog_8_method_15_code 34 = .ok (.goto (-19), 3) := by decide +kernel
theorem d2_37 : decode prog_8_method_15_code 37 = .ok (.iconst 1, 1) := by decide +kernel
theorem d2_38 : decode prog_8_method_15_code 38 = .ok (.iload_n 2, 1) := by decide +kernel
theorem d2_39 : decode prog_8_method_15_code 39 = .ok (.iadd, 1) := by decide +kernel
theorem d2_40 : decode prog_8_method_15_code 40 = .ok (.ireturn, 1) := by decide +kernel
theorem own_pn2 : plainName "com/example/sigillum/sigillum/cose/CborItem" = true := by first | (simp [plainName, overriddenIn]; done) | decide +kernel
theorem own_ef2 (m : MethodId) (x0 : Int64) : entryFrame m #[(.long x0)] 3 = mkF m 0 #[.val (.long x0), .second, .unset] [] := by first | (simp [entryFrame, mkF, argsToLocals, Value.category]; done) | rfl
def own_hl (qa : Int64) : Int32 := (if (own_cmpU qa (24 : Int64)) < (0 : Int32) then (1 : Int32) else (if ((qa.toUInt64 >>> ((32 : Int32) &&& 0x3f).toInt64.toUInt64).toInt64) = (0 : Int64) then (if ((qa.toUInt64 >>> ((16 : Int32) &&& 0x3f).toInt64.toUInt64).toInt64) = (0 : Int64) then (if ((qa.toUInt64 >>> ((8 : Int32) &&& 0x3f).toInt64.toUInt64).toInt64) = (0 : Int64) then (2 : Int32) else (3 : Int32)) else (5 : Int32)) else (9 : Int32)))
def own_Q2 (qa : Int64) (h0 : Heap) (n0 : Nat) (v : Option Value) (h : Heap) (L : List Loc) : Prop := v = some (.int (own_hl qa)) ∧ Fr n0 L ∧ h = h0
set_option maxRecDepth 65536 in
set_option maxHeartbeats 40000000 in
theorem rm2 (l : Launch) (Z : State) (a0 : Array Value) (hw : ∀ d ∈ tables_1, d.before a0 Z = true) (ws : List Jvm.Cond) (qa : Int64) (h0 : Heap) (n0 : Nat) (Z0 : n0 ≤ h0.size) :
    MetFree l (⟨"com/example/sigillum/sigillum/cose/CborItem", "headLength", "(J)I"⟩ : MethodName) (head1 (Jvm.Cond.code (⟨"com/example/sigillum/sigillum/cose/CborItem", "headLength", "(J)I"⟩ : MethodName) prog_8_method_15_code 3 (some .int) :: ws) ({ frames := 2, cells := 0, slots := 0, locals := 30 } : Room)) (fun a U => a = #[(.long qa)] ∧ Z.Warmed39 U.vm ∧ U.heap = h0) (fun _ _ _ _ _ => True) (fun _ U o U' => ∃ v L, o = .returned v ∧ own_Q2 qa h0 n0 v U'.heap L ∧ FrameEnd U o U' L ({ frames := 2, cells := 0, slots := 0, locals := 30 } : Room).cells ({ frames := 2, cells := 0, slots := 0, locals := 30 } : Room).slots) := by
  refine MetFree.of_bodySF (plainFor_of_name own_pn2) hisR ?_
  intro p e s m args below meth c s₁ Bd hml0 hP hK
  obtain ⟨rfl, hZ, hh⟩ := hP
  have hx := Bd.exec
  have hby := Bd.bytes
  have hml : c.maxLocals = 3 := hml0
  have hown : s.vm.findClass "com/example/sigillum/sigillum/cose/CborItem" = some m.cls := findClass_of_methodNamed Bd.named
  have hnm := (name_of_methodNamed Bd.named Bd.method).1
  have X0 : Stand p l e ({ frames := 2, cells := 0, slots := 0, locals := 30 } : Room) s m #[(.long qa)] below meth c s₁ [] 0 0 := Stand.of_body Bd
  have e0 : s₁.heap = h0 := by rw [← hh, Bd.state]; rfl
  have N0 := Fr.nil n0
  refine own_pre (A := (s₁.setTop (mkF m 0 #[.val (.long qa), .second, .unset] []))) (fun t k => castTop (own_ef2 m qa) k) ?_
  refine own_pre (A := (s₁.setTop (mkF m 4 #[.val (.long qa), .second, .unset] [(.long (24 : Int64)), (.long qa)]))) ?_ ?_
  · intro t k
    show Steps p.tables e below (s₁.setTop (mkF m 0 #[.val (.long qa), .second, .unset] [])) _
    refine XS.lloadN X0.here hx rfl (hb hby d2_0) rfl ?_
    show Steps p.tables e below (s₁.setTop (mkF m 1 #[.val (.long qa), .second, .unset] [(.long qa)])) _
    refine X0.ldc2Long hx hown (mvT hZ (own_w hw 9 rfl)) (g := (mkF m 1 #[.val (.long qa), .second, .unset] [(.long qa)])) rfl (hb hby d2_1) _ ?_
    exact k
  obtain ⟨_, _, ⟨T4, L4, k4, n4⟩, -, X4, ⟨Lc4, hQ4, l4, y4, z4⟩, st4⟩ := Jvm.LawKit.callS X0 hx (y := (⟨"java/lang/Long", "compareUnsigned", "(JJ)I"⟩ : MethodName)) hown (mvT hZ (own_w hw 10 rfl)) (mvT hZ (own_w hw 11 rfl)) (mvT hZ (own_w hw 12 rfl)) (mvT hZ (own_w hw 13 rfl)) (by decide) (backOf (W := 0) (rm3 l Z a0 hw [] qa (24 : Int64) h0 n0 Z0) hZ (own_w hw 13 rfl) (own_w hw 12 rfl) (by decide) (by decide)) (g := (mkF m 4 #[.val (.long qa), .second, .unset] [(.long (24 : Int64)), (.long qa)])) rfl (by rw [hml]; rfl) (argsL := [(.long qa), (.long (24 : Int64))]) (rest := []) (lenOf own_pd0 rfl) rfl (by show 2 * 0 + _ ≤ _; exact Nat.le_of_eq rfl) (hb hby d2_4) (fun _ _ => ⟨rfl, e0, (by decide : 0 + 0 ≤ _), (by decide : 0 + 0 ≤ _)⟩)
  dsimp only [Pt.U, Pt.locs, Pt.cells, Pt.slots] at X4 l4 y4 z4 st4 hQ4
  subst l4 y4 z4
  obtain ⟨rfl, Nq4, eq4⟩ := hQ4
  have N4 := Fr.app N0 Nq4
  refine own_pre (fun t k => st4 t k) ?_
  by_cases hc5 : (own_cmpU qa (24 : Int64)) < (0 : Int32)
  · skip
    refine own_pre (A := (T4.setTop (mkF m 10 #[.val (.long qa), .second, .unset] []))) ?_ ?_
    · intro t k
      refine XS.ifNo X4.here hx rfl (hb hby d2_7) rfl ((if0 _ _).trans (tlt hc5).2.1) ?_
      exact k
    refine own_pre (A := (T4.setTop (mkF m 11 #[.val (.long qa), .second, .unset] [(.int (1 : Int32))]))) ?_ ?_
    · intro t k
      show Steps p.tables e below (T4.setTop (mkF m 10 #[.val (.long qa), .second, .unset] [])) _
      refine XS.iconst X4.here hx rfl (hb hby d2_10) ?_
      exact k
    have hz : own_hl qa = (1 : Int32) := by simp only [own_hl, if_pos hc5]
    obtain ⟨fs, hr, hrun, hended, hW, hsame⟩ := X4.leave (hlocks := BodyLoose.notSynchronized Bd) (v := some (.int (1 : Int32))) (fun h => by rw [Bd.returns] at h; cases h)
    refine ⟨_, _, retOut X4 hx Bd.returns rfl (Or.inl ⟨rfl, Or.inl rfl, _, rfl⟩) (hb hby d2_11) hr, hrun, hended, _, _, rfl, ?_, ⟨_, rfl⟩, hW, hsame.mono (by decide) (by decide)⟩
    show own_Q2 qa h0 n0 _ T4.heap _
    rw [eq4]
    exact ⟨by rw [hz], N4, rfl⟩
  · skip
    refine own_pre (A := (T4.setTop (mkF m 12 #[.val (.long qa), .second, .unset] []))) ?_ ?_
    · intro t k
      refine XS.ifYes X4.here hx rfl (pc0 := 7) (pc' := 12) rfl (hb hby d2_7) rfl ((if0 _ _).trans (flt hc5).2.1) (by decide) (by decide) ?_
      exact k
    refine own_pre (A := (T4.setTop (mkF m 27 #[.val (.long qa), .second, .val (.int (8 : Int32))] [(.int (lcmpW ((qa.toUInt64 >>> ((32 : Int32) &&& 0x3f).toInt64.toUInt64).toInt64) (0 : Int64)))]))) ?_ ?_
    · intro t k
      show Steps p.tables e below (T4.setTop (mkF m 12 #[.val (.long qa), .second, .unset] [])) _
      refine XS.bipush X4.here hx rfl (hb hby d2_12) ?_
      show Steps p.tables e below (T4.setTop (mkF m 14 #[.val (.long qa), .second, .unset] [(.int (8 : Int32))])) _
      refine XS.istoreN X4.here hx rfl (hb hby d2_14) rfl (l' := #[.val (.long qa), .second, .val (.int (8 : Int32))]) rfl ?_
      refine XS.iloadN X4.here hx rfl (hb hby d2_15) rfl ?_
      refine XS.iconst X4.here hx rfl (hb hby d2_16) ?_
      refine XS.icmpNo X4.here hx rfl (hb hby d2_17) rfl (tlt (by decide : (1 : Int32) < (8 : Int32))).2.2.2 ?_
      refine XS.lloadN X4.here hx rfl (hb hby d2_20) rfl ?_
      refine XS.iconst X4.here hx rfl (hb hby d2_21) ?_
      refine XS.iloadN X4.here hx rfl (hb hby d2_22) rfl ?_
      refine XS.imul X4.here hx rfl (hb hby d2_23) rfl ?_
      show Steps p.tables e below (T4.setTop (mkF m 24 #[.val (.long qa), .second, .val (.int (8 : Int32))] [(.int ((4 : Int32) * (8 : Int32))), (.long qa)])) _
      rw [show ((4 : Int32) * (8 : Int32)) = (32 : Int32) from by decide]
      show Steps p.tables e below (T4.setTop (mkF m 24 #[.val (.long qa), .second, .val (.int (8 : Int32))] [(.int (32 : Int32)), (.long qa)])) _
      refine XS.lushr X4.here hx rfl (hb hby d2_24) rfl ?_
      refine XS.lconst X4.here hx rfl (hb hby d2_25) ?_
      refine XS.lcmp X4.here hx rfl (hb hby d2_26) rfl ?_
      exact k
    by_cases hc6 : ((qa.toUInt64 >>> ((32 : Int32) &&& 0x3f).toInt64.toUInt64).toInt64) = (0 : Int64)
    · skip
      refine own_pre (A := (T4.setTop (mkF m 30 #[.val (.long qa), .second, .val (.int (8 : Int32))] []))) ?_ ?_
      · intro t k
        refine XS.ifNo X4.here hx rfl (hb hby d2_27) rfl ((if0 _ _).trans (teq ((lw_eq ((qa.toUInt64 >>> ((32 : Int32) &&& 0x3f).toInt64.toUInt64).toInt64) (0 : Int64)).mpr hc6)).2) ?_
        exact k
      refine own_pre (A := (T4.setTop (mkF m 27 #[.val (.long qa), .second, .val (.int (4 : Int32))] [(.int (lcmpW ((qa.toUInt64 >>> ((16 : Int32) &&& 0x3f).toInt64.toUInt64).toInt64) (0 : Int64)))]))) ?_ ?_
      · intro t k
        show Steps p.tables e below (T4.setTop (mkF m 30 #[.val (.long qa), .second, .val (.int (8 : Int32))] [])) _
        refine XS.iloadN X4.here hx rfl (hb hby d2_30) rfl ?_
        refine XS.iconst X4.here hx rfl (hb hby d2_31) ?_
        refine XS.idiv X4.here hx rfl (hb hby d2_32) rfl (by decide) ?_
        show Steps p.tables e below (T4.setTop (mkF m 33 #[.val (.long qa), .second, .val (.int (8 : Int32))] [(.int ((8 : Int32) / (2 : Int32)))])) _
        rw [show ((8 : Int32) / (2 : Int32)) = (4 : Int32) from by decide]
        show Steps p.tables e below (T4.setTop (mkF m 33 #[.val (.long qa), .second, .val (.int (8 : Int32))] [(.int (4 : Int32))])) _
        refine XS.istoreN X4.here hx rfl (hb hby d2_33) rfl (l' := #[.val (.long qa), .second, .val (.int (4 : Int32))]) rfl ?_
        show Steps p.tables e below (T4.setTop (mkF m 34 #[.val (.long qa), .second, .val (.int (4 : Int32))] [])) _
        refine XS.goto X4.here hx rfl (pc0 := 34) (pc' := 15) rfl (hb hby d2_34) (by decide) (by decide) ?_
        refine XS.iloadN X4.here hx rfl (hb hby d2_15) rfl ?_
        refine XS.iconst X4.here hx rfl (hb hby d2_16) ?_
        refine XS.icmpNo X4.here hx rfl (hb hby d2_17) rfl (tlt (by decide : (1 : Int32) < (4 : Int32))).2.2.2 ?_
        refine XS.lloadN X4.here hx rfl (hb hby d2_20) rfl ?_
        refine XS.iconst X4.here hx rfl (hb hby d2_21) ?_
        refine XS.iloadN X4.here hx rfl (hb hby d2_22) rfl ?_
        refine XS.imul X4.here hx rfl (hb hby d2_23) rfl ?_
        show Steps p.tables e below (T4.setTop (mkF m 24 #[.val (.long qa), .second, .val (.int (4 : Int32))] [(.int ((4 : Int32) * (4 : Int32))), (.long qa)])) _
        rw [show ((4 : Int32) * (4 : Int32)) = (16 : Int32) from by decide]
        show Steps p.tables e below (T4.setTop (mkF m 24 #[.val (.long qa), .second, .val (.int (4 : Int32))] [(.int (16 : Int32)), (.long qa)])) _
        refine XS.lushr X4.here hx rfl (hb hby d2_24) rfl ?_
        refine XS.lconst X4.here hx rfl (hb hby d2_25) ?_
        refine XS.lcmp X4.here hx rfl (hb hby d2_26) rfl ?_
        exact k
      by_cases hc7 : ((qa.toUInt64 >>> ((16 : Int32) &&& 0x3f).toInt64.toUInt64).toInt64) = (0 : Int64)
      · skip
        refine own_pre (A := (T4.setTop (mkF m 30 #[.val (.long qa), .second, .val (.int (4 : Int32))] []))) ?_ ?_
        · intro t k
          refine XS.ifNo X4.here hx rfl (hb hby d2_27) rfl ((if0 _ _).trans (teq ((lw_eq ((qa.toUInt64 >>> ((16 : Int32) &&& 0x3f).toInt64.toUInt64).toInt64) (0 : Int64)).mpr hc7)).2) ?_
          exact k
        refine own_pre (A := (T4.setTop (mkF m 27 #[.val (.long qa), .second, .val (.int (2 : Int32))] [(.int (lcmpW ((qa.toUInt64 >>> ((8 : Int32) &&& 0x3f).toInt64.toUInt64).toInt64) (0 : Int64)))]))) ?_ ?_
        · intro t k
          show Steps p.tables e below (T4.setTop (mkF m 30 #[.val (.long qa), .second, .val (.int (4 : Int32))] [])) _
          refine XS.iloadN X4.here hx rfl (hb hby d2_30) rfl ?_
          refine XS.iconst X4.here hx rfl (hb hby d2_31) ?_
          refine XS.idiv X4.here hx rfl (hb hby d2_32) rfl (by decide) ?_
          show Steps p.tables e below (T4.setTop (mkF m 33 #[.val (.long qa), .second, .val (.int (4 : Int32))] [(.int ((4 : Int32) / (2 : Int32)))])) _
          rw [show ((4 : Int32) / (2 : Int32)) = (2 : Int32) from by decide]
          show Steps p.tables e below (T4.setTop (mkF m 33 #[.val (.long qa), .second, .val (.int (4 : Int32))] [(.int (2 : Int32))])) _
          refine XS.istoreN X4.here hx rfl (hb hby d2_33) rfl (l' := #[.val (.long qa), .second, .val (.int (2 : Int32))]) rfl ?_
          show Steps p.tables e below (T4.setTop (mkF m 34 #[.val (.long qa), .second, .val (.int (2 : Int32))] [])) _
          refine XS.goto X4.here hx rfl (pc0 := 34) (pc' := 15) rfl (hb hby d2_34) (by decide) (by decide) ?_
          refine XS.iloadN X4.here hx rfl (hb hby d2_15) rfl ?_
          refine XS.iconst X4.here hx rfl (hb hby d2_16) ?_
          refine XS.icmpNo X4.here hx rfl (hb hby d2_17) rfl (tlt (by decide : (1 : Int32) < (2 : Int32))).2.2.2 ?_
          refine XS.lloadN X4.here hx rfl (hb hby d2_20) rfl ?_
          refine XS.iconst X4.here hx rfl (hb hby d2_21) ?_
          refine XS.iloadN X4.here hx rfl (hb hby d2_22) rfl ?_
          refine XS.imul X4.here hx rfl (hb hby d2_23) rfl ?_
          show Steps p.tables e below (T4.setTop (mkF m 24 #[.val (.long qa), .second, .val (.int (2 : Int32))] [(.int ((4 : Int32) * (2 : Int32))), (.long qa)])) _
          rw [show ((4 : Int32) * (2 : Int32)) = (8 : Int32) from by decide]
          show Steps p.tables e below (T4.setTop (mkF m 24 #[.val (.long qa), .second, .val (.int (2 : Int32))] [(.int (8 : Int32)), (.long qa)])) _
          refine XS.lushr X4.here hx rfl (hb hby d2_24) rfl ?_
          refine XS.lconst X4.here hx rfl (hb hby d2_25) ?_
          refine XS.lcmp X4.here hx rfl (hb hby d2_26) rfl ?_
          exact k
        by_cases hc8 : ((qa.toUInt64 >>> ((8 : Int32) &&& 0x3f).toInt64.toUInt64).toInt64) = (0 : Int64)
        · skip
          refine own_pre (A := (T4.setTop (mkF m 30 #[.val (.long qa), .second, .val (.int (2 : Int32))] []))) ?_ ?_
          · intro t k
            refine XS.ifNo X4.here hx rfl (hb hby d2_27) rfl ((if0 _ _).trans (teq ((lw_eq ((qa.toUInt64 >>> ((8 : Int32) &&& 0x3f).toInt64.toUInt64).toInt64) (0 : Int64)).mpr hc8)).2) ?_
            exact k
          refine own_pre (A := (T4.setTop (mkF m 40 #[.val (.long qa), .second, .val (.int (1 : Int32))] [(.int (2 : Int32))]))) ?_ ?_
          · intro t k
            show Steps p.tables e below (T4.setTop (mkF m 30 #[.val (.long qa), .second, .val (.int (2 : Int32))] [])) _
            refine XS.iloadN X4.here hx rfl (hb hby d2_30) rfl ?_
            refine XS.iconst X4.here hx rfl (hb hby d2_31) ?_
            refine XS.idiv X4.here hx rfl (hb hby d2_32) rfl (by decide) ?_
            show Steps p.tables e below (T4.setTop (mkF m 33 #[.val (.long qa), .second, .val (.int (2 : Int32))] [(.int ((2 : Int32) / (2 : Int32)))])) _
            rw [show ((2 : Int32) / (2 : Int32)) = (1 : Int32) from by decide]
            show Steps p.tables e below (T4.setTop (mkF m 33 #[.val (.long qa), .second, .val (.int (2 : Int32))] [(.int (1 : Int32))])) _
            refine XS.istoreN X4.here hx rfl (hb hby d2_33) rfl (l' := #[.val (.long qa), .second, .val (.int (1 : Int32))]) rfl ?_
            show Steps p.tables e below (T4.setTop (mkF m 34 #[.val (.long qa), .second, .val (.int (1 : Int32))] [])) _
            refine XS.goto X4.here hx rfl (pc0 := 34) (pc' := 15) rfl (hb hby d2_34) (by decide) (by decide) ?_
            refine XS.iloadN X4.here hx rfl (hb hby d2_15) rfl ?_
            refine XS.iconst X4.here hx rfl (hb hby d2_16) ?_
            show Steps p.tables e below (T4.setTop (mkF m 17 #[.val (.long qa), .second, .val (.int (1 : Int32))] [(.int (1 : Int32)), (.int (1 : Int32))])) _
            refine XS.icmpYes X4.here hx rfl (pc0 := 17) (pc' := 37) rfl (hb hby d2_17) rfl (flt (by decide : ¬ ((1 : Int32) < (1 : Int32)))).2.2.2 (by decide) (by decide) ?_
            refine XS.iconst X4.here hx rfl (hb hby d2_37) ?_
            refine XS.iloadN X4.here hx rfl (hb hby d2_38) rfl ?_
            refine XS.iadd X4.here hx rfl (hb hby d2_39) rfl ?_
            show Steps p.tables e below (T4.setTop (mkF m 40 #[.val (.long qa), .second, .val (.int (1 : Int32))] [(.int ((1 : Int32) + (1 : Int32)))])) _
            rw [show ((1 : Int32) + (1 : Int32)) = (2 : Int32) from by decide]
            exact k
          have hz : own_hl qa = (2 : Int32) := by simp only [own_hl, if_neg hc5, if_pos hc6, if_pos hc7, if_pos hc8]
          obtain ⟨fs, hr, hrun, hended, hW, hsame⟩ := X4.leave (hlocks := BodyLoose.notSynchronized Bd) (v := some (.int (2 : Int32))) (fun h => by rw [Bd.returns] at h; cases h)
          refine ⟨_, _, retOut X4 hx Bd.returns rfl (Or.inl ⟨rfl, Or.inl rfl, _, rfl⟩) (hb hby d2_40) hr, hrun, hended, _, _, rfl, ?_, ⟨_, rfl⟩, hW, hsame.mono (by decide) (by decide)⟩
          show own_Q2 qa h0 n0 _ T4.heap _
          rw [eq4]
          exact ⟨by rw [hz], N4, rfl⟩
        · skip
          refine own_pre (A := (T4.setTop (mkF m 37 #[.val (.long qa), .second, .val (.int (2 : Int32))] []))) ?_ ?_
          · intro t k
            refine XS.ifYes X4.here hx rfl (pc0 := 27) (pc' := 37) rfl (hb hby d2_27) rfl ((if0 _ _).trans (feq (fun q => hc8 ((lw_eq ((qa.toUInt64 >>> ((8 : Int32) &&& 0x3f).toInt64.toUInt64).toInt64) (0 : Int64)).mp q))).2) (by decide) (by decide) ?_
            exact k
          refine own_pre (A := (T4.setTop (mkF m 40 #[.val (.long qa), .second, .val (.int (2 : Int32))] [(.int (3 : Int32))]))) ?_ ?_
          · intro t k
            show Steps p.tables e below (T4.setTop (mkF m 37 #[.val (.long qa), .second, .val (.int (2 : Int32))] [])) _
            refine XS.iconst X4.here hx rfl (hb hby d2_37) ?_
            refine XS.iloadN X4.here hx rfl (hb hby d2_38) rfl ?_
            refine XS.iadd X4.here hx rfl (hb hby d2_39) rfl ?_
            show Steps p.tables e below (T4.setTop (mkF m 40 #[.val (.long qa), .second, .val (.int (2 : Int32))] [(.int ((1 : Int32) + (2 : Int32)))])) _
            rw [show ((1 : Int32) + (2 : Int32)) = (3 : Int32) from by decide]
            exact k
          have hz : own_hl qa = (3 : Int32) := by simp only [own_hl, if_neg hc5, if_pos hc6, if_pos hc7, if_neg hc8]
          obtain ⟨fs, hr, hrun, hended, hW, hsame⟩ := X4.leave (hlocks := BodyLoose.notSynchronized Bd) (v := some (.int (3 : Int32))) (fun h => by rw [Bd.returns] at h; cases h)
          refine ⟨_, _, retOut X4 hx Bd.returns rfl (Or.inl ⟨rfl, Or.inl rfl, _, rfl⟩) (hb hby d2_40) hr, hrun, hended, _, _, rfl, ?_, ⟨_, rfl⟩, hW, hsame.mono (by decide) (by decide)⟩
          show own_Q2 qa h0 n0 _ T4.heap _
          rw [eq4]
          exact ⟨by rw [hz], N4, rfl⟩
      · skip
        refine own_pre (A := (T4.setTop (mkF m 37 #[.val (.long qa), .second, .val (.int (4 : Int32))] []))) ?_ ?_
        · intro t k
          refine XS.ifYes X4.here hx rfl (pc0 := 27) (pc' := 37) rfl (hb hby d2_27) rfl ((if0 _ _).trans (feq (fun q => hc7 ((lw_eq ((qa.toUInt64 >>> ((16 : Int32) &&& 0x3f).toInt64.toUInt64).toInt64) (0 : Int64)).mp q))).2) (by decide) (by decide) ?_
          exact k
        refine own_pre (A := (T4.setTop (mkF m 40 #[.val (.long qa), .second, .val (.int (4 : Int32))] [(.int (5 : Int32))]))) ?_ ?_
        · intro t k
          show Steps p.tables e below (T4.setTop (mkF m 37 #[.val (.long qa), .second, .val (.int (4 : Int32))] [])) _
          refine XS.iconst X4.here hx rfl (hb hby d2_37) ?_
          refine XS.iloadN X4.here hx rfl (hb hby d2_38) rfl ?_
          refine XS.iadd X4.here hx rfl (hb hby d2_39) rfl ?_
          show Steps p.tables e below (T4.setTop (mkF m 40 #[.val (.long qa), .second, .val (.int (4 : Int32))] [(.int ((1 : Int32) + (4 : Int32)))])) _
          rw [show ((1 : Int32) + (4 : Int32)) = (5 : Int32) from by decide]
          exact k
        have hz : own_hl qa = (5 : Int32) := by simp only [own_hl, if_neg hc5, if_pos hc6, if_neg hc7]
        obtain ⟨fs, hr, hrun, hended, hW, hsame⟩ := X4.leave (hlocks := BodyLoose.notSynchronized Bd) (v := some (.int (5 : Int32))) (fun h => by rw [Bd.returns] at h; cases h)
        refine ⟨_, _, retOut X4 hx Bd.returns rfl (Or.inl ⟨rfl, Or.inl rfl, _, rfl⟩) (hb hby d2_40) hr, hrun, hended, _, _, rfl, ?_, ⟨_, rfl⟩, hW, hsame.mono (by decide) (by decide)⟩
        show own_Q2 qa h0 n0 _ T4.heap _
        rw [eq4]
        exact ⟨by rw [hz], N4, rfl⟩
    · skip
      refine own_pre (A := (T4.setTop (mkF m 37 #[.val (.long qa), .second, .val (.int (8 : Int32))] []))) ?_ ?_
      · intro t k
        refine XS.ifYes X4.here hx rfl (pc0 := 27) (pc' := 37) rfl (hb hby d2_27) rfl ((if0 _ _).trans (feq (fun q => hc6 ((lw_eq ((qa.toUInt64 >>> ((32 : Int32) &&& 0x3f).toInt64.toUInt64).toInt64) (0 : Int64)).mp q))).2) (by decide) (by decide) ?_
        exact k
      refine own_pre (A := (T4.setTop (mkF m 40 #[.val (.long qa), .second, .val (.int (8 : Int32))] [(.int (9 : Int32))]))) ?_ ?_
      · intro t k
        show Steps p.tables e below (T4.setTop (mkF m 37 #[.val (.long qa), .second, .val (.int (8 : Int32))] [])) _
        refine XS.iconst X4.here hx rfl (hb hby d2_37) ?_
        refine XS.iloadN X4.here hx rfl (hb hby d2_38) rfl ?_
        refine XS.iadd X4.here hx rfl (hb hby d2_39) rfl ?_
        show Steps p.tables e below (T4.setTop (mkF m 40 #[.val (.long qa), .second, .val (.int (8 : Int32))] [(.int ((1 : Int32) + (8 : Int32)))])) _
        rw [show ((1 : Int32) + (8 : Int32)) = (9 : Int32) from by decide]
        exact k
      have hz : own_hl qa = (9 : Int32) := by simp only [own_hl, if_neg hc5, if_neg hc6]
      obtain ⟨fs, hr, hrun, hended, hW, hsame⟩ := X4.leave (hlocks := BodyLoose.notSynchronized Bd) (v := some (.int (9 : Int32))) (fun h => by rw [Bd.returns] at h; cases h)
      refine ⟨_, _, retOut X4 hx Bd.returns rfl (Or.inl ⟨rfl, Or.inl rfl, _, rfl⟩) (hb hby d2_40) hr, hrun, hended, _, _, rfl, ?_, ⟨_, rfl⟩, hW, hsame.mono (by decide) (by decide)⟩
      show own_Q2 qa h0 n0 _ T4.heap _
      rw [eq4]
      exact ⟨by rw [hz], N4, rfl⟩
theorem d5_0 : decode jdk_33_method_48_code 0 = .ok (.iload_n 0, 1) := by decide +kernel
theorem d5_1 : decode jdk_33_method_48_code 1 = .ok (.iconst (-1), 1) := by decide +kernel
theorem d5_2 : decode jdk_33_method_48_code 2 = .ok (.ixor, 1) := by decide +kernel
theorem d5_3 : decode jdk_33_method_48_code 3 = .ok (.iload_n 0, 1) := by decide +kernel
theorem d5_4 : decode jdk_33_method_48_code 4 = .ok (.iconst 1, 1) := by decide +kernel
theorem d5_5 : decode jdk_33_method_48_code 5 = .ok (.isub, 1) := by decide +kernel
theorem d5_6 : decode jdk_33_method_48_code 6 = .ok (.iand, 1) := by decide +kernel
theorem d5_7 : decode jdk_33_method_48_code 7 = .ok (.istore_n 0, 1) := by decide +kernel
theorem d5_8 : decode jdk_33_method_48_code 8 = .ok (.iload_n 0, 1) := by decide +kernel
theorem d5_9 : decode jdk_33_method_48_code 9 = .ok (.ifCond .gt 8, 3) := by decide +kernel
theorem d5_12 : decode jdk_33_method_48_code 12 = .ok (.iload_n 0, 1) := by decide +kernel
theorem d5_13 : decode jdk_33_method_48_code 13 = .ok (.bipush 32, 2) := by decide +kernel
theorem d5_15 : decode jdk_33_method_48_code 15 = .ok (.iand, 1) := by decide +kernel
theorem d5_16 : decode jdk_33_method_48_code 16 = .ok (.ireturn, 1) := by decide +kernel
theorem d5_17 : decode jdk_33_method_48_code 17 = .ok (.iconst 1, 1) := by decide +kernel
theorem d5_18 : decode jdk_33_method_48_code 18 = .ok (.istore_n 1, 1) := by decide +kernel
theorem d5_19 : decode jdk_33_method_48_code 19 = .ok (.iload_n 0, 1) := by decide +kernel
theorem d5_20 : decode jdk_33_method_48_code 20 = .ok (.ldc_w 264, 3) := by decide +kernel
theorem d5_23 : decode jdk_33_method_48_code 23 = .ok (.if_icmp .le 11, 3) := by decide +kernel
theorem d5_26 : decode jdk_33_method_48_code 26 = .ok (.iinc 1 16, 3) := by decide +kernel
theorem d5_29 : decode jdk_33_method_48_code 29 = .ok (.iload_n 0, 1) := by decide +kernel
theorem d5_30 : decode jdk_33_method_48_code 30 = .ok (.bipush 16, 2) := by decide +kernel
theorem d5_32 : decode jdk_33_method_48_code 32 = .ok (.iushr, 1) := by decide +kernel
theorem d5_33 : decode jdk_33_method_48_code 33 = .ok (.istore_n 0, 1) := by decide +kernel
theorem d5_34 : decode jdk_33_method_48_code 34 = .ok (.iload_n 0, 1) := by decide +kernel
theorem d5_35 : decode jdk_33_method_48_code 35 = .ok (.sipush 256, 3) := by decide +kernel
theorem d5_38 : decode jdk_33_method_48_code 38 = .ok (.if_icmp .le 11, 3) := by decide +kernel
theorem d5_41 : decode jdk_33_method_48_code 41 = .ok (.iinc 1 8, 3) := by decide +kernel
theorem d5_44 : decode jdk_33_method_48_code 44 = .ok (.iload_n 0, 1) := by decide +kernel
theorem d5_45 : decode jdk_33_method_48_code 45 = .ok (.bipush 8, 2) := by decide +kernel
theorem d5_47 : decode jdk_33_method_48_code 47 = .ok (.iushr, 1) := by decide +kernel
theorem d5_48 : decode jdk_33_method_48_code 48 = .ok (.istore_n 0, 1) := by decide +kernel
theorem d5_49 : decode jdk_33_method_48_code 49 = .ok (.iload_n 0, 1) := by decide +kernel
theorem d5_50 : decode jdk_33_method_48_code 50 = .ok (.bipush 16, 2) := by decide +kernel
theorem d5_52 : decode jdk_33_method_48_code 52 = .ok (.if_icmp .le 10, 3) := by decide +kernel
theorem d5_55 : decode jdk_33_method_48_code 55 = .ok (.iinc 1 4, 3) := by decide +kernel
theorem d5_58 : decode jdk_33_method_48_code 58 = .ok (.iload_n 0, 1) := by decide +kernel
theorem d5_59 : decode jdk_33_method_48_code 59 = .ok (.iconst 4, 1) := by decide +kernel
theorem d5_60 : decode jdk_33_method_48_code 60 = .ok (.iushr, 1) := by decide +kernel
theorem d5_61 : decode jdk_33_method_48_code 61 = .ok (.istore_n 0, 1) := by decide +kernel
theorem d5_62 : decode jdk_33_method_48_code 62 = .ok (.iload_n 0, 1) := by decide +kernel
theorem d5_63 : decode jdk_33_method_48_code 63 = .ok (.iconst 4, 1) := by decide +kernel
theorem d5_64 : decode jdk_33_method_48_code 64 = .ok (.if_icmp .le 10, 3) := by decide +kernel
theorem d5_67 : decode jdk_33_method_48_code 67 = .ok (.iinc 1 2, 3) := by decide +kernel
theorem d5_70 : decode jdk_33_method_48_code 70 = .ok (.iload_n 0, 1) := by decide +kernel
theorem d5_71 : decode jdk_33_method_48_code 71 = .ok (.iconst 2, 1) := by decide +kernel
theorem d5_72 : decode jdk_33_method_48_code 72 = .ok (.iushr, 1) := by decide +kernel
theorem d5_73 : decode jdk_33_method_48_code 73 = .ok (.istore_n 0, 1) := by decide +kernel
theorem d5_74 : decode jdk_33_method_48_code 74 = .ok (.iload_n 1, 1) := by decide +kernel
theorem d5_75 : decode jdk_33_method_48_code 75 = .ok (.iload_n 0, 1) := by decide +kernel
theorem d5_76 : decode jdk_33_method_48_code 76 = .ok (.iconst 1, 1) := by decide +kernel
theorem d5_77 : decode jdk_33_method_48_code 77 = .ok (.iushr, 1) := by decide +kernel
theorem d5_78 : decode jdk_33_method_48_code 78 = .ok (.iadd, 1) := by decide +kernel
theorem d5_79 : decode jdk_33_method_48_code 79 = .ok (.ireturn, 1) := by decide +kernel
theorem own_pn5 : plainName "java/lang/Integer" = true := by first | (simp [plainName, overriddenIn]; done) | decide +kernel
theorem own_ef5 (m : MethodId) (x0 : Int32) : entryFrame m #[(.int x0)] 2 = mkF m 0 #[.val (.int x0), .unset] [] := by first | (simp [entryFrame, mkF, argsToLocals, Value.category]; done) | rfl
def own_ntz (px : Int32) : Int32 := (if (0 : Int32) < ((px ^^^ (-1 : Int32)) &&& (px - (1 : Int32))) then (if (65536 : Int32) < ((px ^^^ (-1 : Int32)) &&& (px - (1 : Int32))) then (if (256 : Int32) < ((((px ^^^ (-1 : Int32)) &&& (px - (1 : Int32))).toUInt32 >>> ((16 : Int32) &&& 31).toUInt32).toInt32) then (if (16 : Int32) < ((((((px ^^^ (-1 : Int32)) &&& (px - (1 : Int32))).toUInt32 >>> ((16 : Int32) &&& 31).toUInt32).toInt32).toUInt32 >>> ((8 : Int32) &&& 31).toUInt32).toInt32) then (if (4 : Int32) < ((((((((px ^^^ (-1 : Int32)) &&& (px - (1 : Int32))).toUInt32 >>> ((16 : Int32) &&& 31).toUInt32).toInt32).toUInt32 >>> ((8 : Int32) &&& 31).toUInt32).toInt32).toUInt32 >>> ((4 : Int32) &&& 31).toUInt32).toInt32) then ((31 : Int32) + ((((((((((((px ^^^ (-1 : Int32)) &&& (px - (1 : Int32))).toUInt32 >>> ((16 : Int32) &&& 31).toUInt32).toInt32).toUInt32 >>> ((8 : Int32) &&& 31).toUInt32).toInt32).toUInt32 >>> ((4 : Int32) &&& 31).toUInt32).toInt32).toUInt32 >>> ((2 : Int32) &&& 31).toUInt32).toInt32).toUInt32 >>> ((1 : Int32) &&& 31).toUInt32).toInt32)) else ((29 : Int32) + ((((((((((px ^^^ (-1 : Int32)) &&& (px - (1 : Int32))).toUInt32 >>> ((16 : Int32) &&& 31).toUInt32).toInt32).toUInt32 >>> ((8 : Int32) &&& 31).toUInt32).toInt32).toUInt32 >>> ((4 : Int32) &&& 31).toUInt32).toInt32).toUInt32 >>> ((1 : Int32) &&& 31).toUInt32).toInt32))) else (if (4 : Int32) < ((((((px ^^^ (-1 : Int32)) &&& (px - (1 : Int32))).toUInt32 >>> ((16 : Int32) &&& 31).toUInt32).toInt32).toUInt32 >>> ((8 : Int32) &&& 31).toUInt32).toInt32) then ((27 : Int32) + ((((((((((px ^^^ (-1 : Int32)) &&& (px - (1 : Int32))).toUInt32 >>> ((16 : Int32) &&& 31).toUInt32).toInt32).toUInt32 >>> ((8 : Int32) &&& 31).toUInt32).toInt32).toUInt32 >>> ((2 : Int32) &&& 31).toUInt32).toInt32).toUInt32 >>> ((1 : Int32) &&& 31).toUInt32).toInt32)) else ((25 : Int32) + ((((((((px ^^^ (-1 : Int32)) &&& (px - (1 : Int32))).toUInt32 >>> ((16 : Int32) &&& 31).toUInt32).toInt32).toUInt32 >>> ((8 : Int32) &&& 31).toUInt32).toInt32).toUInt32 >>> ((1 : Int32) &&& 31).toUInt32).toInt32)))) else (if (16 : Int32) < ((((px ^^^ (-1 : Int32)) &&& (px - (1 : Int32))).toUInt32 >>> ((16 : Int32) &&& 31).toUInt32).toInt32) then (if (4 : Int32) < ((((((px ^^^ (-1 : Int32)) &&& (px - (1 : Int32))).toUInt32 >>> ((16 : Int32) &&& 31).toUInt32).toInt32).toUInt32 >>> ((4 : Int32) &&& 31).toUInt32).toInt32) then ((23 : Int32) + ((((((((((px ^^^ (-1 : Int32)) &&& (px - (1 : Int32))).toUInt32 >>> ((16 : Int32) &&& 31).toUInt32).toInt32).toUInt32 >>> ((4 : Int32) &&& 31).toUInt32).toInt32).toUInt32 >>> ((2 : Int32) &&& 31).toUInt32).toInt32).toUInt32 >>> ((1 : Int32) &&& 31).toUInt32).toInt32)) else ((21 : Int32) + ((((((((px ^^^ (-1 : Int32)) &&& (px - (1 : Int32))).toUInt32 >>> ((16 : Int32) &&& 31).toUInt32).toInt32).toUInt32 >>> ((4 : Int32) &&& 31).toUInt32).toInt32).toUInt32 >>> ((1 : Int32) &&& 31).toUInt32).toInt32))) else (if (4 : Int32) < ((((px ^^^ (-1 : Int32)) &&& (px - (1 : Int32))).toUInt32 >>> ((16 : Int32) &&& 31).toUInt32).toInt32) then ((19 : Int32) + ((((((((px ^^^ (-1 : Int32)) &&& (px - (1 : Int32))).toUInt32 >>> ((16 : Int32) &&& 31).toUInt32).toInt32).toUInt32 >>> ((2 : Int32) &&& 31).toUInt32).toInt32).toUInt32 >>> ((1 : Int32) &&& 31).toUInt32).toInt32)) else ((17 : Int32) + ((((((px ^^^ (-1 : Int32)) &&& (px - (1 : Int32))).toUInt32 >>> ((16 : Int32) &&& 31).toUInt32).toInt32).toUInt32 >>> ((1 : Int32) &&& 31).toUInt32).toInt32))))) else (if (256 : Int32) < ((px ^^^ (-1 : Int32)) &&& (px - (1 : Int32))) then (if (16 : Int32) < ((((px ^^^ (-1 : Int32)) &&& (px - (1 : Int32))).toUInt32 >>> ((8 : Int32) &&& 31).toUInt32).toInt32) then (if (4 : Int32) < ((((((px ^^^ (-1 : Int32)) &&& (px - (1 : Int32))).toUInt32 >>> ((8 : Int32) &&& 31).toUInt32).toInt32).toUInt32 >>> ((4 : Int32) &&& 31).toUInt32).toInt32) then ((15 : Int32) + ((((((((((px ^^^ (-1 : Int32)) &&& (px - (1 : Int32))).toUInt32 >>> ((8 : Int32) &&& 31).toUInt32).toInt32).toUInt32 >>> ((4 : Int32) &&& 31).toUInt32).toInt32).toUInt32 >>> ((2 : Int32) &&& 31).toUInt32).toInt32).toUInt32 >>> ((1 : Int32) &&& 31).toUInt32).toInt32)) else ((13 : Int32) + ((((((((px ^^^ (-1 : Int32)) &&& (px - (1 : Int32))).toUInt32 >>> ((8 : Int32) &&& 31).toUInt32).toInt32).toUInt32 >>> ((4 : Int32) &&& 31).toUInt32).toInt32).toUInt32 >>> ((1 : Int32) &&& 31).toUInt32).toInt32))) else (if (4 : Int32) < ((((px ^^^ (-1 : Int32)) &&& (px - (1 : Int32))).toUInt32 >>> ((8 : Int32) &&& 31).toUInt32).toInt32) then ((11 : Int32) + ((((((((px ^^^ (-1 : Int32)) &&& (px - (1 : Int32))).toUInt32 >>> ((8 : Int32) &&& 31).toUInt32).toInt32).toUInt32 >>> ((2 : Int32) &&& 31).toUInt32).toInt32).toUInt32 >>> ((1 : Int32) &&& 31).toUInt32).toInt32)) else ((9 : Int32) + ((((((px ^^^ (-1 : Int32)) &&& (px - (1 : Int32))).toUInt32 >>> ((8 : Int32) &&& 31).toUInt32).toInt32).toUInt32 >>> ((1 : Int32) &&& 31).toUInt32).toInt32)))) else (if (16 : Int32) < ((px ^^^ (-1 : Int32)) &&& (px - (1 : Int32))) then (if (4 : Int32) < ((((px ^^^ (-1 : Int32)) &&& (px - (1 : Int32))).toUInt32 >>> ((4 : Int32) &&& 31).toUInt32).toInt32) then ((7 : Int32) + ((((((((px ^^^ (-1 : Int32)) &&& (px - (1 : Int32))).toUInt32 >>> ((4 : Int32) &&& 31).toUInt32).toInt32).toUInt32 >>> ((2 : Int32) &&& 31).toUInt32).toInt32).toUInt32 >>> ((1 : Int32) &&& 31).toUInt32).toInt32)) else ((5 : Int32) + ((((((px ^^^ (-1 : Int32)) &&& (px - (1 : Int32))).toUInt32 >>> ((4 : Int32) &&& 31).toUInt32).toInt32).toUInt32 >>> ((1 : Int32) &&& 31).toUInt32).toInt32))) else (if (4 : Int32) < ((px ^^^ (-1 : Int32)) &&& (px - (1 : Int32))) then ((3 : Int32) + ((((((px ^^^ (-1 : Int32)) &&& (px - (1 : Int32))).toUInt32 >>> ((2 : Int32) &&& 31).toUInt32).toInt32).toUInt32 >>> ((1 : Int32) &&& 31).toUInt32).toInt32)) else ((1 : Int32) + ((((px ^^^ (-1 : Int32)) &&& (px - (1 : Int32))).toUInt32 >>> ((1 : Int32) &&& 31).toUInt32).toInt32)))))) else (((px ^^^ (-1 : Int32)) &&& (px - (1 : Int32))) &&& (32 : Int32)))
def own_Q5 (px : Int32) (h0 : Heap) (n0 : Nat) (v : Option Value) (h : Heap) (L : List Loc) : Prop := v = some (.int (own_ntz px)) ∧ Fr n0 L ∧ h = h0
set_option maxRecDepth 65536 in
set_option maxHeartbeats 40000000 in
theorem rm5 (l : Launch) (Z : State) (a0 : Array Value) (hw : ∀ d ∈ tables_1, d.before a0 Z = true) (ws : List Jvm.Cond) (px : Int32) (h0 : Heap) (n0 : Nat) (Z0 : n0 ≤ h0.size) :
    MetFree l (⟨"java/lang/Integer", "numberOfTrailingZeros", "(I)I"⟩ : MethodName) (head1 (Jvm.Cond.code (⟨"java/lang/Integer", "numberOfTrailingZeros", "(I)I"⟩ : MethodName) jdk_33_method_48_code 2 (some .int) :: ws) ({ frames := 0, cells := 0, slots := 0, locals := 0 } : Room)) (fun a U => a = #[(.int px)] ∧ Z.Warmed39 U.vm ∧ U.heap = h0) (fun _ _ _ _ _ => True) (fun _ U o U' => ∃ v L, o = .returned v ∧ own_Q5 px h0 n0 v U'.heap L ∧ FrameEnd U o U' L ({ frames := 0, cells := 0, slots := 0, locals := 0 } : Room).cells ({ frames := 0, cells := 0, slots := 0, locals := 0 } : Room).slots) := by
  refine MetFree.of_bodySF (plainFor_of_name own_pn5) hisR ?_
  intro p e s m args below meth c s₁ Bd hml0 hP hK
  obtain ⟨rfl, hZ, hh⟩ := hP
  have hx := Bd.exec
  have hby := Bd.bytes
  have hml : c.maxLocals = 2 := hml0
  have hown : s.vm.findClass "java/lang/Integer" = some m.cls := findClass_of_methodNamed Bd.named
  have hnm := (name_of_methodNamed Bd.named Bd.method).1
  have X0 : Stand p l e ({ frames := 0, cells := 0, slots := 0, locals := 0 } : Room) s m #[(.int px)] below meth c s₁ [] 0 0 := Stand.of_body Bd
  have e0 : s₁.heap = h0 := by rw [← hh, Bd.state]; rfl
  have N0 := Fr.nil n0
  refine own_pre (A := (s₁.setTop (mkF m 0 #[.val (.int px), .unset] []))) (fun t k => castTop (own_ef5 m px) k) ?_
  refine own_pre (A := (s₁.setTop (mkF m 9 #[.val (.int ((px ^^^ (-1 : Int32)) &&& (px - (1 : Int32)))), .unset] [(.int ((px ^^^ (-1 : Int32)) &&& (px - (1 : Int32))))]))) ?_ ?_
  · intro t k
    show Steps p.tables e below (s₁.setTop (mkF m 0 #[.val (.int px), .unset] [])) _
    refine XS.iloadN X0.here hx rfl (hb hby d5_0) rfl ?_
    refine XS.iconst X0.here hx rfl (hb hby d5_1) ?_
    refine XS.ixor X0.here hx rfl (hb hby d5_2) rfl ?_
    refine XS.iloadN X0.here hx rfl (hb hby d5_3) rfl ?_
    refine XS.iconst X0.here hx rfl (hb hby d5_4) ?_
    refine XS.isub X0.here hx rfl (hb hby d5_5) rfl ?_
    refine XS.iand X0.here hx rfl (hb hby d5_6) rfl ?_
    show Steps p.tables e below (s₁.setTop (mkF m 7 #[.val (.int px), .unset] [(.int ((px ^^^ (-1 : Int32)) &&& (px - (1 : Int32))))])) _
    refine XS.istoreN X0.here hx rfl (hb hby d5_7) rfl (l' := #[.val (.int ((px ^^^ (-1 : Int32)) &&& (px - (1 : Int32)))), .unset]) rfl ?_
    refine XS.iloadN X0.here hx rfl (hb hby d5_8) rfl ?_
    exact k
  by_cases hc9 : (0 : Int32) < ((px ^^^ (-1 : Int32)) &&& (px - (1 : Int32)))
  · skip
    refine own_pre (A := (s₁.setTop (mkF m 17 #[.val (.int ((px ^^^ (-1 : Int32)) &&& (px - (1 : Int32)))), .unset] []))) ?_ ?_
    · intro t k
      refine XS.ifYes X0.here hx rfl (pc0 := 9) (pc' := 17) rfl (hb hby d5_9) rfl ((if0 _ _).trans (tlt hc9).2.2.1) (by decide) (by decide) ?_
      exact k
    refine own_pre (A := (s₁.setTop (mkF m 23 #[.val (.int ((px ^^^ (-1 : Int32)) &&& (px - (1 : Int32)))), .val (.int (1 : Int32))] [(.int (65536 : Int32)), (.int ((px ^^^ (-1 : Int32)) &&& (px - (1 : Int32))))]))) ?_ ?_
    · intro t k
      show Steps p.tables e below (s₁.setTop (mkF m 17 #[.val (.int ((px ^^^ (-1 : Int32)) &&& (px - (1 : Int32)))), .unset] [])) _
      refine XS.iconst X0.here hx rfl (hb hby d5_17) ?_
      show Steps p.tables e below (s₁.setTop (mkF m 18 #[.val (.int ((px ^^^ (-1 : Int32)) &&& (px - (1 : Int32)))), .unset] [(.int (1 : Int32))])) _
      refine XS.istoreN X0.here hx rfl (hb hby d5_18) rfl (l' := #[.val (.int ((px ^^^ (-1 : Int32)) &&& (px - (1 : Int32)))), .val (.int (1 : Int32))]) rfl ?_
      refine XS.iloadN X0.here hx rfl (hb hby d5_19) rfl ?_
      show Steps p.tables e below (s₁.setTop (mkF m 20 #[.val (.int ((px ^^^ (-1 : Int32)) &&& (px - (1 : Int32)))), .val (.int (1 : Int32))] [(.int ((px ^^^ (-1 : Int32)) &&& (px - (1 : Int32))))])) _
      refine X0.ldcwInt hx hown (mvT hZ (own_w hw 23 rfl)) (g := (mkF m 20 #[.val (.int ((px ^^^ (-1 : Int32)) &&& (px - (1 : Int32)))), .val (.int (1 : Int32))] [(.int ((px ^^^ (-1 : Int32)) &&& (px - (1 : Int32))))])) rfl (hb hby d5_20) _ ?_
      exact k
    by_cases hc10 : (65536 : Int32) < ((px ^^^ (-1 : Int32)) &&& (px - (1 : Int32)))
    · skip
      refine own_pre (A := (s₁.setTop (mkF m 26 #[.val (.int ((px ^^^ (-1 : Int32)) &&& (px - (1 : Int32)))), .val (.int (1 : Int32))] []))) ?_ ?_
      · intro t k
        refine XS.icmpNo X0.here hx rfl (hb hby d5_23) rfl (tlt hc10).2.2.2 ?_
        exact k
      refine own_pre (A := (s₁.setTop (mkF m 38 #[.val (.int ((((px ^^^ (-1 : Int32)) &&& (px - (1 : Int32))).toUInt32 >>> ((16 : Int32) &&& 31).toUInt32).toInt32)), .val (.int (17 : Int32))] [(.int (256 : Int32)), (.int ((((px ^^^ (-1 : Int32)) &&& (px - (1 : Int32))).toUInt32 >>> ((16 : Int32) &&& 31).toUInt32).toInt32))]))) ?_ ?_
      · intro t k
        show Steps p.tables e below (s₁.setTop (mkF m 26 #[.val (.int ((px ^^^ (-1 : Int32)) &&& (px - (1 : Int32)))), .val (.int (1 : Int32))] [])) _
        refine XS.iinc X0.here hx rfl (hb hby d5_26) rfl (l' := #[.val (.int ((px ^^^ (-1 : Int32)) &&& (px - (1 : Int32)))), .val (.int ((1 : Int32) + (16 : Int32)))]) rfl ?_
        show Steps p.tables e below (s₁.setTop (mkF m 29 #[.val (.int ((px ^^^ (-1 : Int32)) &&& (px - (1 : Int32)))), .val (.int ((1 : Int32) + (16 : Int32)))] [])) _
        rw [show ((1 : Int32) + (16 : Int32)) = (17 : Int32) from by decide]
        show Steps p.tables e below (s₁.setTop (mkF m 29 #[.val (.int ((px ^^^ (-1 : Int32)) &&& (px - (1 : Int32)))), .val (.int (17 : Int32))] [])) _
        refine XS.iloadN X0.here hx rfl (hb hby d5_29) rfl ?_
        refine XS.bipush X0.here hx rfl (hb hby d5_30) ?_
        refine XS.iushr X0.here hx rfl (hb hby d5_32) rfl ?_
        show Steps p.tables e below (s₁.setTop (mkF m 33 #[.val (.int ((px ^^^ (-1 : Int32)) &&& (px - (1 : Int32)))), .val (.int (17 : Int32))] [(.int ((((px ^^^ (-1 : Int32)) &&& (px - (1 : Int32))).toUInt32 >>> ((16 : Int32) &&& 31).toUInt32).toInt32))])) _
        refine XS.istoreN X0.here hx rfl (hb hby d5_33) rfl (l' := #[.val (.int ((((px ^^^ (-1 : Int32)) &&& (px - (1 : Int32))).toUInt32 >>> ((16 : Int32) &&& 31).toUInt32).toInt32)), .val (.int (17 : Int32))]) rfl ?_
        refine XS.iloadN X0.here hx rfl (hb hby d5_34) rfl ?_
        refine XS.sipush X0.here hx rfl (hb hby d5_35) ?_
        exact k
      by_cases hc11 : (256 : Int32) < ((((px ^^^ (-1 : Int32)) &&& (px - (1 : Int32))).toUInt32 >>> ((16 : Int32) &&& 31).toUInt32).toInt32)
      · skip
        refine own_pre (A := (s₁.setTop (mkF m 41 #[.val (.int ((((px ^^^ (-1 : Int32)) &&& (px - (1 : Int32))).toUInt32 >>> ((16 : Int32) &&& 31).toUInt32).toInt32)), .val (.int (17 : Int32))] []))) ?_ ?_
        · intro t k
          refine XS.icmpNo X0.here hx rfl (hb hby d5_38) rfl (tlt hc11).2.2.2 ?_
          exact k
        refine own_pre (A := (s₁.setTop (mkF m 52 #[.val (.int ((((((px ^^^ (-1 : Int32)) &&& (px - (1 : Int32))).toUInt32 >>> ((16 : Int32) &&& 31).toUInt32).toInt32).toUInt32 >>> ((8 : Int32) &&& 31).toUInt32).toInt32)), .val (.int (25 : Int32))] [(.int (16 : Int32)), (.int ((((((px ^^^ (-1 : Int32)) &&& (px - (1 : Int32))).toUInt32 >>> ((16 : Int32) &&& 31).toUInt32).toInt32).toUInt32 >>> ((8 : Int32) &&& 31).toUInt32).toInt32))]))) ?_ ?_
        · intro t k
          show Steps p.tables e below (s₁.setTop (mkF m 41 #[.val (.int ((((px ^^^ (-1 : Int32)) &&& (px - (1 : Int32))).toUInt32 >>> ((16 : Int32) &&& 31).toUInt32).toInt32)), .val (.int (17 : Int32))] [])) _
          refine XS.iinc X0.here hx rfl (hb hby d5_41) rfl (l' := #[.val (.int ((((px ^^^ (-1 : Int32)) &&& (px - (1 : Int32))).toUInt32 >>> ((16 : Int32) &&& 31).toUInt32).toInt32)), .val (.int ((17 : Int32) + (8 : Int32)))]) rfl ?_
          show Steps p.tables e below (s₁.setTop (mkF m 44 #[.val (.int ((((px ^^^ (-1 : Int32)) &&& (px - (1 : Int32))).toUInt32 >>> ((16 : Int32) &&& 31).toUInt32).toInt32)), .val (.int ((17 : Int32) + (8 : Int32)))] [])) _
          rw [show ((17 : Int32) + (8 : Int32)) = (25 : Int32) from by decide]
          show Steps p.tables e below (s₁.setTop (mkF m 44 #[.val (.int ((((px ^^^ (-1 : Int32)) &&& (px - (1 : Int32))).toUInt32 >>> ((16 : Int32) &&& 31).toUInt32).toInt32)), .val (.int (25 : Int32))] [])) _
          refine XS.iloadN X0.here hx rfl (hb hby d5_44) rfl ?_
          refine XS.bipush X0.here hx rfl (hb hby d5_45) ?_
          refine XS.iushr X0.here hx rfl (hb hby d5_47) rfl ?_
          show Steps p.tables e below (s₁.setTop (mkF m 48 #[.val (.int ((((px ^^^ (-1 : Int32)) &&& (px - (1 : Int32))).toUInt32 >>> ((16 : Int32) &&& 31).toUInt32).toInt32)), .val (.int (25 : Int32))] [(.int ((((((px ^^^ (-1 : Int32)) &&& (px - (1 : Int32))).toUInt32 >>> ((16 : Int32) &&& 31).toUInt32).toInt32).toUInt32 >>> ((8 : Int32) &&& 31).toUInt32).toInt32))])) _
          refine XS.istoreN X0.here hx rfl (hb hby d5_48) rfl (l' := #[.val (.int ((((((px ^^^ (-1 : Int32)) &&& (px - (1 : Int32))).toUInt32 >>> ((16 : Int32) &&& 31).toUInt32).toInt32).toUInt32 >>> ((8 : Int32) &&& 31).toUInt32).toInt32)), .val (.int (25 : Int32))]) rfl ?_
          refine XS.iloadN X0.here hx rfl (hb hby d5_49) rfl ?_
          refine XS.bipush X0.here hx rfl (hb hby d5_50) ?_
          exact k
        by_cases hc12 : (16 : Int32) < ((((((px ^^^ (-1 : Int32)) &&& (px - (1 : Int32))).toUInt32 >>> ((16 : Int32) &&& 31).toUInt32).toInt32).toUInt32 >>> ((8 : Int32) &&& 31).toUInt32).toInt32)
        · skip
          refine own_pre (A := (s₁.setTop (mkF m 55 #[.val (.int ((((((px ^^^ (-1 : Int32)) &&& (px - (1 : Int32))).toUInt32 >>> ((16 : Int32) &&& 31).toUInt32).toInt32).toUInt32 >>> ((8 : Int32) &&& 31).toUInt32).toInt32)), .val (.int (25 : Int32))] []))) ?_ ?_
          · intro t k
            refine XS.icmpNo X0.here hx rfl (hb hby d5_52) rfl (tlt hc12).2.2.2 ?_
            exact k
          refine own_pre (A := (s₁.setTop (mkF m 64 #[.val (.int ((((((((px ^^^ (-1 : Int32)) &&& (px - (1 : Int32))).toUInt32 >>> ((16 : Int32) &&& 31).toUInt32).toInt32).toUInt32 >>> ((8 : Int32) &&& 31).toUInt32).toInt32).toUInt32 >>> ((4 : Int32) &&& 31).toUInt32).toInt32)), .val (.int (29 : Int32))] [(.int (4 : Int32)), (.int ((((((((px ^^^ (-1 : Int32)) &&& (px - (1 : Int32))).toUInt32 >>> ((16 : Int32) &&& 31).toUInt32).toInt32).toUInt32 >>> ((8 : Int32) &&& 31).toUInt32).toInt32).toUInt32 >>> ((4 : Int32) &&& 31).toUInt32).toInt32))]))) ?_ ?_
          · intro t k
            show Steps p.tables e below (s₁.setTop (mkF m 55 #[.val (.int ((((((px ^^^ (-1 : Int32)) &&& (px - (1 : Int32))).toUInt32 >>> ((16 : Int32) &&& 31).toUInt32).toInt32).toUInt32 >>> ((8 : Int32) &&& 31).toUInt32).toInt32)), .val (.int (25 : Int32))] [])) _
            refine XS.iinc X0.here hx rfl (hb hby d5_55) rfl (l' := #[.val (.int ((((((px ^^^ (-1 : Int32)) &&& (px - (1 : Int32))).toUInt32 >>> ((16 : Int32) &&& 31).toUInt32).toInt32).toUInt32 >>> ((8 : Int32) &&& 31).toUInt32).toInt32)), .val (.int ((25 : Int32) + (4 : Int32)))]) rfl ?_
            show Steps p.tables e below (s₁.setTop (mkF m 58 #[.val (.int ((((((px ^^^ (-1 : Int32)) &&& (px - (1 : Int32))).toUInt32 >>> ((16 : Int32) &&& 31).toUInt32).toInt32).toUInt32 >>> ((8 : Int32) &&& 31).toUInt32).toInt32)), .val (.int ((25 : Int32) + (4 : Int32)))] [])) _
            rw [show ((25 : Int32) + (4 : Int32)) = (29 : Int32) from by decide]
            show Steps p.tables e below (s₁.setTop (mkF m 58 #[.val (.int ((((((px ^^^ (-1 : Int32)) &&& (px - (1 : Int32))).toUInt32 >>> ((16 : Int32) &&& 31).toUInt32).toInt32).toUInt32 >>> ((8 : Int32) &&& 31).toUInt32).toInt32)), .val (.int (29 : Int32))] [])) _
            refine XS.iloadN X0.here hx rfl (hb hby d5_58) rfl ?_
            refine XS.iconst X0.here hx rfl (hb hby d5_59) ?_
            refine XS.iushr X0.here hx rfl (hb hby d5_60) rfl ?_
            show Steps p.tables e below (s₁.setTop (mkF m 61 #[.val (.int ((((((px ^^^ (-1 : Int32)) &&& (px - (1 : Int32))).toUInt32 >>> ((16 : Int32) &&& 31).toUInt32).toInt32).toUInt32 >>> ((8 : Int32) &&& 31).toUInt32).toInt32)), .val (.int (29 : Int32))] [(.int ((((((((px ^^^ (-1 : Int32)) &&& (px - (1 : Int32))).toUInt32 >>> ((16 : Int32) &&& 31).toUInt32).toInt32).toUInt32 >>> ((8 : Int32) &&& 31).toUInt32).toInt32).toUInt32 >>> ((4 : Int32) &&& 31).toUInt32).toInt32))])) _
            refine XS.istoreN X0.here hx rfl (hb hby d5_61) rfl (l' := #[.val (.int ((((((((px ^^^ (-1 : Int32)) &&& (px - (1 : Int32))).toUInt32 >>> ((16 : Int32) &&& 31).toUInt32).toInt32).toUInt32 >>> ((8 : Int32) &&& 31).toUInt32).toInt32).toUInt32 >>> ((4 : Int32) &&& 31).toUInt32).toInt32)), .val (.int (29 : Int32))]) rfl ?_
            refine XS.iloadN X0.here hx rfl (hb hby d5_62) rfl ?_
            refine XS.iconst X0.here hx rfl (hb hby d5_63) ?_
            exact k
          by_cases hc13 : (4 : Int32) < ((((((((px ^^^ (-1 : Int32)) &&& (px - (1 : Int32))).toUInt32 >>> ((16 : Int32) &&& 31).toUInt32).toInt32).toUInt32 >>> ((8 : Int32) &&& 31).toUInt32).toInt32).toUInt32 >>> ((4 : Int32) &&& 31).toUInt32).toInt32)
          · skip
            refine own_pre (A := (s₁.setTop (mkF m 67 #[.val (.int ((((((((px ^^^ (-1 : Int32)) &&& (px - (1 : Int32))).toUInt32 >>> ((16 : Int32) &&& 31).toUInt32).toInt32).toUInt32 >>> ((8 : Int32) &&& 31).toUInt32).toInt32).toUInt32 >>> ((4 : Int32) &&& 31).toUInt32).toInt32)), .val (.int (29 : Int32))] []))) ?_ ?_
            · intro t k
              refine XS.icmpNo X0.here hx rfl (hb hby d5_64) rfl (tlt hc13).2.2.2 ?_
              exact k
            refine own_pre (A := (s₁.setTop (mkF m 79 #[.val (.int ((((((((((px ^^^ (-1 : Int32)) &&& (px - (1 : Int32))).toUInt32 >>> ((16 : Int32) &&& 31).toUInt32).toInt32).toUInt32 >>> ((8 : Int32) &&& 31).toUInt32).toInt32).toUInt32 >>> ((4 : Int32) &&& 31).toUInt32).toInt32).toUInt32 >>> ((2 : Int32) &&& 31).toUInt32).toInt32)), .val (.int (31 : Int32))] [(.int ((31 : Int32) + ((((((((((((px ^^^ (-1 : Int32)) &&& (px - (1 : Int32))).toUInt32 >>> ((16 : Int32) &&& 31).toUInt32).toInt32).toUInt32 >>> ((8 : Int32) &&& 31).toUInt32).toInt32).toUInt32 >>> ((4 : Int32) &&& 31).toUInt32).toInt32).toUInt32 >>> ((2 : Int32) &&& 31).toUInt32).toInt32).toUInt32 >>> ((1 : Int32) &&& 31).toUInt32).toInt32)))]))) ?_ ?_
            · intro t k
              show Steps p.tables e below (s₁.setTop (mkF m 67 #[.val (.int ((((((((px ^^^ (-1 : Int32)) &&& (px - (1 : Int32))).toUInt32 >>> ((16 : Int32) &&& 31).toUInt32).toInt32).toUInt32 >>> ((8 : Int32) &&& 31).toUInt32).toInt32).toUInt32 >>> ((4 : Int32) &&& 31).toUInt32).toInt32)), .val (.int (29 : Int32))] [])) _
              refine XS.iinc X0.here hx rfl (hb hby d5_67) rfl (l' := #[.val (.int ((((((((px ^^^ (-1 : Int32)) &&& (px - (1 : Int32))).toUInt32 >>> ((16 : Int32) &&& 31).toUInt32).toInt32).toUInt32 >>> ((8 : Int32) &&& 31).toUInt32).toInt32).toUInt32 >>> ((4 : Int32) &&& 31).toUInt32).toInt32)), .val (.int ((29 : Int32) + (2 : Int32)))]) rfl ?_
              show Steps p.tables e below (s₁.setTop (mkF m 70 #[.val (.int ((((((((px ^^^ (-1 : Int32)) &&& (px - (1 : Int32))).toUInt32 >>> ((16 : Int32) &&& 31).toUInt32).toInt32).toUInt32 >>> ((8 : Int32) &&& 31).toUInt32).toInt32).toUInt32 >>> ((4 : Int32) &&& 31).toUInt32).toInt32)), .val (.int ((29 : Int32) + (2 : Int32)))] [])) _
              rw [show ((29 : Int32) + (2 : Int32)) = (31 : Int32) from by decide]
              show Steps p.tables e below (s₁.setTop (mkF m 70 #[.val (.int ((((((((px ^^^ (-1 : Int32)) &&& (px - (1 : Int32))).toUInt32 >>> ((16 : Int32) &&& 31).toUInt32).toInt32).toUInt32 >>> ((8 : Int32) &&& 31).toUInt32).toInt32).toUInt32 >>> ((4 : Int32) &&& 31).toUInt32).toInt32)), .val (.int (31 : Int32))] [])) _
              refine XS.iloadN X0.here hx rfl (hb hby d5_70) rfl ?_
              refine XS.iconst X0.here hx rfl (hb hby d5_71) ?_
              refine XS.iushr X0.here hx rfl (hb hby d5_72) rfl ?_
              show Steps p.tables e below (s₁.setTop (mkF m 73 #[.val (.int ((((((((px ^^^ (-1 : Int32)) &&& (px - (1 : Int32))).toUInt32 >>> ((16 : Int32) &&& 31).toUInt32).toInt32).toUInt32 >>> ((8 : Int32) &&& 31).toUInt32).toInt32).toUInt32 >>> ((4 : Int32) &&& 31).toUInt32).toInt32)), .val (.int (31 : Int32))] [(.int ((((((((((px ^^^ (-1 : Int32)) &&& (px - (1 : Int32))).toUInt32 >>> ((16 : Int32) &&& 31).toUInt32).toInt32).toUInt32 >>> ((8 : Int32) &&& 31).toUInt32).toInt32).toUInt32 >>> ((4 : Int32) &&& 31).toUInt32).toInt32).toUInt32 >>> ((2 : Int32) &&& 31).toUInt32).toInt32))])) _
              refine XS.istoreN X0.here hx rfl (hb hby d5_73) rfl (l' := #[.val (.int ((((((((((px ^^^ (-1 : Int32)) &&& (px - (1 : Int32))).toUInt32 >>> ((16 : Int32) &&& 31).toUInt32).toInt32).toUInt32 >>> ((8 : Int32) &&& 31).toUInt32).toInt32).toUInt32 >>> ((4 : Int32) &&& 31).toUInt32).toInt32).toUInt32 >>> ((2 : Int32) &&& 31).toUInt32).toInt32)), .val (.int (31 : Int32))]) rfl ?_
              refine XS.iloadN X0.here hx rfl (hb hby d5_74) rfl ?_
              refine XS.iloadN X0.here hx rfl (hb hby d5_75) rfl ?_
              refine XS.iconst X0.here hx rfl (hb hby d5_76) ?_
              refine XS.iushr X0.here hx rfl (hb hby d5_77) rfl ?_
              refine XS.iadd X0.here hx rfl (hb hby d5_78) rfl ?_
              exact k
            have hz : own_ntz px = ((31 : Int32) + ((((((((((((px ^^^ (-1 : Int32)) &&& (px - (1 : Int32))).toUInt32 >>> ((16 : Int32) &&& 31).toUInt32).toInt32).toUInt32 >>> ((8 : Int32) &&& 31).toUInt32).toInt32).toUInt32 >>> ((4 : Int32) &&& 31).toUInt32).toInt32).toUInt32 >>> ((2 : Int32) &&& 31).toUInt32).toInt32).toUInt32 >>> ((1 : Int32) &&& 31).toUInt32).toInt32)) := by simp only [own_ntz, if_pos hc9, if_pos hc10, if_pos hc11, if_pos hc12, if_pos hc13]
            obtain ⟨fs, hr, hrun, hended, hW, hsame⟩ := X0.leave (hlocks := BodyLoose.notSynchronized Bd) (v := some (.int ((31 : Int32) + ((((((((((((px ^^^ (-1 : Int32)) &&& (px - (1 : Int32))).toUInt32 >>> ((16 : Int32) &&& 31).toUInt32).toInt32).toUInt32 >>> ((8 : Int32) &&& 31).toUInt32).toInt32).toUInt32 >>> ((4 : Int32) &&& 31).toUInt32).toInt32).toUInt32 >>> ((2 : Int32) &&& 31).toUInt32).toInt32).toUInt32 >>> ((1 : Int32) &&& 31).toUInt32).toInt32)))) (fun h => by rw [Bd.returns] at h; cases h)
            refine ⟨_, _, retOut X0 hx Bd.returns rfl (Or.inl ⟨rfl, Or.inl rfl, _, rfl⟩) (hb hby d5_79) hr, hrun, hended, _, _, rfl, ?_, ⟨_, rfl⟩, hW, hsame.mono (by decide) (by decide)⟩
            show own_Q5 px h0 n0 _ s₁.heap _
            rw [e0]
            exact ⟨by rw [hz], N0, rfl⟩
          · skip
            refine own_pre (A := (s₁.setTop (mkF m 74 #[.val (.int ((((((((px ^^^ (-1 : Int32)) &&& (px - (1 : Int32))).toUInt32 >>> ((16 : Int32) &&& 31).toUInt32).toInt32).toUInt32 >>> ((8 : Int32) &&& 31).toUInt32).toInt32).toUInt32 >>> ((4 : Int32) &&& 31).toUInt32).toInt32)), .val (.int (29 : Int32))] []))) ?_ ?_
            · intro t k
              refine XS.icmpYes X0.here hx rfl (pc0 := 64) (pc' := 74) rfl (hb hby d5_64) rfl (flt hc13).2.2.2 (by decide) (by decide) ?_
              exact k
            refine own_pre (A := (s₁.setTop (mkF m 79 #[.val (.int ((((((((px ^^^ (-1 : Int32)) &&& (px - (1 : Int32))).toUInt32 >>> ((16 : Int32) &&& 31).toUInt32).toInt32).toUInt32 >>> ((8 : Int32) &&& 31).toUInt32).toInt32).toUInt32 >>> ((4 : Int32) &&& 31).toUInt32).toInt32)), .val (.int (29 : Int32))] [(.int ((29 : Int32) + ((((((((((px ^^^ (-1 : Int32)) &&& (px - (1 : Int32))).toUInt32 >>> ((16 : Int32) &&& 31).toUInt32).toInt32).toUInt32 >>> ((8 : Int32) &&& 31).toUInt32).toInt32).toUInt32 >>> ((4 : Int32) &&& 31).toUInt32).toInt32).toUInt32 >>> ((1 : Int32) &&& 31).toUInt32).toInt32)))]))) ?_ ?_
            · intro t k
              show Steps p.tables e below (s₁.setTop (mkF m 74 #[.val (.int ((((((((px ^^^ (-1 : Int32)) &&& (px - (1 : Int32))).toUInt32 >>> ((16 : Int32) &&& 31).toUInt32).toInt32).toUInt32 >>> ((8 : Int32) &&& 31).toUInt32).toInt32).toUInt32 >>> ((4 : Int32) &&& 31).toUInt32).toInt32)), .val (.int (29 : Int32))] [])) _
              refine XS.iloadN X0.here hx rfl (hb hby d5_74) rfl ?_
              refine XS.iloadN X0.here hx rfl (hb hby d5_75) rfl ?_
              refine XS.iconst X0.here hx rfl (hb hby d5_76) ?_
              refine XS.iushr X0.here hx rfl (hb hby d5_77) rfl ?_
              refine XS.iadd X0.here hx rfl (hb hby d5_78) rfl ?_
              exact k
            have hz : own_ntz px = ((29 : Int32) + ((((((((((px ^^^ (-1 : Int32)) &&& (px - (1 : Int32))).toUInt32 >>> ((16 : Int32) &&& 31).toUInt32).toInt32).toUInt32 >>> ((8 : Int32) &&& 31).toUInt32).toInt32).toUInt32 >>> ((4 : Int32) &&& 31).toUInt32).toInt32).toUInt32 >>> ((1 : Int32) &&& 31).toUInt32).toInt32)) := by simp only [own_ntz, if_pos hc9, if_pos hc10, if_pos hc11, if_pos hc12, if_neg hc13]
            obtain ⟨fs, hr, hrun, hended, hW, hsame⟩ := X0.leave (hlocks := BodyLoose.notSynchronized Bd) (v := some (.int ((29 : Int32) + ((((((((((px ^^^ (-1 : Int32)) &&& (px - (1 : Int32))).toUInt32 >>> ((16 : Int32) &&& 31).toUInt32).toInt32).toUInt32 >>> ((8 : Int32) &&& 31).toUInt32).toInt32).toUInt32 >>> ((4 : Int32) &&& 31).toUInt32).toInt32).toUInt32 >>> ((1 : Int32) &&& 31).toUInt32).toInt32)))) (fun h => by rw [Bd.returns] at h; cases h)
            refine ⟨_, _, retOut X0 hx Bd.returns rfl (Or.inl ⟨rfl, Or.inl rfl, _, rfl⟩) (hb hby d5_79) hr, hrun, hended, _, _, rfl, ?_, ⟨_, rfl⟩, hW, hsame.mono (by decide) (by decide)⟩
            show own_Q5 px h0 n0 _ s₁.heap _
            rw [e0]
            exact ⟨by rw [hz], N0, rfl⟩
        · skip
          refine own_pre (A := (s₁.setTop (mkF m 62 #[.val (.int ((((((px ^^^ (-1 : Int32)) &&& (px - (1 : Int32))).toUInt32 >>> ((16 : Int32) &&& 31).toUInt32).toInt32).toUInt32 >>> ((8 : Int32) &&& 31).toUInt32).toInt32)), .val (.int (25 : Int32))] []))) ?_ ?_
          · intro t k
            refine XS.icmpYes X0.here hx rfl (pc0 := 52) (pc' := 62) rfl (hb hby d5_52) rfl (flt hc12).2.2.2 (by decide) (by decide) ?_
            exact k
          refine own_pre (A := (s₁.setTop (mkF m 64 #[.val (.int ((((((px ^^^ (-1 : Int32)) &&& (px - (1 : Int32))).toUInt32 >>> ((16 : Int32) &&& 31).toUInt32).toInt32).toUInt32 >>> ((8 : Int32) &&& 31).toUInt32).toInt32)), .val (.int (25 : Int32))] [(.int (4 : Int32)), (.int ((((((px ^^^ (-1 : Int32)) &&& (px - (1 : Int32))).toUInt32 >>> ((16 : Int32) &&& 31).toUInt32).toInt32).toUInt32 >>> ((8 : Int32) &&& 31).toUInt32).toInt32))]))) ?_ ?_
          · intro t k
            show Steps p.tables e below (s₁.setTop (mkF m 62 #[.val (.int ((((((px ^^^ (-1 : Int32)) &&& (px - (1 : Int32))).toUInt32 >>> ((16 : Int32) &&& 31).toUInt32).toInt32).toUInt32 >>> ((8 : Int32) &&& 31).toUInt32).toInt32)), .val (.int (25 : Int32))] [])) _
            refine XS.iloadN X0.here hx rfl (hb hby d5_62) rfl ?_
            refine XS.iconst X0.here hx rfl (hb hby d5_63) ?_
            exact k
          by_cases hc14 : (4 : Int32) < ((((((px ^^^ (-1 : Int32)) &&& (px - (1 : Int32))).toUInt32 >>> ((16 : Int32) &&& 31).toUInt32).toInt32).toUInt32 >>> ((8 : Int32) &&& 31).toUInt32).toInt32)
          · skip
            refine own_pre (A := (s₁.setTop (mkF m 67 #[.val (.int ((((((px ^^^ (-1 : Int32)) &&& (px - (1 : Int32))).toUInt32 >>> ((16 : Int32) &&& 31).toUInt32).toInt32).toUInt32 >>> ((8 : Int32) &&& 31).toUInt32).toInt32)), .val (.int (25 : Int32))] []))) ?_ ?_
            · intro t k
              refine XS.icmpNo X0.here hx rfl (hb hby d5_64) rfl (tlt hc14).2.2.2 ?_
              exact k
            refine own_pre (A := (s₁.setTop (mkF m 79 #[.val (.int ((((((((px ^^^ (-1 : Int32)) &&& (px - (1 : Int32))).toUInt32 >>> ((16 : Int32) &&& 31).toUInt32).toInt32).toUInt32 >>> ((8 : Int32) &&& 31).toUInt32).toInt32).toUInt32 >>> ((2 : Int32) &&& 31).toUInt32).toInt32)), .val (.int (27 : Int32))] [(.int ((27 : Int32) + ((((((((((px ^^^ (-1 : Int32)) &&& (px - (1 : Int32))).toUInt32 >>> ((16 : Int32) &&& 31).toUInt32).toInt32).toUInt32 >>> ((8 : Int32) &&& 31).toUInt32).toInt32).toUInt32 >>> ((2 : Int32) &&& 31).toUInt32).toInt32).toUInt32 >>> ((1 : Int32) &&& 31).toUInt32).toInt32)))]))) ?_ ?_
            · intro t k
              show Steps p.tables e below (s₁.setTop (mkF m 67 #[.val (.int ((((((px ^^^ (-1 : Int32)) &&& (px - (1 : Int32))).toUInt32 >>> ((16 : Int32) &&& 31).toUInt32).toInt32).toUInt32 >>> ((8 : Int32) &&& 31).toUInt32).toInt32)), .val (.int (25 : Int32))] [])) _
              refine XS.iinc X0.here hx rfl (hb hby d5_67) rfl (l' := #[.val (.int ((((((px ^^^ (-1 : Int32)) &&& (px - (1 : Int32))).toUInt32 >>> ((16 : Int32) &&& 31).toUInt32).toInt32).toUInt32 >>> ((8 : Int32) &&& 31).toUInt32).toInt32)), .val (.int ((25 : Int32) + (2 : Int32)))]) rfl ?_
              show Steps p.tables e below (s₁.setTop (mkF m 70 #[.val (.int ((((((px ^^^ (-1 : Int32)) &&& (px - (1 : Int32))).toUInt32 >>> ((16 : Int32) &&& 31).toUInt32).toInt32).toUInt32 >>> ((8 : Int32) &&& 31).toUInt32).toInt32)), .val (.int ((25 : Int32) + (2 : Int32)))] [])) _
              rw [show ((25 : Int32) + (2 : Int32)) = (27 : Int32) from by decide]
              show Steps p.tables e below (s₁.setTop (mkF m 70 #[.val (.int ((((((px ^^^ (-1 : Int32)) &&& (px - (1 : Int32))).toUInt32 >>> ((16 : Int32) &&& 31).toUInt32).toInt32).toUInt32 >>> ((8 : Int32) &&& 31).toUInt32).toInt32)), .val (.int (27 : Int32))] [])) _
              refine XS.iloadN X0.here hx rfl (hb hby d5_70) rfl ?_
              refine XS.iconst X0.here hx rfl (hb hby d5_71) ?_
              refine XS.iushr X0.here hx rfl (hb hby d5_72) rfl ?_
              show Steps p.tables e below (s₁.setTop (mkF m 73 #[.val (.int ((((((px ^^^ (-1 : Int32)) &&& (px - (1 : Int32))).toUInt32 >>> ((16 : Int32) &&& 31).toUInt32).toInt32).toUInt32 >>> ((8 : Int32) &&& 31).toUInt32).toInt32)), .val (.int (27 : Int32))] [(.int ((((((((px ^^^ (-1 : Int32)) &&& (px - (1 : Int32))).toUInt32 >>> ((16 : Int32) &&& 31).toUInt32).toInt32).toUInt32 >>> ((8 : Int32) &&& 31).toUInt32).toInt32).toUInt32 >>> ((2 : Int32) &&& 31).toUInt32).toInt32))])) _
              refine XS.istoreN X0.here hx rfl (hb hby d5_73) rfl (l' := #[.val (.int ((((((((px ^^^ (-1 : Int32)) &&& (px - (1 : Int32))).toUInt32 >>> ((16 : Int32) &&& 31).toUInt32).toInt32).toUInt32 >>> ((8 : Int32) &&& 31).toUInt32).toInt32).toUInt32 >>> ((2 : Int32) &&& 31).toUInt32).toInt32)), .val (.int (27 : Int32))]) rfl ?_
              refine XS.iloadN X0.here hx rfl (hb hby d5_74) rfl ?_
              refine XS.iloadN X0.here hx rfl (hb hby d5_75) rfl ?_
              refine XS.iconst X0.here hx rfl (hb hby d5_76) ?_
              refine XS.iushr X0.here hx rfl (hb hby d5_77) rfl ?_
              refine XS.iadd X0.here hx rfl (hb hby d5_78) rfl ?_
              exact k
            have hz : own_ntz px = ((27 : Int32) + ((((((((((px ^^^ (-1 : Int32)) &&& (px - (1 : Int32))).toUInt32 >>> ((16 : Int32) &&& 31).toUInt32).toInt32).toUInt32 >>> ((8 : Int32) &&& 31).toUInt32).toInt32).toUInt32 >>> ((2 : Int32) &&& 31).toUInt32).toInt32).toUInt32 >>> ((1 : Int32) &&& 31).toUInt32).toInt32)) := by simp only [own_ntz, if_pos hc9, if_pos hc10, if_pos hc11, if_neg hc12, if_pos hc14]
            obtain ⟨fs, hr, hrun, hended, hW, hsame⟩ := X0.leave (hlocks := BodyLoose.notSynchronized Bd) (v := some (.int ((27 : Int32) + ((((((((((px ^^^ (-1 : Int32)) &&& (px - (1 : Int32))).toUInt32 >>> ((16 : Int32) &&& 31).toUInt32).toInt32).toUInt32 >>> ((8 : Int32) &&& 31).toUInt32).toInt32).toUInt32 >>> ((2 : Int32) &&& 31).toUInt32).toInt32).toUInt32 >>> ((1 : Int32) &&& 31).toUInt32).toInt32)))) (fun h => by rw [Bd.returns] at h; cases h)
            refine ⟨_, _, retOut X0 hx Bd.returns rfl (Or.inl ⟨rfl, Or.inl rfl, _, rfl⟩) (hb hby d5_79) hr, hrun, hended, _, _, rfl, ?_, ⟨_, rfl⟩, hW, hsame.mono (by decide) (by decide)⟩
            show own_Q5 px h0 n0 _ s₁.heap _
            rw [e0]
            exact ⟨by rw [hz], N0, rfl⟩
          · skip
            refine own_pre (A := (s₁.setTop (mkF m 74 #[.val (.int ((((((px ^^^ (-1 : Int32)) &&& (px - (1 : Int32))).toUInt32 >>> ((16 : Int32) &&& 31).toUInt32).toInt32).toUInt32 >>> ((8 : Int32) &&& 31).toUInt32).toInt32)), .val (.int (25 : Int32))] []))) ?_ ?_
            · intro t k
              refine XS.icmpYes X0.here hx rfl (pc0 := 64) (pc' := 74) rfl (hb hby d5_64) rfl (flt hc14).2.2.2 (by decide) (by decide) ?_
              exact k
            refine own_pre (A := (s₁.setTop (mkF m 79 #[.val (.int ((((((px ^^^ (-1 : Int32)) &&& (px - (1 : Int32))).toUInt32 >>> ((16 : Int32) &&& 31).toUInt32).toInt32).toUInt32 >>> ((8 : Int32) &&& 31).toUInt32).toInt32)), .val (.int (25 : Int32))] [(.int ((25 : Int32) + ((((((((px ^^^ (-1 : Int32)) &&& (px - (1 : Int32))).toUInt32 >>> ((16 : Int32) &&& 31).toUInt32).toInt32).toUInt32 >>> ((8 : Int32) &&& 31).toUInt32).toInt32).toUInt32 >>> ((1 : Int32) &&& 31).toUInt32).toInt32)))]))) ?_ ?_
            · intro t k
              show Steps p.tables e below (s₁.setTop (mkF m 74 #[.val (.int ((((((px ^^^ (-1 : Int32)) &&& (px - (1 : Int32))).toUInt32 >>> ((16 : Int32) &&& 31).toUInt32).toInt32).toUInt32 >>> ((8 : Int32) &&& 31).toUInt32).toInt32)), .val (.int (25 : Int32))] [])) _
              refine XS.iloadN X0.here hx rfl (hb hby d5_74) rfl ?_
              refine XS.iloadN X0.here hx rfl (hb hby d5_75) rfl ?_
              refine XS.iconst X0.here hx rfl (hb hby d5_76) ?_
              refine XS.iushr X0.here hx rfl (hb hby d5_77) rfl ?_
              refine XS.iadd X0.here hx rfl (hb hby d5_78) rfl ?_
              exact k
            have hz : own_ntz px = ((25 : Int32) + ((((((((px ^^^ (-1 : Int32)) &&& (px - (1 : Int32))).toUInt32 >>> ((16 : Int32) &&& 31).toUInt32).toInt32).toUInt32 >>> ((8 : Int32) &&& 31).toUInt32).toInt32).toUInt32 >>> ((1 : Int32) &&& 31).toUInt32).toInt32)) := by simp only [own_ntz, if_pos hc9, if_pos hc10, if_pos hc11, if_neg hc12, if_neg hc14]
            obtain ⟨fs, hr, hrun, hended, hW, hsame⟩ := X0.leave (hlocks := BodyLoose.notSynchronized Bd) (v := some (.int ((25 : Int32) + ((((((((px ^^^ (-1 : Int32)) &&& (px - (1 : Int32))).toUInt32 >>> ((16 : Int32) &&& 31).toUInt32).toInt32).toUInt32 >>> ((8 : Int32) &&& 31).toUInt32).toInt32).toUInt32 >>> ((1 : Int32) &&& 31).toUInt32).toInt32)))) (fun h => by rw [Bd.returns] at h; cases h)
            refine ⟨_, _, retOut X0 hx Bd.returns rfl (Or.inl ⟨rfl, Or.inl rfl, _, rfl⟩) (hb hby d5_79) hr, hrun, hended, _, _, rfl, ?_, ⟨_, rfl⟩, hW, hsame.mono (by decide) (by decide)⟩
            show own_Q5 px h0 n0 _ s₁.heap _
            rw [e0]
            exact ⟨by rw [hz], N0, rfl⟩
      · skip
        refine own_pre (A := (s₁.setTop (mkF m 49 #[.val (.int ((((px ^^^ (-1 : Int32)) &&& (px - (1 : Int32))).toUInt32 >>> ((16 : Int32) &&& 31).toUInt32).toInt32)), .val (.int (17 : Int32))] []))) ?_ ?_
        · intro t k
          refine XS.icmpYes X0.here hx rfl (pc0 := 38) (pc' := 49) rfl (hb hby d5_38) rfl (flt hc11).2.2.2 (by decide) (by decide) ?_
          exact k
        refine own_pre (A := (s₁.setTop (mkF m 52 #[.val (.int ((((px ^^^ (-1 : Int32)) &&& (px - (1 : Int32))).toUInt32 >>> ((16 : Int32) &&& 31).toUInt32).toInt32)), .val (.int (17 : Int32))] [(.int (16 : Int32)), (.int ((((px ^^^ (-1 : Int32)) &&& (px - (1 : Int32))).toUInt32 >>> ((16 : Int32) &&& 31).toUInt32).toInt32))]))) ?_ ?_
        · intro t k
          show Steps p.tables e below (s₁.setTop (mkF m 49 #[.val (.int ((((px ^^^ (-1 : Int32)) &&& (px - (1 : Int32))).toUInt32 >>> ((16 : Int32) &&& 31).toUInt32).toInt32)), .val (.int (17 : Int32))] [])) _
          refine XS.iloadN X0.here hx rfl (hb hby d5_49) rfl ?_
          refine XS.bipush X0.here hx rfl (hb hby d5_50) ?_
          exact k
        by_cases hc15 : (16 : Int32) < ((((px ^^^ (-1 : Int32)) &&& (px - (1 : Int32))).toUInt32 >>> ((16 : Int32) &&& 31).toUInt32).toInt32)
        · skip
          refine own_pre (A := (s₁.setTop (mkF m 55 #[.val (.int ((((px ^^^ (-1 : Int32)) &&& (px - (1 : Int32))).toUInt32 >>> ((16 : Int32) &&& 31).toUInt32).toInt32)), .val (.int (17 : Int32))] []))) ?_ ?_
          · intro t k
            refine XS.icmpNo X0.here hx rfl (hb hby d5_52) rfl (tlt hc15).2.2.2 ?_
            exact k
          refine own_pre (A := (s₁.setTop (mkF m 64 #[.val (.int ((((((px ^^^ (-1 : Int32)) &&& (px - (1 : Int32))).toUInt32 >>> ((16 : Int32) &&& 31).toUInt32).toInt32).toUInt32 >>> ((4 : Int32) &&& 31).toUInt32).toInt32)), .val (.int (21 : Int32))] [(.int (4 : Int32)), (.int ((((((px ^^^ (-1 : Int32)) &&& (px - (1 : Int32))).toUInt32 >>> ((16 : Int32) &&& 31).toUInt32).toInt32).toUInt32 >>> ((4 : Int32) &&& 31).toUInt32).toInt32))]))) ?_ ?_
          · intro t k
            show Steps p.tables e below (s₁.setTop (mkF m 55 #[.val (.int ((((px ^^^ (-1 : Int32)) &&& (px - (1 : Int32))).toUInt32 >>> ((16 : Int32) &&& 31).toUInt32).toInt32)), .val (.int (17 : Int32))] [])) _
            refine XS.iinc X0.here hx rfl (hb hby d5_55) rfl (l' := #[.val (.int ((((px ^^^ (-1 : Int32)) &&& (px - (1 : Int32))).toUInt32 >>> ((16 : Int32) &&& 31).toUInt32).toInt32)), .val (.int ((17 : Int32) + (4 : Int32)))]) rfl ?_
            show Steps p.tables e below (s₁.setTop (mkF m 58 #[.val (.int ((((px ^^^ (-1 : Int32)) &&& (px - (1 : Int32))).toUInt32 >>> ((16 : Int32) &&& 31).toUInt32).toInt32)), .val (.int ((17 : Int32) + (4 : Int32)))] [])) _
            rw [show ((17 : Int32) + (4 : Int32)) = (21 : Int32) from by decide]
            show Steps p.tables e below (s₁.setTop (mkF m 58 #[.val (.int ((((px ^^^ (-1 : Int32)) &&& (px - (1 : Int32))).toUInt32 >>> ((16 : Int32) &&& 31).toUInt32).toInt32)), .val (.int (21 : Int32))] [])) _
            refine XS.iloadN X0.here hx rfl (hb hby d5_58) rfl ?_
            refine XS.iconst X0.here hx rfl (hb hby d5_59) ?_
            refine XS.iushr X0.here hx rfl (hb hby d5_60) rfl ?_
            show Steps p.tables e below (s₁.setTop (mkF m 61 #[.val (.int ((((px ^^^ (-1 : Int32)) &&& (px - (1 : Int32))).toUInt32 >>> ((16 : Int32) &&& 31).toUInt32).toInt32)), .val (.int (21 : Int32))] [(.int ((((((px ^^^ (-1 : Int32)) &&& (px - (1 : Int32))).toUInt32 >>> ((16 : Int32) &&& 31).toUInt32).toInt32).toUInt32 >>> ((4 : Int32) &&& 31).toUInt32).toInt32))])) _
            refine XS.istoreN X0.here hx rfl (hb hby d5_61) rfl (l' := #[.val (.int ((((((px ^^^ (-1 : Int32)) &&& (px - (1 : Int32))).toUInt32 >>> ((16 : Int32) &&& 31).toUInt32).toInt32).toUInt32 >>> ((4 : Int32) &&& 31).toUInt32).toInt32)), .val (.int (21 : Int32))]) rfl ?_
            refine XS.iloadN X0.here hx rfl (hb hby d5_62) rfl ?_
            refine XS.iconst X0.here hx rfl (hb hby d5_63) ?_
            exact k
          by_cases hc16 : (4 : Int32) < ((((((px ^^^ (-1 : Int32)) &&& (px - (1 : Int32))).toUInt32 >>> ((16 : Int32) &&& 31).toUInt32).toInt32).toUInt32 >>> ((4 : Int32) &&& 31).toUInt32).toInt32)
          · skip
            refine own_pre (A := (s₁.setTop (mkF m 67 #[.val (.int ((((((px ^^^ (-1 : Int32)) &&& (px - (1 : Int32))).toUInt32 >>> ((16 : Int32) &&& 31).toUInt32).toInt32).toUInt32 >>> ((4 : Int32) &&& 31).toUInt32).toInt32)), .val (.int (21 : Int32))] []))) ?_ ?_
            · intro t k
              refine XS.icmpNo X0.here hx rfl (hb hby d5_64) rfl (tlt hc16).2.2.2 ?_
              exact k
            refine own_pre (A := (s₁.setTop (mkF m 79 #[.val (.int ((((((((px ^^^ (-1 : Int32)) &&& (px - (1 : Int32))).toUInt32 >>> ((16 : Int32) &&& 31).toUInt32).toInt32).toUInt32 >>> ((4 : Int32) &&& 31).toUInt32).toInt32).toUInt32 >>> ((2 : Int32) &&& 31).toUInt32).toInt32)), .val (.int (23 : Int32))] [(.int ((23 : Int32) + ((((((((((px ^^^ (-1 : Int32)) &&& (px - (1 : Int32))).toUInt32 >>> ((16 : Int32) &&& 31).toUInt32).toInt32).toUInt32 >>> ((4 : Int32) &&& 31).toUInt32).toInt32).toUInt32 >>> ((2 : Int32) &&& 31).toUInt32).toInt32).toUInt32 >>> ((1 : Int32) &&& 31).toUInt32).toInt32)))]))) ?_ ?_
            · intro t k
              show Steps p.tables e below (s₁.setTop (mkF m 67 #[.val (.int ((((((px ^^^ (-1 : Int32)) &&& (px - (1 : Int32))).toUInt32 >>> ((16 : Int32) &&& 31).toUInt32).toInt32).toUInt32 >>> ((4 : Int32) &&& 31).toUInt32).toInt32)), .val (.int (21 : Int32))] [])) _
              refine XS.iinc X0.here hx rfl (hb hby d5_67) rfl (l' := #[.val (.int ((((((px ^^^ (-1 : Int32)) &&& (px - (1 : Int32))).toUInt32 >>> ((16 : Int32) &&& 31).toUInt32).toInt32).toUInt32 >>> ((4 : Int32) &&& 31).toUInt32).toInt32)), .val (.int ((21 : Int32) + (2 : Int32)))]) rfl ?_
              show Steps p.tables e below (s₁.setTop (mkF m 70 #[.val (.int ((((((px ^^^ (-1 : Int32)) &&& (px - (1 : Int32))).toUInt32 >>> ((16 : Int32) &&& 31).toUInt32).toInt32).toUInt32 >>> ((4 : Int32) &&& 31).toUInt32).toInt32)), .val (.int ((21 : Int32) + (2 : Int32)))] [])) _
              rw [show ((21 : Int32) + (2 : Int32)) = (23 : Int32) from by decide]
              show Steps p.tables e below (s₁.setTop (mkF m 70 #[.val (.int ((((((px ^^^ (-1 : Int32)) &&& (px - (1 : Int32))).toUInt32 >>> ((16 : Int32) &&& 31).toUInt32).toInt32).toUInt32 >>> ((4 : Int32) &&& 31).toUInt32).toInt32)), .val (.int (23 : Int32))] [])) _
              refine XS.iloadN X0.here hx rfl (hb hby d5_70) rfl ?_
              refine XS.iconst X0.here hx rfl (hb hby d5_71) ?_
              refine XS.iushr X0.here hx rfl (hb hby d5_72) rfl ?_
              show Steps p.tables e below (s₁.setTop (mkF m 73 #[.val (.int ((((((px ^^^ (-1 : Int32)) &&& (px - (1 : Int32))).toUInt32 >>> ((16 : Int32) &&& 31).toUInt32).toInt32).toUInt32 >>> ((4 : Int32) &&& 31).toUInt32).toInt32)), .val (.int (23 : Int32))] [(.int ((((((((px ^^^ (-1 : Int32)) &&& (px - (1 : Int32))).toUInt32 >>> ((16 : Int32) &&& 31).toUInt32).toInt32).toUInt32 >>> ((4 : Int32) &&& 31).toUInt32).toInt32).toUInt32 >>> ((2 : Int32) &&& 31).toUInt32).toInt32))])) _
              refine XS.istoreN X0.here hx rfl (hb hby d5_73) rfl (l' := #[.val (.int ((((((((px ^^^ (-1 : Int32)) &&& (px - (1 : Int32))).toUInt32 >>> ((16 : Int32) &&& 31).toUInt32).toInt32).toUInt32 >>> ((4 : Int32) &&& 31).toUInt32).toInt32).toUInt32 >>> ((2 : Int32) &&& 31).toUInt32).toInt32)), .val (.int (23 : Int32))]) rfl ?_
              refine XS.iloadN X0.here hx rfl (hb hby d5_74) rfl ?_
              refine XS.iloadN X0.here hx rfl (hb hby d5_75) rfl ?_
              refine XS.iconst X0.here hx rfl (hb hby d5_76) ?_
              refine XS.iushr X0.here hx rfl (hb hby d5_77) rfl ?_
              refine XS.iadd X0.here hx rfl (hb hby d5_78) rfl ?_
              exact k
            have hz : own_ntz px = ((23 : Int32) + ((((((((((px ^^^ (-1 : Int32)) &&& (px - (1 : Int32))).toUInt32 >>> ((16 : Int32) &&& 31).toUInt32).toInt32).toUInt32 >>> ((4 : Int32) &&& 31).toUInt32).toInt32).toUInt32 >>> ((2 : Int32) &&& 31).toUInt32).toInt32).toUInt32 >>> ((1 : Int32) &&& 31).toUInt32).toInt32)) := by simp only [own_ntz, if_pos hc9, if_pos hc10, if_neg hc11, if_pos hc15, if_pos hc16]
            obtain ⟨fs, hr, hrun, hended, hW, hsame⟩ := X0.leave (hlocks := BodyLoose.notSynchronized Bd) (v := some (.int ((23 : Int32) + ((((((((((px ^^^ (-1 : Int32)) &&& (px - (1 : Int32))).toUInt32 >>> ((16 : Int32) &&& 31).toUInt32).toInt32).toUInt32 >>> ((4 : Int32) &&& 31).toUInt32).toInt32).toUInt32 >>> ((2 : Int32) &&& 31).toUInt32).toInt32).toUInt32 >>> ((1 : Int32) &&& 31).toUInt32).toInt32)))) (fun h => by rw [Bd.returns] at h; cases h)
            refine ⟨_, _, retOut X0 hx Bd.returns rfl (Or.inl ⟨rfl, Or.inl rfl, _, rfl⟩) (hb hby d5_79) hr, hrun, hended, _, _, rfl, ?_, ⟨_, rfl⟩, hW, hsame.mono (by decide) (by decide)⟩
            show own_Q5 px h0 n0 _ s₁.heap _
            rw [e0]
            exact ⟨by rw [hz], N0, rfl⟩
          · skip
            refine own_pre (A := (s₁.setTop (mkF m 74 #[.val (.int ((((((px ^^^ (-1 : Int32)) &&& (px - (1 : Int32))).toUInt32 >>> ((16 : Int32) &&& 31).toUInt32).toInt32).toUInt32 >>> ((4 : Int32) &&& 31).toUInt32).toInt32)), .val (.int (21 : Int32))] []))) ?_ ?_
            · intro t k
              refine XS.icmpYes X0.here hx rfl (pc0 := 64) (pc' := 74) rfl (hb hby d5_64) rfl (flt hc16).2.2.2 (by decide) (by decide) ?_
              exact k
            refine own_pre (A := (s₁.setTop (mkF m 79 #[.val (.int ((((((px ^^^ (-1 : Int32)) &&& (px - (1 : Int32))).toUInt32 >>> ((16 : Int32) &&& 31).toUInt32).toInt32).toUInt32 >>> ((4 : Int32) &&& 31).toUInt32).toInt32)), .val (.int (21 : Int32))] [(.int ((21 : Int32) + ((((((((px ^^^ (-1 : Int32)) &&& (px - (1 : Int32))).toUInt32 >>> ((16 : Int32) &&& 31).toUInt32).toInt32).toUInt32 >>> ((4 : Int32) &&& 31).toUInt32).toInt32).toUInt32 >>> ((1 : Int32) &&& 31).toUInt32).toInt32)))]))) ?_ ?_
            · intro t k
              show Steps p.tables e below (s₁.setTop (mkF m 74 #[.val (.int ((((((px ^^^ (-1 : Int32)) &&& (px - (1 : Int32))).toUInt32 >>> ((16 : Int32) &&& 31).toUInt32).toInt32).toUInt32 >>> ((4 : Int32) &&& 31).toUInt32).toInt32)), .val (.int (21 : Int32))] [])) _
              refine XS.iloadN X0.here hx rfl (hb hby d5_74) rfl ?_
              refine XS.iloadN X0.here hx rfl (hb hby d5_75) rfl ?_
              refine XS.iconst X0.here hx rfl (hb hby d5_76) ?_
              refine XS.iushr X0.here hx rfl (hb hby d5_77) rfl ?_
              refine XS.iadd X0.here hx rfl (hb hby d5_78) rfl ?_
              exact k
            have hz : own_ntz px = ((21 : Int32) + ((((((((px ^^^ (-1 : Int32)) &&& (px - (1 : Int32))).toUInt32 >>> ((16 : Int32) &&& 31).toUInt32).toInt32).toUInt32 >>> ((4 : Int32) &&& 31).toUInt32).toInt32).toUInt32 >>> ((1 : Int32) &&& 31).toUInt32).toInt32)) := by simp only [own_ntz, if_pos hc9, if_pos hc10, if_neg hc11, if_pos hc15, if_neg hc16]
            obtain ⟨fs, hr, hrun, hended, hW, hsame⟩ := X0.leave (hlocks := BodyLoose.notSynchronized Bd) (v := some (.int ((21 : Int32) + ((((((((px ^^^ (-1 : Int32)) &&& (px - (1 : Int32))).toUInt32 >>> ((16 : Int32) &&& 31).toUInt32).toInt32).toUInt32 >>> ((4 : Int32) &&& 31).toUInt32).toInt32).toUInt32 >>> ((1 : Int32) &&& 31).toUInt32).toInt32)))) (fun h => by rw [Bd.returns] at h; cases h)
            refine ⟨_, _, retOut X0 hx Bd.returns rfl (Or.inl ⟨rfl, Or.inl rfl, _, rfl⟩) (hb hby d5_79) hr, hrun, hended, _, _, rfl, ?_, ⟨_, rfl⟩, hW, hsame.mono (by decide) (by decide)⟩
            show own_Q5 px h0 n0 _ s₁.heap _
            rw [e0]
            exact ⟨by rw [hz], N0, rfl⟩
        · skip
          refine own_pre (A := (s₁.setTop (mkF m 62 #[.val (.int ((((px ^^^ (-1 : Int32)) &&& (px - (1 : Int32))).toUInt32 >>> ((16 : Int32) &&& 31).toUInt32).toInt32)), .val (.int (17 : Int32))] []))) ?_ ?_
          · intro t k
            refine XS.icmpYes X0.here hx rfl (pc0 := 52) (pc' := 62) rfl (hb hby d5_52) rfl (flt hc15).2.2.2 (by decide) (by decide) ?_
            exact k
          refine own_pre (A := (s₁.setTop (mkF m 64 #[.val (.int ((((px ^^^ (-1 : Int32)) &&& (px - (1 : Int32))).toUInt32 >>> ((16 : Int32) &&& 31).toUInt32).toInt32)), .val (.int (17 : Int32))] [(.int (4 : Int32)), (.int ((((px ^^^ (-1 : Int32)) &&& (px - (1 : Int32))).toUInt32 >>> ((16 : Int32) &&& 31).toUInt32).toInt32))]))) ?_ ?_
          · intro t k
            show Steps p.tables e below (s₁.setTop (mkF m 62 #[.val (.int ((((px ^^^ (-1 : Int32)) &&& (px - (1 : Int32))).toUInt32 >>> ((16 : Int32) &&& 31).toUInt32).toInt32)), .val (.int (17 : Int32))] [])) _
            refine XS.iloadN X0.here hx rfl (hb hby d5_62) rfl ?_
            refine XS.iconst X0.here hx rfl (hb hby d5_63) ?_
            exact k
          by_cases hc17 : (4 : Int32) < ((((px ^^^ (-1 : Int32)) &&& (px - (1 : Int32))).toUInt32 >>> ((16 : Int32) &&& 31).toUInt32).toInt32)
          · skip
            refine own_pre (A := (s₁.setTop (mkF m 67 #[.val (.int ((((px ^^^ (-1 : Int32)) &&& (px - (1 : Int32))).toUInt32 >>> ((16 : Int32) &&& 31).toUInt32).toInt32)), .val (.int (17 : Int32))] []))) ?_ ?_
            · intro t k
              refine XS.icmpNo X0.here hx rfl (hb hby d5_64) rfl (tlt hc17).2.2.2 ?_
              exact k
            refine own_pre (A := (s₁.setTop (mkF m 79 #[.val (.int ((((((px ^^^ (-1 : Int32)) &&& (px - (1 : Int32))).toUInt32 >>> ((16 : Int32) &&& 31).toUInt32).toInt32).toUInt32 >>> ((2 : Int32) &&& 31).toUInt32).toInt32)), .val (.int (19 : Int32))] [(.int ((19 : Int32) + ((((((((px ^^^ (-1 : Int32)) &&& (px - (1 : Int32))).toUInt32 >>> ((16 : Int32) &&& 31).toUInt32).toInt32).toUInt32 >>> ((2 : Int32) &&& 31).toUInt32).toInt32).toUInt32 >>> ((1 : Int32) &&& 31).toUInt32).toInt32)))]))) ?_ ?_
            · intro t k
              show Steps p.tables e below (s₁.setTop (mkF m 67 #[.val (.int ((((px ^^^ (-1 : Int32)) &&& (px - (1 : Int32))).toUInt32 >>> ((16 : Int32) &&& 31).toUInt32).toInt32)), .val (.int (17 : Int32))] [])) _
              refine XS.iinc X0.here hx rfl (hb hby d5_67) rfl (l' := #[.val (.int ((((px ^^^ (-1 : Int32)) &&& (px - (1 : Int32))).toUInt32 >>> ((16 : Int32) &&& 31).toUInt32).toInt32)), .val (.int ((17 : Int32) + (2 : Int32)))]) rfl ?_
              show Steps p.tables e below (s₁.setTop (mkF m 70 #[.val (.int ((((px ^^^ (-1 : Int32)) &&& (px - (1 : Int32))).toUInt32 >>> ((16 : Int32) &&& 31).toUInt32).toInt32)), .val (.int ((17 : Int32) + (2 : Int32)))] [])) _
              rw [show ((17 : Int32) + (2 : Int32)) = (19 : Int32) from by decide]
              show Steps p.tables e below (s₁.setTop (mkF m 70 #[.val (.int ((((px ^^^ (-1 : Int32)) &&& (px - (1 : Int32))).toUInt32 >>> ((16 : Int32) &&& 31).toUInt32).toInt32)), .val (.int (19 : Int32))] [])) _
              refine XS.iloadN X0.here hx rfl (hb hby d5_70) rfl ?_
              refine XS.iconst X0.here hx rfl (hb hby d5_71) ?_
              refine XS.iushr X0.here hx rfl (hb hby d5_72) rfl ?_
              show Steps p.tables e below (s₁.setTop (mkF m 73 #[.val (.int ((((px ^^^ (-1 : Int32)) &&& (px - (1 : Int32))).toUInt32 >>> ((16 : Int32) &&& 31).toUInt32).toInt32)), .val (.int (19 : Int32))] [(.int ((((((px ^^^ (-1 : Int32)) &&& (px - (1 : Int32))).toUInt32 >>> ((16 : Int32) &&& 31).toUInt32).toInt32).toUInt32 >>> ((2 : Int32) &&& 31).toUInt32).toInt32))])) _
              refine XS.istoreN X0.here hx rfl (hb hby d5_73) rfl (l' := #[.val (.int ((((((px ^^^ (-1 : Int32)) &&& (px - (1 : Int32))).toUInt32 >>> ((16 : Int32) &&& 31).toUInt32).toInt32).toUInt32 >>> ((2 : Int32) &&& 31).toUInt32).toInt32)), .val (.int (19 : Int32))]) rfl ?_
              refine XS.iloadN X0.here hx rfl (hb hby d5_74) rfl ?_
              refine XS.iloadN X0.here hx rfl (hb hby d5_75) rfl ?_
              refine XS.iconst X0.here hx rfl (hb hby d5_76) ?_
              refine XS.iushr X0.here hx rfl (hb hby d5_77) rfl ?_
              refine XS.iadd X0.here hx rfl (hb hby d5_78) rfl ?_
              exact k
            have hz : own_ntz px = ((19 : Int32) + ((((((((px ^^^ (-1 : Int32)) &&& (px - (1 : Int32))).toUInt32 >>> ((16 : Int32) &&& 31).toUInt32).toInt32).toUInt32 >>> ((2 : Int32) &&& 31).toUInt32).toInt32).toUInt32 >>> ((1 : Int32) &&& 31).toUInt32).toInt32)) := by simp only [own_ntz, if_pos hc9, if_pos hc10, if_neg hc11, if_neg hc15, if_pos hc17]
            obtain ⟨fs, hr, hrun, hended, hW, hsame⟩ := X0.leave (hlocks := BodyLoose.notSynchronized Bd) (v := some (.int ((19 : Int32) + ((((((((px ^^^ (-1 : Int32)) &&& (px - (1 : Int32))).toUInt32 >>> ((16 : Int32) &&& 31).toUInt32).toInt32).toUInt32 >>> ((2 : Int32) &&& 31).toUInt32).toInt32).toUInt32 >>> ((1 : Int32) &&& 31).toUInt32).toInt32)))) (fun h => by rw [Bd.returns] at h; cases h)
            refine ⟨_, _, retOut X0 hx Bd.returns rfl (Or.inl ⟨rfl, Or.inl rfl, _, rfl⟩) (hb hby d5_79) hr, hrun, hended, _, _, rfl, ?_, ⟨_, rfl⟩, hW, hsame.mono (by decide) (by decide)⟩
            show own_Q5 px h0 n0 _ s₁.heap _
            rw [e0]
            exact ⟨by rw [hz], N0, rfl⟩
          · skip
            refine own_pre (A := (s₁.setTop (mkF m 74 #[.val (.int ((((px ^^^ (-1 : Int32)) &&& (px - (1 : Int32))).toUInt32 >>> ((16 : Int32) &&& 31).toUInt32).toInt32)), .val (.int (17 : Int32))] []))) ?_ ?_
            · intro t k
              refine XS.icmpYes X0.here hx rfl (pc0 := 64) (pc' := 74) rfl (hb hby d5_64) rfl (flt hc17).2.2.2 (by decide) (by decide) ?_
              exact k
            refine own_pre (A := (s₁.setTop (mkF m 79 #[.val (.int ((((px ^^^ (-1 : Int32)) &&& (px - (1 : Int32))).toUInt32 >>> ((16 : Int32) &&& 31).toUInt32).toInt32)), .val (.int (17 : Int32))] [(.int ((17 : Int32) + ((((((px ^^^ (-1 : Int32)) &&& (px - (1 : Int32))).toUInt32 >>> ((16 : Int32) &&& 31).toUInt32).toInt32).toUInt32 >>> ((1 : Int32) &&& 31).toUInt32).toInt32)))]))) ?_ ?_
            · intro t k
              show Steps p.tables e below (s₁.setTop (mkF m 74 #[.val (.int ((((px ^^^ (-1 : Int32)) &&& (px - (1 : Int32))).toUInt32 >>> ((16 : Int32) &&& 31).toUInt32).toInt32)), .val (.int (17 : Int32))] [])) _
              refine XS.iloadN X0.here hx rfl (hb hby d5_74) rfl ?_
              refine XS.iloadN X0.here hx rfl (hb hby d5_75) rfl ?_
              refine XS.iconst X0.here hx rfl (hb hby d5_76) ?_
              refine XS.iushr X0.here hx rfl (hb hby d5_77) rfl ?_
              refine XS.iadd X0.here hx rfl (hb hby d5_78) rfl ?_
              exact k
            have hz : own_ntz px = ((17 : Int32) + ((((((px ^^^ (-1 : Int32)) &&& (px - (1 : Int32))).toUInt32 >>> ((16 : Int32) &&& 31).toUInt32).toInt32).toUInt32 >>> ((1 : Int32) &&& 31).toUInt32).toInt32)) := by simp only [own_ntz, if_pos hc9, if_pos hc10, if_neg hc11, if_neg hc15, if_neg hc17]
            obtain ⟨fs, hr, hrun, hended, hW, hsame⟩ := X0.leave (hlocks := BodyLoose.notSynchronized Bd) (v := some (.int ((17 : Int32) + ((((((px ^^^ (-1 : Int32)) &&& (px - (1 : Int32))).toUInt32 >>> ((16 : Int32) &&& 31).toUInt32).toInt32).toUInt32 >>> ((1 : Int32) &&& 31).toUInt32).toInt32)))) (fun h => by rw [Bd.returns] at h; cases h)
            refine ⟨_, _, retOut X0 hx Bd.returns rfl (Or.inl ⟨rfl, Or.inl rfl, _, rfl⟩) (hb hby d5_79) hr, hrun, hended, _, _, rfl, ?_, ⟨_, rfl⟩, hW, hsame.mono (by decide) (by decide)⟩
            show own_Q5 px h0 n0 _ s₁.heap _
            rw [e0]
            exact ⟨by rw [hz], N0, rfl⟩
    · skip
      refine own_pre (A := (s₁.setTop (mkF m 34 #[.val (.int ((px ^^^ (-1 : Int32)) &&& (px - (1 : Int32)))), .val (.int (1 : Int32))] []))) ?_ ?_
      · intro t k
        refine XS.icmpYes X0.here hx rfl (pc0 := 23) (pc' := 34) rfl (hb hby d5_23) rfl (flt hc10).2.2.2 (by decide) (by decide) ?_
        exact k
      refine own_pre (A := (s₁.setTop (mkF m 38 #[.val (.int ((px ^^^ (-1 : Int32)) &&& (px - (1 : Int32)))), .val (.int (1 : Int32))] [(.int (256 : Int32)), (.int ((px ^^^ (-1 : Int32)) &&& (px - (1 : Int32))))]))) ?_ ?_
      · intro t k
        show Steps p.tables e below (s₁.setTop (mkF m 34 #[.val (.int ((px ^^^ (-1 : Int32)) &&& (px - (1 : Int32)))), .val (.int (1 : Int32))] [])) _
        refine XS.iloadN X0.here hx rfl (hb hby d5_34) rfl ?_
        refine XS.sipush X0.here hx rfl (hb hby d5_35) ?_
        exact k
      by_cases hc18 : (256 : Int32) < ((px ^^^ (-1 : Int32)) &&& (px - (1 : Int32)))
      · skip
        refine own_pre (A := (s₁.setTop (mkF m 41 #[.val (.int ((px ^^^ (-1 : Int32)) &&& (px - (1 : Int32)))), .val (.int (1 : Int32))] []))) ?_ ?_
        · intro t k
          refine XS.icmpNo X0.here hx rfl (hb hby d5_38) rfl (tlt hc18).2.2.2 ?_
          exact k
        refine own_pre (A := (s₁.setTop (mkF m 52 #[.val (.int ((((px ^^^ (-1 : Int32)) &&& (px - (1 : Int32))).toUInt32 >>> ((8 : Int32) &&& 31).toUInt32).toInt32)), .val (.int (9 : Int32))] [(.int (16 : Int32)), (.int ((((px ^^^ (-1 : Int32)) &&& (px - (1 : Int32))).toUInt32 >>> ((8 : Int32) &&& 31).toUInt32).toInt32))]))) ?_ ?_
        · intro t k
          show Steps p.tables e below (s₁.setTop (mkF m 41 #[.val (.int ((px ^^^ (-1 : Int32)) &&& (px - (1 : Int32)))), .val (.int (1 : Int32))] [])) _
          refine XS.iinc X0.here hx rfl (hb hby d5_41) rfl (l' := #[.val (.int ((px ^^^ (-1 : Int32)) &&& (px - (1 : Int32)))), .val (.int ((1 : Int32) + (8 : Int32)))]) rfl ?_
          show Steps p.tables e below (s₁.setTop (mkF m 44 #[.val (.int ((px ^^^ (-1 : Int32)) &&& (px - (1 : Int32)))), .val (.int ((1 : Int32) + (8 : Int32)))] [])) _
          rw [show ((1 : Int32) + (8 : Int32)) = (9 : Int32) from by decide]
          show Steps p.tables e below (s₁.setTop (mkF m 44 #[.val (.int ((px ^^^ (-1 : Int32)) &&& (px - (1 : Int32)))), .val (.int (9 : Int32))] [])) _
          refine XS.iloadN X0.here hx rfl (hb hby d5_44) rfl ?_
          refine XS.bipush X0.here hx rfl (hb hby d5_45) ?_
          refine XS.iushr X0.here hx rfl (hb hby d5_47) rfl ?_
          show Steps p.tables e below (s₁.setTop (mkF m 48 #[.val (.int ((px ^^^ (-1 : Int32)) &&& (px - (1 : Int32)))), .val (.int (9 : Int32))] [(.int ((((px ^^^ (-1 : Int32)) &&& (px - (1 : Int32))).toUInt32 >>> ((8 : Int32) &&& 31).toUInt32).toInt32))])) _
          refine XS.istoreN X0.here hx rfl (hb hby d5_48) rfl (l' := #[.val (.int ((((px ^^^ (-1 : Int32)) &&& (px - (1 : Int32))).toUInt32 >>> ((8 : Int32) &&& 31).toUInt32).toInt32)), .val (.int (9 : Int32))]) rfl ?_
          refine XS.iloadN X0.here hx rfl (hb hby d5_49) rfl ?_
          refine XS.bipush X0.here hx rfl (hb hby d5_50) ?_
          exact k
        by_cases hc19 : (16 : Int32) < ((((px ^^^ (-1 : Int32)) &&& (px - (1 : Int32))).toUInt32 >>> ((8 : Int32) &&& 31).toUInt32).toInt32)
        · skip
          refine own_pre (A := (s₁.setTop (mkF m 55 #[.val (.int ((((px ^^^ (-1 : Int32)) &&& (px - (1 : Int32))).toUInt32 >>> ((8 : Int32) &&& 31).toUInt32).toInt32)), .val (.int (9 : Int32))] []))) ?_ ?_
          · intro t k
            refine XS.icmpNo X0.here hx rfl (hb hby d5_52) rfl (tlt hc19).2.2.2 ?_
            exact k
          refine own_pre (A := (s₁.setTop (mkF m 64 #[.val (.int ((((((px ^^^ (-1 : Int32)) &&& (px - (1 : Int32))).toUInt32 >>> ((8 : Int32) &&& 31).toUInt32).toInt32).toUInt32 >>> ((4 : Int32) &&& 31).toUInt32).toInt32)), .val (.int (13 : Int32))] [(.int (4 : Int32)), (.int ((((((px ^^^ (-1 : Int32)) &&& (px - (1 : Int32))).toUInt32 >>> ((8 : Int32) &&& 31).toUInt32).toInt32).toUInt32 >>> ((4 : Int32) &&& 31).toUInt32).toInt32))]))) ?_ ?_
          · intro t k
            show Steps p.tables e below (s₁.setTop (mkF m 55 #[.val (.int ((((px ^^^ (-1 : Int32)) &&& (px - (1 : Int32))).toUInt32 >>> ((8 : Int32) &&& 31).toUInt32).toInt32)), .val (.int (9 : Int32))] [])) _
            refine XS.iinc X0.here hx rfl (hb hby d5_55) rfl (l' := #[.val (.int ((((px ^^^ (-1 : Int32)) &&& (px - (1 : Int32))).toUInt32 >>> ((8 : Int32) &&& 31).toUInt32).toInt32)), .val (.int ((9 : Int32) + (4 : Int32)))]) rfl ?_
            show Steps p.tables e below (s₁.setTop (mkF m 58 #[.val (.int ((((px ^^^ (-1 : Int32)) &&& (px - (1 : Int32))).toUInt32 >>> ((8 : Int32) &&& 31).toUInt32).toInt32)), .val (.int ((9 : Int32) + (4 : Int32)))] [])) _
            rw [show ((9 : Int32) + (4 : Int32)) = (13 : Int32) from by decide]
            show Steps p.tables e below (s₁.setTop (mkF m 58 #[.val (.int ((((px ^^^ (-1 : Int32)) &&& (px - (1 : Int32))).toUInt32 >>> ((8 : Int32) &&& 31).toUInt32).toInt32)), .val (.int (13 : Int32))] [])) _
            refine XS.iloadN X0.here hx rfl (hb hby d5_58) rfl ?_
            refine XS.iconst X0.here hx rfl (hb hby d5_59) ?_
            refine XS.iushr X0.here hx rfl (hb hby d5_60) rfl ?_
            show Steps p.tables e below (s₁.setTop (mkF m 61 #[.val (.int ((((px ^^^ (-1 : Int32)) &&& (px - (1 : Int32))).toUInt32 >>> ((8 : Int32) &&& 31).toUInt32).toInt32)), .val (.int (13 : Int32))] [(.int ((((((px ^^^ (-1 : Int32)) &&& (px - (1 : Int32))).toUInt32 >>> ((8 : Int32) &&& 31).toUInt32).toInt32).toUInt32 >>> ((4 : Int32) &&& 31).toUInt32).toInt32))])) _
            refine XS.istoreN X0.here hx rfl (hb hby d5_61) rfl (l' := #[.val (.int ((((((px ^^^ (-1 : Int32)) &&& (px - (1 : Int32))).toUInt32 >>> ((8 : Int32) &&& 31).toUInt32).toInt32).toUInt32 >>> ((4 : Int32) &&& 31).toUInt32).toInt32)), .val (.int (13 : Int32))]) rfl ?_
            refine XS.iloadN X0.here hx rfl (hb hby d5_62) rfl ?_
            refine XS.iconst X0.here hx rfl (hb hby d5_63) ?_
            exact k
          by_cases hc20 : (4 : Int32) < ((((((px ^^^ (-1 : Int32)) &&& (px - (1 : Int32))).toUInt32 >>> ((8 : Int32) &&& 31).toUInt32).toInt32).toUInt32 >>> ((4 : Int32) &&& 31).toUInt32).toInt32)
          · skip
            refine own_pre (A := (s₁.setTop (mkF m 67 #[.val (.int ((((((px ^^^ (-1 : Int32)) &&& (px - (1 : Int32))).toUInt32 >>> ((8 : Int32) &&& 31).toUInt32).toInt32).toUInt32 >>> ((4 : Int32) &&& 31).toUInt32).toInt32)), .val (.int (13 : Int32))] []))) ?_ ?_
            · intro t k
              refine XS.icmpNo X0.here hx rfl (hb hby d5_64) rfl (tlt hc20).2.2.2 ?_
              exact k
            refine own_pre (A := (s₁.setTop (mkF m 79 #[.val (.int ((((((((px ^^^ (-1 : Int32)) &&& (px - (1 : Int32))).toUInt32 >>> ((8 : Int32) &&& 31).toUInt32).toInt32).toUInt32 >>> ((4 : Int32) &&& 31).toUInt32).toInt32).toUInt32 >>> ((2 : Int32) &&& 31).toUInt32).toInt32)), .val (.int (15 : Int32))] [(.int ((15 : Int32) + ((((((((((px ^^^ (-1 : Int32)) &&& (px - (1 : Int32))).toUInt32 >>> ((8 : Int32) &&& 31).toUInt32).toInt32).toUInt32 >>> ((4 : Int32) &&& 31).toUInt32).toInt32).toUInt32 >>> ((2 : Int32) &&& 31).toUInt32).toInt32).toUInt32 >>> ((1 : Int32) &&& 31).toUInt32).toInt32)))]))) ?_ ?_
            · intro t k
              show Steps p.tables e below (s₁.setTop (mkF m 67 #[.val (.int ((((((px ^^^ (-1 : Int32)) &&& (px - (1 : Int32))).toUInt32 >>> ((8 : Int32) &&& 31).toUInt32).toInt32).toUInt32 >>> ((4 : Int32) &&& 31).toUInt32).toInt32)), .val (.int (13 : Int32))] [])) _
              refine XS.iinc X0.here hx rfl (hb hby d5_67) rfl (l' := #[.val (.int ((((((px ^^^ (-1 : Int32)) &&& (px - (1 : Int32))).toUInt32 >>> ((8 : Int32) &&& 31).toUInt32).toInt32).toUInt32 >>> ((4 : Int32) &&& 31).toUInt32).toInt32)), .val (.int ((13 : Int32) + (2 : Int32)))]) rfl ?_
              show Steps p.tables e below (s₁.setTop (mkF m 70 #[.val (.int ((((((px ^^^ (-1 : Int32)) &&& (px - (1 : Int32))).toUInt32 >>> ((8 : Int32) &&& 31).toUInt32).toInt32).toUInt32 >>> ((4 : Int32) &&& 31).toUInt32).toInt32)), .val (.int ((13 : Int32) + (2 : Int32)))] [])) _
              rw [show ((13 : Int32) + (2 : Int32)) = (15 : Int32) from by decide]
              show Steps p.tables e below (s₁.setTop (mkF m 70 #[.val (.int ((((((px ^^^ (-1 : Int32)) &&& (px - (1 : Int32))).toUInt32 >>> ((8 : Int32) &&& 31).toUInt32).toInt32).toUInt32 >>> ((4 : Int32) &&& 31).toUInt32).toInt32)), .val (.int (15 : Int32))] [])) _
              refine XS.iloadN X0.here hx rfl (hb hby d5_70) rfl ?_
              refine XS.iconst X0.here hx rfl (hb hby d5_71) ?_
              refine XS.iushr X0.here hx rfl (hb hby d5_72) rfl ?_
              show Steps p.tables e below (s₁.setTop (mkF m 73 #[.val (.int ((((((px ^^^ (-1 : Int32)) &&& (px - (1 : Int32))).toUInt32 >>> ((8 : Int32) &&& 31).toUInt32).toInt32).toUInt32 >>> ((4 : Int32) &&& 31).toUInt32).toInt32)), .val (.int (15 : Int32))] [(.int ((((((((px ^^^ (-1 : Int32)) &&& (px - (1 : Int32))).toUInt32 >>> ((8 : Int32) &&& 31).toUInt32).toInt32).toUInt32 >>> ((4 : Int32) &&& 31).toUInt32).toInt32).toUInt32 >>> ((2 : Int32) &&& 31).toUInt32).toInt32))])) _
              refine XS.istoreN X0.here hx rfl (hb hby d5_73) rfl (l' := #[.val (.int ((((((((px ^^^ (-1 : Int32)) &&& (px - (1 : Int32))).toUInt32 >>> ((8 : Int32) &&& 31).toUInt32).toInt32).toUInt32 >>> ((4 : Int32) &&& 31).toUInt32).toInt32).toUInt32 >>> ((2 : Int32) &&& 31).toUInt32).toInt32)), .val (.int (15 : Int32))]) rfl ?_
              refine XS.iloadN X0.here hx rfl (hb hby d5_74) rfl ?_
              refine XS.iloadN X0.here hx rfl (hb hby d5_75) rfl ?_
              refine XS.iconst X0.here hx rfl (hb hby d5_76) ?_
              refine XS.iushr X0.here hx rfl (hb hby d5_77) rfl ?_
              refine XS.iadd X0.here hx rfl (hb hby d5_78) rfl ?_
              exact k
            have hz : own_ntz px = ((15 : Int32) + ((((((((((px ^^^ (-1 : Int32)) &&& (px - (1 : Int32))).toUInt32 >>> ((8 : Int32) &&& 31).toUInt32).toInt32).toUInt32 >>> ((4 : Int32) &&& 31).toUInt32).toInt32).toUInt32 >>> ((2 : Int32) &&& 31).toUInt32).toInt32).toUInt32 >>> ((1 : Int32) &&& 31).toUInt32).toInt32)) := by simp only [own_ntz, if_pos hc9, if_neg hc10, if_pos hc18, if_pos hc19, if_pos hc20]
            obtain ⟨fs, hr, hrun, hended, hW, hsame⟩ := X0.leave (hlocks := BodyLoose.notSynchronized Bd) (v := some (.int ((15 : Int32) + ((((((((((px ^^^ (-1 : Int32)) &&& (px - (1 : Int32))).toUInt32 >>> ((8 : Int32) &&& 31).toUInt32).toInt32).toUInt32 >>> ((4 : Int32) &&& 31).toUInt32).toInt32).toUInt32 >>> ((2 : Int32) &&& 31).toUInt32).toInt32).toUInt32 >>> ((1 : Int32) &&& 31).toUInt32).toInt32)))) (fun h => by rw [Bd.returns] at h; cases h)
            refine ⟨_, _, retOut X0 hx Bd.returns rfl (Or.inl ⟨rfl, Or.inl rfl, _, rfl⟩) (hb hby d5_79) hr, hrun, hended, _, _, rfl, ?_, ⟨_, rfl⟩, hW, hsame.mono (by decide) (by decide)⟩
            show own_Q5 px h0 n0 _ s₁.heap _
            rw [e0]
            exact ⟨by rw [hz], N0, rfl⟩
          · skip
            refine own_pre (A := (s₁.setTop (mkF m 74 #[.val (.int ((((((px ^^^ (-1 : Int32)) &&& (px - (1 : Int32))).toUInt32 >>> ((8 : Int32) &&& 31).toUInt32).toInt32).toUInt32 >>> ((4 : Int32) &&& 31).toUInt32).toInt32)), .val (.int (13 : Int32))] []))) ?_ ?_
            · intro t k
              refine XS.icmpYes X0.here hx rfl (pc0 := 64) (pc' := 74) rfl (hb hby d5_64) rfl (flt hc20).2.2.2 (by decide) (by decide) ?_
              exact k
            refine own_pre (A := (s₁.setTop (mkF m 79 #[.val (.int ((((((px ^^^ (-1 : Int32)) &&& (px - (1 : Int32))).toUInt32 >>> ((8 : Int32) &&& 31).toUInt32).toInt32).toUInt32 >>> ((4 : Int32) &&& 31).toUInt32).toInt32)), .val (.int (13 : Int32))] [(.int ((13 : Int32) + ((((((((px ^^^ (-1 : Int32)) &&& (px - (1 : Int32))).toUInt32 >>> ((8 : Int32) &&& 31).toUInt32).toInt32).toUInt32 >>> ((4 : Int32) &&& 31).toUInt32).toInt32).toUInt32 >>> ((1 : Int32) &&& 31).toUInt32).toInt32)))]))) ?_ ?_
            · intro t k
              show Steps p.tables e below (s₁.setTop (mkF m 74 #[.val (.int ((((((px ^^^ (-1 : Int32)) &&& (px - (1 : Int32))).toUInt32 >>> ((8 : Int32) &&& 31).toUInt32).toInt32).toUInt32 >>> ((4 : Int32) &&& 31).toUInt32).toInt32)), .val (.int (13 : Int32))] [])) _
              refine XS.iloadN X0.here hx rfl (hb hby d5_74) rfl ?_
              refine XS.iloadN X0.here hx rfl (hb hby d5_75) rfl ?_
              refine XS.iconst X0.here hx rfl (hb hby d5_76) ?_
              refine XS.iushr X0.here hx rfl (hb hby d5_77) rfl ?_
              refine XS.iadd X0.here hx rfl (hb hby d5_78) rfl ?_
              exact k
            have hz : own_ntz px = ((13 : Int32) + ((((((((px ^^^ (-1 : Int32)) &&& (px - (1 : Int32))).toUInt32 >>> ((8 : Int32) &&& 31).toUInt32).toInt32).toUInt32 >>> ((4 : Int32) &&& 31).toUInt32).toInt32).toUInt32 >>> ((1 : Int32) &&& 31).toUInt32).toInt32)) := by simp only [own_ntz, if_pos hc9, if_neg hc10, if_pos hc18, if_pos hc19, if_neg hc20]
            obtain ⟨fs, hr, hrun, hended, hW, hsame⟩ := X0.leave (hlocks := BodyLoose.notSynchronized Bd) (v := some (.int ((13 : Int32) + ((((((((px ^^^ (-1 : Int32)) &&& (px - (1 : Int32))).toUInt32 >>> ((8 : Int32) &&& 31).toUInt32).toInt32).toUInt32 >>> ((4 : Int32) &&& 31).toUInt32).toInt32).toUInt32 >>> ((1 : Int32) &&& 31).toUInt32).toInt32)))) (fun h => by rw [Bd.returns] at h; cases h)
            refine ⟨_, _, retOut X0 hx Bd.returns rfl (Or.inl ⟨rfl, Or.inl rfl, _, rfl⟩) (hb hby d5_79) hr, hrun, hended, _, _, rfl, ?_, ⟨_, rfl⟩, hW, hsame.mono (by decide) (by decide)⟩
            show own_Q5 px h0 n0 _ s₁.heap _
            rw [e0]
            exact ⟨by rw [hz], N0, rfl⟩
        · skip
          refine own_pre (A := (s₁.setTop (mkF m 62 #[.val (.int ((((px ^^^ (-1 : Int32)) &&& (px - (1 : Int32))).toUInt32 >>> ((8 : Int32) &&& 31).toUInt32).toInt32)), .val (.int (9 : Int32))] []))) ?_ ?_
          · intro t k
            refine XS.icmpYes X0.here hx rfl (pc0 := 52) (pc' := 62) rfl (hb hby d5_52) rfl (flt hc19).2.2.2 (by decide) (by decide) ?_
            exact k
          refine own_pre (A := (s₁.setTop (mkF m 64 #[.val (.int ((((px ^^^ (-1 : Int32)) &&& (px - (1 : Int32))).toUInt32 >>> ((8 : Int32) &&& 31).toUInt32).toInt32)), .val (.int (9 : Int32))] [(.int (4 : Int32)), (.int ((((px ^^^ (-1 : Int32)) &&& (px - (1 : Int32))).toUInt32 >>> ((8 : Int32) &&& 31).toUInt32).toInt32))]))) ?_ ?_
          · intro t k
            show Steps p.tables e below (s₁.setTop (mkF m 62 #[.val (.int ((((px ^^^ (-1 : Int32)) &&& (px - (1 : Int32))).toUInt32 >>> ((8 : Int32) &&& 31).toUInt32).toInt32)), .val (.int (9 : Int32))] [])) _
            refine XS.iloadN X0.here hx rfl (hb hby d5_62) rfl ?_
            refine XS.iconst X0.here hx rfl (hb hby d5_63) ?_
            exact k
          by_cases hc21 : (4 : Int32) < ((((px ^^^ (-1 : Int32)) &&& (px - (1 : Int32))).toUInt32 >>> ((8 : Int32) &&& 31).toUInt32).toInt32)
          · skip
            refine own_pre (A := (s₁.setTop (mkF m 67 #[.val (.int ((((px ^^^ (-1 : Int32)) &&& (px - (1 : Int32))).toUInt32 >>> ((8 : Int32) &&& 31).toUInt32).toInt32)), .val (.int (9 : Int32))] []))) ?_ ?_
            · intro t k
              refine XS.icmpNo X0.here hx rfl (hb hby d5_64) rfl (tlt hc21).2.2.2 ?_
              exact k
            refine own_pre (A := (s₁.setTop (mkF m 79 #[.val (.int ((((((px ^^^ (-1 : Int32)) &&& (px - (1 : Int32))).toUInt32 >>> ((8 : Int32) &&& 31).toUInt32).toInt32).toUInt32 >>> ((2 : Int32) &&& 31).toUInt32).toInt32)), .val (.int (11 : Int32))] [(.int ((11 : Int32) + ((((((((px ^^^ (-1 : Int32)) &&& (px - (1 : Int32))).toUInt32 >>> ((8 : Int32) &&& 31).toUInt32).toInt32).toUInt32 >>> ((2 : Int32) &&& 31).toUInt32).toInt32).toUInt32 >>> ((1 : Int32) &&& 31).toUInt32).toInt32)))]))) ?_ ?_
            · intro t k
              show Steps p.tables e below (s₁.setTop (mkF m 67 #[.val (.int ((((px ^^^ (-1 : Int32)) &&& (px - (1 : Int32))).toUInt32 >>> ((8 : Int32) &&& 31).toUInt32).toInt32)), .val (.int (9 : Int32))] [])) _
              refine XS.iinc X0.here hx rfl (hb hby d5_67) rfl (l' := #[.val (.int ((((px ^^^ (-1 : Int32)) &&& (px - (1 : Int32))).toUInt32 >>> ((8 : Int32) &&& 31).toUInt32).toInt32)), .val (.int ((9 : Int32) + (2 : Int32)))]) rfl ?_
              show Steps p.tables e below (s₁.setTop (mkF m 70 #[.val (.int ((((px ^^^ (-1 : Int32)) &&& (px - (1 : Int32))).toUInt32 >>> ((8 : Int32) &&& 31).toUInt32).toInt32)), .val (.int ((9 : Int32) + (2 : Int32)))] [])) _
              rw [show ((9 : Int32) + (2 : Int32)) = (11 : Int32) from by decide]
              show Steps p.tables e below (s₁.setTop (mkF m 70 #[.val (.int ((((px ^^^ (-1 : Int32)) &&& (px - (1 : Int32))).toUInt32 >>> ((8 : Int32) &&& 31).toUInt32).toInt32)), .val (.int (11 : Int32))] [])) _
              refine XS.iloadN X0.here hx rfl (hb hby d5_70) rfl ?_
              refine XS.iconst X0.here hx rfl (hb hby d5_71) ?_
              refine XS.iushr X0.here hx rfl (hb hby d5_72) rfl ?_
              show Steps p.tables e below (s₁.setTop (mkF m 73 #[.val (.int ((((px ^^^ (-1 : Int32)) &&& (px - (1 : Int32))).toUInt32 >>> ((8 : Int32) &&& 31).toUInt32).toInt32)), .val (.int (11 : Int32))] [(.int ((((((px ^^^ (-1 : Int32)) &&& (px - (1 : Int32))).toUInt32 >>> ((8 : Int32) &&& 31).toUInt32).toInt32).toUInt32 >>> ((2 : Int32) &&& 31).toUInt32).toInt32))])) _
              refine XS.istoreN X0.here hx rfl (hb hby d5_73) rfl (l' := #[.val (.int ((((((px ^^^ (-1 : Int32)) &&& (px - (1 : Int32))).toUInt32 >>> ((8 : Int32) &&& 31).toUInt32).toInt32).toUInt32 >>> ((2 : Int32) &&& 31).toUInt32).toInt32)), .val (.int (11 : Int32))]) rfl ?_
              refine XS.iloadN X0.here hx rfl (hb hby d5_74) rfl ?_
              refine XS.iloadN X0.here hx rfl (hb hby d5_75) rfl ?_
              refine XS.iconst X0.here hx rfl (hb hby d5_76) ?_
              refine XS.iushr X0.here hx rfl (hb hby d5_77) rfl ?_
              refine XS.iadd X0.here hx rfl (hb hby d5_78) rfl ?_
              exact k
            have hz : own_ntz px = ((11 : Int32) + ((((((((px ^^^ (-1 : Int32)) &&& (px - (1 : Int32))).toUInt32 >>> ((8 : Int32) &&& 31).toUInt32).toInt32).toUInt32 >>> ((2 : Int32) &&& 31).toUInt32).toInt32).toUInt32 >>> ((1 : Int32) &&& 31).toUInt32).toInt32)) := by simp only [own_ntz, if_pos hc9, if_neg hc10, if_pos hc18, if_neg hc19, if_pos hc21]
            obtain ⟨fs, hr, hrun, hended, hW, hsame⟩ := X0.leave (hlocks := BodyLoose.notSynchronized Bd) (v := some (.int ((11 : Int32) + ((((((((px ^^^ (-1 : Int32)) &&& (px - (1 : Int32))).toUInt32 >>> ((8 : Int32) &&& 31).toUInt32).toInt32).toUInt32 >>> ((2 : Int32) &&& 31).toUInt32).toInt32).toUInt32 >>> ((1 : Int32) &&& 31).toUInt32).toInt32)))) (fun h => by rw [Bd.returns] at h; cases h)
            refine ⟨_, _, retOut X0 hx Bd.returns rfl (Or.inl ⟨rfl, Or.inl rfl, _, rfl⟩) (hb hby d5_79) hr, hrun, hended, _, _, rfl, ?_, ⟨_, rfl⟩, hW, hsame.mono (by decide) (by decide)⟩
            show own_Q5 px h0 n0 _ s₁.heap _
            rw [e0]
            exact ⟨by rw [hz], N0, rfl⟩
          · skip
            refine own_pre (A := (s₁.setTop (mkF m 74 #[.val (.int ((((px ^^^ (-1 : Int32)) &&& (px - (1 : Int32))).toUInt32 >>> ((8 : Int32) &&& 31).toUInt32).toInt32)), .val (.int (9 : Int32))] []))) ?_ ?_
            · intro t k
              refine XS.icmpYes X0.here hx rfl (pc0 := 64) (pc' := 74) rfl (hb hby d5_64) rfl (flt hc21).2.2.2 (by decide) (by decide) ?_
              exact k
            refine own_pre (A := (s₁.setTop (mkF m 79 #[.val (.int ((((px ^^^ (-1 : Int32)) &&& (px - (1 : Int32))).toUInt32 >>> ((8 : Int32) &&& 31).toUInt32).toInt32)), .val (.int (9 : Int32))] [(.int ((9 : Int32) + ((((((px ^^^ (-1 : Int32)) &&& (px - (1 : Int32))).toUInt32 >>> ((8 : Int32) &&& 31).toUInt32).toInt32).toUInt32 >>> ((1 : Int32) &&& 31).toUInt32).toInt32)))]))) ?_ ?_
            · intro t k
              show Steps p.tables e below (s₁.setTop (mkF m 74 #[.val (.int ((((px ^^^ (-1 : Int32)) &&& (px - (1 : Int32))).toUInt32 >>> ((8 : Int32) &&& 31).toUInt32).toInt32)), .val (.int (9 : Int32))] [])) _
              refine XS.iloadN X0.here hx rfl (hb hby d5_74) rfl ?_
              refine XS.iloadN X0.here hx rfl (hb hby d5_75) rfl ?_
              refine XS.iconst X0.here hx rfl (hb hby d5_76) ?_
              refine XS.iushr X0.here hx rfl (hb hby d5_77) rfl ?_
              refine XS.iadd X0.here hx rfl (hb hby d5_78) rfl ?_
              exact k
            have hz : own_ntz px = ((9 : Int32) + ((((((px ^^^ (-1 : Int32)) &&& (px - (1 : Int32))).toUInt32 >>> ((8 : Int32) &&& 31).toUInt32).toInt32).toUInt32 >>> ((1 : Int32) &&& 31).toUInt32).toInt32)) := by simp only [own_ntz, if_pos hc9, if_neg hc10, if_pos hc18, if_neg hc19, if_neg hc21]
            obtain ⟨fs, hr, hrun, hended, hW, hsame⟩ := X0.leave (hlocks := BodyLoose.notSynchronized Bd) (v := some (.int ((9 : Int32) + ((((((px ^^^ (-1 : Int32)) &&& (px - (1 : Int32))).toUInt32 >>> ((8 : Int32) &&& 31).toUInt32).toInt32).toUInt32 >>> ((1 : Int32) &&& 31).toUInt32).toInt32)))) (fun h => by rw [Bd.returns] at h; cases h)
            refine ⟨_, _, retOut X0 hx Bd.returns rfl (Or.inl ⟨rfl, Or.inl rfl, _, rfl⟩) (hb hby d5_79) hr, hrun, hended, _, _, rfl, ?_, ⟨_, rfl⟩, hW, hsame.mono (by decide) (by decide)⟩
            show own_Q5 px h0 n0 _ s₁.heap _
            rw [e0]
            exact ⟨by rw [hz], N0, rfl⟩
      · skip
        refine own_pre (A := (s₁.setTop (mkF m 49 #[.val (.int ((px ^^^ (-1 : Int32)) &&& (px - (1 : Int32)))), .val (.int (1 : Int32))] []))) ?_ ?_
        · intro t k
          refine XS.icmpYes X0.here hx rfl (pc0 := 38) (pc' := 49) rfl (hb hby d5_38) rfl (flt hc18).2.2.2 (by decide) (by decide) ?_
          exact k
        refine own_pre (A := (s₁.setTop (mkF m 52 #[.val (.int ((px ^^^ (-1 : Int32)) &&& (px - (1 : Int32)))), .val (.int (1 : Int32))] [(.int (16 : Int32)), (.int ((px ^^^ (-1 : Int32)) &&& (px - (1 : Int32))))]))) ?_ ?_
        · intro t k
          show Steps p.tables e below (s₁.setTop (mkF m 49 #[.val (.int ((px ^^^ (-1 : Int32)) &&& (px - (1 : Int32)))), .val (.int (1 : Int32))] [])) _
          refine XS.iloadN X0.here hx rfl (hb hby d5_49) rfl ?_
          refine XS.bipush X0.here hx rfl (hb hby d5_50) ?_
          exact k
        by_cases hc22 : (16 : Int32) < ((px ^^^ (-1 : Int32)) &&& (px - (1 : Int32)))
        · skip
          refine own_pre (A := (s₁.setTop (mkF m 55 #[.val (.int ((px ^^^ (-1 : Int32)) &&& (px - (1 : Int32)))), .val (.int (1 : Int32))] []))) ?_ ?_
          · intro t k
            refine XS.icmpNo X0.here hx rfl (hb hby d5_52) rfl (tlt hc22).2.2.2 ?_
            exact k
          refine own_pre (A := (s₁.setTop (mkF m 64 #[.val (.int ((((px ^^^ (-1 : Int32)) &&& (px - (1 : Int32))).toUInt32 >>> ((4 : Int32) &&& 31).toUInt32).toInt32)), .val (.int (5 : Int32))] [(.int (4 : Int32)), (.int ((((px ^^^ (-1 : Int32)) &&& (px - (1 : Int32))).toUInt32 >>> ((4 : Int32) &&& 31).toUInt32).toInt32))]))) ?_ ?_
          · intro t k
            show Steps p.tables e below (s₁.setTop (mkF m 55 #[.val (.int ((px ^^^ (-1 : Int32)) &&& (px - (1 : Int32)))), .val (.int (1 : Int32))] [])) _
            refine XS.iinc X0.here hx rfl (hb hby d5_55) rfl (l' := #[.val (.int ((px ^^^ (-1 : Int32)) &&& (px - (1 : Int32)))), .val (.int ((1 : Int32) + (4 : Int32)))]) rfl ?_
            show Steps p.tables e below (s₁.setTop (mkF m 58 #[.val (.int ((px ^^^ (-1 : Int32)) &&& (px - (1 : Int32)))), .val (.int ((1 : Int32) + (4 : Int32)))] [])) _
            rw [show ((1 : Int32) + (4 : Int32)) = (5 : Int32) from by decide]
            show Steps p.tables e below (s₁.setTop (mkF m 58 #[.val (.int ((px ^^^ (-1 : Int32)) &&& (px - (1 : Int32)))), .val (.int (5 : Int32))] [])) _
            refine XS.iloadN X0.here hx rfl (hb hby d5_58) rfl ?_
            refine XS.iconst X0.here hx rfl (hb hby d5_59) ?_
            refine XS.iushr X0.here hx rfl (hb hby d5_60) rfl ?_
            show Steps p.tables e below (s₁.setTop (mkF m 61 #[.val (.int ((px ^^^ (-1 : Int32)) &&& (px - (1 : Int32)))), .val (.int (5 : Int32))] [(.int ((((px ^^^ (-1 : Int32)) &&& (px - (1 : Int32))).toUInt32 >>> ((4 : Int32) &&& 31).toUInt32).toInt32))])) _
            refine XS.istoreN X0.here hx rfl (hb hby d5_61) rfl (l' := #[.val (.int ((((px ^^^ (-1 : Int32)) &&& (px - (1 : Int32))).toUInt32 >>> ((4 : Int32) &&& 31).toUInt32).toInt32)), .val (.int (5 : Int32))]) rfl ?_
            refine XS.iloadN X0.here hx rfl (hb hby d5_62) rfl ?_
            refine XS.iconst X0.here hx rfl (hb hby d5_63) ?_
            exact k
          by_cases hc23 : (4 : Int32) < ((((px ^^^ (-1 : Int32)) &&& (px - (1 : Int32))).toUInt32 >>> ((4 : Int32) &&& 31).toUInt32).toInt32)
          · skip
            refine own_pre (A := (s₁.setTop (mkF m 67 #[.val (.int ((((px ^^^ (-1 : Int32)) &&& (px - (1 : Int32))).toUInt32 >>> ((4 : Int32) &&& 31).toUInt32).toInt32)), .val (.int (5 : Int32))] []))) ?_ ?_
            · intro t k
              refine XS.icmpNo X0.here hx rfl (hb hby d5_64) rfl (tlt hc23).2.2.2 ?_
              exact k
            refine own_pre (A := (s₁.setTop (mkF m 79 #[.val (.int ((((((px ^^^ (-1 : Int32)) &&& (px - (1 : Int32))).toUInt32 >>> ((4 : Int32) &&& 31).toUInt32).toInt32).toUInt32 >>> ((2 : Int32) &&& 31).toUInt32).toInt32)), .val (.int (7 : Int32))] [(.int ((7 : Int32) + ((((((((px ^^^ (-1 : Int32)) &&& (px - (1 : Int32))).toUInt32 >>> ((4 : Int32) &&& 31).toUInt32).toInt32).toUInt32 >>> ((2 : Int32) &&& 31).toUInt32).toInt32).toUInt32 >>> ((1 : Int32) &&& 31).toUInt32).toInt32)))]))) ?_ ?_
            · intro t k
              show Steps p.tables e below (s₁.setTop (mkF m 67 #[.val (.int ((((px ^^^ (-1 : Int32)) &&& (px - (1 : Int32))).toUInt32 >>> ((4 : Int32) &&& 31).toUInt32).toInt32)), .val (.int (5 : Int32))] [])) _
              refine XS.iinc X0.here hx rfl (hb hby d5_67) rfl (l' := #[.val (.int ((((px ^^^ (-1 : Int32)) &&& (px - (1 : Int32))).toUInt32 >>> ((4 : Int32) &&& 31).toUInt32).toInt32)), .val (.int ((5 : Int32) + (2 : Int32)))]) rfl ?_
              show Steps p.tables e below (s₁.setTop (mkF m 70 #[.val (.int ((((px ^^^ (-1 : Int32)) &&& (px - (1 : Int32))).toUInt32 >>> ((4 : Int32) &&& 31).toUInt32).toInt32)), .val (.int ((5 : Int32) + (2 : Int32)))] [])) _
              rw [show ((5 : Int32) + (2 : Int32)) = (7 : Int32) from by decide]
              show Steps p.tables e below (s₁.setTop (mkF m 70 #[.val (.int ((((px ^^^ (-1 : Int32)) &&& (px - (1 : Int32))).toUInt32 >>> ((4 : Int32) &&& 31).toUInt32).toInt32)), .val (.int (7 : Int32))] [])) _
              refine XS.iloadN X0.here hx rfl (hb hby d5_70) rfl ?_
              refine XS.iconst X0.here hx rfl (hb hby d5_71) ?_
              refine XS.iushr X0.here hx rfl (hb hby d5_72) rfl ?_
              show Steps p.tables e below (s₁.setTop (mkF m 73 #[.val (.int ((((px ^^^ (-1 : Int32)) &&& (px - (1 : Int32))).toUInt32 >>> ((4 : Int32) &&& 31).toUInt32).toInt32)), .val (.int (7 : Int32))] [(.int ((((((px ^^^ (-1 : Int32)) &&& (px - (1 : Int32))).toUInt32 >>> ((4 : Int32) &&& 31).toUInt32).toInt32).toUInt32 >>> ((2 : Int32) &&& 31).toUInt32).toInt32))])) _
              refine XS.istoreN X0.here hx rfl (hb hby d5_73) rfl (l' := #[.val (.int ((((((px ^^^ (-1 : Int32)) &&& (px - (1 : Int32))).toUInt32 >>> ((4 : Int32) &&& 31).toUInt32).toInt32).toUInt32 >>> ((2 : Int32) &&& 31).toUInt32).toInt32)), .val (.int (7 : Int32))]) rfl ?_
              refine XS.iloadN X0.here hx rfl (hb hby d5_74) rfl ?_
              refine XS.iloadN X0.here hx rfl (hb hby d5_75) rfl ?_
              refine XS.iconst X0.here hx rfl (hb hby d5_76) ?_
              refine XS.iushr X0.here hx rfl (hb hby d5_77) rfl ?_
              refine XS.iadd X0.here hx rfl (hb hby d5_78) rfl ?_
              exact k
            have hz : own_ntz px = ((7 : Int32) + ((((((((px ^^^ (-1 : Int32)) &&& (px - (1 : Int32))).toUInt32 >>> ((4 : Int32) &&& 31).toUInt32).toInt32).toUInt32 >>> ((2 : Int32) &&& 31).toUInt32).toInt32).toUInt32 >>> ((1 : Int32) &&& 31).toUInt32).toInt32)) := by simp only [own_ntz, if_pos hc9, if_neg hc10, if_neg hc18, if_pos hc22, if_pos hc23]
            obtain ⟨fs, hr, hrun, hended, hW, hsame⟩ := X0.leave (hlocks := BodyLoose.notSynchronized Bd) (v := some (.int ((7 : Int32) + ((((((((px ^^^ (-1 : Int32)) &&& (px - (1 : Int32))).toUInt32 >>> ((4 : Int32) &&& 31).toUInt32).toInt32).toUInt32 >>> ((2 : Int32) &&& 31).toUInt32).toInt32).toUInt32 >>> ((1 : Int32) &&& 31).toUInt32).toInt32)))) (fun h => by rw [Bd.returns] at h; cases h)
            refine ⟨_, _, retOut X0 hx Bd.returns rfl (Or.inl ⟨rfl, Or.inl rfl, _, rfl⟩) (hb hby d5_79) hr, hrun, hended, _, _, rfl, ?_, ⟨_, rfl⟩, hW, hsame.mono (by decide) (by decide)⟩
            show own_Q5 px h0 n0 _ s₁.heap _
            rw [e0]
            exact ⟨by rw [hz], N0, rfl⟩
          · skip
            refine own_pre (A := (s₁.setTop (mkF m 74 #[.val (.int ((((px ^^^ (-1 : Int32)) &&& (px - (1 : Int32))).toUInt32 >>> ((4 : Int32) &&& 31).toUInt32).toInt32)), .val (.int (5 : Int32))] []))) ?_ ?_
            · intro t k
              refine XS.icmpYes X0.here hx rfl (pc0 := 64) (pc' := 74) rfl (hb hby d5_64) rfl (flt hc23).2.2.2 (by decide) (by decide) ?_
              exact k
            refine own_pre (A := (s₁.setTop (mkF m 79 #[.val (.int ((((px ^^^ (-1 : Int32)) &&& (px - (1 : Int32))).toUInt32 >>> ((4 : Int32) &&& 31).toUInt32).toInt32)), .val (.int (5 : Int32))] [(.int ((5 : Int32) + ((((((px ^^^ (-1 : Int32)) &&& (px - (1 : Int32))).toUInt32 >>> ((4 : Int32) &&& 31).toUInt32).toInt32).toUInt32 >>> ((1 : Int32) &&& 31).toUInt32).toInt32)))]))) ?_ ?_
            · intro t k
              show Steps p.tables e below (s₁.setTop (mkF m 74 #[.val (.int ((((px ^^^ (-1 : Int32)) &&& (px - (1 : Int32))).toUInt32 >>> ((4 : Int32) &&& 31).toUInt32).toInt32)), .val (.int (5 : Int32))] [])) _
              refine XS.iloadN X0.here hx rfl (hb hby d5_74) rfl ?_
              refine XS.iloadN X0.here hx rfl (hb hby d5_75) rfl ?_
              refine XS.iconst X0.here hx rfl (hb hby d5_76) ?_
              refine XS.iushr X0.here hx rfl (hb hby d5_77) rfl ?_
              refine XS.iadd X0.here hx rfl (hb hby d5_78) rfl ?_
              exact k
            have hz : own_ntz px = ((5 : Int32) + ((((((px ^^^ (-1 : Int32)) &&& (px - (1 : Int32))).toUInt32 >>> ((4 : Int32) &&& 31).toUInt32).toInt32).toUInt32 >>> ((1 : Int32) &&& 31).toUInt32).toInt32)) := by simp only [own_ntz, if_pos hc9, if_neg hc10, if_neg hc18, if_pos hc22, if_neg hc23]
            obtain ⟨fs, hr, hrun, hended, hW, hsame⟩ := X0.leave (hlocks := BodyLoose.notSynchronized Bd) (v := some (.int ((5 : Int32) + ((((((px ^^^ (-1 : Int32)) &&& (px - (1 : Int32))).toUInt32 >>> ((4 : Int32) &&& 31).toUInt32).toInt32).toUInt32 >>> ((1 : Int32) &&& 31).toUInt32).toInt32)))) (fun h => by rw [Bd.returns] at h; cases h)
            refine ⟨_, _, retOut X0 hx Bd.returns rfl (Or.inl ⟨rfl, Or.inl rfl, _, rfl⟩) (hb hby d5_79) hr, hrun, hended, _, _, rfl, ?_, ⟨_, rfl⟩, hW, hsame.mono (by decide) (by decide)⟩
            show own_Q5 px h0 n0 _ s₁.heap _
            rw [e0]
            exact ⟨by rw [hz], N0, rfl⟩
        · skip
          refine own_pre (A := (s₁.setTop (mkF m 62 #[.val (.int ((px ^^^ (-1 : Int32)) &&& (px - (1 : Int32)))), .val (.int (1 : Int32))] []))) ?_ ?_
          · intro t k
            refine XS.icmpYes X0.here hx rfl (pc0 := 52) (pc' := 62) rfl (hb hby d5_52) rfl (flt hc22).2.2.2 (by decide) (by decide) ?_
            exact k
          refine own_pre (A := (s₁.setTop (mkF m 64 #[.val (.int ((px ^^^ (-1 : Int32)) &&& (px - (1 : Int32)))), .val (.int (1 : Int32))] [(.int (4 : Int32)), (.int ((px ^^^ (-1 : Int32)) &&& (px - (1 : Int32))))]))) ?_ ?_
          · intro t k
            show Steps p.tables e below (s₁.setTop (mkF m 62 #[.val (.int ((px ^^^ (-1 : Int32)) &&& (px - (1 : Int32)))), .val (.int (1 : Int32))] [])) _
            refine XS.iloadN X0.here hx rfl (hb hby d5_62) rfl ?_
            refine XS.iconst X0.here hx rfl (hb hby d5_63) ?_
            exact k
          by_cases hc24 : (4 : Int32) < ((px ^^^ (-1 : Int32)) &&& (px - (1 : Int32)))
          · skip
            refine own_pre (A := (s₁.setTop (mkF m 67 #[.val (.int ((px ^^^ (-1 : Int32)) &&& (px - (1 : Int32)))), .val (.int (1 : Int32))] []))) ?_ ?_
            · intro t k
              refine XS.icmpNo X0.here hx rfl (hb hby d5_64) rfl (tlt hc24).2.2.2 ?_
              exact k
            refine own_pre (A := (s₁.setTop (mkF m 79 #[.val (.int ((((px ^^^ (-1 : Int32)) &&& (px - (1 : Int32))).toUInt32 >>> ((2 : Int32) &&& 31).toUInt32).toInt32)), .val (.int (3 : Int32))] [(.int ((3 : Int32) + ((((((px ^^^ (-1 : Int32)) &&& (px - (1 : Int32))).toUInt32 >>> ((2 : Int32) &&& 31).toUInt32).toInt32).toUInt32 >>> ((1 : Int32) &&& 31).toUInt32).toInt32)))]))) ?_ ?_
            · intro t k
              show Steps p.tables e below (s₁.setTop (mkF m 67 #[.val (.int ((px ^^^ (-1 : Int32)) &&& (px - (1 : Int32)))), .val (.int (1 : Int32))] [])) _
              refine XS.iinc X0.here hx rfl (hb hby d5_67) rfl (l' := #[.val (.int ((px ^^^ (-1 : Int32)) &&& (px - (1 : Int32)))), .val (.int ((1 : Int32) + (2 : Int32)))]) rfl ?_
              show Steps p.tables e below (s₁.setTop (mkF m 70 #[.val (.int ((px ^^^ (-1 : Int32)) &&& (px - (1 : Int32)))), .val (.int ((1 : Int32) + (2 : Int32)))] [])) _
              rw [show ((1 : Int32) + (2 : Int32)) = (3 : Int32) from by decide]
              show Steps p.tables e below (s₁.setTop (mkF m 70 #[.val (.int ((px ^^^ (-1 : Int32)) &&& (px - (1 : Int32)))), .val (.int (3 : Int32))] [])) _
              refine XS.iloadN X0.here hx rfl (hb hby d5_70) rfl ?_
              refine XS.iconst X0.here hx rfl (hb hby d5_71) ?_
              refine XS.iushr X0.here hx rfl (hb hby d5_72) rfl ?_
              show Steps p.tables e below (s₁.setTop (mkF m 73 #[.val (.int ((px ^^^ (-1 : Int32)) &&& (px - (1 : Int32)))), .val (.int (3 : Int32))] [(.int ((((px ^^^ (-1 : Int32)) &&& (px - (1 : Int32))).toUInt32 >>> ((2 : Int32) &&& 31).toUInt32).toInt32))])) _
              refine XS.istoreN X0.here hx rfl (hb hby d5_73) rfl (l' := #[.val (.int ((((px ^^^ (-1 : Int32)) &&& (px - (1 : Int32))).toUInt32 >>> ((2 : Int32) &&& 31).toUInt32).toInt32)), .val (.int (3 : Int32))]) rfl ?_
              refine XS.iloadN X0.here hx rfl (hb hby d5_74) rfl ?_
              refine XS.iloadN X0.here hx rfl (hb hby d5_75) rfl ?_
              refine XS.iconst X0.here hx rfl (hb hby d5_76) ?_
              refine XS.iushr X0.here hx rfl (hb hby d5_77) rfl ?_
              refine XS.iadd X0.here hx rfl (hb hby d5_78) rfl ?_
              exact k
            have hz : own_ntz px = ((3 : Int32) + ((((((px ^^^ (-1 : Int32)) &&& (px - (1 : Int32))).toUInt32 >>> ((2 : Int32) &&& 31).toUInt32).toInt32).toUInt32 >>> ((1 : Int32) &&& 31).toUInt32).toInt32)) := by simp only [own_ntz, if_pos hc9, if_neg hc10, if_neg hc18, if_neg hc22, if_pos hc24]
            obtain ⟨fs, hr, hrun, hended, hW, hsame⟩ := X0.leave (hlocks := BodyLoose.notSynchronized Bd) (v := some (.int ((3 : Int32) + ((((((px ^^^ (-1 : Int32)) &&& (px - (1 : Int32))).toUInt32 >>> ((2 : Int32) &&& 31).toUInt32).toInt32).toUInt32 >>> ((1 : Int32) &&& 31).toUInt32).toInt32)))) (fun h => by rw [Bd.returns] at h; cases h)
            refine ⟨_, _, retOut X0 hx Bd.returns rfl (Or.inl ⟨rfl, Or.inl rfl, _, rfl⟩) (hb hby d5_79) hr, hrun, hended, _, _, rfl, ?_, ⟨_, rfl⟩, hW, hsame.mono (by decide) (by decide)⟩
            show own_Q5 px h0 n0 _ s₁.heap _
            rw [e0]
            exact ⟨by rw [hz], N0, rfl⟩
          · skip
            refine own_pre (A := (s₁.setTop (mkF m 74 #[.val (.int ((px ^^^ (-1 : Int32)) &&& (px - (1 : Int32)))), .val (.int (1 : Int32))] []))) ?_ ?_
            · intro t k
              refine XS.icmpYes X0.here hx rfl (pc0 := 64) (pc' := 74) rfl (hb hby d5_64) rfl (flt hc24).2.2.2 (by decide) (by decide) ?_
              exact k
            refine own_pre (A := (s₁.setTop (mkF m 79 #[.val (.int ((px ^^^ (-1 : Int32)) &&& (px - (1 : Int32)))), .val (.int (1 : Int32))] [(.int ((1 : Int32) + ((((px ^^^ (-1 : Int32)) &&& (px - (1 : Int32))).toUInt32 >>> ((1 : Int32) &&& 31).toUInt32).toInt32)))]))) ?_ ?_
            · intro t k
              show Steps p.tables e below (s₁.setTop (mkF m 74 #[.val (.int ((px ^^^ (-1 : Int32)) &&& (px - (1 : Int32)))), .val (.int (1 : Int32))] [])) _
              refine XS.iloadN X0.here hx rfl (hb hby d5_74) rfl ?_
              refine XS.iloadN X0.here hx rfl (hb hby d5_75) rfl ?_
              refine XS.iconst X0.here hx rfl (hb hby d5_76) ?_
              refine XS.iushr X0.here hx rfl (hb hby d5_77) rfl ?_
              refine XS.iadd X0.here hx rfl (hb hby d5_78) rfl ?_
              exact k
            have hz : own_ntz px = ((1 : Int32) + ((((px ^^^ (-1 : Int32)) &&& (px - (1 : Int32))).toUInt32 >>> ((1 : Int32) &&& 31).toUInt32).toInt32)) := by simp only [own_ntz, if_pos hc9, if_neg hc10, if_neg hc18, if_neg hc22, if_neg hc24]
            obtain ⟨fs, hr, hrun, hended, hW, hsame⟩ := X0.leave (hlocks := BodyLoose.notSynchronized Bd) (v := some (.int ((1 : Int32) + ((((px ^^^ (-1 : Int32)) &&& (px - (1 : Int32))).toUInt32 >>> ((1 : Int32) &&& 31).toUInt32).toInt32)))) (fun h => by rw [Bd.returns] at h; cases h)
            refine ⟨_, _, retOut X0 hx Bd.returns rfl (Or.inl ⟨rfl, Or.inl rfl, _, rfl⟩) (hb hby d5_79) hr, hrun, hended, _, _, rfl, ?_, ⟨_, rfl⟩, hW, hsame.mono (by decide) (by decide)⟩
            show own_Q5 px h0 n0 _ s₁.heap _
            rw [e0]
            exact ⟨by rw [hz], N0, rfl⟩
  · skip
    refine own_pre (A := (s₁.setTop (mkF m 12 #[.val (.int ((px ^^^ (-1 : Int32)) &&& (px - (1 : Int32)))), .unset] []))) ?_ ?_
    · intro t k
      refine XS.ifNo X0.here hx rfl (hb hby d5_9) rfl ((if0 _ _).trans (flt hc9).2.2.1) ?_
      exact k
    refine own_pre (A := (s₁.setTop (mkF m 16 #[.val (.int ((px ^^^ (-1 : Int32)) &&& (px - (1 : Int32)))), .unset] [(.int (((px ^^^ (-1 : Int32)) &&& (px - (1 : Int32))) &&& (32 : Int32)))]))) ?_ ?_
    · intro t k
      show Steps p.tables e below (s₁.setTop (mkF m 12 #[.val (.int ((px ^^^ (-1 : Int32)) &&& (px - (1 : Int32)))), .unset] [])) _
      refine XS.iloadN X0.here hx rfl (hb hby d5_12) rfl ?_
      refine XS.bipush X0.here hx rfl (hb hby d5_13) ?_
      refine XS.iand X0.here hx rfl (hb hby d5_15) rfl ?_
      exact k
    have hz : own_ntz px = (((px ^^^ (-1 : Int32)) &&& (px - (1 : Int32))) &&& (32 : Int32)) := by simp only [own_ntz, if_neg hc9]
    obtain ⟨fs, hr, hrun, hended, hW, hsame⟩ := X0.leave (hlocks := BodyLoose.notSynchronized Bd) (v := some (.int (((px ^^^ (-1 : Int32)) &&& (px - (1 : Int32))) &&& (32 : Int32)))) (fun h => by rw [Bd.returns] at h; cases h)
    refine ⟨_, _, retOut X0 hx Bd.returns rfl (Or.inl ⟨rfl, Or.inl rfl, _, rfl⟩) (hb hby d5_16) hr, hrun, hended, _, _, rfl, ?_, ⟨_, rfl⟩, hW, hsame.mono (by decide) (by decide)⟩
    show own_Q5 px h0 n0 _ s₁.heap _
    rw [e0]
    exact ⟨by rw [hz], N0, rfl⟩
theorem d1_0 : decode prog_8_method_16_code 0 = .ok (.lload_n 1, 1) := by decide +kernel
theorem d1_1 : decode prog_8_method_16_code 1 = .ok (.invokestatic 179, 3) := by decide +kernel
theorem d1_4 : decode prog_8_method_16_code 4 = .ok (.istore 4, 2) := by decide +kernel
theorem d1_6 : decode prog_8_method_16_code 6 = .ok (.iload_n 3, 1) := by decide +kernel
theorem d1_7 : decode prog_8_method_16_code 7 = .ok (.ifCond .le 20, 3) := by decide +kernel
theorem d1_10 : decode prog_8_method_16_code 10 = .ok (.lload_n 1, 1) := by decide +kernel
theorem d1_11 : decode prog_8_method_16_code 11 = .ok (.bipush 8, 2) := by decide +kernel
theorem d1_13 : decode prog_8_method_16_code 13 = .ok (.iload 4, 2) := by decide +kernel
theorem d1_15 : decode prog_8_method_16_code 15 = .ok (.iconst 1, 1) := by decide +kernel
theorem d1_16 : decode prog_8_method_16_code 16 = .ok (.isub, 1) := by decide +kernel
theorem d1_17 : decode prog_8_method_16_code 17 = .ok (.iload_n 3, 1) := by decide +kernel
theorem d1_18 : decode prog_8_method_16_code 18 = .ok (.isub, 1) := by decide +kernel
theorem d1_19 : decode prog_8_method_16_code 19 = .ok (.imul, 1) := by decide +kernel
theorem d1_20 : decode prog_8_method_16_code 20 = .ok (.lushr, 1) := by decide +kernel
theorem d1_21 : decode prog_8_method_16_code 21 = .ok (.l2i, 1) := by decide +kernel
theorem d1_22 : decode prog_8_method_16_code 22 = .ok (.sipush 255, 3) := by decide +kernel
theorem d1_25 : decode prog_8_method_16_code 25 = .ok (.iand, 1) := by decide +kernel
theorem d1_26 : decode prog_8_method_16_code 26 = .ok (.ireturn, 1) := by decide +kernel
theorem d1_27 : decode prog_8_method_16_code 27 = .ok (.iload 4, 2) := by decide +kernel
theorem d1_29 : decode prog_8_method_16_code 29 = .ok (.iconst 1, 1) := by decide +kernel
theorem d1_30 : decode prog_8_method_16_code 30 = .ok (.if_icmp .ne 8, 3) := by decide +kernel
theorem d1_33 : decode prog_8_method_16_code 33 = .ok (.lload_n 1, 1) := by decide +kernel
theorem d1_34 : decode prog_8_method_16_code 34 = .ok (.l2i, 1) := by decide +kernel
theorem d1_35 : decode prog_8_method_16_code 35 = .ok (.goto 13, 3) := by decide +kernel
theorem d1_38 : decode prog_8_method_16_code 38 = .ok (.bipush 24, 2) := by decide +kernel
theorem d1_40 : decode prog_8_method_16_code 40 = .ok (.iload 4, 2) := by decide +kernel
theorem d1_42 : decode prog_8_method_16_code 42 = .ok (.iconst 1, 1) := by decide +kernel
theorem d1_43 : decode prog_8_method_16_code 43 = .ok (.isub, 1) := by decide +kernel
theorem d1_44 : decode prog_8_method_16_code 44 = .ok (.invokestatic 183, 3) := by decide +kernel
theorem d1_47 : decode prog_8_method_16_code 47 = .ok (.iadd, 1) := by decide +kernel
theorem d1_48 : decode prog_8_method_16_code 48 = .ok (.istore 5, 2) := by decide +kernel
theorem d1_50 : decode prog_8_method_16_code 50 = .ok (.iload_n 0, 1) := by decide +kernel
theorem d1_51 : decode prog_8_method_16_code 51 = .ok (.iconst 5, 1) := by decide +kernel
theorem d1_52 : decode prog_8_method_16_code 52 = .ok (.ishl, 1) := by decide +kernel
theorem d1_53 : decode prog_8_method_16_code 53 = .ok (.iload 5, 2) := by decide +kernel
theorem d1_55 : decode prog_8_method_16_code 55 = .ok (.ior, 1) := by decide +kernel
theorem d1_56 : decode prog_8_method_16_code 56 = .ok (.ireturn, 1) := by decide +kernel
theorem own_pn1 : plainName "com/example/sigillum/sigillum/cose/CborItem" = true := by first | (simp [plainName, overriddenIn]; done) | decide +kernel
theorem own_ef1 (m : MethodId) (x0 : Int32) (x1 : Int64) (x2 : Int32) : entryFrame m #[(.int x0), (.long x1), (.int x2)] 6 = mkF m 0 #[.val (.int x0), .val (.long x1), .second, .val (.int x2), .unset, .unset] [] := by first | (simp [entryFrame, mkF, argsToLocals, Value.category]; done) | rfl
def own_hb (pm : Int32) (qa : Int64) (pi : Int32) : Int32 := (if (0 : Int32) < pi then ((((qa.toUInt64 >>> (((8 : Int32) * (((own_hl qa) - (1 : Int32)) - pi)) &&& 0x3f).toInt64.toUInt64).toInt64).toInt32) &&& (255 : Int32)) else (if (own_hl qa) = (1 : Int32) then ((pm <<< ((5 : Int32) &&& 31)) ||| (qa.toInt32)) else ((pm <<< ((5 : Int32) &&& 31)) ||| ((24 : Int32) + (own_ntz ((own_hl qa) - (1 : Int32)))))))
def own_Q1 (pm : Int32) (qa : Int64) (pi : Int32) (h0 : Heap) (n0 : Nat) (v : Option Value) (h : Heap) (L : List Loc) : Prop := v = some (.int (own_hb pm qa pi)) ∧ Fr n0 L ∧ h = h0
set_option maxRecDepth 65536 in
set_option maxHeartbeats 40000000 in
theorem rm1 (l : Launch) (Z : State) (a0 : Array Value) (hw : ∀ d ∈ tables_1, d.before a0 Z = true) (ws : List Jvm.Cond) (pm : Int32) (qa : Int64) (pi : Int32) (h0 : Heap) (n0 : Nat) (Z0 : n0 ≤ h0.size) :
    MetFree l (⟨"com/example/sigillum/sigillum/cose/CborItem", "headByte", "(IJI)I"⟩ : MethodName) (head1 (Jvm.Cond.code (⟨"com/example/sigillum/sigillum/cose/CborItem", "headByte", "(IJI)I"⟩ : MethodName) prog_8_method_16_code 6 (some .int) :: ws) ({ frames := 3, cells := 0, slots := 0, locals := 44 } : Room)) (fun a U => a = #[(.int pm), (.long qa), (.int pi)] ∧ Z.Warmed39 U.vm ∧ U.heap = h0) (fun _ _ _ _ _ => True) (fun _ U o U' => ∃ v L, o = .returned v ∧ own_Q1 pm qa pi h0 n0 v U'.heap L ∧ FrameEnd U o U' L ({ frames := 3, cells := 0, slots := 0, locals := 44 } : Room).cells ({ frames := 3, cells := 0, slots := 0, locals := 44 } : Room).slots) := by
  refine MetFree.of_bodySF (plainFor_of_name own_pn1) hisR ?_
  intro p e s m args below meth c s₁ Bd hml0 hP hK
  obtain ⟨rfl, hZ, hh⟩ := hP
  have hx := Bd.exec
  have hby := Bd.bytes
  have hml : c.maxLocals = 6 := hml0
  have hown : s.vm.findClass "com/example/sigillum/sigillum/cose/CborItem" = some m.cls := findClass_of_methodNamed Bd.named
  have hnm := (name_of_methodNamed Bd.named Bd.method).1
  have X0 : Stand p l e ({ frames := 3, cells := 0, slots := 0, locals := 44 } : Room) s m #[(.int pm), (.long qa), (.int pi)] below meth c s₁ [] 0 0 := Stand.of_body Bd
  have e0 : s₁.heap = h0 := by rw [← hh, Bd.state]; rfl
  have N0 := Fr.nil n0
  refine own_pre (A := (s₁.setTop (mkF m 0 #[.val (.int pm), .val (.long qa), .second, .val (.int pi), .unset, .unset] []))) (fun t k => castTop (own_ef1 m pm qa pi) k) ?_
  refine own_pre (A := (s₁.setTop (mkF m 1 #[.val (.int pm), .val (.long qa), .second, .val (.int pi), .unset, .unset] [(.long qa)]))) ?_ ?_
  · intro t k
    show Steps p.tables e below (s₁.setTop (mkF m 0 #[.val (.int pm), .val (.long qa), .second, .val (.int pi), .unset, .unset] [])) _
    refine XS.lloadN X0.here hx rfl (hb hby d1_0) rfl ?_
    exact k
  obtain ⟨_, _, ⟨T25, L25, k25, n25⟩, -, X25, ⟨Lc25, hQ25, l25, y25, z25⟩, st25⟩ := Jvm.LawKit.callS X0 hx (y := (⟨"com/example/sigillum/sigillum/cose/CborItem", "headLength", "(J)I"⟩ : MethodName)) hown (mvT hZ (own_w hw 6 rfl)) (mvT hZ (own_w hw 7 rfl)) (mvT hZ (own_w hw 4 rfl)) (mvT hZ (own_w hw 8 rfl)) (by decide) (backOf (W := 0) (rm2 l Z a0 hw [] qa h0 n0 Z0) hZ (own_w hw 8 rfl) (own_w hw 4 rfl) (by decide) (by decide)) (g := (mkF m 1 #[.val (.int pm), .val (.long qa), .second, .val (.int pi), .unset, .unset] [(.long qa)])) rfl (by rw [hml]; rfl) (argsL := [(.long qa)]) (rest := []) (lenOf own_pd1 rfl) rfl (by show 2 * 0 + _ ≤ _; exact Nat.le_of_eq rfl) (hb hby d1_1) (fun _ _ => ⟨rfl, e0, (by decide : 0 + 0 ≤ _), (by decide : 0 + 0 ≤ _)⟩)
  dsimp only [Pt.U, Pt.locs, Pt.cells, Pt.slots] at X25 l25 y25 z25 st25 hQ25
  subst l25 y25 z25
  obtain ⟨rfl, Nq25, eq25⟩ := hQ25
  have N25 := Fr.app N0 Nq25
  refine own_pre (fun t k => st25 t k) ?_
  refine own_pre (A := (T25.setTop (mkF m 7 #[.val (.int pm), .val (.long qa), .second, .val (.int pi), .val (.int (own_hl qa)), .unset] [(.int pi)]))) ?_ ?_
  · intro t k
    show Steps p.tables e below (T25.setTop (mkF m 4 #[.val (.int pm), .val (.long qa), .second, .val (.int pi), .unset, .unset] [(.int (own_hl qa))])) _
    refine XS.istore X25.here hx rfl (hb hby d1_4) rfl (l' := #[.val (.int pm), .val (.long qa), .second, .val (.int pi), .val (.int (own_hl qa)), .unset]) rfl ?_
    refine XS.iloadN X25.here hx rfl (hb hby d1_6) rfl ?_
    exact k
  by_cases hc26 : (0 : Int32) < pi
  · skip
    refine own_pre (A := (T25.setTop (mkF m 10 #[.val (.int pm), .val (.long qa), .second, .val (.int pi), .val (.int (own_hl qa)), .unset] []))) ?_ ?_
    · intro t k
      refine XS.ifNo X25.here hx rfl (hb hby d1_7) rfl ((if0 _ _).trans (tlt hc26).2.2.2) ?_
      exact k
    refine own_pre (A := (T25.setTop (mkF m 26 #[.val (.int pm), .val (.long qa), .second, .val (.int pi), .val (.int (own_hl qa)), .unset] [(.int ((((qa.toUInt64 >>> (((8 : Int32) * (((own_hl qa) - (1 : Int32)) - pi)) &&& 0x3f).toInt64.toUInt64).toInt64).toInt32) &&& (255 : Int32)))]))) ?_ ?_
    · intro t k
      show Steps p.tables e below (T25.setTop (mkF m 10 #[.val (.int pm), .val (.long qa), .second, .val (.int pi), .val (.int (own_hl qa)), .unset] [])) _
      refine XS.lloadN X25.here hx rfl (hb hby d1_10) rfl ?_
      refine XS.bipush X25.here hx rfl (hb hby d1_11) ?_
      refine XS.iload X25.here hx rfl (hb hby d1_13) rfl ?_
      refine XS.iconst X25.here hx rfl (hb hby d1_15) ?_
      refine XS.isub X25.here hx rfl (hb hby d1_16) rfl ?_
      refine XS.iloadN X25.here hx rfl (hb hby d1_17) rfl ?_
      refine XS.isub X25.here hx rfl (hb hby d1_18) rfl ?_
      refine XS.imul X25.here hx rfl (hb hby d1_19) rfl ?_
      refine XS.lushr X25.here hx rfl (hb hby d1_20) rfl ?_
      refine XS.l2i X25.here hx rfl (hb hby d1_21) rfl ?_
      refine XS.sipush X25.here hx rfl (hb hby d1_22) ?_
      refine XS.iand X25.here hx rfl (hb hby d1_25) rfl ?_
      exact k
    have hz : own_hb pm qa pi = ((((qa.toUInt64 >>> (((8 : Int32) * (((own_hl qa) - (1 : Int32)) - pi)) &&& 0x3f).toInt64.toUInt64).toInt64).toInt32) &&& (255 : Int32)) := by simp only [own_hb, if_pos hc26]
    obtain ⟨fs, hr, hrun, hended, hW, hsame⟩ := X25.leave (hlocks := BodyLoose.notSynchronized Bd) (v := some (.int ((((qa.toUInt64 >>> (((8 : Int32) * (((own_hl qa) - (1 : Int32)) - pi)) &&& 0x3f).toInt64.toUInt64).toInt64).toInt32) &&& (255 : Int32)))) (fun h => by rw [Bd.returns] at h; cases h)
    refine ⟨_, _, retOut X25 hx Bd.returns rfl (Or.inl ⟨rfl, Or.inl rfl, _, rfl⟩) (hb hby d1_26) hr, hrun, hended, _, _, rfl, ?_, ⟨_, rfl⟩, hW, hsame.mono (by decide) (by decide)⟩
    show own_Q1 pm qa pi h0 n0 _ T25.heap _
    rw [eq25]
    exact ⟨by rw [hz], N25, rfl⟩
  · skip
    refine own_pre (A := (T25.setTop (mkF m 27 #[.val (.int pm), .val (.long qa), .second, .val (.int pi), .val (.int (own_hl qa)), .unset] []))) ?_ ?_
    · intro t k
      refine XS.ifYes X25.here hx rfl (pc0 := 7) (pc' := 27) rfl (hb hby d1_7) rfl ((if0 _ _).trans (flt hc26).2.2.2) (by decide) (by decide) ?_
      exact k
    refine own_pre (A := (T25.setTop (mkF m 30 #[.val (.int pm), .val (.long qa), .second, .val (.int pi), .val (.int (own_hl qa)), .unset] [(.int (1 : Int32)), (.int (own_hl qa))]))) ?_ ?_
    · intro t k
      show Steps p.tables e below (T25.setTop (mkF m 27 #[.val (.int pm), .val (.long qa), .second, .val (.int pi), .val (.int (own_hl qa)), .unset] [])) _
      refine XS.iload X25.here hx rfl (hb hby d1_27) rfl ?_
      refine XS.iconst X25.here hx rfl (hb hby d1_29) ?_
      exact k
    by_cases hc27 : (own_hl qa) = (1 : Int32)
    · skip
      refine own_pre (A := (T25.setTop (mkF m 33 #[.val (.int pm), .val (.long qa), .second, .val (.int pi), .val (.int (own_hl qa)), .unset] []))) ?_ ?_
      · intro t k
        refine XS.icmpNo X25.here hx rfl (hb hby d1_30) rfl (teq hc27).2 ?_
        exact k
      refine own_pre (A := (T25.setTop (mkF m 56 #[.val (.int pm), .val (.long qa), .second, .val (.int pi), .val (.int (own_hl qa)), .val (.int (qa.toInt32))] [(.int ((pm <<< ((5 : Int32) &&& 31)) ||| (qa.toInt32)))]))) ?_ ?_
      · intro t k
        show Steps p.tables e below (T25.setTop (mkF m 33 #[.val (.int pm), .val (.long qa), .second, .val (.int pi), .val (.int (own_hl qa)), .unset] [])) _
        refine XS.lloadN X25.here hx rfl (hb hby d1_33) rfl ?_
        refine XS.l2i X25.here hx rfl (hb hby d1_34) rfl ?_
        show Steps p.tables e below (T25.setTop (mkF m 35 #[.val (.int pm), .val (.long qa), .second, .val (.int pi), .val (.int (own_hl qa)), .unset] [(.int (qa.toInt32))])) _
        refine XS.goto X25.here hx rfl (pc0 := 35) (pc' := 48) rfl (hb hby d1_35) (by decide) (by decide) ?_
        show Steps p.tables e below (T25.setTop (mkF m 48 #[.val (.int pm), .val (.long qa), .second, .val (.int pi), .val (.int (own_hl qa)), .unset] [(.int (qa.toInt32))])) _
        refine XS.istore X25.here hx rfl (hb hby d1_48) rfl (l' := #[.val (.int pm), .val (.long qa), .second, .val (.int pi), .val (.int (own_hl qa)), .val (.int (qa.toInt32))]) rfl ?_
        refine XS.iloadN X25.here hx rfl (hb hby d1_50) rfl ?_
        refine XS.iconst X25.here hx rfl (hb hby d1_51) ?_
        refine XS.ishl X25.here hx rfl (hb hby d1_52) rfl ?_
        refine XS.iload X25.here hx rfl (hb hby d1_53) rfl ?_
        refine XS.ior X25.here hx rfl (hb hby d1_55) rfl ?_
        exact k
      have hz : own_hb pm qa pi = ((pm <<< ((5 : Int32) &&& 31)) ||| (qa.toInt32)) := by simp only [own_hb, if_neg hc26, if_pos hc27]
      obtain ⟨fs, hr, hrun, hended, hW, hsame⟩ := X25.leave (hlocks := BodyLoose.notSynchronized Bd) (v := some (.int ((pm <<< ((5 : Int32) &&& 31)) ||| (qa.toInt32)))) (fun h => by rw [Bd.returns] at h; cases h)
      refine ⟨_, _, retOut X25 hx Bd.returns rfl (Or.inl ⟨rfl, Or.inl rfl, _, rfl⟩) (hb hby d1_56) hr, hrun, hended, _, _, rfl, ?_, ⟨_, rfl⟩, hW, hsame.mono (by decide) (by decide)⟩
      show own_Q1 pm qa pi h0 n0 _ T25.heap _
      rw [eq25]
      exact ⟨by rw [hz], N25, rfl⟩
    · skip
      refine own_pre (A := (T25.setTop (mkF m 38 #[.val (.int pm), .val (.long qa), .second, .val (.int pi), .val (.int (own_hl qa)), .unset] []))) ?_ ?_
      · intro t k
        refine XS.icmpYes X25.here hx rfl (pc0 := 30) (pc' := 38) rfl (hb hby d1_30) rfl (feq hc27).2 (by decide) (by decide) ?_
        exact k
      refine own_pre (A := (T25.setTop (mkF m 44 #[.val (.int pm), .val (.long qa), .second, .val (.int pi), .val (.int (own_hl qa)), .unset] [(.int ((own_hl qa) - (1 : Int32))), (.int (24 : Int32))]))) ?_ ?_
      · intro t k
        show Steps p.tables e below (T25.setTop (mkF m 38 #[.val (.int pm), .val (.long qa), .second, .val (.int pi), .val (.int (own_hl qa)), .unset] [])) _
        refine XS.bipush X25.here hx rfl (hb hby d1_38) ?_
        refine XS.iload X25.here hx rfl (hb hby d1_40) rfl ?_
        refine XS.iconst X25.here hx rfl (hb hby d1_42) ?_
        refine XS.isub X25.here hx rfl (hb hby d1_43) rfl ?_
        exact k
      obtain ⟨_, _, ⟨T28, L28, k28, n28⟩, -, X28, ⟨Lc28, hQ28, l28, y28, z28⟩, st28⟩ := Jvm.LawKit.callS X25 hx (y := (⟨"java/lang/Integer", "numberOfTrailingZeros", "(I)I"⟩ : MethodName)) hown (mvT hZ (own_w hw 19 rfl)) (mvT hZ (own_w hw 20 rfl)) (mvT hZ (own_w hw 21 rfl)) (mvT hZ (own_w hw 22 rfl)) (by decide) (backOf (W := 1) (rm5 l Z a0 hw [] ((own_hl qa) - (1 : Int32)) h0 n0 Z0) hZ (own_w hw 22 rfl) (own_w hw 21 rfl) (by decide) (by decide)) (g := (mkF m 44 #[.val (.int pm), .val (.long qa), .second, .val (.int pi), .val (.int (own_hl qa)), .unset] [(.int ((own_hl qa) - (1 : Int32))), (.int (24 : Int32))])) rfl (by rw [hml]; rfl) (argsL := [(.int ((own_hl qa) - (1 : Int32)))]) (rest := [(.int (24 : Int32))]) (lenOf own_pd2 rfl) rfl (by show 2 * 0 + _ ≤ _; exact Nat.le_of_eq rfl) (hb hby d1_44) (fun _ _ => ⟨rfl, eq25, (by decide : 0 + 0 ≤ _), (by decide : 0 + 0 ≤ _)⟩)
      dsimp only [Pt.U, Pt.locs, Pt.cells, Pt.slots] at X28 l28 y28 z28 st28 hQ28
      subst l28 y28 z28
      obtain ⟨rfl, Nq28, eq28⟩ := hQ28
      have N28 := Fr.app N25 Nq28
      refine own_pre (fun t k => st28 t k) ?_
      refine own_pre (A := (T28.setTop (mkF m 56 #[.val (.int pm), .val (.long qa), .second, .val (.int pi), .val (.int (own_hl qa)), .val (.int ((24 : Int32) + (own_ntz ((own_hl qa) - (1 : Int32)))))] [(.int ((pm <<< ((5 : Int32) &&& 31)) ||| ((24 : Int32) + (own_ntz ((own_hl qa) - (1 : Int32))))))]))) ?_ ?_
      · intro t k
        show Steps p.tables e below (T28.setTop (mkF m 47 #[.val (.int pm), .val (.long qa), .second, .val (.int pi), .val (.int (own_hl qa)), .unset] [(.int (own_ntz ((own_hl qa) - (1 : Int32)))), (.int (24 : Int32))])) _
        refine XS.iadd X28.here hx rfl (hb hby d1_47) rfl ?_
        show Steps p.tables e below (T28.setTop (mkF m 48 #[.val (.int pm), .val (.long qa), .second, .val (.int pi), .val (.int (own_hl qa)), .unset] [(.int ((24 : Int32) + (own_ntz ((own_hl qa) - (1 : Int32)))))])) _
        refine XS.istore X28.here hx rfl (hb hby d1_48) rfl (l' := #[.val (.int pm), .val (.long qa), .second, .val (.int pi), .val (.int (own_hl qa)), .val (.int ((24 : Int32) + (own_ntz ((own_hl qa) - (1 : Int32)))))]) rfl ?_
        refine XS.iloadN X28.here hx rfl (hb hby d1_50) rfl ?_
        refine XS.iconst X28.here hx rfl (hb hby d1_51) ?_
        refine XS.ishl X28.here hx rfl (hb hby d1_52) rfl ?_
        refine XS.iload X28.here hx rfl (hb hby d1_53) rfl ?_
        refine XS.ior X28.here hx rfl (hb hby d1_55) rfl ?_
        exact k
      have hz : own_hb pm qa pi = ((pm <<< ((5 : Int32) &&& 31)) ||| ((24 : Int32) + (own_ntz ((own_hl qa) - (1 : Int32))))) := by simp only [own_hb, if_neg hc26, if_neg hc27]
      obtain ⟨fs, hr, hrun, hended, hW, hsame⟩ := X28.leave (hlocks := BodyLoose.notSynchronized Bd) (v := some (.int ((pm <<< ((5 : Int32) &&& 31)) ||| ((24 : Int32) + (own_ntz ((own_hl qa) - (1 : Int32))))))) (fun h => by rw [Bd.returns] at h; cases h)
      refine ⟨_, _, retOut X28 hx Bd.returns rfl (Or.inl ⟨rfl, Or.inl rfl, _, rfl⟩) (hb hby d1_56) hr, hrun, hended, _, _, rfl, ?_, ⟨_, rfl⟩, hW, hsame.mono (by decide) (by decide)⟩
      show own_Q1 pm qa pi h0 n0 _ T28.heap _
      rw [eq28]
      exact ⟨by rw [hz], N28, rfl⟩
def own_exp (qa : Int64) : Int32 := (if qa < (0 : Int64) then (if ((qa.toUInt64 >>> ((8 : Int32) &&& 0x3f).toInt64.toUInt64).toInt64) = (0 : Int64) then (2 : Int32) else (if ((qa.toUInt64 >>> ((16 : Int32) &&& 0x3f).toInt64.toUInt64).toInt64) = (0 : Int64) then (3 : Int32) else (if ((qa.toUInt64 >>> ((32 : Int32) &&& 0x3f).toInt64.toUInt64).toInt64) = (0 : Int64) then (5 : Int32) else (9 : Int32)))) else (if qa < (24 : Int64) then (1 : Int32) else (if ((qa.toUInt64 >>> ((8 : Int32) &&& 0x3f).toInt64.toUInt64).toInt64) = (0 : Int64) then (2 : Int32) else (if ((qa.toUInt64 >>> ((16 : Int32) &&& 0x3f).toInt64.toUInt64).toInt64) = (0 : Int64) then (3 : Int32) else (if ((qa.toUInt64 >>> ((32 : Int32) &&& 0x3f).toInt64.toUInt64).toInt64) = (0 : Int64) then (5 : Int32) else (9 : Int32))))))
theorem own_sh (a : Int64) (k : Nat) (q : Int32) (hk : q.toBitVec.toNat % 64 = k) (h0 : 0 < k) : ((a.toUInt64 >>> (q &&& 0x3f).toInt64.toUInt64).toInt64 = 0) ↔ (a.toInt % 18446744073709551616) / (2 ^ k : Nat) = 0 := by
  rw [← Int64.toInt_inj, c_lushr a q k hk h0]
  exact Iff.rfl
theorem own_u (a : Int64) : own_cmpU a (24 : Int64) < 0 ↔ (0 ≤ a.toInt ∧ a.toInt < 24) := by
  have h1 := c_ladd a (-9223372036854775808 : Int64)
  have h2 : ((24 : Int64) + (-9223372036854775808 : Int64)).toInt = -9223372036854775784 := by decide
  have h3 : (-9223372036854775808 : Int64).toInt = -9223372036854775808 := by decide
  have r1 := rng64 a
  have r2 := rng64 (a + (-9223372036854775808 : Int64))
  rw [h3] at h1
  simp only [own_cmpU, own_cmp, Int64.lt_iff_toInt_lt, ← Int64.toInt_inj, h2]
  constructor
  · intro h
    split at h
    · omega
    · split at h <;> exact absurd h (by decide)
  · intro h
    rw [if_pos (by omega)]
    decide
theorem own_eq (a : Int64) : own_hl a = own_exp a := by
  have s8 := own_sh a 8 (8 : Int32) (by decide) (by decide)
  have s16 := own_sh a 16 (16 : Int32) (by decide) (by decide)
  have s32 := own_sh a 32 (32 : Int32) (by decide) (by decide)
  have r1 := rng64 a
  have a0 : (0 : Int64).toInt = 0 := by decide
  have a24 : (24 : Int64).toInt = 24 := by decide
  simp only [own_hl, own_exp, own_u, s8, s16, s32, Int64.lt_iff_toInt_lt, a0, a24]
  repeat' split
  all_goals first | rfl | omega
theorem own_narrow (z : Int64) : (z &&& (255 : Int64)).toInt32 = z.toInt32 &&& (255 : Int32) := by
  rw [Int64.toInt32_and]; rfl
theorem own_hbK (mj : Int32) (qa : Int64) (i n k info : Int32) (h : own_hl qa = n) (hn : ¬ n = 1) (hk : n - 1 = k) (ht : (24 : Int32) + own_ntz k = info) (hi : ¬ i < 0) :
    own_hb mj qa i = (if i = (0 : Int32) then ((mj <<< ((5 : Int32) &&& 31)) ||| info) else (((((qa.toUInt64 >>> (((8 : Int32) * (k - i)) &&& 0x3f).toInt64.toUInt64).toInt64)) &&& (255 : Int64)).toInt32)) := by
  simp only [own_hb, h, hk, ht, if_neg hn, own_narrow]
  by_cases h0 : i = 0
  · subst h0; rw [if_neg (by decide), if_pos rfl]
  · rw [if_neg h0, if_pos]
    rw [Int32.lt_iff_toInt_lt] at hi ⊢
    rw [← Int32.toInt_inj] at h0
    have z : (0 : Int32).toInt = 0 := by decide
    omega
theorem own_hb1 (mj : Int32) (qa : Int64) (i : Int32) (X : Int32) (h : own_hl qa = 1) (hi : i = 0) :
    own_hb mj qa i = (if i = (0 : Int32) then ((mj <<< ((5 : Int32) &&& 31)) ||| (qa.toInt32)) else X) := by
  subst hi
  simp only [own_hb, h]
  rw [if_neg (by decide)]
  simp
theorem own_and (x : Int32) : 0 ≤ (x &&& (2147483647 : Int32)).toInt := (c_and x (2147483647 : Int32) (by decide)).1
theorem own_rem1 (x : Int32) : (x &&& (2147483647 : Int32)) % (1 : Int32) = 0 := by
  have h := (c_irem (x &&& (2147483647 : Int32)) (1 : Int32) 1 (by decide)).1 (own_and x)
  apply Int32.toInt_inj.mp
  rw [h]; have z : (0 : Int32).toInt = 0 := by decide
  omega
theorem own_remP (x y : Int32) (hy : 0 < y.toInt) : ¬ (x &&& (2147483647 : Int32)) % y < 0 := by
  have h := (c_irem (x &&& (2147483647 : Int32)) y y.toInt rfl).1 (own_and x)
  rw [Int32.lt_iff_toInt_lt, h]; have z : (0 : Int32).toInt = 0 := by decide
  have := Int.emod_nonneg (x &&& (2147483647 : Int32)).toInt (b := y.toInt) (by omega)
  omega
theorem own_pn0 : plainName "com/example/sigillum/sigillum/cose/CborItemHeadBytePinLaw" = true := by first | (simp [plainName, overriddenIn]; done) | decide +kernel
theorem own_ef0 (m : MethodId) (x0 : Int32) (x1 : Int64) (x2 : Int32) (x3 : Int32) : entryFrame m #[(.int x0), (.long x1), (.int x2), (.int x3)] maxLocals = mkF m 0 #[.val (.int x0), .val (.long x1), .second, .val (.int x2), .val (.int x3), .unset, .unset, .unset, .unset, .unset, .unset, .unset] [] := by first | (simp [entryFrame, mkF, argsToLocals, Value.category, maxLocals]; done) | rfl
def own_Q0 (h0 : Heap) (n0 : Nat) (v : Option Value) (h : Heap) (L : List Loc) : Prop := v = some (.int (1 : Int32)) ∧ Fr n0 L
set_option maxRecDepth 65536 in
set_option maxHeartbeats 40000000 in
theorem rm0 (l : Launch) (Z : State) (a0 : Array Value) (hw : ∀ d ∈ tables_1, d.before a0 Z = true) (ws : List Jvm.Cond) (pm : Int32) (qa : Int64) (ps : Int32) (pi : Int32) (h0 : Heap) (n0 : Nat) (Z0 : n0 ≤ h0.size) :
    MetFree l x (head1 (Jvm.Cond.code x code maxLocals ret :: ws) room_1) (fun a U => a = #[(.int pm), (.long qa), (.int ps), (.int pi)] ∧ Z.Warmed39 U.vm ∧ U.heap = h0) (fun _ _ _ _ _ => True) (fun _ U o U' => ∃ v L, o = .returned v ∧ own_Q0  h0 n0 v U'.heap L ∧ FrameEnd U o U' L room_1.cells room_1.slots) := by
  refine MetFree.of_bodySF (plainFor_of_name own_pn0) hisR ?_
  intro p e s m args below meth c s₁ Bd hml0 hP hK
  obtain ⟨rfl, hZ, hh⟩ := hP
  have hx := Bd.exec
  have hby := Bd.bytes
  have hml : c.maxLocals = 12 := hml0
  have hown : s.vm.findClass "com/example/sigillum/sigillum/cose/CborItemHeadBytePinLaw" = some m.cls := findClass_of_methodNamed Bd.named
  have hnm := (name_of_methodNamed Bd.named Bd.method).1
  have X0 : Stand p l e room_1 s m #[(.int pm), (.long qa), (.int ps), (.int pi)] below meth c s₁ [] 0 0 := Stand.of_body Bd
  have e0 : s₁.heap = h0 := by rw [← hh, Bd.state]; rfl
  have N0 := Fr.nil n0
  refine own_pre (A := (s₁.setTop (mkF m 0 #[.val (.int pm), .val (.long qa), .second, .val (.int ps), .val (.int pi), .unset, .unset, .unset, .unset, .unset, .unset, .unset] []))) (fun t k => castTop (own_ef0 m pm qa ps pi) k) ?_
  refine own_pre (A := (s₁.setTop (mkF m 14 #[.val (.int pm), .val (.long qa), .second, .val (.int ps), .val (.int pi), .val (.int (pm &&& (7 : Int32))), .val (.long ((qa.toUInt64 >>> ((ps &&& (63 : Int32)) &&& 0x3f).toInt64.toUInt64).toInt64)), .second, .unset, .unset, .unset, .unset] []))) ?_ ?_
  · intro t k
    show Steps p.tables e below (s₁.setTop (mkF m 0 #[.val (.int pm), .val (.long qa), .second, .val (.int ps), .val (.int pi), .unset, .unset, .unset, .unset, .unset, .unset, .unset] [])) _
    refine XS.iloadN X0.here hx rfl (hb hby at_0) rfl ?_
    refine XS.bipush X0.here hx rfl (hb hby at_1) ?_
    refine XS.iand X0.here hx rfl (hb hby at_3) rfl ?_
    show Steps p.tables e below (s₁.setTop (mkF m 4 #[.val (.int pm), .val (.long qa), .second, .val (.int ps), .val (.int pi), .unset, .unset, .unset, .unset, .unset, .unset, .unset] [(.int (pm &&& (7 : Int32)))])) _
    refine XS.istore X0.here hx rfl (hb hby at_4) rfl (l' := #[.val (.int pm), .val (.long qa), .second, .val (.int ps), .val (.int pi), .val (.int (pm &&& (7 : Int32))), .unset, .unset, .unset, .unset, .unset, .unset]) rfl ?_
    refine XS.lloadN X0.here hx rfl (hb hby at_6) rfl ?_
    refine XS.iloadN X0.here hx rfl (hb hby at_7) rfl ?_
    refine XS.bipush X0.here hx rfl (hb hby at_8) ?_
    refine XS.iand X0.here hx rfl (hb hby at_10) rfl ?_
    refine XS.lushr X0.here hx rfl (hb hby at_11) rfl ?_
    show Steps p.tables e below (s₁.setTop (mkF m 12 #[.val (.int pm), .val (.long qa), .second, .val (.int ps), .val (.int pi), .val (.int (pm &&& (7 : Int32))), .unset, .unset, .unset, .unset, .unset, .unset] [(.long ((qa.toUInt64 >>> ((ps &&& (63 : Int32)) &&& 0x3f).toInt64.toUInt64).toInt64))])) _
    refine XS.lstore X0.here hx rfl (hb hby at_12) rfl (l' := #[.val (.int pm), .val (.long qa), .second, .val (.int ps), .val (.int pi), .val (.int (pm &&& (7 : Int32))), .val (.long ((qa.toUInt64 >>> ((ps &&& (63 : Int32)) &&& 0x3f).toInt64.toUInt64).toInt64)), .second, .unset, .unset, .unset, .unset]) rfl ?_
    exact k
  obtain ⟨qv, hqv⟩ : ∃ z : Int64, z = ((qa.toUInt64 >>> ((ps &&& (63 : Int32)) &&& 0x3f).toInt64.toUInt64).toInt64) := ⟨_, rfl⟩
  rw [← hqv]
  refine own_pre (A := (s₁.setTop (mkF m 18 #[.val (.int pm), .val (.long qa), .second, .val (.int ps), .val (.int pi), .val (.int (pm &&& (7 : Int32))), .val (.long qv), .second, .unset, .unset, .unset, .unset] [(.int (lcmpW qv (0 : Int64)))]))) ?_ ?_
  · intro t k
    show Steps p.tables e below (s₁.setTop (mkF m 14 #[.val (.int pm), .val (.long qa), .second, .val (.int ps), .val (.int pi), .val (.int (pm &&& (7 : Int32))), .val (.long qv), .second, .unset, .unset, .unset, .unset] [])) _
    refine XS.lload X0.here hx rfl (hb hby at_14) rfl ?_
    refine XS.lconst X0.here hx rfl (hb hby at_16) ?_
    refine XS.lcmp X0.here hx rfl (hb hby at_17) rfl ?_
    exact k
  by_cases hc29 : qv < (0 : Int64)
  · skip
    refine own_pre (A := (s₁.setTop (mkF m 41 #[.val (.int pm), .val (.long qa), .second, .val (.int ps), .val (.int pi), .val (.int (pm &&& (7 : Int32))), .val (.long qv), .second, .unset, .unset, .unset, .unset] []))) ?_ ?_
    · intro t k
      refine XS.ifYes X0.here hx rfl (pc0 := 18) (pc' := 41) rfl (hb hby at_18) rfl ((if0 _ _).trans (tlt ((lw_lt qv (0 : Int64)).mpr hc29)).1) (by decide) (by decide) ?_
      exact k
    refine own_pre (A := (s₁.setTop (mkF m 48 #[.val (.int pm), .val (.long qa), .second, .val (.int ps), .val (.int pi), .val (.int (pm &&& (7 : Int32))), .val (.long qv), .second, .unset, .unset, .unset, .unset] [(.int (lcmpW ((qv.toUInt64 >>> ((8 : Int32) &&& 0x3f).toInt64.toUInt64).toInt64) (0 : Int64)))]))) ?_ ?_
    · intro t k
      show Steps p.tables e below (s₁.setTop (mkF m 41 #[.val (.int pm), .val (.long qa), .second, .val (.int ps), .val (.int pi), .val (.int (pm &&& (7 : Int32))), .val (.long qv), .second, .unset, .unset, .unset, .unset] [])) _
      refine XS.lload X0.here hx rfl (hb hby at_41) rfl ?_
      refine XS.bipush X0.here hx rfl (hb hby at_43) ?_
      refine XS.lushr X0.here hx rfl (hb hby at_45) rfl ?_
      refine XS.lconst X0.here hx rfl (hb hby at_46) ?_
      refine XS.lcmp X0.here hx rfl (hb hby at_47) rfl ?_
      exact k
    by_cases hc30 : ((qv.toUInt64 >>> ((8 : Int32) &&& 0x3f).toInt64.toUInt64).toInt64) = (0 : Int64)
    · skip
      refine own_pre (A := (s₁.setTop (mkF m 51 #[.val (.int pm), .val (.long qa), .second, .val (.int ps), .val (.int pi), .val (.int (pm &&& (7 : Int32))), .val (.long qv), .second, .unset, .unset, .unset, .unset] []))) ?_ ?_
      · intro t k
        refine XS.ifNo X0.here hx rfl (hb hby at_48) rfl ((if0 _ _).trans (teq ((lw_eq ((qv.toUInt64 >>> ((8 : Int32) &&& 0x3f).toInt64.toUInt64).toInt64) (0 : Int64)).mpr hc30)).2) ?_
        exact k
      refine own_pre (A := (s₁.setTop (mkF m 121 #[.val (.int pm), .val (.long qa), .second, .val (.int ps), .val (.int pi), .val (.int (pm &&& (7 : Int32))), .val (.long qv), .second, .val (.int (2 : Int32)), .val (.int (24 : Int32)), .val (.int ((pi &&& (2147483647 : Int32)) % (2 : Int32))), .unset] [(.int ((pi &&& (2147483647 : Int32)) % (2 : Int32)))]))) ?_ ?_
      · intro t k
        show Steps p.tables e below (s₁.setTop (mkF m 51 #[.val (.int pm), .val (.long qa), .second, .val (.int ps), .val (.int pi), .val (.int (pm &&& (7 : Int32))), .val (.long qv), .second, .unset, .unset, .unset, .unset] [])) _
        refine XS.iconst X0.here hx rfl (hb hby at_51) ?_
        show Steps p.tables e below (s₁.setTop (mkF m 52 #[.val (.int pm), .val (.long qa), .second, .val (.int ps), .val (.int pi), .val (.int (pm &&& (7 : Int32))), .val (.long qv), .second, .unset, .unset, .unset, .unset] [(.int (2 : Int32))])) _
        refine XS.istore X0.here hx rfl (hb hby at_52) rfl (l' := #[.val (.int pm), .val (.long qa), .second, .val (.int ps), .val (.int pi), .val (.int (pm &&& (7 : Int32))), .val (.long qv), .second, .val (.int (2 : Int32)), .unset, .unset, .unset]) rfl ?_
        refine XS.bipush X0.here hx rfl (hb hby at_54) ?_
        show Steps p.tables e below (s₁.setTop (mkF m 56 #[.val (.int pm), .val (.long qa), .second, .val (.int ps), .val (.int pi), .val (.int (pm &&& (7 : Int32))), .val (.long qv), .second, .val (.int (2 : Int32)), .unset, .unset, .unset] [(.int (24 : Int32))])) _
        refine XS.istore X0.here hx rfl (hb hby at_56) rfl (l' := #[.val (.int pm), .val (.long qa), .second, .val (.int ps), .val (.int pi), .val (.int (pm &&& (7 : Int32))), .val (.long qv), .second, .val (.int (2 : Int32)), .val (.int (24 : Int32)), .unset, .unset]) rfl ?_
        show Steps p.tables e below (s₁.setTop (mkF m 58 #[.val (.int pm), .val (.long qa), .second, .val (.int ps), .val (.int pi), .val (.int (pm &&& (7 : Int32))), .val (.long qv), .second, .val (.int (2 : Int32)), .val (.int (24 : Int32)), .unset, .unset] [])) _
        refine XS.goto X0.here hx rfl (pc0 := 58) (pc' := 109) rfl (hb hby at_58) (by decide) (by decide) ?_
        refine XS.iload X0.here hx rfl (hb hby at_109) rfl ?_
        show Steps p.tables e below (s₁.setTop (mkF m 111 #[.val (.int pm), .val (.long qa), .second, .val (.int ps), .val (.int pi), .val (.int (pm &&& (7 : Int32))), .val (.long qv), .second, .val (.int (2 : Int32)), .val (.int (24 : Int32)), .unset, .unset] [(.int pi)])) _
        refine X0.ldcInt hx hown (mvT hZ (own_w hw 1 rfl)) (g := (mkF m 111 #[.val (.int pm), .val (.long qa), .second, .val (.int ps), .val (.int pi), .val (.int (pm &&& (7 : Int32))), .val (.long qv), .second, .val (.int (2 : Int32)), .val (.int (24 : Int32)), .unset, .unset] [(.int pi)])) rfl (hb hby at_111) _ ?_
        show Steps p.tables e below (s₁.setTop (mkF m 113 #[.val (.int pm), .val (.long qa), .second, .val (.int ps), .val (.int pi), .val (.int (pm &&& (7 : Int32))), .val (.long qv), .second, .val (.int (2 : Int32)), .val (.int (24 : Int32)), .unset, .unset] [(.int (2147483647 : Int32)), (.int pi)])) _
        refine XS.iand X0.here hx rfl (hb hby at_113) rfl ?_
        refine XS.iload X0.here hx rfl (hb hby at_114) rfl ?_
        show Steps p.tables e below (s₁.setTop (mkF m 116 #[.val (.int pm), .val (.long qa), .second, .val (.int ps), .val (.int pi), .val (.int (pm &&& (7 : Int32))), .val (.long qv), .second, .val (.int (2 : Int32)), .val (.int (24 : Int32)), .unset, .unset] [(.int (2 : Int32)), (.int (pi &&& (2147483647 : Int32)))])) _
        refine iremM X0 hx rfl (hb hby at_116) rfl (by decide) ?_
        show Steps p.tables e below (s₁.setTop (mkF m 117 #[.val (.int pm), .val (.long qa), .second, .val (.int ps), .val (.int pi), .val (.int (pm &&& (7 : Int32))), .val (.long qv), .second, .val (.int (2 : Int32)), .val (.int (24 : Int32)), .unset, .unset] [(.int ((pi &&& (2147483647 : Int32)) % (2 : Int32)))])) _
        refine XS.istore X0.here hx rfl (hb hby at_117) rfl (l' := #[.val (.int pm), .val (.long qa), .second, .val (.int ps), .val (.int pi), .val (.int (pm &&& (7 : Int32))), .val (.long qv), .second, .val (.int (2 : Int32)), .val (.int (24 : Int32)), .val (.int ((pi &&& (2147483647 : Int32)) % (2 : Int32))), .unset]) rfl ?_
        refine XS.iload X0.here hx rfl (hb hby at_119) rfl ?_
        exact k
      obtain ⟨v32, hv32⟩ : ∃ z : Int32, z = (if ((pi &&& (2147483647 : Int32)) % (2 : Int32)) = (0 : Int32) then (((pm &&& (7 : Int32)) <<< ((5 : Int32) &&& 31)) ||| (24 : Int32)) else ((((qv.toUInt64 >>> (((8 : Int32) * ((1 : Int32) - ((pi &&& (2147483647 : Int32)) % (2 : Int32)))) &&& 0x3f).toInt64.toUInt64).toInt64) &&& (255 : Int64)).toInt32)) := ⟨_, rfl⟩
      refine own_pre (A := (s₁.setTop (mkF m 156 #[.val (.int pm), .val (.long qa), .second, .val (.int ps), .val (.int pi), .val (.int (pm &&& (7 : Int32))), .val (.long qv), .second, .val (.int (2 : Int32)), .val (.int (24 : Int32)), .val (.int ((pi &&& (2147483647 : Int32)) % (2 : Int32))), .val (.int v32)] []))) ?_ ?_
      · intro t k
        show Steps p.tables e below (s₁.setTop (mkF m 121 #[.val (.int pm), .val (.long qa), .second, .val (.int ps), .val (.int pi), .val (.int (pm &&& (7 : Int32))), .val (.long qv), .second, .val (.int (2 : Int32)), .val (.int (24 : Int32)), .val (.int ((pi &&& (2147483647 : Int32)) % (2 : Int32))), .unset] [(.int ((pi &&& (2147483647 : Int32)) % (2 : Int32)))])) _
        by_cases hc31 : ((pi &&& (2147483647 : Int32)) % (2 : Int32)) = (0 : Int32)
        · skip
          refine XS.ifNo X0.here hx rfl (hb hby at_121) rfl ((if0 _ _).trans (teq hc31).2) ?_
          refine XS.iload X0.here hx rfl (hb hby at_124) rfl ?_
          refine XS.iconst X0.here hx rfl (hb hby at_126) ?_
          refine XS.ishl X0.here hx rfl (hb hby at_127) rfl ?_
          refine XS.iload X0.here hx rfl (hb hby at_128) rfl ?_
          refine XS.ior X0.here hx rfl (hb hby at_130) rfl ?_
          show Steps p.tables e below (s₁.setTop (mkF m 131 #[.val (.int pm), .val (.long qa), .second, .val (.int ps), .val (.int pi), .val (.int (pm &&& (7 : Int32))), .val (.long qv), .second, .val (.int (2 : Int32)), .val (.int (24 : Int32)), .val (.int ((pi &&& (2147483647 : Int32)) % (2 : Int32))), .unset] [(.int (((pm &&& (7 : Int32)) <<< ((5 : Int32) &&& 31)) ||| (24 : Int32)))])) _
          refine XS.istore X0.here hx rfl (hb hby at_131) rfl (l' := #[.val (.int pm), .val (.long qa), .second, .val (.int ps), .val (.int pi), .val (.int (pm &&& (7 : Int32))), .val (.long qv), .second, .val (.int (2 : Int32)), .val (.int (24 : Int32)), .val (.int ((pi &&& (2147483647 : Int32)) % (2 : Int32))), .val (.int (((pm &&& (7 : Int32)) <<< ((5 : Int32) &&& 31)) ||| (24 : Int32)))]) rfl ?_
          show Steps p.tables e below (s₁.setTop (mkF m 133 #[.val (.int pm), .val (.long qa), .second, .val (.int ps), .val (.int pi), .val (.int (pm &&& (7 : Int32))), .val (.long qv), .second, .val (.int (2 : Int32)), .val (.int (24 : Int32)), .val (.int ((pi &&& (2147483647 : Int32)) % (2 : Int32))), .val (.int (((pm &&& (7 : Int32)) <<< ((5 : Int32) &&& 31)) ||| (24 : Int32)))] [])) _
          refine XS.goto X0.here hx rfl (pc0 := 133) (pc' := 156) rfl (hb hby at_133) (by decide) (by decide) ?_
          rw [show v32 = (((pm &&& (7 : Int32)) <<< ((5 : Int32) &&& 31)) ||| (24 : Int32)) from hv32.trans (by simp only [if_pos hc31])] at k
          exact k
        · skip
          refine XS.ifYes X0.here hx rfl (pc0 := 121) (pc' := 136) rfl (hb hby at_121) rfl ((if0 _ _).trans (feq hc31).2) (by decide) (by decide) ?_
          refine XS.lload X0.here hx rfl (hb hby at_136) rfl ?_
          refine XS.bipush X0.here hx rfl (hb hby at_138) ?_
          refine XS.iload X0.here hx rfl (hb hby at_140) rfl ?_
          refine XS.iconst X0.here hx rfl (hb hby at_142) ?_
          refine XS.isub X0.here hx rfl (hb hby at_143) rfl ?_
          show Steps p.tables e below (s₁.setTop (mkF m 144 #[.val (.int pm), .val (.long qa), .second, .val (.int ps), .val (.int pi), .val (.int (pm &&& (7 : Int32))), .val (.long qv), .second, .val (.int (2 : Int32)), .val (.int (24 : Int32)), .val (.int ((pi &&& (2147483647 : Int32)) % (2 : Int32))), .unset] [(.int ((2 : Int32) - (1 : Int32))), (.int (8 : Int32)), (.long qv)])) _
          rw [show ((2 : Int32) - (1 : Int32)) = (1 : Int32) from by decide]
          show Steps p.tables e below (s₁.setTop (mkF m 144 #[.val (.int pm), .val (.long qa), .second, .val (.int ps), .val (.int pi), .val (.int (pm &&& (7 : Int32))), .val (.long qv), .second, .val (.int (2 : Int32)), .val (.int (24 : Int32)), .val (.int ((pi &&& (2147483647 : Int32)) % (2 : Int32))), .unset] [(.int (1 : Int32)), (.int (8 : Int32)), (.long qv)])) _
          refine XS.iload X0.here hx rfl (hb hby at_144) rfl ?_
          refine XS.isub X0.here hx rfl (hb hby at_146) rfl ?_
          refine XS.imul X0.here hx rfl (hb hby at_147) rfl ?_
          refine XS.lushr X0.here hx rfl (hb hby at_148) rfl ?_
          show Steps p.tables e below (s₁.setTop (mkF m 149 #[.val (.int pm), .val (.long qa), .second, .val (.int ps), .val (.int pi), .val (.int (pm &&& (7 : Int32))), .val (.long qv), .second, .val (.int (2 : Int32)), .val (.int (24 : Int32)), .val (.int ((pi &&& (2147483647 : Int32)) % (2 : Int32))), .unset] [(.long ((qv.toUInt64 >>> (((8 : Int32) * ((1 : Int32) - ((pi &&& (2147483647 : Int32)) % (2 : Int32)))) &&& 0x3f).toInt64.toUInt64).toInt64))])) _
          refine X0.ldc2Long hx hown (mvT hZ (own_w hw 18 rfl)) (g := (mkF m 149 #[.val (.int pm), .val (.long qa), .second, .val (.int ps), .val (.int pi), .val (.int (pm &&& (7 : Int32))), .val (.long qv), .second, .val (.int (2 : Int32)), .val (.int (24 : Int32)), .val (.int ((pi &&& (2147483647 : Int32)) % (2 : Int32))), .unset] [(.long ((qv.toUInt64 >>> (((8 : Int32) * ((1 : Int32) - ((pi &&& (2147483647 : Int32)) % (2 : Int32)))) &&& 0x3f).toInt64.toUInt64).toInt64))])) rfl (hb hby at_149) _ ?_
          show Steps p.tables e below (s₁.setTop (mkF m 152 #[.val (.int pm), .val (.long qa), .second, .val (.int ps), .val (.int pi), .val (.int (pm &&& (7 : Int32))), .val (.long qv), .second, .val (.int (2 : Int32)), .val (.int (24 : Int32)), .val (.int ((pi &&& (2147483647 : Int32)) % (2 : Int32))), .unset] [(.long (255 : Int64)), (.long ((qv.toUInt64 >>> (((8 : Int32) * ((1 : Int32) - ((pi &&& (2147483647 : Int32)) % (2 : Int32)))) &&& 0x3f).toInt64.toUInt64).toInt64))])) _
          refine XS.land X0.here hx rfl (hb hby at_152) rfl ?_
          refine XS.l2i X0.here hx rfl (hb hby at_153) rfl ?_
          show Steps p.tables e below (s₁.setTop (mkF m 154 #[.val (.int pm), .val (.long qa), .second, .val (.int ps), .val (.int pi), .val (.int (pm &&& (7 : Int32))), .val (.long qv), .second, .val (.int (2 : Int32)), .val (.int (24 : Int32)), .val (.int ((pi &&& (2147483647 : Int32)) % (2 : Int32))), .unset] [(.int ((((qv.toUInt64 >>> (((8 : Int32) * ((1 : Int32) - ((pi &&& (2147483647 : Int32)) % (2 : Int32)))) &&& 0x3f).toInt64.toUInt64).toInt64) &&& (255 : Int64)).toInt32))])) _
          refine XS.istore X0.here hx rfl (hb hby at_154) rfl (l' := #[.val (.int pm), .val (.long qa), .second, .val (.int ps), .val (.int pi), .val (.int (pm &&& (7 : Int32))), .val (.long qv), .second, .val (.int (2 : Int32)), .val (.int (24 : Int32)), .val (.int ((pi &&& (2147483647 : Int32)) % (2 : Int32))), .val (.int ((((qv.toUInt64 >>> (((8 : Int32) * ((1 : Int32) - ((pi &&& (2147483647 : Int32)) % (2 : Int32)))) &&& 0x3f).toInt64.toUInt64).toInt64) &&& (255 : Int64)).toInt32))]) rfl ?_
          rw [show v32 = ((((qv.toUInt64 >>> (((8 : Int32) * ((1 : Int32) - ((pi &&& (2147483647 : Int32)) % (2 : Int32)))) &&& 0x3f).toInt64.toUInt64).toInt64) &&& (255 : Int64)).toInt32) from hv32.trans (by simp only [if_neg hc31])] at k
          exact k
      refine own_pre (A := (s₁.setTop (mkF m 162 #[.val (.int pm), .val (.long qa), .second, .val (.int ps), .val (.int pi), .val (.int (pm &&& (7 : Int32))), .val (.long qv), .second, .val (.int (2 : Int32)), .val (.int (24 : Int32)), .val (.int ((pi &&& (2147483647 : Int32)) % (2 : Int32))), .val (.int v32)] [(.int ((pi &&& (2147483647 : Int32)) % (2 : Int32))), (.long qv), (.int (pm &&& (7 : Int32)))]))) ?_ ?_
      · intro t k
        show Steps p.tables e below (s₁.setTop (mkF m 156 #[.val (.int pm), .val (.long qa), .second, .val (.int ps), .val (.int pi), .val (.int (pm &&& (7 : Int32))), .val (.long qv), .second, .val (.int (2 : Int32)), .val (.int (24 : Int32)), .val (.int ((pi &&& (2147483647 : Int32)) % (2 : Int32))), .val (.int v32)] [])) _
        refine XS.iload X0.here hx rfl (hb hby at_156) rfl ?_
        refine XS.lload X0.here hx rfl (hb hby at_158) rfl ?_
        refine XS.iload X0.here hx rfl (hb hby at_160) rfl ?_
        exact k
      obtain ⟨_, _, ⟨T33, L33, k33, n33⟩, -, X33, ⟨Lc33, hQ33, l33, y33, z33⟩, st33⟩ := Jvm.LawKit.callS X0 hx (y := (⟨"com/example/sigillum/sigillum/cose/CborItem", "headByte", "(IJI)I"⟩ : MethodName)) hown (mvT hZ (own_w hw 2 rfl)) (mvT hZ (own_w hw 3 rfl)) (mvT hZ (own_w hw 4 rfl)) (mvT hZ (own_w hw 5 rfl)) (by decide) (backOf (W := 0) (rm1 l Z a0 hw [] (pm &&& (7 : Int32)) qv ((pi &&& (2147483647 : Int32)) % (2 : Int32)) h0 n0 Z0) hZ (own_w hw 5 rfl) (own_w hw 4 rfl) (by decide) (by decide)) (g := (mkF m 162 #[.val (.int pm), .val (.long qa), .second, .val (.int ps), .val (.int pi), .val (.int (pm &&& (7 : Int32))), .val (.long qv), .second, .val (.int (2 : Int32)), .val (.int (24 : Int32)), .val (.int ((pi &&& (2147483647 : Int32)) % (2 : Int32))), .val (.int v32)] [(.int ((pi &&& (2147483647 : Int32)) % (2 : Int32))), (.long qv), (.int (pm &&& (7 : Int32)))])) rfl (by rw [hml]; rfl) (argsL := [(.int (pm &&& (7 : Int32))), (.long qv), (.int ((pi &&& (2147483647 : Int32)) % (2 : Int32)))]) (rest := []) (lenOf own_pd3 rfl) rfl (by show 2 * 0 + _ ≤ _; exact Nat.le_of_eq rfl) (hb hby at_162) (fun _ _ => ⟨rfl, e0, (by decide : 0 + 0 ≤ _), (by decide : 0 + 0 ≤ _)⟩)
      dsimp only [Pt.U, Pt.locs, Pt.cells, Pt.slots] at X33 l33 y33 z33 st33 hQ33
      subst l33 y33 z33
      obtain ⟨rfl, Nq33, eq33⟩ := hQ33
      have N33 := Fr.app N0 Nq33
      refine own_pre (fun t k => st33 t k) ?_
      refine own_pre (A := (T33.setTop (mkF m 167 #[.val (.int pm), .val (.long qa), .second, .val (.int ps), .val (.int pi), .val (.int (pm &&& (7 : Int32))), .val (.long qv), .second, .val (.int (2 : Int32)), .val (.int (24 : Int32)), .val (.int ((pi &&& (2147483647 : Int32)) % (2 : Int32))), .val (.int v32)] [(.int v32), (.int (own_hb (pm &&& (7 : Int32)) qv ((pi &&& (2147483647 : Int32)) % (2 : Int32))))]))) ?_ ?_
      · intro t k
        show Steps p.tables e below (T33.setTop (mkF m 165 #[.val (.int pm), .val (.long qa), .second, .val (.int ps), .val (.int pi), .val (.int (pm &&& (7 : Int32))), .val (.long qv), .second, .val (.int (2 : Int32)), .val (.int (24 : Int32)), .val (.int ((pi &&& (2147483647 : Int32)) % (2 : Int32))), .val (.int v32)] [(.int (own_hb (pm &&& (7 : Int32)) qv ((pi &&& (2147483647 : Int32)) % (2 : Int32))))])) _
        refine XS.iload X33.here hx rfl (hb hby at_165) rfl ?_
        exact k
      obtain ⟨v35, hv35⟩ : ∃ z : Int32, z = (if (own_hb (pm &&& (7 : Int32)) qv ((pi &&& (2147483647 : Int32)) % (2 : Int32))) = v32 then (1 : Int32) else (0 : Int32)) := ⟨_, rfl⟩
      refine own_pre (A := (T33.setTop (mkF m 175 #[.val (.int pm), .val (.long qa), .second, .val (.int ps), .val (.int pi), .val (.int (pm &&& (7 : Int32))), .val (.long qv), .second, .val (.int (2 : Int32)), .val (.int (24 : Int32)), .val (.int ((pi &&& (2147483647 : Int32)) % (2 : Int32))), .val (.int v32)] [(.int v35)]))) ?_ ?_
      · intro t k
        show Steps p.tables e below (T33.setTop (mkF m 167 #[.val (.int pm), .val (.long qa), .second, .val (.int ps), .val (.int pi), .val (.int (pm &&& (7 : Int32))), .val (.long qv), .second, .val (.int (2 : Int32)), .val (.int (24 : Int32)), .val (.int ((pi &&& (2147483647 : Int32)) % (2 : Int32))), .val (.int v32)] [(.int v32), (.int (own_hb (pm &&& (7 : Int32)) qv ((pi &&& (2147483647 : Int32)) % (2 : Int32))))])) _
        by_cases hc34 : (own_hb (pm &&& (7 : Int32)) qv ((pi &&& (2147483647 : Int32)) % (2 : Int32))) = v32
        · skip
          refine XS.icmpNo X33.here hx rfl (hb hby at_167) rfl (teq hc34).2 ?_
          refine XS.iconst X33.here hx rfl (hb hby at_170) ?_
          show Steps p.tables e below (T33.setTop (mkF m 171 #[.val (.int pm), .val (.long qa), .second, .val (.int ps), .val (.int pi), .val (.int (pm &&& (7 : Int32))), .val (.long qv), .second, .val (.int (2 : Int32)), .val (.int (24 : Int32)), .val (.int ((pi &&& (2147483647 : Int32)) % (2 : Int32))), .val (.int v32)] [(.int (1 : Int32))])) _
          refine XS.goto X33.here hx rfl (pc0 := 171) (pc' := 175) rfl (hb hby at_171) (by decide) (by decide) ?_
          rw [show v35 = (1 : Int32) from hv35.trans (by simp only [if_pos hc34])] at k
          exact k
        · skip
          refine XS.icmpYes X33.here hx rfl (pc0 := 167) (pc' := 174) rfl (hb hby at_167) rfl (feq hc34).2 (by decide) (by decide) ?_
          refine XS.iconst X33.here hx rfl (hb hby at_174) ?_
          rw [show v35 = (0 : Int32) from hv35.trans (by simp only [if_neg hc34])] at k
          exact k
      have hl : own_hl qv = (2 : Int32) := by rw [own_eq]; simp only [own_exp, if_pos hc29, if_pos hc30]
      have hb' := own_hbK (pm &&& (7 : Int32)) qv ((pi &&& (2147483647 : Int32)) % (2 : Int32)) (2 : Int32) (1 : Int32) (24 : Int32) hl (by decide) (by decide) (by decide +kernel) (own_remP pi (2 : Int32) (by decide))
      rw [← hv32] at hb'
      have hz : v35 = (1 : Int32) := by rw [hv35, if_pos hb']
      rw [hz]
      obtain ⟨fs, hr, hrun, hended, hW, hsame⟩ := X33.leave (hlocks := BodyLoose.notSynchronized Bd) (v := some (.int (1 : Int32))) (fun h => by rw [Bd.returns] at h; cases h)
      refine ⟨_, _, retOut X33 hx Bd.returns rfl (Or.inl ⟨rfl, Or.inr (Or.inl rfl), _, rfl⟩) (hb hby at_175) hr, hrun, hended, _, _, rfl, ?_, ⟨_, rfl⟩, hW, hsame.mono (by decide) (by decide)⟩
      show own_Q0 h0 n0 _ T33.heap _
      rw [eq33]
      exact ⟨rfl, N33⟩
    · skip
      refine own_pre (A := (s₁.setTop (mkF m 61 #[.val (.int pm), .val (.long qa), .second, .val (.int ps), .val (.int pi), .val (.int (pm &&& (7 : Int32))), .val (.long qv), .second, .unset, .unset, .unset, .unset] []))) ?_ ?_
      · intro t k
        refine XS.ifYes X0.here hx rfl (pc0 := 48) (pc' := 61) rfl (hb hby at_48) rfl ((if0 _ _).trans (feq (fun q => hc30 ((lw_eq ((qv.toUInt64 >>> ((8 : Int32) &&& 0x3f).toInt64.toUInt64).toInt64) (0 : Int64)).mp q))).2) (by decide) (by decide) ?_
        exact k
      refine own_pre (A := (s₁.setTop (mkF m 68 #[.val (.int pm), .val (.long qa), .second, .val (.int ps), .val (.int pi), .val (.int (pm &&& (7 : Int32))), .val (.long qv), .second, .unset, .unset, .unset, .unset] [(.int (lcmpW ((qv.toUInt64 >>> ((16 : Int32) &&& 0x3f).toInt64.toUInt64).toInt64) (0 : Int64)))]))) ?_ ?_
      · intro t k
        show Steps p.tables e below (s₁.setTop (mkF m 61 #[.val (.int pm), .val (.long qa), .second, .val (.int ps), .val (.int pi), .val (.int (pm &&& (7 : Int32))), .val (.long qv), .second, .unset, .unset, .unset, .unset] [])) _
        refine XS.lload X0.here hx rfl (hb hby at_61) rfl ?_
        refine XS.bipush X0.here hx rfl (hb hby at_63) ?_
        refine XS.lushr X0.here hx rfl (hb hby at_65) rfl ?_
        refine XS.lconst X0.here hx rfl (hb hby at_66) ?_
        refine XS.lcmp X0.here hx rfl (hb hby at_67) rfl ?_
        exact k
      by_cases hc36 : ((qv.toUInt64 >>> ((16 : Int32) &&& 0x3f).toInt64.toUInt64).toInt64) = (0 : Int64)
      · skip
        refine own_pre (A := (s₁.setTop (mkF m 71 #[.val (.int pm), .val (.long qa), .second, .val (.int ps), .val (.int pi), .val (.int (pm &&& (7 : Int32))), .val (.long qv), .second, .unset, .unset, .unset, .unset] []))) ?_ ?_
        · intro t k
          refine XS.ifNo X0.here hx rfl (hb hby at_68) rfl ((if0 _ _).trans (teq ((lw_eq ((qv.toUInt64 >>> ((16 : Int32) &&& 0x3f).toInt64.toUInt64).toInt64) (0 : Int64)).mpr hc36)).2) ?_
          exact k
        refine own_pre (A := (s₁.setTop (mkF m 121 #[.val (.int pm), .val (.long qa), .second, .val (.int ps), .val (.int pi), .val (.int (pm &&& (7 : Int32))), .val (.long qv), .second, .val (.int (3 : Int32)), .val (.int (25 : Int32)), .val (.int ((pi &&& (2147483647 : Int32)) % (3 : Int32))), .unset] [(.int ((pi &&& (2147483647 : Int32)) % (3 : Int32)))]))) ?_ ?_
        · intro t k
          show Steps p.tables e below (s₁.setTop (mkF m 71 #[.val (.int pm), .val (.long qa), .second, .val (.int ps), .val (.int pi), .val (.int (pm &&& (7 : Int32))), .val (.long qv), .second, .unset, .unset, .unset, .unset] [])) _
          refine XS.iconst X0.here hx rfl (hb hby at_71) ?_
          show Steps p.tables e below (s₁.setTop (mkF m 72 #[.val (.int pm), .val (.long qa), .second, .val (.int ps), .val (.int pi), .val (.int (pm &&& (7 : Int32))), .val (.long qv), .second, .unset, .unset, .unset, .unset] [(.int (3 : Int32))])) _
          refine XS.istore X0.here hx rfl (hb hby at_72) rfl (l' := #[.val (.int pm), .val (.long qa), .second, .val (.int ps), .val (.int pi), .val (.int (pm &&& (7 : Int32))), .val (.long qv), .second, .val (.int (3 : Int32)), .unset, .unset, .unset]) rfl ?_
          refine XS.bipush X0.here hx rfl (hb hby at_74) ?_
          show Steps p.tables e below (s₁.setTop (mkF m 76 #[.val (.int pm), .val (.long qa), .second, .val (.int ps), .val (.int pi), .val (.int (pm &&& (7 : Int32))), .val (.long qv), .second, .val (.int (3 : Int32)), .unset, .unset, .unset] [(.int (25 : Int32))])) _
          refine XS.istore X0.here hx rfl (hb hby at_76) rfl (l' := #[.val (.int pm), .val (.long qa), .second, .val (.int ps), .val (.int pi), .val (.int (pm &&& (7 : Int32))), .val (.long qv), .second, .val (.int (3 : Int32)), .val (.int (25 : Int32)), .unset, .unset]) rfl ?_
          show Steps p.tables e below (s₁.setTop (mkF m 78 #[.val (.int pm), .val (.long qa), .second, .val (.int ps), .val (.int pi), .val (.int (pm &&& (7 : Int32))), .val (.long qv), .second, .val (.int (3 : Int32)), .val (.int (25 : Int32)), .unset, .unset] [])) _
          refine XS.goto X0.here hx rfl (pc0 := 78) (pc' := 109) rfl (hb hby at_78) (by decide) (by decide) ?_
          refine XS.iload X0.here hx rfl (hb hby at_109) rfl ?_
          show Steps p.tables e below (s₁.setTop (mkF m 111 #[.val (.int pm), .val (.long qa), .second, .val (.int ps), .val (.int pi), .val (.int (pm &&& (7 : Int32))), .val (.long qv), .second, .val (.int (3 : Int32)), .val (.int (25 : Int32)), .unset, .unset] [(.int pi)])) _
          refine X0.ldcInt hx hown (mvT hZ (own_w hw 1 rfl)) (g := (mkF m 111 #[.val (.int pm), .val (.long qa), .second, .val (.int ps), .val (.int pi), .val (.int (pm &&& (7 : Int32))), .val (.long qv), .second, .val (.int (3 : Int32)), .val (.int (25 : Int32)), .unset, .unset] [(.int pi)])) rfl (hb hby at_111) _ ?_
          show Steps p.tables e below (s₁.setTop (mkF m 113 #[.val (.int pm), .val (.long qa), .second, .val (.int ps), .val (.int pi), .val (.int (pm &&& (7 : Int32))), .val (.long qv), .second, .val (.int (3 : Int32)), .val (.int (25 : Int32)), .unset, .unset] [(.int (2147483647 : Int32)), (.int pi)])) _
          refine XS.iand X0.here hx rfl (hb hby at_113) rfl ?_
          refine XS.iload X0.here hx rfl (hb hby at_114) rfl ?_
          show Steps p.tables e below (s₁.setTop (mkF m 116 #[.val (.int pm), .val (.long qa), .second, .val (.int ps), .val (.int pi), .val (.int (pm &&& (7 : Int32))), .val (.long qv), .second, .val (.int (3 : Int32)), .val (.int (25 : Int32)), .unset, .unset] [(.int (3 : Int32)), (.int (pi &&& (2147483647 : Int32)))])) _
          refine iremM X0 hx rfl (hb hby at_116) rfl (by decide) ?_
          show Steps p.tables e below (s₁.setTop (mkF m 117 #[.val (.int pm), .val (.long qa), .second, .val (.int ps), .val (.int pi), .val (.int (pm &&& (7 : Int32))), .val (.long qv), .second, .val (.int (3 : Int32)), .val (.int (25 : Int32)), .unset, .unset] [(.int ((pi &&& (2147483647 : Int32)) % (3 : Int32)))])) _
          refine XS.istore X0.here hx rfl (hb hby at_117) rfl (l' := #[.val (.int pm), .val (.long qa), .second, .val (.int ps), .val (.int pi), .val (.int (pm &&& (7 : Int32))), .val (.long qv), .second, .val (.int (3 : Int32)), .val (.int (25 : Int32)), .val (.int ((pi &&& (2147483647 : Int32)) % (3 : Int32))), .unset]) rfl ?_
          refine XS.iload X0.here hx rfl (hb hby at_119) rfl ?_
          exact k
        obtain ⟨v38, hv38⟩ : ∃ z : Int32, z = (if ((pi &&& (2147483647 : Int32)) % (3 : Int32)) = (0 : Int32) then (((pm &&& (7 : Int32)) <<< ((5 : Int32) &&& 31)) ||| (25 : Int32)) else ((((qv.toUInt64 >>> (((8 : Int32) * ((2 : Int32) - ((pi &&& (2147483647 : Int32)) % (3 : Int32)))) &&& 0x3f).toInt64.toUInt64).toInt64) &&& (255 : Int64)).toInt32)) := ⟨_, rfl⟩
        refine own_pre (A := (s₁.setTop (mkF m 156 #[.val (.int pm), .val (.long qa), .second, .val (.int ps), .val (.int pi), .val (.int (pm &&& (7 : Int32))), .val (.long qv), .second, .val (.int (3 : Int32)), .val (.int (25 : Int32)), .val (.int ((pi &&& (2147483647 : Int32)) % (3 : Int32))), .val (.int v38)] []))) ?_ ?_
        · intro t k
          show Steps p.tables e below (s₁.setTop (mkF m 121 #[.val (.int pm), .val (.long qa), .second, .val (.int ps), .val (.int pi), .val (.int (pm &&& (7 : Int32))), .val (.long qv), .second, .val (.int (3 : Int32)), .val (.int (25 : Int32)), .val (.int ((pi &&& (2147483647 : Int32)) % (3 : Int32))), .unset] [(.int ((pi &&& (2147483647 : Int32)) % (3 : Int32)))])) _
          by_cases hc37 : ((pi &&& (2147483647 : Int32)) % (3 : Int32)) = (0 : Int32)
          · skip
            refine XS.ifNo X0.here hx rfl (hb hby at_121) rfl ((if0 _ _).trans (teq hc37).2) ?_
            refine XS.iload X0.here hx rfl (hb hby at_124) rfl ?_
            refine XS.iconst X0.here hx rfl (hb hby at_126) ?_
            refine XS.ishl X0.here hx rfl (hb hby at_127) rfl ?_
            refine XS.iload X0.here hx rfl (hb hby at_128) rfl ?_
            refine XS.ior X0.here hx rfl (hb hby at_130) rfl ?_
            show Steps p.tables e below (s₁.setTop (mkF m 131 #[.val (.int pm), .val (.long qa), .second, .val (.int ps), .val (.int pi), .val (.int (pm &&& (7 : Int32))), .val (.long qv), .second, .val (.int (3 : Int32)), .val (.int (25 : Int32)), .val (.int ((pi &&& (2147483647 : Int32)) % (3 : Int32))), .unset] [(.int (((pm &&& (7 : Int32)) <<< ((5 : Int32) &&& 31)) ||| (25 : Int32)))])) _
            refine XS.istore X0.here hx rfl (hb hby at_131) rfl (l' := #[.val (.int pm), .val (.long qa), .second, .val (.int ps), .val (.int pi), .val (.int (pm &&& (7 : Int32))), .val (.long qv), .second, .val (.int (3 : Int32)), .val (.int (25 : Int32)), .val (.int ((pi &&& (2147483647 : Int32)) % (3 : Int32))), .val (.int (((pm &&& (7 : Int32)) <<< ((5 : Int32) &&& 31)) ||| (25 : Int32)))]) rfl ?_
            show Steps p.tables e below (s₁.setTop (mkF m 133 #[.val (.int pm), .val (.long qa), .second, .val (.int ps), .val (.int pi), .val (.int (pm &&& (7 : Int32))), .val (.long qv), .second, .val (.int (3 : Int32)), .val (.int (25 : Int32)), .val (.int ((pi &&& (2147483647 : Int32)) % (3 : Int32))), .val (.int (((pm &&& (7 : Int32)) <<< ((5 : Int32) &&& 31)) ||| (25 : Int32)))] [])) _
            refine XS.goto X0.here hx rfl (pc0 := 133) (pc' := 156) rfl (hb hby at_133) (by decide) (by decide) ?_
            rw [show v38 = (((pm &&& (7 : Int32)) <<< ((5 : Int32) &&& 31)) ||| (25 : Int32)) from hv38.trans (by simp only [if_pos hc37])] at k
            exact k
          · skip
            refine XS.ifYes X0.here hx rfl (pc0 := 121) (pc' := 136) rfl (hb hby at_121) rfl ((if0 _ _).trans (feq hc37).2) (by decide) (by decide) ?_
            refine XS.lload X0.here hx rfl (hb hby at_136) rfl ?_
            refine XS.bipush X0.here hx rfl (hb hby at_138) ?_
            refine XS.iload X0.here hx rfl (hb hby at_140) rfl ?_
            refine XS.iconst X0.here hx rfl (hb hby at_142) ?_
            refine XS.isub X0.here hx rfl (hb hby at_143) rfl ?_
            show Steps p.tables e below (s₁.setTop (mkF m 144 #[.val (.int pm), .val (.long qa), .second, .val (.int ps), .val (.int pi), .val (.int (pm &&& (7 : Int32))), .val (.long qv), .second, .val (.int (3 : Int32)), .val (.int (25 : Int32)), .val (.int ((pi &&& (2147483647 : Int32)) % (3 : Int32))), .unset] [(.int ((3 : Int32) - (1 : Int32))), (.int (8 : Int32)), (.long qv)])) _
            rw [show ((3 : Int32) - (1 : Int32)) = (2 : Int32) from by decide]
            show Steps p.tables e below (s₁.setTop (mkF m 144 #[.val (.int pm), .val (.long qa), .second, .val (.int ps), .val (.int pi), .val (.int (pm &&& (7 : Int32))), .val (.long qv), .second, .val (.int (3 : Int32)), .val (.int (25 : Int32)), .val (.int ((pi &&& (2147483647 : Int32)) % (3 : Int32))), .unset] [(.int (2 : Int32)), (.int (8 : Int32)), (.long qv)])) _
            refine XS.iload X0.here hx rfl (hb hby at_144) rfl ?_
            refine XS.isub X0.here hx rfl (hb hby at_146) rfl ?_
            refine XS.imul X0.here hx rfl (hb hby at_147) rfl ?_
            refine XS.lushr X0.here hx rfl (hb hby at_148) rfl ?_
            show Steps p.tables e below (s₁.setTop (mkF m 149 #[.val (.int pm), .val (.long qa), .second, .val (.int ps), .val (.int pi), .val (.int (pm &&& (7 : Int32))), .val (.long qv), .second, .val (.int (3 : Int32)), .val (.int (25 : Int32)), .val (.int ((pi &&& (2147483647 : Int32)) % (3 : Int32))), .unset] [(.long ((qv.toUInt64 >>> (((8 : Int32) * ((2 : Int32) - ((pi &&& (2147483647 : Int32)) % (3 : Int32)))) &&& 0x3f).toInt64.toUInt64).toInt64))])) _
            refine X0.ldc2Long hx hown (mvT hZ (own_w hw 18 rfl)) (g := (mkF m 149 #[.val (.int pm), .val (.long qa), .second, .val (.int ps), .val (.int pi), .val (.int (pm &&& (7 : Int32))), .val (.long qv), .second, .val (.int (3 : Int32)), .val (.int (25 : Int32)), .val (.int ((pi &&& (2147483647 : Int32)) % (3 : Int32))), .unset] [(.long ((qv.toUInt64 >>> (((8 : Int32) * ((2 : Int32) - ((pi &&& (2147483647 : Int32)) % (3 : Int32)))) &&& 0x3f).toInt64.toUInt64).toInt64))])) rfl (hb hby at_149) _ ?_
            show Steps p.tables e below (s₁.setTop (mkF m 152 #[.val (.int pm), .val (.long qa), .second, .val (.int ps), .val (.int pi), .val (.int (pm &&& (7 : Int32))), .val (.long qv), .second, .val (.int (3 : Int32)), .val (.int (25 : Int32)), .val (.int ((pi &&& (2147483647 : Int32)) % (3 : Int32))), .unset] [(.long (255 : Int64)), (.long ((qv.toUInt64 >>> (((8 : Int32) * ((2 : Int32) - ((pi &&& (2147483647 : Int32)) % (3 : Int32)))) &&& 0x3f).toInt64.toUInt64).toInt64))])) _
            refine XS.land X0.here hx rfl (hb hby at_152) rfl ?_
            refine XS.l2i X0.here hx rfl (hb hby at_153) rfl ?_
            show Steps p.tables e below (s₁.setTop (mkF m 154 #[.val (.int pm), .val (.long qa), .second, .val (.int ps), .val (.int pi), .val (.int (pm &&& (7 : Int32))), .val (.long qv), .second, .val (.int (3 : Int32)), .val (.int (25 : Int32)), .val (.int ((pi &&& (2147483647 : Int32)) % (3 : Int32))), .unset] [(.int ((((qv.toUInt64 >>> (((8 : Int32) * ((2 : Int32) - ((pi &&& (2147483647 : Int32)) % (3 : Int32)))) &&& 0x3f).toInt64.toUInt64).toInt64) &&& (255 : Int64)).toInt32))])) _
            refine XS.istore X0.here hx rfl (hb hby at_154) rfl (l' := #[.val (.int pm), .val (.long qa), .second, .val (.int ps), .val (.int pi), .val (.int (pm &&& (7 : Int32))), .val (.long qv), .second, .val (.int (3 : Int32)), .val (.int (25 : Int32)), .val (.int ((pi &&& (2147483647 : Int32)) % (3 : Int32))), .val (.int ((((qv.toUInt64 >>> (((8 : Int32) * ((2 : Int32) - ((pi &&& (2147483647 : Int32)) % (3 : Int32)))) &&& 0x3f).toInt64.toUInt64).toInt64) &&& (255 : Int64)).toInt32))]) rfl ?_
            rw [show v38 = ((((qv.toUInt64 >>> (((8 : Int32) * ((2 : Int32) - ((pi &&& (2147483647 : Int32)) % (3 : Int32)))) &&& 0x3f).toInt64.toUInt64).toInt64) &&& (255 : Int64)).toInt32) from hv38.trans (by simp only [if_neg hc37])] at k
            exact k
        refine own_pre (A := (s₁.setTop (mkF m 162 #[.val (.int pm), .val (.long qa), .second, .val (.int ps), .val (.int pi), .val (.int (pm &&& (7 : Int32))), .val (.long qv), .second, .val (.int (3 : Int32)), .val (.int (25 : Int32)), .val (.int ((pi &&& (2147483647 : Int32)) % (3 : Int32))), .val (.int v38)] [(.int ((pi &&& (2147483647 : Int32)) % (3 : Int32))), (.long qv), (.int (pm &&& (7 : Int32)))]))) ?_ ?_
        · intro t k
          show Steps p.tables e below (s₁.setTop (mkF m 156 #[.val (.int pm), .val (.long qa), .second, .val (.int ps), .val (.int pi), .val (.int (pm &&& (7 : Int32))), .val (.long qv), .second, .val (.int (3 : Int32)), .val (.int (25 : Int32)), .val (.int ((pi &&& (2147483647 : Int32)) % (3 : Int32))), .val (.int v38)] [])) _
          refine XS.iload X0.here hx rfl (hb hby at_156) rfl ?_
          refine XS.lload X0.here hx rfl (hb hby at_158) rfl ?_
          refine XS.iload X0.here hx rfl (hb hby at_160) rfl ?_
          exact k
        obtain ⟨_, _, ⟨T39, L39, k39, n39⟩, -, X39, ⟨Lc39, hQ39, l39, y39, z39⟩, st39⟩ := Jvm.LawKit.callS X0 hx (y := (⟨"com/example/sigillum/sigillum/cose/CborItem", "headByte", "(IJI)I"⟩ : MethodName)) hown (mvT hZ (own_w hw 2 rfl)) (mvT hZ (own_w hw 3 rfl)) (mvT hZ (own_w hw 4 rfl)) (mvT hZ (own_w hw 5 rfl)) (by decide) (backOf (W := 0) (rm1 l Z a0 hw [] (pm &&& (7 : Int32)) qv ((pi &&& (2147483647 : Int32)) % (3 : Int32)) h0 n0 Z0) hZ (own_w hw 5 rfl) (own_w hw 4 rfl) (by decide) (by decide)) (g := (mkF m 162 #[.val (.int pm), .val (.long qa), .second, .val (.int ps), .val (.int pi), .val (.int (pm &&& (7 : Int32))), .val (.long qv), .second, .val (.int (3 : Int32)), .val (.int (25 : Int32)), .val (.int ((pi &&& (2147483647 : Int32)) % (3 : Int32))), .val (.int v38)] [(.int ((pi &&& (2147483647 : Int32)) % (3 : Int32))), (.long qv), (.int (pm &&& (7 : Int32)))])) rfl (by rw [hml]; rfl) (argsL := [(.int (pm &&& (7 : Int32))), (.long qv), (.int ((pi &&& (2147483647 : Int32)) % (3 : Int32)))]) (rest := []) (lenOf own_pd3 rfl) rfl (by show 2 * 0 + _ ≤ _; exact Nat.le_of_eq rfl) (hb hby at_162) (fun _ _ => ⟨rfl, e0, (by decide : 0 + 0 ≤ _), (by decide : 0 + 0 ≤ _)⟩)
        dsimp only [Pt.U, Pt.locs, Pt.cells, Pt.slots] at X39 l39 y39 z39 st39 hQ39
        subst l39 y39 z39
        obtain ⟨rfl, Nq39, eq39⟩ := hQ39
        have N39 := Fr.app N0 Nq39
        refine own_pre (fun t k => st39 t k) ?_
        refine own_pre (A := (T39.setTop (mkF m 167 #[.val (.int pm), .val (.long qa), .second, .val (.int ps), .val (.int pi), .val (.int (pm &&& (7 : Int32))), .val (.long qv), .second, .val (.int (3 : Int32)), .val (.int (25 : Int32)), .val (.int ((pi &&& (2147483647 : Int32)) % (3 : Int32))), .val (.int v38)] [(.int v38), (.int (own_hb (pm &&& (7 : Int32)) qv ((pi &&& (2147483647 : Int32)) % (3 : Int32))))]))) ?_ ?_
        · intro t k
          show Steps p.tables e below (T39.setTop (mkF m 165 #[.val (.int pm), .val (.long qa), .second, .val (.int ps), .val (.int pi), .val (.int (pm &&& (7 : Int32))), .val (.long qv), .second, .val (.int (3 : Int32)), .val (.int (25 : Int32)), .val (.int ((pi &&& (2147483647 : Int32)) % (3 : Int32))), .val (.int v38)] [(.int (own_hb (pm &&& (7 : Int32)) qv ((pi &&& (2147483647 : Int32)) % (3 : Int32))))])) _
          refine XS.iload X39.here hx rfl (hb hby at_165) rfl ?_
          exact k
        obtain ⟨v41, hv41⟩ : ∃ z : Int32, z = (if (own_hb (pm &&& (7 : Int32)) qv ((pi &&& (2147483647 : Int32)) % (3 : Int32))) = v38 then (1 : Int32) else (0 : Int32)) := ⟨_, rfl⟩
        refine own_pre (A := (T39.setTop (mkF m 175 #[.val (.int pm), .val (.long qa), .second, .val (.int ps), .val (.int pi), .val (.int (pm &&& (7 : Int32))), .val (.long qv), .second, .val (.int (3 : Int32)), .val (.int (25 : Int32)), .val (.int ((pi &&& (2147483647 : Int32)) % (3 : Int32))), .val (.int v38)] [(.int v41)]))) ?_ ?_
        · intro t k
          show Steps p.tables e below (T39.setTop (mkF m 167 #[.val (.int pm), .val (.long qa), .second, .val (.int ps), .val (.int pi), .val (.int (pm &&& (7 : Int32))), .val (.long qv), .second, .val (.int (3 : Int32)), .val (.int (25 : Int32)), .val (.int ((pi &&& (2147483647 : Int32)) % (3 : Int32))), .val (.int v38)] [(.int v38), (.int (own_hb (pm &&& (7 : Int32)) qv ((pi &&& (2147483647 : Int32)) % (3 : Int32))))])) _
          by_cases hc40 : (own_hb (pm &&& (7 : Int32)) qv ((pi &&& (2147483647 : Int32)) % (3 : Int32))) = v38
          · skip
            refine XS.icmpNo X39.here hx rfl (hb hby at_167) rfl (teq hc40).2 ?_
            refine XS.iconst X39.here hx rfl (hb hby at_170) ?_
            show Steps p.tables e below (T39.setTop (mkF m 171 #[.val (.int pm), .val (.long qa), .second, .val (.int ps), .val (.int pi), .val (.int (pm &&& (7 : Int32))), .val (.long qv), .second, .val (.int (3 : Int32)), .val (.int (25 : Int32)), .val (.int ((pi &&& (2147483647 : Int32)) % (3 : Int32))), .val (.int v38)] [(.int (1 : Int32))])) _
            refine XS.goto X39.here hx rfl (pc0 := 171) (pc' := 175) rfl (hb hby at_171) (by decide) (by decide) ?_
            rw [show v41 = (1 : Int32) from hv41.trans (by simp only [if_pos hc40])] at k
            exact k
          · skip
            refine XS.icmpYes X39.here hx rfl (pc0 := 167) (pc' := 174) rfl (hb hby at_167) rfl (feq hc40).2 (by decide) (by decide) ?_
            refine XS.iconst X39.here hx rfl (hb hby at_174) ?_
            rw [show v41 = (0 : Int32) from hv41.trans (by simp only [if_neg hc40])] at k
            exact k
        have hl : own_hl qv = (3 : Int32) := by rw [own_eq]; simp only [own_exp, if_pos hc29, if_neg hc30, if_pos hc36]
        have hb' := own_hbK (pm &&& (7 : Int32)) qv ((pi &&& (2147483647 : Int32)) % (3 : Int32)) (3 : Int32) (2 : Int32) (25 : Int32) hl (by decide) (by decide) (by decide +kernel) (own_remP pi (3 : Int32) (by decide))
        rw [← hv38] at hb'
        have hz : v41 = (1 : Int32) := by rw [hv41, if_pos hb']
        rw [hz]
        obtain ⟨fs, hr, hrun, hended, hW, hsame⟩ := X39.leave (hlocks := BodyLoose.notSynchronized Bd) (v := some (.int (1 : Int32))) (fun h => by rw [Bd.returns] at h; cases h)
        refine ⟨_, _, retOut X39 hx Bd.returns rfl (Or.inl ⟨rfl, Or.inr (Or.inl rfl), _, rfl⟩) (hb hby at_175) hr, hrun, hended, _, _, rfl, ?_, ⟨_, rfl⟩, hW, hsame.mono (by decide) (by decide)⟩
        show own_Q0 h0 n0 _ T39.heap _
        rw [eq39]
        exact ⟨rfl, N39⟩
      · skip
        refine own_pre (A := (s₁.setTop (mkF m 81 #[.val (.int pm), .val (.long qa), .second, .val (.int ps), .val (.int pi), .val (.int (pm &&& (7 : Int32))), .val (.long qv), .second, .unset, .unset, .unset, .unset] []))) ?_ ?_
        · intro t k
          refine XS.ifYes X0.here hx rfl (pc0 := 68) (pc' := 81) rfl (hb hby at_68) rfl ((if0 _ _).trans (feq (fun q => hc36 ((lw_eq ((qv.toUInt64 >>> ((16 : Int32) &&& 0x3f).toInt64.toUInt64).toInt64) (0 : Int64)).mp q))).2) (by decide) (by decide) ?_
          exact k
        refine own_pre (A := (s₁.setTop (mkF m 88 #[.val (.int pm), .val (.long qa), .second, .val (.int ps), .val (.int pi), .val (.int (pm &&& (7 : Int32))), .val (.long qv), .second, .unset, .unset, .unset, .unset] [(.int (lcmpW ((qv.toUInt64 >>> ((32 : Int32) &&& 0x3f).toInt64.toUInt64).toInt64) (0 : Int64)))]))) ?_ ?_
        · intro t k
          show Steps p.tables e below (s₁.setTop (mkF m 81 #[.val (.int pm), .val (.long qa), .second, .val (.int ps), .val (.int pi), .val (.int (pm &&& (7 : Int32))), .val (.long qv), .second, .unset, .unset, .unset, .unset] [])) _
          refine XS.lload X0.here hx rfl (hb hby at_81) rfl ?_
          refine XS.bipush X0.here hx rfl (hb hby at_83) ?_
          refine XS.lushr X0.here hx rfl (hb hby at_85) rfl ?_
          refine XS.lconst X0.here hx rfl (hb hby at_86) ?_
          refine XS.lcmp X0.here hx rfl (hb hby at_87) rfl ?_
          exact k
        by_cases hc42 : ((qv.toUInt64 >>> ((32 : Int32) &&& 0x3f).toInt64.toUInt64).toInt64) = (0 : Int64)
        · skip
          refine own_pre (A := (s₁.setTop (mkF m 91 #[.val (.int pm), .val (.long qa), .second, .val (.int ps), .val (.int pi), .val (.int (pm &&& (7 : Int32))), .val (.long qv), .second, .unset, .unset, .unset, .unset] []))) ?_ ?_
          · intro t k
            refine XS.ifNo X0.here hx rfl (hb hby at_88) rfl ((if0 _ _).trans (teq ((lw_eq ((qv.toUInt64 >>> ((32 : Int32) &&& 0x3f).toInt64.toUInt64).toInt64) (0 : Int64)).mpr hc42)).2) ?_
            exact k
          refine own_pre (A := (s₁.setTop (mkF m 121 #[.val (.int pm), .val (.long qa), .second, .val (.int ps), .val (.int pi), .val (.int (pm &&& (7 : Int32))), .val (.long qv), .second, .val (.int (5 : Int32)), .val (.int (26 : Int32)), .val (.int ((pi &&& (2147483647 : Int32)) % (5 : Int32))), .unset] [(.int ((pi &&& (2147483647 : Int32)) % (5 : Int32)))]))) ?_ ?_
          · intro t k
            show Steps p.tables e below (s₁.setTop (mkF m 91 #[.val (.int pm), .val (.long qa), .second, .val (.int ps), .val (.int pi), .val (.int (pm &&& (7 : Int32))), .val (.long qv), .second, .unset, .unset, .unset, .unset] [])) _
            refine XS.iconst X0.here hx rfl (hb hby at_91) ?_
            show Steps p.tables e below (s₁.setTop (mkF m 92 #[.val (.int pm), .val (.long qa), .second, .val (.int ps), .val (.int pi), .val (.int (pm &&& (7 : Int32))), .val (.long qv), .second, .unset, .unset, .unset, .unset] [(.int (5 : Int32))])) _
            refine XS.istore X0.here hx rfl (hb hby at_92) rfl (l' := #[.val (.int pm), .val (.long qa), .second, .val (.int ps), .val (.int pi), .val (.int (pm &&& (7 : Int32))), .val (.long qv), .second, .val (.int (5 : Int32)), .unset, .unset, .unset]) rfl ?_
            refine XS.bipush X0.here hx rfl (hb hby at_94) ?_
            show Steps p.tables e below (s₁.setTop (mkF m 96 #[.val (.int pm), .val (.long qa), .second, .val (.int ps), .val (.int pi), .val (.int (pm &&& (7 : Int32))), .val (.long qv), .second, .val (.int (5 : Int32)), .unset, .unset, .unset] [(.int (26 : Int32))])) _
            refine XS.istore X0.here hx rfl (hb hby at_96) rfl (l' := #[.val (.int pm), .val (.long qa), .second, .val (.int ps), .val (.int pi), .val (.int (pm &&& (7 : Int32))), .val (.long qv), .second, .val (.int (5 : Int32)), .val (.int (26 : Int32)), .unset, .unset]) rfl ?_
            show Steps p.tables e below (s₁.setTop (mkF m 98 #[.val (.int pm), .val (.long qa), .second, .val (.int ps), .val (.int pi), .val (.int (pm &&& (7 : Int32))), .val (.long qv), .second, .val (.int (5 : Int32)), .val (.int (26 : Int32)), .unset, .unset] [])) _
            refine XS.goto X0.here hx rfl (pc0 := 98) (pc' := 109) rfl (hb hby at_98) (by decide) (by decide) ?_
            refine XS.iload X0.here hx rfl (hb hby at_109) rfl ?_
            show Steps p.tables e below (s₁.setTop (mkF m 111 #[.val (.int pm), .val (.long qa), .second, .val (.int ps), .val (.int pi), .val (.int (pm &&& (7 : Int32))), .val (.long qv), .second, .val (.int (5 : Int32)), .val (.int (26 : Int32)), .unset, .unset] [(.int pi)])) _
            refine X0.ldcInt hx hown (mvT hZ (own_w hw 1 rfl)) (g := (mkF m 111 #[.val (.int pm), .val (.long qa), .second, .val (.int ps), .val (.int pi), .val (.int (pm &&& (7 : Int32))), .val (.long qv), .second, .val (.int (5 : Int32)), .val (.int (26 : Int32)), .unset, .unset] [(.int pi)])) rfl (hb hby at_111) _ ?_
            show Steps p.tables e below (s₁.setTop (mkF m 113 #[.val (.int pm), .val (.long qa), .second, .val (.int ps), .val (.int pi), .val (.int (pm &&& (7 : Int32))), .val (.long qv), .second, .val (.int (5 : Int32)), .val (.int (26 : Int32)), .unset, .unset] [(.int (2147483647 : Int32)), (.int pi)])) _
            refine XS.iand X0.here hx rfl (hb hby at_113) rfl ?_
            refine XS.iload X0.here hx rfl (hb hby at_114) rfl ?_
            show Steps p.tables e below (s₁.setTop (mkF m 116 #[.val (.int pm), .val (.long qa), .second, .val (.int ps), .val (.int pi), .val (.int (pm &&& (7 : Int32))), .val (.long qv), .second, .val (.int (5 : Int32)), .val (.int (26 : Int32)), .unset, .unset] [(.int (5 : Int32)), (.int (pi &&& (2147483647 : Int32)))])) _
            refine iremM X0 hx rfl (hb hby at_116) rfl (by decide) ?_
            show Steps p.tables e below (s₁.setTop (mkF m 117 #[.val (.int pm), .val (.long qa), .second, .val (.int ps), .val (.int pi), .val (.int (pm &&& (7 : Int32))), .val (.long qv), .second, .val (.int (5 : Int32)), .val (.int (26 : Int32)), .unset, .unset] [(.int ((pi &&& (2147483647 : Int32)) % (5 : Int32)))])) _
            refine XS.istore X0.here hx rfl (hb hby at_117) rfl (l' := #[.val (.int pm), .val (.long qa), .second, .val (.int ps), .val (.int pi), .val (.int (pm &&& (7 : Int32))), .val (.long qv), .second, .val (.int (5 : Int32)), .val (.int (26 : Int32)), .val (.int ((pi &&& (2147483647 : Int32)) % (5 : Int32))), .unset]) rfl ?_
            refine XS.iload X0.here hx rfl (hb hby at_119) rfl ?_
            exact k
          obtain ⟨v44, hv44⟩ : ∃ z : Int32, z = (if ((pi &&& (2147483647 : Int32)) % (5 : Int32)) = (0 : Int32) then (((pm &&& (7 : Int32)) <<< ((5 : Int32) &&& 31)) ||| (26 : Int32)) else ((((qv.toUInt64 >>> (((8 : Int32) * ((4 : Int32) - ((pi &&& (2147483647 : Int32)) % (5 : Int32)))) &&& 0x3f).toInt64.toUInt64).toInt64) &&& (255 : Int64)).toInt32)) := ⟨_, rfl⟩
          refine own_pre (A := (s₁.setTop (mkF m 156 #[.val (.int pm), .val (.long qa), .second, .val (.int ps), .val (.int pi), .val (.int (pm &&& (7 : Int32))), .val (.long qv), .second, .val (.int (5 : Int32)), .val (.int (26 : Int32)), .val (.int ((pi &&& (2147483647 : Int32)) % (5 : Int32))), .val (.int v44)] []))) ?_ ?_
          · intro t k
            show Steps p.tables e below (s₁.setTop (mkF m 121 #[.val (.int pm), .val (.long qa), .second, .val (.int ps), .val (.int pi), .val (.int (pm &&& (7 : Int32))), .val (.long qv), .second, .val (.int (5 : Int32)), .val (.int (26 : Int32)), .val (.int ((pi &&& (2147483647 : Int32)) % (5 : Int32))), .unset] [(.int ((pi &&& (2147483647 : Int32)) % (5 : Int32)))])) _
            by_cases hc43 : ((pi &&& (2147483647 : Int32)) % (5 : Int32)) = (0 : Int32)
            · skip
              refine XS.ifNo X0.here hx rfl (hb hby at_121) rfl ((if0 _ _).trans (teq hc43).2) ?_
              refine XS.iload X0.here hx rfl (hb hby at_124) rfl ?_
              refine XS.iconst X0.here hx rfl (hb hby at_126) ?_
              refine XS.ishl X0.here hx rfl (hb hby at_127) rfl ?_
              refine XS.iload X0.here hx rfl (hb hby at_128) rfl ?_
              refine XS.ior X0.here hx rfl (hb hby at_130) rfl ?_
              show Steps p.tables e below (s₁.setTop (mkF m 131 #[.val (.int pm), .val (.long qa), .second, .val (.int ps), .val (.int pi), .val (.int (pm &&& (7 : Int32))), .val (.long qv), .second, .val (.int (5 : Int32)), .val (.int (26 : Int32)), .val (.int ((pi &&& (2147483647 : Int32)) % (5 : Int32))), .unset] [(.int (((pm &&& (7 : Int32)) <<< ((5 : Int32) &&& 31)) ||| (26 : Int32)))])) _
              refine XS.istore X0.here hx rfl (hb hby at_131) rfl (l' := #[.val (.int pm), .val (.long qa), .second, .val (.int ps), .val (.int pi), .val (.int (pm &&& (7 : Int32))), .val (.long qv), .second, .val (.int (5 : Int32)), .val (.int (26 : Int32)), .val (.int ((pi &&& (2147483647 : Int32)) % (5 : Int32))), .val (.int (((pm &&& (7 : Int32)) <<< ((5 : Int32) &&& 31)) ||| (26 : Int32)))]) rfl ?_
              show Steps p.tables e below (s₁.setTop (mkF m 133 #[.val (.int pm), .val (.long qa), .second, .val (.int ps), .val (.int pi), .val (.int (pm &&& (7 : Int32))), .val (.long qv), .second, .val (.int (5 : Int32)), .val (.int (26 : Int32)), .val (.int ((pi &&& (2147483647 : Int32)) % (5 : Int32))), .val (.int (((pm &&& (7 : Int32)) <<< ((5 : Int32) &&& 31)) ||| (26 : Int32)))] [])) _
              refine XS.goto X0.here hx rfl (pc0 := 133) (pc' := 156) rfl (hb hby at_133) (by decide) (by decide) ?_
              rw [show v44 = (((pm &&& (7 : Int32)) <<< ((5 : Int32) &&& 31)) ||| (26 : Int32)) from hv44.trans (by simp only [if_pos hc43])] at k
              exact k
            · skip
              refine XS.ifYes X0.here hx rfl (pc0 := 121) (pc' := 136) rfl (hb hby at_121) rfl ((if0 _ _).trans (feq hc43).2) (by decide) (by decide) ?_
              refine XS.lload X0.here hx rfl (hb hby at_136) rfl ?_
              refine XS.bipush X0.here hx rfl (hb hby at_138) ?_
              refine XS.iload X0.here hx rfl (hb hby at_140) rfl ?_
              refine XS.iconst X0.here hx rfl (hb hby at_142) ?_
              refine XS.isub X0.here hx rfl (hb hby at_143) rfl ?_
              show Steps p.tables e below (s₁.setTop (mkF m 144 #[.val (.int pm), .val (.long qa), .second, .val (.int ps), .val (.int pi), .val (.int (pm &&& (7 : Int32))), .val (.long qv), .second, .val (.int (5 : Int32)), .val (.int (26 : Int32)), .val (.int ((pi &&& (2147483647 : Int32)) % (5 : Int32))), .unset] [(.int ((5 : Int32) - (1 : Int32))), (.int (8 : Int32)), (.long qv)])) _
              rw [show ((5 : Int32) - (1 : Int32)) = (4 : Int32) from by decide]
              show Steps p.tables e below (s₁.setTop (mkF m 144 #[.val (.int pm), .val (.long qa), .second, .val (.int ps), .val (.int pi), .val (.int (pm &&& (7 : Int32))), .val (.long qv), .second, .val (.int (5 : Int32)), .val (.int (26 : Int32)), .val (.int ((pi &&& (2147483647 : Int32)) % (5 : Int32))), .unset] [(.int (4 : Int32)), (.int (8 : Int32)), (.long qv)])) _
              refine XS.iload X0.here hx rfl (hb hby at_144) rfl ?_
              refine XS.isub X0.here hx rfl (hb hby at_146) rfl ?_
              refine XS.imul X0.here hx rfl (hb hby at_147) rfl ?_
              refine XS.lushr X0.here hx rfl (hb hby at_148) rfl ?_
              show Steps p.tables e below (s₁.setTop (mkF m 149 #[.val (.int pm), .val (.long qa), .second, .val (.int ps), .val (.int pi), .val (.int (pm &&& (7 : Int32))), .val (.long qv), .second, .val (.int (5 : Int32)), .val (.int (26 : Int32)), .val (.int ((pi &&& (2147483647 : Int32)) % (5 : Int32))), .unset] [(.long ((qv.toUInt64 >>> (((8 : Int32) * ((4 : Int32) - ((pi &&& (2147483647 : Int32)) % (5 : Int32)))) &&& 0x3f).toInt64.toUInt64).toInt64))])) _
              refine X0.ldc2Long hx hown (mvT hZ (own_w hw 18 rfl)) (g := (mkF m 149 #[.val (.int pm), .val (.long qa), .second, .val (.int ps), .val (.int pi), .val (.int (pm &&& (7 : Int32))), .val (.long qv), .second, .val (.int (5 : Int32)), .val (.int (26 : Int32)), .val (.int ((pi &&& (2147483647 : Int32)) % (5 : Int32))), .unset] [(.long ((qv.toUInt64 >>> (((8 : Int32) * ((4 : Int32) - ((pi &&& (2147483647 : Int32)) % (5 : Int32)))) &&& 0x3f).toInt64.toUInt64).toInt64))])) rfl (hb hby at_149) _ ?_
              show Steps p.tables e below (s₁.setTop (mkF m 152 #[.val (.int pm), .val (.long qa), .second, .val (.int ps), .val (.int pi), .val (.int (pm &&& (7 : Int32))), .val (.long qv), .second, .val (.int (5 : Int32)), .val (.int (26 : Int32)), .val (.int ((pi &&& (2147483647 : Int32)) % (5 : Int32))), .unset] [(.long (255 : Int64)), (.long ((qv.toUInt64 >>> (((8 : Int32) * ((4 : Int32) - ((pi &&& (2147483647 : Int32)) % (5 : Int32)))) &&& 0x3f).toInt64.toUInt64).toInt64))])) _
              refine XS.land X0.here hx rfl (hb hby at_152) rfl ?_
              refine XS.l2i X0.here hx rfl (hb hby at_153) rfl ?_
              show Steps p.tables e below (s₁.setTop (mkF m 154 #[.val (.int pm), .val (.long qa), .second, .val (.int ps), .val (.int pi), .val (.int (pm &&& (7 : Int32))), .val (.long qv), .second, .val (.int (5 : Int32)), .val (.int (26 : Int32)), .val (.int ((pi &&& (2147483647 : Int32)) % (5 : Int32))), .unset] [(.int ((((qv.toUInt64 >>> (((8 : Int32) * ((4 : Int32) - ((pi &&& (2147483647 : Int32)) % (5 : Int32)))) &&& 0x3f).toInt64.toUInt64).toInt64) &&& (255 : Int64)).toInt32))])) _
              refine XS.istore X0.here hx rfl (hb hby at_154) rfl (l' := #[.val (.int pm), .val (.long qa), .second, .val (.int ps), .val (.int pi), .val (.int (pm &&& (7 : Int32))), .val (.long qv), .second, .val (.int (5 : Int32)), .val (.int (26 : Int32)), .val (.int ((pi &&& (2147483647 : Int32)) % (5 : Int32))), .val (.int ((((qv.toUInt64 >>> (((8 : Int32) * ((4 : Int32) - ((pi &&& (2147483647 : Int32)) % (5 : Int32)))) &&& 0x3f).toInt64.toUInt64).toInt64) &&& (255 : Int64)).toInt32))]) rfl ?_
              rw [show v44 = ((((qv.toUInt64 >>> (((8 : Int32) * ((4 : Int32) - ((pi &&& (2147483647 : Int32)) % (5 : Int32)))) &&& 0x3f).toInt64.toUInt64).toInt64) &&& (255 : Int64)).toInt32) from hv44.trans (by simp only [if_neg hc43])] at k
              exact k
          refine own_pre (A := (s₁.setTop (mkF m 162 #[.val (.int pm), .val (.long qa), .second, .val (.int ps), .val (.int pi), .val (.int (pm &&& (7 : Int32))), .val (.long qv), .second, .val (.int (5 : Int32)), .val (.int (26 : Int32)), .val (.int ((pi &&& (2147483647 : Int32)) % (5 : Int32))), .val (.int v44)] [(.int ((pi &&& (2147483647 : Int32)) % (5 : Int32))), (.long qv), (.int (pm &&& (7 : Int32)))]))) ?_ ?_
          · intro t k
            show Steps p.tables e below (s₁.setTop (mkF m 156 #[.val (.int pm), .val (.long qa), .second, .val (.int ps), .val (.int pi), .val (.int (pm &&& (7 : Int32))), .val (.long qv), .second, .val (.int (5 : Int32)), .val (.int (26 : Int32)), .val (.int ((pi &&& (2147483647 : Int32)) % (5 : Int32))), .val (.int v44)] [])) _
            refine XS.iload X0.here hx rfl (hb hby at_156) rfl ?_
            refine XS.lload X0.here hx rfl (hb hby at_158) rfl ?_
            refine XS.iload X0.here hx rfl (hb hby at_160) rfl ?_
            exact k
          obtain ⟨_, _, ⟨T45, L45, k45, n45⟩, -, X45, ⟨Lc45, hQ45, l45, y45, z45⟩, st45⟩ := Jvm.LawKit.callS X0 hx (y := (⟨"com/example/sigillum/sigillum/cose/CborItem", "headByte", "(IJI)I"⟩ : MethodName)) hown (mvT hZ (own_w hw 2 rfl)) (mvT hZ (own_w hw 3 rfl)) (mvT hZ (own_w hw 4 rfl)) (mvT hZ (own_w hw 5 rfl)) (by decide) (backOf (W := 0) (rm1 l Z a0 hw [] (pm &&& (7 : Int32)) qv ((pi &&& (2147483647 : Int32)) % (5 : Int32)) h0 n0 Z0) hZ (own_w hw 5 rfl) (own_w hw 4 rfl) (by decide) (by decide)) (g := (mkF m 162 #[.val (.int pm), .val (.long qa), .second, .val (.int ps), .val (.int pi), .val (.int (pm &&& (7 : Int32))), .val (.long qv), .second, .val (.int (5 : Int32)), .val (.int (26 : Int32)), .val (.int ((pi &&& (2147483647 : Int32)) % (5 : Int32))), .val (.int v44)] [(.int ((pi &&& (2147483647 : Int32)) % (5 : Int32))), (.long qv), (.int (pm &&& (7 : Int32)))])) rfl (by rw [hml]; rfl) (argsL := [(.int (pm &&& (7 : Int32))), (.long qv), (.int ((pi &&& (2147483647 : Int32)) % (5 : Int32)))]) (rest := []) (lenOf own_pd3 rfl) rfl (by show 2 * 0 + _ ≤ _; exact Nat.le_of_eq rfl) (hb hby at_162) (fun _ _ => ⟨rfl, e0, (by decide : 0 + 0 ≤ _), (by decide : 0 + 0 ≤ _)⟩)
          dsimp only [Pt.U, Pt.locs, Pt.cells, Pt.slots] at X45 l45 y45 z45 st45 hQ45
          subst l45 y45 z45
          obtain ⟨rfl, Nq45, eq45⟩ := hQ45
          have N45 := Fr.app N0 Nq45
          refine own_pre (fun t k => st45 t k) ?_
          refine own_pre (A := (T45.setTop (mkF m 167 #[.val (.int pm), .val (.long qa), .second, .val (.int ps), .val (.int pi), .val (.int (pm &&& (7 : Int32))), .val (.long qv), .second, .val (.int (5 : Int32)), .val (.int (26 : Int32)), .val (.int ((pi &&& (2147483647 : Int32)) % (5 : Int32))), .val (.int v44)] [(.int v44), (.int (own_hb (pm &&& (7 : Int32)) qv ((pi &&& (2147483647 : Int32)) % (5 : Int32))))]))) ?_ ?_
          · intro t k
            show Steps p.tables e below (T45.setTop (mkF m 165 #[.val (.int pm), .val (.long qa), .second, .val (.int ps), .val (.int pi), .val (.int (pm &&& (7 : Int32))), .val (.long qv), .second, .val (.int (5 : Int32)), .val (.int (26 : Int32)), .val (.int ((pi &&& (2147483647 : Int32)) % (5 : Int32))), .val (.int v44)] [(.int (own_hb (pm &&& (7 : Int32)) qv ((pi &&& (2147483647 : Int32)) % (5 : Int32))))])) _
            refine XS.iload X45.here hx rfl (hb hby at_165) rfl ?_
            exact k
          obtain ⟨v47, hv47⟩ : ∃ z : Int32, z = (if (own_hb (pm &&& (7 : Int32)) qv ((pi &&& (2147483647 : Int32)) % (5 : Int32))) = v44 then (1 : Int32) else (0 : Int32)) := ⟨_, rfl⟩
          refine own_pre (A := (T45.setTop (mkF m 175 #[.val (.int pm), .val (.long qa), .second, .val (.int ps), .val (.int pi), .val (.int (pm &&& (7 : Int32))), .val (.long qv), .second, .val (.int (5 : Int32)), .val (.int (26 : Int32)), .val (.int ((pi &&& (2147483647 : Int32)) % (5 : Int32))), .val (.int v44)] [(.int v47)]))) ?_ ?_
          · intro t k
            show Steps p.tables e below (T45.setTop (mkF m 167 #[.val (.int pm), .val (.long qa), .second, .val (.int ps), .val (.int pi), .val (.int (pm &&& (7 : Int32))), .val (.long qv), .second, .val (.int (5 : Int32)), .val (.int (26 : Int32)), .val (.int ((pi &&& (2147483647 : Int32)) % (5 : Int32))), .val (.int v44)] [(.int v44), (.int (own_hb (pm &&& (7 : Int32)) qv ((pi &&& (2147483647 : Int32)) % (5 : Int32))))])) _
            by_cases hc46 : (own_hb (pm &&& (7 : Int32)) qv ((pi &&& (2147483647 : Int32)) % (5 : Int32))) = v44
            · skip
              refine XS.icmpNo X45.here hx rfl (hb hby at_167) rfl (teq hc46).2 ?_
              refine XS.iconst X45.here hx rfl (hb hby at_170) ?_
              show Steps p.tables e below (T45.setTop (mkF m 171 #[.val (.int pm), .val (.long qa), .second, .val (.int ps), .val (.int pi), .val (.int (pm &&& (7 : Int32))), .val (.long qv), .second, .val (.int (5 : Int32)), .val (.int (26 : Int32)), .val (.int ((pi &&& (2147483647 : Int32)) % (5 : Int32))), .val (.int v44)] [(.int (1 : Int32))])) _
              refine XS.goto X45.here hx rfl (pc0 := 171) (pc' := 175) rfl (hb hby at_171) (by decide) (by decide) ?_
              rw [show v47 = (1 : Int32) from hv47.trans (by simp only [if_pos hc46])] at k
              exact k
            · skip
              refine XS.icmpYes X45.here hx rfl (pc0 := 167) (pc' := 174) rfl (hb hby at_167) rfl (feq hc46).2 (by decide) (by decide) ?_
              refine XS.iconst X45.here hx rfl (hb hby at_174) ?_
              rw [show v47 = (0 : Int32) from hv47.trans (by simp only [if_neg hc46])] at k
              exact k
          have hl : own_hl qv = (5 : Int32) := by rw [own_eq]; simp only [own_exp, if_pos hc29, if_neg hc30, if_neg hc36, if_pos hc42]
          have hb' := own_hbK (pm &&& (7 : Int32)) qv ((pi &&& (2147483647 : Int32)) % (5 : Int32)) (5 : Int32) (4 : Int32) (26 : Int32) hl (by decide) (by decide) (by decide +kernel) (own_remP pi (5 : Int32) (by decide))
          rw [← hv44] at hb'
          have hz : v47 = (1 : Int32) := by rw [hv47, if_pos hb']
          rw [hz]
          obtain ⟨fs, hr, hrun, hended, hW, hsame⟩ := X45.leave (hlocks := BodyLoose.notSynchronized Bd) (v := some (.int (1 : Int32))) (fun h => by rw [Bd.returns] at h; cases h)
          refine ⟨_, _, retOut X45 hx Bd.returns rfl (Or.inl ⟨rfl, Or.inr (Or.inl rfl), _, rfl⟩) (hb hby at_175) hr, hrun, hended, _, _, rfl, ?_, ⟨_, rfl⟩, hW, hsame.mono (by decide) (by decide)⟩
          show own_Q0 h0 n0 _ T45.heap _
          rw [eq45]
          exact ⟨rfl, N45⟩
        · skip
          refine own_pre (A := (s₁.setTop (mkF m 101 #[.val (.int pm), .val (.long qa), .second, .val (.int ps), .val (.int pi), .val (.int (pm &&& (7 : Int32))), .val (.long qv), .second, .unset, .unset, .unset, .unset] []))) ?_ ?_
          · intro t k
            refine XS.ifYes X0.here hx rfl (pc0 := 88) (pc' := 101) rfl (hb hby at_88) rfl ((if0 _ _).trans (feq (fun q => hc42 ((lw_eq ((qv.toUInt64 >>> ((32 : Int32) &&& 0x3f).toInt64.toUInt64).toInt64) (0 : Int64)).mp q))).2) (by decide) (by decide) ?_
            exact k
          refine own_pre (A := (s₁.setTop (mkF m 121 #[.val (.int pm), .val (.long qa), .second, .val (.int ps), .val (.int pi), .val (.int (pm &&& (7 : Int32))), .val (.long qv), .second, .val (.int (9 : Int32)), .val (.int (27 : Int32)), .val (.int ((pi &&& (2147483647 : Int32)) % (9 : Int32))), .unset] [(.int ((pi &&& (2147483647 : Int32)) % (9 : Int32)))]))) ?_ ?_
          · intro t k
            show Steps p.tables e below (s₁.setTop (mkF m 101 #[.val (.int pm), .val (.long qa), .second, .val (.int ps), .val (.int pi), .val (.int (pm &&& (7 : Int32))), .val (.long qv), .second, .unset, .unset, .unset, .unset] [])) _
            refine XS.bipush X0.here hx rfl (hb hby at_101) ?_
            show Steps p.tables e below (s₁.setTop (mkF m 103 #[.val (.int pm), .val (.long qa), .second, .val (.int ps), .val (.int pi), .val (.int (pm &&& (7 : Int32))), .val (.long qv), .second, .unset, .unset, .unset, .unset] [(.int (9 : Int32))])) _
            refine XS.istore X0.here hx rfl (hb hby at_103) rfl (l' := #[.val (.int pm), .val (.long qa), .second, .val (.int ps), .val (.int pi), .val (.int (pm &&& (7 : Int32))), .val (.long qv), .second, .val (.int (9 : Int32)), .unset, .unset, .unset]) rfl ?_
            refine XS.bipush X0.here hx rfl (hb hby at_105) ?_
            show Steps p.tables e below (s₁.setTop (mkF m 107 #[.val (.int pm), .val (.long qa), .second, .val (.int ps), .val (.int pi), .val (.int (pm &&& (7 : Int32))), .val (.long qv), .second, .val (.int (9 : Int32)), .unset, .unset, .unset] [(.int (27 : Int32))])) _
            refine XS.istore X0.here hx rfl (hb hby at_107) rfl (l' := #[.val (.int pm), .val (.long qa), .second, .val (.int ps), .val (.int pi), .val (.int (pm &&& (7 : Int32))), .val (.long qv), .second, .val (.int (9 : Int32)), .val (.int (27 : Int32)), .unset, .unset]) rfl ?_
            refine XS.iload X0.here hx rfl (hb hby at_109) rfl ?_
            show Steps p.tables e below (s₁.setTop (mkF m 111 #[.val (.int pm), .val (.long qa), .second, .val (.int ps), .val (.int pi), .val (.int (pm &&& (7 : Int32))), .val (.long qv), .second, .val (.int (9 : Int32)), .val (.int (27 : Int32)), .unset, .unset] [(.int pi)])) _
            refine X0.ldcInt hx hown (mvT hZ (own_w hw 1 rfl)) (g := (mkF m 111 #[.val (.int pm), .val (.long qa), .second, .val (.int ps), .val (.int pi), .val (.int (pm &&& (7 : Int32))), .val (.long qv), .second, .val (.int (9 : Int32)), .val (.int (27 : Int32)), .unset, .unset] [(.int pi)])) rfl (hb hby at_111) _ ?_
            show Steps p.tables e below (s₁.setTop (mkF m 113 #[.val (.int pm), .val (.long qa), .second, .val (.int ps), .val (.int pi), .val (.int (pm &&& (7 : Int32))), .val (.long qv), .second, .val (.int (9 : Int32)), .val (.int (27 : Int32)), .unset, .unset] [(.int (2147483647 : Int32)), (.int pi)])) _
            refine XS.iand X0.here hx rfl (hb hby at_113) rfl ?_
            refine XS.iload X0.here hx rfl (hb hby at_114) rfl ?_
            show Steps p.tables e below (s₁.setTop (mkF m 116 #[.val (.int pm), .val (.long qa), .second, .val (.int ps), .val (.int pi), .val (.int (pm &&& (7 : Int32))), .val (.long qv), .second, .val (.int (9 : Int32)), .val (.int (27 : Int32)), .unset, .unset] [(.int (9 : Int32)), (.int (pi &&& (2147483647 : Int32)))])) _
            refine iremM X0 hx rfl (hb hby at_116) rfl (by decide) ?_
            show Steps p.tables e below (s₁.setTop (mkF m 117 #[.val (.int pm), .val (.long qa), .second, .val (.int ps), .val (.int pi), .val (.int (pm &&& (7 : Int32))), .val (.long qv), .second, .val (.int (9 : Int32)), .val (.int (27 : Int32)), .unset, .unset] [(.int ((pi &&& (2147483647 : Int32)) % (9 : Int32)))])) _
            refine XS.istore X0.here hx rfl (hb hby at_117) rfl (l' := #[.val (.int pm), .val (.long qa), .second, .val (.int ps), .val (.int pi), .val (.int (pm &&& (7 : Int32))), .val (.long qv), .second, .val (.int (9 : Int32)), .val (.int (27 : Int32)), .val (.int ((pi &&& (2147483647 : Int32)) % (9 : Int32))), .unset]) rfl ?_
            refine XS.iload X0.here hx rfl (hb hby at_119) rfl ?_
            exact k
          obtain ⟨v49, hv49⟩ : ∃ z : Int32, z = (if ((pi &&& (2147483647 : Int32)) % (9 : Int32)) = (0 : Int32) then (((pm &&& (7 : Int32)) <<< ((5 : Int32) &&& 31)) ||| (27 : Int32)) else ((((qv.toUInt64 >>> (((8 : Int32) * ((8 : Int32) - ((pi &&& (2147483647 : Int32)) % (9 : Int32)))) &&& 0x3f).toInt64.toUInt64).toInt64) &&& (255 : Int64)).toInt32)) := ⟨_, rfl⟩
          refine own_pre (A := (s₁.setTop (mkF m 156 #[.val (.int pm), .val (.long qa), .second, .val (.int ps), .val (.int pi), .val (.int (pm &&& (7 : Int32))), .val (.long qv), .second, .val (.int (9 : Int32)), .val (.int (27 : Int32)), .val (.int ((pi &&& (2147483647 : Int32)) % (9 : Int32))), .val (.int v49)] []))) ?_ ?_
          · intro t k
            show Steps p.tables e below (s₁.setTop (mkF m 121 #[.val (.int pm), .val (.long qa), .second, .val (.int ps), .val (.int pi), .val (.int (pm &&& (7 : Int32))), .val (.long qv), .second, .val (.int (9 : Int32)), .val (.int (27 : Int32)), .val (.int ((pi &&& (2147483647 : Int32)) % (9 : Int32))), .unset] [(.int ((pi &&& (2147483647 : Int32)) % (9 : Int32)))])) _
            by_cases hc48 : ((pi &&& (2147483647 : Int32)) % (9 : Int32)) = (0 : Int32)
            · skip
              refine XS.ifNo X0.here hx rfl (hb hby at_121) rfl ((if0 _ _).trans (teq hc48).2) ?_
              refine XS.iload X0.here hx rfl (hb hby at_124) rfl ?_
              refine XS.iconst X0.here hx rfl (hb hby at_126) ?_
              refine XS.ishl X0.here hx rfl (hb hby at_127) rfl ?_
              refine XS.iload X0.here hx rfl (hb hby at_128) rfl ?_
              refine XS.ior X0.here hx rfl (hb hby at_130) rfl ?_
              show Steps p.tables e below (s₁.setTop (mkF m 131 #[.val (.int pm), .val (.long qa), .second, .val (.int ps), .val (.int pi), .val (.int (pm &&& (7 : Int32))), .val (.long qv), .second, .val (.int (9 : Int32)), .val (.int (27 : Int32)), .val (.int ((pi &&& (2147483647 : Int32)) % (9 : Int32))), .unset] [(.int (((pm &&& (7 : Int32)) <<< ((5 : Int32) &&& 31)) ||| (27 : Int32)))])) _
              refine XS.istore X0.here hx rfl (hb hby at_131) rfl (l' := #[.val (.int pm), .val (.long qa), .second, .val (.int ps), .val (.int pi), .val (.int (pm &&& (7 : Int32))), .val (.long qv), .second, .val (.int (9 : Int32)), .val (.int (27 : Int32)), .val (.int ((pi &&& (2147483647 : Int32)) % (9 : Int32))), .val (.int (((pm &&& (7 : Int32)) <<< ((5 : Int32) &&& 31)) ||| (27 : Int32)))]) rfl ?_
              show Steps p.tables e below (s₁.setTop (mkF m 133 #[.val (.int pm), .val (.long qa), .second, .val (.int ps), .val (.int pi), .val (.int (pm &&& (7 : Int32))), .val (.long qv), .second, .val (.int (9 : Int32)), .val (.int (27 : Int32)), .val (.int ((pi &&& (2147483647 : Int32)) % (9 : Int32))), .val (.int (((pm &&& (7 : Int32)) <<< ((5 : Int32) &&& 31)) ||| (27 : Int32)))] [])) _
              refine XS.goto X0.here hx rfl (pc0 := 133) (pc' := 156) rfl (hb hby at_133) (by decide) (by decide) ?_
              rw [show v49 = (((pm &&& (7 : Int32)) <<< ((5 : Int32) &&& 31)) ||| (27 : Int32)) from hv49.trans (by simp only [if_pos hc48])] at k
              exact k
            · skip
              refine XS.ifYes X0.here hx rfl (pc0 := 121) (pc' := 136) rfl (hb hby at_121) rfl ((if0 _ _).trans (feq hc48).2) (by decide) (by decide) ?_
              refine XS.lload X0.here hx rfl (hb hby at_136) rfl ?_
              refine XS.bipush X0.here hx rfl (hb hby at_138) ?_
              refine XS.iload X0.here hx rfl (hb hby at_140) rfl ?_
              refine XS.iconst X0.here hx rfl (hb hby at_142) ?_
              refine XS.isub X0.here hx rfl (hb hby at_143) rfl ?_
              show Steps p.tables e below (s₁.setTop (mkF m 144 #[.val (.int pm), .val (.long qa), .second, .val (.int ps), .val (.int pi), .val (.int (pm &&& (7 : Int32))), .val (.long qv), .second, .val (.int (9 : Int32)), .val (.int (27 : Int32)), .val (.int ((pi &&& (2147483647 : Int32)) % (9 : Int32))), .unset] [(.int ((9 : Int32) - (1 : Int32))), (.int (8 : Int32)), (.long qv)])) _
              rw [show ((9 : Int32) - (1 : Int32)) = (8 : Int32) from by decide]
              show Steps p.tables e below (s₁.setTop (mkF m 144 #[.val (.int pm), .val (.long qa), .second, .val (.int ps), .val (.int pi), .val (.int (pm &&& (7 : Int32))), .val (.long qv), .second, .val (.int (9 : Int32)), .val (.int (27 : Int32)), .val (.int ((pi &&& (2147483647 : Int32)) % (9 : Int32))), .unset] [(.int (8 : Int32)), (.int (8 : Int32)), (.long qv)])) _
              refine XS.iload X0.here hx rfl (hb hby at_144) rfl ?_
              refine XS.isub X0.here hx rfl (hb hby at_146) rfl ?_
              refine XS.imul X0.here hx rfl (hb hby at_147) rfl ?_
              refine XS.lushr X0.here hx rfl (hb hby at_148) rfl ?_
              show Steps p.tables e below (s₁.setTop (mkF m 149 #[.val (.int pm), .val (.long qa), .second, .val (.int ps), .val (.int pi), .val (.int (pm &&& (7 : Int32))), .val (.long qv), .second, .val (.int (9 : Int32)), .val (.int (27 : Int32)), .val (.int ((pi &&& (2147483647 : Int32)) % (9 : Int32))), .unset] [(.long ((qv.toUInt64 >>> (((8 : Int32) * ((8 : Int32) - ((pi &&& (2147483647 : Int32)) % (9 : Int32)))) &&& 0x3f).toInt64.toUInt64).toInt64))])) _
              refine X0.ldc2Long hx hown (mvT hZ (own_w hw 18 rfl)) (g := (mkF m 149 #[.val (.int pm), .val (.long qa), .second, .val (.int ps), .val (.int pi), .val (.int (pm &&& (7 : Int32))), .val (.long qv), .second, .val (.int (9 : Int32)), .val (.int (27 : Int32)), .val (.int ((pi &&& (2147483647 : Int32)) % (9 : Int32))), .unset] [(.long ((qv.toUInt64 >>> (((8 : Int32) * ((8 : Int32) - ((pi &&& (2147483647 : Int32)) % (9 : Int32)))) &&& 0x3f).toInt64.toUInt64).toInt64))])) rfl (hb hby at_149) _ ?_
              show Steps p.tables e below (s₁.setTop (mkF m 152 #[.val (.int pm), .val (.long qa), .second, .val (.int ps), .val (.int pi), .val (.int (pm &&& (7 : Int32))), .val (.long qv), .second, .val (.int (9 : Int32)), .val (.int (27 : Int32)), .val (.int ((pi &&& (2147483647 : Int32)) % (9 : Int32))), .unset] [(.long (255 : Int64)), (.long ((qv.toUInt64 >>> (((8 : Int32) * ((8 : Int32) - ((pi &&& (2147483647 : Int32)) % (9 : Int32)))) &&& 0x3f).toInt64.toUInt64).toInt64))])) _
              refine XS.land X0.here hx rfl (hb hby at_152) rfl ?_
              refine XS.l2i X0.here hx rfl (hb hby at_153) rfl ?_
              show Steps p.tables e below (s₁.setTop (mkF m 154 #[.val (.int pm), .val (.long qa), .second, .val (.int ps), .val (.int pi), .val (.int (pm &&& (7 : Int32))), .val (.long qv), .second, .val (.int (9 : Int32)), .val (.int (27 : Int32)), .val (.int ((pi &&& (2147483647 : Int32)) % (9 : Int32))), .unset] [(.int ((((qv.toUInt64 >>> (((8 : Int32) * ((8 : Int32) - ((pi &&& (2147483647 : Int32)) % (9 : Int32)))) &&& 0x3f).toInt64.toUInt64).toInt64) &&& (255 : Int64)).toInt32))])) _
              refine XS.istore X0.here hx rfl (hb hby at_154) rfl (l' := #[.val (.int pm), .val (.long qa), .second, .val (.int ps), .val (.int pi), .val (.int (pm &&& (7 : Int32))), .val (.long qv), .second, .val (.int (9 : Int32)), .val (.int (27 : Int32)), .val (.int ((pi &&& (2147483647 : Int32)) % (9 : Int32))), .val (.int ((((qv.toUInt64 >>> (((8 : Int32) * ((8 : Int32) - ((pi &&& (2147483647 : Int32)) % (9 : Int32)))) &&& 0x3f).toInt64.toUInt64).toInt64) &&& (255 : Int64)).toInt32))]) rfl ?_
              rw [show v49 = ((((qv.toUInt64 >>> (((8 : Int32) * ((8 : Int32) - ((pi &&& (2147483647 : Int32)) % (9 : Int32)))) &&& 0x3f).toInt64.toUInt64).toInt64) &&& (255 : Int64)).toInt32) from hv49.trans (by simp only [if_neg hc48])] at k
              exact k
          refine own_pre (A := (s₁.setTop (mkF m 162 #[.val (.int pm), .val (.long qa), .second, .val (.int ps), .val (.int pi), .val (.int (pm &&& (7 : Int32))), .val (.long qv), .second, .val (.int (9 : Int32)), .val (.int (27 : Int32)), .val (.int ((pi &&& (2147483647 : Int32)) % (9 : Int32))), .val (.int v49)] [(.int ((pi &&& (2147483647 : Int32)) % (9 : Int32))), (.long qv), (.int (pm &&& (7 : Int32)))]))) ?_ ?_
          · intro t k
            show Steps p.tables e below (s₁.setTop (mkF m 156 #[.val (.int pm), .val (.long qa), .second, .val (.int ps), .val (.int pi), .val (.int (pm &&& (7 : Int32))), .val (.long qv), .second, .val (.int (9 : Int32)), .val (.int (27 : Int32)), .val (.int ((pi &&& (2147483647 : Int32)) % (9 : Int32))), .val (.int v49)] [])) _
            refine XS.iload X0.here hx rfl (hb hby at_156) rfl ?_
            refine XS.lload X0.here hx rfl (hb hby at_158) rfl ?_
            refine XS.iload X0.here hx rfl (hb hby at_160) rfl ?_
            exact k
          obtain ⟨_, _, ⟨T50, L50, k50, n50⟩, -, X50, ⟨Lc50, hQ50, l50, y50, z50⟩, st50⟩ := Jvm.LawKit.callS X0 hx (y := (⟨"com/example/sigillum/sigillum/cose/CborItem", "headByte", "(IJI)I"⟩ : MethodName)) hown (mvT hZ (own_w hw 2 rfl)) (mvT hZ (own_w hw 3 rfl)) (mvT hZ (own_w hw 4 rfl)) (mvT hZ (own_w hw 5 rfl)) (by decide) (backOf (W := 0) (rm1 l Z a0 hw [] (pm &&& (7 : Int32)) qv ((pi &&& (2147483647 : Int32)) % (9 : Int32)) h0 n0 Z0) hZ (own_w hw 5 rfl) (own_w hw 4 rfl) (by decide) (by decide)) (g := (mkF m 162 #[.val (.int pm), .val (.long qa), .second, .val (.int ps), .val (.int pi), .val (.int (pm &&& (7 : Int32))), .val (.long qv), .second, .val (.int (9 : Int32)), .val (.int (27 : Int32)), .val (.int ((pi &&& (2147483647 : Int32)) % (9 : Int32))), .val (.int v49)] [(.int ((pi &&& (2147483647 : Int32)) % (9 : Int32))), (.long qv), (.int (pm &&& (7 : Int32)))])) rfl (by rw [hml]; rfl) (argsL := [(.int (pm &&& (7 : Int32))), (.long qv), (.int ((pi &&& (2147483647 : Int32)) % (9 : Int32)))]) (rest := []) (lenOf own_pd3 rfl) rfl (by show 2 * 0 + _ ≤ _; exact Nat.le_of_eq rfl) (hb hby at_162) (fun _ _ => ⟨rfl, e0, (by decide : 0 + 0 ≤ _), (by decide : 0 + 0 ≤ _)⟩)
          dsimp only [Pt.U, Pt.locs, Pt.cells, Pt.slots] at X50 l50 y50 z50 st50 hQ50
          subst l50 y50 z50
          obtain ⟨rfl, Nq50, eq50⟩ := hQ50
          have N50 := Fr.app N0 Nq50
          refine own_pre (fun t k => st50 t k) ?_
          refine own_pre (A := (T50.setTop (mkF m 167 #[.val (.int pm), .val (.long qa), .second, .val (.int ps), .val (.int pi), .val (.int (pm &&& (7 : Int32))), .val (.long qv), .second, .val (.int (9 : Int32)), .val (.int (27 : Int32)), .val (.int ((pi &&& (2147483647 : Int32)) % (9 : Int32))), .val (.int v49)] [(.int v49), (.int (own_hb (pm &&& (7 : Int32)) qv ((pi &&& (2147483647 : Int32)) % (9 : Int32))))]))) ?_ ?_
          · intro t k
            show Steps p.tables e below (T50.setTop (mkF m 165 #[.val (.int pm), .val (.long qa), .second, .val (.int ps), .val (.int pi), .val (.int (pm &&& (7 : Int32))), .val (.long qv), .second, .val (.int (9 : Int32)), .val (.int (27 : Int32)), .val (.int ((pi &&& (2147483647 : Int32)) % (9 : Int32))), .val (.int v49)] [(.int (own_hb (pm &&& (7 : Int32)) qv ((pi &&& (2147483647 : Int32)) % (9 : Int32))))])) _
            refine XS.iload X50.here hx rfl (hb hby at_165) rfl ?_
            exact k
          obtain ⟨v52, hv52⟩ : ∃ z : Int32, z = (if (own_hb (pm &&& (7 : Int32)) qv ((pi &&& (2147483647 : Int32)) % (9 : Int32))) = v49 then (1 : Int32) else (0 : Int32)) := ⟨_, rfl⟩
          refine own_pre (A := (T50.setTop (mkF m 175 #[.val (.int pm), .val (.long qa), .second, .val (.int ps), .val (.int pi), .val (.int (pm &&& (7 : Int32))), .val (.long qv), .second, .val (.int (9 : Int32)), .val (.int (27 : Int32)), .val (.int ((pi &&& (2147483647 : Int32)) % (9 : Int32))), .val (.int v49)] [(.int v52)]))) ?_ ?_
          · intro t k
            show Steps p.tables e below (T50.setTop (mkF m 167 #[.val (.int pm), .val (.long qa), .second, .val (.int ps), .val (.int pi), .val (.int (pm &&& (7 : Int32))), .val (.long qv), .second, .val (.int (9 : Int32)), .val (.int (27 : Int32)), .val (.int ((pi &&& (2147483647 : Int32)) % (9 : Int32))), .val (.int v49)] [(.int v49), (.int (own_hb (pm &&& (7 : Int32)) qv ((pi &&& (2147483647 : Int32)) % (9 : Int32))))])) _
            by_cases hc51 : (own_hb (pm &&& (7 : Int32)) qv ((pi &&& (2147483647 : Int32)) % (9 : Int32))) = v49
            · skip
              refine XS.icmpNo X50.here hx rfl (hb hby at_167) rfl (teq hc51).2 ?_
              refine XS.iconst X50.here hx rfl (hb hby at_170) ?_
              show Steps p.tables e below (T50.setTop (mkF m 171 #[.val (.int pm), .val (.long qa), .second, .val (.int ps), .val (.int pi), .val (.int (pm &&& (7 : Int32))), .val (.long qv), .second, .val (.int (9 : Int32)), .val (.int (27 : Int32)), .val (.int ((pi &&& (2147483647 : Int32)) % (9 : Int32))), .val (.int v49)] [(.int (1 : Int32))])) _
              refine XS.goto X50.here hx rfl (pc0 := 171) (pc' := 175) rfl (hb hby at_171) (by decide) (by decide) ?_
              rw [show v52 = (1 : Int32) from hv52.trans (by simp only [if_pos hc51])] at k
              exact k
            · skip
              refine XS.icmpYes X50.here hx rfl (pc0 := 167) (pc' := 174) rfl (hb hby at_167) rfl (feq hc51).2 (by decide) (by decide) ?_
              refine XS.iconst X50.here hx rfl (hb hby at_174) ?_
              rw [show v52 = (0 : Int32) from hv52.trans (by simp only [if_neg hc51])] at k
              exact k
          have hl : own_hl qv = (9 : Int32) := by rw [own_eq]; simp only [own_exp, if_pos hc29, if_neg hc30, if_neg hc36, if_neg hc42]
          have hb' := own_hbK (pm &&& (7 : Int32)) qv ((pi &&& (2147483647 : Int32)) % (9 : Int32)) (9 : Int32) (8 : Int32) (27 : Int32) hl (by decide) (by decide) (by decide +kernel) (own_remP pi (9 : Int32) (by decide))
          rw [← hv49] at hb'
          have hz : v52 = (1 : Int32) := by rw [hv52, if_pos hb']
          rw [hz]
          obtain ⟨fs, hr, hrun, hended, hW, hsame⟩ := X50.leave (hlocks := BodyLoose.notSynchronized Bd) (v := some (.int (1 : Int32))) (fun h => by rw [Bd.returns] at h; cases h)
          refine ⟨_, _, retOut X50 hx Bd.returns rfl (Or.inl ⟨rfl, Or.inr (Or.inl rfl), _, rfl⟩) (hb hby at_175) hr, hrun, hended, _, _, rfl, ?_, ⟨_, rfl⟩, hW, hsame.mono (by decide) (by decide)⟩
          show own_Q0 h0 n0 _ T50.heap _
          rw [eq50]
          exact ⟨rfl, N50⟩
  · skip
    refine own_pre (A := (s₁.setTop (mkF m 21 #[.val (.int pm), .val (.long qa), .second, .val (.int ps), .val (.int pi), .val (.int (pm &&& (7 : Int32))), .val (.long qv), .second, .unset, .unset, .unset, .unset] []))) ?_ ?_
    · intro t k
      refine XS.ifNo X0.here hx rfl (hb hby at_18) rfl ((if0 _ _).trans (flt (fun q => hc29 ((lw_lt qv (0 : Int64)).mp q))).1) ?_
      exact k
    refine own_pre (A := (s₁.setTop (mkF m 27 #[.val (.int pm), .val (.long qa), .second, .val (.int ps), .val (.int pi), .val (.int (pm &&& (7 : Int32))), .val (.long qv), .second, .unset, .unset, .unset, .unset] [(.int (lcmpW qv (24 : Int64)))]))) ?_ ?_
    · intro t k
      show Steps p.tables e below (s₁.setTop (mkF m 21 #[.val (.int pm), .val (.long qa), .second, .val (.int ps), .val (.int pi), .val (.int (pm &&& (7 : Int32))), .val (.long qv), .second, .unset, .unset, .unset, .unset] [])) _
      refine XS.lload X0.here hx rfl (hb hby at_21) rfl ?_
      show Steps p.tables e below (s₁.setTop (mkF m 23 #[.val (.int pm), .val (.long qa), .second, .val (.int ps), .val (.int pi), .val (.int (pm &&& (7 : Int32))), .val (.long qv), .second, .unset, .unset, .unset, .unset] [(.long qv)])) _
      refine X0.ldc2Long hx hown (mvT hZ (own_w hw 0 rfl)) (g := (mkF m 23 #[.val (.int pm), .val (.long qa), .second, .val (.int ps), .val (.int pi), .val (.int (pm &&& (7 : Int32))), .val (.long qv), .second, .unset, .unset, .unset, .unset] [(.long qv)])) rfl (hb hby at_23) _ ?_
      show Steps p.tables e below (s₁.setTop (mkF m 26 #[.val (.int pm), .val (.long qa), .second, .val (.int ps), .val (.int pi), .val (.int (pm &&& (7 : Int32))), .val (.long qv), .second, .unset, .unset, .unset, .unset] [(.long (24 : Int64)), (.long qv)])) _
      refine XS.lcmp X0.here hx rfl (hb hby at_26) rfl ?_
      exact k
    by_cases hc53 : qv < (24 : Int64)
    · skip
      refine own_pre (A := (s₁.setTop (mkF m 30 #[.val (.int pm), .val (.long qa), .second, .val (.int ps), .val (.int pi), .val (.int (pm &&& (7 : Int32))), .val (.long qv), .second, .unset, .unset, .unset, .unset] []))) ?_ ?_
      · intro t k
        refine XS.ifNo X0.here hx rfl (hb hby at_27) rfl ((if0 _ _).trans (tlt ((lw_lt qv (24 : Int64)).mpr hc53)).2.1) ?_
        exact k
      refine own_pre (A := (s₁.setTop (mkF m 121 #[.val (.int pm), .val (.long qa), .second, .val (.int ps), .val (.int pi), .val (.int (pm &&& (7 : Int32))), .val (.long qv), .second, .val (.int (1 : Int32)), .val (.int (qv.toInt32)), .val (.int ((pi &&& (2147483647 : Int32)) % (1 : Int32))), .unset] [(.int ((pi &&& (2147483647 : Int32)) % (1 : Int32)))]))) ?_ ?_
      · intro t k
        show Steps p.tables e below (s₁.setTop (mkF m 30 #[.val (.int pm), .val (.long qa), .second, .val (.int ps), .val (.int pi), .val (.int (pm &&& (7 : Int32))), .val (.long qv), .second, .unset, .unset, .unset, .unset] [])) _
        refine XS.iconst X0.here hx rfl (hb hby at_30) ?_
        show Steps p.tables e below (s₁.setTop (mkF m 31 #[.val (.int pm), .val (.long qa), .second, .val (.int ps), .val (.int pi), .val (.int (pm &&& (7 : Int32))), .val (.long qv), .second, .unset, .unset, .unset, .unset] [(.int (1 : Int32))])) _
        refine XS.istore X0.here hx rfl (hb hby at_31) rfl (l' := #[.val (.int pm), .val (.long qa), .second, .val (.int ps), .val (.int pi), .val (.int (pm &&& (7 : Int32))), .val (.long qv), .second, .val (.int (1 : Int32)), .unset, .unset, .unset]) rfl ?_
        refine XS.lload X0.here hx rfl (hb hby at_33) rfl ?_
        refine XS.l2i X0.here hx rfl (hb hby at_35) rfl ?_
        show Steps p.tables e below (s₁.setTop (mkF m 36 #[.val (.int pm), .val (.long qa), .second, .val (.int ps), .val (.int pi), .val (.int (pm &&& (7 : Int32))), .val (.long qv), .second, .val (.int (1 : Int32)), .unset, .unset, .unset] [(.int (qv.toInt32))])) _
        refine XS.istore X0.here hx rfl (hb hby at_36) rfl (l' := #[.val (.int pm), .val (.long qa), .second, .val (.int ps), .val (.int pi), .val (.int (pm &&& (7 : Int32))), .val (.long qv), .second, .val (.int (1 : Int32)), .val (.int (qv.toInt32)), .unset, .unset]) rfl ?_
        show Steps p.tables e below (s₁.setTop (mkF m 38 #[.val (.int pm), .val (.long qa), .second, .val (.int ps), .val (.int pi), .val (.int (pm &&& (7 : Int32))), .val (.long qv), .second, .val (.int (1 : Int32)), .val (.int (qv.toInt32)), .unset, .unset] [])) _
        refine XS.goto X0.here hx rfl (pc0 := 38) (pc' := 109) rfl (hb hby at_38) (by decide) (by decide) ?_
        refine XS.iload X0.here hx rfl (hb hby at_109) rfl ?_
        show Steps p.tables e below (s₁.setTop (mkF m 111 #[.val (.int pm), .val (.long qa), .second, .val (.int ps), .val (.int pi), .val (.int (pm &&& (7 : Int32))), .val (.long qv), .second, .val (.int (1 : Int32)), .val (.int (qv.toInt32)), .unset, .unset] [(.int pi)])) _
        refine X0.ldcInt hx hown (mvT hZ (own_w hw 1 rfl)) (g := (mkF m 111 #[.val (.int pm), .val (.long qa), .second, .val (.int ps), .val (.int pi), .val (.int (pm &&& (7 : Int32))), .val (.long qv), .second, .val (.int (1 : Int32)), .val (.int (qv.toInt32)), .unset, .unset] [(.int pi)])) rfl (hb hby at_111) _ ?_
        show Steps p.tables e below (s₁.setTop (mkF m 113 #[.val (.int pm), .val (.long qa), .second, .val (.int ps), .val (.int pi), .val (.int (pm &&& (7 : Int32))), .val (.long qv), .second, .val (.int (1 : Int32)), .val (.int (qv.toInt32)), .unset, .unset] [(.int (2147483647 : Int32)), (.int pi)])) _
        refine XS.iand X0.here hx rfl (hb hby at_113) rfl ?_
        refine XS.iload X0.here hx rfl (hb hby at_114) rfl ?_
        show Steps p.tables e below (s₁.setTop (mkF m 116 #[.val (.int pm), .val (.long qa), .second, .val (.int ps), .val (.int pi), .val (.int (pm &&& (7 : Int32))), .val (.long qv), .second, .val (.int (1 : Int32)), .val (.int (qv.toInt32)), .unset, .unset] [(.int (1 : Int32)), (.int (pi &&& (2147483647 : Int32)))])) _
        refine iremM X0 hx rfl (hb hby at_116) rfl (by decide) ?_
        show Steps p.tables e below (s₁.setTop (mkF m 117 #[.val (.int pm), .val (.long qa), .second, .val (.int ps), .val (.int pi), .val (.int (pm &&& (7 : Int32))), .val (.long qv), .second, .val (.int (1 : Int32)), .val (.int (qv.toInt32)), .unset, .unset] [(.int ((pi &&& (2147483647 : Int32)) % (1 : Int32)))])) _
        refine XS.istore X0.here hx rfl (hb hby at_117) rfl (l' := #[.val (.int pm), .val (.long qa), .second, .val (.int ps), .val (.int pi), .val (.int (pm &&& (7 : Int32))), .val (.long qv), .second, .val (.int (1 : Int32)), .val (.int (qv.toInt32)), .val (.int ((pi &&& (2147483647 : Int32)) % (1 : Int32))), .unset]) rfl ?_
        refine XS.iload X0.here hx rfl (hb hby at_119) rfl ?_
        exact k
      obtain ⟨v55, hv55⟩ : ∃ z : Int32, z = (if ((pi &&& (2147483647 : Int32)) % (1 : Int32)) = (0 : Int32) then (((pm &&& (7 : Int32)) <<< ((5 : Int32) &&& 31)) ||| (qv.toInt32)) else ((((qv.toUInt64 >>> (((8 : Int32) * ((0 : Int32) - ((pi &&& (2147483647 : Int32)) % (1 : Int32)))) &&& 0x3f).toInt64.toUInt64).toInt64) &&& (255 : Int64)).toInt32)) := ⟨_, rfl⟩
      refine own_pre (A := (s₁.setTop (mkF m 156 #[.val (.int pm), .val (.long qa), .second, .val (.int ps), .val (.int pi), .val (.int (pm &&& (7 : Int32))), .val (.long qv), .second, .val (.int (1 : Int32)), .val (.int (qv.toInt32)), .val (.int ((pi &&& (2147483647 : Int32)) % (1 : Int32))), .val (.int v55)] []))) ?_ ?_
      · intro t k
        show Steps p.tables e below (s₁.setTop (mkF m 121 #[.val (.int pm), .val (.long qa), .second, .val (.int ps), .val (.int pi), .val (.int (pm &&& (7 : Int32))), .val (.long qv), .second, .val (.int (1 : Int32)), .val (.int (qv.toInt32)), .val (.int ((pi &&& (2147483647 : Int32)) % (1 : Int32))), .unset] [(.int ((pi &&& (2147483647 : Int32)) % (1 : Int32)))])) _
        by_cases hc54 : ((pi &&& (2147483647 : Int32)) % (1 : Int32)) = (0 : Int32)
        · skip
          refine XS.ifNo X0.here hx rfl (hb hby at_121) rfl ((if0 _ _).trans (teq hc54).2) ?_
          refine XS.iload X0.here hx rfl (hb hby at_124) rfl ?_
          refine XS.iconst X0.here hx rfl (hb hby at_126) ?_
          refine XS.ishl X0.here hx rfl (hb hby at_127) rfl ?_
          refine XS.iload X0.here hx rfl (hb hby at_128) rfl ?_
          refine XS.ior X0.here hx rfl (hb hby at_130) rfl ?_
          show Steps p.tables e below (s₁.setTop (mkF m 131 #[.val (.int pm), .val (.long qa), .second, .val (.int ps), .val (.int pi), .val (.int (pm &&& (7 : Int32))), .val (.long qv), .second, .val (.int (1 : Int32)), .val (.int (qv.toInt32)), .val (.int ((pi &&& (2147483647 : Int32)) % (1 : Int32))), .unset] [(.int (((pm &&& (7 : Int32)) <<< ((5 : Int32) &&& 31)) ||| (qv.toInt32)))])) _
          refine XS.istore X0.here hx rfl (hb hby at_131) rfl (l' := #[.val (.int pm), .val (.long qa), .second, .val (.int ps), .val (.int pi), .val (.int (pm &&& (7 : Int32))), .val (.long qv), .second, .val (.int (1 : Int32)), .val (.int (qv.toInt32)), .val (.int ((pi &&& (2147483647 : Int32)) % (1 : Int32))), .val (.int (((pm &&& (7 : Int32)) <<< ((5 : Int32) &&& 31)) ||| (qv.toInt32)))]) rfl ?_
          show Steps p.tables e below (s₁.setTop (mkF m 133 #[.val (.int pm), .val (.long qa), .second, .val (.int ps), .val (.int pi), .val (.int (pm &&& (7 : Int32))), .val (.long qv), .second, .val (.int (1 : Int32)), .val (.int (qv.toInt32)), .val (.int ((pi &&& (2147483647 : Int32)) % (1 : Int32))), .val (.int (((pm &&& (7 : Int32)) <<< ((5 : Int32) &&& 31)) ||| (qv.toInt32)))] [])) _
          refine XS.goto X0.here hx rfl (pc0 := 133) (pc' := 156) rfl (hb hby at_133) (by decide) (by decide) ?_
          rw [show v55 = (((pm &&& (7 : Int32)) <<< ((5 : Int32) &&& 31)) ||| (qv.toInt32)) from hv55.trans (by simp only [if_pos hc54])] at k
          exact k
        · skip
          refine XS.ifYes X0.here hx rfl (pc0 := 121) (pc' := 136) rfl (hb hby at_121) rfl ((if0 _ _).trans (feq hc54).2) (by decide) (by decide) ?_
          refine XS.lload X0.here hx rfl (hb hby at_136) rfl ?_
          refine XS.bipush X0.here hx rfl (hb hby at_138) ?_
          refine XS.iload X0.here hx rfl (hb hby at_140) rfl ?_
          refine XS.iconst X0.here hx rfl (hb hby at_142) ?_
          refine XS.isub X0.here hx rfl (hb hby at_143) rfl ?_
          show Steps p.tables e below (s₁.setTop (mkF m 144 #[.val (.int pm), .val (.long qa), .second, .val (.int ps), .val (.int pi), .val (.int (pm &&& (7 : Int32))), .val (.long qv), .second, .val (.int (1 : Int32)), .val (.int (qv.toInt32)), .val (.int ((pi &&& (2147483647 : Int32)) % (1 : Int32))), .unset] [(.int ((1 : Int32) - (1 : Int32))), (.int (8 : Int32)), (.long qv)])) _
          rw [show ((1 : Int32) - (1 : Int32)) = (0 : Int32) from by decide]
          show Steps p.tables e below (s₁.setTop (mkF m 144 #[.val (.int pm), .val (.long qa), .second, .val (.int ps), .val (.int pi), .val (.int (pm &&& (7 : Int32))), .val (.long qv), .second, .val (.int (1 : Int32)), .val (.int (qv.toInt32)), .val (.int ((pi &&& (2147483647 : Int32)) % (1 : Int32))), .unset] [(.int (0 : Int32)), (.int (8 : Int32)), (.long qv)])) _
          refine XS.iload X0.here hx rfl (hb hby at_144) rfl ?_
          refine XS.isub X0.here hx rfl (hb hby at_146) rfl ?_
          refine XS.imul X0.here hx rfl (hb hby at_147) rfl ?_
          refine XS.lushr X0.here hx rfl (hb hby at_148) rfl ?_
          show Steps p.tables e below (s₁.setTop (mkF m 149 #[.val (.int pm), .val (.long qa), .second, .val (.int ps), .val (.int pi), .val (.int (pm &&& (7 : Int32))), .val (.long qv), .second, .val (.int (1 : Int32)), .val (.int (qv.toInt32)), .val (.int ((pi &&& (2147483647 : Int32)) % (1 : Int32))), .unset] [(.long ((qv.toUInt64 >>> (((8 : Int32) * ((0 : Int32) - ((pi &&& (2147483647 : Int32)) % (1 : Int32)))) &&& 0x3f).toInt64.toUInt64).toInt64))])) _
          refine X0.ldc2Long hx hown (mvT hZ (own_w hw 18 rfl)) (g := (mkF m 149 #[.val (.int pm), .val (.long qa), .second, .val (.int ps), .val (.int pi), .val (.int (pm &&& (7 : Int32))), .val (.long qv), .second, .val (.int (1 : Int32)), .val (.int (qv.toInt32)), .val (.int ((pi &&& (2147483647 : Int32)) % (1 : Int32))), .unset] [(.long ((qv.toUInt64 >>> (((8 : Int32) * ((0 : Int32) - ((pi &&& (2147483647 : Int32)) % (1 : Int32)))) &&& 0x3f).toInt64.toUInt64).toInt64))])) rfl (hb hby at_149) _ ?_
          show Steps p.tables e below (s₁.setTop (mkF m 152 #[.val (.int pm), .val (.long qa), .second, .val (.int ps), .val (.int pi), .val (.int (pm &&& (7 : Int32))), .val (.long qv), .second, .val (.int (1 : Int32)), .val (.int (qv.toInt32)), .val (.int ((pi &&& (2147483647 : Int32)) % (1 : Int32))), .unset] [(.long (255 : Int64)), (.long ((qv.toUInt64 >>> (((8 : Int32) * ((0 : Int32) - ((pi &&& (2147483647 : Int32)) % (1 : Int32)))) &&& 0x3f).toInt64.toUInt64).toInt64))])) _
          refine XS.land X0.here hx rfl (hb hby at_152) rfl ?_
          refine XS.l2i X0.here hx rfl (hb hby at_153) rfl ?_
          show Steps p.tables e below (s₁.setTop (mkF m 154 #[.val (.int pm), .val (.long qa), .second, .val (.int ps), .val (.int pi), .val (.int (pm &&& (7 : Int32))), .val (.long qv), .second, .val (.int (1 : Int32)), .val (.int (qv.toInt32)), .val (.int ((pi &&& (2147483647 : Int32)) % (1 : Int32))), .unset] [(.int ((((qv.toUInt64 >>> (((8 : Int32) * ((0 : Int32) - ((pi &&& (2147483647 : Int32)) % (1 : Int32)))) &&& 0x3f).toInt64.toUInt64).toInt64) &&& (255 : Int64)).toInt32))])) _
          refine XS.istore X0.here hx rfl (hb hby at_154) rfl (l' := #[.val (.int pm), .val (.long qa), .second, .val (.int ps), .val (.int pi), .val (.int (pm &&& (7 : Int32))), .val (.long qv), .second, .val (.int (1 : Int32)), .val (.int (qv.toInt32)), .val (.int ((pi &&& (2147483647 : Int32)) % (1 : Int32))), .val (.int ((((qv.toUInt64 >>> (((8 : Int32) * ((0 : Int32) - ((pi &&& (2147483647 : Int32)) % (1 : Int32)))) &&& 0x3f).toInt64.toUInt64).toInt64) &&& (255 : Int64)).toInt32))]) rfl ?_
          rw [show v55 = ((((qv.toUInt64 >>> (((8 : Int32) * ((0 : Int32) - ((pi &&& (2147483647 : Int32)) % (1 : Int32)))) &&& 0x3f).toInt64.toUInt64).toInt64) &&& (255 : Int64)).toInt32) from hv55.trans (by simp only [if_neg hc54])] at k
          exact k
      refine own_pre (A := (s₁.setTop (mkF m 162 #[.val (.int pm), .val (.long qa), .second, .val (.int ps), .val (.int pi), .val (.int (pm &&& (7 : Int32))), .val (.long qv), .second, .val (.int (1 : Int32)), .val (.int (qv.toInt32)), .val (.int ((pi &&& (2147483647 : Int32)) % (1 : Int32))), .val (.int v55)] [(.int ((pi &&& (2147483647 : Int32)) % (1 : Int32))), (.long qv), (.int (pm &&& (7 : Int32)))]))) ?_ ?_
      · intro t k
        show Steps p.tables e below (s₁.setTop (mkF m 156 #[.val (.int pm), .val (.long qa), .second, .val (.int ps), .val (.int pi), .val (.int (pm &&& (7 : Int32))), .val (.long qv), .second, .val (.int (1 : Int32)), .val (.int (qv.toInt32)), .val (.int ((pi &&& (2147483647 : Int32)) % (1 : Int32))), .val (.int v55)] [])) _
        refine XS.iload X0.here hx rfl (hb hby at_156) rfl ?_
        refine XS.lload X0.here hx rfl (hb hby at_158) rfl ?_
        refine XS.iload X0.here hx rfl (hb hby at_160) rfl ?_
        exact k
      obtain ⟨_, _, ⟨T56, L56, k56, n56⟩, -, X56, ⟨Lc56, hQ56, l56, y56, z56⟩, st56⟩ := Jvm.LawKit.callS X0 hx (y := (⟨"com/example/sigillum/sigillum/cose/CborItem", "headByte", "(IJI)I"⟩ : MethodName)) hown (mvT hZ (own_w hw 2 rfl)) (mvT hZ (own_w hw 3 rfl)) (mvT hZ (own_w hw 4 rfl)) (mvT hZ (own_w hw 5 rfl)) (by decide) (backOf (W := 0) (rm1 l Z a0 hw [] (pm &&& (7 : Int32)) qv ((pi &&& (2147483647 : Int32)) % (1 : Int32)) h0 n0 Z0) hZ (own_w hw 5 rfl) (own_w hw 4 rfl) (by decide) (by decide)) (g := (mkF m 162 #[.val (.int pm), .val (.long qa), .second, .val (.int ps), .val (.int pi), .val (.int (pm &&& (7 : Int32))), .val (.long qv), .second, .val (.int (1 : Int32)), .val (.int (qv.toInt32)), .val (.int ((pi &&& (2147483647 : Int32)) % (1 : Int32))), .val (.int v55)] [(.int ((pi &&& (2147483647 : Int32)) % (1 : Int32))), (.long qv), (.int (pm &&& (7 : Int32)))])) rfl (by rw [hml]; rfl) (argsL := [(.int (pm &&& (7 : Int32))), (.long qv), (.int ((pi &&& (2147483647 : Int32)) % (1 : Int32)))]) (rest := []) (lenOf own_pd3 rfl) rfl (by show 2 * 0 + _ ≤ _; exact Nat.le_of_eq rfl) (hb hby at_162) (fun _ _ => ⟨rfl, e0, (by decide : 0 + 0 ≤ _), (by decide : 0 + 0 ≤ _)⟩)
      dsimp only [Pt.U, Pt.locs, Pt.cells, Pt.slots] at X56 l56 y56 z56 st56 hQ56
      subst l56 y56 z56
      obtain ⟨rfl, Nq56, eq56⟩ := hQ56
      have N56 := Fr.app N0 Nq56
      refine own_pre (fun t k => st56 t k) ?_
      refine own_pre (A := (T56.setTop (mkF m 167 #[.val (.int pm), .val (.long qa), .second, .val (.int ps), .val (.int pi), .val (.int (pm &&& (7 : Int32))), .val (.long qv), .second, .val (.int (1 : Int32)), .val (.int (qv.toInt32)), .val (.int ((pi &&& (2147483647 : Int32)) % (1 : Int32))), .val (.int v55)] [(.int v55), (.int (own_hb (pm &&& (7 : Int32)) qv ((pi &&& (2147483647 : Int32)) % (1 : Int32))))]))) ?_ ?_
      · intro t k
        show Steps p.tables e below (T56.setTop (mkF m 165 #[.val (.int pm), .val (.long qa), .second, .val (.int ps), .val (.int pi), .val (.int (pm &&& (7 : Int32))), .val (.long qv), .second, .val (.int (1 : Int32)), .val (.int (qv.toInt32)), .val (.int ((pi &&& (2147483647 : Int32)) % (1 : Int32))), .val (.int v55)] [(.int (own_hb (pm &&& (7 : Int32)) qv ((pi &&& (2147483647 : Int32)) % (1 : Int32))))])) _
        refine XS.iload X56.here hx rfl (hb hby at_165) rfl ?_
        exact k
      obtain ⟨v58, hv58⟩ : ∃ z : Int32, z = (if (own_hb (pm &&& (7 : Int32)) qv ((pi &&& (2147483647 : Int32)) % (1 : Int32))) = v55 then (1 : Int32) else (0 : Int32)) := ⟨_, rfl⟩
      refine own_pre (A := (T56.setTop (mkF m 175 #[.val (.int pm), .val (.long qa), .second, .val (.int ps), .val (.int pi), .val (.int (pm &&& (7 : Int32))), .val (.long qv), .second, .val (.int (1 : Int32)), .val (.int (qv.toInt32)), .val (.int ((pi &&& (2147483647 : Int32)) % (1 : Int32))), .val (.int v55)] [(.int v58)]))) ?_ ?_
      · intro t k
        show Steps p.tables e below (T56.setTop (mkF m 167 #[.val (.int pm), .val (.long qa), .second, .val (.int ps), .val (.int pi), .val (.int (pm &&& (7 : Int32))), .val (.long qv), .second, .val (.int (1 : Int32)), .val (.int (qv.toInt32)), .val (.int ((pi &&& (2147483647 : Int32)) % (1 : Int32))), .val (.int v55)] [(.int v55), (.int (own_hb (pm &&& (7 : Int32)) qv ((pi &&& (2147483647 : Int32)) % (1 : Int32))))])) _
        by_cases hc57 : (own_hb (pm &&& (7 : Int32)) qv ((pi &&& (2147483647 : Int32)) % (1 : Int32))) = v55
        · skip
          refine XS.icmpNo X56.here hx rfl (hb hby at_167) rfl (teq hc57).2 ?_
          refine XS.iconst X56.here hx rfl (hb hby at_170) ?_
          show Steps p.tables e below (T56.setTop (mkF m 171 #[.val (.int pm), .val (.long qa), .second, .val (.int ps), .val (.int pi), .val (.int (pm &&& (7 : Int32))), .val (.long qv), .second, .val (.int (1 : Int32)), .val (.int (qv.toInt32)), .val (.int ((pi &&& (2147483647 : Int32)) % (1 : Int32))), .val (.int v55)] [(.int (1 : Int32))])) _
          refine XS.goto X56.here hx rfl (pc0 := 171) (pc' := 175) rfl (hb hby at_171) (by decide) (by decide) ?_
          rw [show v58 = (1 : Int32) from hv58.trans (by simp only [if_pos hc57])] at k
          exact k
        · skip
          refine XS.icmpYes X56.here hx rfl (pc0 := 167) (pc' := 174) rfl (hb hby at_167) rfl (feq hc57).2 (by decide) (by decide) ?_
          refine XS.iconst X56.here hx rfl (hb hby at_174) ?_
          rw [show v58 = (0 : Int32) from hv58.trans (by simp only [if_neg hc57])] at k
          exact k
      have hl : own_hl qv = (1 : Int32) := by rw [own_eq]; simp only [own_exp, if_neg hc29, if_pos hc53]
      have hb' := own_hb1 (pm &&& (7 : Int32)) qv ((pi &&& (2147483647 : Int32)) % (1 : Int32)) (((((qv.toUInt64 >>> (((8 : Int32) * ((0 : Int32) - ((pi &&& (2147483647 : Int32)) % (1 : Int32)))) &&& 0x3f).toInt64.toUInt64).toInt64)) &&& (255 : Int64)).toInt32) hl (own_rem1 pi)
      rw [← hv55] at hb'
      have hz : v58 = (1 : Int32) := by rw [hv58, if_pos hb']
      rw [hz]
      obtain ⟨fs, hr, hrun, hended, hW, hsame⟩ := X56.leave (hlocks := BodyLoose.notSynchronized Bd) (v := some (.int (1 : Int32))) (fun h => by rw [Bd.returns] at h; cases h)
      refine ⟨_, _, retOut X56 hx Bd.returns rfl (Or.inl ⟨rfl, Or.inr (Or.inl rfl), _, rfl⟩) (hb hby at_175) hr, hrun, hended, _, _, rfl, ?_, ⟨_, rfl⟩, hW, hsame.mono (by decide) (by decide)⟩
      show own_Q0 h0 n0 _ T56.heap _
      rw [eq56]
      exact ⟨rfl, N56⟩
    · skip
      refine own_pre (A := (s₁.setTop (mkF m 41 #[.val (.int pm), .val (.long qa), .second, .val (.int ps), .val (.int pi), .val (.int (pm &&& (7 : Int32))), .val (.long qv), .second, .unset, .unset, .unset, .unset] []))) ?_ ?_
      · intro t k
        refine XS.ifYes X0.here hx rfl (pc0 := 27) (pc' := 41) rfl (hb hby at_27) rfl ((if0 _ _).trans (flt (fun q => hc53 ((lw_lt qv (24 : Int64)).mp q))).2.1) (by decide) (by decide) ?_
        exact k
      refine own_pre (A := (s₁.setTop (mkF m 48 #[.val (.int pm), .val (.long qa), .second, .val (.int ps), .val (.int pi), .val (.int (pm &&& (7 : Int32))), .val (.long qv), .second, .unset, .unset, .unset, .unset] [(.int (lcmpW ((qv.toUInt64 >>> ((8 : Int32) &&& 0x3f).toInt64.toUInt64).toInt64) (0 : Int64)))]))) ?_ ?_
      · intro t k
        show Steps p.tables e below (s₁.setTop (mkF m 41 #[.val (.int pm), .val (.long qa), .second, .val (.int ps), .val (.int pi), .val (.int (pm &&& (7 : Int32))), .val (.long qv), .second, .unset, .unset, .unset, .unset] [])) _
        refine XS.lload X0.here hx rfl (hb hby at_41) rfl ?_
        refine XS.bipush X0.here hx rfl (hb hby at_43) ?_
        refine XS.lushr X0.here hx rfl (hb hby at_45) rfl ?_
        refine XS.lconst X0.here hx rfl (hb hby at_46) ?_
        refine XS.lcmp X0.here hx rfl (hb hby at_47) rfl ?_
        exact k
      by_cases hc59 : ((qv.toUInt64 >>> ((8 : Int32) &&& 0x3f).toInt64.toUInt64).toInt64) = (0 : Int64)
      · skip
        refine own_pre (A := (s₁.setTop (mkF m 51 #[.val (.int pm), .val (.long qa), .second, .val (.int ps), .val (.int pi), .val (.int (pm &&& (7 : Int32))), .val (.long qv), .second, .unset, .unset, .unset, .unset] []))) ?_ ?_
        · intro t k
          refine XS.ifNo X0.here hx rfl (hb hby at_48) rfl ((if0 _ _).trans (teq ((lw_eq ((qv.toUInt64 >>> ((8 : Int32) &&& 0x3f).toInt64.toUInt64).toInt64) (0 : Int64)).mpr hc59)).2) ?_
          exact k
        refine own_pre (A := (s₁.setTop (mkF m 121 #[.val (.int pm), .val (.long qa), .second, .val (.int ps), .val (.int pi), .val (.int (pm &&& (7 : Int32))), .val (.long qv), .second, .val (.int (2 : Int32)), .val (.int (24 : Int32)), .val (.int ((pi &&& (2147483647 : Int32)) % (2 : Int32))), .unset] [(.int ((pi &&& (2147483647 : Int32)) % (2 : Int32)))]))) ?_ ?_
        · intro t k
          show Steps p.tables e below (s₁.setTop (mkF m 51 #[.val (.int pm), .val (.long qa), .second, .val (.int ps), .val (.int pi), .val (.int (pm &&& (7 : Int32))), .val (.long qv), .second, .unset, .unset, .unset, .unset] [])) _
          refine XS.iconst X0.here hx rfl (hb hby at_51) ?_
          show Steps p.tables e below (s₁.setTop (mkF m 52 #[.val (.int pm), .val (.long qa), .second, .val (.int ps), .val (.int pi), .val (.int (pm &&& (7 : Int32))), .val (.long qv), .second, .unset, .unset, .unset, .unset] [(.int (2 : Int32))])) _
          refine XS.istore X0.here hx rfl (hb hby at_52) rfl (l' := #[.val (.int pm), .val (.long qa), .second, .val (.int ps), .val (.int pi), .val (.int (pm &&& (7 : Int32))), .val (.long qv), .second, .val (.int (2 : Int32)), .unset, .unset, .unset]) rfl ?_
          refine XS.bipush X0.here hx rfl (hb hby at_54) ?_
          show Steps p.tables e below (s₁.setTop (mkF m 56 #[.val (.int pm), .val (.long qa), .second, .val (.int ps), .val (.int pi), .val (.int (pm &&& (7 : Int32))), .val (.long qv), .second, .val (.int (2 : Int32)), .unset, .unset, .unset] [(.int (24 : Int32))])) _
          refine XS.istore X0.here hx rfl (hb hby at_56) rfl (l' := #[.val (.int pm), .val (.long qa), .second, .val (.int ps), .val (.int pi), .val (.int (pm &&& (7 : Int32))), .val (.long qv), .second, .val (.int (2 : Int32)), .val (.int (24 : Int32)), .unset, .unset]) rfl ?_
          show Steps p.tables e below (s₁.setTop (mkF m 58 #[.val (.int pm), .val (.long qa), .second, .val (.int ps), .val (.int pi), .val (.int (pm &&& (7 : Int32))), .val (.long qv), .second, .val (.int (2 : Int32)), .val (.int (24 : Int32)), .unset, .unset] [])) _
          refine XS.goto X0.here hx rfl (pc0 := 58) (pc' := 109) rfl (hb hby at_58) (by decide) (by decide) ?_
          refine XS.iload X0.here hx rfl (hb hby at_109) rfl ?_
          show Steps p.tables e below (s₁.setTop (mkF m 111 #[.val (.int pm), .val (.long qa), .second, .val (.int ps), .val (.int pi), .val (.int (pm &&& (7 : Int32))), .val (.long qv), .second, .val (.int (2 : Int32)), .val (.int (24 : Int32)), .unset, .unset] [(.int pi)])) _
          refine X0.ldcInt hx hown (mvT hZ (own_w hw 1 rfl)) (g := (mkF m 111 #[.val (.int pm), .val (.long qa), .second, .val (.int ps), .val (.int pi), .val (.int (pm &&& (7 : Int32))), .val (.long qv), .second, .val (.int (2 : Int32)), .val (.int (24 : Int32)), .unset, .unset] [(.int pi)])) rfl (hb hby at_111) _ ?_
          show Steps p.tables e below (s₁.setTop (mkF m 113 #[.val (.int pm), .val (.long qa), .second, .val (.int ps), .val (.int pi), .val (.int (pm &&& (7 : Int32))), .val (.long qv), .second, .val (.int (2 : Int32)), .val (.int (24 : Int32)), .unset, .unset] [(.int (2147483647 : Int32)), (.int pi)])) _
          refine XS.iand X0.here hx rfl (hb hby at_113) rfl ?_
          refine XS.iload X0.here hx rfl (hb hby at_114) rfl ?_
          show Steps p.tables e below (s₁.setTop (mkF m 116 #[.val (.int pm), .val (.long qa), .second, .val (.int ps), .val (.int pi), .val (.int (pm &&& (7 : Int32))), .val (.long qv), .second, .val (.int (2 : Int32)), .val (.int (24 : Int32)), .unset, .unset] [(.int (2 : Int32)), (.int (pi &&& (2147483647 : Int32)))])) _
          refine iremM X0 hx rfl (hb hby at_116) rfl (by decide) ?_
          show Steps p.tables e below (s₁.setTop (mkF m 117 #[.val (.int pm), .val (.long qa), .second, .val (.int ps), .val (.int pi), .val (.int (pm &&& (7 : Int32))), .val (.long qv), .second, .val (.int (2 : Int32)), .val (.int (24 : Int32)), .unset, .unset] [(.int ((pi &&& (2147483647 : Int32)) % (2 : Int32)))])) _
          refine XS.istore X0.here hx rfl (hb hby at_117) rfl (l' := #[.val (.int pm), .val (.long qa), .second, .val (.int ps), .val (.int pi), .val (.int (pm &&& (7 : Int32))), .val (.long qv), .second, .val (.int (2 : Int32)), .val (.int (24 : Int32)), .val (.int ((pi &&& (2147483647 : Int32)) % (2 : Int32))), .unset]) rfl ?_
          refine XS.iload X0.here hx rfl (hb hby at_119) rfl ?_
          exact k
        obtain ⟨v61, hv61⟩ : ∃ z : Int32, z = (if ((pi &&& (2147483647 : Int32)) % (2 : Int32)) = (0 : Int32) then (((pm &&& (7 : Int32)) <<< ((5 : Int32) &&& 31)) ||| (24 : Int32)) else ((((qv.toUInt64 >>> (((8 : Int32) * ((1 : Int32) - ((pi &&& (2147483647 : Int32)) % (2 : Int32)))) &&& 0x3f).toInt64.toUInt64).toInt64) &&& (255 : Int64)).toInt32)) := ⟨_, rfl⟩
        refine own_pre (A := (s₁.setTop (mkF m 156 #[.val (.int pm), .val (.long qa), .second, .val (.int ps), .val (.int pi), .val (.int (pm &&& (7 : Int32))), .val (.long qv), .second, .val (.int (2 : Int32)), .val (.int (24 : Int32)), .val (.int ((pi &&& (2147483647 : Int32)) % (2 : Int32))), .val (.int v61)] []))) ?_ ?_
        · intro t k
          show Steps p.tables e below (s₁.setTop (mkF m 121 #[.val (.int pm), .val (.long qa), .second, .val (.int ps), .val (.int pi), .val (.int (pm &&& (7 : Int32))), .val (.long qv), .second, .val (.int (2 : Int32)), .val (.int (24 : Int32)), .val (.int ((pi &&& (2147483647 : Int32)) % (2 : Int32))), .unset] [(.int ((pi &&& (2147483647 : Int32)) % (2 : Int32)))])) _
          by_cases hc60 : ((pi &&& (2147483647 : Int32)) % (2 : Int32)) = (0 : Int32)
          · skip
            refine XS.ifNo X0.here hx rfl (hb hby at_121) rfl ((if0 _ _).trans (teq hc60).2) ?_
            refine XS.iload X0.here hx rfl (hb hby at_124) rfl ?_
            refine XS.iconst X0.here hx rfl (hb hby at_126) ?_
            refine XS.ishl X0.here hx rfl (hb hby at_127) rfl ?_
            refine XS.iload X0.here hx rfl (hb hby at_128) rfl ?_
            refine XS.ior X0.here hx rfl (hb hby at_130) rfl ?_
            show Steps p.tables e below (s₁.setTop (mkF m 131 #[.val (.int pm), .val (.long qa), .second, .val (.int ps), .val (.int pi), .val (.int (pm &&& (7 : Int32))), .val (.long qv), .second, .val (.int (2 : Int32)), .val (.int (24 : Int32)), .val (.int ((pi &&& (2147483647 : Int32)) % (2 : Int32))), .unset] [(.int (((pm &&& (7 : Int32)) <<< ((5 : Int32) &&& 31)) ||| (24 : Int32)))])) _
            refine XS.istore X0.here hx rfl (hb hby at_131) rfl (l' := #[.val (.int pm), .val (.long qa), .second, .val (.int ps), .val (.int pi), .val (.int (pm &&& (7 : Int32))), .val (.long qv), .second, .val (.int (2 : Int32)), .val (.int (24 : Int32)), .val (.int ((pi &&& (2147483647 : Int32)) % (2 : Int32))), .val (.int (((pm &&& (7 : Int32)) <<< ((5 : Int32) &&& 31)) ||| (24 : Int32)))]) rfl ?_
            show Steps p.tables e below (s₁.setTop (mkF m 133 #[.val (.int pm), .val (.long qa), .second, .val (.int ps), .val (.int pi), .val (.int (pm &&& (7 : Int32))), .val (.long qv), .second, .val (.int (2 : Int32)), .val (.int (24 : Int32)), .val (.int ((pi &&& (2147483647 : Int32)) % (2 : Int32))), .val (.int (((pm &&& (7 : Int32)) <<< ((5 : Int32) &&& 31)) ||| (24 : Int32)))] [])) _
            refine XS.goto X0.here hx rfl (pc0 := 133) (pc' := 156) rfl (hb hby at_133) (by decide) (by decide) ?_
            rw [show v61 = (((pm &&& (7 : Int32)) <<< ((5 : Int32) &&& 31)) ||| (24 : Int32)) from hv61.trans (by simp only [if_pos hc60])] at k
            exact k
          · skip
            refine XS.ifYes X0.here hx rfl (pc0 := 121) (pc' := 136) rfl (hb hby at_121) rfl ((if0 _ _).trans (feq hc60).2) (by decide) (by decide) ?_
            refine XS.lload X0.here hx rfl (hb hby at_136) rfl ?_
            refine XS.bipush X0.here hx rfl (hb hby at_138) ?_
            refine XS.iload X0.here hx rfl (hb hby at_140) rfl ?_
            refine XS.iconst X0.here hx rfl (hb hby at_142) ?_
            refine XS.isub X0.here hx rfl (hb hby at_143) rfl ?_
            show Steps p.tables e below (s₁.setTop (mkF m 144 #[.val (.int pm), .val (.long qa), .second, .val (.int ps), .val (.int pi), .val (.int (pm &&& (7 : Int32))), .val (.long qv), .second, .val (.int (2 : Int32)), .val (.int (24 : Int32)), .val (.int ((pi &&& (2147483647 : Int32)) % (2 : Int32))), .unset] [(.int ((2 : Int32) - (1 : Int32))), (.int (8 : Int32)), (.long qv)])) _
            rw [show ((2 : Int32) - (1 : Int32)) = (1 : Int32) from by decide]
            show Steps p.tables e below (s₁.setTop (mkF m 144 #[.val (.int pm), .val (.long qa), .second, .val (.int ps), .val (.int pi), .val (.int (pm &&& (7 : Int32))), .val (.long qv), .second, .val (.int (2 : Int32)), .val (.int (24 : Int32)), .val (.int ((pi &&& (2147483647 : Int32)) % (2 : Int32))), .unset] [(.int (1 : Int32)), (.int (8 : Int32)), (.long qv)])) _
            refine XS.iload X0.here hx rfl (hb hby at_144) rfl ?_
            refine XS.isub X0.here hx rfl (hb hby at_146) rfl ?_
            refine XS.imul X0.here hx rfl (hb hby at_147) rfl ?_
            refine XS.lushr X0.here hx rfl (hb hby at_148) rfl ?_
            show Steps p.tables e below (s₁.setTop (mkF m 149 #[.val (.int pm), .val (.long qa), .second, .val (.int ps), .val (.int pi), .val (.int (pm &&& (7 : Int32))), .val (.long qv), .second, .val (.int (2 : Int32)), .val (.int (24 : Int32)), .val (.int ((pi &&& (2147483647 : Int32)) % (2 : Int32))), .unset] [(.long ((qv.toUInt64 >>> (((8 : Int32) * ((1 : Int32) - ((pi &&& (2147483647 : Int32)) % (2 : Int32)))) &&& 0x3f).toInt64.toUInt64).toInt64))])) _
            refine X0.ldc2Long hx hown (mvT hZ (own_w hw 18 rfl)) (g := (mkF m 149 #[.val (.int pm), .val (.long qa), .second, .val (.int ps), .val (.int pi), .val (.int (pm &&& (7 : Int32))), .val (.long qv), .second, .val (.int (2 : Int32)), .val (.int (24 : Int32)), .val (.int ((pi &&& (2147483647 : Int32)) % (2 : Int32))), .unset] [(.long ((qv.toUInt64 >>> (((8 : Int32) * ((1 : Int32) - ((pi &&& (2147483647 : Int32)) % (2 : Int32)))) &&& 0x3f).toInt64.toUInt64).toInt64))])) rfl (hb hby at_149) _ ?_
            show Steps p.tables e below (s₁.setTop (mkF m 152 #[.val (.int pm), .val (.long qa), .second, .val (.int ps), .val (.int pi), .val (.int (pm &&& (7 : Int32))), .val (.long qv), .second, .val (.int (2 : Int32)), .val (.int (24 : Int32)), .val (.int ((pi &&& (2147483647 : Int32)) % (2 : Int32))), .unset] [(.long (255 : Int64)), (.long ((qv.toUInt64 >>> (((8 : Int32) * ((1 : Int32) - ((pi &&& (2147483647 : Int32)) % (2 : Int32)))) &&& 0x3f).toInt64.toUInt64).toInt64))])) _
            refine XS.land X0.here hx rfl (hb hby at_152) rfl ?_
            refine XS.l2i X0.here hx rfl (hb hby at_153) rfl ?_
            show Steps p.tables e below (s₁.setTop (mkF m 154 #[.val (.int pm), .val (.long qa), .second, .val (.int ps), .val (.int pi), .val (.int (pm &&& (7 : Int32))), .val (.long qv), .second, .val (.int (2 : Int32)), .val (.int (24 : Int32)), .val (.int ((pi &&& (2147483647 : Int32)) % (2 : Int32))), .unset] [(.int ((((qv.toUInt64 >>> (((8 : Int32) * ((1 : Int32) - ((pi &&& (2147483647 : Int32)) % (2 : Int32)))) &&& 0x3f).toInt64.toUInt64).toInt64) &&& (255 : Int64)).toInt32))])) _
            refine XS.istore X0.here hx rfl (hb hby at_154) rfl (l' := #[.val (.int pm), .val (.long qa), .second, .val (.int ps), .val (.int pi), .val (.int (pm &&& (7 : Int32))), .val (.long qv), .second, .val (.int (2 : Int32)), .val (.int (24 : Int32)), .val (.int ((pi &&& (2147483647 : Int32)) % (2 : Int32))), .val (.int ((((qv.toUInt64 >>> (((8 : Int32) * ((1 : Int32) - ((pi &&& (2147483647 : Int32)) % (2 : Int32)))) &&& 0x3f).toInt64.toUInt64).toInt64) &&& (255 : Int64)).toInt32))]) rfl ?_
            rw [show v61 = ((((qv.toUInt64 >>> (((8 : Int32) * ((1 : Int32) - ((pi &&& (2147483647 : Int32)) % (2 : Int32)))) &&& 0x3f).toInt64.toUInt64).toInt64) &&& (255 : Int64)).toInt32) from hv61.trans (by simp only [if_neg hc60])] at k
            exact k
        refine own_pre (A := (s₁.setTop (mkF m 162 #[.val (.int pm), .val (.long qa), .second, .val (.int ps), .val (.int pi), .val (.int (pm &&& (7 : Int32))), .val (.long qv), .second, .val (.int (2 : Int32)), .val (.int (24 : Int32)), .val (.int ((pi &&& (2147483647 : Int32)) % (2 : Int32))), .val (.int v61)] [(.int ((pi &&& (2147483647 : Int32)) % (2 : Int32))), (.long qv), (.int (pm &&& (7 : Int32)))]))) ?_ ?_
        · intro t k
          show Steps p.tables e below (s₁.setTop (mkF m 156 #[.val (.int pm), .val (.long qa), .second, .val (.int ps), .val (.int pi), .val (.int (pm &&& (7 : Int32))), .val (.long qv), .second, .val (.int (2 : Int32)), .val (.int (24 : Int32)), .val (.int ((pi &&& (2147483647 : Int32)) % (2 : Int32))), .val (.int v61)] [])) _
          refine XS.iload X0.here hx rfl (hb hby at_156) rfl ?_
          refine XS.lload X0.here hx rfl (hb hby at_158) rfl ?_
          refine XS.iload X0.here hx rfl (hb hby at_160) rfl ?_
          exact k
        obtain ⟨_, _, ⟨T62, L62, k62, n62⟩, -, X62, ⟨Lc62, hQ62, l62, y62, z62⟩, st62⟩ := Jvm.LawKit.callS X0 hx (y := (⟨"com/example/sigillum/sigillum/cose/CborItem", "headByte", "(IJI)I"⟩ : MethodName)) hown (mvT hZ (own_w hw 2 rfl)) (mvT hZ (own_w hw 3 rfl)) (mvT hZ (own_w hw 4 rfl)) (mvT hZ (own_w hw 5 rfl)) (by decide) (backOf (W := 0) (rm1 l Z a0 hw [] (pm &&& (7 : Int32)) qv ((pi &&& (2147483647 : Int32)) % (2 : Int32)) h0 n0 Z0) hZ (own_w hw 5 rfl) (own_w hw 4 rfl) (by decide) (by decide)) (g := (mkF m 162 #[.val (.int pm), .val (.long qa), .second, .val (.int ps), .val (.int pi), .val (.int (pm &&& (7 : Int32))), .val (.long qv), .second, .val (.int (2 : Int32)), .val (.int (24 : Int32)), .val (.int ((pi &&& (2147483647 : Int32)) % (2 : Int32))), .val (.int v61)] [(.int ((pi &&& (2147483647 : Int32)) % (2 : Int32))), (.long qv), (.int (pm &&& (7 : Int32)))])) rfl (by rw [hml]; rfl) (argsL := [(.int (pm &&& (7 : Int32))), (.long qv), (.int ((pi &&& (2147483647 : Int32)) % (2 : Int32)))]) (rest := []) (lenOf own_pd3 rfl) rfl (by show 2 * 0 + _ ≤ _; exact Nat.le_of_eq rfl) (hb hby at_162) (fun _ _ => ⟨rfl, e0, (by decide : 0 + 0 ≤ _), (by decide : 0 + 0 ≤ _)⟩)
        dsimp only [Pt.U, Pt.locs, Pt.cells, Pt.slots] at X62 l62 y62 z62 st62 hQ62
        subst l62 y62 z62
        obtain ⟨rfl, Nq62, eq62⟩ := hQ62
        have N62 := Fr.app N0 Nq62
        refine own_pre (fun t k => st62 t k) ?_
        refine own_pre (A := (T62.setTop (mkF m 167 #[.val (.int pm), .val (.long qa), .second, .val (.int ps), .val (.int pi), .val (.int (pm &&& (7 : Int32))), .val (.long qv), .second, .val (.int (2 : Int32)), .val (.int (24 : Int32)), .val (.int ((pi &&& (2147483647 : Int32)) % (2 : Int32))), .val (.int v61)] [(.int v61), (.int (own_hb (pm &&& (7 : Int32)) qv ((pi &&& (2147483647 : Int32)) % (2 : Int32))))]))) ?_ ?_
        · intro t k
          show Steps p.tables e below (T62.setTop (mkF m 165 #[.val (.int pm), .val (.long qa), .second, .val (.int ps), .val (.int pi), .val (.int (pm &&& (7 : Int32))), .val (.long qv), .second, .val (.int (2 : Int32)), .val (.int (24 : Int32)), .val (.int ((pi &&& (2147483647 : Int32)) % (2 : Int32))), .val (.int v61)] [(.int (own_hb (pm &&& (7 : Int32)) qv ((pi &&& (2147483647 : Int32)) % (2 : Int32))))])) _
          refine XS.iload X62.here hx rfl (hb hby at_165) rfl ?_
          exact k
        obtain ⟨v64, hv64⟩ : ∃ z : Int32, z = (if (own_hb (pm &&& (7 : Int32)) qv ((pi &&& (2147483647 : Int32)) % (2 : Int32))) = v61 then (1 : Int32) else (0 : Int32)) := ⟨_, rfl⟩
        refine own_pre (A := (T62.setTop (mkF m 175 #[.val (.int pm), .val (.long qa), .second, .val (.int ps), .val (.int pi), .val (.int (pm &&& (7 : Int32))), .val (.long qv), .second, .val (.int (2 : Int32)), .val (.int (24 : Int32)), .val (.int ((pi &&& (2147483647 : Int32)) % (2 : Int32))), .val (.int v61)] [(.int v64)]))) ?_ ?_
        · intro t k
          show Steps p.tables e below (T62.setTop (mkF m 167 #[.val (.int pm), .val (.long qa), .second, .val (.int ps), .val (.int pi), .val (.int (pm &&& (7 : Int32))), .val (.long qv), .second, .val (.int (2 : Int32)), .val (.int (24 : Int32)), .val (.int ((pi &&& (2147483647 : Int32)) % (2 : Int32))), .val (.int v61)] [(.int v61), (.int (own_hb (pm &&& (7 : Int32)) qv ((pi &&& (2147483647 : Int32)) % (2 : Int32))))])) _
          by_cases hc63 : (own_hb (pm &&& (7 : Int32)) qv ((pi &&& (2147483647 : Int32)) % (2 : Int32))) = v61
          · skip
            refine XS.icmpNo X62.here hx rfl (hb hby at_167) rfl (teq hc63).2 ?_
            refine XS.iconst X62.here hx rfl (hb hby at_170) ?_
            show Steps p.tables e below (T62.setTop (mkF m 171 #[.val (.int pm), .val (.long qa), .second, .val (.int ps), .val (.int pi), .val (.int (pm &&& (7 : Int32))), .val (.long qv), .second, .val (.int (2 : Int32)), .val (.int (24 : Int32)), .val (.int ((pi &&& (2147483647 : Int32)) % (2 : Int32))), .val (.int v61)] [(.int (1 : Int32))])) _
            refine XS.goto X62.here hx rfl (pc0 := 171) (pc' := 175) rfl (hb hby at_171) (by decide) (by decide) ?_
            rw [show v64 = (1 : Int32) from hv64.trans (by simp only [if_pos hc63])] at k
            exact k
          · skip
            refine XS.icmpYes X62.here hx rfl (pc0 := 167) (pc' := 174) rfl (hb hby at_167) rfl (feq hc63).2 (by decide) (by decide) ?_
            refine XS.iconst X62.here hx rfl (hb hby at_174) ?_
            rw [show v64 = (0 : Int32) from hv64.trans (by simp only [if_neg hc63])] at k
            exact k
        have hl : own_hl qv = (2 : Int32) := by rw [own_eq]; simp only [own_exp, if_neg hc29, if_neg hc53, if_pos hc59]
        have hb' := own_hbK (pm &&& (7 : Int32)) qv ((pi &&& (2147483647 : Int32)) % (2 : Int32)) (2 : Int32) (1 : Int32) (24 : Int32) hl (by decide) (by decide) (by decide +kernel) (own_remP pi (2 : Int32) (by decide))
        rw [← hv61] at hb'
        have hz : v64 = (1 : Int32) := by rw [hv64, if_pos hb']
        rw [hz]
        obtain ⟨fs, hr, hrun, hended, hW, hsame⟩ := X62.leave (hlocks := BodyLoose.notSynchronized Bd) (v := some (.int (1 : Int32))) (fun h => by rw [Bd.returns] at h; cases h)
        refine ⟨_, _, retOut X62 hx Bd.returns rfl (Or.inl ⟨rfl, Or.inr (Or.inl rfl), _, rfl⟩) (hb hby at_175) hr, hrun, hended, _, _, rfl, ?_, ⟨_, rfl⟩, hW, hsame.mono (by decide) (by decide)⟩
        show own_Q0 h0 n0 _ T62.heap _
        rw [eq62]
        exact ⟨rfl, N62⟩
      · skip
        refine own_pre (A := (s₁.setTop (mkF m 61 #[.val (.int pm), .val (.long qa), .second, .val (.int ps), .val (.int pi), .val (.int (pm &&& (7 : Int32))), .val (.long qv), .second, .unset, .unset, .unset, .unset] []))) ?_ ?_
        · intro t k
          refine XS.ifYes X0.here hx rfl (pc0 := 48) (pc' := 61) rfl (hb hby at_48) rfl ((if0 _ _).trans (feq (fun q => hc59 ((lw_eq ((qv.toUInt64 >>> ((8 : Int32) &&& 0x3f).toInt64.toUInt64).toInt64) (0 : Int64)).mp q))).2) (by decide) (by decide) ?_
          exact k
        refine own_pre (A := (s₁.setTop (mkF m 68 #[.val (.int pm), .val (.long qa), .second, .val (.int ps), .val (.int pi), .val (.int (pm &&& (7 : Int32))), .val (.long qv), .second, .unset, .unset, .unset, .unset] [(.int (lcmpW ((qv.toUInt64 >>> ((16 : Int32) &&& 0x3f).toInt64.toUInt64).toInt64) (0 : Int64)))]))) ?_ ?_
        · intro t k
          show Steps p.tables e below (s₁.setTop (mkF m 61 #[.val (.int pm), .val (.long qa), .second, .val (.int ps), .val (.int pi), .val (.int (pm &&& (7 : Int32))), .val (.long qv), .second, .unset, .unset, .unset, .unset] [])) _
          refine XS.lload X0.here hx rfl (hb hby at_61) rfl ?_
          refine XS.bipush X0.here hx rfl (hb hby at_63) ?_
          refine XS.lushr X0.here hx rfl (hb hby at_65) rfl ?_
          refine XS.lconst X0.here hx rfl (hb hby at_66) ?_
          refine XS.lcmp X0.here hx rfl (hb hby at_67) rfl ?_
          exact k
        by_cases hc65 : ((qv.toUInt64 >>> ((16 : Int32) &&& 0x3f).toInt64.toUInt64).toInt64) = (0 : Int64)
        · skip
          refine own_pre (A := (s₁.setTop (mkF m 71 #[.val (.int pm), .val (.long qa), .second, .val (.int ps), .val (.int pi), .val (.int (pm &&& (7 : Int32))), .val (.long qv), .second, .unset, .unset, .unset, .unset] []))) ?_ ?_
          · intro t k
            refine XS.ifNo X0.here hx rfl (hb hby at_68) rfl ((if0 _ _).trans (teq ((lw_eq ((qv.toUInt64 >>> ((16 : Int32) &&& 0x3f).toInt64.toUInt64).toInt64) (0 : Int64)).mpr hc65)).2) ?_
            exact k
          refine own_pre (A := (s₁.setTop (mkF m 121 #[.val (.int pm), .val (.long qa), .second, .val (.int ps), .val (.int pi), .val (.int (pm &&& (7 : Int32))), .val (.long qv), .second, .val (.int (3 : Int32)), .val (.int (25 : Int32)), .val (.int ((pi &&& (2147483647 : Int32)) % (3 : Int32))), .unset] [(.int ((pi &&& (2147483647 : Int32)) % (3 : Int32)))]))) ?_ ?_
          · intro t k
            show Steps p.tables e below (s₁.setTop (mkF m 71 #[.val (.int pm), .val (.long qa), .second, .val (.int ps), .val (.int pi), .val (.int (pm &&& (7 : Int32))), .val (.long qv), .second, .unset, .unset, .unset, .unset] [])) _
            refine XS.iconst X0.here hx rfl (hb hby at_71) ?_
            show Steps p.tables e below (s₁.setTop (mkF m 72 #[.val (.int pm), .val (.long qa), .second, .val (.int ps), .val (.int pi), .val (.int (pm &&& (7 : Int32))), .val (.long qv), .second, .unset, .unset, .unset, .unset] [(.int (3 : Int32))])) _
            refine XS.istore X0.here hx rfl (hb hby at_72) rfl (l' := #[.val (.int pm), .val (.long qa), .second, .val (.int ps), .val (.int pi), .val (.int (pm &&& (7 : Int32))), .val (.long qv), .second, .val (.int (3 : Int32)), .unset, .unset, .unset]) rfl ?_
            refine XS.bipush X0.here hx rfl (hb hby at_74) ?_
            show Steps p.tables e below (s₁.setTop (mkF m 76 #[.val (.int pm), .val (.long qa), .second, .val (.int ps), .val (.int pi), .val (.int (pm &&& (7 : Int32))), .val (.long qv), .second, .val (.int (3 : Int32)), .unset, .unset, .unset] [(.int (25 : Int32))])) _
            refine XS.istore X0.here hx rfl (hb hby at_76) rfl (l' := #[.val (.int pm), .val (.long qa), .second, .val (.int ps), .val (.int pi), .val (.int (pm &&& (7 : Int32))), .val (.long qv), .second, .val (.int (3 : Int32)), .val (.int (25 : Int32)), .unset, .unset]) rfl ?_
            show Steps p.tables e below (s₁.setTop (mkF m 78 #[.val (.int pm), .val (.long qa), .second, .val (.int ps), .val (.int pi), .val (.int (pm &&& (7 : Int32))), .val (.long qv), .second, .val (.int (3 : Int32)), .val (.int (25 : Int32)), .unset, .unset] [])) _
            refine XS.goto X0.here hx rfl (pc0 := 78) (pc' := 109) rfl (hb hby at_78) (by decide) (by decide) ?_
            refine XS.iload X0.here hx rfl (hb hby at_109) rfl ?_
            show Steps p.tables e below (s₁.setTop (mkF m 111 #[.val (.int pm), .val (.long qa), .second, .val (.int ps), .val (.int pi), .val (.int (pm &&& (7 : Int32))), .val (.long qv), .second, .val (.int (3 : Int32)), .val (.int (25 : Int32)), .unset, .unset] [(.int pi)])) _
            refine X0.ldcInt hx hown (mvT hZ (own_w hw 1 rfl)) (g := (mkF m 111 #[.val (.int pm), .val (.long qa), .second, .val (.int ps), .val (.int pi), .val (.int (pm &&& (7 : Int32))), .val (.long qv), .second, .val (.int (3 : Int32)), .val (.int (25 : Int32)), .unset, .unset] [(.int pi)])) rfl (hb hby at_111) _ ?_
            show Steps p.tables e below (s₁.setTop (mkF m 113 #[.val (.int pm), .val (.long qa), .second, .val (.int ps), .val (.int pi), .val (.int (pm &&& (7 : Int32))), .val (.long qv), .second, .val (.int (3 : Int32)), .val (.int (25 : Int32)), .unset, .unset] [(.int (2147483647 : Int32)), (.int pi)])) _
            refine XS.iand X0.here hx rfl (hb hby at_113) rfl ?_
            refine XS.iload X0.here hx rfl (hb hby at_114) rfl ?_
            show Steps p.tables e below (s₁.setTop (mkF m 116 #[.val (.int pm), .val (.long qa), .second, .val (.int ps), .val (.int pi), .val (.int (pm &&& (7 : Int32))), .val (.long qv), .second, .val (.int (3 : Int32)), .val (.int (25 : Int32)), .unset, .unset] [(.int (3 : Int32)), (.int (pi &&& (2147483647 : Int32)))])) _
            refine iremM X0 hx rfl (hb hby at_116) rfl (by decide) ?_
            show Steps p.tables e below (s₁.setTop (mkF m 117 #[.val (.int pm), .val (.long qa), .second, .val (.int ps), .val (.int pi), .val (.int (pm &&& (7 : Int32))), .val (.long qv), .second, .val (.int (3 : Int32)), .val (.int (25 : Int32)), .unset, .unset] [(.int ((pi &&& (2147483647 : Int32)) % (3 : Int32)))])) _
            refine XS.istore X0.here hx rfl (hb hby at_117) rfl (l' := #[.val (.int pm), .val (.long qa), .second, .val (.int ps), .val (.int pi), .val (.int (pm &&& (7 : Int32))), .val (.long qv), .second, .val (.int (3 : Int32)), .val (.int (25 : Int32)), .val (.int ((pi &&& (2147483647 : Int32)) % (3 : Int32))), .unset]) rfl ?_
            refine XS.iload X0.here hx rfl (hb hby at_119) rfl ?_
            exact k
          obtain ⟨v67, hv67⟩ : ∃ z : Int32, z = (if ((pi &&& (2147483647 : Int32)) % (3 : Int32)) = (0 : Int32) then (((pm &&& (7 : Int32)) <<< ((5 : Int32) &&& 31)) ||| (25 : Int32)) else ((((qv.toUInt64 >>> (((8 : Int32) * ((2 : Int32) - ((pi &&& (2147483647 : Int32)) % (3 : Int32)))) &&& 0x3f).toInt64.toUInt64).toInt64) &&& (255 : Int64)).toInt32)) := ⟨_, rfl⟩
          refine own_pre (A := (s₁.setTop (mkF m 156 #[.val (.int pm), .val (.long qa), .second, .val (.int ps), .val (.int pi), .val (.int (pm &&& (7 : Int32))), .val (.long qv), .second, .val (.int (3 : Int32)), .val (.int (25 : Int32)), .val (.int ((pi &&& (2147483647 : Int32)) % (3 : Int32))), .val (.int v67)] []))) ?_ ?_
          · intro t k
            show Steps p.tables e below (s₁.setTop (mkF m 121 #[.val (.int pm), .val (.long qa), .second, .val (.int ps), .val (.int pi), .val (.int (pm &&& (7 : Int32))), .val (.long qv), .second, .val (.int (3 : Int32)), .val (.int (25 : Int32)), .val (.int ((pi &&& (2147483647 : Int32)) % (3 : Int32))), .unset] [(.int ((pi &&& (2147483647 : Int32)) % (3 : Int32)))])) _
            by_cases hc66 : ((pi &&& (2147483647 : Int32)) % (3 : Int32)) = (0 : Int32)
            · skip
              refine XS.ifNo X0.here hx rfl (hb hby at_121) rfl ((if0 _ _).trans (teq hc66).2) ?_
              refine XS.iload X0.here hx rfl (hb hby at_124) rfl ?_
              refine XS.iconst X0.here hx rfl (hb hby at_126) ?_
              refine XS.ishl X0.here hx rfl (hb hby at_127) rfl ?_
              refine XS.iload X0.here hx rfl (hb hby at_128) rfl ?_
              refine XS.ior X0.here hx rfl (hb hby at_130) rfl ?_
              show Steps p.tables e below (s₁.setTop (mkF m 131 #[.val (.int pm), .val (.long qa), .second, .val (.int ps), .val (.int pi), .val (.int (pm &&& (7 : Int32))), .val (.long qv), .second, .val (.int (3 : Int32)), .val (.int (25 : Int32)), .val (.int ((pi &&& (2147483647 : Int32)) % (3 : Int32))), .unset] [(.int (((pm &&& (7 : Int32)) <<< ((5 : Int32) &&& 31)) ||| (25 : Int32)))])) _
              refine XS.istore X0.here hx rfl (hb hby at_131) rfl (l' := #[.val (.int pm), .val (.long qa), .second, .val (.int ps), .val (.int pi), .val (.int (pm &&& (7 : Int32))), .val (.long qv), .second, .val (.int (3 : Int32)), .val (.int (25 : Int32)), .val (.int ((pi &&& (2147483647 : Int32)) % (3 : Int32))), .val (.int (((pm &&& (7 : Int32)) <<< ((5 : Int32) &&& 31)) ||| (25 : Int32)))]) rfl ?_
              show Steps p.tables e below (s₁.setTop (mkF m 133 #[.val (.int pm), .val (.long qa), .second, .val (.int ps), .val (.int pi), .val (.int (pm &&& (7 : Int32))), .val (.long qv), .second, .val (.int (3 : Int32)), .val (.int (25 : Int32)), .val (.int ((pi &&& (2147483647 : Int32)) % (3 : Int32))), .val (.int (((pm &&& (7 : Int32)) <<< ((5 : Int32) &&& 31)) ||| (25 : Int32)))] [])) _
              refine XS.goto X0.here hx rfl (pc0 := 133) (pc' := 156) rfl (hb hby at_133) (by decide) (by decide) ?_
              rw [show v67 = (((pm &&& (7 : Int32)) <<< ((5 : Int32) &&& 31)) ||| (25 : Int32)) from hv67.trans (by simp only [if_pos hc66])] at k
              exact k
            · skip
              refine XS.ifYes X0.here hx rfl (pc0 := 121) (pc' := 136) rfl (hb hby at_121) rfl ((if0 _ _).trans (feq hc66).2) (by decide) (by decide) ?_
              refine XS.lload X0.here hx rfl (hb hby at_136) rfl ?_
              refine XS.bipush X0.here hx rfl (hb hby at_138) ?_
              refine XS.iload X0.here hx rfl (hb hby at_140) rfl ?_
              refine XS.iconst X0.here hx rfl (hb hby at_142) ?_
              refine XS.isub X0.here hx rfl (hb hby at_143) rfl ?_
              show Steps p.tables e below (s₁.setTop (mkF m 144 #[.val (.int pm), .val (.long qa), .second, .val (.int ps), .val (.int pi), .val (.int (pm &&& (7 : Int32))), .val (.long qv), .second, .val (.int (3 : Int32)), .val (.int (25 : Int32)), .val (.int ((pi &&& (2147483647 : Int32)) % (3 : Int32))), .unset] [(.int ((3 : Int32) - (1 : Int32))), (.int (8 : Int32)), (.long qv)])) _
              rw [show ((3 : Int32) - (1 : Int32)) = (2 : Int32) from by decide]
              show Steps p.tables e below (s₁.setTop (mkF m 144 #[.val (.int pm), .val (.long qa), .second, .val (.int ps), .val (.int pi), .val (.int (pm &&& (7 : Int32))), .val (.long qv), .second, .val (.int (3 : Int32)), .val (.int (25 : Int32)), .val (.int ((pi &&& (2147483647 : Int32)) % (3 : Int32))), .unset] [(.int (2 : Int32)), (.int (8 : Int32)), (.long qv)])) _
              refine XS.iload X0.here hx rfl (hb hby at_144) rfl ?_
              refine XS.isub X0.here hx rfl (hb hby at_146) rfl ?_
              refine XS.imul X0.here hx rfl (hb hby at_147) rfl ?_
              refine XS.lushr X0.here hx rfl (hb hby at_148) rfl ?_
              show Steps p.tables e below (s₁.setTop (mkF m 149 #[.val (.int pm), .val (.long qa), .second, .val (.int ps), .val (.int pi), .val (.int (pm &&& (7 : Int32))), .val (.long qv), .second, .val (.int (3 : Int32)), .val (.int (25 : Int32)), .val (.int ((pi &&& (2147483647 : Int32)) % (3 : Int32))), .unset] [(.long ((qv.toUInt64 >>> (((8 : Int32) * ((2 : Int32) - ((pi &&& (2147483647 : Int32)) % (3 : Int32)))) &&& 0x3f).toInt64.toUInt64).toInt64))])) _
              refine X0.ldc2Long hx hown (mvT hZ (own_w hw 18 rfl)) (g := (mkF m 149 #[.val (.int pm), .val (.long qa), .second, .val (.int ps), .val (.int pi), .val (.int (pm &&& (7 : Int32))), .val (.long qv), .second, .val (.int (3 : Int32)), .val (.int (25 : Int32)), .val (.int ((pi &&& (2147483647 : Int32)) % (3 : Int32))), .unset] [(.long ((qv.toUInt64 >>> (((8 : Int32) * ((2 : Int32) - ((pi &&& (2147483647 : Int32)) % (3 : Int32)))) &&& 0x3f).toInt64.toUInt64).toInt64))])) rfl (hb hby at_149) _ ?_
              show Steps p.tables e below (s₁.setTop (mkF m 152 #[.val (.int pm), .val (.long qa), .second, .val (.int ps), .val (.int pi), .val (.int (pm &&& (7 : Int32))), .val (.long qv), .second, .val (.int (3 : Int32)), .val (.int (25 : Int32)), .val (.int ((pi &&& (2147483647 : Int32)) % (3 : Int32))), .unset] [(.long (255 : Int64)), (.long ((qv.toUInt64 >>> (((8 : Int32) * ((2 : Int32) - ((pi &&& (2147483647 : Int32)) % (3 : Int32)))) &&& 0x3f).toInt64.toUInt64).toInt64))])) _
              refine XS.land X0.here hx rfl (hb hby at_152) rfl ?_
              refine XS.l2i X0.here hx rfl (hb hby at_153) rfl ?_
              show Steps p.tables e below (s₁.setTop (mkF m 154 #[.val (.int pm), .val (.long qa), .second, .val (.int ps), .val (.int pi), .val (.int (pm &&& (7 : Int32))), .val (.long qv), .second, .val (.int (3 : Int32)), .val (.int (25 : Int32)), .val (.int ((pi &&& (2147483647 : Int32)) % (3 : Int32))), .unset] [(.int ((((qv.toUInt64 >>> (((8 : Int32) * ((2 : Int32) - ((pi &&& (2147483647 : Int32)) % (3 : Int32)))) &&& 0x3f).toInt64.toUInt64).toInt64) &&& (255 : Int64)).toInt32))])) _
              refine XS.istore X0.here hx rfl (hb hby at_154) rfl (l' := #[.val (.int pm), .val (.long qa), .second, .val (.int ps), .val (.int pi), .val (.int (pm &&& (7 : Int32))), .val (.long qv), .second, .val (.int (3 : Int32)), .val (.int (25 : Int32)), .val (.int ((pi &&& (2147483647 : Int32)) % (3 : Int32))), .val (.int ((((qv.toUInt64 >>> (((8 : Int32) * ((2 : Int32) - ((pi &&& (2147483647 : Int32)) % (3 : Int32)))) &&& 0x3f).toInt64.toUInt64).toInt64) &&& (255 : Int64)).toInt32))]) rfl ?_
              rw [show v67 = ((((qv.toUInt64 >>> (((8 : Int32) * ((2 : Int32) - ((pi &&& (2147483647 : Int32)) % (3 : Int32)))) &&& 0x3f).toInt64.toUInt64).toInt64) &&& (255 : Int64)).toInt32) from hv67.trans (by simp only [if_neg hc66])] at k
              exact k
          refine own_pre (A := (s₁.setTop (mkF m 162 #[.val (.int pm), .val (.long qa), .second, .val (.int ps), .val (.int pi), .val (.int (pm &&& (7 : Int32))), .val (.long qv), .second, .val (.int (3 : Int32)), .val (.int (25 : Int32)), .val (.int ((pi &&& (2147483647 : Int32)) % (3 : Int32))), .val (.int v67)] [(.int ((pi &&& (2147483647 : Int32)) % (3 : Int32))), (.long qv), (.int (pm &&& (7 : Int32)))]))) ?_ ?_
          · intro t k
            show Steps p.tables e below (s₁.setTop (mkF m 156 #[.val (.int pm), .val (.long qa), .second, .val (.int ps), .val (.int pi), .val (.int (pm &&& (7 : Int32))), .val (.long qv), .second, .val (.int (3 : Int32)), .val (.int (25 : Int32)), .val (.int ((pi &&& (2147483647 : Int32)) % (3 : Int32))), .val (.int v67)] [])) _
            refine XS.iload X0.here hx rfl (hb hby at_156) rfl ?_
            refine XS.lload X0.here hx rfl (hb hby at_158) rfl ?_
            refine XS.iload X0.here hx rfl (hb hby at_160) rfl ?_
            exact k
          obtain ⟨_, _, ⟨T68, L68, k68, n68⟩, -, X68, ⟨Lc68, hQ68, l68, y68, z68⟩, st68⟩ := Jvm.LawKit.callS X0 hx (y := (⟨"com/example/sigillum/sigillum/cose/CborItem", "headByte", "(IJI)I"⟩ : MethodName)) hown (mvT hZ (own_w hw 2 rfl)) (mvT hZ (own_w hw 3 rfl)) (mvT hZ (own_w hw 4 rfl)) (mvT hZ (own_w hw 5 rfl)) (by decide) (backOf (W := 0) (rm1 l Z a0 hw [] (pm &&& (7 : Int32)) qv ((pi &&& (2147483647 : Int32)) % (3 : Int32)) h0 n0 Z0) hZ (own_w hw 5 rfl) (own_w hw 4 rfl) (by decide) (by decide)) (g := (mkF m 162 #[.val (.int pm), .val (.long qa), .second, .val (.int ps), .val (.int pi), .val (.int (pm &&& (7 : Int32))), .val (.long qv), .second, .val (.int (3 : Int32)), .val (.int (25 : Int32)), .val (.int ((pi &&& (2147483647 : Int32)) % (3 : Int32))), .val (.int v67)] [(.int ((pi &&& (2147483647 : Int32)) % (3 : Int32))), (.long qv), (.int (pm &&& (7 : Int32)))])) rfl (by rw [hml]; rfl) (argsL := [(.int (pm &&& (7 : Int32))), (.long qv), (.int ((pi &&& (2147483647 : Int32)) % (3 : Int32)))]) (rest := []) (lenOf own_pd3 rfl) rfl (by show 2 * 0 + _ ≤ _; exact Nat.le_of_eq rfl) (hb hby at_162) (fun _ _ => ⟨rfl, e0, (by decide : 0 + 0 ≤ _), (by decide : 0 + 0 ≤ _)⟩)
          dsimp only [Pt.U, Pt.locs, Pt.cells, Pt.slots] at X68 l68 y68 z68 st68 hQ68
          subst l68 y68 z68
          obtain ⟨rfl, Nq68, eq68⟩ := hQ68
          have N68 := Fr.app N0 Nq68
          refine own_pre (fun t k => st68 t k) ?_
          refine own_pre (A := (T68.setTop (mkF m 167 #[.val (.int pm), .val (.long qa), .second, .val (.int ps), .val (.int pi), .val (.int (pm &&& (7 : Int32))), .val (.long qv), .second, .val (.int (3 : Int32)), .val (.int (25 : Int32)), .val (.int ((pi &&& (2147483647 : Int32)) % (3 : Int32))), .val (.int v67)] [(.int v67), (.int (own_hb (pm &&& (7 : Int32)) qv ((pi &&& (2147483647 : Int32)) % (3 : Int32))))]))) ?_ ?_
          · intro t k
            show Steps p.tables e below (T68.setTop (mkF m 165 #[.val (.int pm), .val (.long qa), .second, .val (.int ps), .val (.int pi), .val (.int (pm &&& (7 : Int32))), .val (.long qv), .second, .val (.int (3 : Int32)), .val (.int (25 : Int32)), .val (.int ((pi &&& (2147483647 : Int32)) % (3 : Int32))), .val (.int v67)] [(.int (own_hb (pm &&& (7 : Int32)) qv ((pi &&& (2147483647 : Int32)) % (3 : Int32))))])) _
            refine XS.iload X68.here hx rfl (hb hby at_165) rfl ?_
            exact k
          obtain ⟨v70, hv70⟩ : ∃ z : Int32, z = (if (own_hb (pm &&& (7 : Int32)) qv ((pi &&& (2147483647 : Int32)) % (3 : Int32))) = v67 then (1 : Int32) else (0 : Int32)) := ⟨_, rfl⟩
          refine own_pre (A := (T68.setTop (mkF m 175 #[.val (.int pm), .val (.long qa), .second, .val (.int ps), .val (.int pi), .val (.int (pm &&& (7 : Int32))), .val (.long qv), .second, .val (.int (3 : Int32)), .val (.int (25 : Int32)), .val (.int ((pi &&& (2147483647 : Int32)) % (3 : Int32))), .val (.int v67)] [(.int v70)]))) ?_ ?_
          · intro t k
            show Steps p.tables e below (T68.setTop (mkF m 167 #[.val (.int pm), .val (.long qa), .second, .val (.int ps), .val (.int pi), .val (.int (pm &&& (7 : Int32))), .val (.long qv), .second, .val (.int (3 : Int32)), .val (.int (25 : Int32)), .val (.int ((pi &&& (2147483647 : Int32)) % (3 : Int32))), .val (.int v67)] [(.int v67), (.int (own_hb (pm &&& (7 : Int32)) qv ((pi &&& (2147483647 : Int32)) % (3 : Int32))))])) _
            by_cases hc69 : (own_hb (pm &&& (7 : Int32)) qv ((pi &&& (2147483647 : Int32)) % (3 : Int32))) = v67
            · skip
              refine XS.icmpNo X68.here hx rfl (hb hby at_167) rfl (teq hc69).2 ?_
              refine XS.iconst X68.here hx rfl (hb hby at_170) ?_
              show Steps p.tables e below (T68.setTop (mkF m 171 #[.val (.int pm), .val (.long qa), .second, .val (.int ps), .val (.int pi), .val (.int (pm &&& (7 : Int32))), .val (.long qv), .second, .val (.int (3 : Int32)), .val (.int (25 : Int32)), .val (.int ((pi &&& (2147483647 : Int32)) % (3 : Int32))), .val (.int v67)] [(.int (1 : Int32))])) _
              refine XS.goto X68.here hx rfl (pc0 := 171) (pc' := 175) rfl (hb hby at_171) (by decide) (by decide) ?_
              rw [show v70 = (1 : Int32) from hv70.trans (by simp only [if_pos hc69])] at k
              exact k
            · skip
              refine XS.icmpYes X68.here hx rfl (pc0 := 167) (pc' := 174) rfl (hb hby at_167) rfl (feq hc69).2 (by decide) (by decide) ?_
              refine XS.iconst X68.here hx rfl (hb hby at_174) ?_
              rw [show v70 = (0 : Int32) from hv70.trans (by simp only [if_neg hc69])] at k
              exact k
          have hl : own_hl qv = (3 : Int32) := by rw [own_eq]; simp only [own_exp, if_neg hc29, if_neg hc53, if_neg hc59, if_pos hc65]
          have hb' := own_hbK (pm &&& (7 : Int32)) qv ((pi &&& (2147483647 : Int32)) % (3 : Int32)) (3 : Int32) (2 : Int32) (25 : Int32) hl (by decide) (by decide) (by decide +kernel) (own_remP pi (3 : Int32) (by decide))
          rw [← hv67] at hb'
          have hz : v70 = (1 : Int32) := by rw [hv70, if_pos hb']
          rw [hz]
          obtain ⟨fs, hr, hrun, hended, hW, hsame⟩ := X68.leave (hlocks := BodyLoose.notSynchronized Bd) (v := some (.int (1 : Int32))) (fun h => by rw [Bd.returns] at h; cases h)
          refine ⟨_, _, retOut X68 hx Bd.returns rfl (Or.inl ⟨rfl, Or.inr (Or.inl rfl), _, rfl⟩) (hb hby at_175) hr, hrun, hended, _, _, rfl, ?_, ⟨_, rfl⟩, hW, hsame.mono (by decide) (by decide)⟩
          show own_Q0 h0 n0 _ T68.heap _
          rw [eq68]
          exact ⟨rfl, N68⟩
        · skip
          refine own_pre (A := (s₁.setTop (mkF m 81 #[.val (.int pm), .val (.long qa), .second, .val (.int ps), .val (.int pi), .val (.int (pm &&& (7 : Int32))), .val (.long qv), .second, .unset, .unset, .unset, .unset] []))) ?_ ?_
          · intro t k
            refine XS.ifYes X0.here hx rfl (pc0 := 68) (pc' := 81) rfl (hb hby at_68) rfl ((if0 _ _).trans (feq (fun q => hc65 ((lw_eq ((qv.toUInt64 >>> ((16 : Int32) &&& 0x3f).toInt64.toUInt64).toInt64) (0 : Int64)).mp q))).2) (by decide) (by decide) ?_
            exact k
          refine own_pre (A := (s₁.setTop (mkF m 88 #[.val (.int pm), .val (.long qa), .second, .val (.int ps), .val (.int pi), .val (.int (pm &&& (7 : Int32))), .val (.long qv), .second, .unset, .unset, .unset, .unset] [(.int (lcmpW ((qv.toUInt64 >>> ((32 : Int32) &&& 0x3f).toInt64.toUInt64).toInt64) (0 : Int64)))]))) ?_ ?_
          · intro t k
            show Steps p.tables e below (s₁.setTop (mkF m 81 #[.val (.int pm), .val (.long qa), .second, .val (.int ps), .val (.int pi), .val (.int (pm &&& (7 : Int32))), .val (.long qv), .second, .unset, .unset, .unset, .unset] [])) _
            refine XS.lload X0.here hx rfl (hb hby at_81) rfl ?_
            refine XS.bipush X0.here hx rfl (hb hby at_83) ?_
            refine XS.lushr X0.here hx rfl (hb hby at_85) rfl ?_
            refine XS.lconst X0.here hx rfl (hb hby at_86) ?_
            refine XS.lcmp X0.here hx rfl (hb hby at_87) rfl ?_
            exact k
          by_cases hc71 : ((qv.toUInt64 >>> ((32 : Int32) &&& 0x3f).toInt64.toUInt64).toInt64) = (0 : Int64)
          · skip
            refine own_pre (A := (s₁.setTop (mkF m 91 #[.val (.int pm), .val (.long qa), .second, .val (.int ps), .val (.int pi), .val (.int (pm &&& (7 : Int32))), .val (.long qv), .second, .unset, .unset, .unset, .unset] []))) ?_ ?_
            · intro t k
              refine XS.ifNo X0.here hx rfl (hb hby at_88) rfl ((if0 _ _).trans (teq ((lw_eq ((qv.toUInt64 >>> ((32 : Int32) &&& 0x3f).toInt64.toUInt64).toInt64) (0 : Int64)).mpr hc71)).2) ?_
              exact k
            refine own_pre (A := (s₁.setTop (mkF m 121 #[.val (.int pm), .val (.long qa), .second, .val (.int ps), .val (.int pi), .val (.int (pm &&& (7 : Int32))), .val (.long qv), .second, .val (.int (5 : Int32)), .val (.int (26 : Int32)), .val (.int ((pi &&& (2147483647 : Int32)) % (5 : Int32))), .unset] [(.int ((pi &&& (2147483647 : Int32)) % (5 : Int32)))]))) ?_ ?_
            · intro t k
              show Steps p.tables e below (s₁.setTop (mkF m 91 #[.val (.int pm), .val (.long qa), .second, .val (.int ps), .val (.int pi), .val (.int (pm &&& (7 : Int32))), .val (.long qv), .second, .unset, .unset, .unset, .unset] [])) _
              refine XS.iconst X0.here hx rfl (hb hby at_91) ?_
              show Steps p.tables e below (s₁.setTop (mkF m 92 #[.val (.int pm), .val (.long qa), .second, .val (.int ps), .val (.int pi), .val (.int (pm &&& (7 : Int32))), .val (.long qv), .second, .unset, .unset, .unset, .unset] [(.int (5 : Int32))])) _
              refine XS.istore X0.here hx rfl (hb hby at_92) rfl (l' := #[.val (.int pm), .val (.long qa), .second, .val (.int ps), .val (.int pi), .val (.int (pm &&& (7 : Int32))), .val (.long qv), .second, .val (.int (5 : Int32)), .unset, .unset, .unset]) rfl ?_
              refine XS.bipush X0.here hx rfl (hb hby at_94) ?_
              show Steps p.tables e below (s₁.setTop (mkF m 96 #[.val (.int pm), .val (.long qa), .second, .val (.int ps), .val (.int pi), .val (.int (pm &&& (7 : Int32))), .val (.long qv), .second, .val (.int (5 : Int32)), .unset, .unset, .unset] [(.int (26 : Int32))])) _
              refine XS.istore X0.here hx rfl (hb hby at_96) rfl (l' := #[.val (.int pm), .val (.long qa), .second, .val (.int ps), .val (.int pi), .val (.int (pm &&& (7 : Int32))), .val (.long qv), .second, .val (.int (5 : Int32)), .val (.int (26 : Int32)), .unset, .unset]) rfl ?_
              show Steps p.tables e below (s₁.setTop (mkF m 98 #[.val (.int pm), .val (.long qa), .second, .val (.int ps), .val (.int pi), .val (.int (pm &&& (7 : Int32))), .val (.long qv), .second, .val (.int (5 : Int32)), .val (.int (26 : Int32)), .unset, .unset] [])) _
              refine XS.goto X0.here hx rfl (pc0 := 98) (pc' := 109) rfl (hb hby at_98) (by decide) (by decide) ?_
              refine XS.iload X0.here hx rfl (hb hby at_109) rfl ?_
              show Steps p.tables e below (s₁.setTop (mkF m 111 #[.val (.int pm), .val (.long qa), .second, .val (.int ps), .val (.int pi), .val (.int (pm &&& (7 : Int32))), .val (.long qv), .second, .val (.int (5 : Int32)), .val (.int (26 : Int32)), .unset, .unset] [(.int pi)])) _
              refine X0.ldcInt hx hown (mvT hZ (own_w hw 1 rfl)) (g := (mkF m 111 #[.val (.int pm), .val (.long qa), .second, .val (.int ps), .val (.int pi), .val (.int (pm &&& (7 : Int32))), .val (.long qv), .second, .val (.int (5 : Int32)), .val (.int (26 : Int32)), .unset, .unset] [(.int pi)])) rfl (hb hby at_111) _ ?_
              show Steps p.tables e below (s₁.setTop (mkF m 113 #[.val (.int pm), .val (.long qa), .second, .val (.int ps), .val (.int pi), .val (.int (pm &&& (7 : Int32))), .val (.long qv), .second, .val (.int (5 : Int32)), .val (.int (26 : Int32)), .unset, .unset] [(.int (2147483647 : Int32)), (.int pi)])) _
              refine XS.iand X0.here hx rfl (hb hby at_113) rfl ?_
              refine XS.iload X0.here hx rfl (hb hby at_114) rfl ?_
              show Steps p.tables e below (s₁.setTop (mkF m 116 #[.val (.int pm), .val (.long qa), .second, .val (.int ps), .val (.int pi), .val (.int (pm &&& (7 : Int32))), .val (.long qv), .second, .val (.int (5 : Int32)), .val (.int (26 : Int32)), .unset, .unset] [(.int (5 : Int32)), (.int (pi &&& (2147483647 : Int32)))])) _
              refine iremM X0 hx rfl (hb hby at_116) rfl (by decide) ?_
              show Steps p.tables e below (s₁.setTop (mkF m 117 #[.val (.int pm), .val (.long qa), .second, .val (.int ps), .val (.int pi), .val (.int (pm &&& (7 : Int32))), .val (.long qv), .second, .val (.int (5 : Int32)), .val (.int (26 : Int32)), .unset, .unset] [(.int ((pi &&& (2147483647 : Int32)) % (5 : Int32)))])) _
              refine XS.istore X0.here hx rfl (hb hby at_117) rfl (l' := #[.val (.int pm), .val (.long qa), .second, .val (.int ps), .val (.int pi), .val (.int (pm &&& (7 : Int32))), .val (.long qv), .second, .val (.int (5 : Int32)), .val (.int (26 : Int32)), .val (.int ((pi &&& (2147483647 : Int32)) % (5 : Int32))), .unset]) rfl ?_
              refine XS.iload X0.here hx rfl (hb hby at_119) rfl ?_
              exact k
            obtain ⟨v73, hv73⟩ : ∃ z : Int32, z = (if ((pi &&& (2147483647 : Int32)) % (5 : Int32)) = (0 : Int32) then (((pm &&& (7 : Int32)) <<< ((5 : Int32) &&& 31)) ||| (26 : Int32)) else ((((qv.toUInt64 >>> (((8 : Int32) * ((4 : Int32) - ((pi &&& (2147483647 : Int32)) % (5 : Int32)))) &&& 0x3f).toInt64.toUInt64).toInt64) &&& (255 : Int64)).toInt32)) := ⟨_, rfl⟩
            refine own_pre (A := (s₁.setTop (mkF m 156 #[.val (.int pm), .val (.long qa), .second, .val (.int ps), .val (.int pi), .val (.int (pm &&& (7 : Int32))), .val (.long qv), .second, .val (.int (5 : Int32)), .val (.int (26 : Int32)), .val (.int ((pi &&& (2147483647 : Int32)) % (5 : Int32))), .val (.int v73)] []))) ?_ ?_
            · intro t k
              show Steps p.tables e below (s₁.setTop (mkF m 121 #[.val (.int pm), .val (.long qa), .second, .val (.int ps), .val (.int pi), .val (.int (pm &&& (7 : Int32))), .val (.long qv), .second, .val (.int (5 : Int32)), .val (.int (26 : Int32)), .val (.int ((pi &&& (2147483647 : Int32)) % (5 : Int32))), .unset] [(.int ((pi &&& (2147483647 : Int32)) % (5 : Int32)))])) _
              by_cases hc72 : ((pi &&& (2147483647 : Int32)) % (5 : Int32)) = (0 : Int32)
              · skip
                refine XS.ifNo X0.here hx rfl (hb hby at_121) rfl ((if0 _ _).trans (teq hc72).2) ?_
                refine XS.iload X0.here hx rfl (hb hby at_124) rfl ?_
                refine XS.iconst X0.here hx rfl (hb hby at_126) ?_
                refine XS.ishl X0.here hx rfl (hb hby at_127) rfl ?_
                refine XS.iload X0.here hx rfl (hb hby at_128) rfl ?_
                refine XS.ior X0.here hx rfl (hb hby at_130) rfl ?_
                show Steps p.tables e below (s₁.setTop (mkF m 131 #[.val (.int pm), .val (.long qa), .second, .val (.int ps), .val (.int pi), .val (.int (pm &&& (7 : Int32))), .val (.long qv), .second, .val (.int (5 : Int32)), .val (.int (26 : Int32)), .val (.int ((pi &&& (2147483647 : Int32)) % (5 : Int32))), .unset] [(.int (((pm &&& (7 : Int32)) <<< ((5 : Int32) &&& 31)) ||| (26 : Int32)))])) _
                refine XS.istore X0.here hx rfl (hb hby at_131) rfl (l' := #[.val (.int pm), .val (.long qa), .second, .val (.int ps), .val (.int pi), .val (.int (pm &&& (7 : Int32))), .val (.long qv), .second, .val (.int (5 : Int32)), .val (.int (26 : Int32)), .val (.int ((pi &&& (2147483647 : Int32)) % (5 : Int32))), .val (.int (((pm &&& (7 : Int32)) <<< ((5 : Int32) &&& 31)) ||| (26 : Int32)))]) rfl ?_
                show Steps p.tables e below (s₁.setTop (mkF m 133 #[.val (.int pm), .val (.long qa), .second, .val (.int ps), .val (.int pi), .val (.int (pm &&& (7 : Int32))), .val (.long qv), .second, .val (.int (5 : Int32)), .val (.int (26 : Int32)), .val (.int ((pi &&& (2147483647 : Int32)) % (5 : Int32))), .val (.int (((pm &&& (7 : Int32)) <<< ((5 : Int32) &&& 31)) ||| (26 : Int32)))] [])) _
                refine XS.goto X0.here hx rfl (pc0 := 133) (pc' := 156) rfl (hb hby at_133) (by decide) (by decide) ?_
                rw [show v73 = (((pm &&& (7 : Int32)) <<< ((5 : Int32) &&& 31)) ||| (26 : Int32)) from hv73.trans (by simp only [if_pos hc72])] at k
                exact k
              · skip
                refine XS.ifYes X0.here hx rfl (pc0 := 121) (pc' := 136) rfl (hb hby at_121) rfl ((if0 _ _).trans (feq hc72).2) (by decide) (by decide) ?_
                refine XS.lload X0.here hx rfl (hb hby at_136) rfl ?_
                refine XS.bipush X0.here hx rfl (hb hby at_138) ?_
                refine XS.iload X0.here hx rfl (hb hby at_140) rfl ?_
                refine XS.iconst X0.here hx rfl (hb hby at_142) ?_
                refine XS.isub X0.here hx rfl (hb hby at_143) rfl ?_
                show Steps p.tables e below (s₁.setTop (mkF m 144 #[.val (.int pm), .val (.long qa), .second, .val (.int ps), .val (.int pi), .val (.int (pm &&& (7 : Int32))), .val (.long qv), .second, .val (.int (5 : Int32)), .val (.int (26 : Int32)), .val (.int ((pi &&& (2147483647 : Int32)) % (5 : Int32))), .unset] [(.int ((5 : Int32) - (1 : Int32))), (.int (8 : Int32)), (.long qv)])) _
                rw [show ((5 : Int32) - (1 : Int32)) = (4 : Int32) from by decide]
                show Steps p.tables e below (s₁.setTop (mkF m 144 #[.val (.int pm), .val (.long qa), .second, .val (.int ps), .val (.int pi), .val (.int (pm &&& (7 : Int32))), .val (.long qv), .second, .val (.int (5 : Int32)), .val (.int (26 : Int32)), .val (.int ((pi &&& (2147483647 : Int32)) % (5 : Int32))), .unset] [(.int (4 : Int32)), (.int (8 : Int32)), (.long qv)])) _
                refine XS.iload X0.here hx rfl (hb hby at_144) rfl ?_
                refine XS.isub X0.here hx rfl (hb hby at_146) rfl ?_
                refine XS.imul X0.here hx rfl (hb hby at_147) rfl ?_
                refine XS.lushr X0.here hx rfl (hb hby at_148) rfl ?_
                show Steps p.tables e below (s₁.setTop (mkF m 149 #[.val (.int pm), .val (.long qa), .second, .val (.int ps), .val (.int pi), .val (.int (pm &&& (7 : Int32))), .val (.long qv), .second, .val (.int (5 : Int32)), .val (.int (26 : Int32)), .val (.int ((pi &&& (2147483647 : Int32)) % (5 : Int32))), .unset] [(.long ((qv.toUInt64 >>> (((8 : Int32) * ((4 : Int32) - ((pi &&& (2147483647 : Int32)) % (5 : Int32)))) &&& 0x3f).toInt64.toUInt64).toInt64))])) _
                refine X0.ldc2Long hx hown (mvT hZ (own_w hw 18 rfl)) (g := (mkF m 149 #[.val (.int pm), .val (.long qa), .second, .val (.int ps), .val (.int pi), .val (.int (pm &&& (7 : Int32))), .val (.long qv), .second, .val (.int (5 : Int32)), .val (.int (26 : Int32)), .val (.int ((pi &&& (2147483647 : Int32)) % (5 : Int32))), .unset] [(.long ((qv.toUInt64 >>> (((8 : Int32) * ((4 : Int32) - ((pi &&& (2147483647 : Int32)) % (5 : Int32)))) &&& 0x3f).toInt64.toUInt64).toInt64))])) rfl (hb hby at_149) _ ?_
                show Steps p.tables e below (s₁.setTop (mkF m 152 #[.val (.int pm), .val (.long qa), .second, .val (.int ps), .val (.int pi), .val (.int (pm &&& (7 : Int32))), .val (.long qv), .second, .val (.int (5 : Int32)), .val (.int (26 : Int32)), .val (.int ((pi &&& (2147483647 : Int32)) % (5 : Int32))), .unset] [(.long (255 : Int64)), (.long ((qv.toUInt64 >>> (((8 : Int32) * ((4 : Int32) - ((pi &&& (2147483647 : Int32)) % (5 : Int32)))) &&& 0x3f).toInt64.toUInt64).toInt64))])) _
                refine XS.land X0.here hx rfl (hb hby at_152) rfl ?_
                refine XS.l2i X0.here hx rfl (hb hby at_153) rfl ?_
                show Steps p.tables e below (s₁.setTop (mkF m 154 #[.val (.int pm), .val (.long qa), .second, .val (.int ps), .val (.int pi), .val (.int (pm &&& (7 : Int32))), .val (.long qv), .second, .val (.int (5 : Int32)), .val (.int (26 : Int32)), .val (.int ((pi &&& (2147483647 : Int32)) % (5 : Int32))), .unset] [(.int ((((qv.toUInt64 >>> (((8 : Int32) * ((4 : Int32) - ((pi &&& (2147483647 : Int32)) % (5 : Int32)))) &&& 0x3f).toInt64.toUInt64).toInt64) &&& (255 : Int64)).toInt32))])) _
                refine XS.istore X0.here hx rfl (hb hby at_154) rfl (l' := #[.val (.int pm), .val (.long qa), .second, .val (.int ps), .val (.int pi), .val (.int (pm &&& (7 : Int32))), .val (.long qv), .second, .val (.int (5 : Int32)), .val (.int (26 : Int32)), .val (.int ((pi &&& (2147483647 : Int32)) % (5 : Int32))), .val (.int ((((qv.toUInt64 >>> (((8 : Int32) * ((4 : Int32) - ((pi &&& (2147483647 : Int32)) % (5 : Int32)))) &&& 0x3f).toInt64.toUInt64).toInt64) &&& (255 : Int64)).toInt32))]) rfl ?_
                rw [show v73 = ((((qv.toUInt64 >>> (((8 : Int32) * ((4 : Int32) - ((pi &&& (2147483647 : Int32)) % (5 : Int32)))) &&& 0x3f).toInt64.toUInt64).toInt64) &&& (255 : Int64)).toInt32) from hv73.trans (by simp only [if_neg hc72])] at k
                exact k
            refine own_pre (A := (s₁.setTop (mkF m 162 #[.val (.int pm), .val (.long qa), .second, .val (.int ps), .val (.int pi), .val (.int (pm &&& (7 : Int32))), .val (.long qv), .second, .val (.int (5 : Int32)), .val (.int (26 : Int32)), .val (.int ((pi &&& (2147483647 : Int32)) % (5 : Int32))), .val (.int v73)] [(.int ((pi &&& (2147483647 : Int32)) % (5 : Int32))), (.long qv), (.int (pm &&& (7 : Int32)))]))) ?_ ?_
            · intro t k
              show Steps p.tables e below (s₁.setTop (mkF m 156 #[.val (.int pm), .val (.long qa), .second, .val (.int ps), .val (.int pi), .val (.int (pm &&& (7 : Int32))), .val (.long qv), .second, .val (.int (5 : Int32)), .val (.int (26 : Int32)), .val (.int ((pi &&& (2147483647 : Int32)) % (5 : Int32))), .val (.int v73)] [])) _
              refine XS.iload X0.here hx rfl (hb hby at_156) rfl ?_
              refine XS.lload X0.here hx rfl (hb hby at_158) rfl ?_
              refine XS.iload X0.here hx rfl (hb hby at_160) rfl ?_
              exact k
            obtain ⟨_, _, ⟨T74, L74, k74, n74⟩, -, X74, ⟨Lc74, hQ74, l74, y74, z74⟩, st74⟩ := Jvm.LawKit.callS X0 hx (y := (⟨"com/example/sigillum/sigillum/cose/CborItem", "headByte", "(IJI)I"⟩ : MethodName)) hown (mvT hZ (own_w hw 2 rfl)) (mvT hZ (own_w hw 3 rfl)) (mvT hZ (own_w hw 4 rfl)) (mvT hZ (own_w hw 5 rfl)) (by decide) (backOf (W := 0) (rm1 l Z a0 hw [] (pm &&& (7 : Int32)) qv ((pi &&& (2147483647 : Int32)) % (5 : Int32)) h0 n0 Z0) hZ (own_w hw 5 rfl) (own_w hw 4 rfl) (by decide) (by decide)) (g := (mkF m 162 #[.val (.int pm), .val (.long qa), .second, .val (.int ps), .val (.int pi), .val (.int (pm &&& (7 : Int32))), .val (.long qv), .second, .val (.int (5 : Int32)), .val (.int (26 : Int32)), .val (.int ((pi &&& (2147483647 : Int32)) % (5 : Int32))), .val (.int v73)] [(.int ((pi &&& (2147483647 : Int32)) % (5 : Int32))), (.long qv), (.int (pm &&& (7 : Int32)))])) rfl (by rw [hml]; rfl) (argsL := [(.int (pm &&& (7 : Int32))), (.long qv), (.int ((pi &&& (2147483647 : Int32)) % (5 : Int32)))]) (rest := []) (lenOf own_pd3 rfl) rfl (by show 2 * 0 + _ ≤ _; exact Nat.le_of_eq rfl) (hb hby at_162) (fun _ _ => ⟨rfl, e0, (by decide : 0 + 0 ≤ _), (by decide : 0 + 0 ≤ _)⟩)
            dsimp only [Pt.U, Pt.locs, Pt.cells, Pt.slots] at X74 l74 y74 z74 st74 hQ74
            subst l74 y74 z74
            obtain ⟨rfl, Nq74, eq74⟩ := hQ74
            have N74 := Fr.app N0 Nq74
            refine own_pre (fun t k => st74 t k) ?_
            refine own_pre (A := (T74.setTop (mkF m 167 #[.val (.int pm), .val (.long qa), .second, .val (.int ps), .val (.int pi), .val (.int (pm &&& (7 : Int32))), .val (.long qv), .second, .val (.int (5 : Int32)), .val (.int (26 : Int32)), .val (.int ((pi &&& (2147483647 : Int32)) % (5 : Int32))), .val (.int v73)] [(.int v73), (.int (own_hb (pm &&& (7 : Int32)) qv ((pi &&& (2147483647 : Int32)) % (5 : Int32))))]))) ?_ ?_
            · intro t k
              show Steps p.tables e below (T74.setTop (mkF m 165 #[.val (.int pm), .val (.long qa), .second, .val (.int ps), .val (.int pi), .val (.int (pm &&& (7 : Int32))), .val (.long qv), .second, .val (.int (5 : Int32)), .val (.int (26 : Int32)), .val (.int ((pi &&& (2147483647 : Int32)) % (5 : Int32))), .val (.int v73)] [(.int (own_hb (pm &&& (7 : Int32)) qv ((pi &&& (2147483647 : Int32)) % (5 : Int32))))])) _
              refine XS.iload X74.here hx rfl (hb hby at_165) rfl ?_
              exact k
            obtain ⟨v76, hv76⟩ : ∃ z : Int32, z = (if (own_hb (pm &&& (7 : Int32)) qv ((pi &&& (2147483647 : Int32)) % (5 : Int32))) = v73 then (1 : Int32) else (0 : Int32)) := ⟨_, rfl⟩
            refine own_pre (A := (T74.setTop (mkF m 175 #[.val (.int pm), .val (.long qa), .second, .val (.int ps), .val (.int pi), .val (.int (pm &&& (7 : Int32))), .val (.long qv), .second, .val (.int (5 : Int32)), .val (.int (26 : Int32)), .val (.int ((pi &&& (2147483647 : Int32)) % (5 : Int32))), .val (.int v73)] [(.int v76)]))) ?_ ?_
            · intro t k
              show Steps p.tables e below (T74.setTop (mkF m 167 #[.val (.int pm), .val (.long qa), .second, .val (.int ps), .val (.int pi), .val (.int (pm &&& (7 : Int32))), .val (.long qv), .second, .val (.int (5 : Int32)), .val (.int (26 : Int32)), .val (.int ((pi &&& (2147483647 : Int32)) % (5 : Int32))), .val (.int v73)] [(.int v73), (.int (own_hb (pm &&& (7 : Int32)) qv ((pi &&& (2147483647 : Int32)) % (5 : Int32))))])) _
              by_cases hc75 : (own_hb (pm &&& (7 : Int32)) qv ((pi &&& (2147483647 : Int32)) % (5 : Int32))) = v73
              · skip
                refine XS.icmpNo X74.here hx rfl (hb hby at_167) rfl (teq hc75).2 ?_
                refine XS.iconst X74.here hx rfl (hb hby at_170) ?_
                show Steps p.tables e below (T74.setTop (mkF m 171 #[.val (.int pm), .val (.long qa), .second, .val (.int ps), .val (.int pi), .val (.int (pm &&& (7 : Int32))), .val (.long qv), .second, .val (.int (5 : Int32)), .val (.int (26 : Int32)), .val (.int ((pi &&& (2147483647 : Int32)) % (5 : Int32))), .val (.int v73)] [(.int (1 : Int32))])) _
                refine XS.goto X74.here hx rfl (pc0 := 171) (pc' := 175) rfl (hb hby at_171) (by decide) (by decide) ?_
                rw [show v76 = (1 : Int32) from hv76.trans (by simp only [if_pos hc75])] at k
                exact k
              · skip
                refine XS.icmpYes X74.here hx rfl (pc0 := 167) (pc' := 174) rfl (hb hby at_167) rfl (feq hc75).2 (by decide) (by decide) ?_
                refine XS.iconst X74.here hx rfl (hb hby at_174) ?_
                rw [show v76 = (0 : Int32) from hv76.trans (by simp only [if_neg hc75])] at k
                exact k
            have hl : own_hl qv = (5 : Int32) := by rw [own_eq]; simp only [own_exp, if_neg hc29, if_neg hc53, if_neg hc59, if_neg hc65, if_pos hc71]
            have hb' := own_hbK (pm &&& (7 : Int32)) qv ((pi &&& (2147483647 : Int32)) % (5 : Int32)) (5 : Int32) (4 : Int32) (26 : Int32) hl (by decide) (by decide) (by decide +kernel) (own_remP pi (5 : Int32) (by decide))
            rw [← hv73] at hb'
            have hz : v76 = (1 : Int32) := by rw [hv76, if_pos hb']
            rw [hz]
            obtain ⟨fs, hr, hrun, hended, hW, hsame⟩ := X74.leave (hlocks := BodyLoose.notSynchronized Bd) (v := some (.int (1 : Int32))) (fun h => by rw [Bd.returns] at h; cases h)
            refine ⟨_, _, retOut X74 hx Bd.returns rfl (Or.inl ⟨rfl, Or.inr (Or.inl rfl), _, rfl⟩) (hb hby at_175) hr, hrun, hended, _, _, rfl, ?_, ⟨_, rfl⟩, hW, hsame.mono (by decide) (by decide)⟩
            show own_Q0 h0 n0 _ T74.heap _
            rw [eq74]
            exact ⟨rfl, N74⟩
          · skip
            refine own_pre (A := (s₁.setTop (mkF m 101 #[.val (.int pm), .val (.long qa), .second, .val (.int ps), .val (.int pi), .val (.int (pm &&& (7 : Int32))), .val (.long qv), .second, .unset, .unset, .unset, .unset] []))) ?_ ?_
            · intro t k
              refine XS.ifYes X0.here hx rfl (pc0 := 88) (pc' := 101) rfl (hb hby at_88) rfl ((if0 _ _).trans (feq (fun q => hc71 ((lw_eq ((qv.toUInt64 >>> ((32 : Int32) &&& 0x3f).toInt64.toUInt64).toInt64) (0 : Int64)).mp q))).2) (by decide) (by decide) ?_
              exact k
            refine own_pre (A := (s₁.setTop (mkF m 121 #[.val (.int pm), .val (.long qa), .second, .val (.int ps), .val (.int pi), .val (.int (pm &&& (7 : Int32))), .val (.long qv), .second, .val (.int (9 : Int32)), .val (.int (27 : Int32)), .val (.int ((pi &&& (2147483647 : Int32)) % (9 : Int32))), .unset] [(.int ((pi &&& (2147483647 : Int32)) % (9 : Int32)))]))) ?_ ?_
            · intro t k
              show Steps p.tables e below (s₁.setTop (mkF m 101 #[.val (.int pm), .val (.long qa), .second, .val (.int ps), .val (.int pi), .val (.int (pm &&& (7 : Int32))), .val (.long qv), .second, .unset, .unset, .unset, .unset] [])) _
              refine XS.bipush X0.here hx rfl (hb hby at_101) ?_
              show Steps p.tables e below (s₁.setTop (mkF m 103 #[.val (.int pm), .val (.long qa), .second, .val (.int ps), .val (.int pi), .val (.int (pm &&& (7 : Int32))), .val (.long qv), .second, .unset, .unset, .unset, .unset] [(.int (9 : Int32))])) _
              refine XS.istore X0.here hx rfl (hb hby at_103) rfl (l' := #[.val (.int pm), .val (.long qa), .second, .val (.int ps), .val (.int pi), .val (.int (pm &&& (7 : Int32))), .val (.long qv), .second, .val (.int (9 : Int32)), .unset, .unset, .unset]) rfl ?_
              refine XS.bipush X0.here hx rfl (hb hby at_105) ?_
              show Steps p.tables e below (s₁.setTop (mkF m 107 #[.val (.int pm), .val (.long qa), .second, .val (.int ps), .val (.int pi), .val (.int (pm &&& (7 : Int32))), .val (.long qv), .second, .val (.int (9 : Int32)), .unset, .unset, .unset] [(.int (27 : Int32))])) _
              refine XS.istore X0.here hx rfl (hb hby at_107) rfl (l' := #[.val (.int pm), .val (.long qa), .second, .val (.int ps), .val (.int pi), .val (.int (pm &&& (7 : Int32))), .val (.long qv), .second, .val (.int (9 : Int32)), .val (.int (27 : Int32)), .unset, .unset]) rfl ?_
              refine XS.iload X0.here hx rfl (hb hby at_109) rfl ?_
              show Steps p.tables e below (s₁.setTop (mkF m 111 #[.val (.int pm), .val (.long qa), .second, .val (.int ps), .val (.int pi), .val (.int (pm &&& (7 : Int32))), .val (.long qv), .second, .val (.int (9 : Int32)), .val (.int (27 : Int32)), .unset, .unset] [(.int pi)])) _
              refine X0.ldcInt hx hown (mvT hZ (own_w hw 1 rfl)) (g := (mkF m 111 #[.val (.int pm), .val (.long qa), .second, .val (.int ps), .val (.int pi), .val (.int (pm &&& (7 : Int32))), .val (.long qv), .second, .val (.int (9 : Int32)), .val (.int (27 : Int32)), .unset, .unset] [(.int pi)])) rfl (hb hby at_111) _ ?_
              show Steps p.tables e below (s₁.setTop (mkF m 113 #[.val (.int pm), .val (.long qa), .second, .val (.int ps), .val (.int pi), .val (.int (pm &&& (7 : Int32))), .val (.long qv), .second, .val (.int (9 : Int32)), .val (.int (27 : Int32)), .unset, .unset] [(.int (2147483647 : Int32)), (.int pi)])) _
              refine XS.iand X0.here hx rfl (hb hby at_113) rfl ?_
              refine XS.iload X0.here hx rfl (hb hby at_114) rfl ?_
              show Steps p.tables e below (s₁.setTop (mkF m 116 #[.val (.int pm), .val (.long qa), .second, .val (.int ps), .val (.int pi), .val (.int (pm &&& (7 : Int32))), .val (.long qv), .second, .val (.int (9 : Int32)), .val (.int (27 : Int32)), .unset, .unset] [(.int (9 : Int32)), (.int (pi &&& (2147483647 : Int32)))])) _
              refine iremM X0 hx rfl (hb hby at_116) rfl (by decide) ?_
              show Steps p.tables e below (s₁.setTop (mkF m 117 #[.val (.int pm), .val (.long qa), .second, .val (.int ps), .val (.int pi), .val (.int (pm &&& (7 : Int32))), .val (.long qv), .second, .val (.int (9 : Int32)), .val (.int (27 : Int32)), .unset, .unset] [(.int ((pi &&& (2147483647 : Int32)) % (9 : Int32)))])) _
              refine XS.istore X0.here hx rfl (hb hby at_117) rfl (l' := #[.val (.int pm), .val (.long qa), .second, .val (.int ps), .val (.int pi), .val (.int (pm &&& (7 : Int32))), .val (.long qv), .second, .val (.int (9 : Int32)), .val (.int (27 : Int32)), .val (.int ((pi &&& (2147483647 : Int32)) % (9 : Int32))), .unset]) rfl ?_
              refine XS.iload X0.here hx rfl (hb hby at_119) rfl ?_
              exact k
            obtain ⟨v78, hv78⟩ : ∃ z : Int32, z = (if ((pi &&& (2147483647 : Int32)) % (9 : Int32)) = (0 : Int32) then (((pm &&& (7 : Int32)) <<< ((5 : Int32) &&& 31)) ||| (27 : Int32)) else ((((qv.toUInt64 >>> (((8 : Int32) * ((8 : Int32) - ((pi &&& (2147483647 : Int32)) % (9 : Int32)))) &&& 0x3f).toInt64.toUInt64).toInt64) &&& (255 : Int64)).toInt32)) := ⟨_, rfl⟩
            refine own_pre (A := (s₁.setTop (mkF m 156 #[.val (.int pm), .val (.long qa), .second, .val (.int ps), .val (.int pi), .val (.int (pm &&& (7 : Int32))), .val (.long qv), .second, .val (.int (9 : Int32)), .val (.int (27 : Int32)), .val (.int ((pi &&& (2147483647 : Int32)) % (9 : Int32))), .val (.int v78)] []))) ?_ ?_
            · intro t k
              show Steps p.tables e below (s₁.setTop (mkF m 121 #[.val (.int pm), .val (.long qa), .second, .val (.int ps), .val (.int pi), .val (.int (pm &&& (7 : Int32))), .val (.long qv), .second, .val (.int (9 : Int32)), .val (.int (27 : Int32)), .val (.int ((pi &&& (2147483647 : Int32)) % (9 : Int32))), .unset] [(.int ((pi &&& (2147483647 : Int32)) % (9 : Int32)))])) _
              by_cases hc77 : ((pi &&& (2147483647 : Int32)) % (9 : Int32)) = (0 : Int32)
              · skip
                refine XS.ifNo X0.here hx rfl (hb hby at_121) rfl ((if0 _ _).trans (teq hc77).2) ?_
                refine XS.iload X0.here hx rfl (hb hby at_124) rfl ?_
                refine XS.iconst X0.here hx rfl (hb hby at_126) ?_
                refine XS.ishl X0.here hx rfl (hb hby at_127) rfl ?_
                refine XS.iload X0.here hx rfl (hb hby at_128) rfl ?_
                refine XS.ior X0.here hx rfl (hb hby at_130) rfl ?_
                show Steps p.tables e below (s₁.setTop (mkF m 131 #[.val (.int pm), .val (.long qa), .second, .val (.int ps), .val (.int pi), .val (.int (pm &&& (7 : Int32))), .val (.long qv), .second, .val (.int (9 : Int32)), .val (.int (27 : Int32)), .val (.int ((pi &&& (2147483647 : Int32)) % (9 : Int32))), .unset] [(.int (((pm &&& (7 : Int32)) <<< ((5 : Int32) &&& 31)) ||| (27 : Int32)))])) _
                refine XS.istore X0.here hx rfl (hb hby at_131) rfl (l' := #[.val (.int pm), .val (.long qa), .second, .val (.int ps), .val (.int pi), .val (.int (pm &&& (7 : Int32))), .val (.long qv), .second, .val (.int (9 : Int32)), .val (.int (27 : Int32)), .val (.int ((pi &&& (2147483647 : Int32)) % (9 : Int32))), .val (.int (((pm &&& (7 : Int32)) <<< ((5 : Int32) &&& 31)) ||| (27 : Int32)))]) rfl ?_
                show Steps p.tables e below (s₁.setTop (mkF m 133 #[.val (.int pm), .val (.long qa), .second, .val (.int ps), .val (.int pi), .val (.int (pm &&& (7 : Int32))), .val (.long qv), .second, .val (.int (9 : Int32)), .val (.int (27 : Int32)), .val (.int ((pi &&& (2147483647 : Int32)) % (9 : Int32))), .val (.int (((pm &&& (7 : Int32)) <<< ((5 : Int32) &&& 31)) ||| (27 : Int32)))] [])) _
                refine XS.goto X0.here hx rfl (pc0 := 133) (pc' := 156) rfl (hb hby at_133) (by decide) (by decide) ?_
                rw [show v78 = (((pm &&& (7 : Int32)) <<< ((5 : Int32) &&& 31)) ||| (27 : Int32)) from hv78.trans (by simp only [if_pos hc77])] at k
                exact k
              · skip
                refine XS.ifYes X0.here hx rfl (pc0 := 121) (pc' := 136) rfl (hb hby at_121) rfl ((if0 _ _).trans (feq hc77).2) (by decide) (by decide) ?_
                refine XS.lload X0.here hx rfl (hb hby at_136) rfl ?_
                refine XS.bipush X0.here hx rfl (hb hby at_138) ?_
                refine XS.iload X0.here hx rfl (hb hby at_140) rfl ?_
                refine XS.iconst X0.here hx rfl (hb hby at_142) ?_
                refine XS.isub X0.here hx rfl (hb hby at_143) rfl ?_
                show Steps p.tables e below (s₁.setTop (mkF m 144 #[.val (.int pm), .val (.long qa), .second, .val (.int ps), .val (.int pi), .val (.int (pm &&& (7 : Int32))), .val (.long qv), .second, .val (.int (9 : Int32)), .val (.int (27 : Int32)), .val (.int ((pi &&& (2147483647 : Int32)) % (9 : Int32))), .unset] [(.int ((9 : Int32) - (1 : Int32))), (.int (8 : Int32)), (.long qv)])) _
                rw [show ((9 : Int32) - (1 : Int32)) = (8 : Int32) from by decide]
                show Steps p.tables e below (s₁.setTop (mkF m 144 #[.val (.int pm), .val (.long qa), .second, .val (.int ps), .val (.int pi), .val (.int (pm &&& (7 : Int32))), .val (.long qv), .second, .val (.int (9 : Int32)), .val (.int (27 : Int32)), .val (.int ((pi &&& (2147483647 : Int32)) % (9 : Int32))), .unset] [(.int (8 : Int32)), (.int (8 : Int32)), (.long qv)])) _
                refine XS.iload X0.here hx rfl (hb hby at_144) rfl ?_
                refine XS.isub X0.here hx rfl (hb hby at_146) rfl ?_
                refine XS.imul X0.here hx rfl (hb hby at_147) rfl ?_
                refine XS.lushr X0.here hx rfl (hb hby at_148) rfl ?_
                show Steps p.tables e below (s₁.setTop (mkF m 149 #[.val (.int pm), .val (.long qa), .second, .val (.int ps), .val (.int pi), .val (.int (pm &&& (7 : Int32))), .val (.long qv), .second, .val (.int (9 : Int32)), .val (.int (27 : Int32)), .val (.int ((pi &&& (2147483647 : Int32)) % (9 : Int32))), .unset] [(.long ((qv.toUInt64 >>> (((8 : Int32) * ((8 : Int32) - ((pi &&& (2147483647 : Int32)) % (9 : Int32)))) &&& 0x3f).toInt64.toUInt64).toInt64))])) _
                refine X0.ldc2Long hx hown (mvT hZ (own_w hw 18 rfl)) (g := (mkF m 149 #[.val (.int pm), .val (.long qa), .second, .val (.int ps), .val (.int pi), .val (.int (pm &&& (7 : Int32))), .val (.long qv), .second, .val (.int (9 : Int32)), .val (.int (27 : Int32)), .val (.int ((pi &&& (2147483647 : Int32)) % (9 : Int32))), .unset] [(.long ((qv.toUInt64 >>> (((8 : Int32) * ((8 : Int32) - ((pi &&& (2147483647 : Int32)) % (9 : Int32)))) &&& 0x3f).toInt64.toUInt64).toInt64))])) rfl (hb hby at_149) _ ?_
                show Steps p.tables e below (s₁.setTop (mkF m 152 #[.val (.int pm), .val (.long qa), .second, .val (.int ps), .val (.int pi), .val (.int (pm &&& (7 : Int32))), .val (.long qv), .second, .val (.int (9 : Int32)), .val (.int (27 : Int32)), .val (.int ((pi &&& (2147483647 : Int32)) % (9 : Int32))), .unset] [(.long (255 : Int64)), (.long ((qv.toUInt64 >>> (((8 : Int32) * ((8 : Int32) - ((pi &&& (2147483647 : Int32)) % (9 : Int32)))) &&& 0x3f).toInt64.toUInt64).toInt64))])) _
                refine XS.land X0.here hx rfl (hb hby at_152) rfl ?_
                refine XS.l2i X0.here hx rfl (hb hby at_153) rfl ?_
                show Steps p.tables e below (s₁.setTop (mkF m 154 #[.val (.int pm), .val (.long qa), .second, .val (.int ps), .val (.int pi), .val (.int (pm &&& (7 : Int32))), .val (.long qv), .second, .val (.int (9 : Int32)), .val (.int (27 : Int32)), .val (.int ((pi &&& (2147483647 : Int32)) % (9 : Int32))), .unset] [(.int ((((qv.toUInt64 >>> (((8 : Int32) * ((8 : Int32) - ((pi &&& (2147483647 : Int32)) % (9 : Int32)))) &&& 0x3f).toInt64.toUInt64).toInt64) &&& (255 : Int64)).toInt32))])) _
                refine XS.istore X0.here hx rfl (hb hby at_154) rfl (l' := #[.val (.int pm), .val (.long qa), .second, .val (.int ps), .val (.int pi), .val (.int (pm &&& (7 : Int32))), .val (.long qv), .second, .val (.int (9 : Int32)), .val (.int (27 : Int32)), .val (.int ((pi &&& (2147483647 : Int32)) % (9 : Int32))), .val (.int ((((qv.toUInt64 >>> (((8 : Int32) * ((8 : Int32) - ((pi &&& (2147483647 : Int32)) % (9 : Int32)))) &&& 0x3f).toInt64.toUInt64).toInt64) &&& (255 : Int64)).toInt32))]) rfl ?_
                rw [show v78 = ((((qv.toUInt64 >>> (((8 : Int32) * ((8 : Int32) - ((pi &&& (2147483647 : Int32)) % (9 : Int32)))) &&& 0x3f).toInt64.toUInt64).toInt64) &&& (255 : Int64)).toInt32) from hv78.trans (by simp only [if_neg hc77])] at k
                exact k
            refine own_pre (A := (s₁.setTop (mkF m 162 #[.val (.int pm), .val (.long qa), .second, .val (.int ps), .val (.int pi), .val (.int (pm &&& (7 : Int32))), .val (.long qv), .second, .val (.int (9 : Int32)), .val (.int (27 : Int32)), .val (.int ((pi &&& (2147483647 : Int32)) % (9 : Int32))), .val (.int v78)] [(.int ((pi &&& (2147483647 : Int32)) % (9 : Int32))), (.long qv), (.int (pm &&& (7 : Int32)))]))) ?_ ?_
            · intro t k
              show Steps p.tables e below (s₁.setTop (mkF m 156 #[.val (.int pm), .val (.long qa), .second, .val (.int ps), .val (.int pi), .val (.int (pm &&& (7 : Int32))), .val (.long qv), .second, .val (.int (9 : Int32)), .val (.int (27 : Int32)), .val (.int ((pi &&& (2147483647 : Int32)) % (9 : Int32))), .val (.int v78)] [])) _
              refine XS.iload X0.here hx rfl (hb hby at_156) rfl ?_
              refine XS.lload X0.here hx rfl (hb hby at_158) rfl ?_
              refine XS.iload X0.here hx rfl (hb hby at_160) rfl ?_
              exact k
            obtain ⟨_, _, ⟨T79, L79, k79, n79⟩, -, X79, ⟨Lc79, hQ79, l79, y79, z79⟩, st79⟩ := Jvm.LawKit.callS X0 hx (y := (⟨"com/example/sigillum/sigillum/cose/CborItem", "headByte", "(IJI)I"⟩ : MethodName)) hown (mvT hZ (own_w hw 2 rfl)) (mvT hZ (own_w hw 3 rfl)) (mvT hZ (own_w hw 4 rfl)) (mvT hZ (own_w hw 5 rfl)) (by decide) (backOf (W := 0) (rm1 l Z a0 hw [] (pm &&& (7 : Int32)) qv ((pi &&& (2147483647 : Int32)) % (9 : Int32)) h0 n0 Z0) hZ (own_w hw 5 rfl) (own_w hw 4 rfl) (by decide) (by decide)) (g := (mkF m 162 #[.val (.int pm), .val (.long qa), .second, .val (.int ps), .val (.int pi), .val (.int (pm &&& (7 : Int32))), .val (.long qv), .second, .val (.int (9 : Int32)), .val (.int (27 : Int32)), .val (.int ((pi &&& (2147483647 : Int32)) % (9 : Int32))), .val (.int v78)] [(.int ((pi &&& (2147483647 : Int32)) % (9 : Int32))), (.long qv), (.int (pm &&& (7 : Int32)))])) rfl (by rw [hml]; rfl) (argsL := [(.int (pm &&& (7 : Int32))), (.long qv), (.int ((pi &&& (2147483647 : Int32)) % (9 : Int32)))]) (rest := []) (lenOf own_pd3 rfl) rfl (by show 2 * 0 + _ ≤ _; exact Nat.le_of_eq rfl) (hb hby at_162) (fun _ _ => ⟨rfl, e0, (by decide : 0 + 0 ≤ _), (by decide : 0 + 0 ≤ _)⟩)
            dsimp only [Pt.U, Pt.locs, Pt.cells, Pt.slots] at X79 l79 y79 z79 st79 hQ79
            subst l79 y79 z79
            obtain ⟨rfl, Nq79, eq79⟩ := hQ79
            have N79 := Fr.app N0 Nq79
            refine own_pre (fun t k => st79 t k) ?_
            refine own_pre (A := (T79.setTop (mkF m 167 #[.val (.int pm), .val (.long qa), .second, .val (.int ps), .val (.int pi), .val (.int (pm &&& (7 : Int32))), .val (.long qv), .second, .val (.int (9 : Int32)), .val (.int (27 : Int32)), .val (.int ((pi &&& (2147483647 : Int32)) % (9 : Int32))), .val (.int v78)] [(.int v78), (.int (own_hb (pm &&& (7 : Int32)) qv ((pi &&& (2147483647 : Int32)) % (9 : Int32))))]))) ?_ ?_
            · intro t k
              show Steps p.tables e below (T79.setTop (mkF m 165 #[.val (.int pm), .val (.long qa), .second, .val (.int ps), .val (.int pi), .val (.int (pm &&& (7 : Int32))), .val (.long qv), .second, .val (.int (9 : Int32)), .val (.int (27 : Int32)), .val (.int ((pi &&& (2147483647 : Int32)) % (9 : Int32))), .val (.int v78)] [(.int (own_hb (pm &&& (7 : Int32)) qv ((pi &&& (2147483647 : Int32)) % (9 : Int32))))])) _
              refine XS.iload X79.here hx rfl (hb hby at_165) rfl ?_
              exact k
            obtain ⟨v81, hv81⟩ : ∃ z : Int32, z = (if (own_hb (pm &&& (7 : Int32)) qv ((pi &&& (2147483647 : Int32)) % (9 : Int32))) = v78 then (1 : Int32) else (0 : Int32)) := ⟨_, rfl⟩
            refine own_pre (A := (T79.setTop (mkF m 175 #[.val (.int pm), .val (.long qa), .second, .val (.int ps), .val (.int pi), .val (.int (pm &&& (7 : Int32))), .val (.long qv), .second, .val (.int (9 : Int32)), .val (.int (27 : Int32)), .val (.int ((pi &&& (2147483647 : Int32)) % (9 : Int32))), .val (.int v78)] [(.int v81)]))) ?_ ?_
            · intro t k
              show Steps p.tables e below (T79.setTop (mkF m 167 #[.val (.int pm), .val (.long qa), .second, .val (.int ps), .val (.int pi), .val (.int (pm &&& (7 : Int32))), .val (.long qv), .second, .val (.int (9 : Int32)), .val (.int (27 : Int32)), .val (.int ((pi &&& (2147483647 : Int32)) % (9 : Int32))), .val (.int v78)] [(.int v78), (.int (own_hb (pm &&& (7 : Int32)) qv ((pi &&& (2147483647 : Int32)) % (9 : Int32))))])) _
              by_cases hc80 : (own_hb (pm &&& (7 : Int32)) qv ((pi &&& (2147483647 : Int32)) % (9 : Int32))) = v78
              · skip
                refine XS.icmpNo X79.here hx rfl (hb hby at_167) rfl (teq hc80).2 ?_
                refine XS.iconst X79.here hx rfl (hb hby at_170) ?_
                show Steps p.tables e below (T79.setTop (mkF m 171 #[.val (.int pm), .val (.long qa), .second, .val (.int ps), .val (.int pi), .val (.int (pm &&& (7 : Int32))), .val (.long qv), .second, .val (.int (9 : Int32)), .val (.int (27 : Int32)), .val (.int ((pi &&& (2147483647 : Int32)) % (9 : Int32))), .val (.int v78)] [(.int (1 : Int32))])) _
                refine XS.goto X79.here hx rfl (pc0 := 171) (pc' := 175) rfl (hb hby at_171) (by decide) (by decide) ?_
                rw [show v81 = (1 : Int32) from hv81.trans (by simp only [if_pos hc80])] at k
                exact k
              · skip
                refine XS.icmpYes X79.here hx rfl (pc0 := 167) (pc' := 174) rfl (hb hby at_167) rfl (feq hc80).2 (by decide) (by decide) ?_
                refine XS.iconst X79.here hx rfl (hb hby at_174) ?_
                rw [show v81 = (0 : Int32) from hv81.trans (by simp only [if_neg hc80])] at k
                exact k
            have hl : own_hl qv = (9 : Int32) := by rw [own_eq]; simp only [own_exp, if_neg hc29, if_neg hc53, if_neg hc59, if_neg hc65, if_neg hc71]
            have hb' := own_hbK (pm &&& (7 : Int32)) qv ((pi &&& (2147483647 : Int32)) % (9 : Int32)) (9 : Int32) (8 : Int32) (27 : Int32) hl (by decide) (by decide) (by decide +kernel) (own_remP pi (9 : Int32) (by decide))
            rw [← hv78] at hb'
            have hz : v81 = (1 : Int32) := by rw [hv81, if_pos hb']
            rw [hz]
            obtain ⟨fs, hr, hrun, hended, hW, hsame⟩ := X79.leave (hlocks := BodyLoose.notSynchronized Bd) (v := some (.int (1 : Int32))) (fun h => by rw [Bd.returns] at h; cases h)
            refine ⟨_, _, retOut X79 hx Bd.returns rfl (Or.inl ⟨rfl, Or.inr (Or.inl rfl), _, rfl⟩) (hb hby at_175) hr, hrun, hended, _, _, rfl, ?_, ⟨_, rfl⟩, hW, hsame.mono (by decide) (by decide)⟩
            show own_Q0 h0 n0 _ T79.heap _
            rw [eq79]
            exact ⟨rfl, N79⟩
set_option maxRecDepth 65536 in
set_option maxHeartbeats 40000000 in
theorem comes_1 {Post : Tables → Env → Array Value → State → Outcome → State → Prop} (hpost : ∀ tb e args s v u, (limb_1_1.after args s (.returned v) u = true ∧ limb_1_2.after args s (.returned v) u = true ∧ True) → FrameEnd s (.returned v) u (Jvm.fieldLocs frame_1_writes args s ++ Jvm.arrayLocs frame_1_arrays args s ++ Jvm.staticLocs frame_1_statics s) 0 0 → Post tb e args s (.returned v) u) :
    ArmFor flags0 classFile x code maxLocals ret World_1 tables_1 room_1 Calls_1 rest_1 Pre_1 Post := by
  intro l hfl _ _ p e ha hc hk s m args below hf hA hF happ hP
  obtain ⟨hcalls, hrest, hpre⟩ := hP
  obtain ⟨-, -, -, hnamed, -, -, -, hat⟩ := (Spec.applies_iff hf).mp happ
  obtain ⟨hg, hn⟩ := and_e (Cond.before_iff.mp (show (Jvm.Cond.and given_1 narrow_1).before args s = true from hpre))
  obtain ⟨gg1, gg2⟩ := and_e hg
  obtain ⟨gg3, gg4⟩ := and_e gg2
  obtain ⟨gg5, gg6⟩ := and_e gg4
  obtain ⟨gg7, gg8⟩ := and_e gg6
  obtain ⟨w0, w1, w2, w3, rfl⟩ : ∃ w0 w1 w2 w3 : Value, args = #[w0, w1, w2, w3] := by
    have hs : args.size = 4 := by simpa [Cond.value, given_1] using gg1
    obtain ⟨L⟩ := args
    match L, hs with
    | [w0, w1, w2, w3], _ => exact ⟨w0, w1, w2, w3, rfl⟩
  have hw := fun d (hd : d ∈ tables_1) => atoms_spec (ws := Jvm.Cond.code x code maxLocals ret :: tables_1) hat d (List.mem_cons_of_mem _ hd)
  obtain ⟨i0, ei0⟩ := is_v gg3
  obtain rfl : w0 = (.int i0) := Option.some.inj ei0
  obtain ⟨i1, ei1⟩ := isL_v gg5
  obtain rfl : w1 = (.long i1) := Option.some.inj ei1
  obtain ⟨i2, ei2⟩ := is_v gg7
  obtain rfl : w2 = (.int i2) := Option.some.inj ei2
  obtain ⟨i3, ei3⟩ := is_v gg8
  obtain rfl : w3 = (.int i3) := Option.some.inj ei3
  obtain ⟨n, o, h1, h2, h3, _, L, rfl, ⟨rfl, N⟩, hq⟩ := rm0 l s _ hw tables_1 i0 i1 i2 i3 s.heap s.heap.size (Nat.le_refl _) p e ha hc hk s m _ below hf ((Spec.applies_iff_loose hf).mp happ).1 ⟨rfl, State.Warmed39.refl s, rfl⟩ trivial
  refine ⟨n, _, h1, h2, h3, hpost _ _ _ _ _ _ ⟨Cond.after_iff.mpr rfl, Cond.after_iff.mpr (eq_i res_at (Term.int_eval (1)) rfl), trivial⟩ ⟨hq.1, hq.2.1, (hq.2.2.sift fun y hy => Or.inr (N y hy)).mono (by decide) (by decide)⟩⟩
theorem main_1_1 : Claimed_1_1 := comes_1 fun _ _ _ _ _ _ h hF => ⟨h.1, hF⟩
theorem main_1_2 : Claimed_1_2 := comes_1 fun _ _ _ _ _ _ h hF => ⟨h.2.1, hF⟩
end Jvm.Pilot.@@N@@
namespace Jvm.Pilot.@@N@@
open Jvm Jvm.ClassFile Sem Op Lib Jvm.Free Jvm.Stand Jvm.Pilot.@@N@@.Jvm.D
/-! MADE BY PROGRAM (witnessworld.py) out of the Statement's table words and the real class files: 15 classes; the members and pool entries that the words name. The judged class is class 1, her method 1. -/
namespace start1
open Jvm.ClassFile
def u (s : String) : CpInfo := .utf8 (stringToUtf16 s)
/-- a pool by its gaps: so many unusable entries, then the entry; so many at the end -/
def gap : Nat → List CpInfo → List CpInfo
  | 0, r => r
  | n + 1, r => .unusable :: gap n r
def poolList (es : List (Nat × CpInfo)) (last : Nat) : List CpInfo := es.foldr (fun e r => gap e.1 (e.2 :: r)) (gap last [])
def pool (es : List (Nat × CpInfo)) (last : Nat) : Array CpInfo := ⟨poolList es last⟩
def fileOf (pool : Array CpInfo) (this : Nat) (attrs : Array Attribute := #[]) (ms : Array MethodInfo := #[]) (fl : Nat := 33) (sup : Nat := 0) (ifs : Array Nat := #[]) (fds : Array FieldInfo := #[]) : ClassFile where
  minorVersion := 0
  majorVersion := 65
  constantPool := pool
  accessFlags := fl
  thisClass := this
  superClass := sup
  interfaces := ifs
  fields := fds
  methods := ms
  attributes := attrs
def plain (name : String) (sup : Option ClassId) : Class where
  name := name
  kind := .ordinary
  loader := none
  accessFlags := 33
  super := sup
  interfaces := #[]
  cf := none
  fields := #[]
  methods := #[]
  instanceTypes := #[]
  staticTypes := #[]
  resolved := #[]
  callSites := []
  init := .initialized
  statics := none
  mirror := none

def pool0 : Array CpInfo := pool [(5, u "<init>"), (0, u "()V"), (1, .class_ 10), (1, u "java/lang/Object")] 113

def k0m0 : Method := { name := "<init>", desc := "()V", sig := { parameters := [], returnType := none }, accessFlags := 1, code := none }
/-- java/lang/Object -/
def k0 : Class := { plain "java/lang/Object" none with
  accessFlags := 33
  interfaces := #[]
  cf := some (fileOf pool0 8 #[] #[{ accessFlags := 1, nameIndex := 5, descriptorIndex := 6, attributes := #[] }] 33 0 #[] #[])
  fields := #[]
  methods := #[k0m0]
  instanceTypes := #[]
  staticTypes := #[]
  resolved := Array.replicate 124 none
  statics := none }

def pool1 : Array CpInfo := pool [(2, .class_ 4), (1, u "java/lang/Object"), (0, u "<init>"), (0, u "()V"), (0, .long 24), (1, .integer 2147483647), (0, .long 255), (1, .methodref 13 14), (0, .class_ 15), (0, .nameAndType 16 17), (0, u "com/example/sigillum/sigillum/cose/CborItem"), (0, u "headByte"), (0, u "(IJI)I"), (0, .class_ 19), (0, u "com/example/sigillum/sigillum/cose/CborItemHeadBytePinLaw"), (2, u "law"), (0, u "(IJII)Z")] 3

def k1m0 : Method := { name := "<init>", desc := "()V", sig := { parameters := [], returnType := none }, accessFlags := 1, code := none }
def k1c1 : Code := { maxStack := 5, maxLocals := 12, code := code, exceptionTable := #[], attributes := #[] }
def k1m1 : Method := { name := "law", desc := "(IJII)Z", sig := { parameters := [.int, .long, .int, .int], returnType := some .boolean }, accessFlags := 9, code := some k1c1 }
/-- com/example/sigillum/sigillum/cose/CborItemHeadBytePinLaw -/
def k1 : Class := { plain "com/example/sigillum/sigillum/cose/CborItemHeadBytePinLaw" (some 0) with
  accessFlags := 49
  interfaces := #[]
  cf := some (fileOf pool1 18 #[] #[{ accessFlags := 1, nameIndex := 5, descriptorIndex := 6, attributes := #[] }, { accessFlags := 9, nameIndex := 22, descriptorIndex := 23, attributes := #[] }] 49 2 #[] #[])
  fields := #[]
  methods := #[k1m0, k1m1]
  instanceTypes := #[]
  staticTypes := #[]
  resolved := Array.replicate 27 none
  statics := none }

def pool2 : Array CpInfo := pool [(2, .class_ 4), (1, u "java/lang/Object"), (3, .class_ 10), (1, u "com/example/sigillum/sigillum/cose/CborItem"), (0, u "encoding"), (0, u "[B"), (2, u "head"), (3, u "Lcom/example/sigillum/sigillum/cose/CborItem$Head;"), (1, .class_ 23), (1, u "com/example/sigillum/sigillum/cose/CborItem$Head"), (7, .class_ 32), (0, u "com/example/sigillum/sigillum/cose/CborItem$Walk"), (6, u "(I)I"), (16, .class_ 58), (1, u "com/example/sigillum/sigillum/cose/CborItem$Type"), (5, u "I"), (6, u "BYTE_STRING"), (2, u "TEXT_STRING"), (21, u "ARRAY"), (2, u "MAP"), (14, .class_ 115), (0, u "com/example/sigillum/sigillum/cose/CborItem$Items"), (42, .class_ 159), (0, u "com/example/sigillum/sigillum/cose/CborItem$KeySort"), (8, u "TAG"), (2, .long 24), (1, .methodref 174 175), (0, .class_ 176), (0, .nameAndType 177 178), (0, u "java/lang/Long"), (0, u "compareUnsigned"), (0, u "(JJ)I"), (0, .methodref 8 180), (0, .nameAndType 181 182), (0, u "headLength"), (0, u "(J)I"), (0, .methodref 184 185), (0, .class_ 186), (0, .nameAndType 187 39), (0, u "java/lang/Integer"), (0, u "numberOfTrailingZeros"), (29, u "UNSIGNED_INTEGER"), (8, u "NEGATIVE_INTEGER"), (14, u "SIMPLE"), (2, u "MAX_DEPTH"), (2, u "INDEFINITE"), (1, u "BREAK"), (21, u "headByte"), (0, u "(IJI)I")] 26

def k2c0 : Code := { maxStack := 4, maxLocals := 3, code := prog_8_method_15_code, exceptionTable := #[], attributes := #[] }
def k2m0 : Method := { name := "headLength", desc := "(J)I", sig := { parameters := [.long], returnType := some .int }, accessFlags := 8, code := some k2c0 }
def k2c1 : Code := { maxStack := 5, maxLocals := 6, code := prog_8_method_16_code, exceptionTable := #[], attributes := #[] }
def k2m1 : Method := { name := "headByte", desc := "(IJI)I", sig := { parameters := [.int, .long, .int], returnType := some .int }, accessFlags := 8, code := some k2c1 }
/-- com/example/sigillum/sigillum/cose/CborItem -/
def k2 : Class := { plain "com/example/sigillum/sigillum/cose/CborItem" (some 0) with
  accessFlags := 49
  interfaces := #[]
  cf := some (fileOf pool2 8 #[.nestMembers #[31, 21, 114, 158, 56]] #[{ accessFlags := 8, nameIndex := 181, descriptorIndex := 182, attributes := #[] }, { accessFlags := 8, nameIndex := 271, descriptorIndex := 272, attributes := #[] }] 49 2 #[] #[{ accessFlags := 24, nameIndex := 244, descriptorIndex := 64, attributes := #[] }, { accessFlags := 26, nameIndex := 217, descriptorIndex := 64, attributes := #[] }, { accessFlags := 26, nameIndex := 226, descriptorIndex := 64, attributes := #[] }, { accessFlags := 26, nameIndex := 71, descriptorIndex := 64, attributes := #[] }, { accessFlags := 26, nameIndex := 74, descriptorIndex := 64, attributes := #[] }, { accessFlags := 26, nameIndex := 96, descriptorIndex := 64, attributes := #[] }, { accessFlags := 26, nameIndex := 99, descriptorIndex := 64, attributes := #[] }, { accessFlags := 26, nameIndex := 168, descriptorIndex := 64, attributes := #[] }, { accessFlags := 26, nameIndex := 241, descriptorIndex := 64, attributes := #[] }, { accessFlags := 26, nameIndex := 247, descriptorIndex := 64, attributes := #[] }, { accessFlags := 26, nameIndex := 249, descriptorIndex := 64, attributes := #[] }, { accessFlags := 18, nameIndex := 11, descriptorIndex := 12, attributes := #[] }, { accessFlags := 18, nameIndex := 15, descriptorIndex := 19, attributes := #[] }])
  fields := #[{ name := "MAX_DEPTH", type := .int, accessFlags := 24, slot := 0, constantValue := 0 }, { name := "UNSIGNED_INTEGER", type := .int, accessFlags := 26, slot := 1, constantValue := 0 }, { name := "NEGATIVE_INTEGER", type := .int, accessFlags := 26, slot := 2, constantValue := 0 }, { name := "BYTE_STRING", type := .int, accessFlags := 26, slot := 3, constantValue := 0 }, { name := "TEXT_STRING", type := .int, accessFlags := 26, slot := 4, constantValue := 0 }, { name := "ARRAY", type := .int, accessFlags := 26, slot := 5, constantValue := 0 }, { name := "MAP", type := .int, accessFlags := 26, slot := 6, constantValue := 0 }, { name := "TAG", type := .int, accessFlags := 26, slot := 7, constantValue := 0 }, { name := "SIMPLE", type := .int, accessFlags := 26, slot := 8, constantValue := 0 }, { name := "INDEFINITE", type := .int, accessFlags := 26, slot := 9, constantValue := 0 }, { name := "BREAK", type := .int, accessFlags := 26, slot := 10, constantValue := 0 }, { name := "encoding", type := (.array .byte), accessFlags := 18, slot := 0, constantValue := 0 }, { name := "head", type := (.object "com/example/sigillum/sigillum/cose/CborItem$Head"), accessFlags := 18, slot := 1, constantValue := 0 }]
  methods := #[k2m0, k2m1]
  instanceTypes := #[(.array .byte), (.object "com/example/sigillum/sigillum/cose/CborItem$Head")]
  staticTypes := #[.int, .int, .int, .int, .int, .int, .int, .int, .int, .int, .int]
  resolved := Array.replicate 299 none
  statics := none }

def pool3 : Array CpInfo := pool [(1, .class_ 2), (0, u "java/io/Serializable"), (0, .class_ 4), (0, u "java/lang/Object")] 2

/-- java/io/Serializable -/
def k3 : Class := { plain "java/io/Serializable" (some 0) with
  accessFlags := 1537
  interfaces := #[]
  cf := some (fileOf pool3 1 #[] #[] 1537 3 #[] #[])
  fields := #[]
  methods := #[]
  instanceTypes := #[]
  staticTypes := #[]
  resolved := Array.replicate 7 none
  statics := none }

def pool4 : Array CpInfo := pool [(2, .class_ 4), (1, u "java/lang/Object"), (0, u "<init>"), (0, u "()V"), (1, .class_ 10), (1, u "java/lang/Number"), (2, .class_ 14), (0, u "java/io/Serializable"), (0, u "serialVersionUID"), (0, u "J")] 20

def k4m0 : Method := { name := "<init>", desc := "()V", sig := { parameters := [], returnType := none }, accessFlags := 1, code := none }
/-- java/lang/Number -/
def k4 : Class := { plain "java/lang/Number" (some 0) with
  accessFlags := 1057
  interfaces := #[3]
  cf := some (fileOf pool4 8 #[] #[{ accessFlags := 1, nameIndex := 5, descriptorIndex := 6, attributes := #[] }] 1057 2 #[13] #[{ accessFlags := 26, nameIndex := 15, descriptorIndex := 16, attributes := #[] }])
  fields := #[{ name := "serialVersionUID", type := .long, accessFlags := 26, slot := 0, constantValue := 0 }]
  methods := #[k4m0]
  instanceTypes := #[]
  staticTypes := #[.long]
  resolved := Array.replicate 37 none
  statics := none }

def pool5 : Array CpInfo := pool [(1, .class_ 2), (0, u "java/lang/Comparable"), (0, .class_ 4), (0, u "java/lang/Object")] 7

/-- java/lang/Comparable -/
def k5 : Class := { plain "java/lang/Comparable" (some 0) with
  accessFlags := 1537
  interfaces := #[]
  cf := some (fileOf pool5 1 #[] #[] 1537 3 #[] #[])
  fields := #[]
  methods := #[]
  instanceTypes := #[]
  staticTypes := #[]
  resolved := Array.replicate 12 none
  statics := none }

def pool6 : Array CpInfo := pool [(1, .class_ 2), (0, u "java/lang/constant/Constable"), (0, .class_ 4), (0, u "java/lang/Object")] 6

/-- java/lang/constant/Constable -/
def k6 : Class := { plain "java/lang/constant/Constable" (some 0) with
  accessFlags := 1537
  interfaces := #[]
  cf := some (fileOf pool6 1 #[] #[] 1537 3 #[] #[])
  fields := #[]
  methods := #[]
  instanceTypes := #[]
  staticTypes := #[]
  resolved := Array.replicate 11 none
  statics := none }

def pool7 : Array CpInfo := pool [(1, .class_ 2), (0, u "java/lang/constant/ConstantDesc"), (0, .class_ 4), (0, u "java/lang/Object")] 32

/-- java/lang/constant/ConstantDesc -/
def k7 : Class := { plain "java/lang/constant/ConstantDesc" (some 0) with
  accessFlags := 1537
  interfaces := #[]
  cf := some (fileOf pool7 1 #[] #[] 1537 3 #[] #[])
  fields := #[]
  methods := #[]
  instanceTypes := #[]
  staticTypes := #[]
  resolved := Array.replicate 37 none
  statics := none }

def pool8 : Array CpInfo := pool [(1, .class_ 2), (0, u "java/lang/Long"), (165, .long 9223372036854775808), (66, .class_ 237), (1, u "java/lang/Long$LongCache"), (33, .class_ 272), (0, u "java/lang/Number"), (2, u "value"), (0, u "J"), (25, .methodref 1 303), (0, .nameAndType 304 305), (0, u "compare"), (0, u "(JJ)I"), (55, u "TYPE"), (0, u "Ljava/lang/Class;"), (0, .class_ 364), (0, u "java/lang/Comparable"), (0, .class_ 366), (0, u "java/lang/constant/Constable"), (0, .class_ 368), (0, u "java/lang/constant/ConstantDesc"), (0, u "MIN_VALUE"), (1, u "MAX_VALUE"), (4, u "SIZE"), (0, u "I"), (1, u "BYTES"), (1, u "serialVersionUID"), (87, u "compareUnsigned")] 54

def k8c0 : Code := { maxStack := 4, maxLocals := 4, code := jdk_35_method_42_code, exceptionTable := #[], attributes := #[] }
def k8m0 : Method := { name := "compare", desc := "(JJ)I", sig := { parameters := [.long, .long], returnType := some .int }, accessFlags := 9, code := some k8c0 }
def k8c1 : Code := { maxStack := 6, maxLocals := 4, code := jdk_35_method_43_code, exceptionTable := #[], attributes := #[] }
def k8m1 : Method := { name := "compareUnsigned", desc := "(JJ)I", sig := { parameters := [.long, .long], returnType := some .int }, accessFlags := 9, code := some k8c1 }
/-- java/lang/Long -/
def k8 : Class := { plain "java/lang/Long" (some 4) with
  accessFlags := 49
  interfaces := #[5, 6, 7]
  cf := some (fileOf pool8 1 #[.nestMembers #[235]] #[{ accessFlags := 9, nameIndex := 304, descriptorIndex := 305, attributes := #[] }, { accessFlags := 9, nameIndex := 469, descriptorIndex := 305, attributes := #[] }] 49 271 #[363, 365, 367] #[{ accessFlags := 25, nameIndex := 369, descriptorIndex := 276, attributes := #[] }, { accessFlags := 25, nameIndex := 371, descriptorIndex := 276, attributes := #[] }, { accessFlags := 25, nameIndex := 361, descriptorIndex := 362, attributes := #[] }, { accessFlags := 18, nameIndex := 275, descriptorIndex := 276, attributes := #[] }, { accessFlags := 25, nameIndex := 376, descriptorIndex := 377, attributes := #[] }, { accessFlags := 25, nameIndex := 379, descriptorIndex := 377, attributes := #[] }, { accessFlags := 26, nameIndex := 381, descriptorIndex := 276, attributes := #[] }])
  fields := #[{ name := "MIN_VALUE", type := .long, accessFlags := 25, slot := 0, constantValue := 0 }, { name := "MAX_VALUE", type := .long, accessFlags := 25, slot := 1, constantValue := 0 }, { name := "TYPE", type := (.object "java/lang/Class"), accessFlags := 25, slot := 2, constantValue := 0 }, { name := "value", type := .long, accessFlags := 18, slot := 0, constantValue := 0 }, { name := "SIZE", type := .int, accessFlags := 25, slot := 3, constantValue := 0 }, { name := "BYTES", type := .int, accessFlags := 25, slot := 4, constantValue := 0 }, { name := "serialVersionUID", type := .long, accessFlags := 26, slot := 5, constantValue := 0 }]
  methods := #[k8m0, k8m1]
  instanceTypes := #[.long]
  staticTypes := #[.long, .long, (.object "java/lang/Class"), .int, .int, .long]
  resolved := Array.replicate 524 none
  statics := none }

def pool9 : Array CpInfo := pool [(1, .class_ 2), (0, u "java/lang/Integer"), (16, u "digits"), (0, u "[C"), (33, u "(I)I"), (30, u "DigitOnes"), (0, u "[B"), (2, u "DigitTens"), (99, .class_ 190), (0, u "java/lang/Integer$IntegerCache"), (3, u "I"), (8, .class_ 204), (0, u "java/lang/Number"), (2, u "value"), (56, .integer 65536), (37, u "TYPE"), (0, u "Ljava/lang/Class;"), (0, .class_ 305), (0, u "java/lang/Comparable"), (0, .class_ 307), (0, u "java/lang/constant/Constable"), (0, .class_ 309), (0, u "java/lang/constant/ConstantDesc"), (0, u "MIN_VALUE"), (1, u "MAX_VALUE"), (3, u "SIZE"), (1, u "BYTES"), (1, u "serialVersionUID"), (0, u "J"), (84, u "numberOfTrailingZeros")] 46

def k9c0 : Code := { maxStack := 3, maxLocals := 2, code := jdk_33_method_48_code, exceptionTable := #[], attributes := #[] }
def k9m0 : Method := { name := "numberOfTrailingZeros", desc := "(I)I", sig := { parameters := [.int], returnType := some .int }, accessFlags := 9, code := some k9c0 }
/-- java/lang/Integer -/
def k9 : Class := { plain "java/lang/Integer" (some 4) with
  accessFlags := 49
  interfaces := #[5, 6, 7]
  cf := some (fileOf pool9 1 #[.nestMembers #[189]] #[{ accessFlags := 9, nameIndex := 406, descriptorIndex := 54, attributes := #[] }] 49 203 #[304, 306, 308] #[{ accessFlags := 25, nameIndex := 310, descriptorIndex := 194, attributes := #[] }, { accessFlags := 25, nameIndex := 312, descriptorIndex := 194, attributes := #[] }, { accessFlags := 25, nameIndex := 302, descriptorIndex := 303, attributes := #[] }, { accessFlags := 24, nameIndex := 19, descriptorIndex := 20, attributes := #[] }, { accessFlags := 24, nameIndex := 89, descriptorIndex := 86, attributes := #[] }, { accessFlags := 24, nameIndex := 85, descriptorIndex := 86, attributes := #[] }, { accessFlags := 18, nameIndex := 207, descriptorIndex := 194, attributes := #[] }, { accessFlags := 25, nameIndex := 316, descriptorIndex := 194, attributes := #[] }, { accessFlags := 25, nameIndex := 318, descriptorIndex := 194, attributes := #[] }, { accessFlags := 26, nameIndex := 320, descriptorIndex := 321, attributes := #[] }])
  fields := #[{ name := "MIN_VALUE", type := .int, accessFlags := 25, slot := 0, constantValue := 0 }, { name := "MAX_VALUE", type := .int, accessFlags := 25, slot := 1, constantValue := 0 }, { name := "TYPE", type := (.object "java/lang/Class"), accessFlags := 25, slot := 2, constantValue := 0 }, { name := "digits", type := (.array .char), accessFlags := 24, slot := 3, constantValue := 0 }, { name := "DigitTens", type := (.array .byte), accessFlags := 24, slot := 4, constantValue := 0 }, { name := "DigitOnes", type := (.array .byte), accessFlags := 24, slot := 5, constantValue := 0 }, { name := "value", type := .int, accessFlags := 18, slot := 0, constantValue := 0 }, { name := "SIZE", type := .int, accessFlags := 25, slot := 6, constantValue := 0 }, { name := "BYTES", type := .int, accessFlags := 25, slot := 7, constantValue := 0 }, { name := "serialVersionUID", type := .long, accessFlags := 26, slot := 8, constantValue := 0 }]
  methods := #[k9m0]
  instanceTypes := #[.int]
  staticTypes := #[.int, .int, (.object "java/lang/Class"), (.array .char), (.array .byte), (.array .byte), .int, .int, .long]
  resolved := Array.replicate 453 none
  statics := none }

def pool10 : Array CpInfo := pool [(1, u "java/lang/Cloneable"), (0, .class_ 1), (0, u "java/lang/Object"), (0, .class_ 3)] 3

/-- java/lang/Cloneable -/
def k10 : Class := { plain "java/lang/Cloneable" (some 0) with
  accessFlags := 1537
  interfaces := #[]
  cf := some (fileOf pool10 2 #[] #[] 1537 4 #[] #[])
  fields := #[]
  methods := #[]
  instanceTypes := #[]
  staticTypes := #[]
  resolved := Array.replicate 8 none
  statics := none }

/-- the primitive byte -/
def k11 : Class := { plain "byte" none with kind := .primitive 'B', accessFlags := 0x411 }
/-- [B -/
def k12 : Class := { plain "[B" (some 0) with kind := .array 11 .byte, interfaces := #[10, 3], accessFlags := 1041 }

/-- the primitive int -/
def k13 : Class := { plain "int" none with kind := .primitive 'I', accessFlags := 0x411 }
/-- [I -/
def k14 : Class := { plain "[I" (some 0) with kind := .array 13 .int, interfaces := #[10, 3], accessFlags := 1041 }

def heap : Heap := #[]
def classes : Array Class := #[k0, k1, k2, k3, k4, k5, k6, k7, k8, k9, k10, k11, k12, k13, k14]
def interned : List (Array UInt16 × Addr) := []
def slotsUsed : Nat := 0
def theMethod : MethodId := ⟨1, 1⟩
def args0 : Array Value := #[.int 5, .long 7, .int 9, .int 3]
def aboutOver (below : List Frame) : State where
  vm := { classes := classes, interned := interned.toArray }
  heap := heap
  slotsUsed := slotsUsed
  threads := #[{ frames := .invoking theMethod args0 :: below }]
def below0 : List Frame := [.native { method := ⟨0, 0⟩, args := #[] }]
def about1 : State := aboutOver below0
def p0 : Program := .bare "" "" ""
def e0 : Env := launch0.env 0 0 0
theorem w_frames : about1.frames = Frame.invoking theMethod args0 :: below0 := rfl
set_option maxRecDepth 65536 in
theorem w_args : argsFit about1.vm theMethod args0 = true := by decide +kernel
set_option maxRecDepth 65536 in
theorem w_heap : heapFits about1 = true := by decide +kernel
set_option maxRecDepth 65536 in
theorem w_runnable : about1.curStatus? = some .runnable := by decide +kernel
set_option maxRecDepth 65536 in
theorem w_alone : about1.alone = true := by decide +kernel
set_option maxRecDepth 65536 in
theorem w_named : about1.methodNamed? x = some theMethod := by decide +kernel
set_option maxRecDepth 65536 in
theorem w_hears : about1.hears theMethod below0 = true := by decide +kernel
set_option maxRecDepth 65536 in
theorem w_ripe : about1.ripe theMethod args0 below0 = true := by decide +kernel
theorem w_running : about1.status = .running := rfl
set_option maxRecDepth 65536 in
theorem w_room : about1.hasRoom e0.platform room_1 = true :=
  launch0.hasRoom_least _ room_1 (by decide +kernel) (by decide +kernel) (by decide +kernel) (by decide +kernel) (by decide +kernel) (by decide +kernel)
theorem allAtoms_all (ts : List Jvm.Cond) (a : Array Jvm.Value) (st : Jvm.State) : (allAtoms ts).before a st = ts.all (fun c => c.before a st) := by
  induction ts with
  | nil => rfl
  | cons c t ih =>
    show (Jvm.Cond.and c (allAtoms t)).before a st = _
    rw [Jvm.Cond.before_and, ih, List.all_cons]
def words1 : List Jvm.Cond := Jvm.Cond.code x code maxLocals ret :: tables_1
/-- a 'code' word, met by the world's own term for the bytes: nothing is compared byte by byte -/
theorem code_word {y : MethodName} {bytes : ByteArray} {mx : Nat} {rt : Option FieldType} {a : Array Value} {s : State} {m : MethodId} {meth : Method} {c : Code} (h1 : s.methodNamed? y = some m) (h2 : s.vm.method? m = some meth) (h3 : meth.code = some c) (h4 : c.code = bytes)
    (h5 : (c.maxLocals == mx && c.exceptionTable.isEmpty && decide (c.maxStack ≤ mostOperands) && decide (meth.sig.returnType = rt) && !meth.locks && decide (parseMethodDescriptor y.desc = some meth.sig)) = true) : (Jvm.Cond.code y bytes mx rt).before a s = true := by
  simp only [Bool.and_eq_true, beq_iff_eq, Bool.not_eq_true', decide_eq_true_eq] at h5
  obtain ⟨⟨⟨⟨⟨g1, g2⟩, g3⟩, g4⟩, g5⟩, g6⟩ := h5
  simp [Cond.before, Cond.holds, Cond.value, h1, h2, h3, h4, g1, g2, g3, g4, g5, g6]
def isCode : Jvm.Cond → Bool
  | .code _ _ _ _ => true
  | _ => false
theorem all_split {L : List Jvm.Cond} {P : Jvm.Cond → Bool} (h1 : L.all (fun c => isCode c || P c) = true) (h2 : ∀ c ∈ L.filter isCode, P c = true) : L.all P = true := by
  refine List.all_eq_true.mpr fun c hc => ?_
  have h := List.all_eq_true.mp h1 c hc
  rcases Bool.eq_false_or_eq_true (isCode c) with hi | hi
  · exact h2 c (List.mem_filter.mpr ⟨hc, hi⟩)
  · simpa [hi] using h
set_option maxRecDepth 65536 in
theorem w_c0 : (Jvm.Cond.code x code maxLocals ret).before args0 about1 = true := code_word (m := ⟨1, 1⟩) (meth := k1m1) (c := k1c1) (by decide +kernel) rfl rfl rfl (by decide +kernel)
set_option maxRecDepth 65536 in
theorem w_c1 : (Jvm.Cond.code ({ cls := "com/example/sigillum/sigillum/cose/CborItem", name := "headByte", desc := "(IJI)I" } : Jvm.MethodName) prog_8_method_16_code (6 : Nat) (Option.some Jvm.ClassFile.FieldType.int)).before args0 about1 = true := code_word (m := ⟨2, 1⟩) (meth := k2m1) (c := k2c1) (by decide +kernel) rfl rfl rfl (by decide +kernel)
set_option maxRecDepth 65536 in
theorem w_c2 : (Jvm.Cond.code ({ cls := "com/example/sigillum/sigillum/cose/CborItem", name := "headLength", desc := "(J)I" } : Jvm.MethodName) prog_8_method_15_code (3 : Nat) (Option.some Jvm.ClassFile.FieldType.int)).before args0 about1 = true := code_word (m := ⟨2, 0⟩) (meth := k2m0) (c := k2c0) (by decide +kernel) rfl rfl rfl (by decide +kernel)
set_option maxRecDepth 65536 in
theorem w_c3 : (Jvm.Cond.code ({ cls := "java/lang/Long", name := "compareUnsigned", desc := "(JJ)I" } : Jvm.MethodName) jdk_35_method_43_code (4 : Nat) (Option.some Jvm.ClassFile.FieldType.int)).before args0 about1 = true := code_word (m := ⟨8, 1⟩) (meth := k8m1) (c := k8c1) (by decide +kernel) rfl rfl rfl (by decide +kernel)
set_option maxRecDepth 65536 in
theorem w_c4 : (Jvm.Cond.code ({ cls := "java/lang/Long", name := "compare", desc := "(JJ)I" } : Jvm.MethodName) jdk_35_method_42_code (4 : Nat) (Option.some Jvm.ClassFile.FieldType.int)).before args0 about1 = true := code_word (m := ⟨8, 0⟩) (meth := k8m0) (c := k8c0) (by decide +kernel) rfl rfl rfl (by decide +kernel)
set_option maxRecDepth 65536 in
theorem w_c5 : (Jvm.Cond.code ({ cls := "java/lang/Integer", name := "numberOfTrailingZeros", desc := "(I)I" } : Jvm.MethodName) jdk_33_method_48_code (2 : Nat) (Option.some Jvm.ClassFile.FieldType.int)).before args0 about1 = true := code_word (m := ⟨9, 0⟩) (meth := k9m0) (c := k9c0) (by decide +kernel) rfl rfl rfl (by decide +kernel)
def codes1 : List Jvm.Cond := [Jvm.Cond.code x code maxLocals ret, Jvm.Cond.code ({ cls := "com/example/sigillum/sigillum/cose/CborItem", name := "headByte", desc := "(IJI)I" } : Jvm.MethodName) prog_8_method_16_code (6 : Nat) (Option.some Jvm.ClassFile.FieldType.int), Jvm.Cond.code ({ cls := "com/example/sigillum/sigillum/cose/CborItem", name := "headLength", desc := "(J)I" } : Jvm.MethodName) prog_8_method_15_code (3 : Nat) (Option.some Jvm.ClassFile.FieldType.int), Jvm.Cond.code ({ cls := "java/lang/Long", name := "compareUnsigned", desc := "(JJ)I" } : Jvm.MethodName) jdk_35_method_43_code (4 : Nat) (Option.some Jvm.ClassFile.FieldType.int), Jvm.Cond.code ({ cls := "java/lang/Long", name := "compare", desc := "(JJ)I" } : Jvm.MethodName) jdk_35_method_42_code (4 : Nat) (Option.some Jvm.ClassFile.FieldType.int), Jvm.Cond.code ({ cls := "java/lang/Integer", name := "numberOfTrailingZeros", desc := "(I)I" } : Jvm.MethodName) jdk_33_method_48_code (2 : Nat) (Option.some Jvm.ClassFile.FieldType.int)]
set_option maxRecDepth 65536 in
theorem codes_eq : words1.filter isCode = codes1 := rfl
theorem w_codes : ∀ c ∈ words1.filter isCode, c.before args0 about1 = true := by
  rw [codes_eq]
  intro c hc
  simp only [codes1, List.mem_cons, List.not_mem_nil, or_false] at hc
  rcases hc with rfl | rfl | rfl | rfl | rfl | rfl
  · exact w_c0
  · exact w_c1
  · exact w_c2
  · exact w_c3
  · exact w_c4
  · exact w_c5
set_option maxRecDepth 65536 in
theorem w_t1 : (words1.take 24).all (fun c => isCode c || c.before args0 about1) = true := by decide +kernel
set_option maxRecDepth 65536 in
theorem w_t2 : (words1.drop 24).all (fun c => isCode c || c.before args0 about1) = true := by decide +kernel
theorem w_tables : (allAtoms (Jvm.Cond.code x code maxLocals ret :: tables_1)).before args0 about1 = true := by
  rw [allAtoms_all]
  show words1.all (fun c => c.before args0 about1) = true
  refine all_split ?_ w_codes
  rw [← List.take_append_drop 24 words1, List.all_append, w_t1, w_t2]
  rfl
set_option maxRecDepth 65536 in
theorem w_case : (Jvm.Cond.and given_1 narrow_1).before args0 about1 = true := by decide +kernel
theorem w_applies : (headSpec (Jvm.Cond.code x code maxLocals ret :: tables_1) room_1).applies x e0.platform about1 = true :=
  (Spec.applies_iff w_frames).mpr ⟨w_running, w_runnable, w_alone, w_named, w_hears, w_ripe, w_room, w_tables⟩
theorem atStart : AtStart classFile x code maxLocals ret World_1 tables_1 room_1 Calls_1 rest_1 Pre_1 launch0 p0 e0 about1 theMethod args0 below0 :=
  ⟨lists_1, trivial, launch0.admits_env _ _ _, launch0.least_env, fairChoices_fair.cas, fairChoices_fair.clock, w_frames, w_args, w_heap, w_applies, trivial, trivial, w_case⟩
end start1
theorem witness_1 : WitnessClaimed_1 := ⟨start1.p0, start1.e0, start1.about1, start1.theMethod, start1.args0, start1.below0, start1.atStart⟩
end Jvm.Pilot.@@N@@
