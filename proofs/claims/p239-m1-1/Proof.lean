import JvmDerived
import JvmDerived.Pilot.@@N@@Statement
import JvmDerived.Pilot.@@N@@Code
set_option linter.unusedVariables false
set_option linter.unusedSimpArgs false

namespace Jvm.Pilot.@@N@@
open Jvm Jvm.ClassFile Sem Op Lib Jvm.Free Jvm.Stand Jvm.LawKit Jvm.RoadKit Bundle Jvm.Pilot.@@N@@.Jvm.D
theorem own_pre {tb : Tables} {e : Env} {below : List Frame} {A B : State} {C : State → Outcome → Prop} (k : ∀ t, Steps tb e below A t → Steps tb e below B t) (h : ∃ s₂ o, Steps tb e below A s₂ ∧ C s₂ o) : ∃ s₂ o, Steps tb e below B s₂ ∧ C s₂ o := by
  obtain ⟨s2, o, h1, h2⟩ := h
  exact ⟨s2, o, k _ h1, h2⟩
theorem own_lrem {p : Program} {l : Launch} {e : Env} {R : Room} {s : State} {m : MethodId} {args : Array Value} {below : List Frame} {meth : Method} {c : Code} {T : State} {locs : List Loc} {cells slots : Nat} {g : JFrame} {target : State} (X : Stand p l e R s m args below meth c T locs cells slots) (hx : p.tables.exec = Jvm.exec) (hg : g.method = m) {x y : Int64} {rest : List Value} (hd : decode c.code g.pc = .ok (.lrem, 1)) (hs : g.stack = .long y :: .long x :: rest) (hy : y ≠ 0)
    (hr : Steps p.tables e below (T.setTop { g with pc := g.pc + 1, stack := .long (x % y) :: rest }) target) : Steps p.tables e below (T.setTop g) target :=
  XS.lrem X.here hx hg hd hs hy (by rw [lrem_mod]; exact hr)
theorem own_w {wl : List Jvm.Cond} {a0 : Array Value} {Z : State} (h : ∀ d ∈ wl, d.before a0 Z = true) (i : Nat) {d : Jvm.Cond} (g : wl[i]? = some d) : d.before a0 Z = true := h d (List.mem_of_getElem? g)

theorem own_pd0 : parseMethodDescriptor "()V" = some ⟨[], none⟩ := by decide +kernel
theorem own_pd1 : parseMethodDescriptor "(JJ)J" = some ⟨[.long, .long], some .long⟩ := by decide +kernel
theorem own_pd2 : parseMethodDescriptor "(JJ)V" = some ⟨[.long, .long], none⟩ := by decide +kernel
theorem own_pd3 : parseMethodDescriptor "(J)Z" = some ⟨[.long], some .boolean⟩ := by decide +kernel
theorem d1_0 : decode jdk_29_method_70_code 0 = .ok (.lload_n 0, 1) := by decide +kernel
theorem d1_1 : decode jdk_29_method_70_code 1 = .ok (.lload_n 2, 1) := by decide +kernel
theorem d1_2 : decode jdk_29_method_70_code 2 = .ok (.lcmp, 1) := by decide +kernel
theorem d1_3 : decode jdk_29_method_70_code 3 = .ok (.ifCond .gt 7, 3) := by decide +kernel
theorem d1_6 : decode jdk_29_method_70_code 6 = .ok (.lload_n 0, 1) := by decide +kernel
theorem d1_7 : decode jdk_29_method_70_code 7 = .ok (.goto 4, 3) := by decide +kernel
theorem d1_10 : decode jdk_29_method_70_code 10 = .ok (.lload_n 2, 1) := by decide +kernel
theorem d1_11 : decode jdk_29_method_70_code 11 = .ok (.lreturn, 1) := by decide +kernel
theorem own_ef1 (m : MethodId) (x0 : Int64) (x1 : Int64) : entryFrame m #[(.long x0), (.long x1)] 4 = mkF m 0 #[.val (.long x0), .second, .val (.long x1), .second] [] := by first | (simp [entryFrame, mkF, argsToLocals, Value.category]; done) | rfl
def own_min (qx : Int64) (qy : Int64) : Int64 := (if qy < qx then qy else qx)
def own_Q1 (qx : Int64) (qy : Int64) (h0 : Heap) (n0 : Nat) (v : Option Value) (h : Heap) (L : List Loc) : Prop := v = some (.long (own_min qx qy)) ∧ Fr n0 L ∧ h = h0
set_option maxRecDepth 65536 in
set_option maxHeartbeats 40000000 in
theorem rm1 (l : Launch) (Z : State) (a0 : Array Value) (hw : ∀ d ∈ tables_1, d.before a0 Z = true) (ws : List Jvm.Cond) (qx : Int64) (qy : Int64) (h0 : Heap) (n0 : Nat) (Z0 : n0 ≤ h0.size) :
    MetFree l (⟨"java/lang/Math", "min", "(JJ)J"⟩ : MethodName) (head1 (Jvm.Cond.code (⟨"java/lang/Math", "min", "(JJ)J"⟩ : MethodName) jdk_29_method_70_code 4 (some .long) :: ws) ({ frames := 0, cells := 0, slots := 0, locals := 0 } : Room)) (fun a U => a = #[(.long qx), (.long qy)] ∧ Z.Warmed39 U.vm ∧ U.heap = h0) (fun _ _ _ _ _ => True) (fun _ U o U' => ∃ v L, o = .returned v ∧ own_Q1 qx qy h0 n0 v U'.heap L ∧ FrameEnd U o U' L ({ frames := 0, cells := 0, slots := 0, locals := 0 } : Room).cells ({ frames := 0, cells := 0, slots := 0, locals := 0 } : Room).slots) := by
  refine MetFree.of_bodySF (Jvm.Free.JP.mathPlain rfl (by decide +kernel)) hisR ?_
  intro p e s m args below meth c s₁ Bd hml0 hP hK
  obtain ⟨rfl, hZ, hh⟩ := hP
  have hx := Bd.exec
  have hby := Bd.bytes
  have hml : c.maxLocals = 4 := hml0
  have hown : s.vm.findClass "java/lang/Math" = some m.cls := findClass_of_methodNamed Bd.named
  have hnm := (name_of_methodNamed Bd.named Bd.method).1
  have X0 : Stand p l e ({ frames := 0, cells := 0, slots := 0, locals := 0 } : Room) s m #[(.long qx), (.long qy)] below meth c s₁ [] 0 0 := Stand.of_body Bd
  have e0 : s₁.heap = h0 := by rw [← hh, Bd.state]; rfl
  have N0 := Fr.nil n0
  refine own_pre (A := (s₁.setTop (mkF m 0 #[.val (.long qx), .second, .val (.long qy), .second] []))) (fun t k => castTop (own_ef1 m qx qy) k) ?_
  refine own_pre (A := (s₁.setTop (mkF m 3 #[.val (.long qx), .second, .val (.long qy), .second] [(.int (lcmpW qx qy))]))) ?_ ?_
  · intro t k
    show Steps p.tables e below (s₁.setTop (mkF m 0 #[.val (.long qx), .second, .val (.long qy), .second] [])) _
    refine XS.lloadN X0.here hx rfl (hb hby d1_0) rfl ?_
    show Steps p.tables e below (s₁.setTop (mkF m 1 #[.val (.long qx), .second, .val (.long qy), .second] [(.long qx)])) _
    refine XS.lloadN X0.here hx rfl (hb hby d1_1) rfl ?_
    show Steps p.tables e below (s₁.setTop (mkF m 2 #[.val (.long qx), .second, .val (.long qy), .second] [(.long qy), (.long qx)])) _
    refine XS.lcmp X0.here hx rfl (hb hby d1_2) rfl ?_
    exact k
  by_cases hc1 : qy < qx
  · skip
    refine own_pre (A := (s₁.setTop (mkF m 10 #[.val (.long qx), .second, .val (.long qy), .second] []))) ?_ ?_
    · intro t k
      refine XS.ifYes X0.here hx rfl (pc0 := 3) (pc' := 10) rfl (hb hby d1_3) rfl ((if0 _ _).trans (tlt ((lw_gt qx qy).mpr hc1)).2.2.1) (by decide) (by decide) ?_
      exact k
    refine own_pre (A := (s₁.setTop (mkF m 11 #[.val (.long qx), .second, .val (.long qy), .second] [(.long qy)]))) ?_ ?_
    · intro t k
      show Steps p.tables e below (s₁.setTop (mkF m 10 #[.val (.long qx), .second, .val (.long qy), .second] [])) _
      refine XS.lloadN X0.here hx rfl (hb hby d1_10) rfl ?_
      exact k
    have hz : own_min qx qy = qy := by simp only [own_min, if_pos hc1]
    obtain ⟨fs, hr, hrun, hended, hW, hsame⟩ := X0.leave (hlocks := BodyLoose.notSynchronized Bd) (v := some (.long qy)) (fun h => by rw [Bd.returns] at h; cases h)
    refine ⟨_, _, retOut X0 hx Bd.returns rfl (Or.inr (Or.inl ⟨rfl, rfl, _, rfl⟩)) (hb hby d1_11) hr, hrun, hended, _, _, rfl, ?_, ⟨_, rfl⟩, hW, hsame.mono (by decide) (by decide)⟩
    show own_Q1 qx qy h0 n0 _ s₁.heap _
    rw [e0]
    exact ⟨by rw [hz], N0, rfl⟩
  · skip
    refine own_pre (A := (s₁.setTop (mkF m 6 #[.val (.long qx), .second, .val (.long qy), .second] []))) ?_ ?_
    · intro t k
      refine XS.ifNo X0.here hx rfl (hb hby d1_3) rfl ((if0 _ _).trans (flt (fun q => hc1 ((lw_gt qx qy).mp q))).2.2.1) ?_
      exact k
    refine own_pre (A := (s₁.setTop (mkF m 11 #[.val (.long qx), .second, .val (.long qy), .second] [(.long qx)]))) ?_ ?_
    · intro t k
      show Steps p.tables e below (s₁.setTop (mkF m 6 #[.val (.long qx), .second, .val (.long qy), .second] [])) _
      refine XS.lloadN X0.here hx rfl (hb hby d1_6) rfl ?_
      show Steps p.tables e below (s₁.setTop (mkF m 7 #[.val (.long qx), .second, .val (.long qy), .second] [(.long qx)])) _
      refine XS.goto X0.here hx rfl (pc0 := 7) (pc' := 11) rfl (hb hby d1_7) (by decide) (by decide) ?_
      exact k
    have hz : own_min qx qy = qx := by simp only [own_min, if_neg hc1]
    obtain ⟨fs, hr, hrun, hended, hW, hsame⟩ := X0.leave (hlocks := BodyLoose.notSynchronized Bd) (v := some (.long qx)) (fun h => by rw [Bd.returns] at h; cases h)
    refine ⟨_, _, retOut X0 hx Bd.returns rfl (Or.inr (Or.inl ⟨rfl, rfl, _, rfl⟩)) (hb hby d1_11) hr, hrun, hended, _, _, rfl, ?_, ⟨_, rfl⟩, hW, hsame.mono (by decide) (by decide)⟩
    show own_Q1 qx qy h0 n0 _ s₁.heap _
    rw [e0]
    exact ⟨by rw [hz], N0, rfl⟩
theorem d2_0 : decode jdk_29_method_66_code 0 = .ok (.lload_n 0, 1) := by decide +kernel
theorem d2_1 : decode jdk_29_method_66_code 1 = .ok (.lload_n 2, 1) := by decide +kernel
theorem d2_2 : decode jdk_29_method_66_code 2 = .ok (.lcmp, 1) := by decide +kernel
theorem d2_3 : decode jdk_29_method_66_code 3 = .ok (.ifCond .lt 7, 3) := by decide +kernel
theorem d2_6 : decode jdk_29_method_66_code 6 = .ok (.lload_n 0, 1) := by decide +kernel
theorem d2_7 : decode jdk_29_method_66_code 7 = .ok (.goto 4, 3) := by decide +kernel
theorem d2_10 : decode jdk_29_method_66_code 10 = .ok (.lload_n 2, 1) := by decide +kernel
theorem d2_11 : decode jdk_29_method_66_code 11 = .ok (.lreturn, 1) := by decide +kernel
theorem own_ef2 (m : MethodId) (x0 : Int64) (x1 : Int64) : entryFrame m #[(.long x0), (.long x1)] 4 = mkF m 0 #[.val (.long x0), .second, .val (.long x1), .second] [] := by first | (simp [entryFrame, mkF, argsToLocals, Value.category]; done) | rfl
def own_max (qx : Int64) (qy : Int64) : Int64 := (if qx < qy then qy else qx)
def own_Q2 (qx : Int64) (qy : Int64) (h0 : Heap) (n0 : Nat) (v : Option Value) (h : Heap) (L : List Loc) : Prop := v = some (.long (own_max qx qy)) ∧ Fr n0 L ∧ h = h0
set_option maxRecDepth 65536 in
set_option maxHeartbeats 40000000 in
theorem rm2 (l : Launch) (Z : State) (a0 : Array Value) (hw : ∀ d ∈ tables_1, d.before a0 Z = true) (ws : List Jvm.Cond) (qx : Int64) (qy : Int64) (h0 : Heap) (n0 : Nat) (Z0 : n0 ≤ h0.size) :
    MetFree l (⟨"java/lang/Math", "max", "(JJ)J"⟩ : MethodName) (head1 (Jvm.Cond.code (⟨"java/lang/Math", "max", "(JJ)J"⟩ : MethodName) jdk_29_method_66_code 4 (some .long) :: ws) ({ frames := 0, cells := 0, slots := 0, locals := 0 } : Room)) (fun a U => a = #[(.long qx), (.long qy)] ∧ Z.Warmed39 U.vm ∧ U.heap = h0) (fun _ _ _ _ _ => True) (fun _ U o U' => ∃ v L, o = .returned v ∧ own_Q2 qx qy h0 n0 v U'.heap L ∧ FrameEnd U o U' L ({ frames := 0, cells := 0, slots := 0, locals := 0 } : Room).cells ({ frames := 0, cells := 0, slots := 0, locals := 0 } : Room).slots) := by
  refine MetFree.of_bodySF (Jvm.Free.JP.mathPlain rfl (by decide +kernel)) hisR ?_
  intro p e s m args below meth c s₁ Bd hml0 hP hK
  obtain ⟨rfl, hZ, hh⟩ := hP
  have hx := Bd.exec
  have hby := Bd.bytes
  have hml : c.maxLocals = 4 := hml0
  have hown : s.vm.findClass "java/lang/Math" = some m.cls := findClass_of_methodNamed Bd.named
  have hnm := (name_of_methodNamed Bd.named Bd.method).1
  have X0 : Stand p l e ({ frames := 0, cells := 0, slots := 0, locals := 0 } : Room) s m #[(.long qx), (.long qy)] below meth c s₁ [] 0 0 := Stand.of_body Bd
  have e0 : s₁.heap = h0 := by rw [← hh, Bd.state]; rfl
  have N0 := Fr.nil n0
  refine own_pre (A := (s₁.setTop (mkF m 0 #[.val (.long qx), .second, .val (.long qy), .second] []))) (fun t k => castTop (own_ef2 m qx qy) k) ?_
  refine own_pre (A := (s₁.setTop (mkF m 3 #[.val (.long qx), .second, .val (.long qy), .second] [(.int (lcmpW qx qy))]))) ?_ ?_
  · intro t k
    show Steps p.tables e below (s₁.setTop (mkF m 0 #[.val (.long qx), .second, .val (.long qy), .second] [])) _
    refine XS.lloadN X0.here hx rfl (hb hby d2_0) rfl ?_
    show Steps p.tables e below (s₁.setTop (mkF m 1 #[.val (.long qx), .second, .val (.long qy), .second] [(.long qx)])) _
    refine XS.lloadN X0.here hx rfl (hb hby d2_1) rfl ?_
    show Steps p.tables e below (s₁.setTop (mkF m 2 #[.val (.long qx), .second, .val (.long qy), .second] [(.long qy), (.long qx)])) _
    refine XS.lcmp X0.here hx rfl (hb hby d2_2) rfl ?_
    exact k
  by_cases hc2 : qx < qy
  · skip
    refine own_pre (A := (s₁.setTop (mkF m 10 #[.val (.long qx), .second, .val (.long qy), .second] []))) ?_ ?_
    · intro t k
      refine XS.ifYes X0.here hx rfl (pc0 := 3) (pc' := 10) rfl (hb hby d2_3) rfl ((if0 _ _).trans (tlt ((lw_lt qx qy).mpr hc2)).1) (by decide) (by decide) ?_
      exact k
    refine own_pre (A := (s₁.setTop (mkF m 11 #[.val (.long qx), .second, .val (.long qy), .second] [(.long qy)]))) ?_ ?_
    · intro t k
      show Steps p.tables e below (s₁.setTop (mkF m 10 #[.val (.long qx), .second, .val (.long qy), .second] [])) _
      refine XS.lloadN X0.here hx rfl (hb hby d2_10) rfl ?_
      exact k
    have hz : own_max qx qy = qy := by simp only [own_max, if_pos hc2]
    obtain ⟨fs, hr, hrun, hended, hW, hsame⟩ := X0.leave (hlocks := BodyLoose.notSynchronized Bd) (v := some (.long qy)) (fun h => by rw [Bd.returns] at h; cases h)
    refine ⟨_, _, retOut X0 hx Bd.returns rfl (Or.inr (Or.inl ⟨rfl, rfl, _, rfl⟩)) (hb hby d2_11) hr, hrun, hended, _, _, rfl, ?_, ⟨_, rfl⟩, hW, hsame.mono (by decide) (by decide)⟩
    show own_Q2 qx qy h0 n0 _ s₁.heap _
    rw [e0]
    exact ⟨by rw [hz], N0, rfl⟩
  · skip
    refine own_pre (A := (s₁.setTop (mkF m 6 #[.val (.long qx), .second, .val (.long qy), .second] []))) ?_ ?_
    · intro t k
      refine XS.ifNo X0.here hx rfl (hb hby d2_3) rfl ((if0 _ _).trans (flt (fun q => hc2 ((lw_lt qx qy).mp q))).1) ?_
      exact k
    refine own_pre (A := (s₁.setTop (mkF m 11 #[.val (.long qx), .second, .val (.long qy), .second] [(.long qx)]))) ?_ ?_
    · intro t k
      show Steps p.tables e below (s₁.setTop (mkF m 6 #[.val (.long qx), .second, .val (.long qy), .second] [])) _
      refine XS.lloadN X0.here hx rfl (hb hby d2_6) rfl ?_
      show Steps p.tables e below (s₁.setTop (mkF m 7 #[.val (.long qx), .second, .val (.long qy), .second] [(.long qx)])) _
      refine XS.goto X0.here hx rfl (pc0 := 7) (pc' := 11) rfl (hb hby d2_7) (by decide) (by decide) ?_
      exact k
    have hz : own_max qx qy = qx := by simp only [own_max, if_neg hc2]
    obtain ⟨fs, hr, hrun, hended, hW, hsame⟩ := X0.leave (hlocks := BodyLoose.notSynchronized Bd) (v := some (.long qx)) (fun h => by rw [Bd.returns] at h; cases h)
    refine ⟨_, _, retOut X0 hx Bd.returns rfl (Or.inr (Or.inl ⟨rfl, rfl, _, rfl⟩)) (hb hby d2_11) hr, hrun, hended, _, _, rfl, ?_, ⟨_, rfl⟩, hW, hsame.mono (by decide) (by decide)⟩
    show own_Q2 qx qy h0 n0 _ s₁.heap _
    rw [e0]
    exact ⟨by rw [hz], N0, rfl⟩
theorem d4_0 : decode jdk_30_method_1_code 0 = .ok (.aload_n 0, 1) := by decide +kernel
theorem d4_1 : decode jdk_30_method_1_code 1 = .ok (.invokespecial 1, 3) := by decide +kernel
theorem d4_4 : decode jdk_30_method_1_code 4 = .ok (.return_, 1) := by decide +kernel
theorem own_pn4 : plainName "java/lang/Record" = true := by first | (simp [plainName, overriddenIn]; done) | decide +kernel
theorem own_ef4 (m : MethodId) (x0 : Addr) : entryFrame m #[(.ref x0)] 1 = mkF m 0 #[.val (.ref x0)] [] := by first | (simp [entryFrame, mkF, argsToLocals, Value.category]; done) | rfl
def own_Q4 (Z : State) (ax : Addr) (h0 : Heap) (n0 : Nat) (v : Option Value) (h : Heap) (L : List Loc) : Prop := v = none ∧ Fr n0 L ∧ h = h0
set_option maxRecDepth 65536 in
set_option maxHeartbeats 40000000 in
theorem rm4 (l : Launch) (Z : State) (a0 : Array Value) (hw : ∀ d ∈ tables_1, d.before a0 Z = true) (ws : List Jvm.Cond) (ax : Addr) (h0 : Heap) (n0 : Nat) (Z0 : n0 ≤ h0.size) :
    MetFree l (⟨"java/lang/Record", "<init>", "()V"⟩ : MethodName) (head1 (Jvm.Cond.code (⟨"java/lang/Record", "<init>", "()V"⟩ : MethodName) jdk_30_method_1_code 1 none :: ws) ({ frames := 1, cells := 0, slots := 0, locals := 12 } : Room)) (fun a U => a = #[(.ref ax)] ∧ Z.Warmed39 U.vm ∧ U.heap = h0) (fun _ _ _ _ _ => True) (fun _ U o U' => ∃ v L, o = .returned v ∧ own_Q4 Z ax h0 n0 v U'.heap L ∧ FrameEnd U o U' L ({ frames := 1, cells := 0, slots := 0, locals := 12 } : Room).cells ({ frames := 1, cells := 0, slots := 0, locals := 12 } : Room).slots) := by
  refine MetFree.of_bodySF (plainFor_of_name own_pn4) hisR ?_
  intro p e s m args below meth c s₁ Bd hml0 hP hK
  obtain ⟨rfl, hZ, hh⟩ := hP
  have hx := Bd.exec
  have hby := Bd.bytes
  have hml : c.maxLocals = 1 := hml0
  have hown : s.vm.findClass "java/lang/Record" = some m.cls := findClass_of_methodNamed Bd.named
  have hnm := (name_of_methodNamed Bd.named Bd.method).1
  have X0 : Stand p l e ({ frames := 1, cells := 0, slots := 0, locals := 12 } : Room) s m #[(.ref ax)] below meth c s₁ [] 0 0 := Stand.of_body Bd
  have e0 : s₁.heap = h0 := by rw [← hh, Bd.state]; rfl
  have N0 := Fr.nil n0
  refine own_pre (A := (s₁.setTop (mkF m 0 #[.val (.ref ax)] []))) (fun t k => castTop (own_ef4 m ax) k) ?_
  refine own_pre (A := (s₁.setTop (mkF m 1 #[.val (.ref ax)] [(.ref ax)]))) ?_ ?_
  · intro t k
    show Steps p.tables e below (s₁.setTop (mkF m 0 #[.val (.ref ax)] [])) _
    refine XS.aloadN X0.here hx rfl (hb hby d4_0) rfl rfl ?_
    exact k
  obtain ⟨T3, X3, e3, st3⟩ := initO X0 hx hZ hown (own_w hw 19 rfl) (own_w hw 20 rfl) (own_w hw 21 rfl) e0 (g := (mkF m 1 #[.val (.ref ax)] [(.ref ax)])) rfl (by rw [hml]; rfl) rfl (hb hby d4_1) (by decide) (W := 0) (by show 2 * 0 + _ ≤ _; exact Nat.le_of_eq rfl) (by decide)
  refine own_pre (fun t k => st3 t k) ?_
  obtain ⟨fs, hr, hrun, hended, hW, hsame⟩ := X3.leave (hlocks := BodyLoose.notSynchronized Bd) (v := none) (fun _ => rfl)
  refine ⟨_, _, X3.returnOut hx Bd.returns (hb hby d4_4) hr, hrun, hended, _, _, rfl, ?_, ⟨_, rfl⟩, hW, hsame.mono (by decide) (by decide)⟩
  show own_Q4 Z ax h0 n0 _ T3.heap _
  rw [e3]
  exact ⟨rfl, N0, rfl⟩
theorem d3_0 : decode prog_38_method_1_code 0 = .ok (.aload_n 0, 1) := by decide +kernel
theorem d3_1 : decode prog_38_method_1_code 1 = .ok (.invokespecial 1, 3) := by decide +kernel
theorem d3_4 : decode prog_38_method_1_code 4 = .ok (.lload_n 1, 1) := by decide +kernel
theorem d3_5 : decode prog_38_method_1_code 5 = .ok (.lconst 0, 1) := by decide +kernel
theorem d3_6 : decode prog_38_method_1_code 6 = .ok (.lcmp, 1) := by decide +kernel
theorem d3_7 : decode prog_38_method_1_code 7 = .ok (.ifCond .ge 21, 3) := by decide +kernel
theorem d3_28 : decode prog_38_method_1_code 28 = .ok (.lload_n 3, 1) := by decide +kernel
theorem d3_29 : decode prog_38_method_1_code 29 = .ok (.lload_n 1, 1) := by decide +kernel
theorem d3_30 : decode prog_38_method_1_code 30 = .ok (.lcmp, 1) := by decide +kernel
theorem d3_31 : decode prog_38_method_1_code 31 = .ok (.ifCond .ge 21, 3) := by decide +kernel
theorem d3_52 : decode prog_38_method_1_code 52 = .ok (.aload_n 0, 1) := by decide +kernel
theorem d3_53 : decode prog_38_method_1_code 53 = .ok (.lload_n 1, 1) := by decide +kernel
theorem d3_54 : decode prog_38_method_1_code 54 = .ok (.putfield 23, 3) := by decide +kernel
theorem d3_57 : decode prog_38_method_1_code 57 = .ok (.aload_n 0, 1) := by decide +kernel
theorem d3_58 : decode prog_38_method_1_code 58 = .ok (.lload_n 3, 1) := by decide +kernel
theorem d3_59 : decode prog_38_method_1_code 59 = .ok (.putfield 27, 3) := by decide +kernel
theorem d3_62 : decode prog_38_method_1_code 62 = .ok (.return_, 1) := by decide +kernel
theorem own_pn3 : plainName "com/example/terq/terq/core/Period" = true := by first | (simp [plainName, overriddenIn]; done) | decide +kernel
theorem own_ef3 (m : MethodId) (x0 : Addr) (x1 : Int64) (x2 : Int64) : entryFrame m #[(.ref x0), (.long x1), (.long x2)] 5 = mkF m 0 #[.val (.ref x0), .val (.long x1), .second, .val (.long x2), .second] [] := by first | (simp [entryFrame, mkF, argsToLocals, Value.category]; done) | rfl
def own_Q3 (Z : State) (ax : Addr) (qs : Int64) (qe : Int64) (us : Int64) (ue : Int64) (h0 : Heap) (n0 : Nat) (v : Option Value) (h : Heap) (L : List Loc) : Prop := v = none ∧ Fr n0 L ∧ Keep h0 h [ax] ∧ Fld Z h ax "com/example/terq/terq/core/Period" "start" "J" (.long qs) ∧ Fld Z h ax "com/example/terq/terq/core/Period" "end" "J" (.long qe)
set_option maxRecDepth 65536 in
set_option maxHeartbeats 40000000 in
theorem rm3 (l : Launch) (Z : State) (a0 : Array Value) (hw : ∀ d ∈ tables_1, d.before a0 Z = true) (ws : List Jvm.Cond) (ax : Addr) (qs : Int64) (qe : Int64) (us : Int64) (ue : Int64) (h0 : Heap) (n0 : Nat) (Z0 : n0 ≤ h0.size) (Ea : Exa Z h0 ax "com/example/terq/terq/core/Period") (Fstart : Fld Z h0 ax "com/example/terq/terq/core/Period" "start" "J" (.long us)) (Fend : Fld Z h0 ax "com/example/terq/terq/core/Period" "end" "J" (.long ue)) (ga : n0 ≤ ax) (hs : ¬ qs < (0 : Int64)) (he : ¬ qe < qs) :
    MetFree l (⟨"com/example/terq/terq/core/Period", "<init>", "(JJ)V"⟩ : MethodName) (head1 (Jvm.Cond.code (⟨"com/example/terq/terq/core/Period", "<init>", "(JJ)V"⟩ : MethodName) prog_38_method_1_code 5 none :: ws) ({ frames := 2, cells := 0, slots := 0, locals := 24 } : Room)) (fun a U => a = #[(.ref ax), (.long qs), (.long qe)] ∧ Z.Warmed39 U.vm ∧ U.heap = h0) (fun _ _ _ _ _ => True) (fun _ U o U' => ∃ v L, o = .returned v ∧ own_Q3 Z ax qs qe us ue h0 n0 v U'.heap L ∧ FrameEnd U o U' L ({ frames := 2, cells := 0, slots := 0, locals := 24 } : Room).cells ({ frames := 2, cells := 0, slots := 0, locals := 24 } : Room).slots) := by
  refine MetFree.of_bodySF (plainFor_of_name own_pn3) hisR ?_
  intro p e s m args below meth c s₁ Bd hml0 hP hK
  obtain ⟨rfl, hZ, hh⟩ := hP
  have hx := Bd.exec
  have hby := Bd.bytes
  have hml : c.maxLocals = 5 := hml0
  have hown : s.vm.findClass "com/example/terq/terq/core/Period" = some m.cls := findClass_of_methodNamed Bd.named
  have hnm := (name_of_methodNamed Bd.named Bd.method).1
  have X0 : Stand p l e ({ frames := 2, cells := 0, slots := 0, locals := 24 } : Room) s m #[(.ref ax), (.long qs), (.long qe)] below meth c s₁ [] 0 0 := Stand.of_body Bd
  have e0 : s₁.heap = h0 := by rw [← hh, Bd.state]; rfl
  have N0 := Fr.nil n0
  refine own_pre (A := (s₁.setTop (mkF m 0 #[.val (.ref ax), .val (.long qs), .second, .val (.long qe), .second] []))) (fun t k => castTop (own_ef3 m ax qs qe) k) ?_
  refine own_pre (A := (s₁.setTop (mkF m 1 #[.val (.ref ax), .val (.long qs), .second, .val (.long qe), .second] [(.ref ax)]))) ?_ ?_
  · intro t k
    show Steps p.tables e below (s₁.setTop (mkF m 0 #[.val (.ref ax), .val (.long qs), .second, .val (.long qe), .second] [])) _
    refine XS.aloadN X0.here hx rfl (hb hby d3_0) rfl rfl ?_
    exact k
  obtain ⟨_, _, ⟨T4, L4, k4, n4⟩, -, X4, ⟨Lc4, hQ4, l4, y4, z4⟩, st4⟩ := X0.specialBack hx (y := (⟨"java/lang/Record", "<init>", "()V"⟩ : MethodName)) rfl hown (mvT hZ (own_w hw 14 rfl)) (mvT hZ (own_w hw 15 rfl)) (mvT hZ (own_w hw 18 rfl)) (by decide) (backOf (W := 0) (rm4 l Z a0 hw [] ax h0 n0 Z0 ) hZ (own_w hw 18 rfl) (own_w hw 17 rfl) (by decide) (by decide)) (g := (mkF m 1 #[.val (.ref ax), .val (.long qs), .second, .val (.long qe), .second] [(.ref ax)])) rfl (by rw [hml]; rfl) (Steps.refl _) (a := ax) (argsL := []) (rest := []) (lenOf own_pd0 rfl) rfl (by show 2 * 0 + _ ≤ _; exact Nat.le_of_eq rfl) (hb hby d3_1) (fun _ _ => ⟨rfl, e0, (by decide : 0 + 0 ≤ _), (by decide : 0 + 0 ≤ _)⟩)
  dsimp only [Pt.U, Pt.locs, Pt.cells, Pt.slots] at X4 l4 y4 z4 st4 hQ4
  subst l4 y4 z4
  obtain ⟨rfl, Nq4, eq4⟩ := hQ4
  have N4 := Fr.app N0 Nq4
  refine own_pre (fun t k => st4.trans k) ?_
  refine own_pre (A := (T4.setTop (mkF m 54 #[.val (.ref ax), .val (.long qs), .second, .val (.long qe), .second] [(.long qs), (.ref ax)]))) ?_ ?_
  · intro t k
    show Steps p.tables e below (T4.setTop (mkF m 4 #[.val (.ref ax), .val (.long qs), .second, .val (.long qe), .second] [])) _
    refine XS.lloadN X4.here hx rfl (hb hby d3_4) rfl ?_
    show Steps p.tables e below (T4.setTop (mkF m 5 #[.val (.ref ax), .val (.long qs), .second, .val (.long qe), .second] [(.long qs)])) _
    refine XS.lconst X4.here hx rfl (hb hby d3_5) ?_
    show Steps p.tables e below (T4.setTop (mkF m 6 #[.val (.ref ax), .val (.long qs), .second, .val (.long qe), .second] [(.long (0 : Int64)), (.long qs)])) _
    refine XS.lcmp X4.here hx rfl (hb hby d3_6) rfl ?_
    show Steps p.tables e below (T4.setTop (mkF m 7 #[.val (.ref ax), .val (.long qs), .second, .val (.long qe), .second] [(.int (lcmpW qs (0 : Int64)))])) _
    refine XS.ifYes X4.here hx rfl (pc0 := 7) (pc' := 28) rfl (hb hby d3_7) rfl ((if0 _ _).trans (flt (fun q => hs ((lw_lt qs (0 : Int64)).mp q))).2.1) (by decide) (by decide) ?_
    show Steps p.tables e below (T4.setTop (mkF m 28 #[.val (.ref ax), .val (.long qs), .second, .val (.long qe), .second] [])) _
    refine XS.lloadN X4.here hx rfl (hb hby d3_28) rfl ?_
    show Steps p.tables e below (T4.setTop (mkF m 29 #[.val (.ref ax), .val (.long qs), .second, .val (.long qe), .second] [(.long qe)])) _
    refine XS.lloadN X4.here hx rfl (hb hby d3_29) rfl ?_
    show Steps p.tables e below (T4.setTop (mkF m 30 #[.val (.ref ax), .val (.long qs), .second, .val (.long qe), .second] [(.long qs), (.long qe)])) _
    refine XS.lcmp X4.here hx rfl (hb hby d3_30) rfl ?_
    show Steps p.tables e below (T4.setTop (mkF m 31 #[.val (.ref ax), .val (.long qs), .second, .val (.long qe), .second] [(.int (lcmpW qe qs))])) _
    refine XS.ifYes X4.here hx rfl (pc0 := 31) (pc' := 52) rfl (hb hby d3_31) rfl ((if0 _ _).trans (flt (fun q => he ((lw_lt qe qs).mp q))).2.1) (by decide) (by decide) ?_
    show Steps p.tables e below (T4.setTop (mkF m 52 #[.val (.ref ax), .val (.long qs), .second, .val (.long qe), .second] [])) _
    refine XS.aloadN X4.here hx rfl (hb hby d3_52) rfl rfl ?_
    show Steps p.tables e below (T4.setTop (mkF m 53 #[.val (.ref ax), .val (.long qs), .second, .val (.long qe), .second] [(.ref ax)])) _
    refine XS.lloadN X4.here hx rfl (hb hby d3_53) rfl ?_
    exact k
  obtain ⟨T5, h5, X5, e5, W5, st5⟩ := putF X4 hx hZ hown (host := "") (Or.inl (own_w hw 22 rfl)) Via.refl eq4 Fstart Ea (Or.inr ⟨(own_w hw 23 rfl), rfl, hnm⟩) (own_w hw 9 rfl) (ty := .long) (by decide) rfl rfl (g := (mkF m 54 #[.val (.ref ax), .val (.long qs), .second, .val (.long qe), .second] [(.long qs), (.ref ax)])) rfl rfl (hb hby d3_54)
  have Ea_5 := Ea.wr W5
  have Fend_5 := Fend.other W5 (Or.inr (slot_ne (Or.inr (own_w hw 25 rfl)) (Or.inr (own_w hw 23 rfl)) (by decide) (t := .long) (t' := .long) (by decide) (by decide)))
  have Kc5 : Keep h0 h5 [ax] := (Keep.refl h0 [ax]).wr W5 (Or.inl (List.mem_of_getElem? (i := 0) rfl))
  have N5 := Fr.snoc X5 N4 ga
  have Fw5 := Fstart.same W5
  refine own_pre (fun t k => st5 t k) ?_
  refine own_pre (A := (T5.setTop (mkF m 59 #[.val (.ref ax), .val (.long qs), .second, .val (.long qe), .second] [(.long qe), (.ref ax)]))) ?_ ?_
  · intro t k
    show Steps p.tables e below (T5.setTop (mkF m 57 #[.val (.ref ax), .val (.long qs), .second, .val (.long qe), .second] [])) _
    refine XS.aloadN X5.here hx rfl (hb hby d3_57) rfl rfl ?_
    show Steps p.tables e below (T5.setTop (mkF m 58 #[.val (.ref ax), .val (.long qs), .second, .val (.long qe), .second] [(.ref ax)])) _
    refine XS.lloadN X5.here hx rfl (hb hby d3_58) rfl ?_
    exact k
  obtain ⟨T6, h6, X6, e6, W6, st6⟩ := putF X5 hx hZ hown (host := "") (Or.inl (own_w hw 24 rfl)) Via.refl e5 Fend_5 Ea_5 (Or.inr ⟨(own_w hw 25 rfl), rfl, hnm⟩) (own_w hw 9 rfl) (ty := .long) (by decide) rfl rfl (g := (mkF m 59 #[.val (.ref ax), .val (.long qs), .second, .val (.long qe), .second] [(.long qe), (.ref ax)])) rfl rfl (hb hby d3_59)
  have Fw5_6 := Fw5.other W6 (Or.inr (slot_ne (Or.inr (own_w hw 23 rfl)) (Or.inr (own_w hw 25 rfl)) (by decide) (t := .long) (t' := .long) (by decide) (by decide)))
  have Kc6 : Keep h0 h6 [ax] := Kc5.wr W6 (Or.inl (List.mem_of_getElem? (i := 0) rfl))
  have N6 := Fr.snoc X6 N5 ga
  have Fw6 := Fend_5.same W6
  refine own_pre (fun t k => st6 t k) ?_
  obtain ⟨fs, hr, hrun, hended, hW, hsame⟩ := X6.leave (hlocks := BodyLoose.notSynchronized Bd) (v := none) (fun _ => rfl)
  refine ⟨_, _, X6.returnOut hx Bd.returns (hb hby d3_62) hr, hrun, hended, _, _, rfl, ?_, ⟨_, rfl⟩, hW, hsame.mono (by decide) (by decide)⟩
  show own_Q3 Z ax qs qe us ue h0 n0 _ T6.heap _
  rw [e6]
  exact ⟨rfl, N6, Kc6, Fw5_6, Fw6⟩
theorem d6_0 : decode prog_38_method_3_code 0 = .ok (.aload_n 0, 1) := by decide +kernel
theorem d6_1 : decode prog_38_method_3_code 1 = .ok (.getfield 23, 3) := by decide +kernel
theorem d6_4 : decode prog_38_method_3_code 4 = .ok (.lload_n 1, 1) := by decide +kernel
theorem d6_5 : decode prog_38_method_3_code 5 = .ok (.lcmp, 1) := by decide +kernel
theorem d6_6 : decode prog_38_method_3_code 6 = .ok (.ifCond .gt 16, 3) := by decide +kernel
theorem d6_9 : decode prog_38_method_3_code 9 = .ok (.lload_n 1, 1) := by decide +kernel
theorem d6_10 : decode prog_38_method_3_code 10 = .ok (.aload_n 0, 1) := by decide +kernel
theorem d6_11 : decode prog_38_method_3_code 11 = .ok (.getfield 27, 3) := by decide +kernel
theorem d6_14 : decode prog_38_method_3_code 14 = .ok (.lcmp, 1) := by decide +kernel
theorem d6_15 : decode prog_38_method_3_code 15 = .ok (.ifCond .gt 7, 3) := by decide +kernel
theorem d6_18 : decode prog_38_method_3_code 18 = .ok (.iconst 1, 1) := by decide +kernel
theorem d6_19 : decode prog_38_method_3_code 19 = .ok (.goto 4, 3) := by decide +kernel
theorem d6_22 : decode prog_38_method_3_code 22 = .ok (.iconst 0, 1) := by decide +kernel
theorem d6_23 : decode prog_38_method_3_code 23 = .ok (.ireturn, 1) := by decide +kernel
theorem own_pn6 : plainName "com/example/terq/terq/core/Period" = true := by first | (simp [plainName, overriddenIn]; done) | decide +kernel
theorem own_ef6 (m : MethodId) (x0 : Addr) (x1 : Int64) : entryFrame m #[(.ref x0), (.long x1)] 3 = mkF m 0 #[.val (.ref x0), .val (.long x1), .second] [] := by first | (simp [entryFrame, mkF, argsToLocals, Value.category]; done) | rfl
def own_cont (qp : Int64) (qs : Int64) (qe : Int64) : Int32 := (if qp < qs then (0 : Int32) else (if qe < qp then (0 : Int32) else (1 : Int32)))
def own_Q6 (Z : State) (ax : Addr) (qp : Int64) (qs : Int64) (qe : Int64) (h0 : Heap) (n0 : Nat) (v : Option Value) (h : Heap) (L : List Loc) : Prop := v = some (.int (own_cont qp qs qe)) ∧ Fr n0 L ∧ h = h0
set_option maxRecDepth 65536 in
set_option maxHeartbeats 40000000 in
theorem rm6 (l : Launch) (Z : State) (a0 : Array Value) (hw : ∀ d ∈ tables_1, d.before a0 Z = true) (ws : List Jvm.Cond) (ax : Addr) (qp : Int64) (qs : Int64) (qe : Int64) (h0 : Heap) (n0 : Nat) (Z0 : n0 ≤ h0.size) (Fstart : Fld Z h0 ax "com/example/terq/terq/core/Period" "start" "J" (.long qs)) (Fend : Fld Z h0 ax "com/example/terq/terq/core/Period" "end" "J" (.long qe)) :
    MetFree l (⟨"com/example/terq/terq/core/Period", "contains", "(J)Z"⟩ : MethodName) (head1 (Jvm.Cond.code (⟨"com/example/terq/terq/core/Period", "contains", "(J)Z"⟩ : MethodName) prog_38_method_3_code 3 (some .boolean) :: ws) ({ frames := 0, cells := 0, slots := 0, locals := 0 } : Room)) (fun a U => a = #[(.ref ax), (.long qp)] ∧ Z.Warmed39 U.vm ∧ U.heap = h0) (fun _ _ _ _ _ => True) (fun _ U o U' => ∃ v L, o = .returned v ∧ own_Q6 Z ax qp qs qe h0 n0 v U'.heap L ∧ FrameEnd U o U' L ({ frames := 0, cells := 0, slots := 0, locals := 0 } : Room).cells ({ frames := 0, cells := 0, slots := 0, locals := 0 } : Room).slots) := by
  refine MetFree.of_bodySF (plainFor_of_name own_pn6) hisR ?_
  intro p e s m args below meth c s₁ Bd hml0 hP hK
  obtain ⟨rfl, hZ, hh⟩ := hP
  have hx := Bd.exec
  have hby := Bd.bytes
  have hml : c.maxLocals = 3 := hml0
  have hown : s.vm.findClass "com/example/terq/terq/core/Period" = some m.cls := findClass_of_methodNamed Bd.named
  have hnm := (name_of_methodNamed Bd.named Bd.method).1
  have X0 : Stand p l e ({ frames := 0, cells := 0, slots := 0, locals := 0 } : Room) s m #[(.ref ax), (.long qp)] below meth c s₁ [] 0 0 := Stand.of_body Bd
  have e0 : s₁.heap = h0 := by rw [← hh, Bd.state]; rfl
  have N0 := Fr.nil n0
  refine own_pre (A := (s₁.setTop (mkF m 0 #[.val (.ref ax), .val (.long qp), .second] []))) (fun t k => castTop (own_ef6 m ax qp) k) ?_
  refine own_pre (A := (s₁.setTop (mkF m 1 #[.val (.ref ax), .val (.long qp), .second] [(.ref ax)]))) ?_ ?_
  · intro t k
    show Steps p.tables e below (s₁.setTop (mkF m 0 #[.val (.ref ax), .val (.long qp), .second] [])) _
    refine XS.aloadN X0.here hx rfl (hb hby d6_0) rfl rfl ?_
    exact k
  obtain ⟨T7, X7, e7, st7⟩ := getF X0 hx hZ hown (host := "") (Or.inl (own_w hw 22 rfl)) Via.refl e0 Fstart (g := (mkF m 1 #[.val (.ref ax), .val (.long qp), .second] [(.ref ax)])) rfl rfl (hb hby d6_1)
  refine own_pre (fun t k => st7 t k) ?_
  refine own_pre (A := (T7.setTop (mkF m 6 #[.val (.ref ax), .val (.long qp), .second] [(.int (lcmpW qs qp))]))) ?_ ?_
  · intro t k
    show Steps p.tables e below (T7.setTop (mkF m 4 #[.val (.ref ax), .val (.long qp), .second] [(.long qs)])) _
    refine XS.lloadN X7.here hx rfl (hb hby d6_4) rfl ?_
    show Steps p.tables e below (T7.setTop (mkF m 5 #[.val (.ref ax), .val (.long qp), .second] [(.long qp), (.long qs)])) _
    refine XS.lcmp X7.here hx rfl (hb hby d6_5) rfl ?_
    exact k
  by_cases hc8 : qp < qs
  · skip
    refine own_pre (A := (T7.setTop (mkF m 22 #[.val (.ref ax), .val (.long qp), .second] []))) ?_ ?_
    · intro t k
      refine XS.ifYes X7.here hx rfl (pc0 := 6) (pc' := 22) rfl (hb hby d6_6) rfl ((if0 _ _).trans (tlt ((lw_gt qs qp).mpr hc8)).2.2.1) (by decide) (by decide) ?_
      exact k
    refine own_pre (A := (T7.setTop (mkF m 23 #[.val (.ref ax), .val (.long qp), .second] [(.int (0 : Int32))]))) ?_ ?_
    · intro t k
      show Steps p.tables e below (T7.setTop (mkF m 22 #[.val (.ref ax), .val (.long qp), .second] [])) _
      refine XS.iconst X7.here hx rfl (hb hby d6_22) ?_
      exact k
    have hz : own_cont qp qs qe = (0 : Int32) := by simp only [own_cont, if_pos hc8]
    obtain ⟨fs, hr, hrun, hended, hW, hsame⟩ := X7.leave (hlocks := BodyLoose.notSynchronized Bd) (v := some (.int (0 : Int32))) (fun h => by rw [Bd.returns] at h; cases h)
    refine ⟨_, _, retOut X7 hx Bd.returns rfl (Or.inl ⟨rfl, Or.inr (Or.inl rfl), _, rfl⟩) (hb hby d6_23) hr, hrun, hended, _, _, rfl, ?_, ⟨_, rfl⟩, hW, hsame.mono (by decide) (by decide)⟩
    show own_Q6 Z ax qp qs qe h0 n0 _ T7.heap _
    rw [e7]
    exact ⟨by rw [hz], N0, rfl⟩
  · skip
    refine own_pre (A := (T7.setTop (mkF m 9 #[.val (.ref ax), .val (.long qp), .second] []))) ?_ ?_
    · intro t k
      refine XS.ifNo X7.here hx rfl (hb hby d6_6) rfl ((if0 _ _).trans (flt (fun q => hc8 ((lw_gt qs qp).mp q))).2.2.1) ?_
      exact k
    refine own_pre (A := (T7.setTop (mkF m 11 #[.val (.ref ax), .val (.long qp), .second] [(.ref ax), (.long qp)]))) ?_ ?_
    · intro t k
      show Steps p.tables e below (T7.setTop (mkF m 9 #[.val (.ref ax), .val (.long qp), .second] [])) _
      refine XS.lloadN X7.here hx rfl (hb hby d6_9) rfl ?_
      show Steps p.tables e below (T7.setTop (mkF m 10 #[.val (.ref ax), .val (.long qp), .second] [(.long qp)])) _
      refine XS.aloadN X7.here hx rfl (hb hby d6_10) rfl rfl ?_
      exact k
    obtain ⟨T9, X9, e9, st9⟩ := getF X7 hx hZ hown (host := "") (Or.inl (own_w hw 24 rfl)) Via.refl e7 Fend (g := (mkF m 11 #[.val (.ref ax), .val (.long qp), .second] [(.ref ax), (.long qp)])) rfl rfl (hb hby d6_11)
    refine own_pre (fun t k => st9 t k) ?_
    refine own_pre (A := (T9.setTop (mkF m 15 #[.val (.ref ax), .val (.long qp), .second] [(.int (lcmpW qp qe))]))) ?_ ?_
    · intro t k
      show Steps p.tables e below (T9.setTop (mkF m 14 #[.val (.ref ax), .val (.long qp), .second] [(.long qe), (.long qp)])) _
      refine XS.lcmp X9.here hx rfl (hb hby d6_14) rfl ?_
      exact k
    by_cases hc10 : qe < qp
    · skip
      refine own_pre (A := (T9.setTop (mkF m 22 #[.val (.ref ax), .val (.long qp), .second] []))) ?_ ?_
      · intro t k
        refine XS.ifYes X9.here hx rfl (pc0 := 15) (pc' := 22) rfl (hb hby d6_15) rfl ((if0 _ _).trans (tlt ((lw_gt qp qe).mpr hc10)).2.2.1) (by decide) (by decide) ?_
        exact k
      refine own_pre (A := (T9.setTop (mkF m 23 #[.val (.ref ax), .val (.long qp), .second] [(.int (0 : Int32))]))) ?_ ?_
      · intro t k
        show Steps p.tables e below (T9.setTop (mkF m 22 #[.val (.ref ax), .val (.long qp), .second] [])) _
        refine XS.iconst X9.here hx rfl (hb hby d6_22) ?_
        exact k
      have hz : own_cont qp qs qe = (0 : Int32) := by simp only [own_cont, if_neg hc8, if_pos hc10]
      obtain ⟨fs, hr, hrun, hended, hW, hsame⟩ := X9.leave (hlocks := BodyLoose.notSynchronized Bd) (v := some (.int (0 : Int32))) (fun h => by rw [Bd.returns] at h; cases h)
      refine ⟨_, _, retOut X9 hx Bd.returns rfl (Or.inl ⟨rfl, Or.inr (Or.inl rfl), _, rfl⟩) (hb hby d6_23) hr, hrun, hended, _, _, rfl, ?_, ⟨_, rfl⟩, hW, hsame.mono (by decide) (by decide)⟩
      show own_Q6 Z ax qp qs qe h0 n0 _ T9.heap _
      rw [e9]
      exact ⟨by rw [hz], N0, rfl⟩
    · skip
      refine own_pre (A := (T9.setTop (mkF m 18 #[.val (.ref ax), .val (.long qp), .second] []))) ?_ ?_
      · intro t k
        refine XS.ifNo X9.here hx rfl (hb hby d6_15) rfl ((if0 _ _).trans (flt (fun q => hc10 ((lw_gt qp qe).mp q))).2.2.1) ?_
        exact k
      refine own_pre (A := (T9.setTop (mkF m 23 #[.val (.ref ax), .val (.long qp), .second] [(.int (1 : Int32))]))) ?_ ?_
      · intro t k
        show Steps p.tables e below (T9.setTop (mkF m 18 #[.val (.ref ax), .val (.long qp), .second] [])) _
        refine XS.iconst X9.here hx rfl (hb hby d6_18) ?_
        show Steps p.tables e below (T9.setTop (mkF m 19 #[.val (.ref ax), .val (.long qp), .second] [(.int (1 : Int32))])) _
        refine XS.goto X9.here hx rfl (pc0 := 19) (pc' := 23) rfl (hb hby d6_19) (by decide) (by decide) ?_
        exact k
      have hz : own_cont qp qs qe = (1 : Int32) := by simp only [own_cont, if_neg hc8, if_neg hc10]
      obtain ⟨fs, hr, hrun, hended, hW, hsame⟩ := X9.leave (hlocks := BodyLoose.notSynchronized Bd) (v := some (.int (1 : Int32))) (fun h => by rw [Bd.returns] at h; cases h)
      refine ⟨_, _, retOut X9 hx Bd.returns rfl (Or.inl ⟨rfl, Or.inr (Or.inl rfl), _, rfl⟩) (hb hby d6_23) hr, hrun, hended, _, _, rfl, ?_, ⟨_, rfl⟩, hW, hsame.mono (by decide) (by decide)⟩
      show own_Q6 Z ax qp qs qe h0 n0 _ T9.heap _
      rw [e9]
      exact ⟨by rw [hz], N0, rfl⟩
theorem own_mask (x : Int64) : 0 ≤ (x &&& (9223372036854775807 : Int64)).toInt := by
  rw [c_maskL x (9223372036854775807 : Int64) 63 (by decide) (by decide)]
  omega
theorem own_minmax (x y : Int64) (hx : 0 ≤ x.toInt) (hy : 0 ≤ y.toInt) : 0 ≤ (own_min x y).toInt ∧ (own_min x y).toInt ≤ (own_max x y).toInt := by
  simp only [own_min, own_max, Int64.lt_iff_toInt_lt]
  split <;> split <;> constructor <;> omega
theorem own_min0 (x y : Int64) (hx : 0 ≤ x.toInt) (hy : 0 ≤ y.toInt) : ¬ own_min x y < (0 : Int64) := by
  have := own_minmax x y hx hy
  have z : (0 : Int64).toInt = 0 := by decide
  rw [Int64.lt_iff_toInt_lt]; omega
theorem own_minle (x y : Int64) (hx : 0 ≤ x.toInt) (hy : 0 ≤ y.toInt) : ¬ own_max x y < own_min x y := by
  have := own_minmax x y hx hy
  rw [Int64.lt_iff_toInt_lt]; omega
theorem own_in (s e q : Int64) (h1 : s.toInt ≤ q.toInt) (h2 : q.toInt ≤ e.toInt) : own_cont q s e = 1 := by
  simp only [own_cont, Int64.lt_iff_toInt_lt]
  rw [if_neg (by omega), if_neg (by omega)]
theorem own_out (s e q : Int64) (h : q.toInt < s.toInt ∨ e.toInt < q.toInt) : own_cont q s e = 0 := by
  simp only [own_cont, Int64.lt_iff_toInt_lt]
  by_cases h1 : q.toInt < s.toInt
  · rw [if_pos h1]
  · rw [if_neg h1, if_pos (by omega)]
theorem own_M : (9223372036854775807 : Int64).toInt = 9223372036854775807 := by decide
theorem own_m : (-9223372036854775808 : Int64).toInt = -9223372036854775808 := by decide
theorem own_z : (0 : Int64).toInt = 0 := by decide
theorem own_o : (1 : Int64).toInt = 1 := by decide
theorem own_nz1 (s e : Int64) (hs : ¬ s < (0 : Int64)) (he : ¬ e < s) (h : ¬ (e - s) = (9223372036854775807 : Int64)) : ((e - s) + (1 : Int64)).toInt = e.toInt - s.toInt + 1 ∧ ((e - s) + (1 : Int64)) ≠ 0 := by
  have h1 := c_lsub e s
  have h2 := c_ladd (e - s) (1 : Int64)
  have r1 := rng64 e
  have r2 := rng64 s
  have r3 := rng64 (e - s)
  have r4 := rng64 ((e - s) + (1 : Int64))
  rw [Int64.lt_iff_toInt_lt] at hs he
  rw [← Int64.toInt_inj, own_M] at h
  rw [own_o] at h2
  rw [own_z] at hs
  have e1 : ((e - s) + (1 : Int64)).toInt = e.toInt - s.toInt + 1 := by omega
  refine ⟨e1, fun q => ?_⟩
  rw [← Int64.toInt_inj, e1, own_z] at q
  omega
theorem own_nz2 (s e : Int64) (hs : ¬ s < (0 : Int64)) (he : ¬ e < s) (h : ¬ e = (9223372036854775807 : Int64)) : ((9223372036854775807 : Int64) - e).toInt = 9223372036854775807 - e.toInt ∧ ((9223372036854775807 : Int64) - e) ≠ 0 := by
  have h1 := c_lsub (9223372036854775807 : Int64) e
  have r1 := rng64 e
  have r3 := rng64 ((9223372036854775807 : Int64) - e)
  rw [Int64.lt_iff_toInt_lt] at hs he
  rw [← Int64.toInt_inj, own_M] at h
  rw [own_M] at h1
  rw [own_z] at hs
  have e1 : ((9223372036854775807 : Int64) - e).toInt = 9223372036854775807 - e.toInt := by omega
  refine ⟨e1, fun q => ?_⟩
  rw [← Int64.toInt_inj, e1, own_z] at q
  omega
theorem own_f0 (s e : Int64) (he : ¬ e < s) : own_cont s s e = 1 := own_in s e s (Int.le_refl _) (by rw [Int64.lt_iff_toInt_lt] at he; omega)
theorem own_f1 (s e : Int64) (he : ¬ e < s) : own_cont e s e = 1 := own_in s e e (by rw [Int64.lt_iff_toInt_lt] at he; omega) (Int.le_refl _)
theorem own_f2a (s e q : Int64) (hs : ¬ s < (0 : Int64)) (he : ¬ e < s) (hq : 0 ≤ q.toInt) (h : (e - s) = (9223372036854775807 : Int64)) : own_cont (s + q) s e = 1 := by
  have h1 := c_lsub e s
  have h2 := c_ladd s q
  have r1 := rng64 e
  have r2 := rng64 s
  have r3 := rng64 q
  have r4 := rng64 (s + q)
  rw [Int64.lt_iff_toInt_lt] at hs he
  rw [h, own_M] at h1
  rw [own_z] at hs
  exact own_in s e _ (by omega) (by omega)
theorem own_f2b (s e q : Int64) (hs : ¬ s < (0 : Int64)) (he : ¬ e < s) (hq : 0 ≤ q.toInt) (h : ¬ (e - s) = (9223372036854775807 : Int64)) : own_cont (s + (q % ((e - s) + (1 : Int64)))) s e = 1 := by
  have h1 := (own_nz1 s e hs he h).1
  have h2 : (q % ((e - s) + (1 : Int64))).toInt = q.toInt % (e.toInt - s.toInt + 1) := by rw [Int64.toInt_mod, h1]; exact Int.tmod_eq_emod_of_nonneg hq
  have h3 := c_ladd s (q % ((e - s) + (1 : Int64)))
  have r1 := rng64 e
  have r2 := rng64 s
  have r4 := rng64 (s + (q % ((e - s) + (1 : Int64))))
  rw [Int64.lt_iff_toInt_lt] at hs he
  rw [own_z] at hs
  have h4 := Int.emod_nonneg q.toInt (b := e.toInt - s.toInt + 1) (by omega)
  have h5 := Int.emod_lt_of_pos q.toInt (b := e.toInt - s.toInt + 1) (by omega)
  rw [h2] at h3
  generalize q.toInt % (e.toInt - s.toInt + 1) = X at *
  exact own_in s e _ (by omega) (by omega)
theorem own_f3 (s e q : Int64) (hs : ¬ s < (0 : Int64)) (he : ¬ e < s) (hq : 0 ≤ q.toInt) : own_cont ((s - (1 : Int64)) - q) s e = 0 := by
  have h1 := c_lsub s (1 : Int64)
  have h2 := c_lsub (s - (1 : Int64)) q
  have r2 := rng64 s
  have r3 := rng64 q
  have r4 := rng64 (s - (1 : Int64))
  have r5 := rng64 ((s - (1 : Int64)) - q)
  rw [Int64.lt_iff_toInt_lt] at hs he
  rw [own_o] at h1
  rw [own_z] at hs
  exact own_out s e _ (by omega)
theorem own_f4b (s e q : Int64) (hs : ¬ s < (0 : Int64)) (he : ¬ e < s) (hq : 0 ≤ q.toInt) (h : ¬ e = (9223372036854775807 : Int64)) : own_cont ((9223372036854775807 : Int64) - (q % ((9223372036854775807 : Int64) - e))) s e = 0 := by
  have h1 := (own_nz2 s e hs he h).1
  have h2 : (q % ((9223372036854775807 : Int64) - e)).toInt = q.toInt % (9223372036854775807 - e.toInt) := by rw [Int64.toInt_mod, h1]; exact Int.tmod_eq_emod_of_nonneg hq
  have h3 := c_lsub (9223372036854775807 : Int64) (q % ((9223372036854775807 : Int64) - e))
  have r1 := rng64 e
  have r4 := rng64 ((9223372036854775807 : Int64) - (q % ((9223372036854775807 : Int64) - e)))
  rw [Int64.lt_iff_toInt_lt] at hs he
  rw [← Int64.toInt_inj, own_M] at h
  rw [own_z] at hs
  have h4 := Int.emod_nonneg q.toInt (b := 9223372036854775807 - e.toInt) (by omega)
  have h5 := Int.emod_lt_of_pos q.toInt (b := 9223372036854775807 - e.toInt) (by omega)
  rw [h2, own_M] at h3
  generalize q.toInt % (9223372036854775807 - e.toInt) = X at *
  exact own_out s e _ (by omega)
theorem own_tn (p : Int64) : (p.toBitVec.toNat : Int) = p.toInt % 18446744073709551616 := by
  have h := p.toBitVec.isLt
  show _ = p.toBitVec.toInt % _
  rw [BitVec.toInt_eq_toNat_cond]
  split <;> omega
theorem own_f5 (s e q : Int64) (hs : ¬ s < (0 : Int64)) : own_cont (q ||| (-9223372036854775808 : Int64)) s e = 0 := by
  have h1 : (9223372036854775808 : Nat) ≤ (q ||| (-9223372036854775808 : Int64)).toBitVec.toNat := by
    rw [Int64.toBitVec_or, BitVec.toNat_or]
    exact Nat.right_le_or
  have h2 := own_tn (q ||| (-9223372036854775808 : Int64))
  have r := rng64 (q ||| (-9223372036854775808 : Int64))
  rw [Int64.lt_iff_toInt_lt, own_z] at hs
  exact own_out s e _ (by omega)
theorem own_f6 (s e : Int64) (he : ¬ e < s) : own_cont (9223372036854775807 : Int64) s e = (if e = (9223372036854775807 : Int64) then (1 : Int32) else (0 : Int32)) := by
  have r1 := rng64 e
  have r2 := rng64 s
  by_cases h : e = (9223372036854775807 : Int64)
  · rw [if_pos h]
    exact own_in s e _ (by rw [own_M]; omega) (by rw [h]; exact Int.le_refl _)
  · rw [if_neg h]
    rw [← Int64.toInt_inj, own_M] at h
    exact own_out s e _ (by rw [own_M]; omega)
theorem own_f7 (s e : Int64) (hs : ¬ s < (0 : Int64)) : own_cont (-9223372036854775808 : Int64) s e = 0 := by
  rw [Int64.lt_iff_toInt_lt, own_z] at hs
  exact own_out s e _ (by rw [own_m]; omega)
theorem own_pn0 : plainName "com/example/terq/terq/core/PeriodContainsPinLaw" = true := by first | (simp [plainName, overriddenIn]; done) | decide +kernel
theorem own_ef0 (m : MethodId) (x0 : Int64) (x1 : Int64) (x2 : Int64) (x3 : Int32) : entryFrame m #[(.long x0), (.long x1), (.long x2), (.int x3)] maxLocals = mkF m 0 #[.val (.long x0), .second, .val (.long x1), .second, .val (.long x2), .second, .val (.int x3), .unset, .unset, .unset, .unset, .unset, .unset, .unset, .unset, .unset, .unset, .unset, .unset, .unset, .unset, .unset, .unset, .unset, .unset, .unset] [] := by first | (simp [entryFrame, mkF, argsToLocals, Value.category, maxLocals]; done) | rfl
def own_Q0 (h0 : Heap) (n0 : Nat) (v : Option Value) (h : Heap) (L : List Loc) : Prop := v = some (.int (1 : Int32)) ∧ Fr n0 L
set_option maxRecDepth 65536 in
set_option maxHeartbeats 40000000 in
theorem rm0 (l : Launch) (Z : State) (a0 : Array Value) (hw : ∀ d ∈ tables_1, d.before a0 Z = true) (ws : List Jvm.Cond) (qa : Int64) (qb : Int64) (qp : Int64) (pm : Int32) (h0 : Heap) (n0 : Nat) (Z0 : n0 ≤ h0.size) :
    MetFree l x (head1 (Jvm.Cond.code x code maxLocals ret :: ws) room_1) (fun a U => a = #[(.long qa), (.long qb), (.long qp), (.int pm)] ∧ Z.Warmed39 U.vm ∧ U.heap = h0) (fun _ _ _ _ _ => True) (fun _ U o U' => ∃ v L, o = .returned v ∧ own_Q0  h0 n0 v U'.heap L ∧ FrameEnd U o U' L room_1.cells room_1.slots) := by
  refine MetFree.of_bodySF (plainFor_of_name own_pn0) hisR ?_
  intro p e s m args below meth c s₁ Bd hml0 hP hK
  obtain ⟨rfl, hZ, hh⟩ := hP
  have hx := Bd.exec
  have hby := Bd.bytes
  have hml : c.maxLocals = 26 := hml0
  have hown : s.vm.findClass "com/example/terq/terq/core/PeriodContainsPinLaw" = some m.cls := findClass_of_methodNamed Bd.named
  have hnm := (name_of_methodNamed Bd.named Bd.method).1
  have X0 : Stand p l e room_1 s m #[(.long qa), (.long qb), (.long qp), (.int pm)] below meth c s₁ [] 0 0 := Stand.of_body Bd
  have e0 : s₁.heap = h0 := by rw [← hh, Bd.state]; rfl
  have N0 := Fr.nil n0
  refine own_pre (A := (s₁.setTop (mkF m 0 #[.val (.long qa), .second, .val (.long qb), .second, .val (.long qp), .second, .val (.int pm), .unset, .unset, .unset, .unset, .unset, .unset, .unset, .unset, .unset, .unset, .unset, .unset, .unset, .unset, .unset, .unset, .unset, .unset, .unset] []))) (fun t k => castTop (own_ef0 m qa qb qp pm) k) ?_
  refine own_pre (A := (s₁.setTop (mkF m 14 #[.val (.long qa), .second, .val (.long qb), .second, .val (.long qp), .second, .val (.int pm), .val (.long (qa &&& (9223372036854775807 : Int64))), .second, .val (.long (qb &&& (9223372036854775807 : Int64))), .second, .unset, .unset, .unset, .unset, .unset, .unset, .unset, .unset, .unset, .unset, .unset, .unset, .unset, .unset, .unset] []))) ?_ ?_
  · intro t k
    show Steps p.tables e below (s₁.setTop (mkF m 0 #[.val (.long qa), .second, .val (.long qb), .second, .val (.long qp), .second, .val (.int pm), .unset, .unset, .unset, .unset, .unset, .unset, .unset, .unset, .unset, .unset, .unset, .unset, .unset, .unset, .unset, .unset, .unset, .unset, .unset] [])) _
    refine XS.lloadN X0.here hx rfl (hb hby at_0) rfl ?_
    show Steps p.tables e below (s₁.setTop (mkF m 1 #[.val (.long qa), .second, .val (.long qb), .second, .val (.long qp), .second, .val (.int pm), .unset, .unset, .unset, .unset, .unset, .unset, .unset, .unset, .unset, .unset, .unset, .unset, .unset, .unset, .unset, .unset, .unset, .unset, .unset] [(.long qa)])) _
    refine X0.ldc2Long hx hown (mvT hZ (own_w hw 0 rfl)) (g := (mkF m 1 #[.val (.long qa), .second, .val (.long qb), .second, .val (.long qp), .second, .val (.int pm), .unset, .unset, .unset, .unset, .unset, .unset, .unset, .unset, .unset, .unset, .unset, .unset, .unset, .unset, .unset, .unset, .unset, .unset, .unset] [(.long qa)])) rfl (hb hby at_1) _ ?_
    show Steps p.tables e below (s₁.setTop (mkF m 4 #[.val (.long qa), .second, .val (.long qb), .second, .val (.long qp), .second, .val (.int pm), .unset, .unset, .unset, .unset, .unset, .unset, .unset, .unset, .unset, .unset, .unset, .unset, .unset, .unset, .unset, .unset, .unset, .unset, .unset] [(.long (9223372036854775807 : Int64)), (.long qa)])) _
    refine XS.land X0.here hx rfl (hb hby at_4) rfl ?_
    show Steps p.tables e below (s₁.setTop (mkF m 5 #[.val (.long qa), .second, .val (.long qb), .second, .val (.long qp), .second, .val (.int pm), .unset, .unset, .unset, .unset, .unset, .unset, .unset, .unset, .unset, .unset, .unset, .unset, .unset, .unset, .unset, .unset, .unset, .unset, .unset] [(.long (qa &&& (9223372036854775807 : Int64)))])) _
    refine XS.lstore X0.here hx rfl (hb hby at_5) rfl (l' := #[.val (.long qa), .second, .val (.long qb), .second, .val (.long qp), .second, .val (.int pm), .val (.long (qa &&& (9223372036854775807 : Int64))), .second, .unset, .unset, .unset, .unset, .unset, .unset, .unset, .unset, .unset, .unset, .unset, .unset, .unset, .unset, .unset, .unset, .unset]) rfl ?_
    show Steps p.tables e below (s₁.setTop (mkF m 7 #[.val (.long qa), .second, .val (.long qb), .second, .val (.long qp), .second, .val (.int pm), .val (.long (qa &&& (9223372036854775807 : Int64))), .second, .unset, .unset, .unset, .unset, .unset, .unset, .unset, .unset, .unset, .unset, .unset, .unset, .unset, .unset, .unset, .unset, .unset] [])) _
    refine XS.lloadN X0.here hx rfl (hb hby at_7) rfl ?_
    show Steps p.tables e below (s₁.setTop (mkF m 8 #[.val (.long qa), .second, .val (.long qb), .second, .val (.long qp), .second, .val (.int pm), .val (.long (qa &&& (9223372036854775807 : Int64))), .second, .unset, .unset, .unset, .unset, .unset, .unset, .unset, .unset, .unset, .unset, .unset, .unset, .unset, .unset, .unset, .unset, .unset] [(.long qb)])) _
    refine X0.ldc2Long hx hown (mvT hZ (own_w hw 0 rfl)) (g := (mkF m 8 #[.val (.long qa), .second, .val (.long qb), .second, .val (.long qp), .second, .val (.int pm), .val (.long (qa &&& (9223372036854775807 : Int64))), .second, .unset, .unset, .unset, .unset, .unset, .unset, .unset, .unset, .unset, .unset, .unset, .unset, .unset, .unset, .unset, .unset, .unset] [(.long qb)])) rfl (hb hby at_8) _ ?_
    show Steps p.tables e below (s₁.setTop (mkF m 11 #[.val (.long qa), .second, .val (.long qb), .second, .val (.long qp), .second, .val (.int pm), .val (.long (qa &&& (9223372036854775807 : Int64))), .second, .unset, .unset, .unset, .unset, .unset, .unset, .unset, .unset, .unset, .unset, .unset, .unset, .unset, .unset, .unset, .unset, .unset] [(.long (9223372036854775807 : Int64)), (.long qb)])) _
    refine XS.land X0.here hx rfl (hb hby at_11) rfl ?_
    show Steps p.tables e below (s₁.setTop (mkF m 12 #[.val (.long qa), .second, .val (.long qb), .second, .val (.long qp), .second, .val (.int pm), .val (.long (qa &&& (9223372036854775807 : Int64))), .second, .unset, .unset, .unset, .unset, .unset, .unset, .unset, .unset, .unset, .unset, .unset, .unset, .unset, .unset, .unset, .unset, .unset] [(.long (qb &&& (9223372036854775807 : Int64)))])) _
    refine XS.lstore X0.here hx rfl (hb hby at_12) rfl (l' := #[.val (.long qa), .second, .val (.long qb), .second, .val (.long qp), .second, .val (.int pm), .val (.long (qa &&& (9223372036854775807 : Int64))), .second, .val (.long (qb &&& (9223372036854775807 : Int64))), .second, .unset, .unset, .unset, .unset, .unset, .unset, .unset, .unset, .unset, .unset, .unset, .unset, .unset, .unset, .unset]) rfl ?_
    exact k
  obtain ⟨qx, hqx⟩ : ∃ z : Int64, z = (qa &&& (9223372036854775807 : Int64)) := ⟨_, rfl⟩
  rw [← hqx]
  obtain ⟨qy, hqy⟩ : ∃ z : Int64, z = (qb &&& (9223372036854775807 : Int64)) := ⟨_, rfl⟩
  rw [← hqy]
  have nqx : 0 ≤ qx.toInt := by rw [hqx]; exact own_mask _
  have nqy : 0 ≤ qy.toInt := by rw [hqy]; exact own_mask _
  refine own_pre (A := (s₁.setTop (mkF m 18 #[.val (.long qa), .second, .val (.long qb), .second, .val (.long qp), .second, .val (.int pm), .val (.long qx), .second, .val (.long qy), .second, .unset, .unset, .unset, .unset, .unset, .unset, .unset, .unset, .unset, .unset, .unset, .unset, .unset, .unset, .unset] [(.long qy), (.long qx)]))) ?_ ?_
  · intro t k
    show Steps p.tables e below (s₁.setTop (mkF m 14 #[.val (.long qa), .second, .val (.long qb), .second, .val (.long qp), .second, .val (.int pm), .val (.long qx), .second, .val (.long qy), .second, .unset, .unset, .unset, .unset, .unset, .unset, .unset, .unset, .unset, .unset, .unset, .unset, .unset, .unset, .unset] [])) _
    refine XS.lload X0.here hx rfl (hb hby at_14) rfl ?_
    show Steps p.tables e below (s₁.setTop (mkF m 16 #[.val (.long qa), .second, .val (.long qb), .second, .val (.long qp), .second, .val (.int pm), .val (.long qx), .second, .val (.long qy), .second, .unset, .unset, .unset, .unset, .unset, .unset, .unset, .unset, .unset, .unset, .unset, .unset, .unset, .unset, .unset] [(.long qx)])) _
    refine XS.lload X0.here hx rfl (hb hby at_16) rfl ?_
    exact k
  obtain ⟨_, _, ⟨T11, L11, k11, n11⟩, -, X11, ⟨Lc11, hQ11, l11, y11, z11⟩, st11⟩ := Jvm.LawKit.callS X0 hx (y := (⟨"java/lang/Math", "min", "(JJ)J"⟩ : MethodName)) hown (mvT hZ (own_w hw 1 rfl)) (mvT hZ (own_w hw 2 rfl)) (mvT hZ (own_w hw 3 rfl)) (mvT hZ (own_w hw 4 rfl)) (by decide) (backOf (W := 0) (rm1 l Z a0 hw [] qx qy h0 n0 Z0) hZ (own_w hw 4 rfl) (own_w hw 3 rfl) (by decide) (by decide)) (g := (mkF m 18 #[.val (.long qa), .second, .val (.long qb), .second, .val (.long qp), .second, .val (.int pm), .val (.long qx), .second, .val (.long qy), .second, .unset, .unset, .unset, .unset, .unset, .unset, .unset, .unset, .unset, .unset, .unset, .unset, .unset, .unset, .unset] [(.long qy), (.long qx)])) rfl (by rw [hml]; rfl) (argsL := [(.long qx), (.long qy)]) (rest := []) (lenOf own_pd1 rfl) rfl (by show 2 * 0 + _ ≤ _; exact Nat.le_of_eq rfl) (hb hby at_18) (fun _ _ => ⟨rfl, e0, (by decide : 0 + 0 ≤ _), (by decide : 0 + 0 ≤ _)⟩)
  dsimp only [Pt.U, Pt.locs, Pt.cells, Pt.slots] at X11 l11 y11 z11 st11 hQ11
  subst l11 y11 z11
  obtain ⟨rfl, Nq11, eq11⟩ := hQ11
  have N11 := Fr.app N0 Nq11
  refine own_pre (fun t k => st11 t k) ?_
  refine own_pre (A := (T11.setTop (mkF m 27 #[.val (.long qa), .second, .val (.long qb), .second, .val (.long qp), .second, .val (.int pm), .val (.long qx), .second, .val (.long qy), .second, .val (.long (own_min qx qy)), .second, .unset, .unset, .unset, .unset, .unset, .unset, .unset, .unset, .unset, .unset, .unset, .unset, .unset] [(.long qy), (.long qx)]))) ?_ ?_
  · intro t k
    show Steps p.tables e below (T11.setTop (mkF m 21 #[.val (.long qa), .second, .val (.long qb), .second, .val (.long qp), .second, .val (.int pm), .val (.long qx), .second, .val (.long qy), .second, .unset, .unset, .unset, .unset, .unset, .unset, .unset, .unset, .unset, .unset, .unset, .unset, .unset, .unset, .unset] [(.long (own_min qx qy))])) _
    refine XS.lstore X11.here hx rfl (hb hby at_21) rfl (l' := #[.val (.long qa), .second, .val (.long qb), .second, .val (.long qp), .second, .val (.int pm), .val (.long qx), .second, .val (.long qy), .second, .val (.long (own_min qx qy)), .second, .unset, .unset, .unset, .unset, .unset, .unset, .unset, .unset, .unset, .unset, .unset, .unset, .unset]) rfl ?_
    show Steps p.tables e below (T11.setTop (mkF m 23 #[.val (.long qa), .second, .val (.long qb), .second, .val (.long qp), .second, .val (.int pm), .val (.long qx), .second, .val (.long qy), .second, .val (.long (own_min qx qy)), .second, .unset, .unset, .unset, .unset, .unset, .unset, .unset, .unset, .unset, .unset, .unset, .unset, .unset] [])) _
    refine XS.lload X11.here hx rfl (hb hby at_23) rfl ?_
    show Steps p.tables e below (T11.setTop (mkF m 25 #[.val (.long qa), .second, .val (.long qb), .second, .val (.long qp), .second, .val (.int pm), .val (.long qx), .second, .val (.long qy), .second, .val (.long (own_min qx qy)), .second, .unset, .unset, .unset, .unset, .unset, .unset, .unset, .unset, .unset, .unset, .unset, .unset, .unset] [(.long qx)])) _
    refine XS.lload X11.here hx rfl (hb hby at_25) rfl ?_
    exact k
  obtain ⟨_, _, ⟨T12, L12, k12, n12⟩, -, X12, ⟨Lc12, hQ12, l12, y12, z12⟩, st12⟩ := Jvm.LawKit.callS X11 hx (y := (⟨"java/lang/Math", "max", "(JJ)J"⟩ : MethodName)) hown (mvT hZ (own_w hw 5 rfl)) (mvT hZ (own_w hw 6 rfl)) (mvT hZ (own_w hw 3 rfl)) (mvT hZ (own_w hw 7 rfl)) (by decide) (backOf (W := 0) (rm2 l Z a0 hw [] qx qy h0 n0 Z0) hZ (own_w hw 7 rfl) (own_w hw 3 rfl) (by decide) (by decide)) (g := (mkF m 27 #[.val (.long qa), .second, .val (.long qb), .second, .val (.long qp), .second, .val (.int pm), .val (.long qx), .second, .val (.long qy), .second, .val (.long (own_min qx qy)), .second, .unset, .unset, .unset, .unset, .unset, .unset, .unset, .unset, .unset, .unset, .unset, .unset, .unset] [(.long qy), (.long qx)])) rfl (by rw [hml]; rfl) (argsL := [(.long qx), (.long qy)]) (rest := []) (lenOf own_pd1 rfl) rfl (by show 2 * 0 + _ ≤ _; exact Nat.le_of_eq rfl) (hb hby at_27) (fun _ _ => ⟨rfl, eq11, (by decide : 0 + 0 ≤ _), (by decide : 0 + 0 ≤ _)⟩)
  dsimp only [Pt.U, Pt.locs, Pt.cells, Pt.slots] at X12 l12 y12 z12 st12 hQ12
  subst l12 y12 z12
  obtain ⟨rfl, Nq12, eq12⟩ := hQ12
  have N12 := Fr.app N11 Nq12
  refine own_pre (fun t k => st12 t k) ?_
  refine own_pre (A := (T12.setTop (mkF m 32 #[.val (.long qa), .second, .val (.long qb), .second, .val (.long qp), .second, .val (.int pm), .val (.long qx), .second, .val (.long qy), .second, .val (.long (own_min qx qy)), .second, .val (.long (own_max qx qy)), .second, .unset, .unset, .unset, .unset, .unset, .unset, .unset, .unset, .unset, .unset, .unset] []))) ?_ ?_
  · intro t k
    show Steps p.tables e below (T12.setTop (mkF m 30 #[.val (.long qa), .second, .val (.long qb), .second, .val (.long qp), .second, .val (.int pm), .val (.long qx), .second, .val (.long qy), .second, .val (.long (own_min qx qy)), .second, .unset, .unset, .unset, .unset, .unset, .unset, .unset, .unset, .unset, .unset, .unset, .unset, .unset] [(.long (own_max qx qy))])) _
    refine XS.lstore X12.here hx rfl (hb hby at_30) rfl (l' := #[.val (.long qa), .second, .val (.long qb), .second, .val (.long qp), .second, .val (.int pm), .val (.long qx), .second, .val (.long qy), .second, .val (.long (own_min qx qy)), .second, .val (.long (own_max qx qy)), .second, .unset, .unset, .unset, .unset, .unset, .unset, .unset, .unset, .unset, .unset, .unset]) rfl ?_
    exact k
  obtain ⟨qs, hqs⟩ : ∃ z : Int64, z = (own_min qx qy) := ⟨_, rfl⟩
  rw [← hqs]
  obtain ⟨qe, hqe⟩ : ∃ z : Int64, z = (own_max qx qy) := ⟨_, rfl⟩
  rw [← hqe]
  have ms : ¬ qs < (0 : Int64) := by rw [hqs]; exact own_min0 _ _ nqx nqy
  have me : ¬ qe < qs := by rw [hqs, hqe]; exact own_minle _ _ nqx nqy
  refine own_pre (A := (T12.setTop (mkF m 40 #[.val (.long qa), .second, .val (.long qb), .second, .val (.long qp), .second, .val (.int pm), .val (.long qx), .second, .val (.long qy), .second, .val (.long qs), .second, .val (.long qe), .second, .val (.long (qp &&& (9223372036854775807 : Int64))), .second, .unset, .unset, .unset, .unset, .unset, .unset, .unset, .unset, .unset] []))) ?_ ?_
  · intro t k
    show Steps p.tables e below (T12.setTop (mkF m 32 #[.val (.long qa), .second, .val (.long qb), .second, .val (.long qp), .second, .val (.int pm), .val (.long qx), .second, .val (.long qy), .second, .val (.long qs), .second, .val (.long qe), .second, .unset, .unset, .unset, .unset, .unset, .unset, .unset, .unset, .unset, .unset, .unset] [])) _
    refine XS.lload X12.here hx rfl (hb hby at_32) rfl ?_
    show Steps p.tables e below (T12.setTop (mkF m 34 #[.val (.long qa), .second, .val (.long qb), .second, .val (.long qp), .second, .val (.int pm), .val (.long qx), .second, .val (.long qy), .second, .val (.long qs), .second, .val (.long qe), .second, .unset, .unset, .unset, .unset, .unset, .unset, .unset, .unset, .unset, .unset, .unset] [(.long qp)])) _
    refine X12.ldc2Long hx hown (mvT hZ (own_w hw 0 rfl)) (g := (mkF m 34 #[.val (.long qa), .second, .val (.long qb), .second, .val (.long qp), .second, .val (.int pm), .val (.long qx), .second, .val (.long qy), .second, .val (.long qs), .second, .val (.long qe), .second, .unset, .unset, .unset, .unset, .unset, .unset, .unset, .unset, .unset, .unset, .unset] [(.long qp)])) rfl (hb hby at_34) _ ?_
    show Steps p.tables e below (T12.setTop (mkF m 37 #[.val (.long qa), .second, .val (.long qb), .second, .val (.long qp), .second, .val (.int pm), .val (.long qx), .second, .val (.long qy), .second, .val (.long qs), .second, .val (.long qe), .second, .unset, .unset, .unset, .unset, .unset, .unset, .unset, .unset, .unset, .unset, .unset] [(.long (9223372036854775807 : Int64)), (.long qp)])) _
    refine XS.land X12.here hx rfl (hb hby at_37) rfl ?_
    show Steps p.tables e below (T12.setTop (mkF m 38 #[.val (.long qa), .second, .val (.long qb), .second, .val (.long qp), .second, .val (.int pm), .val (.long qx), .second, .val (.long qy), .second, .val (.long qs), .second, .val (.long qe), .second, .unset, .unset, .unset, .unset, .unset, .unset, .unset, .unset, .unset, .unset, .unset] [(.long (qp &&& (9223372036854775807 : Int64)))])) _
    refine XS.lstore X12.here hx rfl (hb hby at_38) rfl (l' := #[.val (.long qa), .second, .val (.long qb), .second, .val (.long qp), .second, .val (.int pm), .val (.long qx), .second, .val (.long qy), .second, .val (.long qs), .second, .val (.long qe), .second, .val (.long (qp &&& (9223372036854775807 : Int64))), .second, .unset, .unset, .unset, .unset, .unset, .unset, .unset, .unset, .unset]) rfl ?_
    exact k
  obtain ⟨qq, hqq⟩ : ∃ z : Int64, z = (qp &&& (9223372036854775807 : Int64)) := ⟨_, rfl⟩
  rw [← hqq]
  have nqq : 0 ≤ qq.toInt := by rw [hqq]; exact own_mask _
  obtain ⟨T13, h13, X13, e13, E13, A13, D13, -, st13⟩ := newO X12 hx hZ hown (own_w hw 8 rfl) (own_w hw 9 rfl) (own_w hw 10 rfl) eq12 (g := (mkF m 40 #[.val (.long qa), .second, .val (.long qb), .second, .val (.long qp), .second, .val (.int pm), .val (.long qx), .second, .val (.long qy), .second, .val (.long qs), .second, .val (.long qe), .second, .val (.long qq), .second, .unset, .unset, .unset, .unset, .unset, .unset, .unset, .unset, .unset] [])) rfl (hb hby at_40) (by decide) (by decide)
  obtain ⟨b13, g13⟩ : ∃ z, z = h0.size := ⟨_, rfl⟩
  rw [← g13] at A13 D13 st13
  have gn_b13 : n0 ≤ b13 := Nat.le_trans Z0 (Nat.le_of_eq g13.symm)
  have Zs13 : n0 ≤ h13.size := Nat.le_trans Z0 E13.1
  have Kc13 : Keep h0 h13 [] := (Keep.refl h0 []).ext E13
  have F13_start : Fld Z h13 b13 "com/example/terq/terq/core/Period" "start" "J" (.long (0 : Int64)) := D13 (Or.inr (own_w hw 23 rfl)) (ty := .long) (by decide)
  have F13_end : Fld Z h13 b13 "com/example/terq/terq/core/Period" "end" "J" (.long (0 : Int64)) := D13 (Or.inr (own_w hw 25 rfl)) (ty := .long) (by decide)
  refine own_pre (fun t k => st13 t k) ?_
  refine own_pre (A := (T13.setTop (mkF m 48 #[.val (.long qa), .second, .val (.long qb), .second, .val (.long qp), .second, .val (.int pm), .val (.long qx), .second, .val (.long qy), .second, .val (.long qs), .second, .val (.long qe), .second, .val (.long qq), .second, .unset, .unset, .unset, .unset, .unset, .unset, .unset, .unset, .unset] [(.long qe), (.long qs), (.ref b13), (.ref b13)]))) ?_ ?_
  · intro t k
    show Steps p.tables e below (T13.setTop (mkF m 43 #[.val (.long qa), .second, .val (.long qb), .second, .val (.long qp), .second, .val (.int pm), .val (.long qx), .second, .val (.long qy), .second, .val (.long qs), .second, .val (.long qe), .second, .val (.long qq), .second, .unset, .unset, .unset, .unset, .unset, .unset, .unset, .unset, .unset] [(.ref b13)])) _
    refine XS.dup X13.here hx rfl (hb hby at_43) rfl rfl ?_
    show Steps p.tables e below (T13.setTop (mkF m 44 #[.val (.long qa), .second, .val (.long qb), .second, .val (.long qp), .second, .val (.int pm), .val (.long qx), .second, .val (.long qy), .second, .val (.long qs), .second, .val (.long qe), .second, .val (.long qq), .second, .unset, .unset, .unset, .unset, .unset, .unset, .unset, .unset, .unset] [(.ref b13), (.ref b13)])) _
    refine XS.lload X13.here hx rfl (hb hby at_44) rfl ?_
    show Steps p.tables e below (T13.setTop (mkF m 46 #[.val (.long qa), .second, .val (.long qb), .second, .val (.long qp), .second, .val (.int pm), .val (.long qx), .second, .val (.long qy), .second, .val (.long qs), .second, .val (.long qe), .second, .val (.long qq), .second, .unset, .unset, .unset, .unset, .unset, .unset, .unset, .unset, .unset] [(.long qs), (.ref b13), (.ref b13)])) _
    refine XS.lload X13.here hx rfl (hb hby at_46) rfl ?_
    exact k
  obtain ⟨_, _, ⟨T14, L14, k14, n14⟩, -, X14, ⟨Lc14, hQ14, l14, y14, z14⟩, st14⟩ := X13.specialBack hx (y := (⟨"com/example/terq/terq/core/Period", "<init>", "(JJ)V"⟩ : MethodName)) rfl hown (mvT hZ (own_w hw 11 rfl)) (mvT hZ (own_w hw 12 rfl)) (mvT hZ (own_w hw 13 rfl)) (by decide) (backOf (W := 1) (rm3 l Z a0 hw [] b13 qs qe _ _ h13 n0 Zs13 A13 F13_start F13_end gn_b13 ms me) hZ (own_w hw 13 rfl) (own_w hw 10 rfl) (by decide) (by decide)) (g := (mkF m 48 #[.val (.long qa), .second, .val (.long qb), .second, .val (.long qp), .second, .val (.int pm), .val (.long qx), .second, .val (.long qy), .second, .val (.long qs), .second, .val (.long qe), .second, .val (.long qq), .second, .unset, .unset, .unset, .unset, .unset, .unset, .unset, .unset, .unset] [(.long qe), (.long qs), (.ref b13), (.ref b13)])) rfl (by rw [hml]; rfl) (Steps.refl _) (a := b13) (argsL := [(.long qs), (.long qe)]) (rest := [(.ref b13)]) (lenOf own_pd2 rfl) rfl (by show 2 * 0 + _ ≤ _; exact Nat.le_of_eq rfl) (hb hby at_48) (fun _ _ => ⟨rfl, e13, (by decide : 1 + 0 ≤ _), (by decide : 2 + 0 ≤ _)⟩)
  dsimp only [Pt.U, Pt.locs, Pt.cells, Pt.slots] at X14 l14 y14 z14 st14 hQ14
  subst l14 y14 z14
  obtain ⟨rfl, Nq14, Kq14, Fs14, Fe14⟩ := hQ14
  have N14 := Fr.app N12 Nq14
  refine own_pre (fun t k => st14.trans k) ?_
  have A13_14 := A13.keep Kq14
  have Zs14 : n0 ≤ T14.heap.size := Nat.le_trans Zs13 Kq14.1
  refine own_pre (A := (T14.setTop (mkF m 62 #[.val (.long qa), .second, .val (.long qb), .second, .val (.long qp), .second, .val (.int pm), .val (.long qx), .second, .val (.long qy), .second, .val (.long qs), .second, .val (.long qe), .second, .val (.long qq), .second, .val (.ref b13), .val (.int (pm &&& (7 : Int32))), .unset, .unset, .unset, .unset, .unset, .unset, .unset] [(.int (pm &&& (7 : Int32)))]))) ?_ ?_
  · intro t k
    show Steps p.tables e below (T14.setTop (mkF m 51 #[.val (.long qa), .second, .val (.long qb), .second, .val (.long qp), .second, .val (.int pm), .val (.long qx), .second, .val (.long qy), .second, .val (.long qs), .second, .val (.long qe), .second, .val (.long qq), .second, .unset, .unset, .unset, .unset, .unset, .unset, .unset, .unset, .unset] [(.ref b13)])) _
    refine XS.astore X14.here hx rfl (hb hby at_51) rfl rfl (l' := #[.val (.long qa), .second, .val (.long qb), .second, .val (.long qp), .second, .val (.int pm), .val (.long qx), .second, .val (.long qy), .second, .val (.long qs), .second, .val (.long qe), .second, .val (.long qq), .second, .val (.ref b13), .unset, .unset, .unset, .unset, .unset, .unset, .unset, .unset]) rfl ?_
    show Steps p.tables e below (T14.setTop (mkF m 53 #[.val (.long qa), .second, .val (.long qb), .second, .val (.long qp), .second, .val (.int pm), .val (.long qx), .second, .val (.long qy), .second, .val (.long qs), .second, .val (.long qe), .second, .val (.long qq), .second, .val (.ref b13), .unset, .unset, .unset, .unset, .unset, .unset, .unset, .unset] [])) _
    refine XS.iload X14.here hx rfl (hb hby at_53) rfl ?_
    show Steps p.tables e below (T14.setTop (mkF m 55 #[.val (.long qa), .second, .val (.long qb), .second, .val (.long qp), .second, .val (.int pm), .val (.long qx), .second, .val (.long qy), .second, .val (.long qs), .second, .val (.long qe), .second, .val (.long qq), .second, .val (.ref b13), .unset, .unset, .unset, .unset, .unset, .unset, .unset, .unset] [(.int pm)])) _
    refine XS.bipush X14.here hx rfl (hb hby at_55) ?_
    show Steps p.tables e below (T14.setTop (mkF m 57 #[.val (.long qa), .second, .val (.long qb), .second, .val (.long qp), .second, .val (.int pm), .val (.long qx), .second, .val (.long qy), .second, .val (.long qs), .second, .val (.long qe), .second, .val (.long qq), .second, .val (.ref b13), .unset, .unset, .unset, .unset, .unset, .unset, .unset, .unset] [(.int (7 : Int32)), (.int pm)])) _
    refine XS.iand X14.here hx rfl (hb hby at_57) rfl ?_
    show Steps p.tables e below (T14.setTop (mkF m 58 #[.val (.long qa), .second, .val (.long qb), .second, .val (.long qp), .second, .val (.int pm), .val (.long qx), .second, .val (.long qy), .second, .val (.long qs), .second, .val (.long qe), .second, .val (.long qq), .second, .val (.ref b13), .unset, .unset, .unset, .unset, .unset, .unset, .unset, .unset] [(.int (pm &&& (7 : Int32)))])) _
    refine XS.istore X14.here hx rfl (hb hby at_58) rfl (l' := #[.val (.long qa), .second, .val (.long qb), .second, .val (.long qp), .second, .val (.int pm), .val (.long qx), .second, .val (.long qy), .second, .val (.long qs), .second, .val (.long qe), .second, .val (.long qq), .second, .val (.ref b13), .val (.int (pm &&& (7 : Int32))), .unset, .unset, .unset, .unset, .unset, .unset, .unset]) rfl ?_
    show Steps p.tables e below (T14.setTop (mkF m 60 #[.val (.long qa), .second, .val (.long qb), .second, .val (.long qp), .second, .val (.int pm), .val (.long qx), .second, .val (.long qy), .second, .val (.long qs), .second, .val (.long qe), .second, .val (.long qq), .second, .val (.ref b13), .val (.int (pm &&& (7 : Int32))), .unset, .unset, .unset, .unset, .unset, .unset, .unset] [])) _
    refine XS.iload X14.here hx rfl (hb hby at_60) rfl ?_
    exact k
  by_cases hc15 : (pm &&& (7 : Int32)) = (0 : Int32)
  · skip
    refine own_pre (A := (T14.setTop (mkF m 65 #[.val (.long qa), .second, .val (.long qb), .second, .val (.long qp), .second, .val (.int pm), .val (.long qx), .second, .val (.long qy), .second, .val (.long qs), .second, .val (.long qe), .second, .val (.long qq), .second, .val (.ref b13), .val (.int (pm &&& (7 : Int32))), .unset, .unset, .unset, .unset, .unset, .unset, .unset] []))) ?_ ?_
    · intro t k
      refine XS.ifNo X14.here hx rfl (hb hby at_62) rfl ((if0 _ _).trans (teq hc15).2) ?_
      exact k
    refine own_pre (A := (T14.setTop (mkF m 270 #[.val (.long qa), .second, .val (.long qb), .second, .val (.long qp), .second, .val (.int pm), .val (.long qx), .second, .val (.long qy), .second, .val (.long qs), .second, .val (.long qe), .second, .val (.long qq), .second, .val (.ref b13), .val (.int (pm &&& (7 : Int32))), .val (.long qs), .second, .val (.int (1 : Int32)), .unset, .unset, .unset, .unset] [(.long qs), (.ref b13)]))) ?_ ?_
    · intro t k
      show Steps p.tables e below (T14.setTop (mkF m 65 #[.val (.long qa), .second, .val (.long qb), .second, .val (.long qp), .second, .val (.int pm), .val (.long qx), .second, .val (.long qy), .second, .val (.long qs), .second, .val (.long qe), .second, .val (.long qq), .second, .val (.ref b13), .val (.int (pm &&& (7 : Int32))), .unset, .unset, .unset, .unset, .unset, .unset, .unset] [])) _
      refine XS.lload X14.here hx rfl (hb hby at_65) rfl ?_
      show Steps p.tables e below (T14.setTop (mkF m 67 #[.val (.long qa), .second, .val (.long qb), .second, .val (.long qp), .second, .val (.int pm), .val (.long qx), .second, .val (.long qy), .second, .val (.long qs), .second, .val (.long qe), .second, .val (.long qq), .second, .val (.ref b13), .val (.int (pm &&& (7 : Int32))), .unset, .unset, .unset, .unset, .unset, .unset, .unset] [(.long qs)])) _
      refine XS.lstore X14.here hx rfl (hb hby at_67) rfl (l' := #[.val (.long qa), .second, .val (.long qb), .second, .val (.long qp), .second, .val (.int pm), .val (.long qx), .second, .val (.long qy), .second, .val (.long qs), .second, .val (.long qe), .second, .val (.long qq), .second, .val (.ref b13), .val (.int (pm &&& (7 : Int32))), .val (.long qs), .second, .unset, .unset, .unset, .unset, .unset]) rfl ?_
      show Steps p.tables e below (T14.setTop (mkF m 69 #[.val (.long qa), .second, .val (.long qb), .second, .val (.long qp), .second, .val (.int pm), .val (.long qx), .second, .val (.long qy), .second, .val (.long qs), .second, .val (.long qe), .second, .val (.long qq), .second, .val (.ref b13), .val (.int (pm &&& (7 : Int32))), .val (.long qs), .second, .unset, .unset, .unset, .unset, .unset] [])) _
      refine XS.iconst X14.here hx rfl (hb hby at_69) ?_
      show Steps p.tables e below (T14.setTop (mkF m 70 #[.val (.long qa), .second, .val (.long qb), .second, .val (.long qp), .second, .val (.int pm), .val (.long qx), .second, .val (.long qy), .second, .val (.long qs), .second, .val (.long qe), .second, .val (.long qq), .second, .val (.ref b13), .val (.int (pm &&& (7 : Int32))), .val (.long qs), .second, .unset, .unset, .unset, .unset, .unset] [(.int (1 : Int32))])) _
      refine XS.istore X14.here hx rfl (hb hby at_70) rfl (l' := #[.val (.long qa), .second, .val (.long qb), .second, .val (.long qp), .second, .val (.int pm), .val (.long qx), .second, .val (.long qy), .second, .val (.long qs), .second, .val (.long qe), .second, .val (.long qq), .second, .val (.ref b13), .val (.int (pm &&& (7 : Int32))), .val (.long qs), .second, .val (.int (1 : Int32)), .unset, .unset, .unset, .unset]) rfl ?_
      show Steps p.tables e below (T14.setTop (mkF m 72 #[.val (.long qa), .second, .val (.long qb), .second, .val (.long qp), .second, .val (.int pm), .val (.long qx), .second, .val (.long qy), .second, .val (.long qs), .second, .val (.long qe), .second, .val (.long qq), .second, .val (.ref b13), .val (.int (pm &&& (7 : Int32))), .val (.long qs), .second, .val (.int (1 : Int32)), .unset, .unset, .unset, .unset] [])) _
      refine XS.goto X14.here hx rfl (pc0 := 72) (pc' := 266) rfl (hb hby at_72) (by decide) (by decide) ?_
      show Steps p.tables e below (T14.setTop (mkF m 266 #[.val (.long qa), .second, .val (.long qb), .second, .val (.long qp), .second, .val (.int pm), .val (.long qx), .second, .val (.long qy), .second, .val (.long qs), .second, .val (.long qe), .second, .val (.long qq), .second, .val (.ref b13), .val (.int (pm &&& (7 : Int32))), .val (.long qs), .second, .val (.int (1 : Int32)), .unset, .unset, .unset, .unset] [])) _
      refine XS.aload X14.here hx rfl (hb hby at_266) rfl rfl ?_
      show Steps p.tables e below (T14.setTop (mkF m 268 #[.val (.long qa), .second, .val (.long qb), .second, .val (.long qp), .second, .val (.int pm), .val (.long qx), .second, .val (.long qy), .second, .val (.long qs), .second, .val (.long qe), .second, .val (.long qq), .second, .val (.ref b13), .val (.int (pm &&& (7 : Int32))), .val (.long qs), .second, .val (.int (1 : Int32)), .unset, .unset, .unset, .unset] [(.ref b13)])) _
      refine XS.lload X14.here hx rfl (hb hby at_268) rfl ?_
      exact k
    obtain ⟨cq16, kq16, q16a, q16b, q16c⟩ := isOf hZ rfl A13_14
    obtain ⟨_, _, ⟨T16, L16, k16, n16⟩, -, X16, ⟨Lc16, hQ16, l16, y16, z16⟩, st16⟩ := X14.virtualBack hx (y := (⟨"com/example/terq/terq/core/Period", "contains", "(J)Z"⟩ : MethodName)) (z := (⟨"com/example/terq/terq/core/Period", "contains", "(J)Z"⟩ : MethodName)) hown (mvT hZ (own_w hw 26 rfl)) (mvT hZ (own_w hw 27 rfl)) (notFace_of_selects (args := #[]) (mvT hZ (own_w hw 29 rfl))) (mvT hZ (own_w hw 29 rfl)) (mvT hZ (own_w hw 28 rfl)) (by decide) (backOf (W := 0) (rm6 l Z a0 hw [] b13 qs qs qe T14.heap n0 Zs14 Fs14 Fe14) hZ (own_w hw 30 rfl) (own_w hw 10 rfl) (by decide) (by decide)) q16a q16c (g := (mkF m 270 #[.val (.long qa), .second, .val (.long qb), .second, .val (.long qp), .second, .val (.int pm), .val (.long qx), .second, .val (.long qy), .second, .val (.long qs), .second, .val (.long qe), .second, .val (.long qq), .second, .val (.ref b13), .val (.int (pm &&& (7 : Int32))), .val (.long qs), .second, .val (.int (1 : Int32)), .unset, .unset, .unset, .unset] [(.long qs), (.ref b13)])) rfl (by rw [hml]; rfl) (Steps.refl _) (argsL := [(.long qs)]) (rest := []) (lenOf own_pd3 rfl) rfl (by show 2 * 0 + _ ≤ _; exact Nat.le_of_eq rfl) (hb hby at_270) (fun _ _ => ⟨rfl, rfl, (by decide : 1 + 0 ≤ _), (by decide : 2 + 0 ≤ _)⟩)
    dsimp only [Pt.U, Pt.locs, Pt.cells, Pt.slots] at X16 l16 y16 z16 st16 hQ16
    subst l16 y16 z16
    obtain ⟨rfl, Nq16, eq16⟩ := hQ16
    have N16 := Fr.app N14 Nq16
    refine own_pre (fun t k => st16.trans k) ?_
    refine own_pre (A := (T16.setTop (mkF m 275 #[.val (.long qa), .second, .val (.long qb), .second, .val (.long qp), .second, .val (.int pm), .val (.long qx), .second, .val (.long qy), .second, .val (.long qs), .second, .val (.long qe), .second, .val (.long qq), .second, .val (.ref b13), .val (.int (pm &&& (7 : Int32))), .val (.long qs), .second, .val (.int (1 : Int32)), .unset, .unset, .unset, .unset] [(.int (1 : Int32)), (.int (own_cont qs qs qe))]))) ?_ ?_
    · intro t k
      show Steps p.tables e below (T16.setTop (mkF m 273 #[.val (.long qa), .second, .val (.long qb), .second, .val (.long qp), .second, .val (.int pm), .val (.long qx), .second, .val (.long qy), .second, .val (.long qs), .second, .val (.long qe), .second, .val (.long qq), .second, .val (.ref b13), .val (.int (pm &&& (7 : Int32))), .val (.long qs), .second, .val (.int (1 : Int32)), .unset, .unset, .unset, .unset] [(.int (own_cont qs qs qe))])) _
      refine XS.iload X16.here hx rfl (hb hby at_273) rfl ?_
      exact k
    obtain ⟨v18, hv18⟩ : ∃ z : Int32, z = (if (own_cont qs qs qe) = (1 : Int32) then (1 : Int32) else (0 : Int32)) := ⟨_, rfl⟩
    refine own_pre (A := (T16.setTop (mkF m 283 #[.val (.long qa), .second, .val (.long qb), .second, .val (.long qp), .second, .val (.int pm), .val (.long qx), .second, .val (.long qy), .second, .val (.long qs), .second, .val (.long qe), .second, .val (.long qq), .second, .val (.ref b13), .val (.int (pm &&& (7 : Int32))), .val (.long qs), .second, .val (.int (1 : Int32)), .unset, .unset, .unset, .unset] [(.int v18)]))) ?_ ?_
    · intro t k
      show Steps p.tables e below (T16.setTop (mkF m 275 #[.val (.long qa), .second, .val (.long qb), .second, .val (.long qp), .second, .val (.int pm), .val (.long qx), .second, .val (.long qy), .second, .val (.long qs), .second, .val (.long qe), .second, .val (.long qq), .second, .val (.ref b13), .val (.int (pm &&& (7 : Int32))), .val (.long qs), .second, .val (.int (1 : Int32)), .unset, .unset, .unset, .unset] [(.int (1 : Int32)), (.int (own_cont qs qs qe))])) _
      by_cases hc17 : (own_cont qs qs qe) = (1 : Int32)
      · skip
        refine XS.icmpNo X16.here hx rfl (hb hby at_275) rfl (teq hc17).2 ?_
        show Steps p.tables e below (T16.setTop (mkF m 278 #[.val (.long qa), .second, .val (.long qb), .second, .val (.long qp), .second, .val (.int pm), .val (.long qx), .second, .val (.long qy), .second, .val (.long qs), .second, .val (.long qe), .second, .val (.long qq), .second, .val (.ref b13), .val (.int (pm &&& (7 : Int32))), .val (.long qs), .second, .val (.int (1 : Int32)), .unset, .unset, .unset, .unset] [])) _
        refine XS.iconst X16.here hx rfl (hb hby at_278) ?_
        show Steps p.tables e below (T16.setTop (mkF m 279 #[.val (.long qa), .second, .val (.long qb), .second, .val (.long qp), .second, .val (.int pm), .val (.long qx), .second, .val (.long qy), .second, .val (.long qs), .second, .val (.long qe), .second, .val (.long qq), .second, .val (.ref b13), .val (.int (pm &&& (7 : Int32))), .val (.long qs), .second, .val (.int (1 : Int32)), .unset, .unset, .unset, .unset] [(.int (1 : Int32))])) _
        refine XS.goto X16.here hx rfl (pc0 := 279) (pc' := 283) rfl (hb hby at_279) (by decide) (by decide) ?_
        rw [show v18 = (1 : Int32) from hv18.trans (by simp only [if_pos hc17])] at k
        exact k
      · skip
        refine XS.icmpYes X16.here hx rfl (pc0 := 275) (pc' := 282) rfl (hb hby at_275) rfl (feq hc17).2 (by decide) (by decide) ?_
        show Steps p.tables e below (T16.setTop (mkF m 282 #[.val (.long qa), .second, .val (.long qb), .second, .val (.long qp), .second, .val (.int pm), .val (.long qx), .second, .val (.long qy), .second, .val (.long qs), .second, .val (.long qe), .second, .val (.long qq), .second, .val (.ref b13), .val (.int (pm &&& (7 : Int32))), .val (.long qs), .second, .val (.int (1 : Int32)), .unset, .unset, .unset, .unset] [])) _
        refine XS.iconst X16.here hx rfl (hb hby at_282) ?_
        rw [show v18 = (0 : Int32) from hv18.trans (by simp only [if_neg hc17])] at k
        exact k
    have hz : v18 = (1 : Int32) := by rw [hv18, if_pos (own_f0 qs qe me)]
    rw [hz]
    obtain ⟨fs, hr, hrun, hended, hW, hsame⟩ := X16.leave (hlocks := BodyLoose.notSynchronized Bd) (v := some (.int (1 : Int32))) (fun h => by rw [Bd.returns] at h; cases h)
    refine ⟨_, _, retOut X16 hx Bd.returns rfl (Or.inl ⟨rfl, Or.inr (Or.inl rfl), _, rfl⟩) (hb hby at_283) hr, hrun, hended, _, _, rfl, ?_, ⟨_, rfl⟩, hW, hsame.mono (by decide) (by decide)⟩
    show own_Q0 h0 n0 _ T16.heap _
    rw [eq16]
    exact ⟨rfl, N16⟩
  · skip
    refine own_pre (A := (T14.setTop (mkF m 75 #[.val (.long qa), .second, .val (.long qb), .second, .val (.long qp), .second, .val (.int pm), .val (.long qx), .second, .val (.long qy), .second, .val (.long qs), .second, .val (.long qe), .second, .val (.long qq), .second, .val (.ref b13), .val (.int (pm &&& (7 : Int32))), .unset, .unset, .unset, .unset, .unset, .unset, .unset] []))) ?_ ?_
    · intro t k
      refine XS.ifYes X14.here hx rfl (pc0 := 62) (pc' := 75) rfl (hb hby at_62) rfl ((if0 _ _).trans (feq hc15).2) (by decide) (by decide) ?_
      exact k
    refine own_pre (A := (T14.setTop (mkF m 78 #[.val (.long qa), .second, .val (.long qb), .second, .val (.long qp), .second, .val (.int pm), .val (.long qx), .second, .val (.long qy), .second, .val (.long qs), .second, .val (.long qe), .second, .val (.long qq), .second, .val (.ref b13), .val (.int (pm &&& (7 : Int32))), .unset, .unset, .unset, .unset, .unset, .unset, .unset] [(.int (1 : Int32)), (.int (pm &&& (7 : Int32)))]))) ?_ ?_
    · intro t k
      show Steps p.tables e below (T14.setTop (mkF m 75 #[.val (.long qa), .second, .val (.long qb), .second, .val (.long qp), .second, .val (.int pm), .val (.long qx), .second, .val (.long qy), .second, .val (.long qs), .second, .val (.long qe), .second, .val (.long qq), .second, .val (.ref b13), .val (.int (pm &&& (7 : Int32))), .unset, .unset, .unset, .unset, .unset, .unset, .unset] [])) _
      refine XS.iload X14.here hx rfl (hb hby at_75) rfl ?_
      show Steps p.tables e below (T14.setTop (mkF m 77 #[.val (.long qa), .second, .val (.long qb), .second, .val (.long qp), .second, .val (.int pm), .val (.long qx), .second, .val (.long qy), .second, .val (.long qs), .second, .val (.long qe), .second, .val (.long qq), .second, .val (.ref b13), .val (.int (pm &&& (7 : Int32))), .unset, .unset, .unset, .unset, .unset, .unset, .unset] [(.int (pm &&& (7 : Int32)))])) _
      refine XS.iconst X14.here hx rfl (hb hby at_77) ?_
      exact k
    by_cases hc19 : (pm &&& (7 : Int32)) = (1 : Int32)
    · skip
      refine own_pre (A := (T14.setTop (mkF m 81 #[.val (.long qa), .second, .val (.long qb), .second, .val (.long qp), .second, .val (.int pm), .val (.long qx), .second, .val (.long qy), .second, .val (.long qs), .second, .val (.long qe), .second, .val (.long qq), .second, .val (.ref b13), .val (.int (pm &&& (7 : Int32))), .unset, .unset, .unset, .unset, .unset, .unset, .unset] []))) ?_ ?_
      · intro t k
        refine XS.icmpNo X14.here hx rfl (hb hby at_78) rfl (teq hc19).2 ?_
        exact k
      refine own_pre (A := (T14.setTop (mkF m 270 #[.val (.long qa), .second, .val (.long qb), .second, .val (.long qp), .second, .val (.int pm), .val (.long qx), .second, .val (.long qy), .second, .val (.long qs), .second, .val (.long qe), .second, .val (.long qq), .second, .val (.ref b13), .val (.int (pm &&& (7 : Int32))), .val (.long qe), .second, .val (.int (1 : Int32)), .unset, .unset, .unset, .unset] [(.long qe), (.ref b13)]))) ?_ ?_
      · intro t k
        show Steps p.tables e below (T14.setTop (mkF m 81 #[.val (.long qa), .second, .val (.long qb), .second, .val (.long qp), .second, .val (.int pm), .val (.long qx), .second, .val (.long qy), .second, .val (.long qs), .second, .val (.long qe), .second, .val (.long qq), .second, .val (.ref b13), .val (.int (pm &&& (7 : Int32))), .unset, .unset, .unset, .unset, .unset, .unset, .unset] [])) _
        refine XS.lload X14.here hx rfl (hb hby at_81) rfl ?_
        show Steps p.tables e below (T14.setTop (mkF m 83 #[.val (.long qa), .second, .val (.long qb), .second, .val (.long qp), .second, .val (.int pm), .val (.long qx), .second, .val (.long qy), .second, .val (.long qs), .second, .val (.long qe), .second, .val (.long qq), .second, .val (.ref b13), .val (.int (pm &&& (7 : Int32))), .unset, .unset, .unset, .unset, .unset, .unset, .unset] [(.long qe)])) _
        refine XS.lstore X14.here hx rfl (hb hby at_83) rfl (l' := #[.val (.long qa), .second, .val (.long qb), .second, .val (.long qp), .second, .val (.int pm), .val (.long qx), .second, .val (.long qy), .second, .val (.long qs), .second, .val (.long qe), .second, .val (.long qq), .second, .val (.ref b13), .val (.int (pm &&& (7 : Int32))), .val (.long qe), .second, .unset, .unset, .unset, .unset, .unset]) rfl ?_
        show Steps p.tables e below (T14.setTop (mkF m 85 #[.val (.long qa), .second, .val (.long qb), .second, .val (.long qp), .second, .val (.int pm), .val (.long qx), .second, .val (.long qy), .second, .val (.long qs), .second, .val (.long qe), .second, .val (.long qq), .second, .val (.ref b13), .val (.int (pm &&& (7 : Int32))), .val (.long qe), .second, .unset, .unset, .unset, .unset, .unset] [])) _
        refine XS.iconst X14.here hx rfl (hb hby at_85) ?_
        show Steps p.tables e below (T14.setTop (mkF m 86 #[.val (.long qa), .second, .val (.long qb), .second, .val (.long qp), .second, .val (.int pm), .val (.long qx), .second, .val (.long qy), .second, .val (.long qs), .second, .val (.long qe), .second, .val (.long qq), .second, .val (.ref b13), .val (.int (pm &&& (7 : Int32))), .val (.long qe), .second, .unset, .unset, .unset, .unset, .unset] [(.int (1 : Int32))])) _
        refine XS.istore X14.here hx rfl (hb hby at_86) rfl (l' := #[.val (.long qa), .second, .val (.long qb), .second, .val (.long qp), .second, .val (.int pm), .val (.long qx), .second, .val (.long qy), .second, .val (.long qs), .second, .val (.long qe), .second, .val (.long qq), .second, .val (.ref b13), .val (.int (pm &&& (7 : Int32))), .val (.long qe), .second, .val (.int (1 : Int32)), .unset, .unset, .unset, .unset]) rfl ?_
        show Steps p.tables e below (T14.setTop (mkF m 88 #[.val (.long qa), .second, .val (.long qb), .second, .val (.long qp), .second, .val (.int pm), .val (.long qx), .second, .val (.long qy), .second, .val (.long qs), .second, .val (.long qe), .second, .val (.long qq), .second, .val (.ref b13), .val (.int (pm &&& (7 : Int32))), .val (.long qe), .second, .val (.int (1 : Int32)), .unset, .unset, .unset, .unset] [])) _
        refine XS.goto X14.here hx rfl (pc0 := 88) (pc' := 266) rfl (hb hby at_88) (by decide) (by decide) ?_
        show Steps p.tables e below (T14.setTop (mkF m 266 #[.val (.long qa), .second, .val (.long qb), .second, .val (.long qp), .second, .val (.int pm), .val (.long qx), .second, .val (.long qy), .second, .val (.long qs), .second, .val (.long qe), .second, .val (.long qq), .second, .val (.ref b13), .val (.int (pm &&& (7 : Int32))), .val (.long qe), .second, .val (.int (1 : Int32)), .unset, .unset, .unset, .unset] [])) _
        refine XS.aload X14.here hx rfl (hb hby at_266) rfl rfl ?_
        show Steps p.tables e below (T14.setTop (mkF m 268 #[.val (.long qa), .second, .val (.long qb), .second, .val (.long qp), .second, .val (.int pm), .val (.long qx), .second, .val (.long qy), .second, .val (.long qs), .second, .val (.long qe), .second, .val (.long qq), .second, .val (.ref b13), .val (.int (pm &&& (7 : Int32))), .val (.long qe), .second, .val (.int (1 : Int32)), .unset, .unset, .unset, .unset] [(.ref b13)])) _
        refine XS.lload X14.here hx rfl (hb hby at_268) rfl ?_
        exact k
      obtain ⟨cq20, kq20, q20a, q20b, q20c⟩ := isOf hZ rfl A13_14
      obtain ⟨_, _, ⟨T20, L20, k20, n20⟩, -, X20, ⟨Lc20, hQ20, l20, y20, z20⟩, st20⟩ := X14.virtualBack hx (y := (⟨"com/example/terq/terq/core/Period", "contains", "(J)Z"⟩ : MethodName)) (z := (⟨"com/example/terq/terq/core/Period", "contains", "(J)Z"⟩ : MethodName)) hown (mvT hZ (own_w hw 26 rfl)) (mvT hZ (own_w hw 27 rfl)) (notFace_of_selects (args := #[]) (mvT hZ (own_w hw 29 rfl))) (mvT hZ (own_w hw 29 rfl)) (mvT hZ (own_w hw 28 rfl)) (by decide) (backOf (W := 0) (rm6 l Z a0 hw [] b13 qe qs qe T14.heap n0 Zs14 Fs14 Fe14) hZ (own_w hw 30 rfl) (own_w hw 10 rfl) (by decide) (by decide)) q20a q20c (g := (mkF m 270 #[.val (.long qa), .second, .val (.long qb), .second, .val (.long qp), .second, .val (.int pm), .val (.long qx), .second, .val (.long qy), .second, .val (.long qs), .second, .val (.long qe), .second, .val (.long qq), .second, .val (.ref b13), .val (.int (pm &&& (7 : Int32))), .val (.long qe), .second, .val (.int (1 : Int32)), .unset, .unset, .unset, .unset] [(.long qe), (.ref b13)])) rfl (by rw [hml]; rfl) (Steps.refl _) (argsL := [(.long qe)]) (rest := []) (lenOf own_pd3 rfl) rfl (by show 2 * 0 + _ ≤ _; exact Nat.le_of_eq rfl) (hb hby at_270) (fun _ _ => ⟨rfl, rfl, (by decide : 1 + 0 ≤ _), (by decide : 2 + 0 ≤ _)⟩)
      dsimp only [Pt.U, Pt.locs, Pt.cells, Pt.slots] at X20 l20 y20 z20 st20 hQ20
      subst l20 y20 z20
      obtain ⟨rfl, Nq20, eq20⟩ := hQ20
      have N20 := Fr.app N14 Nq20
      refine own_pre (fun t k => st20.trans k) ?_
      refine own_pre (A := (T20.setTop (mkF m 275 #[.val (.long qa), .second, .val (.long qb), .second, .val (.long qp), .second, .val (.int pm), .val (.long qx), .second, .val (.long qy), .second, .val (.long qs), .second, .val (.long qe), .second, .val (.long qq), .second, .val (.ref b13), .val (.int (pm &&& (7 : Int32))), .val (.long qe), .second, .val (.int (1 : Int32)), .unset, .unset, .unset, .unset] [(.int (1 : Int32)), (.int (own_cont qe qs qe))]))) ?_ ?_
      · intro t k
        show Steps p.tables e below (T20.setTop (mkF m 273 #[.val (.long qa), .second, .val (.long qb), .second, .val (.long qp), .second, .val (.int pm), .val (.long qx), .second, .val (.long qy), .second, .val (.long qs), .second, .val (.long qe), .second, .val (.long qq), .second, .val (.ref b13), .val (.int (pm &&& (7 : Int32))), .val (.long qe), .second, .val (.int (1 : Int32)), .unset, .unset, .unset, .unset] [(.int (own_cont qe qs qe))])) _
        refine XS.iload X20.here hx rfl (hb hby at_273) rfl ?_
        exact k
      obtain ⟨v22, hv22⟩ : ∃ z : Int32, z = (if (own_cont qe qs qe) = (1 : Int32) then (1 : Int32) else (0 : Int32)) := ⟨_, rfl⟩
      refine own_pre (A := (T20.setTop (mkF m 283 #[.val (.long qa), .second, .val (.long qb), .second, .val (.long qp), .second, .val (.int pm), .val (.long qx), .second, .val (.long qy), .second, .val (.long qs), .second, .val (.long qe), .second, .val (.long qq), .second, .val (.ref b13), .val (.int (pm &&& (7 : Int32))), .val (.long qe), .second, .val (.int (1 : Int32)), .unset, .unset, .unset, .unset] [(.int v22)]))) ?_ ?_
      · intro t k
        show Steps p.tables e below (T20.setTop (mkF m 275 #[.val (.long qa), .second, .val (.long qb), .second, .val (.long qp), .second, .val (.int pm), .val (.long qx), .second, .val (.long qy), .second, .val (.long qs), .second, .val (.long qe), .second, .val (.long qq), .second, .val (.ref b13), .val (.int (pm &&& (7 : Int32))), .val (.long qe), .second, .val (.int (1 : Int32)), .unset, .unset, .unset, .unset] [(.int (1 : Int32)), (.int (own_cont qe qs qe))])) _
        by_cases hc21 : (own_cont qe qs qe) = (1 : Int32)
        · skip
          refine XS.icmpNo X20.here hx rfl (hb hby at_275) rfl (teq hc21).2 ?_
          show Steps p.tables e below (T20.setTop (mkF m 278 #[.val (.long qa), .second, .val (.long qb), .second, .val (.long qp), .second, .val (.int pm), .val (.long qx), .second, .val (.long qy), .second, .val (.long qs), .second, .val (.long qe), .second, .val (.long qq), .second, .val (.ref b13), .val (.int (pm &&& (7 : Int32))), .val (.long qe), .second, .val (.int (1 : Int32)), .unset, .unset, .unset, .unset] [])) _
          refine XS.iconst X20.here hx rfl (hb hby at_278) ?_
          show Steps p.tables e below (T20.setTop (mkF m 279 #[.val (.long qa), .second, .val (.long qb), .second, .val (.long qp), .second, .val (.int pm), .val (.long qx), .second, .val (.long qy), .second, .val (.long qs), .second, .val (.long qe), .second, .val (.long qq), .second, .val (.ref b13), .val (.int (pm &&& (7 : Int32))), .val (.long qe), .second, .val (.int (1 : Int32)), .unset, .unset, .unset, .unset] [(.int (1 : Int32))])) _
          refine XS.goto X20.here hx rfl (pc0 := 279) (pc' := 283) rfl (hb hby at_279) (by decide) (by decide) ?_
          rw [show v22 = (1 : Int32) from hv22.trans (by simp only [if_pos hc21])] at k
          exact k
        · skip
          refine XS.icmpYes X20.here hx rfl (pc0 := 275) (pc' := 282) rfl (hb hby at_275) rfl (feq hc21).2 (by decide) (by decide) ?_
          show Steps p.tables e below (T20.setTop (mkF m 282 #[.val (.long qa), .second, .val (.long qb), .second, .val (.long qp), .second, .val (.int pm), .val (.long qx), .second, .val (.long qy), .second, .val (.long qs), .second, .val (.long qe), .second, .val (.long qq), .second, .val (.ref b13), .val (.int (pm &&& (7 : Int32))), .val (.long qe), .second, .val (.int (1 : Int32)), .unset, .unset, .unset, .unset] [])) _
          refine XS.iconst X20.here hx rfl (hb hby at_282) ?_
          rw [show v22 = (0 : Int32) from hv22.trans (by simp only [if_neg hc21])] at k
          exact k
      have hz : v22 = (1 : Int32) := by rw [hv22, if_pos (own_f1 qs qe me)]
      rw [hz]
      obtain ⟨fs, hr, hrun, hended, hW, hsame⟩ := X20.leave (hlocks := BodyLoose.notSynchronized Bd) (v := some (.int (1 : Int32))) (fun h => by rw [Bd.returns] at h; cases h)
      refine ⟨_, _, retOut X20 hx Bd.returns rfl (Or.inl ⟨rfl, Or.inr (Or.inl rfl), _, rfl⟩) (hb hby at_283) hr, hrun, hended, _, _, rfl, ?_, ⟨_, rfl⟩, hW, hsame.mono (by decide) (by decide)⟩
      show own_Q0 h0 n0 _ T20.heap _
      rw [eq20]
      exact ⟨rfl, N20⟩
    · skip
      refine own_pre (A := (T14.setTop (mkF m 91 #[.val (.long qa), .second, .val (.long qb), .second, .val (.long qp), .second, .val (.int pm), .val (.long qx), .second, .val (.long qy), .second, .val (.long qs), .second, .val (.long qe), .second, .val (.long qq), .second, .val (.ref b13), .val (.int (pm &&& (7 : Int32))), .unset, .unset, .unset, .unset, .unset, .unset, .unset] []))) ?_ ?_
      · intro t k
        refine XS.icmpYes X14.here hx rfl (pc0 := 78) (pc' := 91) rfl (hb hby at_78) rfl (feq hc19).2 (by decide) (by decide) ?_
        exact k
      refine own_pre (A := (T14.setTop (mkF m 94 #[.val (.long qa), .second, .val (.long qb), .second, .val (.long qp), .second, .val (.int pm), .val (.long qx), .second, .val (.long qy), .second, .val (.long qs), .second, .val (.long qe), .second, .val (.long qq), .second, .val (.ref b13), .val (.int (pm &&& (7 : Int32))), .unset, .unset, .unset, .unset, .unset, .unset, .unset] [(.int (2 : Int32)), (.int (pm &&& (7 : Int32)))]))) ?_ ?_
      · intro t k
        show Steps p.tables e below (T14.setTop (mkF m 91 #[.val (.long qa), .second, .val (.long qb), .second, .val (.long qp), .second, .val (.int pm), .val (.long qx), .second, .val (.long qy), .second, .val (.long qs), .second, .val (.long qe), .second, .val (.long qq), .second, .val (.ref b13), .val (.int (pm &&& (7 : Int32))), .unset, .unset, .unset, .unset, .unset, .unset, .unset] [])) _
        refine XS.iload X14.here hx rfl (hb hby at_91) rfl ?_
        show Steps p.tables e below (T14.setTop (mkF m 93 #[.val (.long qa), .second, .val (.long qb), .second, .val (.long qp), .second, .val (.int pm), .val (.long qx), .second, .val (.long qy), .second, .val (.long qs), .second, .val (.long qe), .second, .val (.long qq), .second, .val (.ref b13), .val (.int (pm &&& (7 : Int32))), .unset, .unset, .unset, .unset, .unset, .unset, .unset] [(.int (pm &&& (7 : Int32)))])) _
        refine XS.iconst X14.here hx rfl (hb hby at_93) ?_
        exact k
      by_cases hc23 : (pm &&& (7 : Int32)) = (2 : Int32)
      · skip
        refine own_pre (A := (T14.setTop (mkF m 97 #[.val (.long qa), .second, .val (.long qb), .second, .val (.long qp), .second, .val (.int pm), .val (.long qx), .second, .val (.long qy), .second, .val (.long qs), .second, .val (.long qe), .second, .val (.long qq), .second, .val (.ref b13), .val (.int (pm &&& (7 : Int32))), .unset, .unset, .unset, .unset, .unset, .unset, .unset] []))) ?_ ?_
        · intro t k
          refine XS.icmpNo X14.here hx rfl (hb hby at_94) rfl (teq hc23).2 ?_
          exact k
        refine own_pre (A := (T14.setTop (mkF m 110 #[.val (.long qa), .second, .val (.long qb), .second, .val (.long qp), .second, .val (.int pm), .val (.long qx), .second, .val (.long qy), .second, .val (.long qs), .second, .val (.long qe), .second, .val (.long qq), .second, .val (.ref b13), .val (.int (pm &&& (7 : Int32))), .unset, .unset, .unset, .val (.long (qe - qs)), .second, .unset, .unset] [(.int (lcmpW (qe - qs) (9223372036854775807 : Int64)))]))) ?_ ?_
        · intro t k
          show Steps p.tables e below (T14.setTop (mkF m 97 #[.val (.long qa), .second, .val (.long qb), .second, .val (.long qp), .second, .val (.int pm), .val (.long qx), .second, .val (.long qy), .second, .val (.long qs), .second, .val (.long qe), .second, .val (.long qq), .second, .val (.ref b13), .val (.int (pm &&& (7 : Int32))), .unset, .unset, .unset, .unset, .unset, .unset, .unset] [])) _
          refine XS.lload X14.here hx rfl (hb hby at_97) rfl ?_
          show Steps p.tables e below (T14.setTop (mkF m 99 #[.val (.long qa), .second, .val (.long qb), .second, .val (.long qp), .second, .val (.int pm), .val (.long qx), .second, .val (.long qy), .second, .val (.long qs), .second, .val (.long qe), .second, .val (.long qq), .second, .val (.ref b13), .val (.int (pm &&& (7 : Int32))), .unset, .unset, .unset, .unset, .unset, .unset, .unset] [(.long qe)])) _
          refine XS.lload X14.here hx rfl (hb hby at_99) rfl ?_
          show Steps p.tables e below (T14.setTop (mkF m 101 #[.val (.long qa), .second, .val (.long qb), .second, .val (.long qp), .second, .val (.int pm), .val (.long qx), .second, .val (.long qy), .second, .val (.long qs), .second, .val (.long qe), .second, .val (.long qq), .second, .val (.ref b13), .val (.int (pm &&& (7 : Int32))), .unset, .unset, .unset, .unset, .unset, .unset, .unset] [(.long qs), (.long qe)])) _
          refine XS.lsub X14.here hx rfl (hb hby at_101) rfl ?_
          show Steps p.tables e below (T14.setTop (mkF m 102 #[.val (.long qa), .second, .val (.long qb), .second, .val (.long qp), .second, .val (.int pm), .val (.long qx), .second, .val (.long qy), .second, .val (.long qs), .second, .val (.long qe), .second, .val (.long qq), .second, .val (.ref b13), .val (.int (pm &&& (7 : Int32))), .unset, .unset, .unset, .unset, .unset, .unset, .unset] [(.long (qe - qs))])) _
          refine XS.lstore X14.here hx rfl (hb hby at_102) rfl (l' := #[.val (.long qa), .second, .val (.long qb), .second, .val (.long qp), .second, .val (.int pm), .val (.long qx), .second, .val (.long qy), .second, .val (.long qs), .second, .val (.long qe), .second, .val (.long qq), .second, .val (.ref b13), .val (.int (pm &&& (7 : Int32))), .unset, .unset, .unset, .val (.long (qe - qs)), .second, .unset, .unset]) rfl ?_
          show Steps p.tables e below (T14.setTop (mkF m 104 #[.val (.long qa), .second, .val (.long qb), .second, .val (.long qp), .second, .val (.int pm), .val (.long qx), .second, .val (.long qy), .second, .val (.long qs), .second, .val (.long qe), .second, .val (.long qq), .second, .val (.ref b13), .val (.int (pm &&& (7 : Int32))), .unset, .unset, .unset, .val (.long (qe - qs)), .second, .unset, .unset] [])) _
          refine XS.lload X14.here hx rfl (hb hby at_104) rfl ?_
          show Steps p.tables e below (T14.setTop (mkF m 106 #[.val (.long qa), .second, .val (.long qb), .second, .val (.long qp), .second, .val (.int pm), .val (.long qx), .second, .val (.long qy), .second, .val (.long qs), .second, .val (.long qe), .second, .val (.long qq), .second, .val (.ref b13), .val (.int (pm &&& (7 : Int32))), .unset, .unset, .unset, .val (.long (qe - qs)), .second, .unset, .unset] [(.long (qe - qs))])) _
          refine X14.ldc2Long hx hown (mvT hZ (own_w hw 0 rfl)) (g := (mkF m 106 #[.val (.long qa), .second, .val (.long qb), .second, .val (.long qp), .second, .val (.int pm), .val (.long qx), .second, .val (.long qy), .second, .val (.long qs), .second, .val (.long qe), .second, .val (.long qq), .second, .val (.ref b13), .val (.int (pm &&& (7 : Int32))), .unset, .unset, .unset, .val (.long (qe - qs)), .second, .unset, .unset] [(.long (qe - qs))])) rfl (hb hby at_106) _ ?_
          show Steps p.tables e below (T14.setTop (mkF m 109 #[.val (.long qa), .second, .val (.long qb), .second, .val (.long qp), .second, .val (.int pm), .val (.long qx), .second, .val (.long qy), .second, .val (.long qs), .second, .val (.long qe), .second, .val (.long qq), .second, .val (.ref b13), .val (.int (pm &&& (7 : Int32))), .unset, .unset, .unset, .val (.long (qe - qs)), .second, .unset, .unset] [(.long (9223372036854775807 : Int64)), (.long (qe - qs))])) _
          refine XS.lcmp X14.here hx rfl (hb hby at_109) rfl ?_
          exact k
        by_cases hc24 : (qe - qs) = (9223372036854775807 : Int64)
        · skip
          refine own_pre (A := (T14.setTop (mkF m 113 #[.val (.long qa), .second, .val (.long qb), .second, .val (.long qp), .second, .val (.int pm), .val (.long qx), .second, .val (.long qy), .second, .val (.long qs), .second, .val (.long qe), .second, .val (.long qq), .second, .val (.ref b13), .val (.int (pm &&& (7 : Int32))), .unset, .unset, .unset, .val (.long (qe - qs)), .second, .unset, .unset] []))) ?_ ?_
          · intro t k
            refine XS.ifNo X14.here hx rfl (hb hby at_110) rfl ((if0 _ _).trans (teq ((lw_eq (qe - qs) (9223372036854775807 : Int64)).mpr hc24)).2) ?_
            exact k
          refine own_pre (A := (T14.setTop (mkF m 270 #[.val (.long qa), .second, .val (.long qb), .second, .val (.long qp), .second, .val (.int pm), .val (.long qx), .second, .val (.long qy), .second, .val (.long qs), .second, .val (.long qe), .second, .val (.long qq), .second, .val (.ref b13), .val (.int (pm &&& (7 : Int32))), .val (.long (qs + qq)), .second, .val (.int (1 : Int32)), .val (.long (qe - qs)), .second, .val (.long qq), .second] [(.long (qs + qq)), (.ref b13)]))) ?_ ?_
          · intro t k
            show Steps p.tables e below (T14.setTop (mkF m 113 #[.val (.long qa), .second, .val (.long qb), .second, .val (.long qp), .second, .val (.int pm), .val (.long qx), .second, .val (.long qy), .second, .val (.long qs), .second, .val (.long qe), .second, .val (.long qq), .second, .val (.ref b13), .val (.int (pm &&& (7 : Int32))), .unset, .unset, .unset, .val (.long (qe - qs)), .second, .unset, .unset] [])) _
            refine XS.lload X14.here hx rfl (hb hby at_113) rfl ?_
            show Steps p.tables e below (T14.setTop (mkF m 115 #[.val (.long qa), .second, .val (.long qb), .second, .val (.long qp), .second, .val (.int pm), .val (.long qx), .second, .val (.long qy), .second, .val (.long qs), .second, .val (.long qe), .second, .val (.long qq), .second, .val (.ref b13), .val (.int (pm &&& (7 : Int32))), .unset, .unset, .unset, .val (.long (qe - qs)), .second, .unset, .unset] [(.long qq)])) _
            refine XS.goto X14.here hx rfl (pc0 := 115) (pc' := 125) rfl (hb hby at_115) (by decide) (by decide) ?_
            show Steps p.tables e below (T14.setTop (mkF m 125 #[.val (.long qa), .second, .val (.long qb), .second, .val (.long qp), .second, .val (.int pm), .val (.long qx), .second, .val (.long qy), .second, .val (.long qs), .second, .val (.long qe), .second, .val (.long qq), .second, .val (.ref b13), .val (.int (pm &&& (7 : Int32))), .unset, .unset, .unset, .val (.long (qe - qs)), .second, .unset, .unset] [(.long qq)])) _
            refine XS.lstore X14.here hx rfl (hb hby at_125) rfl (l' := #[.val (.long qa), .second, .val (.long qb), .second, .val (.long qp), .second, .val (.int pm), .val (.long qx), .second, .val (.long qy), .second, .val (.long qs), .second, .val (.long qe), .second, .val (.long qq), .second, .val (.ref b13), .val (.int (pm &&& (7 : Int32))), .unset, .unset, .unset, .val (.long (qe - qs)), .second, .val (.long qq), .second]) rfl ?_
            show Steps p.tables e below (T14.setTop (mkF m 127 #[.val (.long qa), .second, .val (.long qb), .second, .val (.long qp), .second, .val (.int pm), .val (.long qx), .second, .val (.long qy), .second, .val (.long qs), .second, .val (.long qe), .second, .val (.long qq), .second, .val (.ref b13), .val (.int (pm &&& (7 : Int32))), .unset, .unset, .unset, .val (.long (qe - qs)), .second, .val (.long qq), .second] [])) _
            refine XS.lload X14.here hx rfl (hb hby at_127) rfl ?_
            show Steps p.tables e below (T14.setTop (mkF m 129 #[.val (.long qa), .second, .val (.long qb), .second, .val (.long qp), .second, .val (.int pm), .val (.long qx), .second, .val (.long qy), .second, .val (.long qs), .second, .val (.long qe), .second, .val (.long qq), .second, .val (.ref b13), .val (.int (pm &&& (7 : Int32))), .unset, .unset, .unset, .val (.long (qe - qs)), .second, .val (.long qq), .second] [(.long qs)])) _
            refine XS.lload X14.here hx rfl (hb hby at_129) rfl ?_
            show Steps p.tables e below (T14.setTop (mkF m 131 #[.val (.long qa), .second, .val (.long qb), .second, .val (.long qp), .second, .val (.int pm), .val (.long qx), .second, .val (.long qy), .second, .val (.long qs), .second, .val (.long qe), .second, .val (.long qq), .second, .val (.ref b13), .val (.int (pm &&& (7 : Int32))), .unset, .unset, .unset, .val (.long (qe - qs)), .second, .val (.long qq), .second] [(.long qq), (.long qs)])) _
            refine XS.ladd X14.here hx rfl (hb hby at_131) rfl ?_
            show Steps p.tables e below (T14.setTop (mkF m 132 #[.val (.long qa), .second, .val (.long qb), .second, .val (.long qp), .second, .val (.int pm), .val (.long qx), .second, .val (.long qy), .second, .val (.long qs), .second, .val (.long qe), .second, .val (.long qq), .second, .val (.ref b13), .val (.int (pm &&& (7 : Int32))), .unset, .unset, .unset, .val (.long (qe - qs)), .second, .val (.long qq), .second] [(.long (qs + qq))])) _
            refine XS.lstore X14.here hx rfl (hb hby at_132) rfl (l' := #[.val (.long qa), .second, .val (.long qb), .second, .val (.long qp), .second, .val (.int pm), .val (.long qx), .second, .val (.long qy), .second, .val (.long qs), .second, .val (.long qe), .second, .val (.long qq), .second, .val (.ref b13), .val (.int (pm &&& (7 : Int32))), .val (.long (qs + qq)), .second, .unset, .val (.long (qe - qs)), .second, .val (.long qq), .second]) rfl ?_
            show Steps p.tables e below (T14.setTop (mkF m 134 #[.val (.long qa), .second, .val (.long qb), .second, .val (.long qp), .second, .val (.int pm), .val (.long qx), .second, .val (.long qy), .second, .val (.long qs), .second, .val (.long qe), .second, .val (.long qq), .second, .val (.ref b13), .val (.int (pm &&& (7 : Int32))), .val (.long (qs + qq)), .second, .unset, .val (.long (qe - qs)), .second, .val (.long qq), .second] [])) _
            refine XS.iconst X14.here hx rfl (hb hby at_134) ?_
            show Steps p.tables e below (T14.setTop (mkF m 135 #[.val (.long qa), .second, .val (.long qb), .second, .val (.long qp), .second, .val (.int pm), .val (.long qx), .second, .val (.long qy), .second, .val (.long qs), .second, .val (.long qe), .second, .val (.long qq), .second, .val (.ref b13), .val (.int (pm &&& (7 : Int32))), .val (.long (qs + qq)), .second, .unset, .val (.long (qe - qs)), .second, .val (.long qq), .second] [(.int (1 : Int32))])) _
            refine XS.istore X14.here hx rfl (hb hby at_135) rfl (l' := #[.val (.long qa), .second, .val (.long qb), .second, .val (.long qp), .second, .val (.int pm), .val (.long qx), .second, .val (.long qy), .second, .val (.long qs), .second, .val (.long qe), .second, .val (.long qq), .second, .val (.ref b13), .val (.int (pm &&& (7 : Int32))), .val (.long (qs + qq)), .second, .val (.int (1 : Int32)), .val (.long (qe - qs)), .second, .val (.long qq), .second]) rfl ?_
            show Steps p.tables e below (T14.setTop (mkF m 137 #[.val (.long qa), .second, .val (.long qb), .second, .val (.long qp), .second, .val (.int pm), .val (.long qx), .second, .val (.long qy), .second, .val (.long qs), .second, .val (.long qe), .second, .val (.long qq), .second, .val (.ref b13), .val (.int (pm &&& (7 : Int32))), .val (.long (qs + qq)), .second, .val (.int (1 : Int32)), .val (.long (qe - qs)), .second, .val (.long qq), .second] [])) _
            refine XS.goto X14.here hx rfl (pc0 := 137) (pc' := 266) rfl (hb hby at_137) (by decide) (by decide) ?_
            show Steps p.tables e below (T14.setTop (mkF m 266 #[.val (.long qa), .second, .val (.long qb), .second, .val (.long qp), .second, .val (.int pm), .val (.long qx), .second, .val (.long qy), .second, .val (.long qs), .second, .val (.long qe), .second, .val (.long qq), .second, .val (.ref b13), .val (.int (pm &&& (7 : Int32))), .val (.long (qs + qq)), .second, .val (.int (1 : Int32)), .val (.long (qe - qs)), .second, .val (.long qq), .second] [])) _
            refine XS.aload X14.here hx rfl (hb hby at_266) rfl rfl ?_
            show Steps p.tables e below (T14.setTop (mkF m 268 #[.val (.long qa), .second, .val (.long qb), .second, .val (.long qp), .second, .val (.int pm), .val (.long qx), .second, .val (.long qy), .second, .val (.long qs), .second, .val (.long qe), .second, .val (.long qq), .second, .val (.ref b13), .val (.int (pm &&& (7 : Int32))), .val (.long (qs + qq)), .second, .val (.int (1 : Int32)), .val (.long (qe - qs)), .second, .val (.long qq), .second] [(.ref b13)])) _
            refine XS.lload X14.here hx rfl (hb hby at_268) rfl ?_
            exact k
          obtain ⟨cq25, kq25, q25a, q25b, q25c⟩ := isOf hZ rfl A13_14
          obtain ⟨_, _, ⟨T25, L25, k25, n25⟩, -, X25, ⟨Lc25, hQ25, l25, y25, z25⟩, st25⟩ := X14.virtualBack hx (y := (⟨"com/example/terq/terq/core/Period", "contains", "(J)Z"⟩ : MethodName)) (z := (⟨"com/example/terq/terq/core/Period", "contains", "(J)Z"⟩ : MethodName)) hown (mvT hZ (own_w hw 26 rfl)) (mvT hZ (own_w hw 27 rfl)) (notFace_of_selects (args := #[]) (mvT hZ (own_w hw 29 rfl))) (mvT hZ (own_w hw 29 rfl)) (mvT hZ (own_w hw 28 rfl)) (by decide) (backOf (W := 0) (rm6 l Z a0 hw [] b13 (qs + qq) qs qe T14.heap n0 Zs14 Fs14 Fe14) hZ (own_w hw 30 rfl) (own_w hw 10 rfl) (by decide) (by decide)) q25a q25c (g := (mkF m 270 #[.val (.long qa), .second, .val (.long qb), .second, .val (.long qp), .second, .val (.int pm), .val (.long qx), .second, .val (.long qy), .second, .val (.long qs), .second, .val (.long qe), .second, .val (.long qq), .second, .val (.ref b13), .val (.int (pm &&& (7 : Int32))), .val (.long (qs + qq)), .second, .val (.int (1 : Int32)), .val (.long (qe - qs)), .second, .val (.long qq), .second] [(.long (qs + qq)), (.ref b13)])) rfl (by rw [hml]; rfl) (Steps.refl _) (argsL := [(.long (qs + qq))]) (rest := []) (lenOf own_pd3 rfl) rfl (by show 2 * 0 + _ ≤ _; exact Nat.le_of_eq rfl) (hb hby at_270) (fun _ _ => ⟨rfl, rfl, (by decide : 1 + 0 ≤ _), (by decide : 2 + 0 ≤ _)⟩)
          dsimp only [Pt.U, Pt.locs, Pt.cells, Pt.slots] at X25 l25 y25 z25 st25 hQ25
          subst l25 y25 z25
          obtain ⟨rfl, Nq25, eq25⟩ := hQ25
          have N25 := Fr.app N14 Nq25
          refine own_pre (fun t k => st25.trans k) ?_
          refine own_pre (A := (T25.setTop (mkF m 275 #[.val (.long qa), .second, .val (.long qb), .second, .val (.long qp), .second, .val (.int pm), .val (.long qx), .second, .val (.long qy), .second, .val (.long qs), .second, .val (.long qe), .second, .val (.long qq), .second, .val (.ref b13), .val (.int (pm &&& (7 : Int32))), .val (.long (qs + qq)), .second, .val (.int (1 : Int32)), .val (.long (qe - qs)), .second, .val (.long qq), .second] [(.int (1 : Int32)), (.int (own_cont (qs + qq) qs qe))]))) ?_ ?_
          · intro t k
            show Steps p.tables e below (T25.setTop (mkF m 273 #[.val (.long qa), .second, .val (.long qb), .second, .val (.long qp), .second, .val (.int pm), .val (.long qx), .second, .val (.long qy), .second, .val (.long qs), .second, .val (.long qe), .second, .val (.long qq), .second, .val (.ref b13), .val (.int (pm &&& (7 : Int32))), .val (.long (qs + qq)), .second, .val (.int (1 : Int32)), .val (.long (qe - qs)), .second, .val (.long qq), .second] [(.int (own_cont (qs + qq) qs qe))])) _
            refine XS.iload X25.here hx rfl (hb hby at_273) rfl ?_
            exact k
          obtain ⟨v27, hv27⟩ : ∃ z : Int32, z = (if (own_cont (qs + qq) qs qe) = (1 : Int32) then (1 : Int32) else (0 : Int32)) := ⟨_, rfl⟩
          refine own_pre (A := (T25.setTop (mkF m 283 #[.val (.long qa), .second, .val (.long qb), .second, .val (.long qp), .second, .val (.int pm), .val (.long qx), .second, .val (.long qy), .second, .val (.long qs), .second, .val (.long qe), .second, .val (.long qq), .second, .val (.ref b13), .val (.int (pm &&& (7 : Int32))), .val (.long (qs + qq)), .second, .val (.int (1 : Int32)), .val (.long (qe - qs)), .second, .val (.long qq), .second] [(.int v27)]))) ?_ ?_
          · intro t k
            show Steps p.tables e below (T25.setTop (mkF m 275 #[.val (.long qa), .second, .val (.long qb), .second, .val (.long qp), .second, .val (.int pm), .val (.long qx), .second, .val (.long qy), .second, .val (.long qs), .second, .val (.long qe), .second, .val (.long qq), .second, .val (.ref b13), .val (.int (pm &&& (7 : Int32))), .val (.long (qs + qq)), .second, .val (.int (1 : Int32)), .val (.long (qe - qs)), .second, .val (.long qq), .second] [(.int (1 : Int32)), (.int (own_cont (qs + qq) qs qe))])) _
            by_cases hc26 : (own_cont (qs + qq) qs qe) = (1 : Int32)
            · skip
              refine XS.icmpNo X25.here hx rfl (hb hby at_275) rfl (teq hc26).2 ?_
              show Steps p.tables e below (T25.setTop (mkF m 278 #[.val (.long qa), .second, .val (.long qb), .second, .val (.long qp), .second, .val (.int pm), .val (.long qx), .second, .val (.long qy), .second, .val (.long qs), .second, .val (.long qe), .second, .val (.long qq), .second, .val (.ref b13), .val (.int (pm &&& (7 : Int32))), .val (.long (qs + qq)), .second, .val (.int (1 : Int32)), .val (.long (qe - qs)), .second, .val (.long qq), .second] [])) _
              refine XS.iconst X25.here hx rfl (hb hby at_278) ?_
              show Steps p.tables e below (T25.setTop (mkF m 279 #[.val (.long qa), .second, .val (.long qb), .second, .val (.long qp), .second, .val (.int pm), .val (.long qx), .second, .val (.long qy), .second, .val (.long qs), .second, .val (.long qe), .second, .val (.long qq), .second, .val (.ref b13), .val (.int (pm &&& (7 : Int32))), .val (.long (qs + qq)), .second, .val (.int (1 : Int32)), .val (.long (qe - qs)), .second, .val (.long qq), .second] [(.int (1 : Int32))])) _
              refine XS.goto X25.here hx rfl (pc0 := 279) (pc' := 283) rfl (hb hby at_279) (by decide) (by decide) ?_
              rw [show v27 = (1 : Int32) from hv27.trans (by simp only [if_pos hc26])] at k
              exact k
            · skip
              refine XS.icmpYes X25.here hx rfl (pc0 := 275) (pc' := 282) rfl (hb hby at_275) rfl (feq hc26).2 (by decide) (by decide) ?_
              show Steps p.tables e below (T25.setTop (mkF m 282 #[.val (.long qa), .second, .val (.long qb), .second, .val (.long qp), .second, .val (.int pm), .val (.long qx), .second, .val (.long qy), .second, .val (.long qs), .second, .val (.long qe), .second, .val (.long qq), .second, .val (.ref b13), .val (.int (pm &&& (7 : Int32))), .val (.long (qs + qq)), .second, .val (.int (1 : Int32)), .val (.long (qe - qs)), .second, .val (.long qq), .second] [])) _
              refine XS.iconst X25.here hx rfl (hb hby at_282) ?_
              rw [show v27 = (0 : Int32) from hv27.trans (by simp only [if_neg hc26])] at k
              exact k
          have hz : v27 = (1 : Int32) := by rw [hv27, if_pos (own_f2a qs qe qq ms me nqq hc24)]
          rw [hz]
          obtain ⟨fs, hr, hrun, hended, hW, hsame⟩ := X25.leave (hlocks := BodyLoose.notSynchronized Bd) (v := some (.int (1 : Int32))) (fun h => by rw [Bd.returns] at h; cases h)
          refine ⟨_, _, retOut X25 hx Bd.returns rfl (Or.inl ⟨rfl, Or.inr (Or.inl rfl), _, rfl⟩) (hb hby at_283) hr, hrun, hended, _, _, rfl, ?_, ⟨_, rfl⟩, hW, hsame.mono (by decide) (by decide)⟩
          show own_Q0 h0 n0 _ T25.heap _
          rw [eq25]
          exact ⟨rfl, N25⟩
        · skip
          refine own_pre (A := (T14.setTop (mkF m 118 #[.val (.long qa), .second, .val (.long qb), .second, .val (.long qp), .second, .val (.int pm), .val (.long qx), .second, .val (.long qy), .second, .val (.long qs), .second, .val (.long qe), .second, .val (.long qq), .second, .val (.ref b13), .val (.int (pm &&& (7 : Int32))), .unset, .unset, .unset, .val (.long (qe - qs)), .second, .unset, .unset] []))) ?_ ?_
          · intro t k
            refine XS.ifYes X14.here hx rfl (pc0 := 110) (pc' := 118) rfl (hb hby at_110) rfl ((if0 _ _).trans (feq (fun q => hc24 ((lw_eq (qe - qs) (9223372036854775807 : Int64)).mp q))).2) (by decide) (by decide) ?_
            exact k
          refine own_pre (A := (T14.setTop (mkF m 270 #[.val (.long qa), .second, .val (.long qb), .second, .val (.long qp), .second, .val (.int pm), .val (.long qx), .second, .val (.long qy), .second, .val (.long qs), .second, .val (.long qe), .second, .val (.long qq), .second, .val (.ref b13), .val (.int (pm &&& (7 : Int32))), .val (.long (qs + (qq % ((qe - qs) + (1 : Int64))))), .second, .val (.int (1 : Int32)), .val (.long (qe - qs)), .second, .val (.long (qq % ((qe - qs) + (1 : Int64)))), .second] [(.long (qs + (qq % ((qe - qs) + (1 : Int64))))), (.ref b13)]))) ?_ ?_
          · intro t k
            show Steps p.tables e below (T14.setTop (mkF m 118 #[.val (.long qa), .second, .val (.long qb), .second, .val (.long qp), .second, .val (.int pm), .val (.long qx), .second, .val (.long qy), .second, .val (.long qs), .second, .val (.long qe), .second, .val (.long qq), .second, .val (.ref b13), .val (.int (pm &&& (7 : Int32))), .unset, .unset, .unset, .val (.long (qe - qs)), .second, .unset, .unset] [])) _
            refine XS.lload X14.here hx rfl (hb hby at_118) rfl ?_
            show Steps p.tables e below (T14.setTop (mkF m 120 #[.val (.long qa), .second, .val (.long qb), .second, .val (.long qp), .second, .val (.int pm), .val (.long qx), .second, .val (.long qy), .second, .val (.long qs), .second, .val (.long qe), .second, .val (.long qq), .second, .val (.ref b13), .val (.int (pm &&& (7 : Int32))), .unset, .unset, .unset, .val (.long (qe - qs)), .second, .unset, .unset] [(.long qq)])) _
            refine XS.lload X14.here hx rfl (hb hby at_120) rfl ?_
            show Steps p.tables e below (T14.setTop (mkF m 122 #[.val (.long qa), .second, .val (.long qb), .second, .val (.long qp), .second, .val (.int pm), .val (.long qx), .second, .val (.long qy), .second, .val (.long qs), .second, .val (.long qe), .second, .val (.long qq), .second, .val (.ref b13), .val (.int (pm &&& (7 : Int32))), .unset, .unset, .unset, .val (.long (qe - qs)), .second, .unset, .unset] [(.long (qe - qs)), (.long qq)])) _
            refine XS.lconst X14.here hx rfl (hb hby at_122) ?_
            show Steps p.tables e below (T14.setTop (mkF m 123 #[.val (.long qa), .second, .val (.long qb), .second, .val (.long qp), .second, .val (.int pm), .val (.long qx), .second, .val (.long qy), .second, .val (.long qs), .second, .val (.long qe), .second, .val (.long qq), .second, .val (.ref b13), .val (.int (pm &&& (7 : Int32))), .unset, .unset, .unset, .val (.long (qe - qs)), .second, .unset, .unset] [(.long (1 : Int64)), (.long (qe - qs)), (.long qq)])) _
            refine XS.ladd X14.here hx rfl (hb hby at_123) rfl ?_
            show Steps p.tables e below (T14.setTop (mkF m 124 #[.val (.long qa), .second, .val (.long qb), .second, .val (.long qp), .second, .val (.int pm), .val (.long qx), .second, .val (.long qy), .second, .val (.long qs), .second, .val (.long qe), .second, .val (.long qq), .second, .val (.ref b13), .val (.int (pm &&& (7 : Int32))), .unset, .unset, .unset, .val (.long (qe - qs)), .second, .unset, .unset] [(.long ((qe - qs) + (1 : Int64))), (.long qq)])) _
            refine own_lrem X14 hx rfl (hb hby at_124) rfl (own_nz1 qs qe ms me hc24).2 ?_
            show Steps p.tables e below (T14.setTop (mkF m 125 #[.val (.long qa), .second, .val (.long qb), .second, .val (.long qp), .second, .val (.int pm), .val (.long qx), .second, .val (.long qy), .second, .val (.long qs), .second, .val (.long qe), .second, .val (.long qq), .second, .val (.ref b13), .val (.int (pm &&& (7 : Int32))), .unset, .unset, .unset, .val (.long (qe - qs)), .second, .unset, .unset] [(.long (qq % ((qe - qs) + (1 : Int64))))])) _
            refine XS.lstore X14.here hx rfl (hb hby at_125) rfl (l' := #[.val (.long qa), .second, .val (.long qb), .second, .val (.long qp), .second, .val (.int pm), .val (.long qx), .second, .val (.long qy), .second, .val (.long qs), .second, .val (.long qe), .second, .val (.long qq), .second, .val (.ref b13), .val (.int (pm &&& (7 : Int32))), .unset, .unset, .unset, .val (.long (qe - qs)), .second, .val (.long (qq % ((qe - qs) + (1 : Int64)))), .second]) rfl ?_
            show Steps p.tables e below (T14.setTop (mkF m 127 #[.val (.long qa), .second, .val (.long qb), .second, .val (.long qp), .second, .val (.int pm), .val (.long qx), .second, .val (.long qy), .second, .val (.long qs), .second, .val (.long qe), .second, .val (.long qq), .second, .val (.ref b13), .val (.int (pm &&& (7 : Int32))), .unset, .unset, .unset, .val (.long (qe - qs)), .second, .val (.long (qq % ((qe - qs) + (1 : Int64)))), .second] [])) _
            refine XS.lload X14.here hx rfl (hb hby at_127) rfl ?_
            show Steps p.tables e below (T14.setTop (mkF m 129 #[.val (.long qa), .second, .val (.long qb), .second, .val (.long qp), .second, .val (.int pm), .val (.long qx), .second, .val (.long qy), .second, .val (.long qs), .second, .val (.long qe), .second, .val (.long qq), .second, .val (.ref b13), .val (.int (pm &&& (7 : Int32))), .unset, .unset, .unset, .val (.long (qe - qs)), .second, .val (.long (qq % ((qe - qs) + (1 : Int64)))), .second] [(.long qs)])) _
            refine XS.lload X14.here hx rfl (hb hby at_129) rfl ?_
            show Steps p.tables e below (T14.setTop (mkF m 131 #[.val (.long qa), .second, .val (.long qb), .second, .val (.long qp), .second, .val (.int pm), .val (.long qx), .second, .val (.long qy), .second, .val (.long qs), .second, .val (.long qe), .second, .val (.long qq), .second, .val (.ref b13), .val (.int (pm &&& (7 : Int32))), .unset, .unset, .unset, .val (.long (qe - qs)), .second, .val (.long (qq % ((qe - qs) + (1 : Int64)))), .second] [(.long (qq % ((qe - qs) + (1 : Int64)))), (.long qs)])) _
            refine XS.ladd X14.here hx rfl (hb hby at_131) rfl ?_
            show Steps p.tables e below (T14.setTop (mkF m 132 #[.val (.long qa), .second, .val (.long qb), .second, .val (.long qp), .second, .val (.int pm), .val (.long qx), .second, .val (.long qy), .second, .val (.long qs), .second, .val (.long qe), .second, .val (.long qq), .second, .val (.ref b13), .val (.int (pm &&& (7 : Int32))), .unset, .unset, .unset, .val (.long (qe - qs)), .second, .val (.long (qq % ((qe - qs) + (1 : Int64)))), .second] [(.long (qs + (qq % ((qe - qs) + (1 : Int64)))))])) _
            refine XS.lstore X14.here hx rfl (hb hby at_132) rfl (l' := #[.val (.long qa), .second, .val (.long qb), .second, .val (.long qp), .second, .val (.int pm), .val (.long qx), .second, .val (.long qy), .second, .val (.long qs), .second, .val (.long qe), .second, .val (.long qq), .second, .val (.ref b13), .val (.int (pm &&& (7 : Int32))), .val (.long (qs + (qq % ((qe - qs) + (1 : Int64))))), .second, .unset, .val (.long (qe - qs)), .second, .val (.long (qq % ((qe - qs) + (1 : Int64)))), .second]) rfl ?_
            show Steps p.tables e below (T14.setTop (mkF m 134 #[.val (.long qa), .second, .val (.long qb), .second, .val (.long qp), .second, .val (.int pm), .val (.long qx), .second, .val (.long qy), .second, .val (.long qs), .second, .val (.long qe), .second, .val (.long qq), .second, .val (.ref b13), .val (.int (pm &&& (7 : Int32))), .val (.long (qs + (qq % ((qe - qs) + (1 : Int64))))), .second, .unset, .val (.long (qe - qs)), .second, .val (.long (qq % ((qe - qs) + (1 : Int64)))), .second] [])) _
            refine XS.iconst X14.here hx rfl (hb hby at_134) ?_
            show Steps p.tables e below (T14.setTop (mkF m 135 #[.val (.long qa), .second, .val (.long qb), .second, .val (.long qp), .second, .val (.int pm), .val (.long qx), .second, .val (.long qy), .second, .val (.long qs), .second, .val (.long qe), .second, .val (.long qq), .second, .val (.ref b13), .val (.int (pm &&& (7 : Int32))), .val (.long (qs + (qq % ((qe - qs) + (1 : Int64))))), .second, .unset, .val (.long (qe - qs)), .second, .val (.long (qq % ((qe - qs) + (1 : Int64)))), .second] [(.int (1 : Int32))])) _
            refine XS.istore X14.here hx rfl (hb hby at_135) rfl (l' := #[.val (.long qa), .second, .val (.long qb), .second, .val (.long qp), .second, .val (.int pm), .val (.long qx), .second, .val (.long qy), .second, .val (.long qs), .second, .val (.long qe), .second, .val (.long qq), .second, .val (.ref b13), .val (.int (pm &&& (7 : Int32))), .val (.long (qs + (qq % ((qe - qs) + (1 : Int64))))), .second, .val (.int (1 : Int32)), .val (.long (qe - qs)), .second, .val (.long (qq % ((qe - qs) + (1 : Int64)))), .second]) rfl ?_
            show Steps p.tables e below (T14.setTop (mkF m 137 #[.val (.long qa), .second, .val (.long qb), .second, .val (.long qp), .second, .val (.int pm), .val (.long qx), .second, .val (.long qy), .second, .val (.long qs), .second, .val (.long qe), .second, .val (.long qq), .second, .val (.ref b13), .val (.int (pm &&& (7 : Int32))), .val (.long (qs + (qq % ((qe - qs) + (1 : Int64))))), .second, .val (.int (1 : Int32)), .val (.long (qe - qs)), .second, .val (.long (qq % ((qe - qs) + (1 : Int64)))), .second] [])) _
            refine XS.goto X14.here hx rfl (pc0 := 137) (pc' := 266) rfl (hb hby at_137) (by decide) (by decide) ?_
            show Steps p.tables e below (T14.setTop (mkF m 266 #[.val (.long qa), .second, .val (.long qb), .second, .val (.long qp), .second, .val (.int pm), .val (.long qx), .second, .val (.long qy), .second, .val (.long qs), .second, .val (.long qe), .second, .val (.long qq), .second, .val (.ref b13), .val (.int (pm &&& (7 : Int32))), .val (.long (qs + (qq % ((qe - qs) + (1 : Int64))))), .second, .val (.int (1 : Int32)), .val (.long (qe - qs)), .second, .val (.long (qq % ((qe - qs) + (1 : Int64)))), .second] [])) _
            refine XS.aload X14.here hx rfl (hb hby at_266) rfl rfl ?_
            show Steps p.tables e below (T14.setTop (mkF m 268 #[.val (.long qa), .second, .val (.long qb), .second, .val (.long qp), .second, .val (.int pm), .val (.long qx), .second, .val (.long qy), .second, .val (.long qs), .second, .val (.long qe), .second, .val (.long qq), .second, .val (.ref b13), .val (.int (pm &&& (7 : Int32))), .val (.long (qs + (qq % ((qe - qs) + (1 : Int64))))), .second, .val (.int (1 : Int32)), .val (.long (qe - qs)), .second, .val (.long (qq % ((qe - qs) + (1 : Int64)))), .second] [(.ref b13)])) _
            refine XS.lload X14.here hx rfl (hb hby at_268) rfl ?_
            exact k
          obtain ⟨cq28, kq28, q28a, q28b, q28c⟩ := isOf hZ rfl A13_14
          obtain ⟨_, _, ⟨T28, L28, k28, n28⟩, -, X28, ⟨Lc28, hQ28, l28, y28, z28⟩, st28⟩ := X14.virtualBack hx (y := (⟨"com/example/terq/terq/core/Period", "contains", "(J)Z"⟩ : MethodName)) (z := (⟨"com/example/terq/terq/core/Period", "contains", "(J)Z"⟩ : MethodName)) hown (mvT hZ (own_w hw 26 rfl)) (mvT hZ (own_w hw 27 rfl)) (notFace_of_selects (args := #[]) (mvT hZ (own_w hw 29 rfl))) (mvT hZ (own_w hw 29 rfl)) (mvT hZ (own_w hw 28 rfl)) (by decide) (backOf (W := 0) (rm6 l Z a0 hw [] b13 (qs + (qq % ((qe - qs) + (1 : Int64)))) qs qe T14.heap n0 Zs14 Fs14 Fe14) hZ (own_w hw 30 rfl) (own_w hw 10 rfl) (by decide) (by decide)) q28a q28c (g := (mkF m 270 #[.val (.long qa), .second, .val (.long qb), .second, .val (.long qp), .second, .val (.int pm), .val (.long qx), .second, .val (.long qy), .second, .val (.long qs), .second, .val (.long qe), .second, .val (.long qq), .second, .val (.ref b13), .val (.int (pm &&& (7 : Int32))), .val (.long (qs + (qq % ((qe - qs) + (1 : Int64))))), .second, .val (.int (1 : Int32)), .val (.long (qe - qs)), .second, .val (.long (qq % ((qe - qs) + (1 : Int64)))), .second] [(.long (qs + (qq % ((qe - qs) + (1 : Int64))))), (.ref b13)])) rfl (by rw [hml]; rfl) (Steps.refl _) (argsL := [(.long (qs + (qq % ((qe - qs) + (1 : Int64)))))]) (rest := []) (lenOf own_pd3 rfl) rfl (by show 2 * 0 + _ ≤ _; exact Nat.le_of_eq rfl) (hb hby at_270) (fun _ _ => ⟨rfl, rfl, (by decide : 1 + 0 ≤ _), (by decide : 2 + 0 ≤ _)⟩)
          dsimp only [Pt.U, Pt.locs, Pt.cells, Pt.slots] at X28 l28 y28 z28 st28 hQ28
          subst l28 y28 z28
          obtain ⟨rfl, Nq28, eq28⟩ := hQ28
          have N28 := Fr.app N14 Nq28
          refine own_pre (fun t k => st28.trans k) ?_
          refine own_pre (A := (T28.setTop (mkF m 275 #[.val (.long qa), .second, .val (.long qb), .second, .val (.long qp), .second, .val (.int pm), .val (.long qx), .second, .val (.long qy), .second, .val (.long qs), .second, .val (.long qe), .second, .val (.long qq), .second, .val (.ref b13), .val (.int (pm &&& (7 : Int32))), .val (.long (qs + (qq % ((qe - qs) + (1 : Int64))))), .second, .val (.int (1 : Int32)), .val (.long (qe - qs)), .second, .val (.long (qq % ((qe - qs) + (1 : Int64)))), .second] [(.int (1 : Int32)), (.int (own_cont (qs + (qq % ((qe - qs) + (1 : Int64)))) qs qe))]))) ?_ ?_
          · intro t k
            show Steps p.tables e below (T28.setTop (mkF m 273 #[.val (.long qa), .second, .val (.long qb), .second, .val (.long qp), .second, .val (.int pm), .val (.long qx), .second, .val (.long qy), .second, .val (.long qs), .second, .val (.long qe), .second, .val (.long qq), .second, .val (.ref b13), .val (.int (pm &&& (7 : Int32))), .val (.long (qs + (qq % ((qe - qs) + (1 : Int64))))), .second, .val (.int (1 : Int32)), .val (.long (qe - qs)), .second, .val (.long (qq % ((qe - qs) + (1 : Int64)))), .second] [(.int (own_cont (qs + (qq % ((qe - qs) + (1 : Int64)))) qs qe))])) _
            refine XS.iload X28.here hx rfl (hb hby at_273) rfl ?_
            exact k
          obtain ⟨v30, hv30⟩ : ∃ z : Int32, z = (if (own_cont (qs + (qq % ((qe - qs) + (1 : Int64)))) qs qe) = (1 : Int32) then (1 : Int32) else (0 : Int32)) := ⟨_, rfl⟩
          refine own_pre (A := (T28.setTop (mkF m 283 #[.val (.long qa), .second, .val (.long qb), .second, .val (.long qp), .second, .val (.int pm), .val (.long qx), .second, .val (.long qy), .second, .val (.long qs), .second, .val (.long qe), .second, .val (.long qq), .second, .val (.ref b13), .val (.int (pm &&& (7 : Int32))), .val (.long (qs + (qq % ((qe - qs) + (1 : Int64))))), .second, .val (.int (1 : Int32)), .val (.long (qe - qs)), .second, .val (.long (qq % ((qe - qs) + (1 : Int64)))), .second] [(.int v30)]))) ?_ ?_
          · intro t k
            show Steps p.tables e below (T28.setTop (mkF m 275 #[.val (.long qa), .second, .val (.long qb), .second, .val (.long qp), .second, .val (.int pm), .val (.long qx), .second, .val (.long qy), .second, .val (.long qs), .second, .val (.long qe), .second, .val (.long qq), .second, .val (.ref b13), .val (.int (pm &&& (7 : Int32))), .val (.long (qs + (qq % ((qe - qs) + (1 : Int64))))), .second, .val (.int (1 : Int32)), .val (.long (qe - qs)), .second, .val (.long (qq % ((qe - qs) + (1 : Int64)))), .second] [(.int (1 : Int32)), (.int (own_cont (qs + (qq % ((qe - qs) + (1 : Int64)))) qs qe))])) _
            by_cases hc29 : (own_cont (qs + (qq % ((qe - qs) + (1 : Int64)))) qs qe) = (1 : Int32)
            · skip
              refine XS.icmpNo X28.here hx rfl (hb hby at_275) rfl (teq hc29).2 ?_
              show Steps p.tables e below (T28.setTop (mkF m 278 #[.val (.long qa), .second, .val (.long qb), .second, .val (.long qp), .second, .val (.int pm), .val (.long qx), .second, .val (.long qy), .second, .val (.long qs), .second, .val (.long qe), .second, .val (.long qq), .second, .val (.ref b13), .val (.int (pm &&& (7 : Int32))), .val (.long (qs + (qq % ((qe - qs) + (1 : Int64))))), .second, .val (.int (1 : Int32)), .val (.long (qe - qs)), .second, .val (.long (qq % ((qe - qs) + (1 : Int64)))), .second] [])) _
              refine XS.iconst X28.here hx rfl (hb hby at_278) ?_
              show Steps p.tables e below (T28.setTop (mkF m 279 #[.val (.long qa), .second, .val (.long qb), .second, .val (.long qp), .second, .val (.int pm), .val (.long qx), .second, .val (.long qy), .second, .val (.long qs), .second, .val (.long qe), .second, .val (.long qq), .second, .val (.ref b13), .val (.int (pm &&& (7 : Int32))), .val (.long (qs + (qq % ((qe - qs) + (1 : Int64))))), .second, .val (.int (1 : Int32)), .val (.long (qe - qs)), .second, .val (.long (qq % ((qe - qs) + (1 : Int64)))), .second] [(.int (1 : Int32))])) _
              refine XS.goto X28.here hx rfl (pc0 := 279) (pc' := 283) rfl (hb hby at_279) (by decide) (by decide) ?_
              rw [show v30 = (1 : Int32) from hv30.trans (by simp only [if_pos hc29])] at k
              exact k
            · skip
              refine XS.icmpYes X28.here hx rfl (pc0 := 275) (pc' := 282) rfl (hb hby at_275) rfl (feq hc29).2 (by decide) (by decide) ?_
              show Steps p.tables e below (T28.setTop (mkF m 282 #[.val (.long qa), .second, .val (.long qb), .second, .val (.long qp), .second, .val (.int pm), .val (.long qx), .second, .val (.long qy), .second, .val (.long qs), .second, .val (.long qe), .second, .val (.long qq), .second, .val (.ref b13), .val (.int (pm &&& (7 : Int32))), .val (.long (qs + (qq % ((qe - qs) + (1 : Int64))))), .second, .val (.int (1 : Int32)), .val (.long (qe - qs)), .second, .val (.long (qq % ((qe - qs) + (1 : Int64)))), .second] [])) _
              refine XS.iconst X28.here hx rfl (hb hby at_282) ?_
              rw [show v30 = (0 : Int32) from hv30.trans (by simp only [if_neg hc29])] at k
              exact k
          have hz : v30 = (1 : Int32) := by rw [hv30, if_pos (own_f2b qs qe qq ms me nqq hc24)]
          rw [hz]
          obtain ⟨fs, hr, hrun, hended, hW, hsame⟩ := X28.leave (hlocks := BodyLoose.notSynchronized Bd) (v := some (.int (1 : Int32))) (fun h => by rw [Bd.returns] at h; cases h)
          refine ⟨_, _, retOut X28 hx Bd.returns rfl (Or.inl ⟨rfl, Or.inr (Or.inl rfl), _, rfl⟩) (hb hby at_283) hr, hrun, hended, _, _, rfl, ?_, ⟨_, rfl⟩, hW, hsame.mono (by decide) (by decide)⟩
          show own_Q0 h0 n0 _ T28.heap _
          rw [eq28]
          exact ⟨rfl, N28⟩
      · skip
        refine own_pre (A := (T14.setTop (mkF m 140 #[.val (.long qa), .second, .val (.long qb), .second, .val (.long qp), .second, .val (.int pm), .val (.long qx), .second, .val (.long qy), .second, .val (.long qs), .second, .val (.long qe), .second, .val (.long qq), .second, .val (.ref b13), .val (.int (pm &&& (7 : Int32))), .unset, .unset, .unset, .unset, .unset, .unset, .unset] []))) ?_ ?_
        · intro t k
          refine XS.icmpYes X14.here hx rfl (pc0 := 94) (pc' := 140) rfl (hb hby at_94) rfl (feq hc23).2 (by decide) (by decide) ?_
          exact k
        refine own_pre (A := (T14.setTop (mkF m 143 #[.val (.long qa), .second, .val (.long qb), .second, .val (.long qp), .second, .val (.int pm), .val (.long qx), .second, .val (.long qy), .second, .val (.long qs), .second, .val (.long qe), .second, .val (.long qq), .second, .val (.ref b13), .val (.int (pm &&& (7 : Int32))), .unset, .unset, .unset, .unset, .unset, .unset, .unset] [(.int (3 : Int32)), (.int (pm &&& (7 : Int32)))]))) ?_ ?_
        · intro t k
          show Steps p.tables e below (T14.setTop (mkF m 140 #[.val (.long qa), .second, .val (.long qb), .second, .val (.long qp), .second, .val (.int pm), .val (.long qx), .second, .val (.long qy), .second, .val (.long qs), .second, .val (.long qe), .second, .val (.long qq), .second, .val (.ref b13), .val (.int (pm &&& (7 : Int32))), .unset, .unset, .unset, .unset, .unset, .unset, .unset] [])) _
          refine XS.iload X14.here hx rfl (hb hby at_140) rfl ?_
          show Steps p.tables e below (T14.setTop (mkF m 142 #[.val (.long qa), .second, .val (.long qb), .second, .val (.long qp), .second, .val (.int pm), .val (.long qx), .second, .val (.long qy), .second, .val (.long qs), .second, .val (.long qe), .second, .val (.long qq), .second, .val (.ref b13), .val (.int (pm &&& (7 : Int32))), .unset, .unset, .unset, .unset, .unset, .unset, .unset] [(.int (pm &&& (7 : Int32)))])) _
          refine XS.iconst X14.here hx rfl (hb hby at_142) ?_
          exact k
        by_cases hc31 : (pm &&& (7 : Int32)) = (3 : Int32)
        · skip
          refine own_pre (A := (T14.setTop (mkF m 146 #[.val (.long qa), .second, .val (.long qb), .second, .val (.long qp), .second, .val (.int pm), .val (.long qx), .second, .val (.long qy), .second, .val (.long qs), .second, .val (.long qe), .second, .val (.long qq), .second, .val (.ref b13), .val (.int (pm &&& (7 : Int32))), .unset, .unset, .unset, .unset, .unset, .unset, .unset] []))) ?_ ?_
          · intro t k
            refine XS.icmpNo X14.here hx rfl (hb hby at_143) rfl (teq hc31).2 ?_
            exact k
          refine own_pre (A := (T14.setTop (mkF m 270 #[.val (.long qa), .second, .val (.long qb), .second, .val (.long qp), .second, .val (.int pm), .val (.long qx), .second, .val (.long qy), .second, .val (.long qs), .second, .val (.long qe), .second, .val (.long qq), .second, .val (.ref b13), .val (.int (pm &&& (7 : Int32))), .val (.long ((qs - (1 : Int64)) - qq)), .second, .val (.int (0 : Int32)), .unset, .unset, .unset, .unset] [(.long ((qs - (1 : Int64)) - qq)), (.ref b13)]))) ?_ ?_
          · intro t k
            show Steps p.tables e below (T14.setTop (mkF m 146 #[.val (.long qa), .second, .val (.long qb), .second, .val (.long qp), .second, .val (.int pm), .val (.long qx), .second, .val (.long qy), .second, .val (.long qs), .second, .val (.long qe), .second, .val (.long qq), .second, .val (.ref b13), .val (.int (pm &&& (7 : Int32))), .unset, .unset, .unset, .unset, .unset, .unset, .unset] [])) _
            refine XS.lload X14.here hx rfl (hb hby at_146) rfl ?_
            show Steps p.tables e below (T14.setTop (mkF m 148 #[.val (.long qa), .second, .val (.long qb), .second, .val (.long qp), .second, .val (.int pm), .val (.long qx), .second, .val (.long qy), .second, .val (.long qs), .second, .val (.long qe), .second, .val (.long qq), .second, .val (.ref b13), .val (.int (pm &&& (7 : Int32))), .unset, .unset, .unset, .unset, .unset, .unset, .unset] [(.long qs)])) _
            refine XS.lconst X14.here hx rfl (hb hby at_148) ?_
            show Steps p.tables e below (T14.setTop (mkF m 149 #[.val (.long qa), .second, .val (.long qb), .second, .val (.long qp), .second, .val (.int pm), .val (.long qx), .second, .val (.long qy), .second, .val (.long qs), .second, .val (.long qe), .second, .val (.long qq), .second, .val (.ref b13), .val (.int (pm &&& (7 : Int32))), .unset, .unset, .unset, .unset, .unset, .unset, .unset] [(.long (1 : Int64)), (.long qs)])) _
            refine XS.lsub X14.here hx rfl (hb hby at_149) rfl ?_
            show Steps p.tables e below (T14.setTop (mkF m 150 #[.val (.long qa), .second, .val (.long qb), .second, .val (.long qp), .second, .val (.int pm), .val (.long qx), .second, .val (.long qy), .second, .val (.long qs), .second, .val (.long qe), .second, .val (.long qq), .second, .val (.ref b13), .val (.int (pm &&& (7 : Int32))), .unset, .unset, .unset, .unset, .unset, .unset, .unset] [(.long (qs - (1 : Int64)))])) _
            refine XS.lload X14.here hx rfl (hb hby at_150) rfl ?_
            show Steps p.tables e below (T14.setTop (mkF m 152 #[.val (.long qa), .second, .val (.long qb), .second, .val (.long qp), .second, .val (.int pm), .val (.long qx), .second, .val (.long qy), .second, .val (.long qs), .second, .val (.long qe), .second, .val (.long qq), .second, .val (.ref b13), .val (.int (pm &&& (7 : Int32))), .unset, .unset, .unset, .unset, .unset, .unset, .unset] [(.long qq), (.long (qs - (1 : Int64)))])) _
            refine XS.lsub X14.here hx rfl (hb hby at_152) rfl ?_
            show Steps p.tables e below (T14.setTop (mkF m 153 #[.val (.long qa), .second, .val (.long qb), .second, .val (.long qp), .second, .val (.int pm), .val (.long qx), .second, .val (.long qy), .second, .val (.long qs), .second, .val (.long qe), .second, .val (.long qq), .second, .val (.ref b13), .val (.int (pm &&& (7 : Int32))), .unset, .unset, .unset, .unset, .unset, .unset, .unset] [(.long ((qs - (1 : Int64)) - qq))])) _
            refine XS.lstore X14.here hx rfl (hb hby at_153) rfl (l' := #[.val (.long qa), .second, .val (.long qb), .second, .val (.long qp), .second, .val (.int pm), .val (.long qx), .second, .val (.long qy), .second, .val (.long qs), .second, .val (.long qe), .second, .val (.long qq), .second, .val (.ref b13), .val (.int (pm &&& (7 : Int32))), .val (.long ((qs - (1 : Int64)) - qq)), .second, .unset, .unset, .unset, .unset, .unset]) rfl ?_
            show Steps p.tables e below (T14.setTop (mkF m 155 #[.val (.long qa), .second, .val (.long qb), .second, .val (.long qp), .second, .val (.int pm), .val (.long qx), .second, .val (.long qy), .second, .val (.long qs), .second, .val (.long qe), .second, .val (.long qq), .second, .val (.ref b13), .val (.int (pm &&& (7 : Int32))), .val (.long ((qs - (1 : Int64)) - qq)), .second, .unset, .unset, .unset, .unset, .unset] [])) _
            refine XS.iconst X14.here hx rfl (hb hby at_155) ?_
            show Steps p.tables e below (T14.setTop (mkF m 156 #[.val (.long qa), .second, .val (.long qb), .second, .val (.long qp), .second, .val (.int pm), .val (.long qx), .second, .val (.long qy), .second, .val (.long qs), .second, .val (.long qe), .second, .val (.long qq), .second, .val (.ref b13), .val (.int (pm &&& (7 : Int32))), .val (.long ((qs - (1 : Int64)) - qq)), .second, .unset, .unset, .unset, .unset, .unset] [(.int (0 : Int32))])) _
            refine XS.istore X14.here hx rfl (hb hby at_156) rfl (l' := #[.val (.long qa), .second, .val (.long qb), .second, .val (.long qp), .second, .val (.int pm), .val (.long qx), .second, .val (.long qy), .second, .val (.long qs), .second, .val (.long qe), .second, .val (.long qq), .second, .val (.ref b13), .val (.int (pm &&& (7 : Int32))), .val (.long ((qs - (1 : Int64)) - qq)), .second, .val (.int (0 : Int32)), .unset, .unset, .unset, .unset]) rfl ?_
            show Steps p.tables e below (T14.setTop (mkF m 158 #[.val (.long qa), .second, .val (.long qb), .second, .val (.long qp), .second, .val (.int pm), .val (.long qx), .second, .val (.long qy), .second, .val (.long qs), .second, .val (.long qe), .second, .val (.long qq), .second, .val (.ref b13), .val (.int (pm &&& (7 : Int32))), .val (.long ((qs - (1 : Int64)) - qq)), .second, .val (.int (0 : Int32)), .unset, .unset, .unset, .unset] [])) _
            refine XS.goto X14.here hx rfl (pc0 := 158) (pc' := 266) rfl (hb hby at_158) (by decide) (by decide) ?_
            show Steps p.tables e below (T14.setTop (mkF m 266 #[.val (.long qa), .second, .val (.long qb), .second, .val (.long qp), .second, .val (.int pm), .val (.long qx), .second, .val (.long qy), .second, .val (.long qs), .second, .val (.long qe), .second, .val (.long qq), .second, .val (.ref b13), .val (.int (pm &&& (7 : Int32))), .val (.long ((qs - (1 : Int64)) - qq)), .second, .val (.int (0 : Int32)), .unset, .unset, .unset, .unset] [])) _
            refine XS.aload X14.here hx rfl (hb hby at_266) rfl rfl ?_
            show Steps p.tables e below (T14.setTop (mkF m 268 #[.val (.long qa), .second, .val (.long qb), .second, .val (.long qp), .second, .val (.int pm), .val (.long qx), .second, .val (.long qy), .second, .val (.long qs), .second, .val (.long qe), .second, .val (.long qq), .second, .val (.ref b13), .val (.int (pm &&& (7 : Int32))), .val (.long ((qs - (1 : Int64)) - qq)), .second, .val (.int (0 : Int32)), .unset, .unset, .unset, .unset] [(.ref b13)])) _
            refine XS.lload X14.here hx rfl (hb hby at_268) rfl ?_
            exact k
          obtain ⟨cq32, kq32, q32a, q32b, q32c⟩ := isOf hZ rfl A13_14
          obtain ⟨_, _, ⟨T32, L32, k32, n32⟩, -, X32, ⟨Lc32, hQ32, l32, y32, z32⟩, st32⟩ := X14.virtualBack hx (y := (⟨"com/example/terq/terq/core/Period", "contains", "(J)Z"⟩ : MethodName)) (z := (⟨"com/example/terq/terq/core/Period", "contains", "(J)Z"⟩ : MethodName)) hown (mvT hZ (own_w hw 26 rfl)) (mvT hZ (own_w hw 27 rfl)) (notFace_of_selects (args := #[]) (mvT hZ (own_w hw 29 rfl))) (mvT hZ (own_w hw 29 rfl)) (mvT hZ (own_w hw 28 rfl)) (by decide) (backOf (W := 0) (rm6 l Z a0 hw [] b13 ((qs - (1 : Int64)) - qq) qs qe T14.heap n0 Zs14 Fs14 Fe14) hZ (own_w hw 30 rfl) (own_w hw 10 rfl) (by decide) (by decide)) q32a q32c (g := (mkF m 270 #[.val (.long qa), .second, .val (.long qb), .second, .val (.long qp), .second, .val (.int pm), .val (.long qx), .second, .val (.long qy), .second, .val (.long qs), .second, .val (.long qe), .second, .val (.long qq), .second, .val (.ref b13), .val (.int (pm &&& (7 : Int32))), .val (.long ((qs - (1 : Int64)) - qq)), .second, .val (.int (0 : Int32)), .unset, .unset, .unset, .unset] [(.long ((qs - (1 : Int64)) - qq)), (.ref b13)])) rfl (by rw [hml]; rfl) (Steps.refl _) (argsL := [(.long ((qs - (1 : Int64)) - qq))]) (rest := []) (lenOf own_pd3 rfl) rfl (by show 2 * 0 + _ ≤ _; exact Nat.le_of_eq rfl) (hb hby at_270) (fun _ _ => ⟨rfl, rfl, (by decide : 1 + 0 ≤ _), (by decide : 2 + 0 ≤ _)⟩)
          dsimp only [Pt.U, Pt.locs, Pt.cells, Pt.slots] at X32 l32 y32 z32 st32 hQ32
          subst l32 y32 z32
          obtain ⟨rfl, Nq32, eq32⟩ := hQ32
          have N32 := Fr.app N14 Nq32
          refine own_pre (fun t k => st32.trans k) ?_
          refine own_pre (A := (T32.setTop (mkF m 275 #[.val (.long qa), .second, .val (.long qb), .second, .val (.long qp), .second, .val (.int pm), .val (.long qx), .second, .val (.long qy), .second, .val (.long qs), .second, .val (.long qe), .second, .val (.long qq), .second, .val (.ref b13), .val (.int (pm &&& (7 : Int32))), .val (.long ((qs - (1 : Int64)) - qq)), .second, .val (.int (0 : Int32)), .unset, .unset, .unset, .unset] [(.int (0 : Int32)), (.int (own_cont ((qs - (1 : Int64)) - qq) qs qe))]))) ?_ ?_
          · intro t k
            show Steps p.tables e below (T32.setTop (mkF m 273 #[.val (.long qa), .second, .val (.long qb), .second, .val (.long qp), .second, .val (.int pm), .val (.long qx), .second, .val (.long qy), .second, .val (.long qs), .second, .val (.long qe), .second, .val (.long qq), .second, .val (.ref b13), .val (.int (pm &&& (7 : Int32))), .val (.long ((qs - (1 : Int64)) - qq)), .second, .val (.int (0 : Int32)), .unset, .unset, .unset, .unset] [(.int (own_cont ((qs - (1 : Int64)) - qq) qs qe))])) _
            refine XS.iload X32.here hx rfl (hb hby at_273) rfl ?_
            exact k
          obtain ⟨v34, hv34⟩ : ∃ z : Int32, z = (if (own_cont ((qs - (1 : Int64)) - qq) qs qe) = (0 : Int32) then (1 : Int32) else (0 : Int32)) := ⟨_, rfl⟩
          refine own_pre (A := (T32.setTop (mkF m 283 #[.val (.long qa), .second, .val (.long qb), .second, .val (.long qp), .second, .val (.int pm), .val (.long qx), .second, .val (.long qy), .second, .val (.long qs), .second, .val (.long qe), .second, .val (.long qq), .second, .val (.ref b13), .val (.int (pm &&& (7 : Int32))), .val (.long ((qs - (1 : Int64)) - qq)), .second, .val (.int (0 : Int32)), .unset, .unset, .unset, .unset] [(.int v34)]))) ?_ ?_
          · intro t k
            show Steps p.tables e below (T32.setTop (mkF m 275 #[.val (.long qa), .second, .val (.long qb), .second, .val (.long qp), .second, .val (.int pm), .val (.long qx), .second, .val (.long qy), .second, .val (.long qs), .second, .val (.long qe), .second, .val (.long qq), .second, .val (.ref b13), .val (.int (pm &&& (7 : Int32))), .val (.long ((qs - (1 : Int64)) - qq)), .second, .val (.int (0 : Int32)), .unset, .unset, .unset, .unset] [(.int (0 : Int32)), (.int (own_cont ((qs - (1 : Int64)) - qq) qs qe))])) _
            by_cases hc33 : (own_cont ((qs - (1 : Int64)) - qq) qs qe) = (0 : Int32)
            · skip
              refine XS.icmpNo X32.here hx rfl (hb hby at_275) rfl (teq hc33).2 ?_
              show Steps p.tables e below (T32.setTop (mkF m 278 #[.val (.long qa), .second, .val (.long qb), .second, .val (.long qp), .second, .val (.int pm), .val (.long qx), .second, .val (.long qy), .second, .val (.long qs), .second, .val (.long qe), .second, .val (.long qq), .second, .val (.ref b13), .val (.int (pm &&& (7 : Int32))), .val (.long ((qs - (1 : Int64)) - qq)), .second, .val (.int (0 : Int32)), .unset, .unset, .unset, .unset] [])) _
              refine XS.iconst X32.here hx rfl (hb hby at_278) ?_
              show Steps p.tables e below (T32.setTop (mkF m 279 #[.val (.long qa), .second, .val (.long qb), .second, .val (.long qp), .second, .val (.int pm), .val (.long qx), .second, .val (.long qy), .second, .val (.long qs), .second, .val (.long qe), .second, .val (.long qq), .second, .val (.ref b13), .val (.int (pm &&& (7 : Int32))), .val (.long ((qs - (1 : Int64)) - qq)), .second, .val (.int (0 : Int32)), .unset, .unset, .unset, .unset] [(.int (1 : Int32))])) _
              refine XS.goto X32.here hx rfl (pc0 := 279) (pc' := 283) rfl (hb hby at_279) (by decide) (by decide) ?_
              rw [show v34 = (1 : Int32) from hv34.trans (by simp only [if_pos hc33])] at k
              exact k
            · skip
              refine XS.icmpYes X32.here hx rfl (pc0 := 275) (pc' := 282) rfl (hb hby at_275) rfl (feq hc33).2 (by decide) (by decide) ?_
              show Steps p.tables e below (T32.setTop (mkF m 282 #[.val (.long qa), .second, .val (.long qb), .second, .val (.long qp), .second, .val (.int pm), .val (.long qx), .second, .val (.long qy), .second, .val (.long qs), .second, .val (.long qe), .second, .val (.long qq), .second, .val (.ref b13), .val (.int (pm &&& (7 : Int32))), .val (.long ((qs - (1 : Int64)) - qq)), .second, .val (.int (0 : Int32)), .unset, .unset, .unset, .unset] [])) _
              refine XS.iconst X32.here hx rfl (hb hby at_282) ?_
              rw [show v34 = (0 : Int32) from hv34.trans (by simp only [if_neg hc33])] at k
              exact k
          have hz : v34 = (1 : Int32) := by rw [hv34, if_pos (own_f3 qs qe qq ms me nqq)]
          rw [hz]
          obtain ⟨fs, hr, hrun, hended, hW, hsame⟩ := X32.leave (hlocks := BodyLoose.notSynchronized Bd) (v := some (.int (1 : Int32))) (fun h => by rw [Bd.returns] at h; cases h)
          refine ⟨_, _, retOut X32 hx Bd.returns rfl (Or.inl ⟨rfl, Or.inr (Or.inl rfl), _, rfl⟩) (hb hby at_283) hr, hrun, hended, _, _, rfl, ?_, ⟨_, rfl⟩, hW, hsame.mono (by decide) (by decide)⟩
          show own_Q0 h0 n0 _ T32.heap _
          rw [eq32]
          exact ⟨rfl, N32⟩
        · skip
          refine own_pre (A := (T14.setTop (mkF m 161 #[.val (.long qa), .second, .val (.long qb), .second, .val (.long qp), .second, .val (.int pm), .val (.long qx), .second, .val (.long qy), .second, .val (.long qs), .second, .val (.long qe), .second, .val (.long qq), .second, .val (.ref b13), .val (.int (pm &&& (7 : Int32))), .unset, .unset, .unset, .unset, .unset, .unset, .unset] []))) ?_ ?_
          · intro t k
            refine XS.icmpYes X14.here hx rfl (pc0 := 143) (pc' := 161) rfl (hb hby at_143) rfl (feq hc31).2 (by decide) (by decide) ?_
            exact k
          refine own_pre (A := (T14.setTop (mkF m 164 #[.val (.long qa), .second, .val (.long qb), .second, .val (.long qp), .second, .val (.int pm), .val (.long qx), .second, .val (.long qy), .second, .val (.long qs), .second, .val (.long qe), .second, .val (.long qq), .second, .val (.ref b13), .val (.int (pm &&& (7 : Int32))), .unset, .unset, .unset, .unset, .unset, .unset, .unset] [(.int (4 : Int32)), (.int (pm &&& (7 : Int32)))]))) ?_ ?_
          · intro t k
            show Steps p.tables e below (T14.setTop (mkF m 161 #[.val (.long qa), .second, .val (.long qb), .second, .val (.long qp), .second, .val (.int pm), .val (.long qx), .second, .val (.long qy), .second, .val (.long qs), .second, .val (.long qe), .second, .val (.long qq), .second, .val (.ref b13), .val (.int (pm &&& (7 : Int32))), .unset, .unset, .unset, .unset, .unset, .unset, .unset] [])) _
            refine XS.iload X14.here hx rfl (hb hby at_161) rfl ?_
            show Steps p.tables e below (T14.setTop (mkF m 163 #[.val (.long qa), .second, .val (.long qb), .second, .val (.long qp), .second, .val (.int pm), .val (.long qx), .second, .val (.long qy), .second, .val (.long qs), .second, .val (.long qe), .second, .val (.long qq), .second, .val (.ref b13), .val (.int (pm &&& (7 : Int32))), .unset, .unset, .unset, .unset, .unset, .unset, .unset] [(.int (pm &&& (7 : Int32)))])) _
            refine XS.iconst X14.here hx rfl (hb hby at_163) ?_
            exact k
          by_cases hc35 : (pm &&& (7 : Int32)) = (4 : Int32)
          · skip
            refine own_pre (A := (T14.setTop (mkF m 167 #[.val (.long qa), .second, .val (.long qb), .second, .val (.long qp), .second, .val (.int pm), .val (.long qx), .second, .val (.long qy), .second, .val (.long qs), .second, .val (.long qe), .second, .val (.long qq), .second, .val (.ref b13), .val (.int (pm &&& (7 : Int32))), .unset, .unset, .unset, .unset, .unset, .unset, .unset] []))) ?_ ?_
            · intro t k
              refine XS.icmpNo X14.here hx rfl (hb hby at_164) rfl (teq hc35).2 ?_
              exact k
            refine own_pre (A := (T14.setTop (mkF m 173 #[.val (.long qa), .second, .val (.long qb), .second, .val (.long qp), .second, .val (.int pm), .val (.long qx), .second, .val (.long qy), .second, .val (.long qs), .second, .val (.long qe), .second, .val (.long qq), .second, .val (.ref b13), .val (.int (pm &&& (7 : Int32))), .unset, .unset, .unset, .unset, .unset, .unset, .unset] [(.int (lcmpW qe (9223372036854775807 : Int64)))]))) ?_ ?_
            · intro t k
              show Steps p.tables e below (T14.setTop (mkF m 167 #[.val (.long qa), .second, .val (.long qb), .second, .val (.long qp), .second, .val (.int pm), .val (.long qx), .second, .val (.long qy), .second, .val (.long qs), .second, .val (.long qe), .second, .val (.long qq), .second, .val (.ref b13), .val (.int (pm &&& (7 : Int32))), .unset, .unset, .unset, .unset, .unset, .unset, .unset] [])) _
              refine XS.lload X14.here hx rfl (hb hby at_167) rfl ?_
              show Steps p.tables e below (T14.setTop (mkF m 169 #[.val (.long qa), .second, .val (.long qb), .second, .val (.long qp), .second, .val (.int pm), .val (.long qx), .second, .val (.long qy), .second, .val (.long qs), .second, .val (.long qe), .second, .val (.long qq), .second, .val (.ref b13), .val (.int (pm &&& (7 : Int32))), .unset, .unset, .unset, .unset, .unset, .unset, .unset] [(.long qe)])) _
              refine X14.ldc2Long hx hown (mvT hZ (own_w hw 0 rfl)) (g := (mkF m 169 #[.val (.long qa), .second, .val (.long qb), .second, .val (.long qp), .second, .val (.int pm), .val (.long qx), .second, .val (.long qy), .second, .val (.long qs), .second, .val (.long qe), .second, .val (.long qq), .second, .val (.ref b13), .val (.int (pm &&& (7 : Int32))), .unset, .unset, .unset, .unset, .unset, .unset, .unset] [(.long qe)])) rfl (hb hby at_169) _ ?_
              show Steps p.tables e below (T14.setTop (mkF m 172 #[.val (.long qa), .second, .val (.long qb), .second, .val (.long qp), .second, .val (.int pm), .val (.long qx), .second, .val (.long qy), .second, .val (.long qs), .second, .val (.long qe), .second, .val (.long qq), .second, .val (.ref b13), .val (.int (pm &&& (7 : Int32))), .unset, .unset, .unset, .unset, .unset, .unset, .unset] [(.long (9223372036854775807 : Int64)), (.long qe)])) _
              refine XS.lcmp X14.here hx rfl (hb hby at_172) rfl ?_
              exact k
            by_cases hc36 : qe = (9223372036854775807 : Int64)
            · skip
              refine own_pre (A := (T14.setTop (mkF m 176 #[.val (.long qa), .second, .val (.long qb), .second, .val (.long qp), .second, .val (.int pm), .val (.long qx), .second, .val (.long qy), .second, .val (.long qs), .second, .val (.long qe), .second, .val (.long qq), .second, .val (.ref b13), .val (.int (pm &&& (7 : Int32))), .unset, .unset, .unset, .unset, .unset, .unset, .unset] []))) ?_ ?_
              · intro t k
                refine XS.ifNo X14.here hx rfl (hb hby at_173) rfl ((if0 _ _).trans (teq ((lw_eq qe (9223372036854775807 : Int64)).mpr hc36)).2) ?_
                exact k
              refine own_pre (A := (T14.setTop (mkF m 270 #[.val (.long qa), .second, .val (.long qb), .second, .val (.long qp), .second, .val (.int pm), .val (.long qx), .second, .val (.long qy), .second, .val (.long qs), .second, .val (.long qe), .second, .val (.long qq), .second, .val (.ref b13), .val (.int (pm &&& (7 : Int32))), .val (.long qe), .second, .val (.int (1 : Int32)), .unset, .unset, .unset, .unset] [(.long qe), (.ref b13)]))) ?_ ?_
              · intro t k
                show Steps p.tables e below (T14.setTop (mkF m 176 #[.val (.long qa), .second, .val (.long qb), .second, .val (.long qp), .second, .val (.int pm), .val (.long qx), .second, .val (.long qy), .second, .val (.long qs), .second, .val (.long qe), .second, .val (.long qq), .second, .val (.ref b13), .val (.int (pm &&& (7 : Int32))), .unset, .unset, .unset, .unset, .unset, .unset, .unset] [])) _
                refine XS.lload X14.here hx rfl (hb hby at_176) rfl ?_
                show Steps p.tables e below (T14.setTop (mkF m 178 #[.val (.long qa), .second, .val (.long qb), .second, .val (.long qp), .second, .val (.int pm), .val (.long qx), .second, .val (.long qy), .second, .val (.long qs), .second, .val (.long qe), .second, .val (.long qq), .second, .val (.ref b13), .val (.int (pm &&& (7 : Int32))), .unset, .unset, .unset, .unset, .unset, .unset, .unset] [(.long qe)])) _
                refine XS.lstore X14.here hx rfl (hb hby at_178) rfl (l' := #[.val (.long qa), .second, .val (.long qb), .second, .val (.long qp), .second, .val (.int pm), .val (.long qx), .second, .val (.long qy), .second, .val (.long qs), .second, .val (.long qe), .second, .val (.long qq), .second, .val (.ref b13), .val (.int (pm &&& (7 : Int32))), .val (.long qe), .second, .unset, .unset, .unset, .unset, .unset]) rfl ?_
                show Steps p.tables e below (T14.setTop (mkF m 180 #[.val (.long qa), .second, .val (.long qb), .second, .val (.long qp), .second, .val (.int pm), .val (.long qx), .second, .val (.long qy), .second, .val (.long qs), .second, .val (.long qe), .second, .val (.long qq), .second, .val (.ref b13), .val (.int (pm &&& (7 : Int32))), .val (.long qe), .second, .unset, .unset, .unset, .unset, .unset] [])) _
                refine XS.iconst X14.here hx rfl (hb hby at_180) ?_
                show Steps p.tables e below (T14.setTop (mkF m 181 #[.val (.long qa), .second, .val (.long qb), .second, .val (.long qp), .second, .val (.int pm), .val (.long qx), .second, .val (.long qy), .second, .val (.long qs), .second, .val (.long qe), .second, .val (.long qq), .second, .val (.ref b13), .val (.int (pm &&& (7 : Int32))), .val (.long qe), .second, .unset, .unset, .unset, .unset, .unset] [(.int (1 : Int32))])) _
                refine XS.istore X14.here hx rfl (hb hby at_181) rfl (l' := #[.val (.long qa), .second, .val (.long qb), .second, .val (.long qp), .second, .val (.int pm), .val (.long qx), .second, .val (.long qy), .second, .val (.long qs), .second, .val (.long qe), .second, .val (.long qq), .second, .val (.ref b13), .val (.int (pm &&& (7 : Int32))), .val (.long qe), .second, .val (.int (1 : Int32)), .unset, .unset, .unset, .unset]) rfl ?_
                show Steps p.tables e below (T14.setTop (mkF m 183 #[.val (.long qa), .second, .val (.long qb), .second, .val (.long qp), .second, .val (.int pm), .val (.long qx), .second, .val (.long qy), .second, .val (.long qs), .second, .val (.long qe), .second, .val (.long qq), .second, .val (.ref b13), .val (.int (pm &&& (7 : Int32))), .val (.long qe), .second, .val (.int (1 : Int32)), .unset, .unset, .unset, .unset] [])) _
                refine XS.goto X14.here hx rfl (pc0 := 183) (pc' := 266) rfl (hb hby at_183) (by decide) (by decide) ?_
                show Steps p.tables e below (T14.setTop (mkF m 266 #[.val (.long qa), .second, .val (.long qb), .second, .val (.long qp), .second, .val (.int pm), .val (.long qx), .second, .val (.long qy), .second, .val (.long qs), .second, .val (.long qe), .second, .val (.long qq), .second, .val (.ref b13), .val (.int (pm &&& (7 : Int32))), .val (.long qe), .second, .val (.int (1 : Int32)), .unset, .unset, .unset, .unset] [])) _
                refine XS.aload X14.here hx rfl (hb hby at_266) rfl rfl ?_
                show Steps p.tables e below (T14.setTop (mkF m 268 #[.val (.long qa), .second, .val (.long qb), .second, .val (.long qp), .second, .val (.int pm), .val (.long qx), .second, .val (.long qy), .second, .val (.long qs), .second, .val (.long qe), .second, .val (.long qq), .second, .val (.ref b13), .val (.int (pm &&& (7 : Int32))), .val (.long qe), .second, .val (.int (1 : Int32)), .unset, .unset, .unset, .unset] [(.ref b13)])) _
                refine XS.lload X14.here hx rfl (hb hby at_268) rfl ?_
                exact k
              obtain ⟨cq37, kq37, q37a, q37b, q37c⟩ := isOf hZ rfl A13_14
              obtain ⟨_, _, ⟨T37, L37, k37, n37⟩, -, X37, ⟨Lc37, hQ37, l37, y37, z37⟩, st37⟩ := X14.virtualBack hx (y := (⟨"com/example/terq/terq/core/Period", "contains", "(J)Z"⟩ : MethodName)) (z := (⟨"com/example/terq/terq/core/Period", "contains", "(J)Z"⟩ : MethodName)) hown (mvT hZ (own_w hw 26 rfl)) (mvT hZ (own_w hw 27 rfl)) (notFace_of_selects (args := #[]) (mvT hZ (own_w hw 29 rfl))) (mvT hZ (own_w hw 29 rfl)) (mvT hZ (own_w hw 28 rfl)) (by decide) (backOf (W := 0) (rm6 l Z a0 hw [] b13 qe qs qe T14.heap n0 Zs14 Fs14 Fe14) hZ (own_w hw 30 rfl) (own_w hw 10 rfl) (by decide) (by decide)) q37a q37c (g := (mkF m 270 #[.val (.long qa), .second, .val (.long qb), .second, .val (.long qp), .second, .val (.int pm), .val (.long qx), .second, .val (.long qy), .second, .val (.long qs), .second, .val (.long qe), .second, .val (.long qq), .second, .val (.ref b13), .val (.int (pm &&& (7 : Int32))), .val (.long qe), .second, .val (.int (1 : Int32)), .unset, .unset, .unset, .unset] [(.long qe), (.ref b13)])) rfl (by rw [hml]; rfl) (Steps.refl _) (argsL := [(.long qe)]) (rest := []) (lenOf own_pd3 rfl) rfl (by show 2 * 0 + _ ≤ _; exact Nat.le_of_eq rfl) (hb hby at_270) (fun _ _ => ⟨rfl, rfl, (by decide : 1 + 0 ≤ _), (by decide : 2 + 0 ≤ _)⟩)
              dsimp only [Pt.U, Pt.locs, Pt.cells, Pt.slots] at X37 l37 y37 z37 st37 hQ37
              subst l37 y37 z37
              obtain ⟨rfl, Nq37, eq37⟩ := hQ37
              have N37 := Fr.app N14 Nq37
              refine own_pre (fun t k => st37.trans k) ?_
              refine own_pre (A := (T37.setTop (mkF m 275 #[.val (.long qa), .second, .val (.long qb), .second, .val (.long qp), .second, .val (.int pm), .val (.long qx), .second, .val (.long qy), .second, .val (.long qs), .second, .val (.long qe), .second, .val (.long qq), .second, .val (.ref b13), .val (.int (pm &&& (7 : Int32))), .val (.long qe), .second, .val (.int (1 : Int32)), .unset, .unset, .unset, .unset] [(.int (1 : Int32)), (.int (own_cont qe qs qe))]))) ?_ ?_
              · intro t k
                show Steps p.tables e below (T37.setTop (mkF m 273 #[.val (.long qa), .second, .val (.long qb), .second, .val (.long qp), .second, .val (.int pm), .val (.long qx), .second, .val (.long qy), .second, .val (.long qs), .second, .val (.long qe), .second, .val (.long qq), .second, .val (.ref b13), .val (.int (pm &&& (7 : Int32))), .val (.long qe), .second, .val (.int (1 : Int32)), .unset, .unset, .unset, .unset] [(.int (own_cont qe qs qe))])) _
                refine XS.iload X37.here hx rfl (hb hby at_273) rfl ?_
                exact k
              obtain ⟨v39, hv39⟩ : ∃ z : Int32, z = (if (own_cont qe qs qe) = (1 : Int32) then (1 : Int32) else (0 : Int32)) := ⟨_, rfl⟩
              refine own_pre (A := (T37.setTop (mkF m 283 #[.val (.long qa), .second, .val (.long qb), .second, .val (.long qp), .second, .val (.int pm), .val (.long qx), .second, .val (.long qy), .second, .val (.long qs), .second, .val (.long qe), .second, .val (.long qq), .second, .val (.ref b13), .val (.int (pm &&& (7 : Int32))), .val (.long qe), .second, .val (.int (1 : Int32)), .unset, .unset, .unset, .unset] [(.int v39)]))) ?_ ?_
              · intro t k
                show Steps p.tables e below (T37.setTop (mkF m 275 #[.val (.long qa), .second, .val (.long qb), .second, .val (.long qp), .second, .val (.int pm), .val (.long qx), .second, .val (.long qy), .second, .val (.long qs), .second, .val (.long qe), .second, .val (.long qq), .second, .val (.ref b13), .val (.int (pm &&& (7 : Int32))), .val (.long qe), .second, .val (.int (1 : Int32)), .unset, .unset, .unset, .unset] [(.int (1 : Int32)), (.int (own_cont qe qs qe))])) _
                by_cases hc38 : (own_cont qe qs qe) = (1 : Int32)
                · skip
                  refine XS.icmpNo X37.here hx rfl (hb hby at_275) rfl (teq hc38).2 ?_
                  show Steps p.tables e below (T37.setTop (mkF m 278 #[.val (.long qa), .second, .val (.long qb), .second, .val (.long qp), .second, .val (.int pm), .val (.long qx), .second, .val (.long qy), .second, .val (.long qs), .second, .val (.long qe), .second, .val (.long qq), .second, .val (.ref b13), .val (.int (pm &&& (7 : Int32))), .val (.long qe), .second, .val (.int (1 : Int32)), .unset, .unset, .unset, .unset] [])) _
                  refine XS.iconst X37.here hx rfl (hb hby at_278) ?_
                  show Steps p.tables e below (T37.setTop (mkF m 279 #[.val (.long qa), .second, .val (.long qb), .second, .val (.long qp), .second, .val (.int pm), .val (.long qx), .second, .val (.long qy), .second, .val (.long qs), .second, .val (.long qe), .second, .val (.long qq), .second, .val (.ref b13), .val (.int (pm &&& (7 : Int32))), .val (.long qe), .second, .val (.int (1 : Int32)), .unset, .unset, .unset, .unset] [(.int (1 : Int32))])) _
                  refine XS.goto X37.here hx rfl (pc0 := 279) (pc' := 283) rfl (hb hby at_279) (by decide) (by decide) ?_
                  rw [show v39 = (1 : Int32) from hv39.trans (by simp only [if_pos hc38])] at k
                  exact k
                · skip
                  refine XS.icmpYes X37.here hx rfl (pc0 := 275) (pc' := 282) rfl (hb hby at_275) rfl (feq hc38).2 (by decide) (by decide) ?_
                  show Steps p.tables e below (T37.setTop (mkF m 282 #[.val (.long qa), .second, .val (.long qb), .second, .val (.long qp), .second, .val (.int pm), .val (.long qx), .second, .val (.long qy), .second, .val (.long qs), .second, .val (.long qe), .second, .val (.long qq), .second, .val (.ref b13), .val (.int (pm &&& (7 : Int32))), .val (.long qe), .second, .val (.int (1 : Int32)), .unset, .unset, .unset, .unset] [])) _
                  refine XS.iconst X37.here hx rfl (hb hby at_282) ?_
                  rw [show v39 = (0 : Int32) from hv39.trans (by simp only [if_neg hc38])] at k
                  exact k
              have hz : v39 = (1 : Int32) := by rw [hv39, if_pos (own_f1 qs qe me)]
              rw [hz]
              obtain ⟨fs, hr, hrun, hended, hW, hsame⟩ := X37.leave (hlocks := BodyLoose.notSynchronized Bd) (v := some (.int (1 : Int32))) (fun h => by rw [Bd.returns] at h; cases h)
              refine ⟨_, _, retOut X37 hx Bd.returns rfl (Or.inl ⟨rfl, Or.inr (Or.inl rfl), _, rfl⟩) (hb hby at_283) hr, hrun, hended, _, _, rfl, ?_, ⟨_, rfl⟩, hW, hsame.mono (by decide) (by decide)⟩
              show own_Q0 h0 n0 _ T37.heap _
              rw [eq37]
              exact ⟨rfl, N37⟩
            · skip
              refine own_pre (A := (T14.setTop (mkF m 186 #[.val (.long qa), .second, .val (.long qb), .second, .val (.long qp), .second, .val (.int pm), .val (.long qx), .second, .val (.long qy), .second, .val (.long qs), .second, .val (.long qe), .second, .val (.long qq), .second, .val (.ref b13), .val (.int (pm &&& (7 : Int32))), .unset, .unset, .unset, .unset, .unset, .unset, .unset] []))) ?_ ?_
              · intro t k
                refine XS.ifYes X14.here hx rfl (pc0 := 173) (pc' := 186) rfl (hb hby at_173) rfl ((if0 _ _).trans (feq (fun q => hc36 ((lw_eq qe (9223372036854775807 : Int64)).mp q))).2) (by decide) (by decide) ?_
                exact k
              refine own_pre (A := (T14.setTop (mkF m 270 #[.val (.long qa), .second, .val (.long qb), .second, .val (.long qp), .second, .val (.int pm), .val (.long qx), .second, .val (.long qy), .second, .val (.long qs), .second, .val (.long qe), .second, .val (.long qq), .second, .val (.ref b13), .val (.int (pm &&& (7 : Int32))), .val (.long ((9223372036854775807 : Int64) - (qq % ((9223372036854775807 : Int64) - qe)))), .second, .val (.int (0 : Int32)), .unset, .unset, .unset, .unset] [(.long ((9223372036854775807 : Int64) - (qq % ((9223372036854775807 : Int64) - qe)))), (.ref b13)]))) ?_ ?_
              · intro t k
                show Steps p.tables e below (T14.setTop (mkF m 186 #[.val (.long qa), .second, .val (.long qb), .second, .val (.long qp), .second, .val (.int pm), .val (.long qx), .second, .val (.long qy), .second, .val (.long qs), .second, .val (.long qe), .second, .val (.long qq), .second, .val (.ref b13), .val (.int (pm &&& (7 : Int32))), .unset, .unset, .unset, .unset, .unset, .unset, .unset] [])) _
                refine X14.ldc2Long hx hown (mvT hZ (own_w hw 0 rfl)) (g := (mkF m 186 #[.val (.long qa), .second, .val (.long qb), .second, .val (.long qp), .second, .val (.int pm), .val (.long qx), .second, .val (.long qy), .second, .val (.long qs), .second, .val (.long qe), .second, .val (.long qq), .second, .val (.ref b13), .val (.int (pm &&& (7 : Int32))), .unset, .unset, .unset, .unset, .unset, .unset, .unset] [])) rfl (hb hby at_186) _ ?_
                show Steps p.tables e below (T14.setTop (mkF m 189 #[.val (.long qa), .second, .val (.long qb), .second, .val (.long qp), .second, .val (.int pm), .val (.long qx), .second, .val (.long qy), .second, .val (.long qs), .second, .val (.long qe), .second, .val (.long qq), .second, .val (.ref b13), .val (.int (pm &&& (7 : Int32))), .unset, .unset, .unset, .unset, .unset, .unset, .unset] [(.long (9223372036854775807 : Int64))])) _
                refine XS.lload X14.here hx rfl (hb hby at_189) rfl ?_
                show Steps p.tables e below (T14.setTop (mkF m 191 #[.val (.long qa), .second, .val (.long qb), .second, .val (.long qp), .second, .val (.int pm), .val (.long qx), .second, .val (.long qy), .second, .val (.long qs), .second, .val (.long qe), .second, .val (.long qq), .second, .val (.ref b13), .val (.int (pm &&& (7 : Int32))), .unset, .unset, .unset, .unset, .unset, .unset, .unset] [(.long qq), (.long (9223372036854775807 : Int64))])) _
                refine X14.ldc2Long hx hown (mvT hZ (own_w hw 0 rfl)) (g := (mkF m 191 #[.val (.long qa), .second, .val (.long qb), .second, .val (.long qp), .second, .val (.int pm), .val (.long qx), .second, .val (.long qy), .second, .val (.long qs), .second, .val (.long qe), .second, .val (.long qq), .second, .val (.ref b13), .val (.int (pm &&& (7 : Int32))), .unset, .unset, .unset, .unset, .unset, .unset, .unset] [(.long qq), (.long (9223372036854775807 : Int64))])) rfl (hb hby at_191) _ ?_
                show Steps p.tables e below (T14.setTop (mkF m 194 #[.val (.long qa), .second, .val (.long qb), .second, .val (.long qp), .second, .val (.int pm), .val (.long qx), .second, .val (.long qy), .second, .val (.long qs), .second, .val (.long qe), .second, .val (.long qq), .second, .val (.ref b13), .val (.int (pm &&& (7 : Int32))), .unset, .unset, .unset, .unset, .unset, .unset, .unset] [(.long (9223372036854775807 : Int64)), (.long qq), (.long (9223372036854775807 : Int64))])) _
                refine XS.lload X14.here hx rfl (hb hby at_194) rfl ?_
                show Steps p.tables e below (T14.setTop (mkF m 196 #[.val (.long qa), .second, .val (.long qb), .second, .val (.long qp), .second, .val (.int pm), .val (.long qx), .second, .val (.long qy), .second, .val (.long qs), .second, .val (.long qe), .second, .val (.long qq), .second, .val (.ref b13), .val (.int (pm &&& (7 : Int32))), .unset, .unset, .unset, .unset, .unset, .unset, .unset] [(.long qe), (.long (9223372036854775807 : Int64)), (.long qq), (.long (9223372036854775807 : Int64))])) _
                refine XS.lsub X14.here hx rfl (hb hby at_196) rfl ?_
                show Steps p.tables e below (T14.setTop (mkF m 197 #[.val (.long qa), .second, .val (.long qb), .second, .val (.long qp), .second, .val (.int pm), .val (.long qx), .second, .val (.long qy), .second, .val (.long qs), .second, .val (.long qe), .second, .val (.long qq), .second, .val (.ref b13), .val (.int (pm &&& (7 : Int32))), .unset, .unset, .unset, .unset, .unset, .unset, .unset] [(.long ((9223372036854775807 : Int64) - qe)), (.long qq), (.long (9223372036854775807 : Int64))])) _
                refine own_lrem X14 hx rfl (hb hby at_197) rfl (own_nz2 qs qe ms me hc36).2 ?_
                show Steps p.tables e below (T14.setTop (mkF m 198 #[.val (.long qa), .second, .val (.long qb), .second, .val (.long qp), .second, .val (.int pm), .val (.long qx), .second, .val (.long qy), .second, .val (.long qs), .second, .val (.long qe), .second, .val (.long qq), .second, .val (.ref b13), .val (.int (pm &&& (7 : Int32))), .unset, .unset, .unset, .unset, .unset, .unset, .unset] [(.long (qq % ((9223372036854775807 : Int64) - qe))), (.long (9223372036854775807 : Int64))])) _
                refine XS.lsub X14.here hx rfl (hb hby at_198) rfl ?_
                show Steps p.tables e below (T14.setTop (mkF m 199 #[.val (.long qa), .second, .val (.long qb), .second, .val (.long qp), .second, .val (.int pm), .val (.long qx), .second, .val (.long qy), .second, .val (.long qs), .second, .val (.long qe), .second, .val (.long qq), .second, .val (.ref b13), .val (.int (pm &&& (7 : Int32))), .unset, .unset, .unset, .unset, .unset, .unset, .unset] [(.long ((9223372036854775807 : Int64) - (qq % ((9223372036854775807 : Int64) - qe))))])) _
                refine XS.lstore X14.here hx rfl (hb hby at_199) rfl (l' := #[.val (.long qa), .second, .val (.long qb), .second, .val (.long qp), .second, .val (.int pm), .val (.long qx), .second, .val (.long qy), .second, .val (.long qs), .second, .val (.long qe), .second, .val (.long qq), .second, .val (.ref b13), .val (.int (pm &&& (7 : Int32))), .val (.long ((9223372036854775807 : Int64) - (qq % ((9223372036854775807 : Int64) - qe)))), .second, .unset, .unset, .unset, .unset, .unset]) rfl ?_
                show Steps p.tables e below (T14.setTop (mkF m 201 #[.val (.long qa), .second, .val (.long qb), .second, .val (.long qp), .second, .val (.int pm), .val (.long qx), .second, .val (.long qy), .second, .val (.long qs), .second, .val (.long qe), .second, .val (.long qq), .second, .val (.ref b13), .val (.int (pm &&& (7 : Int32))), .val (.long ((9223372036854775807 : Int64) - (qq % ((9223372036854775807 : Int64) - qe)))), .second, .unset, .unset, .unset, .unset, .unset] [])) _
                refine XS.iconst X14.here hx rfl (hb hby at_201) ?_
                show Steps p.tables e below (T14.setTop (mkF m 202 #[.val (.long qa), .second, .val (.long qb), .second, .val (.long qp), .second, .val (.int pm), .val (.long qx), .second, .val (.long qy), .second, .val (.long qs), .second, .val (.long qe), .second, .val (.long qq), .second, .val (.ref b13), .val (.int (pm &&& (7 : Int32))), .val (.long ((9223372036854775807 : Int64) - (qq % ((9223372036854775807 : Int64) - qe)))), .second, .unset, .unset, .unset, .unset, .unset] [(.int (0 : Int32))])) _
                refine XS.istore X14.here hx rfl (hb hby at_202) rfl (l' := #[.val (.long qa), .second, .val (.long qb), .second, .val (.long qp), .second, .val (.int pm), .val (.long qx), .second, .val (.long qy), .second, .val (.long qs), .second, .val (.long qe), .second, .val (.long qq), .second, .val (.ref b13), .val (.int (pm &&& (7 : Int32))), .val (.long ((9223372036854775807 : Int64) - (qq % ((9223372036854775807 : Int64) - qe)))), .second, .val (.int (0 : Int32)), .unset, .unset, .unset, .unset]) rfl ?_
                show Steps p.tables e below (T14.setTop (mkF m 204 #[.val (.long qa), .second, .val (.long qb), .second, .val (.long qp), .second, .val (.int pm), .val (.long qx), .second, .val (.long qy), .second, .val (.long qs), .second, .val (.long qe), .second, .val (.long qq), .second, .val (.ref b13), .val (.int (pm &&& (7 : Int32))), .val (.long ((9223372036854775807 : Int64) - (qq % ((9223372036854775807 : Int64) - qe)))), .second, .val (.int (0 : Int32)), .unset, .unset, .unset, .unset] [])) _
                refine XS.goto X14.here hx rfl (pc0 := 204) (pc' := 266) rfl (hb hby at_204) (by decide) (by decide) ?_
                show Steps p.tables e below (T14.setTop (mkF m 266 #[.val (.long qa), .second, .val (.long qb), .second, .val (.long qp), .second, .val (.int pm), .val (.long qx), .second, .val (.long qy), .second, .val (.long qs), .second, .val (.long qe), .second, .val (.long qq), .second, .val (.ref b13), .val (.int (pm &&& (7 : Int32))), .val (.long ((9223372036854775807 : Int64) - (qq % ((9223372036854775807 : Int64) - qe)))), .second, .val (.int (0 : Int32)), .unset, .unset, .unset, .unset] [])) _
                refine XS.aload X14.here hx rfl (hb hby at_266) rfl rfl ?_
                show Steps p.tables e below (T14.setTop (mkF m 268 #[.val (.long qa), .second, .val (.long qb), .second, .val (.long qp), .second, .val (.int pm), .val (.long qx), .second, .val (.long qy), .second, .val (.long qs), .second, .val (.long qe), .second, .val (.long qq), .second, .val (.ref b13), .val (.int (pm &&& (7 : Int32))), .val (.long ((9223372036854775807 : Int64) - (qq % ((9223372036854775807 : Int64) - qe)))), .second, .val (.int (0 : Int32)), .unset, .unset, .unset, .unset] [(.ref b13)])) _
                refine XS.lload X14.here hx rfl (hb hby at_268) rfl ?_
                exact k
              obtain ⟨cq40, kq40, q40a, q40b, q40c⟩ := isOf hZ rfl A13_14
              obtain ⟨_, _, ⟨T40, L40, k40, n40⟩, -, X40, ⟨Lc40, hQ40, l40, y40, z40⟩, st40⟩ := X14.virtualBack hx (y := (⟨"com/example/terq/terq/core/Period", "contains", "(J)Z"⟩ : MethodName)) (z := (⟨"com/example/terq/terq/core/Period", "contains", "(J)Z"⟩ : MethodName)) hown (mvT hZ (own_w hw 26 rfl)) (mvT hZ (own_w hw 27 rfl)) (notFace_of_selects (args := #[]) (mvT hZ (own_w hw 29 rfl))) (mvT hZ (own_w hw 29 rfl)) (mvT hZ (own_w hw 28 rfl)) (by decide) (backOf (W := 0) (rm6 l Z a0 hw [] b13 ((9223372036854775807 : Int64) - (qq % ((9223372036854775807 : Int64) - qe))) qs qe T14.heap n0 Zs14 Fs14 Fe14) hZ (own_w hw 30 rfl) (own_w hw 10 rfl) (by decide) (by decide)) q40a q40c (g := (mkF m 270 #[.val (.long qa), .second, .val (.long qb), .second, .val (.long qp), .second, .val (.int pm), .val (.long qx), .second, .val (.long qy), .second, .val (.long qs), .second, .val (.long qe), .second, .val (.long qq), .second, .val (.ref b13), .val (.int (pm &&& (7 : Int32))), .val (.long ((9223372036854775807 : Int64) - (qq % ((9223372036854775807 : Int64) - qe)))), .second, .val (.int (0 : Int32)), .unset, .unset, .unset, .unset] [(.long ((9223372036854775807 : Int64) - (qq % ((9223372036854775807 : Int64) - qe)))), (.ref b13)])) rfl (by rw [hml]; rfl) (Steps.refl _) (argsL := [(.long ((9223372036854775807 : Int64) - (qq % ((9223372036854775807 : Int64) - qe))))]) (rest := []) (lenOf own_pd3 rfl) rfl (by show 2 * 0 + _ ≤ _; exact Nat.le_of_eq rfl) (hb hby at_270) (fun _ _ => ⟨rfl, rfl, (by decide : 1 + 0 ≤ _), (by decide : 2 + 0 ≤ _)⟩)
              dsimp only [Pt.U, Pt.locs, Pt.cells, Pt.slots] at X40 l40 y40 z40 st40 hQ40
              subst l40 y40 z40
              obtain ⟨rfl, Nq40, eq40⟩ := hQ40
              have N40 := Fr.app N14 Nq40
              refine own_pre (fun t k => st40.trans k) ?_
              refine own_pre (A := (T40.setTop (mkF m 275 #[.val (.long qa), .second, .val (.long qb), .second, .val (.long qp), .second, .val (.int pm), .val (.long qx), .second, .val (.long qy), .second, .val (.long qs), .second, .val (.long qe), .second, .val (.long qq), .second, .val (.ref b13), .val (.int (pm &&& (7 : Int32))), .val (.long ((9223372036854775807 : Int64) - (qq % ((9223372036854775807 : Int64) - qe)))), .second, .val (.int (0 : Int32)), .unset, .unset, .unset, .unset] [(.int (0 : Int32)), (.int (own_cont ((9223372036854775807 : Int64) - (qq % ((9223372036854775807 : Int64) - qe))) qs qe))]))) ?_ ?_
              · intro t k
                show Steps p.tables e below (T40.setTop (mkF m 273 #[.val (.long qa), .second, .val (.long qb), .second, .val (.long qp), .second, .val (.int pm), .val (.long qx), .second, .val (.long qy), .second, .val (.long qs), .second, .val (.long qe), .second, .val (.long qq), .second, .val (.ref b13), .val (.int (pm &&& (7 : Int32))), .val (.long ((9223372036854775807 : Int64) - (qq % ((9223372036854775807 : Int64) - qe)))), .second, .val (.int (0 : Int32)), .unset, .unset, .unset, .unset] [(.int (own_cont ((9223372036854775807 : Int64) - (qq % ((9223372036854775807 : Int64) - qe))) qs qe))])) _
                refine XS.iload X40.here hx rfl (hb hby at_273) rfl ?_
                exact k
              obtain ⟨v42, hv42⟩ : ∃ z : Int32, z = (if (own_cont ((9223372036854775807 : Int64) - (qq % ((9223372036854775807 : Int64) - qe))) qs qe) = (0 : Int32) then (1 : Int32) else (0 : Int32)) := ⟨_, rfl⟩
              refine own_pre (A := (T40.setTop (mkF m 283 #[.val (.long qa), .second, .val (.long qb), .second, .val (.long qp), .second, .val (.int pm), .val (.long qx), .second, .val (.long qy), .second, .val (.long qs), .second, .val (.long qe), .second, .val (.long qq), .second, .val (.ref b13), .val (.int (pm &&& (7 : Int32))), .val (.long ((9223372036854775807 : Int64) - (qq % ((9223372036854775807 : Int64) - qe)))), .second, .val (.int (0 : Int32)), .unset, .unset, .unset, .unset] [(.int v42)]))) ?_ ?_
              · intro t k
                show Steps p.tables e below (T40.setTop (mkF m 275 #[.val (.long qa), .second, .val (.long qb), .second, .val (.long qp), .second, .val (.int pm), .val (.long qx), .second, .val (.long qy), .second, .val (.long qs), .second, .val (.long qe), .second, .val (.long qq), .second, .val (.ref b13), .val (.int (pm &&& (7 : Int32))), .val (.long ((9223372036854775807 : Int64) - (qq % ((9223372036854775807 : Int64) - qe)))), .second, .val (.int (0 : Int32)), .unset, .unset, .unset, .unset] [(.int (0 : Int32)), (.int (own_cont ((9223372036854775807 : Int64) - (qq % ((9223372036854775807 : Int64) - qe))) qs qe))])) _
                by_cases hc41 : (own_cont ((9223372036854775807 : Int64) - (qq % ((9223372036854775807 : Int64) - qe))) qs qe) = (0 : Int32)
                · skip
                  refine XS.icmpNo X40.here hx rfl (hb hby at_275) rfl (teq hc41).2 ?_
                  show Steps p.tables e below (T40.setTop (mkF m 278 #[.val (.long qa), .second, .val (.long qb), .second, .val (.long qp), .second, .val (.int pm), .val (.long qx), .second, .val (.long qy), .second, .val (.long qs), .second, .val (.long qe), .second, .val (.long qq), .second, .val (.ref b13), .val (.int (pm &&& (7 : Int32))), .val (.long ((9223372036854775807 : Int64) - (qq % ((9223372036854775807 : Int64) - qe)))), .second, .val (.int (0 : Int32)), .unset, .unset, .unset, .unset] [])) _
                  refine XS.iconst X40.here hx rfl (hb hby at_278) ?_
                  show Steps p.tables e below (T40.setTop (mkF m 279 #[.val (.long qa), .second, .val (.long qb), .second, .val (.long qp), .second, .val (.int pm), .val (.long qx), .second, .val (.long qy), .second, .val (.long qs), .second, .val (.long qe), .second, .val (.long qq), .second, .val (.ref b13), .val (.int (pm &&& (7 : Int32))), .val (.long ((9223372036854775807 : Int64) - (qq % ((9223372036854775807 : Int64) - qe)))), .second, .val (.int (0 : Int32)), .unset, .unset, .unset, .unset] [(.int (1 : Int32))])) _
                  refine XS.goto X40.here hx rfl (pc0 := 279) (pc' := 283) rfl (hb hby at_279) (by decide) (by decide) ?_
                  rw [show v42 = (1 : Int32) from hv42.trans (by simp only [if_pos hc41])] at k
                  exact k
                · skip
                  refine XS.icmpYes X40.here hx rfl (pc0 := 275) (pc' := 282) rfl (hb hby at_275) rfl (feq hc41).2 (by decide) (by decide) ?_
                  show Steps p.tables e below (T40.setTop (mkF m 282 #[.val (.long qa), .second, .val (.long qb), .second, .val (.long qp), .second, .val (.int pm), .val (.long qx), .second, .val (.long qy), .second, .val (.long qs), .second, .val (.long qe), .second, .val (.long qq), .second, .val (.ref b13), .val (.int (pm &&& (7 : Int32))), .val (.long ((9223372036854775807 : Int64) - (qq % ((9223372036854775807 : Int64) - qe)))), .second, .val (.int (0 : Int32)), .unset, .unset, .unset, .unset] [])) _
                  refine XS.iconst X40.here hx rfl (hb hby at_282) ?_
                  rw [show v42 = (0 : Int32) from hv42.trans (by simp only [if_neg hc41])] at k
                  exact k
              have hz : v42 = (1 : Int32) := by rw [hv42, if_pos (own_f4b qs qe qq ms me nqq hc36)]
              rw [hz]
              obtain ⟨fs, hr, hrun, hended, hW, hsame⟩ := X40.leave (hlocks := BodyLoose.notSynchronized Bd) (v := some (.int (1 : Int32))) (fun h => by rw [Bd.returns] at h; cases h)
              refine ⟨_, _, retOut X40 hx Bd.returns rfl (Or.inl ⟨rfl, Or.inr (Or.inl rfl), _, rfl⟩) (hb hby at_283) hr, hrun, hended, _, _, rfl, ?_, ⟨_, rfl⟩, hW, hsame.mono (by decide) (by decide)⟩
              show own_Q0 h0 n0 _ T40.heap _
              rw [eq40]
              exact ⟨rfl, N40⟩
          · skip
            refine own_pre (A := (T14.setTop (mkF m 207 #[.val (.long qa), .second, .val (.long qb), .second, .val (.long qp), .second, .val (.int pm), .val (.long qx), .second, .val (.long qy), .second, .val (.long qs), .second, .val (.long qe), .second, .val (.long qq), .second, .val (.ref b13), .val (.int (pm &&& (7 : Int32))), .unset, .unset, .unset, .unset, .unset, .unset, .unset] []))) ?_ ?_
            · intro t k
              refine XS.icmpYes X14.here hx rfl (pc0 := 164) (pc' := 207) rfl (hb hby at_164) rfl (feq hc35).2 (by decide) (by decide) ?_
              exact k
            refine own_pre (A := (T14.setTop (mkF m 210 #[.val (.long qa), .second, .val (.long qb), .second, .val (.long qp), .second, .val (.int pm), .val (.long qx), .second, .val (.long qy), .second, .val (.long qs), .second, .val (.long qe), .second, .val (.long qq), .second, .val (.ref b13), .val (.int (pm &&& (7 : Int32))), .unset, .unset, .unset, .unset, .unset, .unset, .unset] [(.int (5 : Int32)), (.int (pm &&& (7 : Int32)))]))) ?_ ?_
            · intro t k
              show Steps p.tables e below (T14.setTop (mkF m 207 #[.val (.long qa), .second, .val (.long qb), .second, .val (.long qp), .second, .val (.int pm), .val (.long qx), .second, .val (.long qy), .second, .val (.long qs), .second, .val (.long qe), .second, .val (.long qq), .second, .val (.ref b13), .val (.int (pm &&& (7 : Int32))), .unset, .unset, .unset, .unset, .unset, .unset, .unset] [])) _
              refine XS.iload X14.here hx rfl (hb hby at_207) rfl ?_
              show Steps p.tables e below (T14.setTop (mkF m 209 #[.val (.long qa), .second, .val (.long qb), .second, .val (.long qp), .second, .val (.int pm), .val (.long qx), .second, .val (.long qy), .second, .val (.long qs), .second, .val (.long qe), .second, .val (.long qq), .second, .val (.ref b13), .val (.int (pm &&& (7 : Int32))), .unset, .unset, .unset, .unset, .unset, .unset, .unset] [(.int (pm &&& (7 : Int32)))])) _
              refine XS.iconst X14.here hx rfl (hb hby at_209) ?_
              exact k
            by_cases hc43 : (pm &&& (7 : Int32)) = (5 : Int32)
            · skip
              refine own_pre (A := (T14.setTop (mkF m 213 #[.val (.long qa), .second, .val (.long qb), .second, .val (.long qp), .second, .val (.int pm), .val (.long qx), .second, .val (.long qy), .second, .val (.long qs), .second, .val (.long qe), .second, .val (.long qq), .second, .val (.ref b13), .val (.int (pm &&& (7 : Int32))), .unset, .unset, .unset, .unset, .unset, .unset, .unset] []))) ?_ ?_
              · intro t k
                refine XS.icmpNo X14.here hx rfl (hb hby at_210) rfl (teq hc43).2 ?_
                exact k
              refine own_pre (A := (T14.setTop (mkF m 270 #[.val (.long qa), .second, .val (.long qb), .second, .val (.long qp), .second, .val (.int pm), .val (.long qx), .second, .val (.long qy), .second, .val (.long qs), .second, .val (.long qe), .second, .val (.long qq), .second, .val (.ref b13), .val (.int (pm &&& (7 : Int32))), .val (.long (qp ||| (-9223372036854775808 : Int64))), .second, .val (.int (0 : Int32)), .unset, .unset, .unset, .unset] [(.long (qp ||| (-9223372036854775808 : Int64))), (.ref b13)]))) ?_ ?_
              · intro t k
                show Steps p.tables e below (T14.setTop (mkF m 213 #[.val (.long qa), .second, .val (.long qb), .second, .val (.long qp), .second, .val (.int pm), .val (.long qx), .second, .val (.long qy), .second, .val (.long qs), .second, .val (.long qe), .second, .val (.long qq), .second, .val (.ref b13), .val (.int (pm &&& (7 : Int32))), .unset, .unset, .unset, .unset, .unset, .unset, .unset] [])) _
                refine XS.lload X14.here hx rfl (hb hby at_213) rfl ?_
                show Steps p.tables e below (T14.setTop (mkF m 215 #[.val (.long qa), .second, .val (.long qb), .second, .val (.long qp), .second, .val (.int pm), .val (.long qx), .second, .val (.long qy), .second, .val (.long qs), .second, .val (.long qe), .second, .val (.long qq), .second, .val (.ref b13), .val (.int (pm &&& (7 : Int32))), .unset, .unset, .unset, .unset, .unset, .unset, .unset] [(.long qp)])) _
                refine X14.ldc2Long hx hown (mvT hZ (own_w hw 31 rfl)) (g := (mkF m 215 #[.val (.long qa), .second, .val (.long qb), .second, .val (.long qp), .second, .val (.int pm), .val (.long qx), .second, .val (.long qy), .second, .val (.long qs), .second, .val (.long qe), .second, .val (.long qq), .second, .val (.ref b13), .val (.int (pm &&& (7 : Int32))), .unset, .unset, .unset, .unset, .unset, .unset, .unset] [(.long qp)])) rfl (hb hby at_215) _ ?_
                show Steps p.tables e below (T14.setTop (mkF m 218 #[.val (.long qa), .second, .val (.long qb), .second, .val (.long qp), .second, .val (.int pm), .val (.long qx), .second, .val (.long qy), .second, .val (.long qs), .second, .val (.long qe), .second, .val (.long qq), .second, .val (.ref b13), .val (.int (pm &&& (7 : Int32))), .unset, .unset, .unset, .unset, .unset, .unset, .unset] [(.long (-9223372036854775808 : Int64)), (.long qp)])) _
                refine XS.lor X14.here hx rfl (hb hby at_218) rfl ?_
                show Steps p.tables e below (T14.setTop (mkF m 219 #[.val (.long qa), .second, .val (.long qb), .second, .val (.long qp), .second, .val (.int pm), .val (.long qx), .second, .val (.long qy), .second, .val (.long qs), .second, .val (.long qe), .second, .val (.long qq), .second, .val (.ref b13), .val (.int (pm &&& (7 : Int32))), .unset, .unset, .unset, .unset, .unset, .unset, .unset] [(.long (qp ||| (-9223372036854775808 : Int64)))])) _
                refine XS.lstore X14.here hx rfl (hb hby at_219) rfl (l' := #[.val (.long qa), .second, .val (.long qb), .second, .val (.long qp), .second, .val (.int pm), .val (.long qx), .second, .val (.long qy), .second, .val (.long qs), .second, .val (.long qe), .second, .val (.long qq), .second, .val (.ref b13), .val (.int (pm &&& (7 : Int32))), .val (.long (qp ||| (-9223372036854775808 : Int64))), .second, .unset, .unset, .unset, .unset, .unset]) rfl ?_
                show Steps p.tables e below (T14.setTop (mkF m 221 #[.val (.long qa), .second, .val (.long qb), .second, .val (.long qp), .second, .val (.int pm), .val (.long qx), .second, .val (.long qy), .second, .val (.long qs), .second, .val (.long qe), .second, .val (.long qq), .second, .val (.ref b13), .val (.int (pm &&& (7 : Int32))), .val (.long (qp ||| (-9223372036854775808 : Int64))), .second, .unset, .unset, .unset, .unset, .unset] [])) _
                refine XS.iconst X14.here hx rfl (hb hby at_221) ?_
                show Steps p.tables e below (T14.setTop (mkF m 222 #[.val (.long qa), .second, .val (.long qb), .second, .val (.long qp), .second, .val (.int pm), .val (.long qx), .second, .val (.long qy), .second, .val (.long qs), .second, .val (.long qe), .second, .val (.long qq), .second, .val (.ref b13), .val (.int (pm &&& (7 : Int32))), .val (.long (qp ||| (-9223372036854775808 : Int64))), .second, .unset, .unset, .unset, .unset, .unset] [(.int (0 : Int32))])) _
                refine XS.istore X14.here hx rfl (hb hby at_222) rfl (l' := #[.val (.long qa), .second, .val (.long qb), .second, .val (.long qp), .second, .val (.int pm), .val (.long qx), .second, .val (.long qy), .second, .val (.long qs), .second, .val (.long qe), .second, .val (.long qq), .second, .val (.ref b13), .val (.int (pm &&& (7 : Int32))), .val (.long (qp ||| (-9223372036854775808 : Int64))), .second, .val (.int (0 : Int32)), .unset, .unset, .unset, .unset]) rfl ?_
                show Steps p.tables e below (T14.setTop (mkF m 224 #[.val (.long qa), .second, .val (.long qb), .second, .val (.long qp), .second, .val (.int pm), .val (.long qx), .second, .val (.long qy), .second, .val (.long qs), .second, .val (.long qe), .second, .val (.long qq), .second, .val (.ref b13), .val (.int (pm &&& (7 : Int32))), .val (.long (qp ||| (-9223372036854775808 : Int64))), .second, .val (.int (0 : Int32)), .unset, .unset, .unset, .unset] [])) _
                refine XS.goto X14.here hx rfl (pc0 := 224) (pc' := 266) rfl (hb hby at_224) (by decide) (by decide) ?_
                show Steps p.tables e below (T14.setTop (mkF m 266 #[.val (.long qa), .second, .val (.long qb), .second, .val (.long qp), .second, .val (.int pm), .val (.long qx), .second, .val (.long qy), .second, .val (.long qs), .second, .val (.long qe), .second, .val (.long qq), .second, .val (.ref b13), .val (.int (pm &&& (7 : Int32))), .val (.long (qp ||| (-9223372036854775808 : Int64))), .second, .val (.int (0 : Int32)), .unset, .unset, .unset, .unset] [])) _
                refine XS.aload X14.here hx rfl (hb hby at_266) rfl rfl ?_
                show Steps p.tables e below (T14.setTop (mkF m 268 #[.val (.long qa), .second, .val (.long qb), .second, .val (.long qp), .second, .val (.int pm), .val (.long qx), .second, .val (.long qy), .second, .val (.long qs), .second, .val (.long qe), .second, .val (.long qq), .second, .val (.ref b13), .val (.int (pm &&& (7 : Int32))), .val (.long (qp ||| (-9223372036854775808 : Int64))), .second, .val (.int (0 : Int32)), .unset, .unset, .unset, .unset] [(.ref b13)])) _
                refine XS.lload X14.here hx rfl (hb hby at_268) rfl ?_
                exact k
              obtain ⟨cq44, kq44, q44a, q44b, q44c⟩ := isOf hZ rfl A13_14
              obtain ⟨_, _, ⟨T44, L44, k44, n44⟩, -, X44, ⟨Lc44, hQ44, l44, y44, z44⟩, st44⟩ := X14.virtualBack hx (y := (⟨"com/example/terq/terq/core/Period", "contains", "(J)Z"⟩ : MethodName)) (z := (⟨"com/example/terq/terq/core/Period", "contains", "(J)Z"⟩ : MethodName)) hown (mvT hZ (own_w hw 26 rfl)) (mvT hZ (own_w hw 27 rfl)) (notFace_of_selects (args := #[]) (mvT hZ (own_w hw 29 rfl))) (mvT hZ (own_w hw 29 rfl)) (mvT hZ (own_w hw 28 rfl)) (by decide) (backOf (W := 0) (rm6 l Z a0 hw [] b13 (qp ||| (-9223372036854775808 : Int64)) qs qe T14.heap n0 Zs14 Fs14 Fe14) hZ (own_w hw 30 rfl) (own_w hw 10 rfl) (by decide) (by decide)) q44a q44c (g := (mkF m 270 #[.val (.long qa), .second, .val (.long qb), .second, .val (.long qp), .second, .val (.int pm), .val (.long qx), .second, .val (.long qy), .second, .val (.long qs), .second, .val (.long qe), .second, .val (.long qq), .second, .val (.ref b13), .val (.int (pm &&& (7 : Int32))), .val (.long (qp ||| (-9223372036854775808 : Int64))), .second, .val (.int (0 : Int32)), .unset, .unset, .unset, .unset] [(.long (qp ||| (-9223372036854775808 : Int64))), (.ref b13)])) rfl (by rw [hml]; rfl) (Steps.refl _) (argsL := [(.long (qp ||| (-9223372036854775808 : Int64)))]) (rest := []) (lenOf own_pd3 rfl) rfl (by show 2 * 0 + _ ≤ _; exact Nat.le_of_eq rfl) (hb hby at_270) (fun _ _ => ⟨rfl, rfl, (by decide : 1 + 0 ≤ _), (by decide : 2 + 0 ≤ _)⟩)
              dsimp only [Pt.U, Pt.locs, Pt.cells, Pt.slots] at X44 l44 y44 z44 st44 hQ44
              subst l44 y44 z44
              obtain ⟨rfl, Nq44, eq44⟩ := hQ44
              have N44 := Fr.app N14 Nq44
              refine own_pre (fun t k => st44.trans k) ?_
              refine own_pre (A := (T44.setTop (mkF m 275 #[.val (.long qa), .second, .val (.long qb), .second, .val (.long qp), .second, .val (.int pm), .val (.long qx), .second, .val (.long qy), .second, .val (.long qs), .second, .val (.long qe), .second, .val (.long qq), .second, .val (.ref b13), .val (.int (pm &&& (7 : Int32))), .val (.long (qp ||| (-9223372036854775808 : Int64))), .second, .val (.int (0 : Int32)), .unset, .unset, .unset, .unset] [(.int (0 : Int32)), (.int (own_cont (qp ||| (-9223372036854775808 : Int64)) qs qe))]))) ?_ ?_
              · intro t k
                show Steps p.tables e below (T44.setTop (mkF m 273 #[.val (.long qa), .second, .val (.long qb), .second, .val (.long qp), .second, .val (.int pm), .val (.long qx), .second, .val (.long qy), .second, .val (.long qs), .second, .val (.long qe), .second, .val (.long qq), .second, .val (.ref b13), .val (.int (pm &&& (7 : Int32))), .val (.long (qp ||| (-9223372036854775808 : Int64))), .second, .val (.int (0 : Int32)), .unset, .unset, .unset, .unset] [(.int (own_cont (qp ||| (-9223372036854775808 : Int64)) qs qe))])) _
                refine XS.iload X44.here hx rfl (hb hby at_273) rfl ?_
                exact k
              obtain ⟨v46, hv46⟩ : ∃ z : Int32, z = (if (own_cont (qp ||| (-9223372036854775808 : Int64)) qs qe) = (0 : Int32) then (1 : Int32) else (0 : Int32)) := ⟨_, rfl⟩
              refine own_pre (A := (T44.setTop (mkF m 283 #[.val (.long qa), .second, .val (.long qb), .second, .val (.long qp), .second, .val (.int pm), .val (.long qx), .second, .val (.long qy), .second, .val (.long qs), .second, .val (.long qe), .second, .val (.long qq), .second, .val (.ref b13), .val (.int (pm &&& (7 : Int32))), .val (.long (qp ||| (-9223372036854775808 : Int64))), .second, .val (.int (0 : Int32)), .unset, .unset, .unset, .unset] [(.int v46)]))) ?_ ?_
              · intro t k
                show Steps p.tables e below (T44.setTop (mkF m 275 #[.val (.long qa), .second, .val (.long qb), .second, .val (.long qp), .second, .val (.int pm), .val (.long qx), .second, .val (.long qy), .second, .val (.long qs), .second, .val (.long qe), .second, .val (.long qq), .second, .val (.ref b13), .val (.int (pm &&& (7 : Int32))), .val (.long (qp ||| (-9223372036854775808 : Int64))), .second, .val (.int (0 : Int32)), .unset, .unset, .unset, .unset] [(.int (0 : Int32)), (.int (own_cont (qp ||| (-9223372036854775808 : Int64)) qs qe))])) _
                by_cases hc45 : (own_cont (qp ||| (-9223372036854775808 : Int64)) qs qe) = (0 : Int32)
                · skip
                  refine XS.icmpNo X44.here hx rfl (hb hby at_275) rfl (teq hc45).2 ?_
                  show Steps p.tables e below (T44.setTop (mkF m 278 #[.val (.long qa), .second, .val (.long qb), .second, .val (.long qp), .second, .val (.int pm), .val (.long qx), .second, .val (.long qy), .second, .val (.long qs), .second, .val (.long qe), .second, .val (.long qq), .second, .val (.ref b13), .val (.int (pm &&& (7 : Int32))), .val (.long (qp ||| (-9223372036854775808 : Int64))), .second, .val (.int (0 : Int32)), .unset, .unset, .unset, .unset] [])) _
                  refine XS.iconst X44.here hx rfl (hb hby at_278) ?_
                  show Steps p.tables e below (T44.setTop (mkF m 279 #[.val (.long qa), .second, .val (.long qb), .second, .val (.long qp), .second, .val (.int pm), .val (.long qx), .second, .val (.long qy), .second, .val (.long qs), .second, .val (.long qe), .second, .val (.long qq), .second, .val (.ref b13), .val (.int (pm &&& (7 : Int32))), .val (.long (qp ||| (-9223372036854775808 : Int64))), .second, .val (.int (0 : Int32)), .unset, .unset, .unset, .unset] [(.int (1 : Int32))])) _
                  refine XS.goto X44.here hx rfl (pc0 := 279) (pc' := 283) rfl (hb hby at_279) (by decide) (by decide) ?_
                  rw [show v46 = (1 : Int32) from hv46.trans (by simp only [if_pos hc45])] at k
                  exact k
                · skip
                  refine XS.icmpYes X44.here hx rfl (pc0 := 275) (pc' := 282) rfl (hb hby at_275) rfl (feq hc45).2 (by decide) (by decide) ?_
                  show Steps p.tables e below (T44.setTop (mkF m 282 #[.val (.long qa), .second, .val (.long qb), .second, .val (.long qp), .second, .val (.int pm), .val (.long qx), .second, .val (.long qy), .second, .val (.long qs), .second, .val (.long qe), .second, .val (.long qq), .second, .val (.ref b13), .val (.int (pm &&& (7 : Int32))), .val (.long (qp ||| (-9223372036854775808 : Int64))), .second, .val (.int (0 : Int32)), .unset, .unset, .unset, .unset] [])) _
                  refine XS.iconst X44.here hx rfl (hb hby at_282) ?_
                  rw [show v46 = (0 : Int32) from hv46.trans (by simp only [if_neg hc45])] at k
                  exact k
              have hz : v46 = (1 : Int32) := by rw [hv46, if_pos (own_f5 qs qe qp ms)]
              rw [hz]
              obtain ⟨fs, hr, hrun, hended, hW, hsame⟩ := X44.leave (hlocks := BodyLoose.notSynchronized Bd) (v := some (.int (1 : Int32))) (fun h => by rw [Bd.returns] at h; cases h)
              refine ⟨_, _, retOut X44 hx Bd.returns rfl (Or.inl ⟨rfl, Or.inr (Or.inl rfl), _, rfl⟩) (hb hby at_283) hr, hrun, hended, _, _, rfl, ?_, ⟨_, rfl⟩, hW, hsame.mono (by decide) (by decide)⟩
              show own_Q0 h0 n0 _ T44.heap _
              rw [eq44]
              exact ⟨rfl, N44⟩
            · skip
              refine own_pre (A := (T14.setTop (mkF m 227 #[.val (.long qa), .second, .val (.long qb), .second, .val (.long qp), .second, .val (.int pm), .val (.long qx), .second, .val (.long qy), .second, .val (.long qs), .second, .val (.long qe), .second, .val (.long qq), .second, .val (.ref b13), .val (.int (pm &&& (7 : Int32))), .unset, .unset, .unset, .unset, .unset, .unset, .unset] []))) ?_ ?_
              · intro t k
                refine XS.icmpYes X14.here hx rfl (pc0 := 210) (pc' := 227) rfl (hb hby at_210) rfl (feq hc43).2 (by decide) (by decide) ?_
                exact k
              refine own_pre (A := (T14.setTop (mkF m 231 #[.val (.long qa), .second, .val (.long qb), .second, .val (.long qp), .second, .val (.int pm), .val (.long qx), .second, .val (.long qy), .second, .val (.long qs), .second, .val (.long qe), .second, .val (.long qq), .second, .val (.ref b13), .val (.int (pm &&& (7 : Int32))), .unset, .unset, .unset, .unset, .unset, .unset, .unset] [(.int (6 : Int32)), (.int (pm &&& (7 : Int32)))]))) ?_ ?_
              · intro t k
                show Steps p.tables e below (T14.setTop (mkF m 227 #[.val (.long qa), .second, .val (.long qb), .second, .val (.long qp), .second, .val (.int pm), .val (.long qx), .second, .val (.long qy), .second, .val (.long qs), .second, .val (.long qe), .second, .val (.long qq), .second, .val (.ref b13), .val (.int (pm &&& (7 : Int32))), .unset, .unset, .unset, .unset, .unset, .unset, .unset] [])) _
                refine XS.iload X14.here hx rfl (hb hby at_227) rfl ?_
                show Steps p.tables e below (T14.setTop (mkF m 229 #[.val (.long qa), .second, .val (.long qb), .second, .val (.long qp), .second, .val (.int pm), .val (.long qx), .second, .val (.long qy), .second, .val (.long qs), .second, .val (.long qe), .second, .val (.long qq), .second, .val (.ref b13), .val (.int (pm &&& (7 : Int32))), .unset, .unset, .unset, .unset, .unset, .unset, .unset] [(.int (pm &&& (7 : Int32)))])) _
                refine XS.bipush X14.here hx rfl (hb hby at_229) ?_
                exact k
              by_cases hc47 : (pm &&& (7 : Int32)) = (6 : Int32)
              · skip
                refine own_pre (A := (T14.setTop (mkF m 234 #[.val (.long qa), .second, .val (.long qb), .second, .val (.long qp), .second, .val (.int pm), .val (.long qx), .second, .val (.long qy), .second, .val (.long qs), .second, .val (.long qe), .second, .val (.long qq), .second, .val (.ref b13), .val (.int (pm &&& (7 : Int32))), .unset, .unset, .unset, .unset, .unset, .unset, .unset] []))) ?_ ?_
                · intro t k
                  refine XS.icmpNo X14.here hx rfl (hb hby at_231) rfl (teq hc47).2 ?_
                  exact k
                refine own_pre (A := (T14.setTop (mkF m 245 #[.val (.long qa), .second, .val (.long qb), .second, .val (.long qp), .second, .val (.int pm), .val (.long qx), .second, .val (.long qy), .second, .val (.long qs), .second, .val (.long qe), .second, .val (.long qq), .second, .val (.ref b13), .val (.int (pm &&& (7 : Int32))), .val (.long (9223372036854775807 : Int64)), .second, .unset, .unset, .unset, .unset, .unset] [(.int (lcmpW qe (9223372036854775807 : Int64)))]))) ?_ ?_
                · intro t k
                  show Steps p.tables e below (T14.setTop (mkF m 234 #[.val (.long qa), .second, .val (.long qb), .second, .val (.long qp), .second, .val (.int pm), .val (.long qx), .second, .val (.long qy), .second, .val (.long qs), .second, .val (.long qe), .second, .val (.long qq), .second, .val (.ref b13), .val (.int (pm &&& (7 : Int32))), .unset, .unset, .unset, .unset, .unset, .unset, .unset] [])) _
                  refine X14.ldc2Long hx hown (mvT hZ (own_w hw 0 rfl)) (g := (mkF m 234 #[.val (.long qa), .second, .val (.long qb), .second, .val (.long qp), .second, .val (.int pm), .val (.long qx), .second, .val (.long qy), .second, .val (.long qs), .second, .val (.long qe), .second, .val (.long qq), .second, .val (.ref b13), .val (.int (pm &&& (7 : Int32))), .unset, .unset, .unset, .unset, .unset, .unset, .unset] [])) rfl (hb hby at_234) _ ?_
                  show Steps p.tables e below (T14.setTop (mkF m 237 #[.val (.long qa), .second, .val (.long qb), .second, .val (.long qp), .second, .val (.int pm), .val (.long qx), .second, .val (.long qy), .second, .val (.long qs), .second, .val (.long qe), .second, .val (.long qq), .second, .val (.ref b13), .val (.int (pm &&& (7 : Int32))), .unset, .unset, .unset, .unset, .unset, .unset, .unset] [(.long (9223372036854775807 : Int64))])) _
                  refine XS.lstore X14.here hx rfl (hb hby at_237) rfl (l' := #[.val (.long qa), .second, .val (.long qb), .second, .val (.long qp), .second, .val (.int pm), .val (.long qx), .second, .val (.long qy), .second, .val (.long qs), .second, .val (.long qe), .second, .val (.long qq), .second, .val (.ref b13), .val (.int (pm &&& (7 : Int32))), .val (.long (9223372036854775807 : Int64)), .second, .unset, .unset, .unset, .unset, .unset]) rfl ?_
                  show Steps p.tables e below (T14.setTop (mkF m 239 #[.val (.long qa), .second, .val (.long qb), .second, .val (.long qp), .second, .val (.int pm), .val (.long qx), .second, .val (.long qy), .second, .val (.long qs), .second, .val (.long qe), .second, .val (.long qq), .second, .val (.ref b13), .val (.int (pm &&& (7 : Int32))), .val (.long (9223372036854775807 : Int64)), .second, .unset, .unset, .unset, .unset, .unset] [])) _
                  refine XS.lload X14.here hx rfl (hb hby at_239) rfl ?_
                  show Steps p.tables e below (T14.setTop (mkF m 241 #[.val (.long qa), .second, .val (.long qb), .second, .val (.long qp), .second, .val (.int pm), .val (.long qx), .second, .val (.long qy), .second, .val (.long qs), .second, .val (.long qe), .second, .val (.long qq), .second, .val (.ref b13), .val (.int (pm &&& (7 : Int32))), .val (.long (9223372036854775807 : Int64)), .second, .unset, .unset, .unset, .unset, .unset] [(.long qe)])) _
                  refine X14.ldc2Long hx hown (mvT hZ (own_w hw 0 rfl)) (g := (mkF m 241 #[.val (.long qa), .second, .val (.long qb), .second, .val (.long qp), .second, .val (.int pm), .val (.long qx), .second, .val (.long qy), .second, .val (.long qs), .second, .val (.long qe), .second, .val (.long qq), .second, .val (.ref b13), .val (.int (pm &&& (7 : Int32))), .val (.long (9223372036854775807 : Int64)), .second, .unset, .unset, .unset, .unset, .unset] [(.long qe)])) rfl (hb hby at_241) _ ?_
                  show Steps p.tables e below (T14.setTop (mkF m 244 #[.val (.long qa), .second, .val (.long qb), .second, .val (.long qp), .second, .val (.int pm), .val (.long qx), .second, .val (.long qy), .second, .val (.long qs), .second, .val (.long qe), .second, .val (.long qq), .second, .val (.ref b13), .val (.int (pm &&& (7 : Int32))), .val (.long (9223372036854775807 : Int64)), .second, .unset, .unset, .unset, .unset, .unset] [(.long (9223372036854775807 : Int64)), (.long qe)])) _
                  refine XS.lcmp X14.here hx rfl (hb hby at_244) rfl ?_
                  exact k
                obtain ⟨v49, hv49⟩ : ∃ z : Int32, z = (if qe = (9223372036854775807 : Int64) then (1 : Int32) else (0 : Int32)) := ⟨_, rfl⟩
                refine own_pre (A := (T14.setTop (mkF m 253 #[.val (.long qa), .second, .val (.long qb), .second, .val (.long qp), .second, .val (.int pm), .val (.long qx), .second, .val (.long qy), .second, .val (.long qs), .second, .val (.long qe), .second, .val (.long qq), .second, .val (.ref b13), .val (.int (pm &&& (7 : Int32))), .val (.long (9223372036854775807 : Int64)), .second, .unset, .unset, .unset, .unset, .unset] [(.int v49)]))) ?_ ?_
                · intro t k
                  show Steps p.tables e below (T14.setTop (mkF m 245 #[.val (.long qa), .second, .val (.long qb), .second, .val (.long qp), .second, .val (.int pm), .val (.long qx), .second, .val (.long qy), .second, .val (.long qs), .second, .val (.long qe), .second, .val (.long qq), .second, .val (.ref b13), .val (.int (pm &&& (7 : Int32))), .val (.long (9223372036854775807 : Int64)), .second, .unset, .unset, .unset, .unset, .unset] [(.int (lcmpW qe (9223372036854775807 : Int64)))])) _
                  by_cases hc48 : qe = (9223372036854775807 : Int64)
                  · skip
                    refine XS.ifNo X14.here hx rfl (hb hby at_245) rfl ((if0 _ _).trans (teq ((lw_eq qe (9223372036854775807 : Int64)).mpr hc48)).2) ?_
                    show Steps p.tables e below (T14.setTop (mkF m 248 #[.val (.long qa), .second, .val (.long qb), .second, .val (.long qp), .second, .val (.int pm), .val (.long qx), .second, .val (.long qy), .second, .val (.long qs), .second, .val (.long qe), .second, .val (.long qq), .second, .val (.ref b13), .val (.int (pm &&& (7 : Int32))), .val (.long (9223372036854775807 : Int64)), .second, .unset, .unset, .unset, .unset, .unset] [])) _
                    refine XS.iconst X14.here hx rfl (hb hby at_248) ?_
                    show Steps p.tables e below (T14.setTop (mkF m 249 #[.val (.long qa), .second, .val (.long qb), .second, .val (.long qp), .second, .val (.int pm), .val (.long qx), .second, .val (.long qy), .second, .val (.long qs), .second, .val (.long qe), .second, .val (.long qq), .second, .val (.ref b13), .val (.int (pm &&& (7 : Int32))), .val (.long (9223372036854775807 : Int64)), .second, .unset, .unset, .unset, .unset, .unset] [(.int (1 : Int32))])) _
                    refine XS.goto X14.here hx rfl (pc0 := 249) (pc' := 253) rfl (hb hby at_249) (by decide) (by decide) ?_
                    rw [show v49 = (1 : Int32) from hv49.trans (by simp only [if_pos hc48])] at k
                    exact k
                  · skip
                    refine XS.ifYes X14.here hx rfl (pc0 := 245) (pc' := 252) rfl (hb hby at_245) rfl ((if0 _ _).trans (feq (fun q => hc48 ((lw_eq qe (9223372036854775807 : Int64)).mp q))).2) (by decide) (by decide) ?_
                    show Steps p.tables e below (T14.setTop (mkF m 252 #[.val (.long qa), .second, .val (.long qb), .second, .val (.long qp), .second, .val (.int pm), .val (.long qx), .second, .val (.long qy), .second, .val (.long qs), .second, .val (.long qe), .second, .val (.long qq), .second, .val (.ref b13), .val (.int (pm &&& (7 : Int32))), .val (.long (9223372036854775807 : Int64)), .second, .unset, .unset, .unset, .unset, .unset] [])) _
                    refine XS.iconst X14.here hx rfl (hb hby at_252) ?_
                    rw [show v49 = (0 : Int32) from hv49.trans (by simp only [if_neg hc48])] at k
                    exact k
                refine own_pre (A := (T14.setTop (mkF m 270 #[.val (.long qa), .second, .val (.long qb), .second, .val (.long qp), .second, .val (.int pm), .val (.long qx), .second, .val (.long qy), .second, .val (.long qs), .second, .val (.long qe), .second, .val (.long qq), .second, .val (.ref b13), .val (.int (pm &&& (7 : Int32))), .val (.long (9223372036854775807 : Int64)), .second, .val (.int v49), .unset, .unset, .unset, .unset] [(.long (9223372036854775807 : Int64)), (.ref b13)]))) ?_ ?_
                · intro t k
                  show Steps p.tables e below (T14.setTop (mkF m 253 #[.val (.long qa), .second, .val (.long qb), .second, .val (.long qp), .second, .val (.int pm), .val (.long qx), .second, .val (.long qy), .second, .val (.long qs), .second, .val (.long qe), .second, .val (.long qq), .second, .val (.ref b13), .val (.int (pm &&& (7 : Int32))), .val (.long (9223372036854775807 : Int64)), .second, .unset, .unset, .unset, .unset, .unset] [(.int v49)])) _
                  refine XS.istore X14.here hx rfl (hb hby at_253) rfl (l' := #[.val (.long qa), .second, .val (.long qb), .second, .val (.long qp), .second, .val (.int pm), .val (.long qx), .second, .val (.long qy), .second, .val (.long qs), .second, .val (.long qe), .second, .val (.long qq), .second, .val (.ref b13), .val (.int (pm &&& (7 : Int32))), .val (.long (9223372036854775807 : Int64)), .second, .val (.int v49), .unset, .unset, .unset, .unset]) rfl ?_
                  show Steps p.tables e below (T14.setTop (mkF m 255 #[.val (.long qa), .second, .val (.long qb), .second, .val (.long qp), .second, .val (.int pm), .val (.long qx), .second, .val (.long qy), .second, .val (.long qs), .second, .val (.long qe), .second, .val (.long qq), .second, .val (.ref b13), .val (.int (pm &&& (7 : Int32))), .val (.long (9223372036854775807 : Int64)), .second, .val (.int v49), .unset, .unset, .unset, .unset] [])) _
                  refine XS.goto X14.here hx rfl (pc0 := 255) (pc' := 266) rfl (hb hby at_255) (by decide) (by decide) ?_
                  show Steps p.tables e below (T14.setTop (mkF m 266 #[.val (.long qa), .second, .val (.long qb), .second, .val (.long qp), .second, .val (.int pm), .val (.long qx), .second, .val (.long qy), .second, .val (.long qs), .second, .val (.long qe), .second, .val (.long qq), .second, .val (.ref b13), .val (.int (pm &&& (7 : Int32))), .val (.long (9223372036854775807 : Int64)), .second, .val (.int v49), .unset, .unset, .unset, .unset] [])) _
                  refine XS.aload X14.here hx rfl (hb hby at_266) rfl rfl ?_
                  show Steps p.tables e below (T14.setTop (mkF m 268 #[.val (.long qa), .second, .val (.long qb), .second, .val (.long qp), .second, .val (.int pm), .val (.long qx), .second, .val (.long qy), .second, .val (.long qs), .second, .val (.long qe), .second, .val (.long qq), .second, .val (.ref b13), .val (.int (pm &&& (7 : Int32))), .val (.long (9223372036854775807 : Int64)), .second, .val (.int v49), .unset, .unset, .unset, .unset] [(.ref b13)])) _
                  refine XS.lload X14.here hx rfl (hb hby at_268) rfl ?_
                  exact k
                obtain ⟨cq50, kq50, q50a, q50b, q50c⟩ := isOf hZ rfl A13_14
                obtain ⟨_, _, ⟨T50, L50, k50, n50⟩, -, X50, ⟨Lc50, hQ50, l50, y50, z50⟩, st50⟩ := X14.virtualBack hx (y := (⟨"com/example/terq/terq/core/Period", "contains", "(J)Z"⟩ : MethodName)) (z := (⟨"com/example/terq/terq/core/Period", "contains", "(J)Z"⟩ : MethodName)) hown (mvT hZ (own_w hw 26 rfl)) (mvT hZ (own_w hw 27 rfl)) (notFace_of_selects (args := #[]) (mvT hZ (own_w hw 29 rfl))) (mvT hZ (own_w hw 29 rfl)) (mvT hZ (own_w hw 28 rfl)) (by decide) (backOf (W := 0) (rm6 l Z a0 hw [] b13 (9223372036854775807 : Int64) qs qe T14.heap n0 Zs14 Fs14 Fe14) hZ (own_w hw 30 rfl) (own_w hw 10 rfl) (by decide) (by decide)) q50a q50c (g := (mkF m 270 #[.val (.long qa), .second, .val (.long qb), .second, .val (.long qp), .second, .val (.int pm), .val (.long qx), .second, .val (.long qy), .second, .val (.long qs), .second, .val (.long qe), .second, .val (.long qq), .second, .val (.ref b13), .val (.int (pm &&& (7 : Int32))), .val (.long (9223372036854775807 : Int64)), .second, .val (.int v49), .unset, .unset, .unset, .unset] [(.long (9223372036854775807 : Int64)), (.ref b13)])) rfl (by rw [hml]; rfl) (Steps.refl _) (argsL := [(.long (9223372036854775807 : Int64))]) (rest := []) (lenOf own_pd3 rfl) rfl (by show 2 * 0 + _ ≤ _; exact Nat.le_of_eq rfl) (hb hby at_270) (fun _ _ => ⟨rfl, rfl, (by decide : 1 + 0 ≤ _), (by decide : 2 + 0 ≤ _)⟩)
                dsimp only [Pt.U, Pt.locs, Pt.cells, Pt.slots] at X50 l50 y50 z50 st50 hQ50
                subst l50 y50 z50
                obtain ⟨rfl, Nq50, eq50⟩ := hQ50
                have N50 := Fr.app N14 Nq50
                refine own_pre (fun t k => st50.trans k) ?_
                refine own_pre (A := (T50.setTop (mkF m 275 #[.val (.long qa), .second, .val (.long qb), .second, .val (.long qp), .second, .val (.int pm), .val (.long qx), .second, .val (.long qy), .second, .val (.long qs), .second, .val (.long qe), .second, .val (.long qq), .second, .val (.ref b13), .val (.int (pm &&& (7 : Int32))), .val (.long (9223372036854775807 : Int64)), .second, .val (.int v49), .unset, .unset, .unset, .unset] [(.int v49), (.int (own_cont (9223372036854775807 : Int64) qs qe))]))) ?_ ?_
                · intro t k
                  show Steps p.tables e below (T50.setTop (mkF m 273 #[.val (.long qa), .second, .val (.long qb), .second, .val (.long qp), .second, .val (.int pm), .val (.long qx), .second, .val (.long qy), .second, .val (.long qs), .second, .val (.long qe), .second, .val (.long qq), .second, .val (.ref b13), .val (.int (pm &&& (7 : Int32))), .val (.long (9223372036854775807 : Int64)), .second, .val (.int v49), .unset, .unset, .unset, .unset] [(.int (own_cont (9223372036854775807 : Int64) qs qe))])) _
                  refine XS.iload X50.here hx rfl (hb hby at_273) rfl ?_
                  exact k
                obtain ⟨v52, hv52⟩ : ∃ z : Int32, z = (if (own_cont (9223372036854775807 : Int64) qs qe) = v49 then (1 : Int32) else (0 : Int32)) := ⟨_, rfl⟩
                refine own_pre (A := (T50.setTop (mkF m 283 #[.val (.long qa), .second, .val (.long qb), .second, .val (.long qp), .second, .val (.int pm), .val (.long qx), .second, .val (.long qy), .second, .val (.long qs), .second, .val (.long qe), .second, .val (.long qq), .second, .val (.ref b13), .val (.int (pm &&& (7 : Int32))), .val (.long (9223372036854775807 : Int64)), .second, .val (.int v49), .unset, .unset, .unset, .unset] [(.int v52)]))) ?_ ?_
                · intro t k
                  show Steps p.tables e below (T50.setTop (mkF m 275 #[.val (.long qa), .second, .val (.long qb), .second, .val (.long qp), .second, .val (.int pm), .val (.long qx), .second, .val (.long qy), .second, .val (.long qs), .second, .val (.long qe), .second, .val (.long qq), .second, .val (.ref b13), .val (.int (pm &&& (7 : Int32))), .val (.long (9223372036854775807 : Int64)), .second, .val (.int v49), .unset, .unset, .unset, .unset] [(.int v49), (.int (own_cont (9223372036854775807 : Int64) qs qe))])) _
                  by_cases hc51 : (own_cont (9223372036854775807 : Int64) qs qe) = v49
                  · skip
                    refine XS.icmpNo X50.here hx rfl (hb hby at_275) rfl (teq hc51).2 ?_
                    show Steps p.tables e below (T50.setTop (mkF m 278 #[.val (.long qa), .second, .val (.long qb), .second, .val (.long qp), .second, .val (.int pm), .val (.long qx), .second, .val (.long qy), .second, .val (.long qs), .second, .val (.long qe), .second, .val (.long qq), .second, .val (.ref b13), .val (.int (pm &&& (7 : Int32))), .val (.long (9223372036854775807 : Int64)), .second, .val (.int v49), .unset, .unset, .unset, .unset] [])) _
                    refine XS.iconst X50.here hx rfl (hb hby at_278) ?_
                    show Steps p.tables e below (T50.setTop (mkF m 279 #[.val (.long qa), .second, .val (.long qb), .second, .val (.long qp), .second, .val (.int pm), .val (.long qx), .second, .val (.long qy), .second, .val (.long qs), .second, .val (.long qe), .second, .val (.long qq), .second, .val (.ref b13), .val (.int (pm &&& (7 : Int32))), .val (.long (9223372036854775807 : Int64)), .second, .val (.int v49), .unset, .unset, .unset, .unset] [(.int (1 : Int32))])) _
                    refine XS.goto X50.here hx rfl (pc0 := 279) (pc' := 283) rfl (hb hby at_279) (by decide) (by decide) ?_
                    rw [show v52 = (1 : Int32) from hv52.trans (by simp only [if_pos hc51])] at k
                    exact k
                  · skip
                    refine XS.icmpYes X50.here hx rfl (pc0 := 275) (pc' := 282) rfl (hb hby at_275) rfl (feq hc51).2 (by decide) (by decide) ?_
                    show Steps p.tables e below (T50.setTop (mkF m 282 #[.val (.long qa), .second, .val (.long qb), .second, .val (.long qp), .second, .val (.int pm), .val (.long qx), .second, .val (.long qy), .second, .val (.long qs), .second, .val (.long qe), .second, .val (.long qq), .second, .val (.ref b13), .val (.int (pm &&& (7 : Int32))), .val (.long (9223372036854775807 : Int64)), .second, .val (.int v49), .unset, .unset, .unset, .unset] [])) _
                    refine XS.iconst X50.here hx rfl (hb hby at_282) ?_
                    rw [show v52 = (0 : Int32) from hv52.trans (by simp only [if_neg hc51])] at k
                    exact k
                have hz : v52 = (1 : Int32) := by rw [hv52, if_pos ((own_f6 qs qe me).trans hv49.symm)]
                rw [hz]
                obtain ⟨fs, hr, hrun, hended, hW, hsame⟩ := X50.leave (hlocks := BodyLoose.notSynchronized Bd) (v := some (.int (1 : Int32))) (fun h => by rw [Bd.returns] at h; cases h)
                refine ⟨_, _, retOut X50 hx Bd.returns rfl (Or.inl ⟨rfl, Or.inr (Or.inl rfl), _, rfl⟩) (hb hby at_283) hr, hrun, hended, _, _, rfl, ?_, ⟨_, rfl⟩, hW, hsame.mono (by decide) (by decide)⟩
                show own_Q0 h0 n0 _ T50.heap _
                rw [eq50]
                exact ⟨rfl, N50⟩
              · skip
                refine own_pre (A := (T14.setTop (mkF m 258 #[.val (.long qa), .second, .val (.long qb), .second, .val (.long qp), .second, .val (.int pm), .val (.long qx), .second, .val (.long qy), .second, .val (.long qs), .second, .val (.long qe), .second, .val (.long qq), .second, .val (.ref b13), .val (.int (pm &&& (7 : Int32))), .unset, .unset, .unset, .unset, .unset, .unset, .unset] []))) ?_ ?_
                · intro t k
                  refine XS.icmpYes X14.here hx rfl (pc0 := 231) (pc' := 258) rfl (hb hby at_231) rfl (feq hc47).2 (by decide) (by decide) ?_
                  exact k
                refine own_pre (A := (T14.setTop (mkF m 270 #[.val (.long qa), .second, .val (.long qb), .second, .val (.long qp), .second, .val (.int pm), .val (.long qx), .second, .val (.long qy), .second, .val (.long qs), .second, .val (.long qe), .second, .val (.long qq), .second, .val (.ref b13), .val (.int (pm &&& (7 : Int32))), .val (.long (-9223372036854775808 : Int64)), .second, .val (.int (0 : Int32)), .unset, .unset, .unset, .unset] [(.long (-9223372036854775808 : Int64)), (.ref b13)]))) ?_ ?_
                · intro t k
                  show Steps p.tables e below (T14.setTop (mkF m 258 #[.val (.long qa), .second, .val (.long qb), .second, .val (.long qp), .second, .val (.int pm), .val (.long qx), .second, .val (.long qy), .second, .val (.long qs), .second, .val (.long qe), .second, .val (.long qq), .second, .val (.ref b13), .val (.int (pm &&& (7 : Int32))), .unset, .unset, .unset, .unset, .unset, .unset, .unset] [])) _
                  refine X14.ldc2Long hx hown (mvT hZ (own_w hw 31 rfl)) (g := (mkF m 258 #[.val (.long qa), .second, .val (.long qb), .second, .val (.long qp), .second, .val (.int pm), .val (.long qx), .second, .val (.long qy), .second, .val (.long qs), .second, .val (.long qe), .second, .val (.long qq), .second, .val (.ref b13), .val (.int (pm &&& (7 : Int32))), .unset, .unset, .unset, .unset, .unset, .unset, .unset] [])) rfl (hb hby at_258) _ ?_
                  show Steps p.tables e below (T14.setTop (mkF m 261 #[.val (.long qa), .second, .val (.long qb), .second, .val (.long qp), .second, .val (.int pm), .val (.long qx), .second, .val (.long qy), .second, .val (.long qs), .second, .val (.long qe), .second, .val (.long qq), .second, .val (.ref b13), .val (.int (pm &&& (7 : Int32))), .unset, .unset, .unset, .unset, .unset, .unset, .unset] [(.long (-9223372036854775808 : Int64))])) _
                  refine XS.lstore X14.here hx rfl (hb hby at_261) rfl (l' := #[.val (.long qa), .second, .val (.long qb), .second, .val (.long qp), .second, .val (.int pm), .val (.long qx), .second, .val (.long qy), .second, .val (.long qs), .second, .val (.long qe), .second, .val (.long qq), .second, .val (.ref b13), .val (.int (pm &&& (7 : Int32))), .val (.long (-9223372036854775808 : Int64)), .second, .unset, .unset, .unset, .unset, .unset]) rfl ?_
                  show Steps p.tables e below (T14.setTop (mkF m 263 #[.val (.long qa), .second, .val (.long qb), .second, .val (.long qp), .second, .val (.int pm), .val (.long qx), .second, .val (.long qy), .second, .val (.long qs), .second, .val (.long qe), .second, .val (.long qq), .second, .val (.ref b13), .val (.int (pm &&& (7 : Int32))), .val (.long (-9223372036854775808 : Int64)), .second, .unset, .unset, .unset, .unset, .unset] [])) _
                  refine XS.iconst X14.here hx rfl (hb hby at_263) ?_
                  show Steps p.tables e below (T14.setTop (mkF m 264 #[.val (.long qa), .second, .val (.long qb), .second, .val (.long qp), .second, .val (.int pm), .val (.long qx), .second, .val (.long qy), .second, .val (.long qs), .second, .val (.long qe), .second, .val (.long qq), .second, .val (.ref b13), .val (.int (pm &&& (7 : Int32))), .val (.long (-9223372036854775808 : Int64)), .second, .unset, .unset, .unset, .unset, .unset] [(.int (0 : Int32))])) _
                  refine XS.istore X14.here hx rfl (hb hby at_264) rfl (l' := #[.val (.long qa), .second, .val (.long qb), .second, .val (.long qp), .second, .val (.int pm), .val (.long qx), .second, .val (.long qy), .second, .val (.long qs), .second, .val (.long qe), .second, .val (.long qq), .second, .val (.ref b13), .val (.int (pm &&& (7 : Int32))), .val (.long (-9223372036854775808 : Int64)), .second, .val (.int (0 : Int32)), .unset, .unset, .unset, .unset]) rfl ?_
                  show Steps p.tables e below (T14.setTop (mkF m 266 #[.val (.long qa), .second, .val (.long qb), .second, .val (.long qp), .second, .val (.int pm), .val (.long qx), .second, .val (.long qy), .second, .val (.long qs), .second, .val (.long qe), .second, .val (.long qq), .second, .val (.ref b13), .val (.int (pm &&& (7 : Int32))), .val (.long (-9223372036854775808 : Int64)), .second, .val (.int (0 : Int32)), .unset, .unset, .unset, .unset] [])) _
                  refine XS.aload X14.here hx rfl (hb hby at_266) rfl rfl ?_
                  show Steps p.tables e below (T14.setTop (mkF m 268 #[.val (.long qa), .second, .val (.long qb), .second, .val (.long qp), .second, .val (.int pm), .val (.long qx), .second, .val (.long qy), .second, .val (.long qs), .second, .val (.long qe), .second, .val (.long qq), .second, .val (.ref b13), .val (.int (pm &&& (7 : Int32))), .val (.long (-9223372036854775808 : Int64)), .second, .val (.int (0 : Int32)), .unset, .unset, .unset, .unset] [(.ref b13)])) _
                  refine XS.lload X14.here hx rfl (hb hby at_268) rfl ?_
                  exact k
                obtain ⟨cq53, kq53, q53a, q53b, q53c⟩ := isOf hZ rfl A13_14
                obtain ⟨_, _, ⟨T53, L53, k53, n53⟩, -, X53, ⟨Lc53, hQ53, l53, y53, z53⟩, st53⟩ := X14.virtualBack hx (y := (⟨"com/example/terq/terq/core/Period", "contains", "(J)Z"⟩ : MethodName)) (z := (⟨"com/example/terq/terq/core/Period", "contains", "(J)Z"⟩ : MethodName)) hown (mvT hZ (own_w hw 26 rfl)) (mvT hZ (own_w hw 27 rfl)) (notFace_of_selects (args := #[]) (mvT hZ (own_w hw 29 rfl))) (mvT hZ (own_w hw 29 rfl)) (mvT hZ (own_w hw 28 rfl)) (by decide) (backOf (W := 0) (rm6 l Z a0 hw [] b13 (-9223372036854775808 : Int64) qs qe T14.heap n0 Zs14 Fs14 Fe14) hZ (own_w hw 30 rfl) (own_w hw 10 rfl) (by decide) (by decide)) q53a q53c (g := (mkF m 270 #[.val (.long qa), .second, .val (.long qb), .second, .val (.long qp), .second, .val (.int pm), .val (.long qx), .second, .val (.long qy), .second, .val (.long qs), .second, .val (.long qe), .second, .val (.long qq), .second, .val (.ref b13), .val (.int (pm &&& (7 : Int32))), .val (.long (-9223372036854775808 : Int64)), .second, .val (.int (0 : Int32)), .unset, .unset, .unset, .unset] [(.long (-9223372036854775808 : Int64)), (.ref b13)])) rfl (by rw [hml]; rfl) (Steps.refl _) (argsL := [(.long (-9223372036854775808 : Int64))]) (rest := []) (lenOf own_pd3 rfl) rfl (by show 2 * 0 + _ ≤ _; exact Nat.le_of_eq rfl) (hb hby at_270) (fun _ _ => ⟨rfl, rfl, (by decide : 1 + 0 ≤ _), (by decide : 2 + 0 ≤ _)⟩)
                dsimp only [Pt.U, Pt.locs, Pt.cells, Pt.slots] at X53 l53 y53 z53 st53 hQ53
                subst l53 y53 z53
                obtain ⟨rfl, Nq53, eq53⟩ := hQ53
                have N53 := Fr.app N14 Nq53
                refine own_pre (fun t k => st53.trans k) ?_
                refine own_pre (A := (T53.setTop (mkF m 275 #[.val (.long qa), .second, .val (.long qb), .second, .val (.long qp), .second, .val (.int pm), .val (.long qx), .second, .val (.long qy), .second, .val (.long qs), .second, .val (.long qe), .second, .val (.long qq), .second, .val (.ref b13), .val (.int (pm &&& (7 : Int32))), .val (.long (-9223372036854775808 : Int64)), .second, .val (.int (0 : Int32)), .unset, .unset, .unset, .unset] [(.int (0 : Int32)), (.int (own_cont (-9223372036854775808 : Int64) qs qe))]))) ?_ ?_
                · intro t k
                  show Steps p.tables e below (T53.setTop (mkF m 273 #[.val (.long qa), .second, .val (.long qb), .second, .val (.long qp), .second, .val (.int pm), .val (.long qx), .second, .val (.long qy), .second, .val (.long qs), .second, .val (.long qe), .second, .val (.long qq), .second, .val (.ref b13), .val (.int (pm &&& (7 : Int32))), .val (.long (-9223372036854775808 : Int64)), .second, .val (.int (0 : Int32)), .unset, .unset, .unset, .unset] [(.int (own_cont (-9223372036854775808 : Int64) qs qe))])) _
                  refine XS.iload X53.here hx rfl (hb hby at_273) rfl ?_
                  exact k
                obtain ⟨v55, hv55⟩ : ∃ z : Int32, z = (if (own_cont (-9223372036854775808 : Int64) qs qe) = (0 : Int32) then (1 : Int32) else (0 : Int32)) := ⟨_, rfl⟩
                refine own_pre (A := (T53.setTop (mkF m 283 #[.val (.long qa), .second, .val (.long qb), .second, .val (.long qp), .second, .val (.int pm), .val (.long qx), .second, .val (.long qy), .second, .val (.long qs), .second, .val (.long qe), .second, .val (.long qq), .second, .val (.ref b13), .val (.int (pm &&& (7 : Int32))), .val (.long (-9223372036854775808 : Int64)), .second, .val (.int (0 : Int32)), .unset, .unset, .unset, .unset] [(.int v55)]))) ?_ ?_
                · intro t k
                  show Steps p.tables e below (T53.setTop (mkF m 275 #[.val (.long qa), .second, .val (.long qb), .second, .val (.long qp), .second, .val (.int pm), .val (.long qx), .second, .val (.long qy), .second, .val (.long qs), .second, .val (.long qe), .second, .val (.long qq), .second, .val (.ref b13), .val (.int (pm &&& (7 : Int32))), .val (.long (-9223372036854775808 : Int64)), .second, .val (.int (0 : Int32)), .unset, .unset, .unset, .unset] [(.int (0 : Int32)), (.int (own_cont (-9223372036854775808 : Int64) qs qe))])) _
                  by_cases hc54 : (own_cont (-9223372036854775808 : Int64) qs qe) = (0 : Int32)
                  · skip
                    refine XS.icmpNo X53.here hx rfl (hb hby at_275) rfl (teq hc54).2 ?_
                    show Steps p.tables e below (T53.setTop (mkF m 278 #[.val (.long qa), .second, .val (.long qb), .second, .val (.long qp), .second, .val (.int pm), .val (.long qx), .second, .val (.long qy), .second, .val (.long qs), .second, .val (.long qe), .second, .val (.long qq), .second, .val (.ref b13), .val (.int (pm &&& (7 : Int32))), .val (.long (-9223372036854775808 : Int64)), .second, .val (.int (0 : Int32)), .unset, .unset, .unset, .unset] [])) _
                    refine XS.iconst X53.here hx rfl (hb hby at_278) ?_
                    show Steps p.tables e below (T53.setTop (mkF m 279 #[.val (.long qa), .second, .val (.long qb), .second, .val (.long qp), .second, .val (.int pm), .val (.long qx), .second, .val (.long qy), .second, .val (.long qs), .second, .val (.long qe), .second, .val (.long qq), .second, .val (.ref b13), .val (.int (pm &&& (7 : Int32))), .val (.long (-9223372036854775808 : Int64)), .second, .val (.int (0 : Int32)), .unset, .unset, .unset, .unset] [(.int (1 : Int32))])) _
                    refine XS.goto X53.here hx rfl (pc0 := 279) (pc' := 283) rfl (hb hby at_279) (by decide) (by decide) ?_
                    rw [show v55 = (1 : Int32) from hv55.trans (by simp only [if_pos hc54])] at k
                    exact k
                  · skip
                    refine XS.icmpYes X53.here hx rfl (pc0 := 275) (pc' := 282) rfl (hb hby at_275) rfl (feq hc54).2 (by decide) (by decide) ?_
                    show Steps p.tables e below (T53.setTop (mkF m 282 #[.val (.long qa), .second, .val (.long qb), .second, .val (.long qp), .second, .val (.int pm), .val (.long qx), .second, .val (.long qy), .second, .val (.long qs), .second, .val (.long qe), .second, .val (.long qq), .second, .val (.ref b13), .val (.int (pm &&& (7 : Int32))), .val (.long (-9223372036854775808 : Int64)), .second, .val (.int (0 : Int32)), .unset, .unset, .unset, .unset] [])) _
                    refine XS.iconst X53.here hx rfl (hb hby at_282) ?_
                    rw [show v55 = (0 : Int32) from hv55.trans (by simp only [if_neg hc54])] at k
                    exact k
                have hz : v55 = (1 : Int32) := by rw [hv55, if_pos (own_f7 qs qe ms)]
                rw [hz]
                obtain ⟨fs, hr, hrun, hended, hW, hsame⟩ := X53.leave (hlocks := BodyLoose.notSynchronized Bd) (v := some (.int (1 : Int32))) (fun h => by rw [Bd.returns] at h; cases h)
                refine ⟨_, _, retOut X53 hx Bd.returns rfl (Or.inl ⟨rfl, Or.inr (Or.inl rfl), _, rfl⟩) (hb hby at_283) hr, hrun, hended, _, _, rfl, ?_, ⟨_, rfl⟩, hW, hsame.mono (by decide) (by decide)⟩
                show own_Q0 h0 n0 _ T53.heap _
                rw [eq53]
                exact ⟨rfl, N53⟩
set_option maxRecDepth 65536 in
set_option maxHeartbeats 40000000 in
theorem comes_1 {Post : Tables → Env → Array Value → State → Outcome → State → Prop} (hpost : ∀ tb e args s v u, (limb_1_1.after args s (.returned v) u = true ∧ limb_1_2.after args s (.returned v) u = true ∧ True) → FrameEnd s (.returned v) u (Jvm.fieldLocs frame_1_writes args s ++ Jvm.arrayLocs frame_1_arrays args s ++ Jvm.staticLocs frame_1_statics s) 16 128 → Post tb e args s (.returned v) u) :
    ArmFor flags0 classFile x code maxLocals ret World_1 tables_1 room_1 Calls_1 rest_1 Pre_1 Post := by
  intro l hfl _ _ p e ha hc hk s m args below hf hA hF happ hP
  obtain ⟨hcalls, hrest, hpre⟩ := hP
  obtain ⟨-, -, -, hnamed, -, -, -, hat⟩ := (Spec.applies_iff hf).mp happ
  obtain ⟨hg, hn⟩ := and_e (Cond.before_iff.mp (show (Jvm.Cond.and given_1 narrow_1).before args s = true from hpre))
  obtain ⟨gg1, gg2⟩ := and_e hg
  obtain ⟨gg3, gg4⟩ := and_e gg2
  obtain ⟨gg5, gg6⟩ := and_e gg4
  obtain ⟨gg7, gg8⟩ := and_e gg6
  obtain ⟨w0, w1, w2, w3, rfl⟩ : ∃ w0 w1 w2 w3 : Value, args = #[w0, w1, w2, w3] := by
    have hs : args.size = 4 := by simpa [Cond.value, given_1] using gg1
    obtain ⟨L⟩ := args
    match L, hs with
    | [w0, w1, w2, w3], _ => exact ⟨w0, w1, w2, w3, rfl⟩
  have hw := fun d (hd : d ∈ tables_1) => atoms_spec (ws := Jvm.Cond.code x code maxLocals ret :: tables_1) hat d (List.mem_cons_of_mem _ hd)
  obtain ⟨i0, ei0⟩ := isL_v gg3
  obtain rfl : w0 = (.long i0) := Option.some.inj ei0
  obtain ⟨i1, ei1⟩ := isL_v gg5
  obtain rfl : w1 = (.long i1) := Option.some.inj ei1
  obtain ⟨i2, ei2⟩ := isL_v gg7
  obtain rfl : w2 = (.long i2) := Option.some.inj ei2
  obtain ⟨i3, ei3⟩ := is_v gg8
  obtain rfl : w3 = (.int i3) := Option.some.inj ei3
  obtain ⟨n, o, h1, h2, h3, _, L, rfl, ⟨rfl, N⟩, hq⟩ := rm0 l s _ hw tables_1 i0 i1 i2 i3 s.heap s.heap.size (Nat.le_refl _) p e ha hc hk s m _ below hf ((Spec.applies_iff_loose hf).mp happ).1 ⟨rfl, State.Warmed39.refl s, rfl⟩ trivial
  refine ⟨n, _, h1, h2, h3, hpost _ _ _ _ _ _ ⟨Cond.after_iff.mpr rfl, Cond.after_iff.mpr (eq_i res_at (Term.int_eval (1)) rfl), trivial⟩ ⟨hq.1, hq.2.1, (hq.2.2.sift fun y hy => Or.inr (N y hy)).mono (by decide) (by decide)⟩⟩
theorem main_1_1 : Claimed_1_1 := comes_1 fun _ _ _ _ _ _ h hF => ⟨h.1, hF⟩
theorem main_1_2 : Claimed_1_2 := comes_1 fun _ _ _ _ _ _ h hF => ⟨h.2.1, hF⟩
end Jvm.Pilot.@@N@@
namespace Jvm.Pilot.@@N@@
open Jvm Jvm.ClassFile Sem Op Lib Jvm.Free Jvm.Stand Jvm.Pilot.@@N@@.Jvm.D
/-! MADE BY PROGRAM (witnessworld.py) out of the Statement's table words and the real class files: 11 classes; the members and pool entries that the words name. The judged class is class 1, her method 1. -/
namespace start1
open Jvm.ClassFile
def u (s : String) : CpInfo := .utf8 (stringToUtf16 s)
/-- a pool by its gaps: so many unusable entries, then the entry; so many at the end -/
def gap : Nat → List CpInfo → List CpInfo
  | 0, r => r
  | n + 1, r => .unusable :: gap n r
def poolList (es : List (Nat × CpInfo)) (last : Nat) : List CpInfo := es.foldr (fun e r => gap e.1 (e.2 :: r)) (gap last [])
def pool (es : List (Nat × CpInfo)) (last : Nat) : Array CpInfo := ⟨poolList es last⟩
def fileOf (pool : Array CpInfo) (this : Nat) (attrs : Array Attribute := #[]) (ms : Array MethodInfo := #[]) (fl : Nat := 33) (sup : Nat := 0) (ifs : Array Nat := #[]) (fds : Array FieldInfo := #[]) : ClassFile where
  minorVersion := 0
  majorVersion := 65
  constantPool := pool
  accessFlags := fl
  thisClass := this
  superClass := sup
  interfaces := ifs
  fields := fds
  methods := ms
  attributes := attrs
def plain (name : String) (sup : Option ClassId) : Class where
  name := name
  kind := .ordinary
  loader := none
  accessFlags := 33
  super := sup
  interfaces := #[]
  cf := none
  fields := #[]
  methods := #[]
  instanceTypes := #[]
  staticTypes := #[]
  resolved := #[]
  callSites := []
  init := .initialized
  statics := none
  mirror := none

def pool0 : Array CpInfo := pool [(5, u "<init>"), (0, u "()V"), (1, .class_ 10), (1, u "java/lang/Object")] 113

def k0c0 : Code := { maxStack := 0, maxLocals := 1, code := object_method_1_code, exceptionTable := #[], attributes := #[] }
def k0m0 : Method := { name := "<init>", desc := "()V", sig := { parameters := [], returnType := none }, accessFlags := 1, code := some k0c0 }
/-- java/lang/Object -/
def k0 : Class := { plain "java/lang/Object" none with
  accessFlags := 33
  interfaces := #[]
  cf := some (fileOf pool0 8 #[] #[{ accessFlags := 1, nameIndex := 5, descriptorIndex := 6, attributes := #[] }] 33 0 #[] #[])
  fields := #[]
  methods := #[k0m0]
  instanceTypes := #[]
  staticTypes := #[]
  resolved := Array.replicate 124 none
  statics := none }

def pool1 : Array CpInfo := pool [(2, .class_ 4), (1, u "java/lang/Object"), (0, u "<init>"), (0, u "()V"), (2, .long 9223372036854775807), (1, .methodref 12 13), (0, .class_ 14), (0, .nameAndType 15 16), (0, u "java/lang/Math"), (0, u "min"), (0, u "(JJ)J"), (0, .methodref 12 18), (0, .nameAndType 19 16), (0, u "max"), (0, .class_ 21), (0, u "com/example/terq/terq/core/Period"), (0, .methodref 20 23), (0, .nameAndType 5 24), (0, u "(JJ)V"), (0, .long 9223372036854775808), (1, .methodref 20 28), (0, .nameAndType 29 30), (0, u "contains"), (0, u "(J)Z"), (0, .class_ 32), (0, u "com/example/terq/terq/core/PeriodContainsPinLaw"), (2, u "law"), (0, u "(JJJI)Z")] 3

def k1m0 : Method := { name := "<init>", desc := "()V", sig := { parameters := [], returnType := none }, accessFlags := 1, code := none }
def k1c1 : Code := { maxStack := 8, maxLocals := 26, code := code, exceptionTable := #[], attributes := #[] }
def k1m1 : Method := { name := "law", desc := "(JJJI)Z", sig := { parameters := [.long, .long, .long, .int], returnType := some .boolean }, accessFlags := 9, code := some k1c1 }
/-- com/example/terq/terq/core/PeriodContainsPinLaw -/
def k1 : Class := { plain "com/example/terq/terq/core/PeriodContainsPinLaw" (some 0) with
  accessFlags := 49
  interfaces := #[]
  cf := some (fileOf pool1 31 #[] #[{ accessFlags := 1, nameIndex := 5, descriptorIndex := 6, attributes := #[] }, { accessFlags := 9, nameIndex := 35, descriptorIndex := 36, attributes := #[] }] 49 2 #[] #[])
  fields := #[]
  methods := #[k1m0, k1m1]
  instanceTypes := #[]
  staticTypes := #[]
  resolved := Array.replicate 40 none
  statics := none }

def pool2 : Array CpInfo := pool [(1, .class_ 2), (0, u "java/lang/Math"), (1, .class_ 6), (1, u "java/lang/Object"), (0, u "<init>"), (0, u "()V"), (89, .class_ 100), (1, u "java/lang/Math$RandomNumberGeneratorHolder"), (20, u "(JJ)J"), (50, u "negativeZeroFloatBits"), (0, u "J"), (2, u "negativeZeroDoubleBits"), (21, u "max"), (2, u "min"), (43, u "$assertionsDisabled"), (0, u "Z"), (91, u "twoToTheDoubleScaleDown"), (0, u "D"), (4, u "twoToTheDoubleScaleUp"), (9, u "E"), (3, u "PI"), (2, u "TAU"), (2, u "DEGREES_TO_RADIANS"), (0, u "RADIANS_TO_DEGREES")] 94

def k2m0 : Method := { name := "<init>", desc := "()V", sig := { parameters := [], returnType := none }, accessFlags := 2, code := none }
def k2c1 : Code := { maxStack := 4, maxLocals := 4, code := jdk_29_method_66_code, exceptionTable := #[], attributes := #[] }
def k2m1 : Method := { name := "max", desc := "(JJ)J", sig := { parameters := [.long, .long], returnType := some .long }, accessFlags := 9, code := some k2c1 }
def k2c2 : Code := { maxStack := 4, maxLocals := 4, code := jdk_29_method_70_code, exceptionTable := #[], attributes := #[] }
def k2m2 : Method := { name := "min", desc := "(JJ)J", sig := { parameters := [.long, .long], returnType := some .long }, accessFlags := 9, code := some k2c2 }
/-- java/lang/Math -/
def k2 : Class := { plain "java/lang/Math" (some 0) with
  accessFlags := 49
  interfaces := #[]
  cf := some (fileOf pool2 1 #[.nestMembers #[98]] #[{ accessFlags := 2, nameIndex := 7, descriptorIndex := 8, attributes := #[] }, { accessFlags := 9, nameIndex := 198, descriptorIndex := 121, attributes := #[] }, { accessFlags := 9, nameIndex := 201, descriptorIndex := 121, attributes := #[] }] 49 4 #[] #[{ accessFlags := 25, nameIndex := 354, descriptorIndex := 339, attributes := #[] }, { accessFlags := 25, nameIndex := 358, descriptorIndex := 339, attributes := #[] }, { accessFlags := 25, nameIndex := 361, descriptorIndex := 339, attributes := #[] }, { accessFlags := 26, nameIndex := 364, descriptorIndex := 339, attributes := #[] }, { accessFlags := 26, nameIndex := 365, descriptorIndex := 339, attributes := #[] }, { accessFlags := 26, nameIndex := 172, descriptorIndex := 173, attributes := #[] }, { accessFlags := 26, nameIndex := 176, descriptorIndex := 173, attributes := #[] }, { accessFlags := 8, nameIndex := 344, descriptorIndex := 339, attributes := #[] }, { accessFlags := 8, nameIndex := 338, descriptorIndex := 339, attributes := #[] }, { accessFlags := 4120, nameIndex := 245, descriptorIndex := 246, attributes := #[] }])
  fields := #[{ name := "E", type := .double, accessFlags := 25, slot := 0, constantValue := 0 }, { name := "PI", type := .double, accessFlags := 25, slot := 1, constantValue := 0 }, { name := "TAU", type := .double, accessFlags := 25, slot := 2, constantValue := 0 }, { name := "DEGREES_TO_RADIANS", type := .double, accessFlags := 26, slot := 3, constantValue := 0 }, { name := "RADIANS_TO_DEGREES", type := .double, accessFlags := 26, slot := 4, constantValue := 0 }, { name := "negativeZeroFloatBits", type := .long, accessFlags := 26, slot := 5, constantValue := 0 }, { name := "negativeZeroDoubleBits", type := .long, accessFlags := 26, slot := 6, constantValue := 0 }, { name := "twoToTheDoubleScaleUp", type := .double, accessFlags := 8, slot := 7, constantValue := 0 }, { name := "twoToTheDoubleScaleDown", type := .double, accessFlags := 8, slot := 8, constantValue := 0 }, { name := "$assertionsDisabled", type := .boolean, accessFlags := 4120, slot := 9, constantValue := 0 }]
  methods := #[k2m0, k2m1, k2m2]
  instanceTypes := #[]
  staticTypes := #[.double, .double, .double, .double, .double, .long, .long, .double, .double, .boolean]
  resolved := Array.replicate 460 none
  statics := none }

def pool3 : Array CpInfo := pool [(1, .methodref 2 3), (0, .class_ 4), (0, .nameAndType 5 6), (0, u "java/lang/Object"), (0, u "<init>"), (0, u "()V"), (0, .class_ 8), (0, u "java/lang/Record")] 13

def k3c0 : Code := { maxStack := 1, maxLocals := 1, code := jdk_30_method_1_code, exceptionTable := #[], attributes := #[] }
def k3m0 : Method := { name := "<init>", desc := "()V", sig := { parameters := [], returnType := none }, accessFlags := 4, code := some k3c0 }
/-- java/lang/Record -/
def k3 : Class := { plain "java/lang/Record" (some 0) with
  accessFlags := 1057
  interfaces := #[]
  cf := some (fileOf pool3 7 #[] #[{ accessFlags := 4, nameIndex := 5, descriptorIndex := 6, attributes := #[] }] 1057 2 #[] #[])
  fields := #[]
  methods := #[k3m0]
  instanceTypes := #[]
  staticTypes := #[]
  resolved := Array.replicate 22 none
  statics := none }

def pool4 : Array CpInfo := pool [(1, .methodref 2 3), (0, .class_ 4), (0, .nameAndType 5 6), (0, u "java/lang/Record"), (0, u "<init>"), (0, u "()V"), (3, .class_ 12), (1, u "com/example/terq/terq/core/Period"), (10, .fieldref 10 24), (0, .nameAndType 25 26), (0, u "start"), (0, u "J"), (0, .fieldref 10 28), (0, .nameAndType 29 26), (0, u "end"), (2, u "(JJ)V"), (35, u "contains"), (0, u "(J)Z")] 43

def k4c0 : Code := { maxStack := 6, maxLocals := 5, code := prog_38_method_1_code, exceptionTable := #[], attributes := #[] }
def k4m0 : Method := { name := "<init>", desc := "(JJ)V", sig := { parameters := [.long, .long], returnType := none }, accessFlags := 1, code := some k4c0 }
def k4c1 : Code := { maxStack := 4, maxLocals := 3, code := prog_38_method_3_code, exceptionTable := #[], attributes := #[] }
def k4m1 : Method := { name := "contains", desc := "(J)Z", sig := { parameters := [.long], returnType := some .boolean }, accessFlags := 1, code := some k4c1 }
/-- com/example/terq/terq/core/Period -/
def k4 : Class := { plain "com/example/terq/terq/core/Period" (some 3) with
  accessFlags := 49
  interfaces := #[]
  cf := some (fileOf pool4 10 #[] #[{ accessFlags := 1, nameIndex := 5, descriptorIndex := 32, attributes := #[] }, { accessFlags := 1, nameIndex := 68, descriptorIndex := 69, attributes := #[] }] 49 2 #[] #[{ accessFlags := 18, nameIndex := 25, descriptorIndex := 26, attributes := #[] }, { accessFlags := 18, nameIndex := 29, descriptorIndex := 26, attributes := #[] }])
  fields := #[{ name := "start", type := .long, accessFlags := 18, slot := 0, constantValue := 0 }, { name := "end", type := .long, accessFlags := 18, slot := 1, constantValue := 0 }]
  methods := #[k4m0, k4m1]
  instanceTypes := #[.long, .long]
  staticTypes := #[]
  resolved := Array.replicate 113 none
  statics := none }

def pool5 : Array CpInfo := pool [(1, u "java/lang/Cloneable"), (0, .class_ 1), (0, u "java/lang/Object"), (0, .class_ 3)] 3

/-- java/lang/Cloneable -/
def k5 : Class := { plain "java/lang/Cloneable" (some 0) with
  accessFlags := 1537
  interfaces := #[]
  cf := some (fileOf pool5 2 #[] #[] 1537 4 #[] #[])
  fields := #[]
  methods := #[]
  instanceTypes := #[]
  staticTypes := #[]
  resolved := Array.replicate 8 none
  statics := none }

def pool6 : Array CpInfo := pool [(1, u "java/io/Serializable"), (0, .class_ 1), (0, u "java/lang/Object"), (0, .class_ 3)] 3

/-- java/io/Serializable -/
def k6 : Class := { plain "java/io/Serializable" (some 0) with
  accessFlags := 1537
  interfaces := #[]
  cf := some (fileOf pool6 2 #[] #[] 1537 4 #[] #[])
  fields := #[]
  methods := #[]
  instanceTypes := #[]
  staticTypes := #[]
  resolved := Array.replicate 8 none
  statics := none }

/-- the primitive byte -/
def k7 : Class := { plain "byte" none with kind := .primitive 'B', accessFlags := 0x411 }
/-- [B -/
def k8 : Class := { plain "[B" (some 0) with kind := .array 7 .byte, interfaces := #[5, 6], accessFlags := 1041 }

/-- the primitive int -/
def k9 : Class := { plain "int" none with kind := .primitive 'I', accessFlags := 0x411 }
/-- [I -/
def k10 : Class := { plain "[I" (some 0) with kind := .array 9 .int, interfaces := #[5, 6], accessFlags := 1041 }

def heap : Heap := #[]
def classes : Array Class := #[k0, k1, k2, k3, k4, k5, k6, k7, k8, k9, k10]
def interned : List (Array UInt16 × Addr) := []
def slotsUsed : Nat := 0
def theMethod : MethodId := ⟨1, 1⟩
def args0 : Array Value := #[.long 5, .long 7, .long 9, .int 3]
def aboutOver (below : List Frame) : State where
  vm := { classes := classes, interned := interned.toArray }
  heap := heap
  slotsUsed := slotsUsed
  threads := #[{ frames := .invoking theMethod args0 :: below }]
def below0 : List Frame := [.native { method := ⟨0, 0⟩, args := #[] }]
def about1 : State := aboutOver below0
def p0 : Program := .bare "" "" ""
def e0 : Env := launch0.env 0 0 0
theorem w_frames : about1.frames = Frame.invoking theMethod args0 :: below0 := rfl
set_option maxRecDepth 65536 in
theorem w_args : argsFit about1.vm theMethod args0 = true := by decide +kernel
set_option maxRecDepth 65536 in
theorem w_heap : heapFits about1 = true := by decide +kernel
set_option maxRecDepth 65536 in
theorem w_runnable : about1.curStatus? = some .runnable := by decide +kernel
set_option maxRecDepth 65536 in
theorem w_alone : about1.alone = true := by decide +kernel
set_option maxRecDepth 65536 in
theorem w_named : about1.methodNamed? x = some theMethod := by decide +kernel
set_option maxRecDepth 65536 in
theorem w_hears : about1.hears theMethod below0 = true := by decide +kernel
set_option maxRecDepth 65536 in
theorem w_ripe : about1.ripe theMethod args0 below0 = true := by decide +kernel
theorem w_running : about1.status = .running := rfl
set_option maxRecDepth 65536 in
theorem w_room : about1.hasRoom e0.platform room_1 = true :=
  launch0.hasRoom_least _ room_1 (by decide +kernel) (by decide +kernel) (by decide +kernel) (by decide +kernel) (by decide +kernel) (by decide +kernel)
theorem allAtoms_all (ts : List Jvm.Cond) (a : Array Jvm.Value) (st : Jvm.State) : (allAtoms ts).before a st = ts.all (fun c => c.before a st) := by
  induction ts with
  | nil => rfl
  | cons c t ih =>
    show (Jvm.Cond.and c (allAtoms t)).before a st = _
    rw [Jvm.Cond.before_and, ih, List.all_cons]
def words1 : List Jvm.Cond := Jvm.Cond.code x code maxLocals ret :: tables_1
/-- a 'code' word, met by the world's own term for the bytes: nothing is compared byte by byte -/
theorem code_word {y : MethodName} {bytes : ByteArray} {mx : Nat} {rt : Option FieldType} {a : Array Value} {s : State} {m : MethodId} {meth : Method} {c : Code} (h1 : s.methodNamed? y = some m) (h2 : s.vm.method? m = some meth) (h3 : meth.code = some c) (h4 : c.code = bytes)
    (h5 : (c.maxLocals == mx && c.exceptionTable.isEmpty && decide (c.maxStack ≤ mostOperands) && decide (meth.sig.returnType = rt) && !meth.locks && decide (parseMethodDescriptor y.desc = some meth.sig)) = true) : (Jvm.Cond.code y bytes mx rt).before a s = true := by
  simp only [Bool.and_eq_true, beq_iff_eq, Bool.not_eq_true', decide_eq_true_eq] at h5
  obtain ⟨⟨⟨⟨⟨g1, g2⟩, g3⟩, g4⟩, g5⟩, g6⟩ := h5
  simp [Cond.before, Cond.holds, Cond.value, h1, h2, h3, h4, g1, g2, g3, g4, g5, g6]
def isCode : Jvm.Cond → Bool
  | .code _ _ _ _ => true
  | _ => false
theorem all_split {L : List Jvm.Cond} {P : Jvm.Cond → Bool} (h1 : L.all (fun c => isCode c || P c) = true) (h2 : ∀ c ∈ L.filter isCode, P c = true) : L.all P = true := by
  refine List.all_eq_true.mpr fun c hc => ?_
  have h := List.all_eq_true.mp h1 c hc
  rcases Bool.eq_false_or_eq_true (isCode c) with hi | hi
  · exact h2 c (List.mem_filter.mpr ⟨hc, hi⟩)
  · simpa [hi] using h
set_option maxRecDepth 65536 in
theorem w_c0 : (Jvm.Cond.code x code maxLocals ret).before args0 about1 = true := code_word (m := ⟨1, 1⟩) (meth := k1m1) (c := k1c1) (by decide +kernel) rfl rfl rfl (by decide +kernel)
set_option maxRecDepth 65536 in
theorem w_c1 : (Jvm.Cond.code ({ cls := "java/lang/Math", name := "min", desc := "(JJ)J" } : Jvm.MethodName) jdk_29_method_70_code (4 : Nat) (Option.some Jvm.ClassFile.FieldType.long)).before args0 about1 = true := code_word (m := ⟨2, 2⟩) (meth := k2m2) (c := k2c2) (by decide +kernel) rfl rfl rfl (by decide +kernel)
set_option maxRecDepth 65536 in
theorem w_c2 : (Jvm.Cond.code ({ cls := "java/lang/Math", name := "max", desc := "(JJ)J" } : Jvm.MethodName) jdk_29_method_66_code (4 : Nat) (Option.some Jvm.ClassFile.FieldType.long)).before args0 about1 = true := code_word (m := ⟨2, 1⟩) (meth := k2m1) (c := k2c1) (by decide +kernel) rfl rfl rfl (by decide +kernel)
set_option maxRecDepth 65536 in
theorem w_c3 : (Jvm.Cond.code ({ cls := "com/example/terq/terq/core/Period", name := "<init>", desc := "(JJ)V" } : Jvm.MethodName) prog_38_method_1_code (5 : Nat) (Option.none : Option Jvm.ClassFile.FieldType)).before args0 about1 = true := code_word (m := ⟨4, 0⟩) (meth := k4m0) (c := k4c0) (by decide +kernel) rfl rfl rfl (by decide +kernel)
set_option maxRecDepth 65536 in
theorem w_c4 : (Jvm.Cond.code ({ cls := "java/lang/Record", name := "<init>", desc := "()V" } : Jvm.MethodName) jdk_30_method_1_code (1 : Nat) (Option.none : Option Jvm.ClassFile.FieldType)).before args0 about1 = true := code_word (m := ⟨3, 0⟩) (meth := k3m0) (c := k3c0) (by decide +kernel) rfl rfl rfl (by decide +kernel)
set_option maxRecDepth 65536 in
theorem w_c5 : (Jvm.Cond.code ({ cls := "java/lang/Object", name := "<init>", desc := "()V" } : Jvm.MethodName) object_method_1_code (1 : Nat) (Option.none : Option Jvm.ClassFile.FieldType)).before args0 about1 = true := code_word (m := ⟨0, 0⟩) (meth := k0m0) (c := k0c0) (by decide +kernel) rfl rfl rfl (by decide +kernel)
set_option maxRecDepth 65536 in
theorem w_c6 : (Jvm.Cond.code ({ cls := "com/example/terq/terq/core/Period", name := "contains", desc := "(J)Z" } : Jvm.MethodName) prog_38_method_3_code (3 : Nat) (Option.some Jvm.ClassFile.FieldType.boolean)).before args0 about1 = true := code_word (m := ⟨4, 1⟩) (meth := k4m1) (c := k4c1) (by decide +kernel) rfl rfl rfl (by decide +kernel)
def codes1 : List Jvm.Cond := [Jvm.Cond.code x code maxLocals ret, Jvm.Cond.code ({ cls := "java/lang/Math", name := "min", desc := "(JJ)J" } : Jvm.MethodName) jdk_29_method_70_code (4 : Nat) (Option.some Jvm.ClassFile.FieldType.long), Jvm.Cond.code ({ cls := "java/lang/Math", name := "max", desc := "(JJ)J" } : Jvm.MethodName) jdk_29_method_66_code (4 : Nat) (Option.some Jvm.ClassFile.FieldType.long), Jvm.Cond.code ({ cls := "com/example/terq/terq/core/Period", name := "<init>", desc := "(JJ)V" } : Jvm.MethodName) prog_38_method_1_code (5 : Nat) (Option.none : Option Jvm.ClassFile.FieldType), Jvm.Cond.code ({ cls := "java/lang/Record", name := "<init>", desc := "()V" } : Jvm.MethodName) jdk_30_method_1_code (1 : Nat) (Option.none : Option Jvm.ClassFile.FieldType), Jvm.Cond.code ({ cls := "java/lang/Object", name := "<init>", desc := "()V" } : Jvm.MethodName) object_method_1_code (1 : Nat) (Option.none : Option Jvm.ClassFile.FieldType), Jvm.Cond.code ({ cls := "com/example/terq/terq/core/Period", name := "contains", desc := "(J)Z" } : Jvm.MethodName) prog_38_method_3_code (3 : Nat) (Option.some Jvm.ClassFile.FieldType.boolean)]
set_option maxRecDepth 65536 in
theorem codes_eq : words1.filter isCode = codes1 := rfl
theorem w_codes : ∀ c ∈ words1.filter isCode, c.before args0 about1 = true := by
  rw [codes_eq]
  intro c hc
  simp only [codes1, List.mem_cons, List.not_mem_nil, or_false] at hc
  rcases hc with rfl | rfl | rfl | rfl | rfl | rfl | rfl
  · exact w_c0
  · exact w_c1
  · exact w_c2
  · exact w_c3
  · exact w_c4
  · exact w_c5
  · exact w_c6
set_option maxRecDepth 65536 in
theorem w_t1 : (words1.take 24).all (fun c => isCode c || c.before args0 about1) = true := by decide +kernel
set_option maxRecDepth 65536 in
theorem w_t2 : (words1.drop 24).all (fun c => isCode c || c.before args0 about1) = true := by decide +kernel
theorem w_tables : (allAtoms (Jvm.Cond.code x code maxLocals ret :: tables_1)).before args0 about1 = true := by
  rw [allAtoms_all]
  show words1.all (fun c => c.before args0 about1) = true
  refine all_split ?_ w_codes
  rw [← List.take_append_drop 24 words1, List.all_append, w_t1, w_t2]
  rfl
set_option maxRecDepth 65536 in
theorem w_case : (Jvm.Cond.and given_1 narrow_1).before args0 about1 = true := by decide +kernel
theorem w_applies : (headSpec (Jvm.Cond.code x code maxLocals ret :: tables_1) room_1).applies x e0.platform about1 = true :=
  (Spec.applies_iff w_frames).mpr ⟨w_running, w_runnable, w_alone, w_named, w_hears, w_ripe, w_room, w_tables⟩
theorem atStart : AtStart classFile x code maxLocals ret World_1 tables_1 room_1 Calls_1 rest_1 Pre_1 launch0 p0 e0 about1 theMethod args0 below0 :=
  ⟨lists_1, trivial, launch0.admits_env _ _ _, launch0.least_env, fairChoices_fair.cas, fairChoices_fair.clock, w_frames, w_args, w_heap, w_applies, trivial, trivial, w_case⟩
end start1
theorem witness_1 : WitnessClaimed_1 := ⟨start1.p0, start1.e0, start1.about1, start1.theMethod, start1.args0, start1.below0, start1.atStart⟩
end Jvm.Pilot.@@N@@
