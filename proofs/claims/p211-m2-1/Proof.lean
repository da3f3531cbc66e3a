import JvmDerived
import JvmDerived.Pilot.@@N@@Statement
import JvmDerived.Pilot.@@N@@Code
set_option linter.unusedVariables false
set_option linter.unusedSimpArgs false

namespace Jvm.Pilot.@@N@@
open Jvm Jvm.ClassFile Sem Op Lib Jvm.Free Jvm.Stand Jvm.LawKit Jvm.RoadKit Bundle Jvm.Pilot.@@N@@.Jvm.D
theorem own_pre {tb : Tables} {e : Env} {below : List Frame} {A B : State} {C : State → Outcome → Prop} (k : ∀ t, Steps tb e below A t → Steps tb e below B t) (h : ∃ s₂ o, Steps tb e below A s₂ ∧ C s₂ o) : ∃ s₂ o, Steps tb e below B s₂ ∧ C s₂ o := by
  obtain ⟨s2, o, h1, h2⟩ := h
  exact ⟨s2, o, k _ h1, h2⟩
theorem own_frl {k : Nat} {L A B : List Loc} (l : L = A ++ B) (N : Fr k A) (M : Fr k B) : Fr k L := by rw [l]; exact Fr.app N M
theorem own_lrem {p : Program} {l : Launch} {e : Env} {R : Room} {s : State} {m : MethodId} {args : Array Value} {below : List Frame} {meth : Method} {c : Code} {T : State} {locs : List Loc} {cells slots : Nat} {g : JFrame} {target : State} (X : Stand p l e R s m args below meth c T locs cells slots) (hx : p.tables.exec = Jvm.exec) (hg : g.method = m) {x y : Int64} {rest : List Value} (hd : decode c.code g.pc = .ok (.lrem, 1)) (hs : g.stack = .long y :: .long x :: rest) (hy : y ≠ 0)
    (hr : Steps p.tables e below (T.setTop { g with pc := g.pc + 1, stack := .long (x % y) :: rest }) target) : Steps p.tables e below (T.setTop g) target :=
  XS.lrem X.here hx hg hd hs hy (by rw [lrem_mod]; exact hr)
theorem own_w {wl : List Jvm.Cond} {a0 : Array Value} {Z : State} (h : ∀ d ∈ wl, d.before a0 Z = true) (i : Nat) {d : Jvm.Cond} (g : wl[i]? = some d) : d.before a0 Z = true := h d (List.mem_of_getElem? g)

theorem own_pd0 : parseMethodDescriptor "(II)I" = some ⟨[.int, .int], some .int⟩ := by decide +kernel
theorem own_pd1 : parseMethodDescriptor "([JII)V" = some ⟨[(.array .long), .int, .int], none⟩ := by decide +kernel
theorem own_pd2 : parseMethodDescriptor "(Ljava/util/DualPivotQuicksort$Sorter;[JIII)V" = some ⟨[(.object "java/util/DualPivotQuicksort$Sorter"), (.array .long), .int, .int, .int], none⟩ := by decide +kernel
theorem own_pd3 : parseMethodDescriptor "([JIII)V" = some ⟨[(.array .long), .int, .int, .int], none⟩ := by decide +kernel
theorem own_pd4 : parseMethodDescriptor "([JI)[J" = some ⟨[(.array .long), .int], some (.array .long)⟩ := by decide +kernel
theorem own_pd5 : parseMethodDescriptor "([J)V" = some ⟨[(.array .long)], none⟩ := by decide +kernel
theorem own_pd6 : parseMethodDescriptor "([II)[I" = some ⟨[(.array .int), .int], some (.array .int)⟩ := by decide +kernel
theorem own_pd7 : parseMethodDescriptor "([I)V" = some ⟨[(.array .int)], none⟩ := by decide +kernel
theorem own_pd8 : parseMethodDescriptor "()Lcom/example/otito/otito/chain/CodePointSet;" = some ⟨[], some (.object "com/example/otito/otito/chain/CodePointSet")⟩ := by decide +kernel
theorem own_pd9 : parseMethodDescriptor "(I)Z" = some ⟨[.int], some .boolean⟩ := by decide +kernel
theorem own_pd10 : parseMethodDescriptor "(III)Z" = some ⟨[.int, .int, .int], some .boolean⟩ := by decide +kernel
theorem own_pd11 : parseMethodDescriptor "(I)I" = some ⟨[.int], some .int⟩ := by decide +kernel
theorem own_pd12 : parseMethodDescriptor "()V" = some ⟨[], none⟩ := by decide +kernel
theorem own_pd13 : parseMethodDescriptor "(II)V" = some ⟨[.int, .int], none⟩ := by decide +kernel
theorem mvNM {Z s : State} {a0 args : Array Value} {cls host : String} {x : MethodName} {index : Nat} (hZ : Z.Warmed39 s.vm) (w : (Cond.methodLinkNest cls index x host).before a0 Z = true) : (Cond.methodLinkNest cls index x host).before args s = true := (Cond.methodLinkNest_wide hZ w :)
theorem d1_0 : decode method_2_code 0 = .ok (.iload_n 0, 1) := by decide +kernel
theorem d1_1 : decode method_2_code 1 = .ok (.ldc 7, 2) := by decide +kernel
theorem d1_3 : decode method_2_code 3 = .ok (.iand, 1) := by decide +kernel
theorem d1_4 : decode method_2_code 4 = .ok (.ldc 8, 2) := by decide +kernel
theorem d1_6 : decode method_2_code 6 = .ok (.irem, 1) := by decide +kernel
theorem d1_7 : decode method_2_code 7 = .ok (.ireturn, 1) := by decide +kernel
theorem own_pn1 : plainName "com/example/otito/otito/chain/CodePointSetAddPinLaw" = true := by first | (simp [plainName, overriddenIn]; done) | decide +kernel
theorem own_ef1 (m : MethodId) (x0 : Int32) : entryFrame m #[(.int x0)] 1 = mkF m 0 #[.val (.int x0)] [] := by first | (simp [entryFrame, mkF, argsToLocals, Value.category]; done) | rfl
def own_cp (px : Int32) : Int32 := ((px &&& (2147483647 : Int32)) % (1114112 : Int32))
def own_Q1 (px : Int32) (h0 : Heap) (n0 : Nat) (v : Option Value) (h : Heap) (L : List Loc) : Prop := v = some (.int (own_cp px)) ∧ Fr n0 L ∧ h = h0
set_option maxRecDepth 65536 in
set_option maxHeartbeats 40000000 in
theorem rm1 (l : Launch) (Z : State) (a0 : Array Value) (hw : ∀ d ∈ tables_1, d.before a0 Z = true) (ws : List Jvm.Cond) (px : Int32) (h0 : Heap) (n0 : Nat) (Z0 : n0 ≤ h0.size) :
    MetFree l (⟨"com/example/otito/otito/chain/CodePointSetAddPinLaw", "cp", "(I)I"⟩ : MethodName) (head1 (Jvm.Cond.code (⟨"com/example/otito/otito/chain/CodePointSetAddPinLaw", "cp", "(I)I"⟩ : MethodName) method_2_code 1 (some .int) :: ws) ({ frames := 0, cells := 0, slots := 0, locals := 0 } : Room)) (fun a U => a = #[(.int px)] ∧ Z.Warmed39 U.vm ∧ U.heap = h0) (fun _ _ _ _ _ => True) (fun _ U o U' => ∃ v L, o = .returned v ∧ own_Q1 px h0 n0 v U'.heap L ∧ FrameEnd U o U' L ({ frames := 0, cells := 0, slots := 0, locals := 0 } : Room).cells ({ frames := 0, cells := 0, slots := 0, locals := 0 } : Room).slots) := by
  refine MetFree.of_bodySF (plainFor_of_name own_pn1) hisR ?_
  intro p e s m args below meth c s₁ Bd hml0 hP hK
  obtain ⟨rfl, hZ, hh⟩ := hP
  have hx := Bd.exec
  have hby := Bd.bytes
  have hml : c.maxLocals = 1 := hml0
  have hown : s.vm.findClass "com/example/otito/otito/chain/CodePointSetAddPinLaw" = some m.cls := findClass_of_methodNamed Bd.named
  have hnm := (name_of_methodNamed Bd.named Bd.method).1
  have X0 : Stand p l e ({ frames := 0, cells := 0, slots := 0, locals := 0 } : Room) s m #[(.int px)] below meth c s₁ [] 0 0 := Stand.of_body Bd
  have e0 : s₁.heap = h0 := by rw [← hh, Bd.state]; rfl
  have N0 := Fr.nil n0
  refine own_pre (A := (s₁.setTop (mkF m 0 #[.val (.int px)] []))) (fun t k => castTop (own_ef1 m px) k) ?_
  refine own_pre (A := (s₁.setTop (mkF m 7 #[.val (.int px)] [(.int ((px &&& (2147483647 : Int32)) % (1114112 : Int32)))]))) ?_ ?_
  · intro t k
    refine XS.iloadN X0.here hx rfl (hb hby d1_0) rfl ?_
    show Steps p.tables e below (s₁.setTop (mkF m 1 #[.val (.int px)] [(.int px)])) _
    refine X0.ldcInt hx hown (mvT hZ (own_w hw 4 rfl)) (g := (mkF m 1 #[.val (.int px)] [(.int px)])) rfl (hb hby d1_1) _ ?_
    refine XS.iand X0.here hx rfl (hb hby d1_3) rfl ?_
    show Steps p.tables e below (s₁.setTop (mkF m 4 #[.val (.int px)] [(.int (px &&& (2147483647 : Int32)))])) _
    refine X0.ldcInt hx hown (mvT hZ (own_w hw 5 rfl)) (g := (mkF m 4 #[.val (.int px)] [(.int (px &&& (2147483647 : Int32)))])) rfl (hb hby d1_4) _ ?_
    show Steps p.tables e below (s₁.setTop (mkF m 6 #[.val (.int px)] [(.int (1114112 : Int32)), (.int (px &&& (2147483647 : Int32)))])) _
    refine iremM X0 hx rfl (hb hby d1_6) rfl (by decide) ?_
    exact k
  have hz : own_cp px = ((px &&& (2147483647 : Int32)) % (1114112 : Int32)) := rfl
  obtain ⟨fs, hr, hrun, hended, hW, hsame⟩ := X0.leave (hlocks := BodyLoose.notSynchronized Bd) (v := some (.int ((px &&& (2147483647 : Int32)) % (1114112 : Int32)))) (fun h => by rw [Bd.returns] at h; cases h)
  refine ⟨_, _, retOut X0 hx Bd.returns rfl (Or.inl ⟨rfl, Or.inl rfl, _, rfl⟩) (hb hby d1_7) hr, hrun, hended, _, _, rfl, ?_, ⟨_, rfl⟩, hW, hsame.mono (by decide) (by decide)⟩
  show own_Q1 px h0 n0 _ s₁.heap _
  rw [e0]
  exact ⟨by rw [hz], N0, rfl⟩
theorem d2_0 : decode jdk_29_method_69_code 0 = .ok (.iload_n 0, 1) := by decide +kernel
theorem d2_1 : decode jdk_29_method_69_code 1 = .ok (.iload_n 1, 1) := by decide +kernel
theorem d2_2 : decode jdk_29_method_69_code 2 = .ok (.if_icmp .gt 7, 3) := by decide +kernel
theorem d2_5 : decode jdk_29_method_69_code 5 = .ok (.iload_n 0, 1) := by decide +kernel
theorem d2_6 : decode jdk_29_method_69_code 6 = .ok (.goto 4, 3) := by decide +kernel
theorem d2_9 : decode jdk_29_method_69_code 9 = .ok (.iload_n 1, 1) := by decide +kernel
theorem d2_10 : decode jdk_29_method_69_code 10 = .ok (.ireturn, 1) := by decide +kernel
theorem own_ef2 (m : MethodId) (x0 : Int32) (x1 : Int32) : entryFrame m #[(.int x0), (.int x1)] 2 = mkF m 0 #[.val (.int x0), .val (.int x1)] [] := by first | (simp [entryFrame, mkF, argsToLocals, Value.category]; done) | rfl
def own_min (px : Int32) (py : Int32) : Int32 := (if py < px then py else px)
def own_Q2 (px : Int32) (py : Int32) (h0 : Heap) (n0 : Nat) (v : Option Value) (h : Heap) (L : List Loc) : Prop := v = some (.int (own_min px py)) ∧ Fr n0 L ∧ h = h0
set_option maxRecDepth 65536 in
set_option maxHeartbeats 40000000 in
theorem rm2 (l : Launch) (Z : State) (a0 : Array Value) (hw : ∀ d ∈ tables_1, d.before a0 Z = true) (ws : List Jvm.Cond) (px : Int32) (py : Int32) (h0 : Heap) (n0 : Nat) (Z0 : n0 ≤ h0.size) :
    MetFree l (⟨"java/lang/Math", "min", "(II)I"⟩ : MethodName) (head1 (Jvm.Cond.code (⟨"java/lang/Math", "min", "(II)I"⟩ : MethodName) jdk_29_method_69_code 2 (some .int) :: ws) ({ frames := 0, cells := 0, slots := 0, locals := 0 } : Room)) (fun a U => a = #[(.int px), (.int py)] ∧ Z.Warmed39 U.vm ∧ U.heap = h0) (fun _ _ _ _ _ => True) (fun _ U o U' => ∃ v L, o = .returned v ∧ own_Q2 px py h0 n0 v U'.heap L ∧ FrameEnd U o U' L ({ frames := 0, cells := 0, slots := 0, locals := 0 } : Room).cells ({ frames := 0, cells := 0, slots := 0, locals := 0 } : Room).slots) := by
  refine MetFree.of_bodySF (Jvm.Free.JP.mathPlain rfl (by decide +kernel)) hisR ?_
  intro p e s m args below meth c s₁ Bd hml0 hP hK
  obtain ⟨rfl, hZ, hh⟩ := hP
  have hx := Bd.exec
  have hby := Bd.bytes
  have hml : c.maxLocals = 2 := hml0
  have hown : s.vm.findClass "java/lang/Math" = some m.cls := findClass_of_methodNamed Bd.named
  have hnm := (name_of_methodNamed Bd.named Bd.method).1
  have X0 : Stand p l e ({ frames := 0, cells := 0, slots := 0, locals := 0 } : Room) s m #[(.int px), (.int py)] below meth c s₁ [] 0 0 := Stand.of_body Bd
  have e0 : s₁.heap = h0 := by rw [← hh, Bd.state]; rfl
  have N0 := Fr.nil n0
  refine own_pre (A := (s₁.setTop (mkF m 0 #[.val (.int px), .val (.int py)] []))) (fun t k => castTop (own_ef2 m px py) k) ?_
  refine own_pre (A := (s₁.setTop (mkF m 2 #[.val (.int px), .val (.int py)] [(.int py), (.int px)]))) ?_ ?_
  · intro t k
    refine XS.iloadN X0.here hx rfl (hb hby d2_0) rfl ?_
    refine XS.iloadN X0.here hx rfl (hb hby d2_1) rfl ?_
    exact k
  by_cases hc1 : py < px
  · skip
    refine own_pre (A := (s₁.setTop (mkF m 9 #[.val (.int px), .val (.int py)] []))) ?_ ?_
    · intro t k
      refine XS.icmpYes X0.here hx rfl (pc0 := 2) (pc' := 9) rfl (hb hby d2_2) rfl (tlt hc1).2.2.1 (by decide) (by decide) ?_
      exact k
    refine own_pre (A := (s₁.setTop (mkF m 10 #[.val (.int px), .val (.int py)] [(.int py)]))) ?_ ?_
    · intro t k
      refine XS.iloadN X0.here hx rfl (hb hby d2_9) rfl ?_
      exact k
    have hz : own_min px py = py := by simp only [own_min, if_pos hc1]
    obtain ⟨fs, hr, hrun, hended, hW, hsame⟩ := X0.leave (hlocks := BodyLoose.notSynchronized Bd) (v := some (.int py)) (fun h => by rw [Bd.returns] at h; cases h)
    refine ⟨_, _, retOut X0 hx Bd.returns rfl (Or.inl ⟨rfl, Or.inl rfl, _, rfl⟩) (hb hby d2_10) hr, hrun, hended, _, _, rfl, ?_, ⟨_, rfl⟩, hW, hsame.mono (by decide) (by decide)⟩
    show own_Q2 px py h0 n0 _ s₁.heap _
    rw [e0]
    exact ⟨by rw [hz], N0, rfl⟩
  · skip
    refine own_pre (A := (s₁.setTop (mkF m 5 #[.val (.int px), .val (.int py)] []))) ?_ ?_
    · intro t k
      refine XS.icmpNo X0.here hx rfl (hb hby d2_2) rfl (flt hc1).2.2.1 ?_
      exact k
    refine own_pre (A := (s₁.setTop (mkF m 10 #[.val (.int px), .val (.int py)] [(.int px)]))) ?_ ?_
    · intro t k
      refine XS.iloadN X0.here hx rfl (hb hby d2_5) rfl ?_
      refine XS.goto X0.here hx rfl (pc0 := 6) (pc' := 10) rfl (hb hby d2_6) (by decide) (by decide) ?_
      exact k
    have hz : own_min px py = px := by simp only [own_min, if_neg hc1]
    obtain ⟨fs, hr, hrun, hended, hW, hsame⟩ := X0.leave (hlocks := BodyLoose.notSynchronized Bd) (v := some (.int px)) (fun h => by rw [Bd.returns] at h; cases h)
    refine ⟨_, _, retOut X0 hx Bd.returns rfl (Or.inl ⟨rfl, Or.inl rfl, _, rfl⟩) (hb hby d2_10) hr, hrun, hended, _, _, rfl, ?_, ⟨_, rfl⟩, hW, hsame.mono (by decide) (by decide)⟩
    show own_Q2 px py h0 n0 _ s₁.heap _
    rw [e0]
    exact ⟨by rw [hz], N0, rfl⟩
theorem d3_0 : decode jdk_29_method_65_code 0 = .ok (.iload_n 0, 1) := by decide +kernel
theorem d3_1 : decode jdk_29_method_65_code 1 = .ok (.iload_n 1, 1) := by decide +kernel
theorem d3_2 : decode jdk_29_method_65_code 2 = .ok (.if_icmp .lt 7, 3) := by decide +kernel
theorem d3_5 : decode jdk_29_method_65_code 5 = .ok (.iload_n 0, 1) := by decide +kernel
theorem d3_6 : decode jdk_29_method_65_code 6 = .ok (.goto 4, 3) := by decide +kernel
theorem d3_9 : decode jdk_29_method_65_code 9 = .ok (.iload_n 1, 1) := by decide +kernel
theorem d3_10 : decode jdk_29_method_65_code 10 = .ok (.ireturn, 1) := by decide +kernel
theorem own_ef3 (m : MethodId) (x0 : Int32) (x1 : Int32) : entryFrame m #[(.int x0), (.int x1)] 2 = mkF m 0 #[.val (.int x0), .val (.int x1)] [] := by first | (simp [entryFrame, mkF, argsToLocals, Value.category]; done) | rfl
def own_max (px : Int32) (py : Int32) : Int32 := (if px < py then py else px)
def own_Q3 (px : Int32) (py : Int32) (h0 : Heap) (n0 : Nat) (v : Option Value) (h : Heap) (L : List Loc) : Prop := v = some (.int (own_max px py)) ∧ Fr n0 L ∧ h = h0
set_option maxRecDepth 65536 in
set_option maxHeartbeats 40000000 in
theorem rm3 (l : Launch) (Z : State) (a0 : Array Value) (hw : ∀ d ∈ tables_1, d.before a0 Z = true) (ws : List Jvm.Cond) (px : Int32) (py : Int32) (h0 : Heap) (n0 : Nat) (Z0 : n0 ≤ h0.size) :
    MetFree l (⟨"java/lang/Math", "max", "(II)I"⟩ : MethodName) (head1 (Jvm.Cond.code (⟨"java/lang/Math", "max", "(II)I"⟩ : MethodName) jdk_29_method_65_code 2 (some .int) :: ws) ({ frames := 0, cells := 0, slots := 0, locals := 0 } : Room)) (fun a U => a = #[(.int px), (.int py)] ∧ Z.Warmed39 U.vm ∧ U.heap = h0) (fun _ _ _ _ _ => True) (fun _ U o U' => ∃ v L, o = .returned v ∧ own_Q3 px py h0 n0 v U'.heap L ∧ FrameEnd U o U' L ({ frames := 0, cells := 0, slots := 0, locals := 0 } : Room).cells ({ frames := 0, cells := 0, slots := 0, locals := 0 } : Room).slots) := by
  refine MetFree.of_bodySF (Jvm.Free.JP.mathPlain rfl (by decide +kernel)) hisR ?_
  intro p e s m args below meth c s₁ Bd hml0 hP hK
  obtain ⟨rfl, hZ, hh⟩ := hP
  have hx := Bd.exec
  have hby := Bd.bytes
  have hml : c.maxLocals = 2 := hml0
  have hown : s.vm.findClass "java/lang/Math" = some m.cls := findClass_of_methodNamed Bd.named
  have hnm := (name_of_methodNamed Bd.named Bd.method).1
  have X0 : Stand p l e ({ frames := 0, cells := 0, slots := 0, locals := 0 } : Room) s m #[(.int px), (.int py)] below meth c s₁ [] 0 0 := Stand.of_body Bd
  have e0 : s₁.heap = h0 := by rw [← hh, Bd.state]; rfl
  have N0 := Fr.nil n0
  refine own_pre (A := (s₁.setTop (mkF m 0 #[.val (.int px), .val (.int py)] []))) (fun t k => castTop (own_ef3 m px py) k) ?_
  refine own_pre (A := (s₁.setTop (mkF m 2 #[.val (.int px), .val (.int py)] [(.int py), (.int px)]))) ?_ ?_
  · intro t k
    refine XS.iloadN X0.here hx rfl (hb hby d3_0) rfl ?_
    refine XS.iloadN X0.here hx rfl (hb hby d3_1) rfl ?_
    exact k
  by_cases hc2 : px < py
  · skip
    refine own_pre (A := (s₁.setTop (mkF m 9 #[.val (.int px), .val (.int py)] []))) ?_ ?_
    · intro t k
      refine XS.icmpYes X0.here hx rfl (pc0 := 2) (pc' := 9) rfl (hb hby d3_2) rfl (tlt hc2).1 (by decide) (by decide) ?_
      exact k
    refine own_pre (A := (s₁.setTop (mkF m 10 #[.val (.int px), .val (.int py)] [(.int py)]))) ?_ ?_
    · intro t k
      refine XS.iloadN X0.here hx rfl (hb hby d3_9) rfl ?_
      exact k
    have hz : own_max px py = py := by simp only [own_max, if_pos hc2]
    obtain ⟨fs, hr, hrun, hended, hW, hsame⟩ := X0.leave (hlocks := BodyLoose.notSynchronized Bd) (v := some (.int py)) (fun h => by rw [Bd.returns] at h; cases h)
    refine ⟨_, _, retOut X0 hx Bd.returns rfl (Or.inl ⟨rfl, Or.inl rfl, _, rfl⟩) (hb hby d3_10) hr, hrun, hended, _, _, rfl, ?_, ⟨_, rfl⟩, hW, hsame.mono (by decide) (by decide)⟩
    show own_Q3 px py h0 n0 _ s₁.heap _
    rw [e0]
    exact ⟨by rw [hz], N0, rfl⟩
  · skip
    refine own_pre (A := (s₁.setTop (mkF m 5 #[.val (.int px), .val (.int py)] []))) ?_ ?_
    · intro t k
      refine XS.icmpNo X0.here hx rfl (hb hby d3_2) rfl (flt hc2).1 ?_
      exact k
    refine own_pre (A := (s₁.setTop (mkF m 10 #[.val (.int px), .val (.int py)] [(.int px)]))) ?_ ?_
    · intro t k
      refine XS.iloadN X0.here hx rfl (hb hby d3_5) rfl ?_
      refine XS.goto X0.here hx rfl (pc0 := 6) (pc' := 10) rfl (hb hby d3_6) (by decide) (by decide) ?_
      exact k
    have hz : own_max px py = px := by simp only [own_max, if_neg hc2]
    obtain ⟨fs, hr, hrun, hended, hW, hsame⟩ := X0.leave (hlocks := BodyLoose.notSynchronized Bd) (v := some (.int px)) (fun h => by rw [Bd.returns] at h; cases h)
    refine ⟨_, _, retOut X0 hx Bd.returns rfl (Or.inl ⟨rfl, Or.inl rfl, _, rfl⟩) (hb hby d3_10) hr, hrun, hended, _, _, rfl, ?_, ⟨_, rfl⟩, hW, hsame.mono (by decide) (by decide)⟩
    show own_Q3 px py h0 n0 _ s₁.heap _
    rw [e0]
    exact ⟨by rw [hz], N0, rfl⟩
theorem d15_0 : decode method_3_code 0 = .ok (.iload_n 1, 1) := by decide +kernel
theorem d15_1 : decode method_3_code 1 = .ok (.iload_n 0, 1) := by decide +kernel
theorem d15_2 : decode method_3_code 2 = .ok (.if_icmp .gt 12, 3) := by decide +kernel
theorem d15_5 : decode method_3_code 5 = .ok (.iload_n 0, 1) := by decide +kernel
theorem d15_6 : decode method_3_code 6 = .ok (.iload_n 2, 1) := by decide +kernel
theorem d15_7 : decode method_3_code 7 = .ok (.if_icmp .gt 7, 3) := by decide +kernel
theorem d15_10 : decode method_3_code 10 = .ok (.iconst 1, 1) := by decide +kernel
theorem d15_11 : decode method_3_code 11 = .ok (.goto 4, 3) := by decide +kernel
theorem d15_14 : decode method_3_code 14 = .ok (.iconst 0, 1) := by decide +kernel
theorem d15_15 : decode method_3_code 15 = .ok (.ireturn, 1) := by decide +kernel
theorem own_pn15 : plainName "com/example/otito/otito/chain/CodePointSetAddPinLaw" = true := by first | (simp [plainName, overriddenIn]; done) | decide +kernel
theorem own_ef15 (m : MethodId) (x0 : Int32) (x1 : Int32) (x2 : Int32) : entryFrame m #[(.int x0), (.int x1), (.int x2)] 3 = mkF m 0 #[.val (.int x0), .val (.int x1), .val (.int x2)] [] := by first | (simp [entryFrame, mkF, argsToLocals, Value.category]; done) | rfl
def own_inn (pq : Int32) (pf : Int32) (pl : Int32) : Int32 := (if pq < pf then (0 : Int32) else (if pl < pq then (0 : Int32) else (1 : Int32)))
def own_Q15 (pq : Int32) (pf : Int32) (pl : Int32) (h0 : Heap) (n0 : Nat) (v : Option Value) (h : Heap) (L : List Loc) : Prop := v = some (.int (own_inn pq pf pl)) ∧ Fr n0 L ∧ h = h0
set_option maxRecDepth 65536 in
set_option maxHeartbeats 40000000 in
theorem rm15 (l : Launch) (Z : State) (a0 : Array Value) (hw : ∀ d ∈ tables_1, d.before a0 Z = true) (ws : List Jvm.Cond) (pq : Int32) (pf : Int32) (pl : Int32) (h0 : Heap) (n0 : Nat) (Z0 : n0 ≤ h0.size) :
    MetFree l (⟨"com/example/otito/otito/chain/CodePointSetAddPinLaw", "in", "(III)Z"⟩ : MethodName) (head1 (Jvm.Cond.code (⟨"com/example/otito/otito/chain/CodePointSetAddPinLaw", "in", "(III)Z"⟩ : MethodName) method_3_code 3 (some .boolean) :: ws) ({ frames := 0, cells := 0, slots := 0, locals := 0 } : Room)) (fun a U => a = #[(.int pq), (.int pf), (.int pl)] ∧ Z.Warmed39 U.vm ∧ U.heap = h0) (fun _ _ _ _ _ => True) (fun _ U o U' => ∃ v L, o = .returned v ∧ own_Q15 pq pf pl h0 n0 v U'.heap L ∧ FrameEnd U o U' L ({ frames := 0, cells := 0, slots := 0, locals := 0 } : Room).cells ({ frames := 0, cells := 0, slots := 0, locals := 0 } : Room).slots) := by
  refine MetFree.of_bodySF (plainFor_of_name own_pn15) hisR ?_
  intro p e s m args below meth c s₁ Bd hml0 hP hK
  obtain ⟨rfl, hZ, hh⟩ := hP
  have hx := Bd.exec
  have hby := Bd.bytes
  have hml : c.maxLocals = 3 := hml0
  have hown : s.vm.findClass "com/example/otito/otito/chain/CodePointSetAddPinLaw" = some m.cls := findClass_of_methodNamed Bd.named
  have hnm := (name_of_methodNamed Bd.named Bd.method).1
  have X0 : Stand p l e ({ frames := 0, cells := 0, slots := 0, locals := 0 } : Room) s m #[(.int pq), (.int pf), (.int pl)] below meth c s₁ [] 0 0 := Stand.of_body Bd
  have e0 : s₁.heap = h0 := by rw [← hh, Bd.state]; rfl
  have N0 := Fr.nil n0
  refine own_pre (A := (s₁.setTop (mkF m 0 #[.val (.int pq), .val (.int pf), .val (.int pl)] []))) (fun t k => castTop (own_ef15 m pq pf pl) k) ?_
  refine own_pre (A := (s₁.setTop (mkF m 2 #[.val (.int pq), .val (.int pf), .val (.int pl)] [(.int pq), (.int pf)]))) ?_ ?_
  · intro t k
    refine XS.iloadN X0.here hx rfl (hb hby d15_0) rfl ?_
    refine XS.iloadN X0.here hx rfl (hb hby d15_1) rfl ?_
    exact k
  by_cases hc3 : pq < pf
  · skip
    refine own_pre (A := (s₁.setTop (mkF m 14 #[.val (.int pq), .val (.int pf), .val (.int pl)] []))) ?_ ?_
    · intro t k
      refine XS.icmpYes X0.here hx rfl (pc0 := 2) (pc' := 14) rfl (hb hby d15_2) rfl (tlt hc3).2.2.1 (by decide) (by decide) ?_
      exact k
    refine own_pre (A := (s₁.setTop (mkF m 15 #[.val (.int pq), .val (.int pf), .val (.int pl)] [(.int (0 : Int32))]))) ?_ ?_
    · intro t k
      refine XS.iconst X0.here hx rfl (hb hby d15_14) ?_
      exact k
    have hz : own_inn pq pf pl = (0 : Int32) := by simp only [own_inn, if_pos hc3]
    obtain ⟨fs, hr, hrun, hended, hW, hsame⟩ := X0.leave (hlocks := BodyLoose.notSynchronized Bd) (v := some (.int (0 : Int32))) (fun h => by rw [Bd.returns] at h; cases h)
    refine ⟨_, _, retOut X0 hx Bd.returns rfl (Or.inl ⟨rfl, Or.inr (Or.inl rfl), _, rfl⟩) (hb hby d15_15) hr, hrun, hended, _, _, rfl, ?_, ⟨_, rfl⟩, hW, hsame.mono (by decide) (by decide)⟩
    show own_Q15 pq pf pl h0 n0 _ s₁.heap _
    rw [e0]
    exact ⟨by rw [hz], N0, rfl⟩
  · skip
    refine own_pre (A := (s₁.setTop (mkF m 5 #[.val (.int pq), .val (.int pf), .val (.int pl)] []))) ?_ ?_
    · intro t k
      refine XS.icmpNo X0.here hx rfl (hb hby d15_2) rfl (flt hc3).2.2.1 ?_
      exact k
    refine own_pre (A := (s₁.setTop (mkF m 7 #[.val (.int pq), .val (.int pf), .val (.int pl)] [(.int pl), (.int pq)]))) ?_ ?_
    · intro t k
      refine XS.iloadN X0.here hx rfl (hb hby d15_5) rfl ?_
      refine XS.iloadN X0.here hx rfl (hb hby d15_6) rfl ?_
      exact k
    by_cases hc4 : pl < pq
    · skip
      refine own_pre (A := (s₁.setTop (mkF m 14 #[.val (.int pq), .val (.int pf), .val (.int pl)] []))) ?_ ?_
      · intro t k
        refine XS.icmpYes X0.here hx rfl (pc0 := 7) (pc' := 14) rfl (hb hby d15_7) rfl (tlt hc4).2.2.1 (by decide) (by decide) ?_
        exact k
      refine own_pre (A := (s₁.setTop (mkF m 15 #[.val (.int pq), .val (.int pf), .val (.int pl)] [(.int (0 : Int32))]))) ?_ ?_
      · intro t k
        refine XS.iconst X0.here hx rfl (hb hby d15_14) ?_
        exact k
      have hz : own_inn pq pf pl = (0 : Int32) := by simp only [own_inn, if_neg hc3, if_pos hc4]
      obtain ⟨fs, hr, hrun, hended, hW, hsame⟩ := X0.leave (hlocks := BodyLoose.notSynchronized Bd) (v := some (.int (0 : Int32))) (fun h => by rw [Bd.returns] at h; cases h)
      refine ⟨_, _, retOut X0 hx Bd.returns rfl (Or.inl ⟨rfl, Or.inr (Or.inl rfl), _, rfl⟩) (hb hby d15_15) hr, hrun, hended, _, _, rfl, ?_, ⟨_, rfl⟩, hW, hsame.mono (by decide) (by decide)⟩
      show own_Q15 pq pf pl h0 n0 _ s₁.heap _
      rw [e0]
      exact ⟨by rw [hz], N0, rfl⟩
    · skip
      refine own_pre (A := (s₁.setTop (mkF m 10 #[.val (.int pq), .val (.int pf), .val (.int pl)] []))) ?_ ?_
      · intro t k
        refine XS.icmpNo X0.here hx rfl (hb hby d15_7) rfl (flt hc4).2.2.1 ?_
        exact k
      refine own_pre (A := (s₁.setTop (mkF m 15 #[.val (.int pq), .val (.int pf), .val (.int pl)] [(.int (1 : Int32))]))) ?_ ?_
      · intro t k
        refine XS.iconst X0.here hx rfl (hb hby d15_10) ?_
        refine XS.goto X0.here hx rfl (pc0 := 11) (pc' := 15) rfl (hb hby d15_11) (by decide) (by decide) ?_
        exact k
      have hz : own_inn pq pf pl = (1 : Int32) := by simp only [own_inn, if_neg hc3, if_neg hc4]
      obtain ⟨fs, hr, hrun, hended, hW, hsame⟩ := X0.leave (hlocks := BodyLoose.notSynchronized Bd) (v := some (.int (1 : Int32))) (fun h => by rw [Bd.returns] at h; cases h)
      refine ⟨_, _, retOut X0 hx Bd.returns rfl (Or.inl ⟨rfl, Or.inr (Or.inl rfl), _, rfl⟩) (hb hby d15_15) hr, hrun, hended, _, _, rfl, ?_, ⟨_, rfl⟩, hW, hsame.mono (by decide) (by decide)⟩
      show own_Q15 pq pf pl h0 n0 _ s₁.heap _
      rw [e0]
      exact ⟨by rw [hz], N0, rfl⟩
def own_QW (Qh : Heap → List Loc → Prop) (h0 : Heap) (n0 : Nat) (v : Option Value) (h : Heap) (L : List Loc) : Prop := v = none ∧ Qh h L
theorem own_ltk {j a n : Int32} (h : a < n) (hle : j.toInt ≤ a.toInt) : j < n := by rw [Int32.lt_iff_toInt_lt] at h ⊢; omega
theorem own_irr (q : Int64) : ¬ q < q := Int64.lt_irrefl
def own_cut (n : Nat) (ws : List Value) (dv : Value) : List Value := (List.range n).map fun i => ws.getD i dv
theorem own_cutD (n : Nat) (ws : List Value) (dv : Value) (i : Nat) (hi : i < n) : (own_cut n ws dv).getD i dv = ws.getD i dv := by
  simp [own_cut, List.getD, List.getElem?_map, List.getElem?_range hi]
theorem own_Arv_cut {Z : State} {h : Heap} {a : Addr} {k : ClassId} {ty : FieldType} {z : Int32} {vs vs' : List Value} {dv : Value} (F : Arv Z h a k ty z vs dv) (q : ∀ i, i < z.toNatClampNeg → vs'.getD i dv = vs.getD i dv) : Arv Z h a k ty z vs' dv := by
  obtain ⟨c, A, r1, r2, r3, H, G⟩ := F
  exact ⟨c, A, r1, r2, r3, fun i hi => by rw [q i (r2 ▸ hi)]; exact H i hi, fun i hi => by rw [q i (r2 ▸ hi)]; exact G i hi⟩
theorem own_minr (z n : Int32) (h : ¬ z < n) : own_min z n = n := by
  unfold own_min
  split
  · rfl
  · rename_i h2
    apply Int32.toInt_inj.mp
    rw [Int32.lt_iff_toInt_lt] at h h2; omega
theorem own_cple {z n : Int32} (hn : ¬ n < 0) (h : ¬ z < n) : (0 : Int32).toNatClampNeg + n.toNatClampNeg ≤ z.toNatClampNeg := by
  rw [Int32.lt_iff_toInt_lt] at h hn
  have e : (0 : Int32).toInt = 0 := by decide
  show (0 : Int32).toInt.toNat + n.toInt.toNat ≤ z.toInt.toNat
  omega
theorem own_app {n : Nat} {ws : List Value} {z dv : Value} : (([] ++ List.replicate n z).take (0 : Int32).toNatClampNeg ++ own_cut n ws dv ++ ([] ++ List.replicate n z).drop ((0 : Int32).toNatClampNeg + n)) = own_cut n ws dv := by
  have e : (0 : Int32).toNatClampNeg = 0 := by decide
  rw [e]; simp
theorem d8_0 : decode jdk_65_method_124_code 0 = .ok (.iload_n 1, 1) := by decide +kernel
theorem d8_1 : decode jdk_65_method_124_code 1 = .ok (.aload_n 0, 1) := by decide +kernel
theorem d8_2 : decode jdk_65_method_124_code 2 = .ok (.arraylength, 1) := by decide +kernel
theorem d8_3 : decode jdk_65_method_124_code 3 = .ok (.if_icmp .ne 11, 3) := by decide +kernel
theorem d8_6 : decode jdk_65_method_124_code 6 = .ok (.aload_n 0, 1) := by decide +kernel
theorem d8_7 : decode jdk_65_method_124_code 7 = .ok (.invokevirtual 319, 3) := by decide +kernel
theorem d8_10 : decode jdk_65_method_124_code 10 = .ok (.checkcast 320, 3) := by decide +kernel
theorem d8_13 : decode jdk_65_method_124_code 13 = .ok (.areturn, 1) := by decide +kernel
theorem d8_14 : decode jdk_65_method_124_code 14 = .ok (.iload_n 1, 1) := by decide +kernel
theorem d8_15 : decode jdk_65_method_124_code 15 = .ok (.newarray .long, 2) := by decide +kernel
theorem d8_17 : decode jdk_65_method_124_code 17 = .ok (.astore_n 2, 1) := by decide +kernel
theorem d8_18 : decode jdk_65_method_124_code 18 = .ok (.aload_n 0, 1) := by decide +kernel
theorem d8_19 : decode jdk_65_method_124_code 19 = .ok (.iconst 0, 1) := by decide +kernel
theorem d8_20 : decode jdk_65_method_124_code 20 = .ok (.aload_n 2, 1) := by decide +kernel
theorem d8_21 : decode jdk_65_method_124_code 21 = .ok (.iconst 0, 1) := by decide +kernel
theorem d8_22 : decode jdk_65_method_124_code 22 = .ok (.aload_n 0, 1) := by decide +kernel
theorem d8_23 : decode jdk_65_method_124_code 23 = .ok (.arraylength, 1) := by decide +kernel
theorem d8_24 : decode jdk_65_method_124_code 24 = .ok (.iload_n 1, 1) := by decide +kernel
theorem d8_25 : decode jdk_65_method_124_code 25 = .ok (.invokestatic 304, 3) := by decide +kernel
theorem d8_28 : decode jdk_65_method_124_code 28 = .ok (.invokestatic 150, 3) := by decide +kernel
theorem d8_31 : decode jdk_65_method_124_code 31 = .ok (.aload_n 2, 1) := by decide +kernel
theorem d8_32 : decode jdk_65_method_124_code 32 = .ok (.areturn, 1) := by decide +kernel
theorem own_pn8 : plainName "java/util/Arrays" = true := by first | (simp [plainName, overriddenIn]; done) | decide +kernel
theorem own_ef8 (m : MethodId) (x0 : Addr) (x1 : Int32) : entryFrame m #[(.ref x0), (.int x1)] 3 = mkF m 0 #[.val (.ref x0), .val (.int x1), .unset] [] := by first | (simp [entryFrame, mkF, argsToLocals, Value.category]; done) | rfl
def own_Q8_g (Z : State) (asr : Addr) (pn : Int32) (ks : ClassId) (pz : Int32) (wv : List Value) (h0 : Heap) (n0 : Nat) (v : Option Value) (h : Heap) (L : List Loc) : Prop := Fr n0 L ∧ ∃ (ad : Addr) (kd : ClassId), v = some (.ref ad) ∧ n0 ≤ ad ∧ h0.size ≤ ad ∧ Arv Z h ad kd .long pn (own_cut pn.toNatClampNeg wv (.long (0 : Int64))) (.long (0 : Int64)) ∧ Exa Z h ad "[J" ∧ Keep h0 h []
set_option maxRecDepth 65536 in
set_option maxHeartbeats 40000000 in
theorem rm8_g (l : Launch) (Z : State) (a0 : Array Value) (hw : ∀ d ∈ tables_1, d.before a0 Z = true) (ws : List Jvm.Cond) (asr : Addr) (pn : Int32) (ks : ClassId) (pz : Int32) (wv : List Value) (h0 : Heap) (n0 : Nat) (Z0 : n0 ≤ h0.size) (Vs : Arv Z h0 asr ks .long pz wv (.long (0 : Int64))) (Es : Exa Z h0 asr "[J") (hz : ¬ pz < pn) (hn : ¬ pn < 0) (hcap : pn.toNatClampNeg ≤ 18) :
    MetFree l (⟨"java/util/Arrays", "copyOf", "([JI)[J"⟩ : MethodName) (head1 (Jvm.Cond.code (⟨"java/util/Arrays", "copyOf", "([JI)[J"⟩ : MethodName) jdk_65_method_124_code 3 (some (.array .long)) :: ws) ({ frames := 1, cells := 1, slots := 18, locals := 40 } : Room)) (fun a U => a = #[(.ref asr), (.int pn)] ∧ Z.Warmed39 U.vm ∧ U.heap = h0) (fun _ _ _ _ _ => True) (fun _ U o U' => ∃ v L, o = .returned v ∧ own_Q8_g Z asr pn ks pz wv h0 n0 v U'.heap L ∧ FrameEnd U o U' L ({ frames := 1, cells := 1, slots := 18, locals := 40 } : Room).cells ({ frames := 1, cells := 1, slots := 18, locals := 40 } : Room).slots) := by
  refine MetFree.of_bodySF (plainFor_of_name own_pn8) hisR ?_
  intro p e s m args below meth c s₁ Bd hml0 hP hK
  obtain ⟨rfl, hZ, hh⟩ := hP
  have hx := Bd.exec
  have hby := Bd.bytes
  have hml : c.maxLocals = 3 := hml0
  have hown : s.vm.findClass "java/util/Arrays" = some m.cls := findClass_of_methodNamed Bd.named
  have hnm := (name_of_methodNamed Bd.named Bd.method).1
  have X0 : Stand p l e ({ frames := 1, cells := 1, slots := 18, locals := 40 } : Room) s m #[(.ref asr), (.int pn)] below meth c s₁ [] 0 0 := Stand.of_body Bd
  have e0 : s₁.heap = h0 := by rw [← hh, Bd.state]; rfl
  have N0 := Fr.nil n0
  refine own_pre (A := (s₁.setTop (mkF m 0 #[.val (.ref asr), .val (.int pn), .unset] []))) (fun t k => castTop (own_ef8 m asr pn) k) ?_
  refine own_pre (A := (s₁.setTop (mkF m 3 #[.val (.ref asr), .val (.int pn), .unset] [(.int pz), (.int pn)]))) ?_ ?_
  · intro t k
    refine XS.iloadN X0.here hx rfl (hb hby d8_0) rfl ?_
    refine XS.aloadN X0.here hx rfl (hb hby d8_1) rfl rfl ?_
    show Steps p.tables e below (s₁.setTop (mkF m 2 #[.val (.ref asr), .val (.int pn), .unset] [(.ref asr), (.int pn)])) _
    obtain ⟨cl5, Ar5, -, S5, N5, -, -⟩ := id Vs
    refine X0.arraylength hx (by rw [e0]; exact Ar5.1) (State.isArrayOf_alike hZ.alike Ar5.2.1) (g := (mkF m 2 #[.val (.ref asr), .val (.int pn), .unset] [(.ref asr), (.int pn)])) rfl rfl (hb hby d8_2) _ ?_
    rw [len_of S5 N5]
    exact k
  by_cases hc6 : pn = pz
  · skip
    refine own_pre (A := (s₁.setTop (mkF m 6 #[.val (.ref asr), .val (.int pn), .unset] []))) ?_ ?_
    · intro t k
      refine XS.icmpNo X0.here hx rfl (hb hby d8_3) rfl (teq hc6).2 ?_
      exact k
    refine own_pre (A := (s₁.setTop (mkF m 7 #[.val (.ref asr), .val (.int pn), .unset] [(.ref asr)]))) ?_ ?_
    · intro t k
      refine XS.aloadN X0.here hx rfl (hb hby d8_6) rfl rfl ?_
      exact k
    obtain ⟨T7, h7, X7, e7, E7, V7, Q7, st7⟩ := cloneH X0 hx hZ hown (own_w hw 90 rfl) (own_w hw 91 rfl) (own_w hw 86 rfl) (own_w hw 84 rfl) (own_w hw 92 rfl) (own_w hw 93 rfl) e0 Vs.arh Es (g := (mkF m 7 #[.val (.ref asr), .val (.int pn), .unset] [(.ref asr)])) rfl (by rw [hml]; rfl) rfl (hb hby d8_7) (by decide) (W := 0) (cap := 18) (by show 2 * 0 + _ ≤ _; exact Nat.le_of_eq rfl) (by decide) (by rw [← hc6]; exact hcap) (by decide) (by decide)
    obtain ⟨b7, g7⟩ : ∃ z, z = h0.size := ⟨_, rfl⟩
    rw [← g7] at V7 Q7 st7
    have gn_b7 : n0 ≤ b7 := Nat.le_trans Z0 (Nat.le_of_eq g7.symm)
    have sz_b7 : h0.size ≤ b7 := Nat.le_trans (Keep.refl h0 []).1 (Nat.le_of_eq g7.symm)
    have Kc7 : Keep h0 h7 [] := (Keep.refl h0 []).ext E7
    have V7' : Arv Z h7 b7 ks .long pn (own_cut pn.toNatClampNeg wv (.long (0 : Int64))) (.long (0 : Int64)) := by
      have q : Arv Z h7 b7 ks .long pz wv (.long (0 : Int64)) := V7
      rw [← hc6] at q
      exact own_Arv_cut q fun i hi => own_cutD _ _ _ i hi
    refine own_pre (fun t k => st7 t k) ?_
    obtain ⟨T8, X8, e8, st8⟩ := castY X7 hx hZ hown (own_w hw 94 rfl) e7 (Ins.self Q7) (g := (mkF m 10 #[.val (.ref asr), .val (.int pn), .unset] [(.ref b7)])) rfl rfl (hb hby d8_10)
    refine own_pre (fun t k => st8 t k) ?_
    obtain ⟨fs, hr, hrun, hended, hW, hsame⟩ := X8.leave (hlocks := BodyLoose.notSynchronized Bd) (v := some (.ref b7)) (fun h => by rw [Bd.returns] at h; cases h)
    refine ⟨_, _, retOut X8 hx Bd.returns rfl (Or.inr (Or.inr (Or.inr (Or.inr ⟨rfl, rfl, rfl⟩)))) (hb hby d8_13) hr, hrun, hended, _, _, rfl, ?_, ⟨_, rfl⟩, hW, hsame.mono (by decide) (by decide)⟩
    show own_Q8_g Z asr pn ks pz wv h0 n0 _ T8.heap _
    rw [e8]
    exact ⟨N0, b7, ks, rfl, gn_b7, sz_b7, V7', Q7, Kc7⟩
  · skip
    refine own_pre (A := (s₁.setTop (mkF m 14 #[.val (.ref asr), .val (.int pn), .unset] []))) ?_ ?_
    · intro t k
      refine XS.icmpYes X0.here hx rfl (pc0 := 3) (pc' := 14) rfl (hb hby d8_3) rfl (feq hc6).2 (by decide) (by decide) ?_
      exact k
    refine own_pre (A := (s₁.setTop (mkF m 15 #[.val (.ref asr), .val (.int pn), .unset] [(.int pn)]))) ?_ ?_
    · intro t k
      refine XS.iloadN X0.here hx rfl (hb hby d8_14) rfl ?_
      exact k
    obtain ⟨T9, h9, k9, X9, e9, E9, A9, Q9, st9⟩ := newPE X0 hx hZ (own_w hw 22 rfl) e0 (g := (mkF m 15 #[.val (.ref asr), .val (.int pn), .unset] [(.int pn)])) rfl (hb hby d8_15) rfl hn (cap := 18) hcap (by decide) (by decide) (by decide) (ad := "[J") (by decide)
    obtain ⟨b9, g9⟩ : ∃ z, z = h0.size := ⟨_, rfl⟩
    rw [← g9] at A9 st9 Q9
    have gn_b9 : n0 ≤ b9 := Nat.le_trans Z0 (Nat.le_of_eq g9.symm)
    have sz_b9 : h0.size ≤ b9 := Nat.le_trans (Keep.refl h0 []).1 (Nat.le_of_eq g9.symm)
    have Vs_9 := Vs.ext E9
    have Zs9 : n0 ≤ h9.size := Nat.le_trans Z0 E9.1
    have Kc9 : Keep h0 h9 [] := (Keep.refl h0 []).ext E9
    have V9 : Arv Z h9 b9 k9 .long pn [] (.long (0 : Int64)) := Arv.new A9 hn
    refine own_pre (fun t k => st9 t k) ?_
    refine own_pre (A := (T9.setTop (mkF m 25 #[.val (.ref asr), .val (.int pn), .val (.ref b9)] [(.int pn), (.int pz), (.int (0 : Int32)), (.ref b9), (.int (0 : Int32)), (.ref asr)]))) ?_ ?_
    · intro t k
      refine XS.astoreN X9.here hx rfl (hb hby d8_17) rfl rfl (l' := #[.val (.ref asr), .val (.int pn), .val (.ref b9)]) rfl ?_
      refine XS.aloadN X9.here hx rfl (hb hby d8_18) rfl rfl ?_
      refine XS.iconst X9.here hx rfl (hb hby d8_19) ?_
      refine XS.aloadN X9.here hx rfl (hb hby d8_20) rfl rfl ?_
      refine XS.iconst X9.here hx rfl (hb hby d8_21) ?_
      refine XS.aloadN X9.here hx rfl (hb hby d8_22) rfl rfl ?_
      show Steps p.tables e below (T9.setTop (mkF m 23 #[.val (.ref asr), .val (.int pn), .val (.ref b9)] [(.ref asr), (.int (0 : Int32)), (.ref b9), (.int (0 : Int32)), (.ref asr)])) _
      obtain ⟨cl10, Ar10, -, S10, N10, -, -⟩ := id Vs_9
      refine X9.arraylength hx (by rw [e9]; exact Ar10.1) (State.isArrayOf_alike hZ.alike Ar10.2.1) (g := (mkF m 23 #[.val (.ref asr), .val (.int pn), .val (.ref b9)] [(.ref asr), (.int (0 : Int32)), (.ref b9), (.int (0 : Int32)), (.ref asr)])) rfl rfl (hb hby d8_23) _ ?_
      rw [len_of S10 N10]
      refine XS.iloadN X9.here hx rfl (hb hby d8_24) rfl ?_
      exact k
    obtain ⟨_, _, ⟨T11, L11, k11, n11⟩, -, X11, ⟨Lc11, hQ11, l11, y11, z11⟩, st11⟩ := Jvm.LawKit.callS X9 hx (y := (⟨"java/lang/Math", "min", "(II)I"⟩ : MethodName)) hown (mvT hZ (own_w hw 41 rfl)) (mvT hZ (own_w hw 7 rfl)) (mvT hZ (own_w hw 8 rfl)) (mvT hZ (own_w hw 9 rfl)) (by decide) (backOf (W := 4) (rm2 l Z a0 hw [] pz pn h9 n0 Zs9) hZ (own_w hw 9 rfl) (own_w hw 8 rfl) (by decide) (by decide)) (g := (mkF m 25 #[.val (.ref asr), .val (.int pn), .val (.ref b9)] [(.int pn), (.int pz), (.int (0 : Int32)), (.ref b9), (.int (0 : Int32)), (.ref asr)])) rfl (by rw [hml]; rfl) (argsL := [(.int pz), (.int pn)]) (rest := [(.int (0 : Int32)), (.ref b9), (.int (0 : Int32)), (.ref asr)]) (lenOf own_pd0 rfl) rfl (by show 2 * 0 + _ ≤ _; exact Nat.le_of_eq rfl) (hb hby d8_25) (fun _ _ => ⟨rfl, e9, (by decide : 1 + 0 ≤ _), (by decide : 18 + 0 ≤ _)⟩)
    dsimp only [Pt.U, Pt.locs, Pt.cells, Pt.slots] at X11 l11 y11 z11 st11 hQ11
    replace y11 : _ = 1 := y11
    replace z11 : _ = 18 := z11
    subst y11 z11
    obtain ⟨rfl, Nq11, eq11⟩ := hQ11
    have N11 := own_frl l11 N0 Nq11
    refine own_pre (fun t k => st11 t k) ?_
    rw [own_minr pz pn hz]
    have Vp12 := V9.pad (pad_rep [] (.long (0 : Int64)) pn.toNatClampNeg)
    obtain ⟨T12, h12, L12, X12, e12, N12, K12, V12, st12⟩ := cpA X11 hx hZ hown (own_w hw 42 rfl) (own_w hw 45 rfl) (own_w hw 43 rfl) (own_w hw 44 rfl) eq11 Vs_9 Vp12 (Or.inl ⟨rfl, rfl⟩) (sp := (0 : Int32)) (dp := (0 : Int32)) (nn := pn) (us := own_cut pn.toNatClampNeg wv (.long (0 : Int64))) (by decide) (by decide) hn (own_cple hn hz) (Nat.le_of_eq (Nat.zero_add _)) (by simp [own_cut]) (by simp) N11 gn_b9 (g := (mkF m 28 #[.val (.ref asr), .val (.int pn), .val (.ref b9)] [(.int pn), (.int (0 : Int32)), (.ref b9), (.int (0 : Int32)), (.ref asr)])) rfl (by rw [hml]; rfl) rfl (hb hby d8_28) (by decide) (W := 0) (by show 2 * 0 + _ ≤ _; exact Nat.le_of_eq rfl) (by decide)
    have V12' : Arv Z h12 b9 k9 .long pn (own_cut pn.toNatClampNeg wv (.long (0 : Int64))) (.long (0 : Int64)) := by
      have q := V12
      rw [own_app] at q
      exact q
    refine own_pre (fun t k => st12 t k) ?_
    have Q9_12 := Q9.keep K12
    have Kc12 : Keep h0 h12 [] := Kc9.trans K12 (allS (Or.inr sz_b9) all0)
    refine own_pre (A := (T12.setTop (mkF m 32 #[.val (.ref asr), .val (.int pn), .val (.ref b9)] [(.ref b9)]))) ?_ ?_
    · intro t k
      refine XS.aloadN X12.here hx rfl (hb hby d8_31) rfl rfl ?_
      exact k
    obtain ⟨fs, hr, hrun, hended, hW, hsame⟩ := X12.leave (hlocks := BodyLoose.notSynchronized Bd) (v := some (.ref b9)) (fun h => by rw [Bd.returns] at h; cases h)
    refine ⟨_, _, retOut X12 hx Bd.returns rfl (Or.inr (Or.inr (Or.inr (Or.inr ⟨rfl, rfl, rfl⟩)))) (hb hby d8_32) hr, hrun, hended, _, _, rfl, ?_, ⟨_, rfl⟩, hW, hsame.mono (by decide) (by decide)⟩
    show own_Q8_g Z asr pn ks pz wv h0 n0 _ T12.heap _
    rw [e12]
    exact ⟨N12, b9, k9, rfl, gn_b9, sz_b9, V12', Q9_12, Kc12⟩
theorem d13_0 : decode jdk_65_method_123_code 0 = .ok (.iload_n 1, 1) := by decide +kernel
theorem d13_1 : decode jdk_65_method_123_code 1 = .ok (.aload_n 0, 1) := by decide +kernel
theorem d13_2 : decode jdk_65_method_123_code 2 = .ok (.arraylength, 1) := by decide +kernel
theorem d13_3 : decode jdk_65_method_123_code 3 = .ok (.if_icmp .ne 11, 3) := by decide +kernel
theorem d13_6 : decode jdk_65_method_123_code 6 = .ok (.aload_n 0, 1) := by decide +kernel
theorem d13_7 : decode jdk_65_method_123_code 7 = .ok (.invokevirtual 316, 3) := by decide +kernel
theorem d13_10 : decode jdk_65_method_123_code 10 = .ok (.checkcast 317, 3) := by decide +kernel
theorem d13_13 : decode jdk_65_method_123_code 13 = .ok (.areturn, 1) := by decide +kernel
theorem d13_14 : decode jdk_65_method_123_code 14 = .ok (.iload_n 1, 1) := by decide +kernel
theorem d13_15 : decode jdk_65_method_123_code 15 = .ok (.newarray .int, 2) := by decide +kernel
theorem d13_17 : decode jdk_65_method_123_code 17 = .ok (.astore_n 2, 1) := by decide +kernel
theorem d13_18 : decode jdk_65_method_123_code 18 = .ok (.aload_n 0, 1) := by decide +kernel
theorem d13_19 : decode jdk_65_method_123_code 19 = .ok (.iconst 0, 1) := by decide +kernel
theorem d13_20 : decode jdk_65_method_123_code 20 = .ok (.aload_n 2, 1) := by decide +kernel
theorem d13_21 : decode jdk_65_method_123_code 21 = .ok (.iconst 0, 1) := by decide +kernel
theorem d13_22 : decode jdk_65_method_123_code 22 = .ok (.aload_n 0, 1) := by decide +kernel
theorem d13_23 : decode jdk_65_method_123_code 23 = .ok (.arraylength, 1) := by decide +kernel
theorem d13_24 : decode jdk_65_method_123_code 24 = .ok (.iload_n 1, 1) := by decide +kernel
theorem d13_25 : decode jdk_65_method_123_code 25 = .ok (.invokestatic 304, 3) := by decide +kernel
theorem d13_28 : decode jdk_65_method_123_code 28 = .ok (.invokestatic 150, 3) := by decide +kernel
theorem d13_31 : decode jdk_65_method_123_code 31 = .ok (.aload_n 2, 1) := by decide +kernel
theorem d13_32 : decode jdk_65_method_123_code 32 = .ok (.areturn, 1) := by decide +kernel
theorem own_pn13 : plainName "java/util/Arrays" = true := by first | (simp [plainName, overriddenIn]; done) | decide +kernel
theorem own_ef13 (m : MethodId) (x0 : Addr) (x1 : Int32) : entryFrame m #[(.ref x0), (.int x1)] 3 = mkF m 0 #[.val (.ref x0), .val (.int x1), .unset] [] := by first | (simp [entryFrame, mkF, argsToLocals, Value.category]; done) | rfl
def own_Q13_g (Z : State) (asr : Addr) (pn : Int32) (ks : ClassId) (pz : Int32) (wv : List Value) (h0 : Heap) (n0 : Nat) (v : Option Value) (h : Heap) (L : List Loc) : Prop := Fr n0 L ∧ ∃ (ad : Addr) (kd : ClassId), v = some (.ref ad) ∧ n0 ≤ ad ∧ h0.size ≤ ad ∧ Arv Z h ad kd .int pn (own_cut pn.toNatClampNeg wv (.int (0 : Int32))) (.int (0 : Int32)) ∧ Exa Z h ad "[I" ∧ Keep h0 h []
set_option maxRecDepth 65536 in
set_option maxHeartbeats 40000000 in
theorem rm13_g (l : Launch) (Z : State) (a0 : Array Value) (hw : ∀ d ∈ tables_1, d.before a0 Z = true) (ws : List Jvm.Cond) (asr : Addr) (pn : Int32) (ks : ClassId) (pz : Int32) (wv : List Value) (h0 : Heap) (n0 : Nat) (Z0 : n0 ≤ h0.size) (Vs : Arv Z h0 asr ks .int pz wv (.int (0 : Int32))) (Es : Exa Z h0 asr "[I") (hz : ¬ pz < pn) (hn : ¬ pn < 0) (hcap : pn.toNatClampNeg ≤ 18) :
    MetFree l (⟨"java/util/Arrays", "copyOf", "([II)[I"⟩ : MethodName) (head1 (Jvm.Cond.code (⟨"java/util/Arrays", "copyOf", "([II)[I"⟩ : MethodName) jdk_65_method_123_code 3 (some (.array .int)) :: ws) ({ frames := 1, cells := 1, slots := 18, locals := 40 } : Room)) (fun a U => a = #[(.ref asr), (.int pn)] ∧ Z.Warmed39 U.vm ∧ U.heap = h0) (fun _ _ _ _ _ => True) (fun _ U o U' => ∃ v L, o = .returned v ∧ own_Q13_g Z asr pn ks pz wv h0 n0 v U'.heap L ∧ FrameEnd U o U' L ({ frames := 1, cells := 1, slots := 18, locals := 40 } : Room).cells ({ frames := 1, cells := 1, slots := 18, locals := 40 } : Room).slots) := by
  refine MetFree.of_bodySF (plainFor_of_name own_pn13) hisR ?_
  intro p e s m args below meth c s₁ Bd hml0 hP hK
  obtain ⟨rfl, hZ, hh⟩ := hP
  have hx := Bd.exec
  have hby := Bd.bytes
  have hml : c.maxLocals = 3 := hml0
  have hown : s.vm.findClass "java/util/Arrays" = some m.cls := findClass_of_methodNamed Bd.named
  have hnm := (name_of_methodNamed Bd.named Bd.method).1
  have X0 : Stand p l e ({ frames := 1, cells := 1, slots := 18, locals := 40 } : Room) s m #[(.ref asr), (.int pn)] below meth c s₁ [] 0 0 := Stand.of_body Bd
  have e0 : s₁.heap = h0 := by rw [← hh, Bd.state]; rfl
  have N0 := Fr.nil n0
  refine own_pre (A := (s₁.setTop (mkF m 0 #[.val (.ref asr), .val (.int pn), .unset] []))) (fun t k => castTop (own_ef13 m asr pn) k) ?_
  refine own_pre (A := (s₁.setTop (mkF m 3 #[.val (.ref asr), .val (.int pn), .unset] [(.int pz), (.int pn)]))) ?_ ?_
  · intro t k
    refine XS.iloadN X0.here hx rfl (hb hby d13_0) rfl ?_
    refine XS.aloadN X0.here hx rfl (hb hby d13_1) rfl rfl ?_
    show Steps p.tables e below (s₁.setTop (mkF m 2 #[.val (.ref asr), .val (.int pn), .unset] [(.ref asr), (.int pn)])) _
    obtain ⟨cl13, Ar13, -, S13, N13, -, -⟩ := id Vs
    refine X0.arraylength hx (by rw [e0]; exact Ar13.1) (State.isArrayOf_alike hZ.alike Ar13.2.1) (g := (mkF m 2 #[.val (.ref asr), .val (.int pn), .unset] [(.ref asr), (.int pn)])) rfl rfl (hb hby d13_2) _ ?_
    rw [len_of S13 N13]
    exact k
  by_cases hc14 : pn = pz
  · skip
    refine own_pre (A := (s₁.setTop (mkF m 6 #[.val (.ref asr), .val (.int pn), .unset] []))) ?_ ?_
    · intro t k
      refine XS.icmpNo X0.here hx rfl (hb hby d13_3) rfl (teq hc14).2 ?_
      exact k
    refine own_pre (A := (s₁.setTop (mkF m 7 #[.val (.ref asr), .val (.int pn), .unset] [(.ref asr)]))) ?_ ?_
    · intro t k
      refine XS.aloadN X0.here hx rfl (hb hby d13_6) rfl rfl ?_
      exact k
    obtain ⟨T15, h15, X15, e15, E15, V15, Q15, st15⟩ := cloneH X0 hx hZ hown (own_w hw 81 rfl) (own_w hw 82 rfl) (own_w hw 86 rfl) (own_w hw 84 rfl) (own_w hw 85 rfl) (own_w hw 87 rfl) e0 Vs.arh Es (g := (mkF m 7 #[.val (.ref asr), .val (.int pn), .unset] [(.ref asr)])) rfl (by rw [hml]; rfl) rfl (hb hby d13_7) (by decide) (W := 0) (cap := 18) (by show 2 * 0 + _ ≤ _; exact Nat.le_of_eq rfl) (by decide) (by rw [← hc14]; exact hcap) (by decide) (by decide)
    obtain ⟨b15, g15⟩ : ∃ z, z = h0.size := ⟨_, rfl⟩
    rw [← g15] at V15 Q15 st15
    have gn_b15 : n0 ≤ b15 := Nat.le_trans Z0 (Nat.le_of_eq g15.symm)
    have sz_b15 : h0.size ≤ b15 := Nat.le_trans (Keep.refl h0 []).1 (Nat.le_of_eq g15.symm)
    have Kc15 : Keep h0 h15 [] := (Keep.refl h0 []).ext E15
    have V15' : Arv Z h15 b15 ks .int pn (own_cut pn.toNatClampNeg wv (.int (0 : Int32))) (.int (0 : Int32)) := by
      have q : Arv Z h15 b15 ks .int pz wv (.int (0 : Int32)) := V15
      rw [← hc14] at q
      exact own_Arv_cut q fun i hi => own_cutD _ _ _ i hi
    refine own_pre (fun t k => st15 t k) ?_
    obtain ⟨T16, X16, e16, st16⟩ := castY X15 hx hZ hown (own_w hw 88 rfl) e15 (Ins.self Q15) (g := (mkF m 10 #[.val (.ref asr), .val (.int pn), .unset] [(.ref b15)])) rfl rfl (hb hby d13_10)
    refine own_pre (fun t k => st16 t k) ?_
    obtain ⟨fs, hr, hrun, hended, hW, hsame⟩ := X16.leave (hlocks := BodyLoose.notSynchronized Bd) (v := some (.ref b15)) (fun h => by rw [Bd.returns] at h; cases h)
    refine ⟨_, _, retOut X16 hx Bd.returns rfl (Or.inr (Or.inr (Or.inr (Or.inr ⟨rfl, rfl, rfl⟩)))) (hb hby d13_13) hr, hrun, hended, _, _, rfl, ?_, ⟨_, rfl⟩, hW, hsame.mono (by decide) (by decide)⟩
    show own_Q13_g Z asr pn ks pz wv h0 n0 _ T16.heap _
    rw [e16]
    exact ⟨N0, b15, ks, rfl, gn_b15, sz_b15, V15', Q15, Kc15⟩
  · skip
    refine own_pre (A := (s₁.setTop (mkF m 14 #[.val (.ref asr), .val (.int pn), .unset] []))) ?_ ?_
    · intro t k
      refine XS.icmpYes X0.here hx rfl (pc0 := 3) (pc' := 14) rfl (hb hby d13_3) rfl (feq hc14).2 (by decide) (by decide) ?_
      exact k
    refine own_pre (A := (s₁.setTop (mkF m 15 #[.val (.ref asr), .val (.int pn), .unset] [(.int pn)]))) ?_ ?_
    · intro t k
      refine XS.iloadN X0.here hx rfl (hb hby d13_14) rfl ?_
      exact k
    obtain ⟨T17, h17, k17, X17, e17, E17, A17, Q17, st17⟩ := newPE X0 hx hZ (own_w hw 59 rfl) e0 (g := (mkF m 15 #[.val (.ref asr), .val (.int pn), .unset] [(.int pn)])) rfl (hb hby d13_15) rfl hn (cap := 18) hcap (by decide) (by decide) (by decide) (ad := "[I") (by decide)
    obtain ⟨b17, g17⟩ : ∃ z, z = h0.size := ⟨_, rfl⟩
    rw [← g17] at A17 st17 Q17
    have gn_b17 : n0 ≤ b17 := Nat.le_trans Z0 (Nat.le_of_eq g17.symm)
    have sz_b17 : h0.size ≤ b17 := Nat.le_trans (Keep.refl h0 []).1 (Nat.le_of_eq g17.symm)
    have Vs_17 := Vs.ext E17
    have Zs17 : n0 ≤ h17.size := Nat.le_trans Z0 E17.1
    have Kc17 : Keep h0 h17 [] := (Keep.refl h0 []).ext E17
    have V17 : Arv Z h17 b17 k17 .int pn [] (.int (0 : Int32)) := Arv.new A17 hn
    refine own_pre (fun t k => st17 t k) ?_
    refine own_pre (A := (T17.setTop (mkF m 25 #[.val (.ref asr), .val (.int pn), .val (.ref b17)] [(.int pn), (.int pz), (.int (0 : Int32)), (.ref b17), (.int (0 : Int32)), (.ref asr)]))) ?_ ?_
    · intro t k
      refine XS.astoreN X17.here hx rfl (hb hby d13_17) rfl rfl (l' := #[.val (.ref asr), .val (.int pn), .val (.ref b17)]) rfl ?_
      refine XS.aloadN X17.here hx rfl (hb hby d13_18) rfl rfl ?_
      refine XS.iconst X17.here hx rfl (hb hby d13_19) ?_
      refine XS.aloadN X17.here hx rfl (hb hby d13_20) rfl rfl ?_
      refine XS.iconst X17.here hx rfl (hb hby d13_21) ?_
      refine XS.aloadN X17.here hx rfl (hb hby d13_22) rfl rfl ?_
      show Steps p.tables e below (T17.setTop (mkF m 23 #[.val (.ref asr), .val (.int pn), .val (.ref b17)] [(.ref asr), (.int (0 : Int32)), (.ref b17), (.int (0 : Int32)), (.ref asr)])) _
      obtain ⟨cl18, Ar18, -, S18, N18, -, -⟩ := id Vs_17
      refine X17.arraylength hx (by rw [e17]; exact Ar18.1) (State.isArrayOf_alike hZ.alike Ar18.2.1) (g := (mkF m 23 #[.val (.ref asr), .val (.int pn), .val (.ref b17)] [(.ref asr), (.int (0 : Int32)), (.ref b17), (.int (0 : Int32)), (.ref asr)])) rfl rfl (hb hby d13_23) _ ?_
      rw [len_of S18 N18]
      refine XS.iloadN X17.here hx rfl (hb hby d13_24) rfl ?_
      exact k
    obtain ⟨_, _, ⟨T19, L19, k19, n19⟩, -, X19, ⟨Lc19, hQ19, l19, y19, z19⟩, st19⟩ := Jvm.LawKit.callS X17 hx (y := (⟨"java/lang/Math", "min", "(II)I"⟩ : MethodName)) hown (mvT hZ (own_w hw 41 rfl)) (mvT hZ (own_w hw 7 rfl)) (mvT hZ (own_w hw 8 rfl)) (mvT hZ (own_w hw 9 rfl)) (by decide) (backOf (W := 4) (rm2 l Z a0 hw [] pz pn h17 n0 Zs17) hZ (own_w hw 9 rfl) (own_w hw 8 rfl) (by decide) (by decide)) (g := (mkF m 25 #[.val (.ref asr), .val (.int pn), .val (.ref b17)] [(.int pn), (.int pz), (.int (0 : Int32)), (.ref b17), (.int (0 : Int32)), (.ref asr)])) rfl (by rw [hml]; rfl) (argsL := [(.int pz), (.int pn)]) (rest := [(.int (0 : Int32)), (.ref b17), (.int (0 : Int32)), (.ref asr)]) (lenOf own_pd0 rfl) rfl (by show 2 * 0 + _ ≤ _; exact Nat.le_of_eq rfl) (hb hby d13_25) (fun _ _ => ⟨rfl, e17, (by decide : 1 + 0 ≤ _), (by decide : 18 + 0 ≤ _)⟩)
    dsimp only [Pt.U, Pt.locs, Pt.cells, Pt.slots] at X19 l19 y19 z19 st19 hQ19
    replace y19 : _ = 1 := y19
    replace z19 : _ = 18 := z19
    subst y19 z19
    obtain ⟨rfl, Nq19, eq19⟩ := hQ19
    have N19 := own_frl l19 N0 Nq19
    refine own_pre (fun t k => st19 t k) ?_
    rw [own_minr pz pn hz]
    have Vp20 := V17.pad (pad_rep [] (.int (0 : Int32)) pn.toNatClampNeg)
    obtain ⟨T20, h20, L20, X20, e20, N20, K20, V20, st20⟩ := cpA X19 hx hZ hown (own_w hw 42 rfl) (own_w hw 45 rfl) (own_w hw 43 rfl) (own_w hw 44 rfl) eq19 Vs_17 Vp20 (Or.inl ⟨rfl, rfl⟩) (sp := (0 : Int32)) (dp := (0 : Int32)) (nn := pn) (us := own_cut pn.toNatClampNeg wv (.int (0 : Int32))) (by decide) (by decide) hn (own_cple hn hz) (Nat.le_of_eq (Nat.zero_add _)) (by simp [own_cut]) (by simp) N19 gn_b17 (g := (mkF m 28 #[.val (.ref asr), .val (.int pn), .val (.ref b17)] [(.int pn), (.int (0 : Int32)), (.ref b17), (.int (0 : Int32)), (.ref asr)])) rfl (by rw [hml]; rfl) rfl (hb hby d13_28) (by decide) (W := 0) (by show 2 * 0 + _ ≤ _; exact Nat.le_of_eq rfl) (by decide)
    have V20' : Arv Z h20 b17 k17 .int pn (own_cut pn.toNatClampNeg wv (.int (0 : Int32))) (.int (0 : Int32)) := by
      have q := V20
      rw [own_app] at q
      exact q
    refine own_pre (fun t k => st20 t k) ?_
    have Q17_20 := Q17.keep K20
    have Kc20 : Keep h0 h20 [] := Kc17.trans K20 (allS (Or.inr sz_b17) all0)
    refine own_pre (A := (T20.setTop (mkF m 32 #[.val (.ref asr), .val (.int pn), .val (.ref b17)] [(.ref b17)]))) ?_ ?_
    · intro t k
      refine XS.aloadN X20.here hx rfl (hb hby d13_31) rfl rfl ?_
      exact k
    obtain ⟨fs, hr, hrun, hended, hW, hsame⟩ := X20.leave (hlocks := BodyLoose.notSynchronized Bd) (v := some (.ref b17)) (fun h => by rw [Bd.returns] at h; cases h)
    refine ⟨_, _, retOut X20 hx Bd.returns rfl (Or.inr (Or.inr (Or.inr (Or.inr ⟨rfl, rfl, rfl⟩)))) (hb hby d13_32) hr, hrun, hended, _, _, rfl, ?_, ⟨_, rfl⟩, hW, hsame.mono (by decide) (by decide)⟩
    show own_Q13_g Z asr pn ks pz wv h0 n0 _ T20.heap _
    rw [e20]
    exact ⟨N20, b17, k17, rfl, gn_b17, sz_b17, V20', Q17_20, Kc20⟩
theorem d12_0 : decode jdk_2529_method_15_code 0 = .ok (.iload_n 1, 1) := by decide +kernel
theorem d12_1 : decode jdk_2529_method_15_code 1 = .ok (.istore 4, 2) := by decide +kernel
theorem d12_3 : decode jdk_2529_method_15_code 3 = .ok (.iinc 4 1, 3) := by decide +kernel
theorem d12_6 : decode jdk_2529_method_15_code 6 = .ok (.iload 4, 2) := by decide +kernel
theorem d12_8 : decode jdk_2529_method_15_code 8 = .ok (.iload_n 2, 1) := by decide +kernel
theorem d12_9 : decode jdk_2529_method_15_code 9 = .ok (.if_icmp .ge 60, 3) := by decide +kernel
theorem d12_12 : decode jdk_2529_method_15_code 12 = .ok (.aload_n 0, 1) := by decide +kernel
theorem d12_13 : decode jdk_2529_method_15_code 13 = .ok (.iload 4, 2) := by decide +kernel
theorem d12_15 : decode jdk_2529_method_15_code 15 = .ok (.dup, 1) := by decide +kernel
theorem d12_16 : decode jdk_2529_method_15_code 16 = .ok (.istore_n 3, 1) := by decide +kernel
theorem d12_17 : decode jdk_2529_method_15_code 17 = .ok (.laload, 1) := by decide +kernel
theorem d12_18 : decode jdk_2529_method_15_code 18 = .ok (.lstore 5, 2) := by decide +kernel
theorem d12_20 : decode jdk_2529_method_15_code 20 = .ok (.lload 5, 2) := by decide +kernel
theorem d12_22 : decode jdk_2529_method_15_code 22 = .ok (.aload_n 0, 1) := by decide +kernel
theorem d12_23 : decode jdk_2529_method_15_code 23 = .ok (.iload_n 3, 1) := by decide +kernel
theorem d12_24 : decode jdk_2529_method_15_code 24 = .ok (.iconst 1, 1) := by decide +kernel
theorem d12_25 : decode jdk_2529_method_15_code 25 = .ok (.isub, 1) := by decide +kernel
theorem d12_26 : decode jdk_2529_method_15_code 26 = .ok (.laload, 1) := by decide +kernel
theorem d12_27 : decode jdk_2529_method_15_code 27 = .ok (.lcmp, 1) := by decide +kernel
theorem d12_28 : decode jdk_2529_method_15_code 28 = .ok (.ifCond .ge 38, 3) := by decide +kernel
theorem d12_31 : decode jdk_2529_method_15_code 31 = .ok (.iinc 3 (-1), 3) := by decide +kernel
theorem d12_34 : decode jdk_2529_method_15_code 34 = .ok (.iload_n 3, 1) := by decide +kernel
theorem d12_35 : decode jdk_2529_method_15_code 35 = .ok (.iload_n 1, 1) := by decide +kernel
theorem d12_36 : decode jdk_2529_method_15_code 36 = .ok (.if_icmp .lt 23, 3) := by decide +kernel
theorem d12_39 : decode jdk_2529_method_15_code 39 = .ok (.lload 5, 2) := by decide +kernel
theorem d12_41 : decode jdk_2529_method_15_code 41 = .ok (.aload_n 0, 1) := by decide +kernel
theorem d12_42 : decode jdk_2529_method_15_code 42 = .ok (.iload_n 3, 1) := by decide +kernel
theorem d12_43 : decode jdk_2529_method_15_code 43 = .ok (.laload, 1) := by decide +kernel
theorem d12_44 : decode jdk_2529_method_15_code 44 = .ok (.lcmp, 1) := by decide +kernel
theorem d12_45 : decode jdk_2529_method_15_code 45 = .ok (.ifCond .ge 14, 3) := by decide +kernel
theorem d12_48 : decode jdk_2529_method_15_code 48 = .ok (.aload_n 0, 1) := by decide +kernel
theorem d12_49 : decode jdk_2529_method_15_code 49 = .ok (.iload_n 3, 1) := by decide +kernel
theorem d12_50 : decode jdk_2529_method_15_code 50 = .ok (.iconst 1, 1) := by decide +kernel
theorem d12_51 : decode jdk_2529_method_15_code 51 = .ok (.iadd, 1) := by decide +kernel
theorem d12_52 : decode jdk_2529_method_15_code 52 = .ok (.aload_n 0, 1) := by decide +kernel
theorem d12_53 : decode jdk_2529_method_15_code 53 = .ok (.iload_n 3, 1) := by decide +kernel
theorem d12_54 : decode jdk_2529_method_15_code 54 = .ok (.laload, 1) := by decide +kernel
theorem d12_55 : decode jdk_2529_method_15_code 55 = .ok (.lastore, 1) := by decide +kernel
theorem d12_56 : decode jdk_2529_method_15_code 56 = .ok (.goto (-25), 3) := by decide +kernel
theorem d12_59 : decode jdk_2529_method_15_code 59 = .ok (.aload_n 0, 1) := by decide +kernel
theorem d12_60 : decode jdk_2529_method_15_code 60 = .ok (.iload_n 3, 1) := by decide +kernel
theorem d12_61 : decode jdk_2529_method_15_code 61 = .ok (.iconst 1, 1) := by decide +kernel
theorem d12_62 : decode jdk_2529_method_15_code 62 = .ok (.iadd, 1) := by decide +kernel
theorem d12_63 : decode jdk_2529_method_15_code 63 = .ok (.lload 5, 2) := by decide +kernel
theorem d12_65 : decode jdk_2529_method_15_code 65 = .ok (.lastore, 1) := by decide +kernel
theorem d12_66 : decode jdk_2529_method_15_code 66 = .ok (.goto (-63), 3) := by decide +kernel
theorem d12_69 : decode jdk_2529_method_15_code 69 = .ok (.return_, 1) := by decide +kernel
theorem own_pn12 : plainName "java/util/DualPivotQuicksort" = true := by first | (simp [plainName, overriddenIn]; done) | decide +kernel
theorem own_ef12 (m : MethodId) (x0 : Addr) (x1 : Int32) (x2 : Int32) : entryFrame m #[(.ref x0), (.int x1), (.int x2)] 7 = mkF m 0 #[.val (.ref x0), .val (.int x1), .val (.int x2), .unset, .unset, .unset, .unset] [] := by first | (simp [entryFrame, mkF, argsToLocals, Value.category]; done) | rfl
theorem own_asym {a b : Int64} (h : a < b) : ¬ b < a := by rw [Int64.lt_iff_toInt_lt] at *; omega
abbrev own_l0 (x0 : Addr) (x1 : Int32) (x2 : Int32) (x3 : Int64) : Array Slot := #[.val (.ref x0), .val (.int (0 : Int32)), .val (.int x1), .val (.int (1 : Int32)), .val (.int x2), .val (.long x3), .second]
abbrev own_l1 (x0 : Addr) (x1 : Int32) (x2 : Int32) (x3 : Int64) : Array Slot := #[.val (.ref x0), .val (.int (0 : Int32)), .val (.int x1), .val (.int ((1 : Int32) + (-1 : Int32))), .val (.int x2), .val (.long x3), .second]
abbrev own_l2 (x0 : Addr) (x1 : Int32) (x2 : Int32) (x3 : Int64) : Array Slot := #[.val (.ref x0), .val (.int (0 : Int32)), .val (.int x1), .val (.int (0 : Int32)), .val (.int x2), .val (.long x3), .second]
set_option maxRecDepth 65536 in
set_option maxHeartbeats 40000000 in
theorem own_sh1 {p : Program} {l : Launch} {e : Env} {s : State} {m : MethodId} {args : Array Value} {below : List Frame} {meth : Method} {c : Code} {T0 : State} {locs : List Loc} {Z : State} {n0 : Nat} {h0 : Heap} {C : State → Outcome → Prop} {R : Room} {cells slots : Nat} {ax : Addr} {kk : ClassId} {pn pk : Int32} {qi u0 u1 : Int64} {rest : List Value} (X0 : Stand p l e R s m args below meth c T0 locs cells slots) (hx : p.tables.exec = Jvm.exec) (hZ : Z.Warmed39 s.vm) (hby : c.code = jdk_2529_method_15_code) (e0 : T0.heap = h0) (N0 : Fr n0 locs) (ga : n0 ≤ ax) (hk : (1 : Int32) < pn) (hlt : qi < u0) (V0 : Arv Z h0 ax kk .long pn ((.long u0) :: (.long u1) :: rest) (.long (0 : Int64)))
    (K : ∀ (T' : State) (h' : Heap) (locs' : List Loc), Stand p l e R s m args below meth c T' locs' cells slots → T'.heap = h' → Fr n0 locs' → Keep h0 h' [ax] → Arv Z h' ax kk .long pn ((.long u0) :: (.long u0) :: rest) (.long (0 : Int64)) → ∃ s₂ o, Steps p.tables e below (T'.setTop (mkF m 31 #[.val (.ref ax), .val (.int (0 : Int32)), .val (.int pn), .val (.int (0 : Int32)), .val (.int pk), .val (.long qi), .second] [])) s₂ ∧ C s₂ o) :
    ∃ s₂ o, Steps p.tables e below (T0.setTop (mkF m 31 (own_l0 ax pn pk qi) [])) s₂ ∧ C s₂ o := by
  refine own_pre (A := (T0.setTop (mkF m 55 (own_l2 ax pn pk qi) [(.long u0), (.int (1 : Int32)), (.ref ax)]))) ?_ ?_
  · intro t k
    refine XS.iinc X0.here hx rfl (hb hby d12_31) rfl (l' := (own_l1 ax pn pk qi)) rfl ?_
    show Steps  p.tables e below (T0.setTop (mkF m 34 #[.val (.ref ax), .val (.int (0 : Int32)), .val (.int pn), .val (.int ((1 : Int32) + (-1 : Int32))), .val (.int pk), .val (.long qi), .second] [])) _
    rw [show ((1 : Int32) + (-1 : Int32)) = (0 : Int32) from by decide]
    refine XS.iloadN X0.here hx rfl (hb hby d12_34) rfl ?_
    refine XS.iloadN X0.here hx rfl (hb hby d12_35) rfl ?_
    refine XS.icmpNo X0.here hx rfl (hb hby d12_36) rfl (flt (by decide : ¬ ((0 : Int32) < (0 : Int32)))).1 ?_
    refine XS.lload X0.here hx rfl (hb hby d12_39) rfl ?_
    refine XS.aloadN X0.here hx rfl (hb hby d12_41) rfl rfl ?_
    refine XS.iloadN X0.here hx rfl (hb hby d12_42) rfl ?_
    show Steps p.tables e below (T0.setTop (mkF m 43 (own_l2 ax pn pk qi) [(.int (0 : Int32)), (.ref ax), (.long qi)])) _
    obtain ⟨cl21, Ar21, q21, S21, N21, H21, G21⟩ := id V0
    have hin21 : ¬ ((0 : Int32) < 0 ∨ cl21.slots.size ≤ ((0 : Int32)).toNatClampNeg) := inb_of S21 ⟨by decide, own_ltk hk (by decide)⟩
    refine X0.laload hx (j := (0 : Int32)) (v := (.long u0)) (by rw [e0]; exact Ar21.1) (State.isArrayOf_alike hZ.alike Ar21.2.1) Ar21.2.2 hin21 (H21.at hin21 rfl) (g := (mkF m 43 (own_l2 ax pn pk qi) [(.int (0 : Int32)), (.ref ax), (.long qi)])) rfl rfl (hb hby d12_43) _ ?_
    refine XS.lcmp X0.here hx rfl (hb hby d12_44) rfl ?_
    refine XS.ifNo X0.here hx rfl (hb hby d12_45) rfl ((if0 _ _).trans (tlt ((lw_lt qi u0).mpr hlt)).2.1) ?_
    refine XS.aloadN X0.here hx rfl (hb hby d12_48) rfl rfl ?_
    refine XS.iloadN X0.here hx rfl (hb hby d12_49) rfl ?_
    refine XS.iconst X0.here hx rfl (hb hby d12_50) ?_
    refine XS.iadd X0.here hx rfl (hb hby d12_51) rfl ?_
    show Steps p.tables e below (T0.setTop (mkF m 52 (own_l2 ax pn pk qi) [(.int ((0 : Int32) + (1 : Int32))), (.ref ax)])) _
    rw [show ((0 : Int32) + (1 : Int32)) = (1 : Int32) from by decide]
    refine XS.aloadN X0.here hx rfl (hb hby d12_52) rfl rfl ?_
    refine XS.iloadN X0.here hx rfl (hb hby d12_53) rfl ?_
    show Steps p.tables e below (T0.setTop (mkF m 54 (own_l2 ax pn pk qi) [(.int (0 : Int32)), (.ref ax), (.int (1 : Int32)), (.ref ax)])) _
    obtain ⟨cl22, Ar22, q22, S22, N22, H22, G22⟩ := id V0
    have hin22 : ¬ ((0 : Int32) < 0 ∨ cl22.slots.size ≤ ((0 : Int32)).toNatClampNeg) := inb_of S22 ⟨by decide, own_ltk hk (by decide)⟩
    refine X0.laload hx (j := (0 : Int32)) (v := (.long u0)) (by rw [e0]; exact Ar22.1) (State.isArrayOf_alike hZ.alike Ar22.2.1) Ar22.2.2 hin22 (H22.at hin22 rfl) (g := (mkF m 54 (own_l2 ax pn pk qi) [(.int (0 : Int32)), (.ref ax), (.int (1 : Int32)), (.ref ax)])) rfl rfl (hb hby d12_54) _ ?_
    exact k
  obtain ⟨cl23, Ar23, q23, S23, N23, H23, G23⟩ := V0
  have hin23 : ¬ ((1 : Int32) < 0 ∨ cl23.slots.size ≤ ((1 : Int32)).toNatClampNeg) := inb_of S23 ⟨by decide, own_ltk hk (by decide)⟩
  obtain ⟨T23, h23, X23, e23, W23, st23⟩ := stJ X0 hx hZ e0 Ar23 (j := (1 : Int32)) hin23 (g := (mkF m 55 (own_l2 ax pn pk qi) [(.long u0), (.int (1 : Int32)), (.ref ax)])) rfl rfl (hb hby d12_55)
  have V23 : Arv Z h23 ax kk .long pn ((.long u0) :: (.long u0) :: rest) (.long (0 : Int64)) := Arv.set Ar23 q23 S23 N23 H23 G23 rfl W23 1 rfl (by simp only [List.length_cons]; omega)
  have Kc23 : Keep h0 h23 [ax] := (Keep.refl h0 [ax]).wr W23 (Or.inl (List.mem_of_getElem? (i := 0) rfl))
  have N23 := Fr.snoc X23 N0 ga
  refine own_pre (fun t k => st23 t k) ?_
  refine own_pre (A := (T23.setTop (mkF m 31 (own_l2 ax pn pk qi) []))) ?_ ?_
  · intro t k
    refine XS.goto X23.here hx rfl (pc0 := 56) (pc' := 31) rfl (hb hby d12_56) (by decide) (by decide) ?_
    exact k
  exact K _ _ _ X23 e23 N23 Kc23 V23
abbrev own_l3 (x0 : Addr) (x1 : Int32) (x2 : Int32) (x3 : Int64) : Array Slot := #[.val (.ref x0), .val (.int (0 : Int32)), .val (.int x1), .val (.int (2 : Int32)), .val (.int x2), .val (.long x3), .second]
abbrev own_l4 (x0 : Addr) (x1 : Int32) (x2 : Int32) (x3 : Int64) : Array Slot := #[.val (.ref x0), .val (.int (0 : Int32)), .val (.int x1), .val (.int ((2 : Int32) + (-1 : Int32))), .val (.int x2), .val (.long x3), .second]
set_option maxRecDepth 65536 in
set_option maxHeartbeats 40000000 in
theorem own_sh2 {p : Program} {l : Launch} {e : Env} {s : State} {m : MethodId} {args : Array Value} {below : List Frame} {meth : Method} {c : Code} {T0 : State} {locs : List Loc} {Z : State} {n0 : Nat} {h0 : Heap} {C : State → Outcome → Prop} {R : Room} {cells slots : Nat} {ax : Addr} {kk : ClassId} {pn pk : Int32} {qi u0 u1 u2 : Int64} {rest : List Value} (X0 : Stand p l e R s m args below meth c T0 locs cells slots) (hx : p.tables.exec = Jvm.exec) (hZ : Z.Warmed39 s.vm) (hby : c.code = jdk_2529_method_15_code) (e0 : T0.heap = h0) (N0 : Fr n0 locs) (ga : n0 ≤ ax) (hk : (2 : Int32) < pn) (hlt : qi < u1) (V0 : Arv Z h0 ax kk .long pn ((.long u0) :: (.long u1) :: (.long u2) :: rest) (.long (0 : Int64)))
    (K : ∀ (T' : State) (h' : Heap) (locs' : List Loc), Stand p l e R s m args below meth c T' locs' cells slots → T'.heap = h' → Fr n0 locs' → Keep h0 h' [ax] → Arv Z h' ax kk .long pn ((.long u0) :: (.long u1) :: (.long u1) :: rest) (.long (0 : Int64)) → ∃ s₂ o, Steps p.tables e below (T'.setTop (mkF m 31 #[.val (.ref ax), .val (.int (0 : Int32)), .val (.int pn), .val (.int (1 : Int32)), .val (.int pk), .val (.long qi), .second] [])) s₂ ∧ C s₂ o) :
    ∃ s₂ o, Steps p.tables e below (T0.setTop (mkF m 31 (own_l3 ax pn pk qi) [])) s₂ ∧ C s₂ o := by
  refine own_pre (A := (T0.setTop (mkF m 55 (own_l0 ax pn pk qi) [(.long u1), (.int (2 : Int32)), (.ref ax)]))) ?_ ?_
  · intro t k
    refine XS.iinc X0.here hx rfl (hb hby d12_31) rfl (l' := (own_l4 ax pn pk qi)) rfl ?_
    show Steps  p.tables e below (T0.setTop (mkF m 34 #[.val (.ref ax), .val (.int (0 : Int32)), .val (.int pn), .val (.int ((2 : Int32) + (-1 : Int32))), .val (.int pk), .val (.long qi), .second] [])) _
    rw [show ((2 : Int32) + (-1 : Int32)) = (1 : Int32) from by decide]
    refine XS.iloadN X0.here hx rfl (hb hby d12_34) rfl ?_
    refine XS.iloadN X0.here hx rfl (hb hby d12_35) rfl ?_
    refine XS.icmpNo X0.here hx rfl (hb hby d12_36) rfl (flt (by decide : ¬ ((1 : Int32) < (0 : Int32)))).1 ?_
    refine XS.lload X0.here hx rfl (hb hby d12_39) rfl ?_
    refine XS.aloadN X0.here hx rfl (hb hby d12_41) rfl rfl ?_
    refine XS.iloadN X0.here hx rfl (hb hby d12_42) rfl ?_
    show Steps p.tables e below (T0.setTop (mkF m 43 (own_l0 ax pn pk qi) [(.int (1 : Int32)), (.ref ax), (.long qi)])) _
    obtain ⟨cl24, Ar24, q24, S24, N24, H24, G24⟩ := id V0
    have hin24 : ¬ ((1 : Int32) < 0 ∨ cl24.slots.size ≤ ((1 : Int32)).toNatClampNeg) := inb_of S24 ⟨by decide, own_ltk hk (by decide)⟩
    refine X0.laload hx (j := (1 : Int32)) (v := (.long u1)) (by rw [e0]; exact Ar24.1) (State.isArrayOf_alike hZ.alike Ar24.2.1) Ar24.2.2 hin24 (H24.at hin24 rfl) (g := (mkF m 43 (own_l0 ax pn pk qi) [(.int (1 : Int32)), (.ref ax), (.long qi)])) rfl rfl (hb hby d12_43) _ ?_
    refine XS.lcmp X0.here hx rfl (hb hby d12_44) rfl ?_
    refine XS.ifNo X0.here hx rfl (hb hby d12_45) rfl ((if0 _ _).trans (tlt ((lw_lt qi u1).mpr hlt)).2.1) ?_
    refine XS.aloadN X0.here hx rfl (hb hby d12_48) rfl rfl ?_
    refine XS.iloadN X0.here hx rfl (hb hby d12_49) rfl ?_
    refine XS.iconst X0.here hx rfl (hb hby d12_50) ?_
    refine XS.iadd X0.here hx rfl (hb hby d12_51) rfl ?_
    show Steps p.tables e below (T0.setTop (mkF m 52 (own_l0 ax pn pk qi) [(.int ((1 : Int32) + (1 : Int32))), (.ref ax)])) _
    rw [show ((1 : Int32) + (1 : Int32)) = (2 : Int32) from by decide]
    refine XS.aloadN X0.here hx rfl (hb hby d12_52) rfl rfl ?_
    refine XS.iloadN X0.here hx rfl (hb hby d12_53) rfl ?_
    show Steps p.tables e below (T0.setTop (mkF m 54 (own_l0 ax pn pk qi) [(.int (1 : Int32)), (.ref ax), (.int (2 : Int32)), (.ref ax)])) _
    obtain ⟨cl25, Ar25, q25, S25, N25, H25, G25⟩ := id V0
    have hin25 : ¬ ((1 : Int32) < 0 ∨ cl25.slots.size ≤ ((1 : Int32)).toNatClampNeg) := inb_of S25 ⟨by decide, own_ltk hk (by decide)⟩
    refine X0.laload hx (j := (1 : Int32)) (v := (.long u1)) (by rw [e0]; exact Ar25.1) (State.isArrayOf_alike hZ.alike Ar25.2.1) Ar25.2.2 hin25 (H25.at hin25 rfl) (g := (mkF m 54 (own_l0 ax pn pk qi) [(.int (1 : Int32)), (.ref ax), (.int (2 : Int32)), (.ref ax)])) rfl rfl (hb hby d12_54) _ ?_
    exact k
  obtain ⟨cl26, Ar26, q26, S26, N26, H26, G26⟩ := V0
  have hin26 : ¬ ((2 : Int32) < 0 ∨ cl26.slots.size ≤ ((2 : Int32)).toNatClampNeg) := inb_of S26 ⟨by decide, own_ltk hk (by decide)⟩
  obtain ⟨T26, h26, X26, e26, W26, st26⟩ := stJ X0 hx hZ e0 Ar26 (j := (2 : Int32)) hin26 (g := (mkF m 55 (own_l0 ax pn pk qi) [(.long u1), (.int (2 : Int32)), (.ref ax)])) rfl rfl (hb hby d12_55)
  have V26 : Arv Z h26 ax kk .long pn ((.long u0) :: (.long u1) :: (.long u1) :: rest) (.long (0 : Int64)) := Arv.set Ar26 q26 S26 N26 H26 G26 rfl W26 2 rfl (by simp only [List.length_cons]; omega)
  have Kc26 : Keep h0 h26 [ax] := (Keep.refl h0 [ax]).wr W26 (Or.inl (List.mem_of_getElem? (i := 0) rfl))
  have N26 := Fr.snoc X26 N0 ga
  refine own_pre (fun t k => st26 t k) ?_
  refine own_pre (A := (T26.setTop (mkF m 31 (own_l0 ax pn pk qi) []))) ?_ ?_
  · intro t k
    refine XS.goto X26.here hx rfl (pc0 := 56) (pc' := 31) rfl (hb hby d12_56) (by decide) (by decide) ?_
    exact k
  exact K _ _ _ X26 e26 N26 Kc26 V26
abbrev own_l5 (x0 : Addr) (x1 : Int32) (x2 : Int32) (x3 : Int64) : Array Slot := #[.val (.ref x0), .val (.int (0 : Int32)), .val (.int x1), .val (.int (3 : Int32)), .val (.int x2), .val (.long x3), .second]
abbrev own_l6 (x0 : Addr) (x1 : Int32) (x2 : Int32) (x3 : Int64) : Array Slot := #[.val (.ref x0), .val (.int (0 : Int32)), .val (.int x1), .val (.int ((3 : Int32) + (-1 : Int32))), .val (.int x2), .val (.long x3), .second]
set_option maxRecDepth 65536 in
set_option maxHeartbeats 40000000 in
theorem own_sh3 {p : Program} {l : Launch} {e : Env} {s : State} {m : MethodId} {args : Array Value} {below : List Frame} {meth : Method} {c : Code} {T0 : State} {locs : List Loc} {Z : State} {n0 : Nat} {h0 : Heap} {C : State → Outcome → Prop} {R : Room} {cells slots : Nat} {ax : Addr} {kk : ClassId} {pn pk : Int32} {qi u0 u1 u2 u3 : Int64} {rest : List Value} (X0 : Stand p l e R s m args below meth c T0 locs cells slots) (hx : p.tables.exec = Jvm.exec) (hZ : Z.Warmed39 s.vm) (hby : c.code = jdk_2529_method_15_code) (e0 : T0.heap = h0) (N0 : Fr n0 locs) (ga : n0 ≤ ax) (hk : (3 : Int32) < pn) (hlt : qi < u2) (V0 : Arv Z h0 ax kk .long pn ((.long u0) :: (.long u1) :: (.long u2) :: (.long u3) :: rest) (.long (0 : Int64)))
    (K : ∀ (T' : State) (h' : Heap) (locs' : List Loc), Stand p l e R s m args below meth c T' locs' cells slots → T'.heap = h' → Fr n0 locs' → Keep h0 h' [ax] → Arv Z h' ax kk .long pn ((.long u0) :: (.long u1) :: (.long u2) :: (.long u2) :: rest) (.long (0 : Int64)) → ∃ s₂ o, Steps p.tables e below (T'.setTop (mkF m 31 #[.val (.ref ax), .val (.int (0 : Int32)), .val (.int pn), .val (.int (2 : Int32)), .val (.int pk), .val (.long qi), .second] [])) s₂ ∧ C s₂ o) :
    ∃ s₂ o, Steps p.tables e below (T0.setTop (mkF m 31 (own_l5 ax pn pk qi) [])) s₂ ∧ C s₂ o := by
  refine own_pre (A := (T0.setTop (mkF m 55 (own_l3 ax pn pk qi) [(.long u2), (.int (3 : Int32)), (.ref ax)]))) ?_ ?_
  · intro t k
    refine XS.iinc X0.here hx rfl (hb hby d12_31) rfl (l' := (own_l6 ax pn pk qi)) rfl ?_
    show Steps  p.tables e below (T0.setTop (mkF m 34 #[.val (.ref ax), .val (.int (0 : Int32)), .val (.int pn), .val (.int ((3 : Int32) + (-1 : Int32))), .val (.int pk), .val (.long qi), .second] [])) _
    rw [show ((3 : Int32) + (-1 : Int32)) = (2 : Int32) from by decide]
    refine XS.iloadN X0.here hx rfl (hb hby d12_34) rfl ?_
    refine XS.iloadN X0.here hx rfl (hb hby d12_35) rfl ?_
    refine XS.icmpNo X0.here hx rfl (hb hby d12_36) rfl (flt (by decide : ¬ ((2 : Int32) < (0 : Int32)))).1 ?_
    refine XS.lload X0.here hx rfl (hb hby d12_39) rfl ?_
    refine XS.aloadN X0.here hx rfl (hb hby d12_41) rfl rfl ?_
    refine XS.iloadN X0.here hx rfl (hb hby d12_42) rfl ?_
    show Steps p.tables e below (T0.setTop (mkF m 43 (own_l3 ax pn pk qi) [(.int (2 : Int32)), (.ref ax), (.long qi)])) _
    obtain ⟨cl27, Ar27, q27, S27, N27, H27, G27⟩ := id V0
    have hin27 : ¬ ((2 : Int32) < 0 ∨ cl27.slots.size ≤ ((2 : Int32)).toNatClampNeg) := inb_of S27 ⟨by decide, own_ltk hk (by decide)⟩
    refine X0.laload hx (j := (2 : Int32)) (v := (.long u2)) (by rw [e0]; exact Ar27.1) (State.isArrayOf_alike hZ.alike Ar27.2.1) Ar27.2.2 hin27 (H27.at hin27 rfl) (g := (mkF m 43 (own_l3 ax pn pk qi) [(.int (2 : Int32)), (.ref ax), (.long qi)])) rfl rfl (hb hby d12_43) _ ?_
    refine XS.lcmp X0.here hx rfl (hb hby d12_44) rfl ?_
    refine XS.ifNo X0.here hx rfl (hb hby d12_45) rfl ((if0 _ _).trans (tlt ((lw_lt qi u2).mpr hlt)).2.1) ?_
    refine XS.aloadN X0.here hx rfl (hb hby d12_48) rfl rfl ?_
    refine XS.iloadN X0.here hx rfl (hb hby d12_49) rfl ?_
    refine XS.iconst X0.here hx rfl (hb hby d12_50) ?_
    refine XS.iadd X0.here hx rfl (hb hby d12_51) rfl ?_
    show Steps p.tables e below (T0.setTop (mkF m 52 (own_l3 ax pn pk qi) [(.int ((2 : Int32) + (1 : Int32))), (.ref ax)])) _
    rw [show ((2 : Int32) + (1 : Int32)) = (3 : Int32) from by decide]
    refine XS.aloadN X0.here hx rfl (hb hby d12_52) rfl rfl ?_
    refine XS.iloadN X0.here hx rfl (hb hby d12_53) rfl ?_
    show Steps p.tables e below (T0.setTop (mkF m 54 (own_l3 ax pn pk qi) [(.int (2 : Int32)), (.ref ax), (.int (3 : Int32)), (.ref ax)])) _
    obtain ⟨cl28, Ar28, q28, S28, N28, H28, G28⟩ := id V0
    have hin28 : ¬ ((2 : Int32) < 0 ∨ cl28.slots.size ≤ ((2 : Int32)).toNatClampNeg) := inb_of S28 ⟨by decide, own_ltk hk (by decide)⟩
    refine X0.laload hx (j := (2 : Int32)) (v := (.long u2)) (by rw [e0]; exact Ar28.1) (State.isArrayOf_alike hZ.alike Ar28.2.1) Ar28.2.2 hin28 (H28.at hin28 rfl) (g := (mkF m 54 (own_l3 ax pn pk qi) [(.int (2 : Int32)), (.ref ax), (.int (3 : Int32)), (.ref ax)])) rfl rfl (hb hby d12_54) _ ?_
    exact k
  obtain ⟨cl29, Ar29, q29, S29, N29, H29, G29⟩ := V0
  have hin29 : ¬ ((3 : Int32) < 0 ∨ cl29.slots.size ≤ ((3 : Int32)).toNatClampNeg) := inb_of S29 ⟨by decide, own_ltk hk (by decide)⟩
  obtain ⟨T29, h29, X29, e29, W29, st29⟩ := stJ X0 hx hZ e0 Ar29 (j := (3 : Int32)) hin29 (g := (mkF m 55 (own_l3 ax pn pk qi) [(.long u2), (.int (3 : Int32)), (.ref ax)])) rfl rfl (hb hby d12_55)
  have V29 : Arv Z h29 ax kk .long pn ((.long u0) :: (.long u1) :: (.long u2) :: (.long u2) :: rest) (.long (0 : Int64)) := Arv.set Ar29 q29 S29 N29 H29 G29 rfl W29 3 rfl (by simp only [List.length_cons]; omega)
  have Kc29 : Keep h0 h29 [ax] := (Keep.refl h0 [ax]).wr W29 (Or.inl (List.mem_of_getElem? (i := 0) rfl))
  have N29 := Fr.snoc X29 N0 ga
  refine own_pre (fun t k => st29 t k) ?_
  refine own_pre (A := (T29.setTop (mkF m 31 (own_l3 ax pn pk qi) []))) ?_ ?_
  · intro t k
    refine XS.goto X29.here hx rfl (pc0 := 56) (pc' := 31) rfl (hb hby d12_56) (by decide) (by decide) ?_
    exact k
  exact K _ _ _ X29 e29 N29 Kc29 V29
abbrev own_l7 (x0 : Addr) (x1 : Int32) (x2 : Int32) (x3 : Int64) : Array Slot := #[.val (.ref x0), .val (.int (0 : Int32)), .val (.int x1), .val (.int (4 : Int32)), .val (.int x2), .val (.long x3), .second]
abbrev own_l8 (x0 : Addr) (x1 : Int32) (x2 : Int32) (x3 : Int64) : Array Slot := #[.val (.ref x0), .val (.int (0 : Int32)), .val (.int x1), .val (.int ((4 : Int32) + (-1 : Int32))), .val (.int x2), .val (.long x3), .second]
set_option maxRecDepth 65536 in
set_option maxHeartbeats 40000000 in
theorem own_sh4 {p : Program} {l : Launch} {e : Env} {s : State} {m : MethodId} {args : Array Value} {below : List Frame} {meth : Method} {c : Code} {T0 : State} {locs : List Loc} {Z : State} {n0 : Nat} {h0 : Heap} {C : State → Outcome → Prop} {R : Room} {cells slots : Nat} {ax : Addr} {kk : ClassId} {pn pk : Int32} {qi u0 u1 u2 u3 u4 : Int64} {rest : List Value} (X0 : Stand p l e R s m args below meth c T0 locs cells slots) (hx : p.tables.exec = Jvm.exec) (hZ : Z.Warmed39 s.vm) (hby : c.code = jdk_2529_method_15_code) (e0 : T0.heap = h0) (N0 : Fr n0 locs) (ga : n0 ≤ ax) (hk : (4 : Int32) < pn) (hlt : qi < u3) (V0 : Arv Z h0 ax kk .long pn ((.long u0) :: (.long u1) :: (.long u2) :: (.long u3) :: (.long u4) :: rest) (.long (0 : Int64)))
    (K : ∀ (T' : State) (h' : Heap) (locs' : List Loc), Stand p l e R s m args below meth c T' locs' cells slots → T'.heap = h' → Fr n0 locs' → Keep h0 h' [ax] → Arv Z h' ax kk .long pn ((.long u0) :: (.long u1) :: (.long u2) :: (.long u3) :: (.long u3) :: rest) (.long (0 : Int64)) → ∃ s₂ o, Steps p.tables e below (T'.setTop (mkF m 31 #[.val (.ref ax), .val (.int (0 : Int32)), .val (.int pn), .val (.int (3 : Int32)), .val (.int pk), .val (.long qi), .second] [])) s₂ ∧ C s₂ o) :
    ∃ s₂ o, Steps p.tables e below (T0.setTop (mkF m 31 (own_l7 ax pn pk qi) [])) s₂ ∧ C s₂ o := by
  refine own_pre (A := (T0.setTop (mkF m 55 (own_l5 ax pn pk qi) [(.long u3), (.int (4 : Int32)), (.ref ax)]))) ?_ ?_
  · intro t k
    refine XS.iinc X0.here hx rfl (hb hby d12_31) rfl (l' := (own_l8 ax pn pk qi)) rfl ?_
    show Steps  p.tables e below (T0.setTop (mkF m 34 #[.val (.ref ax), .val (.int (0 : Int32)), .val (.int pn), .val (.int ((4 : Int32) + (-1 : Int32))), .val (.int pk), .val (.long qi), .second] [])) _
    rw [show ((4 : Int32) + (-1 : Int32)) = (3 : Int32) from by decide]
    refine XS.iloadN X0.here hx rfl (hb hby d12_34) rfl ?_
    refine XS.iloadN X0.here hx rfl (hb hby d12_35) rfl ?_
    refine XS.icmpNo X0.here hx rfl (hb hby d12_36) rfl (flt (by decide : ¬ ((3 : Int32) < (0 : Int32)))).1 ?_
    refine XS.lload X0.here hx rfl (hb hby d12_39) rfl ?_
    refine XS.aloadN X0.here hx rfl (hb hby d12_41) rfl rfl ?_
    refine XS.iloadN X0.here hx rfl (hb hby d12_42) rfl ?_
    show Steps p.tables e below (T0.setTop (mkF m 43 (own_l5 ax pn pk qi) [(.int (3 : Int32)), (.ref ax), (.long qi)])) _
    obtain ⟨cl30, Ar30, q30, S30, N30, H30, G30⟩ := id V0
    have hin30 : ¬ ((3 : Int32) < 0 ∨ cl30.slots.size ≤ ((3 : Int32)).toNatClampNeg) := inb_of S30 ⟨by decide, own_ltk hk (by decide)⟩
    refine X0.laload hx (j := (3 : Int32)) (v := (.long u3)) (by rw [e0]; exact Ar30.1) (State.isArrayOf_alike hZ.alike Ar30.2.1) Ar30.2.2 hin30 (H30.at hin30 rfl) (g := (mkF m 43 (own_l5 ax pn pk qi) [(.int (3 : Int32)), (.ref ax), (.long qi)])) rfl rfl (hb hby d12_43) _ ?_
    refine XS.lcmp X0.here hx rfl (hb hby d12_44) rfl ?_
    refine XS.ifNo X0.here hx rfl (hb hby d12_45) rfl ((if0 _ _).trans (tlt ((lw_lt qi u3).mpr hlt)).2.1) ?_
    refine XS.aloadN X0.here hx rfl (hb hby d12_48) rfl rfl ?_
    refine XS.iloadN X0.here hx rfl (hb hby d12_49) rfl ?_
    refine XS.iconst X0.here hx rfl (hb hby d12_50) ?_
    refine XS.iadd X0.here hx rfl (hb hby d12_51) rfl ?_
    show Steps p.tables e below (T0.setTop (mkF m 52 (own_l5 ax pn pk qi) [(.int ((3 : Int32) + (1 : Int32))), (.ref ax)])) _
    rw [show ((3 : Int32) + (1 : Int32)) = (4 : Int32) from by decide]
    refine XS.aloadN X0.here hx rfl (hb hby d12_52) rfl rfl ?_
    refine XS.iloadN X0.here hx rfl (hb hby d12_53) rfl ?_
    show Steps p.tables e below (T0.setTop (mkF m 54 (own_l5 ax pn pk qi) [(.int (3 : Int32)), (.ref ax), (.int (4 : Int32)), (.ref ax)])) _
    obtain ⟨cl31, Ar31, q31, S31, N31, H31, G31⟩ := id V0
    have hin31 : ¬ ((3 : Int32) < 0 ∨ cl31.slots.size ≤ ((3 : Int32)).toNatClampNeg) := inb_of S31 ⟨by decide, own_ltk hk (by decide)⟩
    refine X0.laload hx (j := (3 : Int32)) (v := (.long u3)) (by rw [e0]; exact Ar31.1) (State.isArrayOf_alike hZ.alike Ar31.2.1) Ar31.2.2 hin31 (H31.at hin31 rfl) (g := (mkF m 54 (own_l5 ax pn pk qi) [(.int (3 : Int32)), (.ref ax), (.int (4 : Int32)), (.ref ax)])) rfl rfl (hb hby d12_54) _ ?_
    exact k
  obtain ⟨cl32, Ar32, q32, S32, N32, H32, G32⟩ := V0
  have hin32 : ¬ ((4 : Int32) < 0 ∨ cl32.slots.size ≤ ((4 : Int32)).toNatClampNeg) := inb_of S32 ⟨by decide, own_ltk hk (by decide)⟩
  obtain ⟨T32, h32, X32, e32, W32, st32⟩ := stJ X0 hx hZ e0 Ar32 (j := (4 : Int32)) hin32 (g := (mkF m 55 (own_l5 ax pn pk qi) [(.long u3), (.int (4 : Int32)), (.ref ax)])) rfl rfl (hb hby d12_55)
  have V32 : Arv Z h32 ax kk .long pn ((.long u0) :: (.long u1) :: (.long u2) :: (.long u3) :: (.long u3) :: rest) (.long (0 : Int64)) := Arv.set Ar32 q32 S32 N32 H32 G32 rfl W32 4 rfl (by simp only [List.length_cons]; omega)
  have Kc32 : Keep h0 h32 [ax] := (Keep.refl h0 [ax]).wr W32 (Or.inl (List.mem_of_getElem? (i := 0) rfl))
  have N32 := Fr.snoc X32 N0 ga
  refine own_pre (fun t k => st32 t k) ?_
  refine own_pre (A := (T32.setTop (mkF m 31 (own_l5 ax pn pk qi) []))) ?_ ?_
  · intro t k
    refine XS.goto X32.here hx rfl (pc0 := 56) (pc' := 31) rfl (hb hby d12_56) (by decide) (by decide) ?_
    exact k
  exact K _ _ _ X32 e32 N32 Kc32 V32
abbrev own_l9 (x0 : Addr) (x1 : Int32) (x2 : Int32) (x3 : Int64) : Array Slot := #[.val (.ref x0), .val (.int (0 : Int32)), .val (.int x1), .val (.int (5 : Int32)), .val (.int x2), .val (.long x3), .second]
abbrev own_l10 (x0 : Addr) (x1 : Int32) (x2 : Int32) (x3 : Int64) : Array Slot := #[.val (.ref x0), .val (.int (0 : Int32)), .val (.int x1), .val (.int ((5 : Int32) + (-1 : Int32))), .val (.int x2), .val (.long x3), .second]
set_option maxRecDepth 65536 in
set_option maxHeartbeats 40000000 in
theorem own_sh5 {p : Program} {l : Launch} {e : Env} {s : State} {m : MethodId} {args : Array Value} {below : List Frame} {meth : Method} {c : Code} {T0 : State} {locs : List Loc} {Z : State} {n0 : Nat} {h0 : Heap} {C : State → Outcome → Prop} {R : Room} {cells slots : Nat} {ax : Addr} {kk : ClassId} {pn pk : Int32} {qi u0 u1 u2 u3 u4 u5 : Int64} {rest : List Value} (X0 : Stand p l e R s m args below meth c T0 locs cells slots) (hx : p.tables.exec = Jvm.exec) (hZ : Z.Warmed39 s.vm) (hby : c.code = jdk_2529_method_15_code) (e0 : T0.heap = h0) (N0 : Fr n0 locs) (ga : n0 ≤ ax) (hk : (5 : Int32) < pn) (hlt : qi < u4) (V0 : Arv Z h0 ax kk .long pn ((.long u0) :: (.long u1) :: (.long u2) :: (.long u3) :: (.long u4) :: (.long u5) :: rest) (.long (0 : Int64)))
    (K : ∀ (T' : State) (h' : Heap) (locs' : List Loc), Stand p l e R s m args below meth c T' locs' cells slots → T'.heap = h' → Fr n0 locs' → Keep h0 h' [ax] → Arv Z h' ax kk .long pn ((.long u0) :: (.long u1) :: (.long u2) :: (.long u3) :: (.long u4) :: (.long u4) :: rest) (.long (0 : Int64)) → ∃ s₂ o, Steps p.tables e below (T'.setTop (mkF m 31 #[.val (.ref ax), .val (.int (0 : Int32)), .val (.int pn), .val (.int (4 : Int32)), .val (.int pk), .val (.long qi), .second] [])) s₂ ∧ C s₂ o) :
    ∃ s₂ o, Steps p.tables e below (T0.setTop (mkF m 31 (own_l9 ax pn pk qi) [])) s₂ ∧ C s₂ o := by
  refine own_pre (A := (T0.setTop (mkF m 55 (own_l7 ax pn pk qi) [(.long u4), (.int (5 : Int32)), (.ref ax)]))) ?_ ?_
  · intro t k
    refine XS.iinc X0.here hx rfl (hb hby d12_31) rfl (l' := (own_l10 ax pn pk qi)) rfl ?_
    show Steps  p.tables e below (T0.setTop (mkF m 34 #[.val (.ref ax), .val (.int (0 : Int32)), .val (.int pn), .val (.int ((5 : Int32) + (-1 : Int32))), .val (.int pk), .val (.long qi), .second] [])) _
    rw [show ((5 : Int32) + (-1 : Int32)) = (4 : Int32) from by decide]
    refine XS.iloadN X0.here hx rfl (hb hby d12_34) rfl ?_
    refine XS.iloadN X0.here hx rfl (hb hby d12_35) rfl ?_
    refine XS.icmpNo X0.here hx rfl (hb hby d12_36) rfl (flt (by decide : ¬ ((4 : Int32) < (0 : Int32)))).1 ?_
    refine XS.lload X0.here hx rfl (hb hby d12_39) rfl ?_
    refine XS.aloadN X0.here hx rfl (hb hby d12_41) rfl rfl ?_
    refine XS.iloadN X0.here hx rfl (hb hby d12_42) rfl ?_
    show Steps p.tables e below (T0.setTop (mkF m 43 (own_l7 ax pn pk qi) [(.int (4 : Int32)), (.ref ax), (.long qi)])) _
    obtain ⟨cl33, Ar33, q33, S33, N33, H33, G33⟩ := id V0
    have hin33 : ¬ ((4 : Int32) < 0 ∨ cl33.slots.size ≤ ((4 : Int32)).toNatClampNeg) := inb_of S33 ⟨by decide, own_ltk hk (by decide)⟩
    refine X0.laload hx (j := (4 : Int32)) (v := (.long u4)) (by rw [e0]; exact Ar33.1) (State.isArrayOf_alike hZ.alike Ar33.2.1) Ar33.2.2 hin33 (H33.at hin33 rfl) (g := (mkF m 43 (own_l7 ax pn pk qi) [(.int (4 : Int32)), (.ref ax), (.long qi)])) rfl rfl (hb hby d12_43) _ ?_
    refine XS.lcmp X0.here hx rfl (hb hby d12_44) rfl ?_
    refine XS.ifNo X0.here hx rfl (hb hby d12_45) rfl ((if0 _ _).trans (tlt ((lw_lt qi u4).mpr hlt)).2.1) ?_
    refine XS.aloadN X0.here hx rfl (hb hby d12_48) rfl rfl ?_
    refine XS.iloadN X0.here hx rfl (hb hby d12_49) rfl ?_
    refine XS.iconst X0.here hx rfl (hb hby d12_50) ?_
    refine XS.iadd X0.here hx rfl (hb hby d12_51) rfl ?_
    show Steps p.tables e below (T0.setTop (mkF m 52 (own_l7 ax pn pk qi) [(.int ((4 : Int32) + (1 : Int32))), (.ref ax)])) _
    rw [show ((4 : Int32) + (1 : Int32)) = (5 : Int32) from by decide]
    refine XS.aloadN X0.here hx rfl (hb hby d12_52) rfl rfl ?_
    refine XS.iloadN X0.here hx rfl (hb hby d12_53) rfl ?_
    show Steps p.tables e below (T0.setTop (mkF m 54 (own_l7 ax pn pk qi) [(.int (4 : Int32)), (.ref ax), (.int (5 : Int32)), (.ref ax)])) _
    obtain ⟨cl34, Ar34, q34, S34, N34, H34, G34⟩ := id V0
    have hin34 : ¬ ((4 : Int32) < 0 ∨ cl34.slots.size ≤ ((4 : Int32)).toNatClampNeg) := inb_of S34 ⟨by decide, own_ltk hk (by decide)⟩
    refine X0.laload hx (j := (4 : Int32)) (v := (.long u4)) (by rw [e0]; exact Ar34.1) (State.isArrayOf_alike hZ.alike Ar34.2.1) Ar34.2.2 hin34 (H34.at hin34 rfl) (g := (mkF m 54 (own_l7 ax pn pk qi) [(.int (4 : Int32)), (.ref ax), (.int (5 : Int32)), (.ref ax)])) rfl rfl (hb hby d12_54) _ ?_
    exact k
  obtain ⟨cl35, Ar35, q35, S35, N35, H35, G35⟩ := V0
  have hin35 : ¬ ((5 : Int32) < 0 ∨ cl35.slots.size ≤ ((5 : Int32)).toNatClampNeg) := inb_of S35 ⟨by decide, own_ltk hk (by decide)⟩
  obtain ⟨T35, h35, X35, e35, W35, st35⟩ := stJ X0 hx hZ e0 Ar35 (j := (5 : Int32)) hin35 (g := (mkF m 55 (own_l7 ax pn pk qi) [(.long u4), (.int (5 : Int32)), (.ref ax)])) rfl rfl (hb hby d12_55)
  have V35 : Arv Z h35 ax kk .long pn ((.long u0) :: (.long u1) :: (.long u2) :: (.long u3) :: (.long u4) :: (.long u4) :: rest) (.long (0 : Int64)) := Arv.set Ar35 q35 S35 N35 H35 G35 rfl W35 5 rfl (by simp only [List.length_cons]; omega)
  have Kc35 : Keep h0 h35 [ax] := (Keep.refl h0 [ax]).wr W35 (Or.inl (List.mem_of_getElem? (i := 0) rfl))
  have N35 := Fr.snoc X35 N0 ga
  refine own_pre (fun t k => st35 t k) ?_
  refine own_pre (A := (T35.setTop (mkF m 31 (own_l7 ax pn pk qi) []))) ?_ ?_
  · intro t k
    refine XS.goto X35.here hx rfl (pc0 := 56) (pc' := 31) rfl (hb hby d12_56) (by decide) (by decide) ?_
    exact k
  exact K _ _ _ X35 e35 N35 Kc35 V35
abbrev own_l11 (x0 : Addr) (x1 : Int32) (x2 : Int32) (x3 : Int64) : Array Slot := #[.val (.ref x0), .val (.int (0 : Int32)), .val (.int x1), .val (.int (6 : Int32)), .val (.int x2), .val (.long x3), .second]
abbrev own_l12 (x0 : Addr) (x1 : Int32) (x2 : Int32) (x3 : Int64) : Array Slot := #[.val (.ref x0), .val (.int (0 : Int32)), .val (.int x1), .val (.int ((6 : Int32) + (-1 : Int32))), .val (.int x2), .val (.long x3), .second]
set_option maxRecDepth 65536 in
set_option maxHeartbeats 40000000 in
theorem own_sh6 {p : Program} {l : Launch} {e : Env} {s : State} {m : MethodId} {args : Array Value} {below : List Frame} {meth : Method} {c : Code} {T0 : State} {locs : List Loc} {Z : State} {n0 : Nat} {h0 : Heap} {C : State → Outcome → Prop} {R : Room} {cells slots : Nat} {ax : Addr} {kk : ClassId} {pn pk : Int32} {qi u0 u1 u2 u3 u4 u5 u6 : Int64} {rest : List Value} (X0 : Stand p l e R s m args below meth c T0 locs cells slots) (hx : p.tables.exec = Jvm.exec) (hZ : Z.Warmed39 s.vm) (hby : c.code = jdk_2529_method_15_code) (e0 : T0.heap = h0) (N0 : Fr n0 locs) (ga : n0 ≤ ax) (hk : (6 : Int32) < pn) (hlt : qi < u5) (V0 : Arv Z h0 ax kk .long pn ((.long u0) :: (.long u1) :: (.long u2) :: (.long u3) :: (.long u4) :: (.long u5) :: (.long u6) :: rest) (.long (0 : Int64)))
    (K : ∀ (T' : State) (h' : Heap) (locs' : List Loc), Stand p l e R s m args below meth c T' locs' cells slots → T'.heap = h' → Fr n0 locs' → Keep h0 h' [ax] → Arv Z h' ax kk .long pn ((.long u0) :: (.long u1) :: (.long u2) :: (.long u3) :: (.long u4) :: (.long u5) :: (.long u5) :: rest) (.long (0 : Int64)) → ∃ s₂ o, Steps p.tables e below (T'.setTop (mkF m 31 #[.val (.ref ax), .val (.int (0 : Int32)), .val (.int pn), .val (.int (5 : Int32)), .val (.int pk), .val (.long qi), .second] [])) s₂ ∧ C s₂ o) :
    ∃ s₂ o, Steps p.tables e below (T0.setTop (mkF m 31 (own_l11 ax pn pk qi) [])) s₂ ∧ C s₂ o := by
  refine own_pre (A := (T0.setTop (mkF m 55 (own_l9 ax pn pk qi) [(.long u5), (.int (6 : Int32)), (.ref ax)]))) ?_ ?_
  · intro t k
    refine XS.iinc X0.here hx rfl (hb hby d12_31) rfl (l' := (own_l12 ax pn pk qi)) rfl ?_
    show Steps  p.tables e below (T0.setTop (mkF m 34 #[.val (.ref ax), .val (.int (0 : Int32)), .val (.int pn), .val (.int ((6 : Int32) + (-1 : Int32))), .val (.int pk), .val (.long qi), .second] [])) _
    rw [show ((6 : Int32) + (-1 : Int32)) = (5 : Int32) from by decide]
    refine XS.iloadN X0.here hx rfl (hb hby d12_34) rfl ?_
    refine XS.iloadN X0.here hx rfl (hb hby d12_35) rfl ?_
    refine XS.icmpNo X0.here hx rfl (hb hby d12_36) rfl (flt (by decide : ¬ ((5 : Int32) < (0 : Int32)))).1 ?_
    refine XS.lload X0.here hx rfl (hb hby d12_39) rfl ?_
    refine XS.aloadN X0.here hx rfl (hb hby d12_41) rfl rfl ?_
    refine XS.iloadN X0.here hx rfl (hb hby d12_42) rfl ?_
    show Steps p.tables e below (T0.setTop (mkF m 43 (own_l9 ax pn pk qi) [(.int (5 : Int32)), (.ref ax), (.long qi)])) _
    obtain ⟨cl36, Ar36, q36, S36, N36, H36, G36⟩ := id V0
    have hin36 : ¬ ((5 : Int32) < 0 ∨ cl36.slots.size ≤ ((5 : Int32)).toNatClampNeg) := inb_of S36 ⟨by decide, own_ltk hk (by decide)⟩
    refine X0.laload hx (j := (5 : Int32)) (v := (.long u5)) (by rw [e0]; exact Ar36.1) (State.isArrayOf_alike hZ.alike Ar36.2.1) Ar36.2.2 hin36 (H36.at hin36 rfl) (g := (mkF m 43 (own_l9 ax pn pk qi) [(.int (5 : Int32)), (.ref ax), (.long qi)])) rfl rfl (hb hby d12_43) _ ?_
    refine XS.lcmp X0.here hx rfl (hb hby d12_44) rfl ?_
    refine XS.ifNo X0.here hx rfl (hb hby d12_45) rfl ((if0 _ _).trans (tlt ((lw_lt qi u5).mpr hlt)).2.1) ?_
    refine XS.aloadN X0.here hx rfl (hb hby d12_48) rfl rfl ?_
    refine XS.iloadN X0.here hx rfl (hb hby d12_49) rfl ?_
    refine XS.iconst X0.here hx rfl (hb hby d12_50) ?_
    refine XS.iadd X0.here hx rfl (hb hby d12_51) rfl ?_
    show Steps p.tables e below (T0.setTop (mkF m 52 (own_l9 ax pn pk qi) [(.int ((5 : Int32) + (1 : Int32))), (.ref ax)])) _
    rw [show ((5 : Int32) + (1 : Int32)) = (6 : Int32) from by decide]
    refine XS.aloadN X0.here hx rfl (hb hby d12_52) rfl rfl ?_
    refine XS.iloadN X0.here hx rfl (hb hby d12_53) rfl ?_
    show Steps p.tables e below (T0.setTop (mkF m 54 (own_l9 ax pn pk qi) [(.int (5 : Int32)), (.ref ax), (.int (6 : Int32)), (.ref ax)])) _
    obtain ⟨cl37, Ar37, q37, S37, N37, H37, G37⟩ := id V0
    have hin37 : ¬ ((5 : Int32) < 0 ∨ cl37.slots.size ≤ ((5 : Int32)).toNatClampNeg) := inb_of S37 ⟨by decide, own_ltk hk (by decide)⟩
    refine X0.laload hx (j := (5 : Int32)) (v := (.long u5)) (by rw [e0]; exact Ar37.1) (State.isArrayOf_alike hZ.alike Ar37.2.1) Ar37.2.2 hin37 (H37.at hin37 rfl) (g := (mkF m 54 (own_l9 ax pn pk qi) [(.int (5 : Int32)), (.ref ax), (.int (6 : Int32)), (.ref ax)])) rfl rfl (hb hby d12_54) _ ?_
    exact k
  obtain ⟨cl38, Ar38, q38, S38, N38, H38, G38⟩ := V0
  have hin38 : ¬ ((6 : Int32) < 0 ∨ cl38.slots.size ≤ ((6 : Int32)).toNatClampNeg) := inb_of S38 ⟨by decide, own_ltk hk (by decide)⟩
  obtain ⟨T38, h38, X38, e38, W38, st38⟩ := stJ X0 hx hZ e0 Ar38 (j := (6 : Int32)) hin38 (g := (mkF m 55 (own_l9 ax pn pk qi) [(.long u5), (.int (6 : Int32)), (.ref ax)])) rfl rfl (hb hby d12_55)
  have V38 : Arv Z h38 ax kk .long pn ((.long u0) :: (.long u1) :: (.long u2) :: (.long u3) :: (.long u4) :: (.long u5) :: (.long u5) :: rest) (.long (0 : Int64)) := Arv.set Ar38 q38 S38 N38 H38 G38 rfl W38 6 rfl (by simp only [List.length_cons]; omega)
  have Kc38 : Keep h0 h38 [ax] := (Keep.refl h0 [ax]).wr W38 (Or.inl (List.mem_of_getElem? (i := 0) rfl))
  have N38 := Fr.snoc X38 N0 ga
  refine own_pre (fun t k => st38 t k) ?_
  refine own_pre (A := (T38.setTop (mkF m 31 (own_l9 ax pn pk qi) []))) ?_ ?_
  · intro t k
    refine XS.goto X38.here hx rfl (pc0 := 56) (pc' := 31) rfl (hb hby d12_56) (by decide) (by decide) ?_
    exact k
  exact K _ _ _ X38 e38 N38 Kc38 V38
abbrev own_l13 (x0 : Addr) (x1 : Int32) (x2 : Int32) (x3 : Int64) : Array Slot := #[.val (.ref x0), .val (.int (0 : Int32)), .val (.int x1), .val (.int (7 : Int32)), .val (.int x2), .val (.long x3), .second]
abbrev own_l14 (x0 : Addr) (x1 : Int32) (x2 : Int32) (x3 : Int64) : Array Slot := #[.val (.ref x0), .val (.int (0 : Int32)), .val (.int x1), .val (.int ((7 : Int32) + (-1 : Int32))), .val (.int x2), .val (.long x3), .second]
set_option maxRecDepth 65536 in
set_option maxHeartbeats 40000000 in
theorem own_sh7 {p : Program} {l : Launch} {e : Env} {s : State} {m : MethodId} {args : Array Value} {below : List Frame} {meth : Method} {c : Code} {T0 : State} {locs : List Loc} {Z : State} {n0 : Nat} {h0 : Heap} {C : State → Outcome → Prop} {R : Room} {cells slots : Nat} {ax : Addr} {kk : ClassId} {pn pk : Int32} {qi u0 u1 u2 u3 u4 u5 u6 u7 : Int64} {rest : List Value} (X0 : Stand p l e R s m args below meth c T0 locs cells slots) (hx : p.tables.exec = Jvm.exec) (hZ : Z.Warmed39 s.vm) (hby : c.code = jdk_2529_method_15_code) (e0 : T0.heap = h0) (N0 : Fr n0 locs) (ga : n0 ≤ ax) (hk : (7 : Int32) < pn) (hlt : qi < u6) (V0 : Arv Z h0 ax kk .long pn ((.long u0) :: (.long u1) :: (.long u2) :: (.long u3) :: (.long u4) :: (.long u5) :: (.long u6) :: (.long u7) :: rest) (.long (0 : Int64)))
    (K : ∀ (T' : State) (h' : Heap) (locs' : List Loc), Stand p l e R s m args below meth c T' locs' cells slots → T'.heap = h' → Fr n0 locs' → Keep h0 h' [ax] → Arv Z h' ax kk .long pn ((.long u0) :: (.long u1) :: (.long u2) :: (.long u3) :: (.long u4) :: (.long u5) :: (.long u6) :: (.long u6) :: rest) (.long (0 : Int64)) → ∃ s₂ o, Steps p.tables e below (T'.setTop (mkF m 31 #[.val (.ref ax), .val (.int (0 : Int32)), .val (.int pn), .val (.int (6 : Int32)), .val (.int pk), .val (.long qi), .second] [])) s₂ ∧ C s₂ o) :
    ∃ s₂ o, Steps p.tables e below (T0.setTop (mkF m 31 (own_l13 ax pn pk qi) [])) s₂ ∧ C s₂ o := by
  refine own_pre (A := (T0.setTop (mkF m 55 (own_l11 ax pn pk qi) [(.long u6), (.int (7 : Int32)), (.ref ax)]))) ?_ ?_
  · intro t k
    refine XS.iinc X0.here hx rfl (hb hby d12_31) rfl (l' := (own_l14 ax pn pk qi)) rfl ?_
    show Steps  p.tables e below (T0.setTop (mkF m 34 #[.val (.ref ax), .val (.int (0 : Int32)), .val (.int pn), .val (.int ((7 : Int32) + (-1 : Int32))), .val (.int pk), .val (.long qi), .second] [])) _
    rw [show ((7 : Int32) + (-1 : Int32)) = (6 : Int32) from by decide]
    refine XS.iloadN X0.here hx rfl (hb hby d12_34) rfl ?_
    refine XS.iloadN X0.here hx rfl (hb hby d12_35) rfl ?_
    refine XS.icmpNo X0.here hx rfl (hb hby d12_36) rfl (flt (by decide : ¬ ((6 : Int32) < (0 : Int32)))).1 ?_
    refine XS.lload X0.here hx rfl (hb hby d12_39) rfl ?_
    refine XS.aloadN X0.here hx rfl (hb hby d12_41) rfl rfl ?_
    refine XS.iloadN X0.here hx rfl (hb hby d12_42) rfl ?_
    show Steps p.tables e below (T0.setTop (mkF m 43 (own_l11 ax pn pk qi) [(.int (6 : Int32)), (.ref ax), (.long qi)])) _
    obtain ⟨cl39, Ar39, q39, S39, N39, H39, G39⟩ := id V0
    have hin39 : ¬ ((6 : Int32) < 0 ∨ cl39.slots.size ≤ ((6 : Int32)).toNatClampNeg) := inb_of S39 ⟨by decide, own_ltk hk (by decide)⟩
    refine X0.laload hx (j := (6 : Int32)) (v := (.long u6)) (by rw [e0]; exact Ar39.1) (State.isArrayOf_alike hZ.alike Ar39.2.1) Ar39.2.2 hin39 (H39.at hin39 rfl) (g := (mkF m 43 (own_l11 ax pn pk qi) [(.int (6 : Int32)), (.ref ax), (.long qi)])) rfl rfl (hb hby d12_43) _ ?_
    refine XS.lcmp X0.here hx rfl (hb hby d12_44) rfl ?_
    refine XS.ifNo X0.here hx rfl (hb hby d12_45) rfl ((if0 _ _).trans (tlt ((lw_lt qi u6).mpr hlt)).2.1) ?_
    refine XS.aloadN X0.here hx rfl (hb hby d12_48) rfl rfl ?_
    refine XS.iloadN X0.here hx rfl (hb hby d12_49) rfl ?_
    refine XS.iconst X0.here hx rfl (hb hby d12_50) ?_
    refine XS.iadd X0.here hx rfl (hb hby d12_51) rfl ?_
    show Steps p.tables e below (T0.setTop (mkF m 52 (own_l11 ax pn pk qi) [(.int ((6 : Int32) + (1 : Int32))), (.ref ax)])) _
    rw [show ((6 : Int32) + (1 : Int32)) = (7 : Int32) from by decide]
    refine XS.aloadN X0.here hx rfl (hb hby d12_52) rfl rfl ?_
    refine XS.iloadN X0.here hx rfl (hb hby d12_53) rfl ?_
    show Steps p.tables e below (T0.setTop (mkF m 54 (own_l11 ax pn pk qi) [(.int (6 : Int32)), (.ref ax), (.int (7 : Int32)), (.ref ax)])) _
    obtain ⟨cl40, Ar40, q40, S40, N40, H40, G40⟩ := id V0
    have hin40 : ¬ ((6 : Int32) < 0 ∨ cl40.slots.size ≤ ((6 : Int32)).toNatClampNeg) := inb_of S40 ⟨by decide, own_ltk hk (by decide)⟩
    refine X0.laload hx (j := (6 : Int32)) (v := (.long u6)) (by rw [e0]; exact Ar40.1) (State.isArrayOf_alike hZ.alike Ar40.2.1) Ar40.2.2 hin40 (H40.at hin40 rfl) (g := (mkF m 54 (own_l11 ax pn pk qi) [(.int (6 : Int32)), (.ref ax), (.int (7 : Int32)), (.ref ax)])) rfl rfl (hb hby d12_54) _ ?_
    exact k
  obtain ⟨cl41, Ar41, q41, S41, N41, H41, G41⟩ := V0
  have hin41 : ¬ ((7 : Int32) < 0 ∨ cl41.slots.size ≤ ((7 : Int32)).toNatClampNeg) := inb_of S41 ⟨by decide, own_ltk hk (by decide)⟩
  obtain ⟨T41, h41, X41, e41, W41, st41⟩ := stJ X0 hx hZ e0 Ar41 (j := (7 : Int32)) hin41 (g := (mkF m 55 (own_l11 ax pn pk qi) [(.long u6), (.int (7 : Int32)), (.ref ax)])) rfl rfl (hb hby d12_55)
  have V41 : Arv Z h41 ax kk .long pn ((.long u0) :: (.long u1) :: (.long u2) :: (.long u3) :: (.long u4) :: (.long u5) :: (.long u6) :: (.long u6) :: rest) (.long (0 : Int64)) := Arv.set Ar41 q41 S41 N41 H41 G41 rfl W41 7 rfl (by simp only [List.length_cons]; omega)
  have Kc41 : Keep h0 h41 [ax] := (Keep.refl h0 [ax]).wr W41 (Or.inl (List.mem_of_getElem? (i := 0) rfl))
  have N41 := Fr.snoc X41 N0 ga
  refine own_pre (fun t k => st41 t k) ?_
  refine own_pre (A := (T41.setTop (mkF m 31 (own_l11 ax pn pk qi) []))) ?_ ?_
  · intro t k
    refine XS.goto X41.here hx rfl (pc0 := 56) (pc' := 31) rfl (hb hby d12_56) (by decide) (by decide) ?_
    exact k
  exact K _ _ _ X41 e41 N41 Kc41 V41
abbrev own_l15 (x0 : Addr) (x1 : Int32) (x2 : Int32) (x3 : Int64) : Array Slot := #[.val (.ref x0), .val (.int (0 : Int32)), .val (.int x1), .val (.int (8 : Int32)), .val (.int x2), .val (.long x3), .second]
abbrev own_l16 (x0 : Addr) (x1 : Int32) (x2 : Int32) (x3 : Int64) : Array Slot := #[.val (.ref x0), .val (.int (0 : Int32)), .val (.int x1), .val (.int ((8 : Int32) + (-1 : Int32))), .val (.int x2), .val (.long x3), .second]
set_option maxRecDepth 65536 in
set_option maxHeartbeats 40000000 in
theorem own_sh8 {p : Program} {l : Launch} {e : Env} {s : State} {m : MethodId} {args : Array Value} {below : List Frame} {meth : Method} {c : Code} {T0 : State} {locs : List Loc} {Z : State} {n0 : Nat} {h0 : Heap} {C : State → Outcome → Prop} {R : Room} {cells slots : Nat} {ax : Addr} {kk : ClassId} {pn pk : Int32} {qi u0 u1 u2 u3 u4 u5 u6 u7 u8 : Int64} {rest : List Value} (X0 : Stand p l e R s m args below meth c T0 locs cells slots) (hx : p.tables.exec = Jvm.exec) (hZ : Z.Warmed39 s.vm) (hby : c.code = jdk_2529_method_15_code) (e0 : T0.heap = h0) (N0 : Fr n0 locs) (ga : n0 ≤ ax) (hk : (8 : Int32) < pn) (hlt : qi < u7) (V0 : Arv Z h0 ax kk .long pn ((.long u0) :: (.long u1) :: (.long u2) :: (.long u3) :: (.long u4) :: (.long u5) :: (.long u6) :: (.long u7) :: (.long u8) :: rest) (.long (0 : Int64)))
    (K : ∀ (T' : State) (h' : Heap) (locs' : List Loc), Stand p l e R s m args below meth c T' locs' cells slots → T'.heap = h' → Fr n0 locs' → Keep h0 h' [ax] → Arv Z h' ax kk .long pn ((.long u0) :: (.long u1) :: (.long u2) :: (.long u3) :: (.long u4) :: (.long u5) :: (.long u6) :: (.long u7) :: (.long u7) :: rest) (.long (0 : Int64)) → ∃ s₂ o, Steps p.tables e below (T'.setTop (mkF m 31 #[.val (.ref ax), .val (.int (0 : Int32)), .val (.int pn), .val (.int (7 : Int32)), .val (.int pk), .val (.long qi), .second] [])) s₂ ∧ C s₂ o) :
    ∃ s₂ o, Steps p.tables e below (T0.setTop (mkF m 31 (own_l15 ax pn pk qi) [])) s₂ ∧ C s₂ o := by
  refine own_pre (A := (T0.setTop (mkF m 55 (own_l13 ax pn pk qi) [(.long u7), (.int (8 : Int32)), (.ref ax)]))) ?_ ?_
  · intro t k
    refine XS.iinc X0.here hx rfl (hb hby d12_31) rfl (l' := (own_l16 ax pn pk qi)) rfl ?_
    show Steps  p.tables e below (T0.setTop (mkF m 34 #[.val (.ref ax), .val (.int (0 : Int32)), .val (.int pn), .val (.int ((8 : Int32) + (-1 : Int32))), .val (.int pk), .val (.long qi), .second] [])) _
    rw [show ((8 : Int32) + (-1 : Int32)) = (7 : Int32) from by decide]
    refine XS.iloadN X0.here hx rfl (hb hby d12_34) rfl ?_
    refine XS.iloadN X0.here hx rfl (hb hby d12_35) rfl ?_
    refine XS.icmpNo X0.here hx rfl (hb hby d12_36) rfl (flt (by decide : ¬ ((7 : Int32) < (0 : Int32)))).1 ?_
    refine XS.lload X0.here hx rfl (hb hby d12_39) rfl ?_
    refine XS.aloadN X0.here hx rfl (hb hby d12_41) rfl rfl ?_
    refine XS.iloadN X0.here hx rfl (hb hby d12_42) rfl ?_
    show Steps p.tables e below (T0.setTop (mkF m 43 (own_l13 ax pn pk qi) [(.int (7 : Int32)), (.ref ax), (.long qi)])) _
    obtain ⟨cl42, Ar42, q42, S42, N42, H42, G42⟩ := id V0
    have hin42 : ¬ ((7 : Int32) < 0 ∨ cl42.slots.size ≤ ((7 : Int32)).toNatClampNeg) := inb_of S42 ⟨by decide, own_ltk hk (by decide)⟩
    refine X0.laload hx (j := (7 : Int32)) (v := (.long u7)) (by rw [e0]; exact Ar42.1) (State.isArrayOf_alike hZ.alike Ar42.2.1) Ar42.2.2 hin42 (H42.at hin42 rfl) (g := (mkF m 43 (own_l13 ax pn pk qi) [(.int (7 : Int32)), (.ref ax), (.long qi)])) rfl rfl (hb hby d12_43) _ ?_
    refine XS.lcmp X0.here hx rfl (hb hby d12_44) rfl ?_
    refine XS.ifNo X0.here hx rfl (hb hby d12_45) rfl ((if0 _ _).trans (tlt ((lw_lt qi u7).mpr hlt)).2.1) ?_
    refine XS.aloadN X0.here hx rfl (hb hby d12_48) rfl rfl ?_
    refine XS.iloadN X0.here hx rfl (hb hby d12_49) rfl ?_
    refine XS.iconst X0.here hx rfl (hb hby d12_50) ?_
    refine XS.iadd X0.here hx rfl (hb hby d12_51) rfl ?_
    show Steps p.tables e below (T0.setTop (mkF m 52 (own_l13 ax pn pk qi) [(.int ((7 : Int32) + (1 : Int32))), (.ref ax)])) _
    rw [show ((7 : Int32) + (1 : Int32)) = (8 : Int32) from by decide]
    refine XS.aloadN X0.here hx rfl (hb hby d12_52) rfl rfl ?_
    refine XS.iloadN X0.here hx rfl (hb hby d12_53) rfl ?_
    show Steps p.tables e below (T0.setTop (mkF m 54 (own_l13 ax pn pk qi) [(.int (7 : Int32)), (.ref ax), (.int (8 : Int32)), (.ref ax)])) _
    obtain ⟨cl43, Ar43, q43, S43, N43, H43, G43⟩ := id V0
    have hin43 : ¬ ((7 : Int32) < 0 ∨ cl43.slots.size ≤ ((7 : Int32)).toNatClampNeg) := inb_of S43 ⟨by decide, own_ltk hk (by decide)⟩
    refine X0.laload hx (j := (7 : Int32)) (v := (.long u7)) (by rw [e0]; exact Ar43.1) (State.isArrayOf_alike hZ.alike Ar43.2.1) Ar43.2.2 hin43 (H43.at hin43 rfl) (g := (mkF m 54 (own_l13 ax pn pk qi) [(.int (7 : Int32)), (.ref ax), (.int (8 : Int32)), (.ref ax)])) rfl rfl (hb hby d12_54) _ ?_
    exact k
  obtain ⟨cl44, Ar44, q44, S44, N44, H44, G44⟩ := V0
  have hin44 : ¬ ((8 : Int32) < 0 ∨ cl44.slots.size ≤ ((8 : Int32)).toNatClampNeg) := inb_of S44 ⟨by decide, own_ltk hk (by decide)⟩
  obtain ⟨T44, h44, X44, e44, W44, st44⟩ := stJ X0 hx hZ e0 Ar44 (j := (8 : Int32)) hin44 (g := (mkF m 55 (own_l13 ax pn pk qi) [(.long u7), (.int (8 : Int32)), (.ref ax)])) rfl rfl (hb hby d12_55)
  have V44 : Arv Z h44 ax kk .long pn ((.long u0) :: (.long u1) :: (.long u2) :: (.long u3) :: (.long u4) :: (.long u5) :: (.long u6) :: (.long u7) :: (.long u7) :: rest) (.long (0 : Int64)) := Arv.set Ar44 q44 S44 N44 H44 G44 rfl W44 8 rfl (by simp only [List.length_cons]; omega)
  have Kc44 : Keep h0 h44 [ax] := (Keep.refl h0 [ax]).wr W44 (Or.inl (List.mem_of_getElem? (i := 0) rfl))
  have N44 := Fr.snoc X44 N0 ga
  refine own_pre (fun t k => st44 t k) ?_
  refine own_pre (A := (T44.setTop (mkF m 31 (own_l13 ax pn pk qi) []))) ?_ ?_
  · intro t k
    refine XS.goto X44.here hx rfl (pc0 := 56) (pc' := 31) rfl (hb hby d12_56) (by decide) (by decide) ?_
    exact k
  exact K _ _ _ X44 e44 N44 Kc44 V44
abbrev own_l17 (x0 : Addr) (x1 : Int32) : Array Slot := #[.val (.ref x0), .val (.int (0 : Int32)), .val (.int x1), .unset, .val (.int (0 : Int32)), .unset, .unset]
abbrev own_l18 (x0 : Addr) (x1 : Int32) : Array Slot := #[.val (.ref x0), .val (.int (0 : Int32)), .val (.int x1), .unset, .val (.int ((0 : Int32) + (1 : Int32))), .unset, .unset]
abbrev own_l19 (x0 : Addr) (x1 : Int32) : Array Slot := #[.val (.ref x0), .val (.int (0 : Int32)), .val (.int x1), .unset, .val (.int (1 : Int32)), .unset, .unset]
abbrev own_l20 (x0 : Addr) (x1 : Int32) : Array Slot := #[.val (.ref x0), .val (.int (0 : Int32)), .val (.int x1), .val (.int (1 : Int32)), .val (.int (1 : Int32)), .unset, .unset]
abbrev own_l21 (x0 : Addr) (x1 : Int32) (x2 : Int64) : Array Slot := #[.val (.ref x0), .val (.int (0 : Int32)), .val (.int x1), .val (.int (1 : Int32)), .val (.int (1 : Int32)), .val (.long x2), .second]
set_option maxRecDepth 65536 in
set_option maxHeartbeats 40000000 in
theorem own_tn1 {p : Program} {l : Launch} {e : Env} {s : State} {m : MethodId} {args : Array Value} {below : List Frame} {meth : Method} {c : Code} {T0 : State} {locs : List Loc} {Z : State} {n0 : Nat} {h0 : Heap} {C : State → Outcome → Prop} {R : Room} {cells slots : Nat} {ax : Addr} {kk : ClassId} {pn : Int32} {u0 u1 : Int64} {rest : List Value} (X0 : Stand p l e R s m args below meth c T0 locs cells slots) (hx : p.tables.exec = Jvm.exec) (hZ : Z.Warmed39 s.vm) (hby : c.code = jdk_2529_method_15_code) (e0 : T0.heap = h0) (N0 : Fr n0 locs) (ga : n0 ≤ ax) (hk : (1 : Int32) < pn) (hnm : ¬ u1 < u0) (V0 : Arv Z h0 ax kk .long pn ((.long u0) :: (.long u1) :: rest) (.long (0 : Int64)))
    (K : ∀ (T' : State) (h' : Heap) (locs' : List Loc) (pi' : Int32) (qi' : Int64), Stand p l e R s m args below meth c T' locs' cells slots → T'.heap = h' → Fr n0 locs' → Keep h0 h' [ax] → Arv Z h' ax kk .long pn ((.long u0) :: (.long u1) :: rest) (.long (0 : Int64)) → ∃ s₂ o, Steps p.tables e below (T'.setTop (mkF m 3 #[.val (.ref ax), .val (.int (0 : Int32)), .val (.int pn), .val (.int pi'), .val (.int (1 : Int32)), .val (.long qi'), .second] [])) s₂ ∧ C s₂ o) :
    ∃ s₂ o, Steps p.tables e below (T0.setTop (mkF m 3 (own_l17 ax pn) [])) s₂ ∧ C s₂ o := by
  refine own_pre (A := (T0.setTop (mkF m 3 (own_l21 ax pn u1) []))) ?_ ?_
  · intro t k
    refine XS.iinc X0.here hx rfl (hb hby d12_3) rfl (l' := (own_l18 ax pn)) rfl ?_
    show Steps  p.tables e below (T0.setTop (mkF m 6 #[.val (.ref ax), .val (.int (0 : Int32)), .val (.int pn), .unset, .val (.int ((0 : Int32) + (1 : Int32))), .unset, .unset] [])) _
    rw [show ((0 : Int32) + (1 : Int32)) = (1 : Int32) from by decide]
    refine XS.iload X0.here hx rfl (hb hby d12_6) rfl ?_
    refine XS.iloadN X0.here hx rfl (hb hby d12_8) rfl ?_
    refine XS.icmpNo X0.here hx rfl (hb hby d12_9) rfl (tlt hk).2.1 ?_
    refine XS.aloadN X0.here hx rfl (hb hby d12_12) rfl rfl ?_
    refine XS.iload X0.here hx rfl (hb hby d12_13) rfl ?_
    refine XS.dup X0.here hx rfl (hb hby d12_15) rfl rfl ?_
    refine XS.istoreN X0.here hx rfl (hb hby d12_16) rfl (l' := (own_l20 ax pn)) rfl ?_
    show Steps p.tables e below (T0.setTop (mkF m 17 (own_l20 ax pn) [(.int (1 : Int32)), (.ref ax)])) _
    obtain ⟨cl45, Ar45, q45, S45, N45, H45, G45⟩ := id V0
    have hin45 : ¬ ((1 : Int32) < 0 ∨ cl45.slots.size ≤ ((1 : Int32)).toNatClampNeg) := inb_of S45 ⟨by decide, own_ltk hk (by decide)⟩
    refine X0.laload hx (j := (1 : Int32)) (v := (.long u1)) (by rw [e0]; exact Ar45.1) (State.isArrayOf_alike hZ.alike Ar45.2.1) Ar45.2.2 hin45 (H45.at hin45 rfl) (g := (mkF m 17 (own_l20 ax pn) [(.int (1 : Int32)), (.ref ax)])) rfl rfl (hb hby d12_17) _ ?_
    refine XS.lstore X0.here hx rfl (hb hby d12_18) rfl (l' := (own_l21 ax pn u1)) rfl ?_
    refine XS.lload X0.here hx rfl (hb hby d12_20) rfl ?_
    refine XS.aloadN X0.here hx rfl (hb hby d12_22) rfl rfl ?_
    refine XS.iloadN X0.here hx rfl (hb hby d12_23) rfl ?_
    refine XS.iconst X0.here hx rfl (hb hby d12_24) ?_
    refine XS.isub X0.here hx rfl (hb hby d12_25) rfl ?_
    show Steps p.tables e below (T0.setTop (mkF m 26 (own_l21 ax pn u1) [(.int ((1 : Int32) - (1 : Int32))), (.ref ax), (.long u1)])) _
    rw [show ((1 : Int32) - (1 : Int32)) = (0 : Int32) from by decide]
    show Steps p.tables e below (T0.setTop (mkF m 26 (own_l21 ax pn u1) [(.int (0 : Int32)), (.ref ax), (.long u1)])) _
    obtain ⟨cl46, Ar46, q46, S46, N46, H46, G46⟩ := id V0
    have hin46 : ¬ ((0 : Int32) < 0 ∨ cl46.slots.size ≤ ((0 : Int32)).toNatClampNeg) := inb_of S46 ⟨by decide, own_ltk hk (by decide)⟩
    refine X0.laload hx (j := (0 : Int32)) (v := (.long u0)) (by rw [e0]; exact Ar46.1) (State.isArrayOf_alike hZ.alike Ar46.2.1) Ar46.2.2 hin46 (H46.at hin46 rfl) (g := (mkF m 26 (own_l21 ax pn u1) [(.int (0 : Int32)), (.ref ax), (.long u1)])) rfl rfl (hb hby d12_26) _ ?_
    refine XS.lcmp X0.here hx rfl (hb hby d12_27) rfl ?_
    refine XS.ifYes X0.here hx rfl (pc0 := 28) (pc' := 66) rfl (hb hby d12_28) rfl ((if0 _ _).trans (flt (fun q => hnm ((lw_lt u1 u0).mp q))).2.1) (by decide) (by decide) ?_
    refine XS.goto X0.here hx rfl (pc0 := 66) (pc' := 3) rfl (hb hby d12_66) (by decide) (by decide) ?_
    exact k
  exact K _ _ _ _ _ X0 e0 N0 (Keep.refl h0 [ax]) V0
abbrev own_l22 (x0 : Addr) (x1 : Int32) (x2 : Int32) (x3 : Int64) : Array Slot := #[.val (.ref x0), .val (.int (0 : Int32)), .val (.int x1), .val (.int x2), .val (.int (1 : Int32)), .val (.long x3), .second]
abbrev own_l23 (x0 : Addr) (x1 : Int32) (x2 : Int32) (x3 : Int64) : Array Slot := #[.val (.ref x0), .val (.int (0 : Int32)), .val (.int x1), .val (.int x2), .val (.int ((1 : Int32) + (1 : Int32))), .val (.long x3), .second]
abbrev own_l24 (x0 : Addr) (x1 : Int32) (x2 : Int32) (x3 : Int64) : Array Slot := #[.val (.ref x0), .val (.int (0 : Int32)), .val (.int x1), .val (.int x2), .val (.int (2 : Int32)), .val (.long x3), .second]
abbrev own_l25 (x0 : Addr) (x1 : Int32) (x2 : Int64) : Array Slot := #[.val (.ref x0), .val (.int (0 : Int32)), .val (.int x1), .val (.int (2 : Int32)), .val (.int (2 : Int32)), .val (.long x2), .second]
set_option maxRecDepth 65536 in
set_option maxHeartbeats 40000000 in
theorem own_tn2 {p : Program} {l : Launch} {e : Env} {s : State} {m : MethodId} {args : Array Value} {below : List Frame} {meth : Method} {c : Code} {T0 : State} {locs : List Loc} {Z : State} {n0 : Nat} {h0 : Heap} {C : State → Outcome → Prop} {R : Room} {cells slots : Nat} {ax : Addr} {kk : ClassId} {pn pi : Int32} {qi u0 u1 u2 : Int64} {rest : List Value} (X0 : Stand p l e R s m args below meth c T0 locs cells slots) (hx : p.tables.exec = Jvm.exec) (hZ : Z.Warmed39 s.vm) (hby : c.code = jdk_2529_method_15_code) (e0 : T0.heap = h0) (N0 : Fr n0 locs) (ga : n0 ≤ ax) (hk : (2 : Int32) < pn) (hnm : ¬ u2 < u1) (V0 : Arv Z h0 ax kk .long pn ((.long u0) :: (.long u1) :: (.long u2) :: rest) (.long (0 : Int64)))
    (K : ∀ (T' : State) (h' : Heap) (locs' : List Loc) (pi' : Int32) (qi' : Int64), Stand p l e R s m args below meth c T' locs' cells slots → T'.heap = h' → Fr n0 locs' → Keep h0 h' [ax] → Arv Z h' ax kk .long pn ((.long u0) :: (.long u1) :: (.long u2) :: rest) (.long (0 : Int64)) → ∃ s₂ o, Steps p.tables e below (T'.setTop (mkF m 3 #[.val (.ref ax), .val (.int (0 : Int32)), .val (.int pn), .val (.int pi'), .val (.int (2 : Int32)), .val (.long qi'), .second] [])) s₂ ∧ C s₂ o) :
    ∃ s₂ o, Steps p.tables e below (T0.setTop (mkF m 3 (own_l22 ax pn pi qi) [])) s₂ ∧ C s₂ o := by
  refine own_pre (A := (T0.setTop (mkF m 3 (own_l25 ax pn u2) []))) ?_ ?_
  · intro t k
    refine XS.iinc X0.here hx rfl (hb hby d12_3) rfl (l' := (own_l23 ax pn pi qi)) rfl ?_
    show Steps  p.tables e below (T0.setTop (mkF m 6 #[.val (.ref ax), .val (.int (0 : Int32)), .val (.int pn), .val (.int pi), .val (.int ((1 : Int32) + (1 : Int32))), .val (.long qi), .second] [])) _
    rw [show ((1 : Int32) + (1 : Int32)) = (2 : Int32) from by decide]
    refine XS.iload X0.here hx rfl (hb hby d12_6) rfl ?_
    refine XS.iloadN X0.here hx rfl (hb hby d12_8) rfl ?_
    refine XS.icmpNo X0.here hx rfl (hb hby d12_9) rfl (tlt hk).2.1 ?_
    refine XS.aloadN X0.here hx rfl (hb hby d12_12) rfl rfl ?_
    refine XS.iload X0.here hx rfl (hb hby d12_13) rfl ?_
    refine XS.dup X0.here hx rfl (hb hby d12_15) rfl rfl ?_
    refine XS.istoreN X0.here hx rfl (hb hby d12_16) rfl (l' := (own_l25 ax pn qi)) rfl ?_
    show Steps p.tables e below (T0.setTop (mkF m 17 (own_l25 ax pn qi) [(.int (2 : Int32)), (.ref ax)])) _
    obtain ⟨cl47, Ar47, q47, S47, N47, H47, G47⟩ := id V0
    have hin47 : ¬ ((2 : Int32) < 0 ∨ cl47.slots.size ≤ ((2 : Int32)).toNatClampNeg) := inb_of S47 ⟨by decide, own_ltk hk (by decide)⟩
    refine X0.laload hx (j := (2 : Int32)) (v := (.long u2)) (by rw [e0]; exact Ar47.1) (State.isArrayOf_alike hZ.alike Ar47.2.1) Ar47.2.2 hin47 (H47.at hin47 rfl) (g := (mkF m 17 (own_l25 ax pn qi) [(.int (2 : Int32)), (.ref ax)])) rfl rfl (hb hby d12_17) _ ?_
    refine XS.lstore X0.here hx rfl (hb hby d12_18) rfl (l' := (own_l25 ax pn u2)) rfl ?_
    refine XS.lload X0.here hx rfl (hb hby d12_20) rfl ?_
    refine XS.aloadN X0.here hx rfl (hb hby d12_22) rfl rfl ?_
    refine XS.iloadN X0.here hx rfl (hb hby d12_23) rfl ?_
    refine XS.iconst X0.here hx rfl (hb hby d12_24) ?_
    refine XS.isub X0.here hx rfl (hb hby d12_25) rfl ?_
    show Steps p.tables e below (T0.setTop (mkF m 26 (own_l25 ax pn u2) [(.int ((2 : Int32) - (1 : Int32))), (.ref ax), (.long u2)])) _
    rw [show ((2 : Int32) - (1 : Int32)) = (1 : Int32) from by decide]
    show Steps p.tables e below (T0.setTop (mkF m 26 (own_l25 ax pn u2) [(.int (1 : Int32)), (.ref ax), (.long u2)])) _
    obtain ⟨cl48, Ar48, q48, S48, N48, H48, G48⟩ := id V0
    have hin48 : ¬ ((1 : Int32) < 0 ∨ cl48.slots.size ≤ ((1 : Int32)).toNatClampNeg) := inb_of S48 ⟨by decide, own_ltk hk (by decide)⟩
    refine X0.laload hx (j := (1 : Int32)) (v := (.long u1)) (by rw [e0]; exact Ar48.1) (State.isArrayOf_alike hZ.alike Ar48.2.1) Ar48.2.2 hin48 (H48.at hin48 rfl) (g := (mkF m 26 (own_l25 ax pn u2) [(.int (1 : Int32)), (.ref ax), (.long u2)])) rfl rfl (hb hby d12_26) _ ?_
    refine XS.lcmp X0.here hx rfl (hb hby d12_27) rfl ?_
    refine XS.ifYes X0.here hx rfl (pc0 := 28) (pc' := 66) rfl (hb hby d12_28) rfl ((if0 _ _).trans (flt (fun q => hnm ((lw_lt u2 u1).mp q))).2.1) (by decide) (by decide) ?_
    refine XS.goto X0.here hx rfl (pc0 := 66) (pc' := 3) rfl (hb hby d12_66) (by decide) (by decide) ?_
    exact k
  exact K _ _ _ _ _ X0 e0 N0 (Keep.refl h0 [ax]) V0
abbrev own_l26 (x0 : Addr) (x1 : Int32) (x2 : Int32) (x3 : Int64) : Array Slot := #[.val (.ref x0), .val (.int (0 : Int32)), .val (.int x1), .val (.int x2), .val (.int ((2 : Int32) + (1 : Int32))), .val (.long x3), .second]
abbrev own_l27 (x0 : Addr) (x1 : Int32) (x2 : Int32) (x3 : Int64) : Array Slot := #[.val (.ref x0), .val (.int (0 : Int32)), .val (.int x1), .val (.int x2), .val (.int (3 : Int32)), .val (.long x3), .second]
abbrev own_l28 (x0 : Addr) (x1 : Int32) (x2 : Int64) : Array Slot := #[.val (.ref x0), .val (.int (0 : Int32)), .val (.int x1), .val (.int (3 : Int32)), .val (.int (3 : Int32)), .val (.long x2), .second]
set_option maxRecDepth 65536 in
set_option maxHeartbeats 40000000 in
theorem own_tn3 {p : Program} {l : Launch} {e : Env} {s : State} {m : MethodId} {args : Array Value} {below : List Frame} {meth : Method} {c : Code} {T0 : State} {locs : List Loc} {Z : State} {n0 : Nat} {h0 : Heap} {C : State → Outcome → Prop} {R : Room} {cells slots : Nat} {ax : Addr} {kk : ClassId} {pn pi : Int32} {qi u0 u1 u2 u3 : Int64} {rest : List Value} (X0 : Stand p l e R s m args below meth c T0 locs cells slots) (hx : p.tables.exec = Jvm.exec) (hZ : Z.Warmed39 s.vm) (hby : c.code = jdk_2529_method_15_code) (e0 : T0.heap = h0) (N0 : Fr n0 locs) (ga : n0 ≤ ax) (hk : (3 : Int32) < pn) (hnm : ¬ u3 < u2) (V0 : Arv Z h0 ax kk .long pn ((.long u0) :: (.long u1) :: (.long u2) :: (.long u3) :: rest) (.long (0 : Int64)))
    (K : ∀ (T' : State) (h' : Heap) (locs' : List Loc) (pi' : Int32) (qi' : Int64), Stand p l e R s m args below meth c T' locs' cells slots → T'.heap = h' → Fr n0 locs' → Keep h0 h' [ax] → Arv Z h' ax kk .long pn ((.long u0) :: (.long u1) :: (.long u2) :: (.long u3) :: rest) (.long (0 : Int64)) → ∃ s₂ o, Steps p.tables e below (T'.setTop (mkF m 3 #[.val (.ref ax), .val (.int (0 : Int32)), .val (.int pn), .val (.int pi'), .val (.int (3 : Int32)), .val (.long qi'), .second] [])) s₂ ∧ C s₂ o) :
    ∃ s₂ o, Steps p.tables e below (T0.setTop (mkF m 3 (own_l24 ax pn pi qi) [])) s₂ ∧ C s₂ o := by
  refine own_pre (A := (T0.setTop (mkF m 3 (own_l28 ax pn u3) []))) ?_ ?_
  · intro t k
    refine XS.iinc X0.here hx rfl (hb hby d12_3) rfl (l' := (own_l26 ax pn pi qi)) rfl ?_
    show Steps  p.tables e below (T0.setTop (mkF m 6 #[.val (.ref ax), .val (.int (0 : Int32)), .val (.int pn), .val (.int pi), .val (.int ((2 : Int32) + (1 : Int32))), .val (.long qi), .second] [])) _
    rw [show ((2 : Int32) + (1 : Int32)) = (3 : Int32) from by decide]
    refine XS.iload X0.here hx rfl (hb hby d12_6) rfl ?_
    refine XS.iloadN X0.here hx rfl (hb hby d12_8) rfl ?_
    refine XS.icmpNo X0.here hx rfl (hb hby d12_9) rfl (tlt hk).2.1 ?_
    refine XS.aloadN X0.here hx rfl (hb hby d12_12) rfl rfl ?_
    refine XS.iload X0.here hx rfl (hb hby d12_13) rfl ?_
    refine XS.dup X0.here hx rfl (hb hby d12_15) rfl rfl ?_
    refine XS.istoreN X0.here hx rfl (hb hby d12_16) rfl (l' := (own_l28 ax pn qi)) rfl ?_
    show Steps p.tables e below (T0.setTop (mkF m 17 (own_l28 ax pn qi) [(.int (3 : Int32)), (.ref ax)])) _
    obtain ⟨cl49, Ar49, q49, S49, N49, H49, G49⟩ := id V0
    have hin49 : ¬ ((3 : Int32) < 0 ∨ cl49.slots.size ≤ ((3 : Int32)).toNatClampNeg) := inb_of S49 ⟨by decide, own_ltk hk (by decide)⟩
    refine X0.laload hx (j := (3 : Int32)) (v := (.long u3)) (by rw [e0]; exact Ar49.1) (State.isArrayOf_alike hZ.alike Ar49.2.1) Ar49.2.2 hin49 (H49.at hin49 rfl) (g := (mkF m 17 (own_l28 ax pn qi) [(.int (3 : Int32)), (.ref ax)])) rfl rfl (hb hby d12_17) _ ?_
    refine XS.lstore X0.here hx rfl (hb hby d12_18) rfl (l' := (own_l28 ax pn u3)) rfl ?_
    refine XS.lload X0.here hx rfl (hb hby d12_20) rfl ?_
    refine XS.aloadN X0.here hx rfl (hb hby d12_22) rfl rfl ?_
    refine XS.iloadN X0.here hx rfl (hb hby d12_23) rfl ?_
    refine XS.iconst X0.here hx rfl (hb hby d12_24) ?_
    refine XS.isub X0.here hx rfl (hb hby d12_25) rfl ?_
    show Steps p.tables e below (T0.setTop (mkF m 26 (own_l28 ax pn u3) [(.int ((3 : Int32) - (1 : Int32))), (.ref ax), (.long u3)])) _
    rw [show ((3 : Int32) - (1 : Int32)) = (2 : Int32) from by decide]
    show Steps p.tables e below (T0.setTop (mkF m 26 (own_l28 ax pn u3) [(.int (2 : Int32)), (.ref ax), (.long u3)])) _
    obtain ⟨cl50, Ar50, q50, S50, N50, H50, G50⟩ := id V0
    have hin50 : ¬ ((2 : Int32) < 0 ∨ cl50.slots.size ≤ ((2 : Int32)).toNatClampNeg) := inb_of S50 ⟨by decide, own_ltk hk (by decide)⟩
    refine X0.laload hx (j := (2 : Int32)) (v := (.long u2)) (by rw [e0]; exact Ar50.1) (State.isArrayOf_alike hZ.alike Ar50.2.1) Ar50.2.2 hin50 (H50.at hin50 rfl) (g := (mkF m 26 (own_l28 ax pn u3) [(.int (2 : Int32)), (.ref ax), (.long u3)])) rfl rfl (hb hby d12_26) _ ?_
    refine XS.lcmp X0.here hx rfl (hb hby d12_27) rfl ?_
    refine XS.ifYes X0.here hx rfl (pc0 := 28) (pc' := 66) rfl (hb hby d12_28) rfl ((if0 _ _).trans (flt (fun q => hnm ((lw_lt u3 u2).mp q))).2.1) (by decide) (by decide) ?_
    refine XS.goto X0.here hx rfl (pc0 := 66) (pc' := 3) rfl (hb hby d12_66) (by decide) (by decide) ?_
    exact k
  exact K _ _ _ _ _ X0 e0 N0 (Keep.refl h0 [ax]) V0
abbrev own_l29 (x0 : Addr) (x1 : Int32) (x2 : Int32) (x3 : Int64) : Array Slot := #[.val (.ref x0), .val (.int (0 : Int32)), .val (.int x1), .val (.int x2), .val (.int ((3 : Int32) + (1 : Int32))), .val (.long x3), .second]
abbrev own_l30 (x0 : Addr) (x1 : Int32) (x2 : Int32) (x3 : Int64) : Array Slot := #[.val (.ref x0), .val (.int (0 : Int32)), .val (.int x1), .val (.int x2), .val (.int (4 : Int32)), .val (.long x3), .second]
abbrev own_l31 (x0 : Addr) (x1 : Int32) (x2 : Int64) : Array Slot := #[.val (.ref x0), .val (.int (0 : Int32)), .val (.int x1), .val (.int (4 : Int32)), .val (.int (4 : Int32)), .val (.long x2), .second]
set_option maxRecDepth 65536 in
set_option maxHeartbeats 40000000 in
theorem own_tn4 {p : Program} {l : Launch} {e : Env} {s : State} {m : MethodId} {args : Array Value} {below : List Frame} {meth : Method} {c : Code} {T0 : State} {locs : List Loc} {Z : State} {n0 : Nat} {h0 : Heap} {C : State → Outcome → Prop} {R : Room} {cells slots : Nat} {ax : Addr} {kk : ClassId} {pn pi : Int32} {qi u0 u1 u2 u3 u4 : Int64} {rest : List Value} (X0 : Stand p l e R s m args below meth c T0 locs cells slots) (hx : p.tables.exec = Jvm.exec) (hZ : Z.Warmed39 s.vm) (hby : c.code = jdk_2529_method_15_code) (e0 : T0.heap = h0) (N0 : Fr n0 locs) (ga : n0 ≤ ax) (hk : (4 : Int32) < pn) (hnm : ¬ u4 < u3) (V0 : Arv Z h0 ax kk .long pn ((.long u0) :: (.long u1) :: (.long u2) :: (.long u3) :: (.long u4) :: rest) (.long (0 : Int64)))
    (K : ∀ (T' : State) (h' : Heap) (locs' : List Loc) (pi' : Int32) (qi' : Int64), Stand p l e R s m args below meth c T' locs' cells slots → T'.heap = h' → Fr n0 locs' → Keep h0 h' [ax] → Arv Z h' ax kk .long pn ((.long u0) :: (.long u1) :: (.long u2) :: (.long u3) :: (.long u4) :: rest) (.long (0 : Int64)) → ∃ s₂ o, Steps p.tables e below (T'.setTop (mkF m 3 #[.val (.ref ax), .val (.int (0 : Int32)), .val (.int pn), .val (.int pi'), .val (.int (4 : Int32)), .val (.long qi'), .second] [])) s₂ ∧ C s₂ o) :
    ∃ s₂ o, Steps p.tables e below (T0.setTop (mkF m 3 (own_l27 ax pn pi qi) [])) s₂ ∧ C s₂ o := by
  refine own_pre (A := (T0.setTop (mkF m 3 (own_l31 ax pn u4) []))) ?_ ?_
  · intro t k
    refine XS.iinc X0.here hx rfl (hb hby d12_3) rfl (l' := (own_l29 ax pn pi qi)) rfl ?_
    show Steps  p.tables e below (T0.setTop (mkF m 6 #[.val (.ref ax), .val (.int (0 : Int32)), .val (.int pn), .val (.int pi), .val (.int ((3 : Int32) + (1 : Int32))), .val (.long qi), .second] [])) _
    rw [show ((3 : Int32) + (1 : Int32)) = (4 : Int32) from by decide]
    refine XS.iload X0.here hx rfl (hb hby d12_6) rfl ?_
    refine XS.iloadN X0.here hx rfl (hb hby d12_8) rfl ?_
    refine XS.icmpNo X0.here hx rfl (hb hby d12_9) rfl (tlt hk).2.1 ?_
    refine XS.aloadN X0.here hx rfl (hb hby d12_12) rfl rfl ?_
    refine XS.iload X0.here hx rfl (hb hby d12_13) rfl ?_
    refine XS.dup X0.here hx rfl (hb hby d12_15) rfl rfl ?_
    refine XS.istoreN X0.here hx rfl (hb hby d12_16) rfl (l' := (own_l31 ax pn qi)) rfl ?_
    show Steps p.tables e below (T0.setTop (mkF m 17 (own_l31 ax pn qi) [(.int (4 : Int32)), (.ref ax)])) _
    obtain ⟨cl51, Ar51, q51, S51, N51, H51, G51⟩ := id V0
    have hin51 : ¬ ((4 : Int32) < 0 ∨ cl51.slots.size ≤ ((4 : Int32)).toNatClampNeg) := inb_of S51 ⟨by decide, own_ltk hk (by decide)⟩
    refine X0.laload hx (j := (4 : Int32)) (v := (.long u4)) (by rw [e0]; exact Ar51.1) (State.isArrayOf_alike hZ.alike Ar51.2.1) Ar51.2.2 hin51 (H51.at hin51 rfl) (g := (mkF m 17 (own_l31 ax pn qi) [(.int (4 : Int32)), (.ref ax)])) rfl rfl (hb hby d12_17) _ ?_
    refine XS.lstore X0.here hx rfl (hb hby d12_18) rfl (l' := (own_l31 ax pn u4)) rfl ?_
    refine XS.lload X0.here hx rfl (hb hby d12_20) rfl ?_
    refine XS.aloadN X0.here hx rfl (hb hby d12_22) rfl rfl ?_
    refine XS.iloadN X0.here hx rfl (hb hby d12_23) rfl ?_
    refine XS.iconst X0.here hx rfl (hb hby d12_24) ?_
    refine XS.isub X0.here hx rfl (hb hby d12_25) rfl ?_
    show Steps p.tables e below (T0.setTop (mkF m 26 (own_l31 ax pn u4) [(.int ((4 : Int32) - (1 : Int32))), (.ref ax), (.long u4)])) _
    rw [show ((4 : Int32) - (1 : Int32)) = (3 : Int32) from by decide]
    show Steps p.tables e below (T0.setTop (mkF m 26 (own_l31 ax pn u4) [(.int (3 : Int32)), (.ref ax), (.long u4)])) _
    obtain ⟨cl52, Ar52, q52, S52, N52, H52, G52⟩ := id V0
    have hin52 : ¬ ((3 : Int32) < 0 ∨ cl52.slots.size ≤ ((3 : Int32)).toNatClampNeg) := inb_of S52 ⟨by decide, own_ltk hk (by decide)⟩
    refine X0.laload hx (j := (3 : Int32)) (v := (.long u3)) (by rw [e0]; exact Ar52.1) (State.isArrayOf_alike hZ.alike Ar52.2.1) Ar52.2.2 hin52 (H52.at hin52 rfl) (g := (mkF m 26 (own_l31 ax pn u4) [(.int (3 : Int32)), (.ref ax), (.long u4)])) rfl rfl (hb hby d12_26) _ ?_
    refine XS.lcmp X0.here hx rfl (hb hby d12_27) rfl ?_
    refine XS.ifYes X0.here hx rfl (pc0 := 28) (pc' := 66) rfl (hb hby d12_28) rfl ((if0 _ _).trans (flt (fun q => hnm ((lw_lt u4 u3).mp q))).2.1) (by decide) (by decide) ?_
    refine XS.goto X0.here hx rfl (pc0 := 66) (pc' := 3) rfl (hb hby d12_66) (by decide) (by decide) ?_
    exact k
  exact K _ _ _ _ _ X0 e0 N0 (Keep.refl h0 [ax]) V0
abbrev own_l32 (x0 : Addr) (x1 : Int32) (x2 : Int32) (x3 : Int64) : Array Slot := #[.val (.ref x0), .val (.int (0 : Int32)), .val (.int x1), .val (.int x2), .val (.int ((4 : Int32) + (1 : Int32))), .val (.long x3), .second]
abbrev own_l33 (x0 : Addr) (x1 : Int32) (x2 : Int32) (x3 : Int64) : Array Slot := #[.val (.ref x0), .val (.int (0 : Int32)), .val (.int x1), .val (.int x2), .val (.int (5 : Int32)), .val (.long x3), .second]
abbrev own_l34 (x0 : Addr) (x1 : Int32) (x2 : Int64) : Array Slot := #[.val (.ref x0), .val (.int (0 : Int32)), .val (.int x1), .val (.int (5 : Int32)), .val (.int (5 : Int32)), .val (.long x2), .second]
set_option maxRecDepth 65536 in
set_option maxHeartbeats 40000000 in
theorem own_tn5 {p : Program} {l : Launch} {e : Env} {s : State} {m : MethodId} {args : Array Value} {below : List Frame} {meth : Method} {c : Code} {T0 : State} {locs : List Loc} {Z : State} {n0 : Nat} {h0 : Heap} {C : State → Outcome → Prop} {R : Room} {cells slots : Nat} {ax : Addr} {kk : ClassId} {pn pi : Int32} {qi u0 u1 u2 u3 u4 u5 : Int64} {rest : List Value} (X0 : Stand p l e R s m args below meth c T0 locs cells slots) (hx : p.tables.exec = Jvm.exec) (hZ : Z.Warmed39 s.vm) (hby : c.code = jdk_2529_method_15_code) (e0 : T0.heap = h0) (N0 : Fr n0 locs) (ga : n0 ≤ ax) (hk : (5 : Int32) < pn) (hnm : ¬ u5 < u4) (V0 : Arv Z h0 ax kk .long pn ((.long u0) :: (.long u1) :: (.long u2) :: (.long u3) :: (.long u4) :: (.long u5) :: rest) (.long (0 : Int64)))
    (K : ∀ (T' : State) (h' : Heap) (locs' : List Loc) (pi' : Int32) (qi' : Int64), Stand p l e R s m args below meth c T' locs' cells slots → T'.heap = h' → Fr n0 locs' → Keep h0 h' [ax] → Arv Z h' ax kk .long pn ((.long u0) :: (.long u1) :: (.long u2) :: (.long u3) :: (.long u4) :: (.long u5) :: rest) (.long (0 : Int64)) → ∃ s₂ o, Steps p.tables e below (T'.setTop (mkF m 3 #[.val (.ref ax), .val (.int (0 : Int32)), .val (.int pn), .val (.int pi'), .val (.int (5 : Int32)), .val (.long qi'), .second] [])) s₂ ∧ C s₂ o) :
    ∃ s₂ o, Steps p.tables e below (T0.setTop (mkF m 3 (own_l30 ax pn pi qi) [])) s₂ ∧ C s₂ o := by
  refine own_pre (A := (T0.setTop (mkF m 3 (own_l34 ax pn u5) []))) ?_ ?_
  · intro t k
    refine XS.iinc X0.here hx rfl (hb hby d12_3) rfl (l' := (own_l32 ax pn pi qi)) rfl ?_
    show Steps  p.tables e below (T0.setTop (mkF m 6 #[.val (.ref ax), .val (.int (0 : Int32)), .val (.int pn), .val (.int pi), .val (.int ((4 : Int32) + (1 : Int32))), .val (.long qi), .second] [])) _
    rw [show ((4 : Int32) + (1 : Int32)) = (5 : Int32) from by decide]
    refine XS.iload X0.here hx rfl (hb hby d12_6) rfl ?_
    refine XS.iloadN X0.here hx rfl (hb hby d12_8) rfl ?_
    refine XS.icmpNo X0.here hx rfl (hb hby d12_9) rfl (tlt hk).2.1 ?_
    refine XS.aloadN X0.here hx rfl (hb hby d12_12) rfl rfl ?_
    refine XS.iload X0.here hx rfl (hb hby d12_13) rfl ?_
    refine XS.dup X0.here hx rfl (hb hby d12_15) rfl rfl ?_
    refine XS.istoreN X0.here hx rfl (hb hby d12_16) rfl (l' := (own_l34 ax pn qi)) rfl ?_
    show Steps p.tables e below (T0.setTop (mkF m 17 (own_l34 ax pn qi) [(.int (5 : Int32)), (.ref ax)])) _
    obtain ⟨cl53, Ar53, q53, S53, N53, H53, G53⟩ := id V0
    have hin53 : ¬ ((5 : Int32) < 0 ∨ cl53.slots.size ≤ ((5 : Int32)).toNatClampNeg) := inb_of S53 ⟨by decide, own_ltk hk (by decide)⟩
    refine X0.laload hx (j := (5 : Int32)) (v := (.long u5)) (by rw [e0]; exact Ar53.1) (State.isArrayOf_alike hZ.alike Ar53.2.1) Ar53.2.2 hin53 (H53.at hin53 rfl) (g := (mkF m 17 (own_l34 ax pn qi) [(.int (5 : Int32)), (.ref ax)])) rfl rfl (hb hby d12_17) _ ?_
    refine XS.lstore X0.here hx rfl (hb hby d12_18) rfl (l' := (own_l34 ax pn u5)) rfl ?_
    refine XS.lload X0.here hx rfl (hb hby d12_20) rfl ?_
    refine XS.aloadN X0.here hx rfl (hb hby d12_22) rfl rfl ?_
    refine XS.iloadN X0.here hx rfl (hb hby d12_23) rfl ?_
    refine XS.iconst X0.here hx rfl (hb hby d12_24) ?_
    refine XS.isub X0.here hx rfl (hb hby d12_25) rfl ?_
    show Steps p.tables e below (T0.setTop (mkF m 26 (own_l34 ax pn u5) [(.int ((5 : Int32) - (1 : Int32))), (.ref ax), (.long u5)])) _
    rw [show ((5 : Int32) - (1 : Int32)) = (4 : Int32) from by decide]
    show Steps p.tables e below (T0.setTop (mkF m 26 (own_l34 ax pn u5) [(.int (4 : Int32)), (.ref ax), (.long u5)])) _
    obtain ⟨cl54, Ar54, q54, S54, N54, H54, G54⟩ := id V0
    have hin54 : ¬ ((4 : Int32) < 0 ∨ cl54.slots.size ≤ ((4 : Int32)).toNatClampNeg) := inb_of S54 ⟨by decide, own_ltk hk (by decide)⟩
    refine X0.laload hx (j := (4 : Int32)) (v := (.long u4)) (by rw [e0]; exact Ar54.1) (State.isArrayOf_alike hZ.alike Ar54.2.1) Ar54.2.2 hin54 (H54.at hin54 rfl) (g := (mkF m 26 (own_l34 ax pn u5) [(.int (4 : Int32)), (.ref ax), (.long u5)])) rfl rfl (hb hby d12_26) _ ?_
    refine XS.lcmp X0.here hx rfl (hb hby d12_27) rfl ?_
    refine XS.ifYes X0.here hx rfl (pc0 := 28) (pc' := 66) rfl (hb hby d12_28) rfl ((if0 _ _).trans (flt (fun q => hnm ((lw_lt u5 u4).mp q))).2.1) (by decide) (by decide) ?_
    refine XS.goto X0.here hx rfl (pc0 := 66) (pc' := 3) rfl (hb hby d12_66) (by decide) (by decide) ?_
    exact k
  exact K _ _ _ _ _ X0 e0 N0 (Keep.refl h0 [ax]) V0
abbrev own_l35 (x0 : Addr) (x1 : Int32) (x2 : Int32) (x3 : Int64) : Array Slot := #[.val (.ref x0), .val (.int (0 : Int32)), .val (.int x1), .val (.int x2), .val (.int ((5 : Int32) + (1 : Int32))), .val (.long x3), .second]
abbrev own_l36 (x0 : Addr) (x1 : Int32) (x2 : Int32) (x3 : Int64) : Array Slot := #[.val (.ref x0), .val (.int (0 : Int32)), .val (.int x1), .val (.int x2), .val (.int (6 : Int32)), .val (.long x3), .second]
abbrev own_l37 (x0 : Addr) (x1 : Int32) (x2 : Int64) : Array Slot := #[.val (.ref x0), .val (.int (0 : Int32)), .val (.int x1), .val (.int (6 : Int32)), .val (.int (6 : Int32)), .val (.long x2), .second]
set_option maxRecDepth 65536 in
set_option maxHeartbeats 40000000 in
theorem own_tn6 {p : Program} {l : Launch} {e : Env} {s : State} {m : MethodId} {args : Array Value} {below : List Frame} {meth : Method} {c : Code} {T0 : State} {locs : List Loc} {Z : State} {n0 : Nat} {h0 : Heap} {C : State → Outcome → Prop} {R : Room} {cells slots : Nat} {ax : Addr} {kk : ClassId} {pn pi : Int32} {qi u0 u1 u2 u3 u4 u5 u6 : Int64} {rest : List Value} (X0 : Stand p l e R s m args below meth c T0 locs cells slots) (hx : p.tables.exec = Jvm.exec) (hZ : Z.Warmed39 s.vm) (hby : c.code = jdk_2529_method_15_code) (e0 : T0.heap = h0) (N0 : Fr n0 locs) (ga : n0 ≤ ax) (hk : (6 : Int32) < pn) (hnm : ¬ u6 < u5) (V0 : Arv Z h0 ax kk .long pn ((.long u0) :: (.long u1) :: (.long u2) :: (.long u3) :: (.long u4) :: (.long u5) :: (.long u6) :: rest) (.long (0 : Int64)))
    (K : ∀ (T' : State) (h' : Heap) (locs' : List Loc) (pi' : Int32) (qi' : Int64), Stand p l e R s m args below meth c T' locs' cells slots → T'.heap = h' → Fr n0 locs' → Keep h0 h' [ax] → Arv Z h' ax kk .long pn ((.long u0) :: (.long u1) :: (.long u2) :: (.long u3) :: (.long u4) :: (.long u5) :: (.long u6) :: rest) (.long (0 : Int64)) → ∃ s₂ o, Steps p.tables e below (T'.setTop (mkF m 3 #[.val (.ref ax), .val (.int (0 : Int32)), .val (.int pn), .val (.int pi'), .val (.int (6 : Int32)), .val (.long qi'), .second] [])) s₂ ∧ C s₂ o) :
    ∃ s₂ o, Steps p.tables e below (T0.setTop (mkF m 3 (own_l33 ax pn pi qi) [])) s₂ ∧ C s₂ o := by
  refine own_pre (A := (T0.setTop (mkF m 3 (own_l37 ax pn u6) []))) ?_ ?_
  · intro t k
    refine XS.iinc X0.here hx rfl (hb hby d12_3) rfl (l' := (own_l35 ax pn pi qi)) rfl ?_
    show Steps  p.tables e below (T0.setTop (mkF m 6 #[.val (.ref ax), .val (.int (0 : Int32)), .val (.int pn), .val (.int pi), .val (.int ((5 : Int32) + (1 : Int32))), .val (.long qi), .second] [])) _
    rw [show ((5 : Int32) + (1 : Int32)) = (6 : Int32) from by decide]
    refine XS.iload X0.here hx rfl (hb hby d12_6) rfl ?_
    refine XS.iloadN X0.here hx rfl (hb hby d12_8) rfl ?_
    refine XS.icmpNo X0.here hx rfl (hb hby d12_9) rfl (tlt hk).2.1 ?_
    refine XS.aloadN X0.here hx rfl (hb hby d12_12) rfl rfl ?_
    refine XS.iload X0.here hx rfl (hb hby d12_13) rfl ?_
    refine XS.dup X0.here hx rfl (hb hby d12_15) rfl rfl ?_
    refine XS.istoreN X0.here hx rfl (hb hby d12_16) rfl (l' := (own_l37 ax pn qi)) rfl ?_
    show Steps p.tables e below (T0.setTop (mkF m 17 (own_l37 ax pn qi) [(.int (6 : Int32)), (.ref ax)])) _
    obtain ⟨cl55, Ar55, q55, S55, N55, H55, G55⟩ := id V0
    have hin55 : ¬ ((6 : Int32) < 0 ∨ cl55.slots.size ≤ ((6 : Int32)).toNatClampNeg) := inb_of S55 ⟨by decide, own_ltk hk (by decide)⟩
    refine X0.laload hx (j := (6 : Int32)) (v := (.long u6)) (by rw [e0]; exact Ar55.1) (State.isArrayOf_alike hZ.alike Ar55.2.1) Ar55.2.2 hin55 (H55.at hin55 rfl) (g := (mkF m 17 (own_l37 ax pn qi) [(.int (6 : Int32)), (.ref ax)])) rfl rfl (hb hby d12_17) _ ?_
    refine XS.lstore X0.here hx rfl (hb hby d12_18) rfl (l' := (own_l37 ax pn u6)) rfl ?_
    refine XS.lload X0.here hx rfl (hb hby d12_20) rfl ?_
    refine XS.aloadN X0.here hx rfl (hb hby d12_22) rfl rfl ?_
    refine XS.iloadN X0.here hx rfl (hb hby d12_23) rfl ?_
    refine XS.iconst X0.here hx rfl (hb hby d12_24) ?_
    refine XS.isub X0.here hx rfl (hb hby d12_25) rfl ?_
    show Steps p.tables e below (T0.setTop (mkF m 26 (own_l37 ax pn u6) [(.int ((6 : Int32) - (1 : Int32))), (.ref ax), (.long u6)])) _
    rw [show ((6 : Int32) - (1 : Int32)) = (5 : Int32) from by decide]
    show Steps p.tables e below (T0.setTop (mkF m 26 (own_l37 ax pn u6) [(.int (5 : Int32)), (.ref ax), (.long u6)])) _
    obtain ⟨cl56, Ar56, q56, S56, N56, H56, G56⟩ := id V0
    have hin56 : ¬ ((5 : Int32) < 0 ∨ cl56.slots.size ≤ ((5 : Int32)).toNatClampNeg) := inb_of S56 ⟨by decide, own_ltk hk (by decide)⟩
    refine X0.laload hx (j := (5 : Int32)) (v := (.long u5)) (by rw [e0]; exact Ar56.1) (State.isArrayOf_alike hZ.alike Ar56.2.1) Ar56.2.2 hin56 (H56.at hin56 rfl) (g := (mkF m 26 (own_l37 ax pn u6) [(.int (5 : Int32)), (.ref ax), (.long u6)])) rfl rfl (hb hby d12_26) _ ?_
    refine XS.lcmp X0.here hx rfl (hb hby d12_27) rfl ?_
    refine XS.ifYes X0.here hx rfl (pc0 := 28) (pc' := 66) rfl (hb hby d12_28) rfl ((if0 _ _).trans (flt (fun q => hnm ((lw_lt u6 u5).mp q))).2.1) (by decide) (by decide) ?_
    refine XS.goto X0.here hx rfl (pc0 := 66) (pc' := 3) rfl (hb hby d12_66) (by decide) (by decide) ?_
    exact k
  exact K _ _ _ _ _ X0 e0 N0 (Keep.refl h0 [ax]) V0
abbrev own_l38 (x0 : Addr) (x1 : Int32) (x2 : Int32) (x3 : Int64) : Array Slot := #[.val (.ref x0), .val (.int (0 : Int32)), .val (.int x1), .val (.int x2), .val (.int ((6 : Int32) + (1 : Int32))), .val (.long x3), .second]
abbrev own_l39 (x0 : Addr) (x1 : Int32) (x2 : Int32) (x3 : Int64) : Array Slot := #[.val (.ref x0), .val (.int (0 : Int32)), .val (.int x1), .val (.int x2), .val (.int (7 : Int32)), .val (.long x3), .second]
abbrev own_l40 (x0 : Addr) (x1 : Int32) (x2 : Int64) : Array Slot := #[.val (.ref x0), .val (.int (0 : Int32)), .val (.int x1), .val (.int (7 : Int32)), .val (.int (7 : Int32)), .val (.long x2), .second]
set_option maxRecDepth 65536 in
set_option maxHeartbeats 40000000 in
theorem own_tn7 {p : Program} {l : Launch} {e : Env} {s : State} {m : MethodId} {args : Array Value} {below : List Frame} {meth : Method} {c : Code} {T0 : State} {locs : List Loc} {Z : State} {n0 : Nat} {h0 : Heap} {C : State → Outcome → Prop} {R : Room} {cells slots : Nat} {ax : Addr} {kk : ClassId} {pn pi : Int32} {qi u0 u1 u2 u3 u4 u5 u6 u7 : Int64} {rest : List Value} (X0 : Stand p l e R s m args below meth c T0 locs cells slots) (hx : p.tables.exec = Jvm.exec) (hZ : Z.Warmed39 s.vm) (hby : c.code = jdk_2529_method_15_code) (e0 : T0.heap = h0) (N0 : Fr n0 locs) (ga : n0 ≤ ax) (hk : (7 : Int32) < pn) (hnm : ¬ u7 < u6) (V0 : Arv Z h0 ax kk .long pn ((.long u0) :: (.long u1) :: (.long u2) :: (.long u3) :: (.long u4) :: (.long u5) :: (.long u6) :: (.long u7) :: rest) (.long (0 : Int64)))
    (K : ∀ (T' : State) (h' : Heap) (locs' : List Loc) (pi' : Int32) (qi' : Int64), Stand p l e R s m args below meth c T' locs' cells slots → T'.heap = h' → Fr n0 locs' → Keep h0 h' [ax] → Arv Z h' ax kk .long pn ((.long u0) :: (.long u1) :: (.long u2) :: (.long u3) :: (.long u4) :: (.long u5) :: (.long u6) :: (.long u7) :: rest) (.long (0 : Int64)) → ∃ s₂ o, Steps p.tables e below (T'.setTop (mkF m 3 #[.val (.ref ax), .val (.int (0 : Int32)), .val (.int pn), .val (.int pi'), .val (.int (7 : Int32)), .val (.long qi'), .second] [])) s₂ ∧ C s₂ o) :
    ∃ s₂ o, Steps p.tables e below (T0.setTop (mkF m 3 (own_l36 ax pn pi qi) [])) s₂ ∧ C s₂ o := by
  refine own_pre (A := (T0.setTop (mkF m 3 (own_l40 ax pn u7) []))) ?_ ?_
  · intro t k
    refine XS.iinc X0.here hx rfl (hb hby d12_3) rfl (l' := (own_l38 ax pn pi qi)) rfl ?_
    show Steps  p.tables e below (T0.setTop (mkF m 6 #[.val (.ref ax), .val (.int (0 : Int32)), .val (.int pn), .val (.int pi), .val (.int ((6 : Int32) + (1 : Int32))), .val (.long qi), .second] [])) _
    rw [show ((6 : Int32) + (1 : Int32)) = (7 : Int32) from by decide]
    refine XS.iload X0.here hx rfl (hb hby d12_6) rfl ?_
    refine XS.iloadN X0.here hx rfl (hb hby d12_8) rfl ?_
    refine XS.icmpNo X0.here hx rfl (hb hby d12_9) rfl (tlt hk).2.1 ?_
    refine XS.aloadN X0.here hx rfl (hb hby d12_12) rfl rfl ?_
    refine XS.iload X0.here hx rfl (hb hby d12_13) rfl ?_
    refine XS.dup X0.here hx rfl (hb hby d12_15) rfl rfl ?_
    refine XS.istoreN X0.here hx rfl (hb hby d12_16) rfl (l' := (own_l40 ax pn qi)) rfl ?_
    show Steps p.tables e below (T0.setTop (mkF m 17 (own_l40 ax pn qi) [(.int (7 : Int32)), (.ref ax)])) _
    obtain ⟨cl57, Ar57, q57, S57, N57, H57, G57⟩ := id V0
    have hin57 : ¬ ((7 : Int32) < 0 ∨ cl57.slots.size ≤ ((7 : Int32)).toNatClampNeg) := inb_of S57 ⟨by decide, own_ltk hk (by decide)⟩
    refine X0.laload hx (j := (7 : Int32)) (v := (.long u7)) (by rw [e0]; exact Ar57.1) (State.isArrayOf_alike hZ.alike Ar57.2.1) Ar57.2.2 hin57 (H57.at hin57 rfl) (g := (mkF m 17 (own_l40 ax pn qi) [(.int (7 : Int32)), (.ref ax)])) rfl rfl (hb hby d12_17) _ ?_
    refine XS.lstore X0.here hx rfl (hb hby d12_18) rfl (l' := (own_l40 ax pn u7)) rfl ?_
    refine XS.lload X0.here hx rfl (hb hby d12_20) rfl ?_
    refine XS.aloadN X0.here hx rfl (hb hby d12_22) rfl rfl ?_
    refine XS.iloadN X0.here hx rfl (hb hby d12_23) rfl ?_
    refine XS.iconst X0.here hx rfl (hb hby d12_24) ?_
    refine XS.isub X0.here hx rfl (hb hby d12_25) rfl ?_
    show Steps p.tables e below (T0.setTop (mkF m 26 (own_l40 ax pn u7) [(.int ((7 : Int32) - (1 : Int32))), (.ref ax), (.long u7)])) _
    rw [show ((7 : Int32) - (1 : Int32)) = (6 : Int32) from by decide]
    show Steps p.tables e below (T0.setTop (mkF m 26 (own_l40 ax pn u7) [(.int (6 : Int32)), (.ref ax), (.long u7)])) _
    obtain ⟨cl58, Ar58, q58, S58, N58, H58, G58⟩ := id V0
    have hin58 : ¬ ((6 : Int32) < 0 ∨ cl58.slots.size ≤ ((6 : Int32)).toNatClampNeg) := inb_of S58 ⟨by decide, own_ltk hk (by decide)⟩
    refine X0.laload hx (j := (6 : Int32)) (v := (.long u6)) (by rw [e0]; exact Ar58.1) (State.isArrayOf_alike hZ.alike Ar58.2.1) Ar58.2.2 hin58 (H58.at hin58 rfl) (g := (mkF m 26 (own_l40 ax pn u7) [(.int (6 : Int32)), (.ref ax), (.long u7)])) rfl rfl (hb hby d12_26) _ ?_
    refine XS.lcmp X0.here hx rfl (hb hby d12_27) rfl ?_
    refine XS.ifYes X0.here hx rfl (pc0 := 28) (pc' := 66) rfl (hb hby d12_28) rfl ((if0 _ _).trans (flt (fun q => hnm ((lw_lt u7 u6).mp q))).2.1) (by decide) (by decide) ?_
    refine XS.goto X0.here hx rfl (pc0 := 66) (pc' := 3) rfl (hb hby d12_66) (by decide) (by decide) ?_
    exact k
  exact K _ _ _ _ _ X0 e0 N0 (Keep.refl h0 [ax]) V0
abbrev own_l41 (x0 : Addr) (x1 : Int32) (x2 : Int32) (x3 : Int64) : Array Slot := #[.val (.ref x0), .val (.int (0 : Int32)), .val (.int x1), .val (.int x2), .val (.int ((7 : Int32) + (1 : Int32))), .val (.long x3), .second]
abbrev own_l42 (x0 : Addr) (x1 : Int32) (x2 : Int32) (x3 : Int64) : Array Slot := #[.val (.ref x0), .val (.int (0 : Int32)), .val (.int x1), .val (.int x2), .val (.int (8 : Int32)), .val (.long x3), .second]
abbrev own_l43 (x0 : Addr) (x1 : Int32) (x2 : Int64) : Array Slot := #[.val (.ref x0), .val (.int (0 : Int32)), .val (.int x1), .val (.int (8 : Int32)), .val (.int (8 : Int32)), .val (.long x2), .second]
set_option maxRecDepth 65536 in
set_option maxHeartbeats 40000000 in
theorem own_tn8 {p : Program} {l : Launch} {e : Env} {s : State} {m : MethodId} {args : Array Value} {below : List Frame} {meth : Method} {c : Code} {T0 : State} {locs : List Loc} {Z : State} {n0 : Nat} {h0 : Heap} {C : State → Outcome → Prop} {R : Room} {cells slots : Nat} {ax : Addr} {kk : ClassId} {pn pi : Int32} {qi u0 u1 u2 u3 u4 u5 u6 u7 u8 : Int64} {rest : List Value} (X0 : Stand p l e R s m args below meth c T0 locs cells slots) (hx : p.tables.exec = Jvm.exec) (hZ : Z.Warmed39 s.vm) (hby : c.code = jdk_2529_method_15_code) (e0 : T0.heap = h0) (N0 : Fr n0 locs) (ga : n0 ≤ ax) (hk : (8 : Int32) < pn) (hnm : ¬ u8 < u7) (V0 : Arv Z h0 ax kk .long pn ((.long u0) :: (.long u1) :: (.long u2) :: (.long u3) :: (.long u4) :: (.long u5) :: (.long u6) :: (.long u7) :: (.long u8) :: rest) (.long (0 : Int64)))
    (K : ∀ (T' : State) (h' : Heap) (locs' : List Loc) (pi' : Int32) (qi' : Int64), Stand p l e R s m args below meth c T' locs' cells slots → T'.heap = h' → Fr n0 locs' → Keep h0 h' [ax] → Arv Z h' ax kk .long pn ((.long u0) :: (.long u1) :: (.long u2) :: (.long u3) :: (.long u4) :: (.long u5) :: (.long u6) :: (.long u7) :: (.long u8) :: rest) (.long (0 : Int64)) → ∃ s₂ o, Steps p.tables e below (T'.setTop (mkF m 3 #[.val (.ref ax), .val (.int (0 : Int32)), .val (.int pn), .val (.int pi'), .val (.int (8 : Int32)), .val (.long qi'), .second] [])) s₂ ∧ C s₂ o) :
    ∃ s₂ o, Steps p.tables e below (T0.setTop (mkF m 3 (own_l39 ax pn pi qi) [])) s₂ ∧ C s₂ o := by
  refine own_pre (A := (T0.setTop (mkF m 3 (own_l43 ax pn u8) []))) ?_ ?_
  · intro t k
    refine XS.iinc X0.here hx rfl (hb hby d12_3) rfl (l' := (own_l41 ax pn pi qi)) rfl ?_
    show Steps  p.tables e below (T0.setTop (mkF m 6 #[.val (.ref ax), .val (.int (0 : Int32)), .val (.int pn), .val (.int pi), .val (.int ((7 : Int32) + (1 : Int32))), .val (.long qi), .second] [])) _
    rw [show ((7 : Int32) + (1 : Int32)) = (8 : Int32) from by decide]
    refine XS.iload X0.here hx rfl (hb hby d12_6) rfl ?_
    refine XS.iloadN X0.here hx rfl (hb hby d12_8) rfl ?_
    refine XS.icmpNo X0.here hx rfl (hb hby d12_9) rfl (tlt hk).2.1 ?_
    refine XS.aloadN X0.here hx rfl (hb hby d12_12) rfl rfl ?_
    refine XS.iload X0.here hx rfl (hb hby d12_13) rfl ?_
    refine XS.dup X0.here hx rfl (hb hby d12_15) rfl rfl ?_
    refine XS.istoreN X0.here hx rfl (hb hby d12_16) rfl (l' := (own_l43 ax pn qi)) rfl ?_
    show Steps p.tables e below (T0.setTop (mkF m 17 (own_l43 ax pn qi) [(.int (8 : Int32)), (.ref ax)])) _
    obtain ⟨cl59, Ar59, q59, S59, N59, H59, G59⟩ := id V0
    have hin59 : ¬ ((8 : Int32) < 0 ∨ cl59.slots.size ≤ ((8 : Int32)).toNatClampNeg) := inb_of S59 ⟨by decide, own_ltk hk (by decide)⟩
    refine X0.laload hx (j := (8 : Int32)) (v := (.long u8)) (by rw [e0]; exact Ar59.1) (State.isArrayOf_alike hZ.alike Ar59.2.1) Ar59.2.2 hin59 (H59.at hin59 rfl) (g := (mkF m 17 (own_l43 ax pn qi) [(.int (8 : Int32)), (.ref ax)])) rfl rfl (hb hby d12_17) _ ?_
    refine XS.lstore X0.here hx rfl (hb hby d12_18) rfl (l' := (own_l43 ax pn u8)) rfl ?_
    refine XS.lload X0.here hx rfl (hb hby d12_20) rfl ?_
    refine XS.aloadN X0.here hx rfl (hb hby d12_22) rfl rfl ?_
    refine XS.iloadN X0.here hx rfl (hb hby d12_23) rfl ?_
    refine XS.iconst X0.here hx rfl (hb hby d12_24) ?_
    refine XS.isub X0.here hx rfl (hb hby d12_25) rfl ?_
    show Steps p.tables e below (T0.setTop (mkF m 26 (own_l43 ax pn u8) [(.int ((8 : Int32) - (1 : Int32))), (.ref ax), (.long u8)])) _
    rw [show ((8 : Int32) - (1 : Int32)) = (7 : Int32) from by decide]
    show Steps p.tables e below (T0.setTop (mkF m 26 (own_l43 ax pn u8) [(.int (7 : Int32)), (.ref ax), (.long u8)])) _
    obtain ⟨cl60, Ar60, q60, S60, N60, H60, G60⟩ := id V0
    have hin60 : ¬ ((7 : Int32) < 0 ∨ cl60.slots.size ≤ ((7 : Int32)).toNatClampNeg) := inb_of S60 ⟨by decide, own_ltk hk (by decide)⟩
    refine X0.laload hx (j := (7 : Int32)) (v := (.long u7)) (by rw [e0]; exact Ar60.1) (State.isArrayOf_alike hZ.alike Ar60.2.1) Ar60.2.2 hin60 (H60.at hin60 rfl) (g := (mkF m 26 (own_l43 ax pn u8) [(.int (7 : Int32)), (.ref ax), (.long u8)])) rfl rfl (hb hby d12_26) _ ?_
    refine XS.lcmp X0.here hx rfl (hb hby d12_27) rfl ?_
    refine XS.ifYes X0.here hx rfl (pc0 := 28) (pc' := 66) rfl (hb hby d12_28) rfl ((if0 _ _).trans (flt (fun q => hnm ((lw_lt u8 u7).mp q))).2.1) (by decide) (by decide) ?_
    refine XS.goto X0.here hx rfl (pc0 := 66) (pc' := 3) rfl (hb hby d12_66) (by decide) (by decide) ?_
    exact k
  exact K _ _ _ _ _ X0 e0 N0 (Keep.refl h0 [ax]) V0
abbrev own_l44 (x0 : Addr) (x1 : Int32) (x2 : Int64) : Array Slot := #[.val (.ref x0), .val (.int (0 : Int32)), .val (.int x1), .val (.int ((1 : Int32) + (-1 : Int32))), .val (.int (2 : Int32)), .val (.long x2), .second]
abbrev own_l45 (x0 : Addr) (x1 : Int32) (x2 : Int64) : Array Slot := #[.val (.ref x0), .val (.int (0 : Int32)), .val (.int x1), .val (.int (1 : Int32)), .val (.int (2 : Int32)), .val (.long x2), .second]
abbrev own_l46 (x0 : Addr) (x1 : Int32) (x2 : Int64) : Array Slot := #[.val (.ref x0), .val (.int (0 : Int32)), .val (.int x1), .val (.int (0 : Int32)), .val (.int (2 : Int32)), .val (.long x2), .second]
set_option maxRecDepth 65536 in
set_option maxHeartbeats 40000000 in
theorem own_ti2_lt {p : Program} {l : Launch} {e : Env} {s : State} {m : MethodId} {args : Array Value} {below : List Frame} {meth : Method} {c : Code} {T0 : State} {locs : List Loc} {Z : State} {n0 : Nat} {h0 : Heap} {C : State → Outcome → Prop} {R : Room} {cells slots : Nat} {ax : Addr} {kk : ClassId} {pn pi : Int32} {qx qy qi : Int64} {rest : List Value} (X0 : Stand p l e R s m args below meth c T0 locs cells slots) (hx : p.tables.exec = Jvm.exec) (hZ : Z.Warmed39 s.vm) (hby : c.code = jdk_2529_method_15_code) (e0 : T0.heap = h0) (N0 : Fr n0 locs) (ga : n0 ≤ ax) (hk : (2 : Int32) < pn) (hxy : qx < qy) (V0 : Arv Z h0 ax kk .long pn ((.long qx) :: (.long qy) :: (.long qx) :: rest) (.long (0 : Int64)))
    (K : ∀ (T' : State) (h' : Heap) (locs' : List Loc) (pi' : Int32) (qi' : Int64), Stand p l e R s m args below meth c T' locs' cells slots → T'.heap = h' → Fr n0 locs' → Keep h0 h' [ax] → Arv Z h' ax kk .long pn ((.long qx) :: (.long qx) :: (.long qy) :: rest) (.long (0 : Int64)) → ∃ s₂ o, Steps p.tables e below (T'.setTop (mkF m 3 #[.val (.ref ax), .val (.int (0 : Int32)), .val (.int pn), .val (.int pi'), .val (.int (2 : Int32)), .val (.long qi'), .second] [])) s₂ ∧ C s₂ o) :
    ∃ s₂ o, Steps p.tables e below (T0.setTop (mkF m 3 (own_l22 ax pn pi qi) [])) s₂ ∧ C s₂ o := by
  refine own_pre (A := (T0.setTop (mkF m 31 (own_l25 ax pn qx) []))) ?_ ?_
  · intro t k
    refine XS.iinc X0.here hx rfl (hb hby d12_3) rfl (l' := (own_l23 ax pn pi qi)) rfl ?_
    show Steps  p.tables e below (T0.setTop (mkF m 6 #[.val (.ref ax), .val (.int (0 : Int32)), .val (.int pn), .val (.int pi), .val (.int ((1 : Int32) + (1 : Int32))), .val (.long qi), .second] [])) _
    rw [show ((1 : Int32) + (1 : Int32)) = (2 : Int32) from by decide]
    refine XS.iload X0.here hx rfl (hb hby d12_6) rfl ?_
    refine XS.iloadN X0.here hx rfl (hb hby d12_8) rfl ?_
    refine XS.icmpNo X0.here hx rfl (hb hby d12_9) rfl (tlt hk).2.1 ?_
    refine XS.aloadN X0.here hx rfl (hb hby d12_12) rfl rfl ?_
    refine XS.iload X0.here hx rfl (hb hby d12_13) rfl ?_
    refine XS.dup X0.here hx rfl (hb hby d12_15) rfl rfl ?_
    refine XS.istoreN X0.here hx rfl (hb hby d12_16) rfl (l' := (own_l25 ax pn qi)) rfl ?_
    show Steps p.tables e below (T0.setTop (mkF m 17 (own_l25 ax pn qi) [(.int (2 : Int32)), (.ref ax)])) _
    obtain ⟨cl61, Ar61, q61, S61, N61, H61, G61⟩ := id V0
    have hin61 : ¬ ((2 : Int32) < 0 ∨ cl61.slots.size ≤ ((2 : Int32)).toNatClampNeg) := inb_of S61 ⟨by decide, own_ltk hk (by decide)⟩
    refine X0.laload hx (j := (2 : Int32)) (v := (.long qx)) (by rw [e0]; exact Ar61.1) (State.isArrayOf_alike hZ.alike Ar61.2.1) Ar61.2.2 hin61 (H61.at hin61 rfl) (g := (mkF m 17 (own_l25 ax pn qi) [(.int (2 : Int32)), (.ref ax)])) rfl rfl (hb hby d12_17) _ ?_
    refine XS.lstore X0.here hx rfl (hb hby d12_18) rfl (l' := (own_l25 ax pn qx)) rfl ?_
    refine XS.lload X0.here hx rfl (hb hby d12_20) rfl ?_
    refine XS.aloadN X0.here hx rfl (hb hby d12_22) rfl rfl ?_
    refine XS.iloadN X0.here hx rfl (hb hby d12_23) rfl ?_
    refine XS.iconst X0.here hx rfl (hb hby d12_24) ?_
    refine XS.isub X0.here hx rfl (hb hby d12_25) rfl ?_
    show Steps p.tables e below (T0.setTop (mkF m 26 (own_l25 ax pn qx) [(.int ((2 : Int32) - (1 : Int32))), (.ref ax), (.long qx)])) _
    rw [show ((2 : Int32) - (1 : Int32)) = (1 : Int32) from by decide]
    show Steps p.tables e below (T0.setTop (mkF m 26 (own_l25 ax pn qx) [(.int (1 : Int32)), (.ref ax), (.long qx)])) _
    obtain ⟨cl62, Ar62, q62, S62, N62, H62, G62⟩ := id V0
    have hin62 : ¬ ((1 : Int32) < 0 ∨ cl62.slots.size ≤ ((1 : Int32)).toNatClampNeg) := inb_of S62 ⟨by decide, own_ltk hk (by decide)⟩
    refine X0.laload hx (j := (1 : Int32)) (v := (.long qy)) (by rw [e0]; exact Ar62.1) (State.isArrayOf_alike hZ.alike Ar62.2.1) Ar62.2.2 hin62 (H62.at hin62 rfl) (g := (mkF m 26 (own_l25 ax pn qx) [(.int (1 : Int32)), (.ref ax), (.long qx)])) rfl rfl (hb hby d12_26) _ ?_
    refine XS.lcmp X0.here hx rfl (hb hby d12_27) rfl ?_
    refine XS.ifNo X0.here hx rfl (hb hby d12_28) rfl ((if0 _ _).trans (tlt ((lw_lt qx qy).mpr hxy)).2.1) ?_
    exact k
  refine own_sh2 X0 hx hZ hby e0 N0 ga (own_ltk hk (by decide)) hxy V0 ?_
  intro T63 h63 locs63 X63 e63 N63 K63 V63
  have Kc63 : Keep h0 h63 [ax] := (Keep.refl h0 [ax]).trans K63 (allS (Or.inl (List.mem_of_getElem? (i := 0) rfl)) all0)
  refine own_pre (A := (T63.setTop (mkF m 65 (own_l46 ax pn qx) [(.long qx), (.int (1 : Int32)), (.ref ax)]))) ?_ ?_
  · intro t k
    refine XS.iinc X63.here hx rfl (hb hby d12_31) rfl (l' := (own_l44 ax pn qx)) rfl ?_
    show Steps  p.tables e below (T63.setTop (mkF m 34 #[.val (.ref ax), .val (.int (0 : Int32)), .val (.int pn), .val (.int ((1 : Int32) + (-1 : Int32))), .val (.int (2 : Int32)), .val (.long qx), .second] [])) _
    rw [show ((1 : Int32) + (-1 : Int32)) = (0 : Int32) from by decide]
    refine XS.iloadN X63.here hx rfl (hb hby d12_34) rfl ?_
    refine XS.iloadN X63.here hx rfl (hb hby d12_35) rfl ?_
    refine XS.icmpNo X63.here hx rfl (hb hby d12_36) rfl (flt (by decide : ¬ ((0 : Int32) < (0 : Int32)))).1 ?_
    refine XS.lload X63.here hx rfl (hb hby d12_39) rfl ?_
    refine XS.aloadN X63.here hx rfl (hb hby d12_41) rfl rfl ?_
    refine XS.iloadN X63.here hx rfl (hb hby d12_42) rfl ?_
    show Steps p.tables e below (T63.setTop (mkF m 43 (own_l46 ax pn qx) [(.int (0 : Int32)), (.ref ax), (.long qx)])) _
    obtain ⟨cl64, Ar64, q64, S64, N64, H64, G64⟩ := id V63
    have hin64 : ¬ ((0 : Int32) < 0 ∨ cl64.slots.size ≤ ((0 : Int32)).toNatClampNeg) := inb_of S64 ⟨by decide, own_ltk hk (by decide)⟩
    refine X63.laload hx (j := (0 : Int32)) (v := (.long qx)) (by rw [e63]; exact Ar64.1) (State.isArrayOf_alike hZ.alike Ar64.2.1) Ar64.2.2 hin64 (H64.at hin64 rfl) (g := (mkF m 43 (own_l46 ax pn qx) [(.int (0 : Int32)), (.ref ax), (.long qx)])) rfl rfl (hb hby d12_43) _ ?_
    refine XS.lcmp X63.here hx rfl (hb hby d12_44) rfl ?_
    refine XS.ifYes X63.here hx rfl (pc0 := 45) (pc' := 59) rfl (hb hby d12_45) rfl ((if0 _ _).trans (flt (fun q => (own_irr qx) ((lw_lt qx qx).mp q))).2.1) (by decide) (by decide) ?_
    refine XS.aloadN X63.here hx rfl (hb hby d12_59) rfl rfl ?_
    refine XS.iloadN X63.here hx rfl (hb hby d12_60) rfl ?_
    refine XS.iconst X63.here hx rfl (hb hby d12_61) ?_
    refine XS.iadd X63.here hx rfl (hb hby d12_62) rfl ?_
    show Steps p.tables e below (T63.setTop (mkF m 63 (own_l46 ax pn qx) [(.int ((0 : Int32) + (1 : Int32))), (.ref ax)])) _
    rw [show ((0 : Int32) + (1 : Int32)) = (1 : Int32) from by decide]
    refine XS.lload X63.here hx rfl (hb hby d12_63) rfl ?_
    exact k
  obtain ⟨cl65, Ar65, q65, S65, N65, H65, G65⟩ := V63
  have hin65 : ¬ ((1 : Int32) < 0 ∨ cl65.slots.size ≤ ((1 : Int32)).toNatClampNeg) := inb_of S65 ⟨by decide, own_ltk hk (by decide)⟩
  obtain ⟨T65, h65, X65, e65, W65, st65⟩ := stJ X63 hx hZ e63 Ar65 (j := (1 : Int32)) hin65 (g := (mkF m 65 (own_l46 ax pn qx) [(.long qx), (.int (1 : Int32)), (.ref ax)])) rfl rfl (hb hby d12_65)
  have V65 : Arv Z h65 ax kk .long pn ((.long qx) :: (.long qx) :: (.long qy) :: rest) (.long (0 : Int64)) := Arv.set Ar65 q65 S65 N65 H65 G65 rfl W65 1 rfl (by simp only [List.length_cons]; omega)
  have Kc65 : Keep h0 h65 [ax] := Kc63.wr W65 (Or.inl (List.mem_of_getElem? (i := 0) rfl))
  have N65 := Fr.snoc X65 N63 ga
  refine own_pre (fun t k => st65 t k) ?_
  refine own_pre (A := (T65.setTop (mkF m 3 (own_l46 ax pn qx) []))) ?_ ?_
  · intro t k
    refine XS.goto X65.here hx rfl (pc0 := 66) (pc' := 3) rfl (hb hby d12_66) (by decide) (by decide) ?_
    exact k
  exact K _ _ _ _ _ X65 e65 N65 Kc65 V65
abbrev own_l47 (x0 : Addr) (x1 : Int32) (x2 : Int64) : Array Slot := #[.val (.ref x0), .val (.int (0 : Int32)), .val (.int x1), .val (.int ((2 : Int32) + (-1 : Int32))), .val (.int (4 : Int32)), .val (.long x2), .second]
abbrev own_l48 (x0 : Addr) (x1 : Int32) (x2 : Int64) : Array Slot := #[.val (.ref x0), .val (.int (0 : Int32)), .val (.int x1), .val (.int (2 : Int32)), .val (.int (4 : Int32)), .val (.long x2), .second]
abbrev own_l49 (x0 : Addr) (x1 : Int32) (x2 : Int64) : Array Slot := #[.val (.ref x0), .val (.int (0 : Int32)), .val (.int x1), .val (.int (1 : Int32)), .val (.int (4 : Int32)), .val (.long x2), .second]
set_option maxRecDepth 65536 in
set_option maxHeartbeats 40000000 in
theorem own_ti4_lt {p : Program} {l : Launch} {e : Env} {s : State} {m : MethodId} {args : Array Value} {below : List Frame} {meth : Method} {c : Code} {T0 : State} {locs : List Loc} {Z : State} {n0 : Nat} {h0 : Heap} {C : State → Outcome → Prop} {R : Room} {cells slots : Nat} {ax : Addr} {kk : ClassId} {pn pi : Int32} {qx qy qi : Int64} {rest : List Value} (X0 : Stand p l e R s m args below meth c T0 locs cells slots) (hx : p.tables.exec = Jvm.exec) (hZ : Z.Warmed39 s.vm) (hby : c.code = jdk_2529_method_15_code) (e0 : T0.heap = h0) (N0 : Fr n0 locs) (ga : n0 ≤ ax) (hk : (4 : Int32) < pn) (hxy : qx < qy) (V0 : Arv Z h0 ax kk .long pn ((.long qx) :: (.long qx) :: (.long qy) :: (.long qy) :: (.long qx) :: rest) (.long (0 : Int64)))
    (K : ∀ (T' : State) (h' : Heap) (locs' : List Loc) (pi' : Int32) (qi' : Int64), Stand p l e R s m args below meth c T' locs' cells slots → T'.heap = h' → Fr n0 locs' → Keep h0 h' [ax] → Arv Z h' ax kk .long pn ((.long qx) :: (.long qx) :: (.long qx) :: (.long qy) :: (.long qy) :: rest) (.long (0 : Int64)) → ∃ s₂ o, Steps p.tables e below (T'.setTop (mkF m 3 #[.val (.ref ax), .val (.int (0 : Int32)), .val (.int pn), .val (.int pi'), .val (.int (4 : Int32)), .val (.long qi'), .second] [])) s₂ ∧ C s₂ o) :
    ∃ s₂ o, Steps p.tables e below (T0.setTop (mkF m 3 (own_l27 ax pn pi qi) [])) s₂ ∧ C s₂ o := by
  refine own_pre (A := (T0.setTop (mkF m 31 (own_l31 ax pn qx) []))) ?_ ?_
  · intro t k
    refine XS.iinc X0.here hx rfl (hb hby d12_3) rfl (l' := (own_l29 ax pn pi qi)) rfl ?_
    show Steps  p.tables e below (T0.setTop (mkF m 6 #[.val (.ref ax), .val (.int (0 : Int32)), .val (.int pn), .val (.int pi), .val (.int ((3 : Int32) + (1 : Int32))), .val (.long qi), .second] [])) _
    rw [show ((3 : Int32) + (1 : Int32)) = (4 : Int32) from by decide]
    refine XS.iload X0.here hx rfl (hb hby d12_6) rfl ?_
    refine XS.iloadN X0.here hx rfl (hb hby d12_8) rfl ?_
    refine XS.icmpNo X0.here hx rfl (hb hby d12_9) rfl (tlt hk).2.1 ?_
    refine XS.aloadN X0.here hx rfl (hb hby d12_12) rfl rfl ?_
    refine XS.iload X0.here hx rfl (hb hby d12_13) rfl ?_
    refine XS.dup X0.here hx rfl (hb hby d12_15) rfl rfl ?_
    refine XS.istoreN X0.here hx rfl (hb hby d12_16) rfl (l' := (own_l31 ax pn qi)) rfl ?_
    show Steps p.tables e below (T0.setTop (mkF m 17 (own_l31 ax pn qi) [(.int (4 : Int32)), (.ref ax)])) _
    obtain ⟨cl66, Ar66, q66, S66, N66, H66, G66⟩ := id V0
    have hin66 : ¬ ((4 : Int32) < 0 ∨ cl66.slots.size ≤ ((4 : Int32)).toNatClampNeg) := inb_of S66 ⟨by decide, own_ltk hk (by decide)⟩
    refine X0.laload hx (j := (4 : Int32)) (v := (.long qx)) (by rw [e0]; exact Ar66.1) (State.isArrayOf_alike hZ.alike Ar66.2.1) Ar66.2.2 hin66 (H66.at hin66 rfl) (g := (mkF m 17 (own_l31 ax pn qi) [(.int (4 : Int32)), (.ref ax)])) rfl rfl (hb hby d12_17) _ ?_
    refine XS.lstore X0.here hx rfl (hb hby d12_18) rfl (l' := (own_l31 ax pn qx)) rfl ?_
    refine XS.lload X0.here hx rfl (hb hby d12_20) rfl ?_
    refine XS.aloadN X0.here hx rfl (hb hby d12_22) rfl rfl ?_
    refine XS.iloadN X0.here hx rfl (hb hby d12_23) rfl ?_
    refine XS.iconst X0.here hx rfl (hb hby d12_24) ?_
    refine XS.isub X0.here hx rfl (hb hby d12_25) rfl ?_
    show Steps p.tables e below (T0.setTop (mkF m 26 (own_l31 ax pn qx) [(.int ((4 : Int32) - (1 : Int32))), (.ref ax), (.long qx)])) _
    rw [show ((4 : Int32) - (1 : Int32)) = (3 : Int32) from by decide]
    show Steps p.tables e below (T0.setTop (mkF m 26 (own_l31 ax pn qx) [(.int (3 : Int32)), (.ref ax), (.long qx)])) _
    obtain ⟨cl67, Ar67, q67, S67, N67, H67, G67⟩ := id V0
    have hin67 : ¬ ((3 : Int32) < 0 ∨ cl67.slots.size ≤ ((3 : Int32)).toNatClampNeg) := inb_of S67 ⟨by decide, own_ltk hk (by decide)⟩
    refine X0.laload hx (j := (3 : Int32)) (v := (.long qy)) (by rw [e0]; exact Ar67.1) (State.isArrayOf_alike hZ.alike Ar67.2.1) Ar67.2.2 hin67 (H67.at hin67 rfl) (g := (mkF m 26 (own_l31 ax pn qx) [(.int (3 : Int32)), (.ref ax), (.long qx)])) rfl rfl (hb hby d12_26) _ ?_
    refine XS.lcmp X0.here hx rfl (hb hby d12_27) rfl ?_
    refine XS.ifNo X0.here hx rfl (hb hby d12_28) rfl ((if0 _ _).trans (tlt ((lw_lt qx qy).mpr hxy)).2.1) ?_
    exact k
  refine own_sh4 X0 hx hZ hby e0 N0 ga (own_ltk hk (by decide)) hxy V0 ?_
  intro T68 h68 locs68 X68 e68 N68 K68 V68
  have Kc68 : Keep h0 h68 [ax] := (Keep.refl h0 [ax]).trans K68 (allS (Or.inl (List.mem_of_getElem? (i := 0) rfl)) all0)
  refine own_sh3 X68 hx hZ hby e68 N68 ga (own_ltk hk (by decide)) hxy V68 ?_
  intro T69 h69 locs69 X69 e69 N69 K69 V69
  have Kc69 : Keep h0 h69 [ax] := Kc68.trans K69 (allS (Or.inl (List.mem_of_getElem? (i := 0) rfl)) all0)
  refine own_pre (A := (T69.setTop (mkF m 65 (own_l49 ax pn qx) [(.long qx), (.int (2 : Int32)), (.ref ax)]))) ?_ ?_
  · intro t k
    refine XS.iinc X69.here hx rfl (hb hby d12_31) rfl (l' := (own_l47 ax pn qx)) rfl ?_
    show Steps  p.tables e below (T69.setTop (mkF m 34 #[.val (.ref ax), .val (.int (0 : Int32)), .val (.int pn), .val (.int ((2 : Int32) + (-1 : Int32))), .val (.int (4 : Int32)), .val (.long qx), .second] [])) _
    rw [show ((2 : Int32) + (-1 : Int32)) = (1 : Int32) from by decide]
    refine XS.iloadN X69.here hx rfl (hb hby d12_34) rfl ?_
    refine XS.iloadN X69.here hx rfl (hb hby d12_35) rfl ?_
    refine XS.icmpNo X69.here hx rfl (hb hby d12_36) rfl (flt (by decide : ¬ ((1 : Int32) < (0 : Int32)))).1 ?_
    refine XS.lload X69.here hx rfl (hb hby d12_39) rfl ?_
    refine XS.aloadN X69.here hx rfl (hb hby d12_41) rfl rfl ?_
    refine XS.iloadN X69.here hx rfl (hb hby d12_42) rfl ?_
    show Steps p.tables e below (T69.setTop (mkF m 43 (own_l49 ax pn qx) [(.int (1 : Int32)), (.ref ax), (.long qx)])) _
    obtain ⟨cl70, Ar70, q70, S70, N70, H70, G70⟩ := id V69
    have hin70 : ¬ ((1 : Int32) < 0 ∨ cl70.slots.size ≤ ((1 : Int32)).toNatClampNeg) := inb_of S70 ⟨by decide, own_ltk hk (by decide)⟩
    refine X69.laload hx (j := (1 : Int32)) (v := (.long qx)) (by rw [e69]; exact Ar70.1) (State.isArrayOf_alike hZ.alike Ar70.2.1) Ar70.2.2 hin70 (H70.at hin70 rfl) (g := (mkF m 43 (own_l49 ax pn qx) [(.int (1 : Int32)), (.ref ax), (.long qx)])) rfl rfl (hb hby d12_43) _ ?_
    refine XS.lcmp X69.here hx rfl (hb hby d12_44) rfl ?_
    refine XS.ifYes X69.here hx rfl (pc0 := 45) (pc' := 59) rfl (hb hby d12_45) rfl ((if0 _ _).trans (flt (fun q => (own_irr qx) ((lw_lt qx qx).mp q))).2.1) (by decide) (by decide) ?_
    refine XS.aloadN X69.here hx rfl (hb hby d12_59) rfl rfl ?_
    refine XS.iloadN X69.here hx rfl (hb hby d12_60) rfl ?_
    refine XS.iconst X69.here hx rfl (hb hby d12_61) ?_
    refine XS.iadd X69.here hx rfl (hb hby d12_62) rfl ?_
    show Steps p.tables e below (T69.setTop (mkF m 63 (own_l49 ax pn qx) [(.int ((1 : Int32) + (1 : Int32))), (.ref ax)])) _
    rw [show ((1 : Int32) + (1 : Int32)) = (2 : Int32) from by decide]
    refine XS.lload X69.here hx rfl (hb hby d12_63) rfl ?_
    exact k
  obtain ⟨cl71, Ar71, q71, S71, N71, H71, G71⟩ := V69
  have hin71 : ¬ ((2 : Int32) < 0 ∨ cl71.slots.size ≤ ((2 : Int32)).toNatClampNeg) := inb_of S71 ⟨by decide, own_ltk hk (by decide)⟩
  obtain ⟨T71, h71, X71, e71, W71, st71⟩ := stJ X69 hx hZ e69 Ar71 (j := (2 : Int32)) hin71 (g := (mkF m 65 (own_l49 ax pn qx) [(.long qx), (.int (2 : Int32)), (.ref ax)])) rfl rfl (hb hby d12_65)
  have V71 : Arv Z h71 ax kk .long pn ((.long qx) :: (.long qx) :: (.long qx) :: (.long qy) :: (.long qy) :: rest) (.long (0 : Int64)) := Arv.set Ar71 q71 S71 N71 H71 G71 rfl W71 2 rfl (by simp only [List.length_cons]; omega)
  have Kc71 : Keep h0 h71 [ax] := Kc69.wr W71 (Or.inl (List.mem_of_getElem? (i := 0) rfl))
  have N71 := Fr.snoc X71 N69 ga
  refine own_pre (fun t k => st71 t k) ?_
  refine own_pre (A := (T71.setTop (mkF m 3 (own_l49 ax pn qx) []))) ?_ ?_
  · intro t k
    refine XS.goto X71.here hx rfl (pc0 := 66) (pc' := 3) rfl (hb hby d12_66) (by decide) (by decide) ?_
    exact k
  exact K _ _ _ _ _ X71 e71 N71 Kc71 V71
abbrev own_l50 (x0 : Addr) (x1 : Int32) (x2 : Int64) : Array Slot := #[.val (.ref x0), .val (.int (0 : Int32)), .val (.int x1), .val (.int ((3 : Int32) + (-1 : Int32))), .val (.int (6 : Int32)), .val (.long x2), .second]
abbrev own_l51 (x0 : Addr) (x1 : Int32) (x2 : Int64) : Array Slot := #[.val (.ref x0), .val (.int (0 : Int32)), .val (.int x1), .val (.int (3 : Int32)), .val (.int (6 : Int32)), .val (.long x2), .second]
abbrev own_l52 (x0 : Addr) (x1 : Int32) (x2 : Int64) : Array Slot := #[.val (.ref x0), .val (.int (0 : Int32)), .val (.int x1), .val (.int (2 : Int32)), .val (.int (6 : Int32)), .val (.long x2), .second]
set_option maxRecDepth 65536 in
set_option maxHeartbeats 40000000 in
theorem own_ti6_lt {p : Program} {l : Launch} {e : Env} {s : State} {m : MethodId} {args : Array Value} {below : List Frame} {meth : Method} {c : Code} {T0 : State} {locs : List Loc} {Z : State} {n0 : Nat} {h0 : Heap} {C : State → Outcome → Prop} {R : Room} {cells slots : Nat} {ax : Addr} {kk : ClassId} {pn pi : Int32} {qx qy qi : Int64} {rest : List Value} (X0 : Stand p l e R s m args below meth c T0 locs cells slots) (hx : p.tables.exec = Jvm.exec) (hZ : Z.Warmed39 s.vm) (hby : c.code = jdk_2529_method_15_code) (e0 : T0.heap = h0) (N0 : Fr n0 locs) (ga : n0 ≤ ax) (hk : (6 : Int32) < pn) (hxy : qx < qy) (V0 : Arv Z h0 ax kk .long pn ((.long qx) :: (.long qx) :: (.long qx) :: (.long qy) :: (.long qy) :: (.long qy) :: (.long qx) :: rest) (.long (0 : Int64)))
    (K : ∀ (T' : State) (h' : Heap) (locs' : List Loc) (pi' : Int32) (qi' : Int64), Stand p l e R s m args below meth c T' locs' cells slots → T'.heap = h' → Fr n0 locs' → Keep h0 h' [ax] → Arv Z h' ax kk .long pn ((.long qx) :: (.long qx) :: (.long qx) :: (.long qx) :: (.long qy) :: (.long qy) :: (.long qy) :: rest) (.long (0 : Int64)) → ∃ s₂ o, Steps p.tables e below (T'.setTop (mkF m 3 #[.val (.ref ax), .val (.int (0 : Int32)), .val (.int pn), .val (.int pi'), .val (.int (6 : Int32)), .val (.long qi'), .second] [])) s₂ ∧ C s₂ o) :
    ∃ s₂ o, Steps p.tables e below (T0.setTop (mkF m 3 (own_l33 ax pn pi qi) [])) s₂ ∧ C s₂ o := by
  refine own_pre (A := (T0.setTop (mkF m 31 (own_l37 ax pn qx) []))) ?_ ?_
  · intro t k
    refine XS.iinc X0.here hx rfl (hb hby d12_3) rfl (l' := (own_l35 ax pn pi qi)) rfl ?_
    show Steps  p.tables e below (T0.setTop (mkF m 6 #[.val (.ref ax), .val (.int (0 : Int32)), .val (.int pn), .val (.int pi), .val (.int ((5 : Int32) + (1 : Int32))), .val (.long qi), .second] [])) _
    rw [show ((5 : Int32) + (1 : Int32)) = (6 : Int32) from by decide]
    refine XS.iload X0.here hx rfl (hb hby d12_6) rfl ?_
    refine XS.iloadN X0.here hx rfl (hb hby d12_8) rfl ?_
    refine XS.icmpNo X0.here hx rfl (hb hby d12_9) rfl (tlt hk).2.1 ?_
    refine XS.aloadN X0.here hx rfl (hb hby d12_12) rfl rfl ?_
    refine XS.iload X0.here hx rfl (hb hby d12_13) rfl ?_
    refine XS.dup X0.here hx rfl (hb hby d12_15) rfl rfl ?_
    refine XS.istoreN X0.here hx rfl (hb hby d12_16) rfl (l' := (own_l37 ax pn qi)) rfl ?_
    show Steps p.tables e below (T0.setTop (mkF m 17 (own_l37 ax pn qi) [(.int (6 : Int32)), (.ref ax)])) _
    obtain ⟨cl72, Ar72, q72, S72, N72, H72, G72⟩ := id V0
    have hin72 : ¬ ((6 : Int32) < 0 ∨ cl72.slots.size ≤ ((6 : Int32)).toNatClampNeg) := inb_of S72 ⟨by decide, own_ltk hk (by decide)⟩
    refine X0.laload hx (j := (6 : Int32)) (v := (.long qx)) (by rw [e0]; exact Ar72.1) (State.isArrayOf_alike hZ.alike Ar72.2.1) Ar72.2.2 hin72 (H72.at hin72 rfl) (g := (mkF m 17 (own_l37 ax pn qi) [(.int (6 : Int32)), (.ref ax)])) rfl rfl (hb hby d12_17) _ ?_
    refine XS.lstore X0.here hx rfl (hb hby d12_18) rfl (l' := (own_l37 ax pn qx)) rfl ?_
    refine XS.lload X0.here hx rfl (hb hby d12_20) rfl ?_
    refine XS.aloadN X0.here hx rfl (hb hby d12_22) rfl rfl ?_
    refine XS.iloadN X0.here hx rfl (hb hby d12_23) rfl ?_
    refine XS.iconst X0.here hx rfl (hb hby d12_24) ?_
    refine XS.isub X0.here hx rfl (hb hby d12_25) rfl ?_
    show Steps p.tables e below (T0.setTop (mkF m 26 (own_l37 ax pn qx) [(.int ((6 : Int32) - (1 : Int32))), (.ref ax), (.long qx)])) _
    rw [show ((6 : Int32) - (1 : Int32)) = (5 : Int32) from by decide]
    show Steps p.tables e below (T0.setTop (mkF m 26 (own_l37 ax pn qx) [(.int (5 : Int32)), (.ref ax), (.long qx)])) _
    obtain ⟨cl73, Ar73, q73, S73, N73, H73, G73⟩ := id V0
    have hin73 : ¬ ((5 : Int32) < 0 ∨ cl73.slots.size ≤ ((5 : Int32)).toNatClampNeg) := inb_of S73 ⟨by decide, own_ltk hk (by decide)⟩
    refine X0.laload hx (j := (5 : Int32)) (v := (.long qy)) (by rw [e0]; exact Ar73.1) (State.isArrayOf_alike hZ.alike Ar73.2.1) Ar73.2.2 hin73 (H73.at hin73 rfl) (g := (mkF m 26 (own_l37 ax pn qx) [(.int (5 : Int32)), (.ref ax), (.long qx)])) rfl rfl (hb hby d12_26) _ ?_
    refine XS.lcmp X0.here hx rfl (hb hby d12_27) rfl ?_
    refine XS.ifNo X0.here hx rfl (hb hby d12_28) rfl ((if0 _ _).trans (tlt ((lw_lt qx qy).mpr hxy)).2.1) ?_
    exact k
  refine own_sh6 X0 hx hZ hby e0 N0 ga (own_ltk hk (by decide)) hxy V0 ?_
  intro T74 h74 locs74 X74 e74 N74 K74 V74
  have Kc74 : Keep h0 h74 [ax] := (Keep.refl h0 [ax]).trans K74 (allS (Or.inl (List.mem_of_getElem? (i := 0) rfl)) all0)
  refine own_sh5 X74 hx hZ hby e74 N74 ga (own_ltk hk (by decide)) hxy V74 ?_
  intro T75 h75 locs75 X75 e75 N75 K75 V75
  have Kc75 : Keep h0 h75 [ax] := Kc74.trans K75 (allS (Or.inl (List.mem_of_getElem? (i := 0) rfl)) all0)
  refine own_sh4 X75 hx hZ hby e75 N75 ga (own_ltk hk (by decide)) hxy V75 ?_
  intro T76 h76 locs76 X76 e76 N76 K76 V76
  have Kc76 : Keep h0 h76 [ax] := Kc75.trans K76 (allS (Or.inl (List.mem_of_getElem? (i := 0) rfl)) all0)
  refine own_pre (A := (T76.setTop (mkF m 65 (own_l52 ax pn qx) [(.long qx), (.int (3 : Int32)), (.ref ax)]))) ?_ ?_
  · intro t k
    refine XS.iinc X76.here hx rfl (hb hby d12_31) rfl (l' := (own_l50 ax pn qx)) rfl ?_
    show Steps  p.tables e below (T76.setTop (mkF m 34 #[.val (.ref ax), .val (.int (0 : Int32)), .val (.int pn), .val (.int ((3 : Int32) + (-1 : Int32))), .val (.int (6 : Int32)), .val (.long qx), .second] [])) _
    rw [show ((3 : Int32) + (-1 : Int32)) = (2 : Int32) from by decide]
    refine XS.iloadN X76.here hx rfl (hb hby d12_34) rfl ?_
    refine XS.iloadN X76.here hx rfl (hb hby d12_35) rfl ?_
    refine XS.icmpNo X76.here hx rfl (hb hby d12_36) rfl (flt (by decide : ¬ ((2 : Int32) < (0 : Int32)))).1 ?_
    refine XS.lload X76.here hx rfl (hb hby d12_39) rfl ?_
    refine XS.aloadN X76.here hx rfl (hb hby d12_41) rfl rfl ?_
    refine XS.iloadN X76.here hx rfl (hb hby d12_42) rfl ?_
    show Steps p.tables e below (T76.setTop (mkF m 43 (own_l52 ax pn qx) [(.int (2 : Int32)), (.ref ax), (.long qx)])) _
    obtain ⟨cl77, Ar77, q77, S77, N77, H77, G77⟩ := id V76
    have hin77 : ¬ ((2 : Int32) < 0 ∨ cl77.slots.size ≤ ((2 : Int32)).toNatClampNeg) := inb_of S77 ⟨by decide, own_ltk hk (by decide)⟩
    refine X76.laload hx (j := (2 : Int32)) (v := (.long qx)) (by rw [e76]; exact Ar77.1) (State.isArrayOf_alike hZ.alike Ar77.2.1) Ar77.2.2 hin77 (H77.at hin77 rfl) (g := (mkF m 43 (own_l52 ax pn qx) [(.int (2 : Int32)), (.ref ax), (.long qx)])) rfl rfl (hb hby d12_43) _ ?_
    refine XS.lcmp X76.here hx rfl (hb hby d12_44) rfl ?_
    refine XS.ifYes X76.here hx rfl (pc0 := 45) (pc' := 59) rfl (hb hby d12_45) rfl ((if0 _ _).trans (flt (fun q => (own_irr qx) ((lw_lt qx qx).mp q))).2.1) (by decide) (by decide) ?_
    refine XS.aloadN X76.here hx rfl (hb hby d12_59) rfl rfl ?_
    refine XS.iloadN X76.here hx rfl (hb hby d12_60) rfl ?_
    refine XS.iconst X76.here hx rfl (hb hby d12_61) ?_
    refine XS.iadd X76.here hx rfl (hb hby d12_62) rfl ?_
    show Steps p.tables e below (T76.setTop (mkF m 63 (own_l52 ax pn qx) [(.int ((2 : Int32) + (1 : Int32))), (.ref ax)])) _
    rw [show ((2 : Int32) + (1 : Int32)) = (3 : Int32) from by decide]
    refine XS.lload X76.here hx rfl (hb hby d12_63) rfl ?_
    exact k
  obtain ⟨cl78, Ar78, q78, S78, N78, H78, G78⟩ := V76
  have hin78 : ¬ ((3 : Int32) < 0 ∨ cl78.slots.size ≤ ((3 : Int32)).toNatClampNeg) := inb_of S78 ⟨by decide, own_ltk hk (by decide)⟩
  obtain ⟨T78, h78, X78, e78, W78, st78⟩ := stJ X76 hx hZ e76 Ar78 (j := (3 : Int32)) hin78 (g := (mkF m 65 (own_l52 ax pn qx) [(.long qx), (.int (3 : Int32)), (.ref ax)])) rfl rfl (hb hby d12_65)
  have V78 : Arv Z h78 ax kk .long pn ((.long qx) :: (.long qx) :: (.long qx) :: (.long qx) :: (.long qy) :: (.long qy) :: (.long qy) :: rest) (.long (0 : Int64)) := Arv.set Ar78 q78 S78 N78 H78 G78 rfl W78 3 rfl (by simp only [List.length_cons]; omega)
  have Kc78 : Keep h0 h78 [ax] := Kc76.wr W78 (Or.inl (List.mem_of_getElem? (i := 0) rfl))
  have N78 := Fr.snoc X78 N76 ga
  refine own_pre (fun t k => st78 t k) ?_
  refine own_pre (A := (T78.setTop (mkF m 3 (own_l52 ax pn qx) []))) ?_ ?_
  · intro t k
    refine XS.goto X78.here hx rfl (pc0 := 66) (pc' := 3) rfl (hb hby d12_66) (by decide) (by decide) ?_
    exact k
  exact K _ _ _ _ _ X78 e78 N78 Kc78 V78
abbrev own_l53 (x0 : Addr) (x1 : Int32) (x2 : Int64) : Array Slot := #[.val (.ref x0), .val (.int (0 : Int32)), .val (.int x1), .val (.int ((4 : Int32) + (-1 : Int32))), .val (.int (8 : Int32)), .val (.long x2), .second]
abbrev own_l54 (x0 : Addr) (x1 : Int32) (x2 : Int64) : Array Slot := #[.val (.ref x0), .val (.int (0 : Int32)), .val (.int x1), .val (.int (4 : Int32)), .val (.int (8 : Int32)), .val (.long x2), .second]
abbrev own_l55 (x0 : Addr) (x1 : Int32) (x2 : Int64) : Array Slot := #[.val (.ref x0), .val (.int (0 : Int32)), .val (.int x1), .val (.int (3 : Int32)), .val (.int (8 : Int32)), .val (.long x2), .second]
set_option maxRecDepth 65536 in
set_option maxHeartbeats 40000000 in
theorem own_ti8_lt {p : Program} {l : Launch} {e : Env} {s : State} {m : MethodId} {args : Array Value} {below : List Frame} {meth : Method} {c : Code} {T0 : State} {locs : List Loc} {Z : State} {n0 : Nat} {h0 : Heap} {C : State → Outcome → Prop} {R : Room} {cells slots : Nat} {ax : Addr} {kk : ClassId} {pn pi : Int32} {qx qy qi : Int64} {rest : List Value} (X0 : Stand p l e R s m args below meth c T0 locs cells slots) (hx : p.tables.exec = Jvm.exec) (hZ : Z.Warmed39 s.vm) (hby : c.code = jdk_2529_method_15_code) (e0 : T0.heap = h0) (N0 : Fr n0 locs) (ga : n0 ≤ ax) (hk : (8 : Int32) < pn) (hxy : qx < qy) (V0 : Arv Z h0 ax kk .long pn ((.long qx) :: (.long qx) :: (.long qx) :: (.long qx) :: (.long qy) :: (.long qy) :: (.long qy) :: (.long qy) :: (.long qx) :: rest) (.long (0 : Int64)))
    (K : ∀ (T' : State) (h' : Heap) (locs' : List Loc) (pi' : Int32) (qi' : Int64), Stand p l e R s m args below meth c T' locs' cells slots → T'.heap = h' → Fr n0 locs' → Keep h0 h' [ax] → Arv Z h' ax kk .long pn ((.long qx) :: (.long qx) :: (.long qx) :: (.long qx) :: (.long qx) :: (.long qy) :: (.long qy) :: (.long qy) :: (.long qy) :: rest) (.long (0 : Int64)) → ∃ s₂ o, Steps p.tables e below (T'.setTop (mkF m 3 #[.val (.ref ax), .val (.int (0 : Int32)), .val (.int pn), .val (.int pi'), .val (.int (8 : Int32)), .val (.long qi'), .second] [])) s₂ ∧ C s₂ o) :
    ∃ s₂ o, Steps p.tables e below (T0.setTop (mkF m 3 (own_l39 ax pn pi qi) [])) s₂ ∧ C s₂ o := by
  refine own_pre (A := (T0.setTop (mkF m 31 (own_l43 ax pn qx) []))) ?_ ?_
  · intro t k
    refine XS.iinc X0.here hx rfl (hb hby d12_3) rfl (l' := (own_l41 ax pn pi qi)) rfl ?_
    show Steps  p.tables e below (T0.setTop (mkF m 6 #[.val (.ref ax), .val (.int (0 : Int32)), .val (.int pn), .val (.int pi), .val (.int ((7 : Int32) + (1 : Int32))), .val (.long qi), .second] [])) _
    rw [show ((7 : Int32) + (1 : Int32)) = (8 : Int32) from by decide]
    refine XS.iload X0.here hx rfl (hb hby d12_6) rfl ?_
    refine XS.iloadN X0.here hx rfl (hb hby d12_8) rfl ?_
    refine XS.icmpNo X0.here hx rfl (hb hby d12_9) rfl (tlt hk).2.1 ?_
    refine XS.aloadN X0.here hx rfl (hb hby d12_12) rfl rfl ?_
    refine XS.iload X0.here hx rfl (hb hby d12_13) rfl ?_
    refine XS.dup X0.here hx rfl (hb hby d12_15) rfl rfl ?_
    refine XS.istoreN X0.here hx rfl (hb hby d12_16) rfl (l' := (own_l43 ax pn qi)) rfl ?_
    show Steps p.tables e below (T0.setTop (mkF m 17 (own_l43 ax pn qi) [(.int (8 : Int32)), (.ref ax)])) _
    obtain ⟨cl79, Ar79, q79, S79, N79, H79, G79⟩ := id V0
    have hin79 : ¬ ((8 : Int32) < 0 ∨ cl79.slots.size ≤ ((8 : Int32)).toNatClampNeg) := inb_of S79 ⟨by decide, own_ltk hk (by decide)⟩
    refine X0.laload hx (j := (8 : Int32)) (v := (.long qx)) (by rw [e0]; exact Ar79.1) (State.isArrayOf_alike hZ.alike Ar79.2.1) Ar79.2.2 hin79 (H79.at hin79 rfl) (g := (mkF m 17 (own_l43 ax pn qi) [(.int (8 : Int32)), (.ref ax)])) rfl rfl (hb hby d12_17) _ ?_
    refine XS.lstore X0.here hx rfl (hb hby d12_18) rfl (l' := (own_l43 ax pn qx)) rfl ?_
    refine XS.lload X0.here hx rfl (hb hby d12_20) rfl ?_
    refine XS.aloadN X0.here hx rfl (hb hby d12_22) rfl rfl ?_
    refine XS.iloadN X0.here hx rfl (hb hby d12_23) rfl ?_
    refine XS.iconst X0.here hx rfl (hb hby d12_24) ?_
    refine XS.isub X0.here hx rfl (hb hby d12_25) rfl ?_
    show Steps p.tables e below (T0.setTop (mkF m 26 (own_l43 ax pn qx) [(.int ((8 : Int32) - (1 : Int32))), (.ref ax), (.long qx)])) _
    rw [show ((8 : Int32) - (1 : Int32)) = (7 : Int32) from by decide]
    show Steps p.tables e below (T0.setTop (mkF m 26 (own_l43 ax pn qx) [(.int (7 : Int32)), (.ref ax), (.long qx)])) _
    obtain ⟨cl80, Ar80, q80, S80, N80, H80, G80⟩ := id V0
    have hin80 : ¬ ((7 : Int32) < 0 ∨ cl80.slots.size ≤ ((7 : Int32)).toNatClampNeg) := inb_of S80 ⟨by decide, own_ltk hk (by decide)⟩
    refine X0.laload hx (j := (7 : Int32)) (v := (.long qy)) (by rw [e0]; exact Ar80.1) (State.isArrayOf_alike hZ.alike Ar80.2.1) Ar80.2.2 hin80 (H80.at hin80 rfl) (g := (mkF m 26 (own_l43 ax pn qx) [(.int (7 : Int32)), (.ref ax), (.long qx)])) rfl rfl (hb hby d12_26) _ ?_
    refine XS.lcmp X0.here hx rfl (hb hby d12_27) rfl ?_
    refine XS.ifNo X0.here hx rfl (hb hby d12_28) rfl ((if0 _ _).trans (tlt ((lw_lt qx qy).mpr hxy)).2.1) ?_
    exact k
  refine own_sh8 X0 hx hZ hby e0 N0 ga (own_ltk hk (by decide)) hxy V0 ?_
  intro T81 h81 locs81 X81 e81 N81 K81 V81
  have Kc81 : Keep h0 h81 [ax] := (Keep.refl h0 [ax]).trans K81 (allS (Or.inl (List.mem_of_getElem? (i := 0) rfl)) all0)
  refine own_sh7 X81 hx hZ hby e81 N81 ga (own_ltk hk (by decide)) hxy V81 ?_
  intro T82 h82 locs82 X82 e82 N82 K82 V82
  have Kc82 : Keep h0 h82 [ax] := Kc81.trans K82 (allS (Or.inl (List.mem_of_getElem? (i := 0) rfl)) all0)
  refine own_sh6 X82 hx hZ hby e82 N82 ga (own_ltk hk (by decide)) hxy V82 ?_
  intro T83 h83 locs83 X83 e83 N83 K83 V83
  have Kc83 : Keep h0 h83 [ax] := Kc82.trans K83 (allS (Or.inl (List.mem_of_getElem? (i := 0) rfl)) all0)
  refine own_sh5 X83 hx hZ hby e83 N83 ga (own_ltk hk (by decide)) hxy V83 ?_
  intro T84 h84 locs84 X84 e84 N84 K84 V84
  have Kc84 : Keep h0 h84 [ax] := Kc83.trans K84 (allS (Or.inl (List.mem_of_getElem? (i := 0) rfl)) all0)
  refine own_pre (A := (T84.setTop (mkF m 65 (own_l55 ax pn qx) [(.long qx), (.int (4 : Int32)), (.ref ax)]))) ?_ ?_
  · intro t k
    refine XS.iinc X84.here hx rfl (hb hby d12_31) rfl (l' := (own_l53 ax pn qx)) rfl ?_
    show Steps  p.tables e below (T84.setTop (mkF m 34 #[.val (.ref ax), .val (.int (0 : Int32)), .val (.int pn), .val (.int ((4 : Int32) + (-1 : Int32))), .val (.int (8 : Int32)), .val (.long qx), .second] [])) _
    rw [show ((4 : Int32) + (-1 : Int32)) = (3 : Int32) from by decide]
    refine XS.iloadN X84.here hx rfl (hb hby d12_34) rfl ?_
    refine XS.iloadN X84.here hx rfl (hb hby d12_35) rfl ?_
    refine XS.icmpNo X84.here hx rfl (hb hby d12_36) rfl (flt (by decide : ¬ ((3 : Int32) < (0 : Int32)))).1 ?_
    refine XS.lload X84.here hx rfl (hb hby d12_39) rfl ?_
    refine XS.aloadN X84.here hx rfl (hb hby d12_41) rfl rfl ?_
    refine XS.iloadN X84.here hx rfl (hb hby d12_42) rfl ?_
    show Steps p.tables e below (T84.setTop (mkF m 43 (own_l55 ax pn qx) [(.int (3 : Int32)), (.ref ax), (.long qx)])) _
    obtain ⟨cl85, Ar85, q85, S85, N85, H85, G85⟩ := id V84
    have hin85 : ¬ ((3 : Int32) < 0 ∨ cl85.slots.size ≤ ((3 : Int32)).toNatClampNeg) := inb_of S85 ⟨by decide, own_ltk hk (by decide)⟩
    refine X84.laload hx (j := (3 : Int32)) (v := (.long qx)) (by rw [e84]; exact Ar85.1) (State.isArrayOf_alike hZ.alike Ar85.2.1) Ar85.2.2 hin85 (H85.at hin85 rfl) (g := (mkF m 43 (own_l55 ax pn qx) [(.int (3 : Int32)), (.ref ax), (.long qx)])) rfl rfl (hb hby d12_43) _ ?_
    refine XS.lcmp X84.here hx rfl (hb hby d12_44) rfl ?_
    refine XS.ifYes X84.here hx rfl (pc0 := 45) (pc' := 59) rfl (hb hby d12_45) rfl ((if0 _ _).trans (flt (fun q => (own_irr qx) ((lw_lt qx qx).mp q))).2.1) (by decide) (by decide) ?_
    refine XS.aloadN X84.here hx rfl (hb hby d12_59) rfl rfl ?_
    refine XS.iloadN X84.here hx rfl (hb hby d12_60) rfl ?_
    refine XS.iconst X84.here hx rfl (hb hby d12_61) ?_
    refine XS.iadd X84.here hx rfl (hb hby d12_62) rfl ?_
    show Steps p.tables e below (T84.setTop (mkF m 63 (own_l55 ax pn qx) [(.int ((3 : Int32) + (1 : Int32))), (.ref ax)])) _
    rw [show ((3 : Int32) + (1 : Int32)) = (4 : Int32) from by decide]
    refine XS.lload X84.here hx rfl (hb hby d12_63) rfl ?_
    exact k
  obtain ⟨cl86, Ar86, q86, S86, N86, H86, G86⟩ := V84
  have hin86 : ¬ ((4 : Int32) < 0 ∨ cl86.slots.size ≤ ((4 : Int32)).toNatClampNeg) := inb_of S86 ⟨by decide, own_ltk hk (by decide)⟩
  obtain ⟨T86, h86, X86, e86, W86, st86⟩ := stJ X84 hx hZ e84 Ar86 (j := (4 : Int32)) hin86 (g := (mkF m 65 (own_l55 ax pn qx) [(.long qx), (.int (4 : Int32)), (.ref ax)])) rfl rfl (hb hby d12_65)
  have V86 : Arv Z h86 ax kk .long pn ((.long qx) :: (.long qx) :: (.long qx) :: (.long qx) :: (.long qx) :: (.long qy) :: (.long qy) :: (.long qy) :: (.long qy) :: rest) (.long (0 : Int64)) := Arv.set Ar86 q86 S86 N86 H86 G86 rfl W86 4 rfl (by simp only [List.length_cons]; omega)
  have Kc86 : Keep h0 h86 [ax] := Kc84.wr W86 (Or.inl (List.mem_of_getElem? (i := 0) rfl))
  have N86 := Fr.snoc X86 N84 ga
  refine own_pre (fun t k => st86 t k) ?_
  refine own_pre (A := (T86.setTop (mkF m 3 (own_l55 ax pn qx) []))) ?_ ?_
  · intro t k
    refine XS.goto X86.here hx rfl (pc0 := 66) (pc' := 3) rfl (hb hby d12_66) (by decide) (by decide) ?_
    exact k
  exact K _ _ _ _ _ X86 e86 N86 Kc86 V86
abbrev own_l56 (x0 : Addr) (x1 : Int32) (x2 : Int64) : Array Slot := #[.val (.ref x0), .val (.int (0 : Int32)), .val (.int x1), .val (.int ((0 : Int32) + (-1 : Int32))), .val (.int (1 : Int32)), .val (.long x2), .second]
abbrev own_l57 (x0 : Addr) (x1 : Int32) (x2 : Int64) : Array Slot := #[.val (.ref x0), .val (.int (0 : Int32)), .val (.int x1), .val (.int (0 : Int32)), .val (.int (1 : Int32)), .val (.long x2), .second]
abbrev own_l58 (x0 : Addr) (x1 : Int32) (x2 : Int64) : Array Slot := #[.val (.ref x0), .val (.int (0 : Int32)), .val (.int x1), .val (.int (-1 : Int32)), .val (.int (1 : Int32)), .val (.long x2), .second]
set_option maxRecDepth 65536 in
set_option maxHeartbeats 40000000 in
theorem own_ti1_gt {p : Program} {l : Launch} {e : Env} {s : State} {m : MethodId} {args : Array Value} {below : List Frame} {meth : Method} {c : Code} {T0 : State} {locs : List Loc} {Z : State} {n0 : Nat} {h0 : Heap} {C : State → Outcome → Prop} {R : Room} {cells slots : Nat} {ax : Addr} {kk : ClassId} {pn : Int32} {qx qy : Int64} {rest : List Value} (X0 : Stand p l e R s m args below meth c T0 locs cells slots) (hx : p.tables.exec = Jvm.exec) (hZ : Z.Warmed39 s.vm) (hby : c.code = jdk_2529_method_15_code) (e0 : T0.heap = h0) (N0 : Fr n0 locs) (ga : n0 ≤ ax) (hk : (1 : Int32) < pn) (hxy : qy < qx) (V0 : Arv Z h0 ax kk .long pn ((.long qx) :: (.long qy) :: rest) (.long (0 : Int64)))
    (K : ∀ (T' : State) (h' : Heap) (locs' : List Loc) (pi' : Int32) (qi' : Int64), Stand p l e R s m args below meth c T' locs' cells slots → T'.heap = h' → Fr n0 locs' → Keep h0 h' [ax] → Arv Z h' ax kk .long pn ((.long qy) :: (.long qx) :: rest) (.long (0 : Int64)) → ∃ s₂ o, Steps p.tables e below (T'.setTop (mkF m 3 #[.val (.ref ax), .val (.int (0 : Int32)), .val (.int pn), .val (.int pi'), .val (.int (1 : Int32)), .val (.long qi'), .second] [])) s₂ ∧ C s₂ o) :
    ∃ s₂ o, Steps p.tables e below (T0.setTop (mkF m 3 (own_l17 ax pn) [])) s₂ ∧ C s₂ o := by
  refine own_pre (A := (T0.setTop (mkF m 31 (own_l21 ax pn qy) []))) ?_ ?_
  · intro t k
    refine XS.iinc X0.here hx rfl (hb hby d12_3) rfl (l' := (own_l18 ax pn)) rfl ?_
    show Steps  p.tables e below (T0.setTop (mkF m 6 #[.val (.ref ax), .val (.int (0 : Int32)), .val (.int pn), .unset, .val (.int ((0 : Int32) + (1 : Int32))), .unset, .unset] [])) _
    rw [show ((0 : Int32) + (1 : Int32)) = (1 : Int32) from by decide]
    refine XS.iload X0.here hx rfl (hb hby d12_6) rfl ?_
    refine XS.iloadN X0.here hx rfl (hb hby d12_8) rfl ?_
    refine XS.icmpNo X0.here hx rfl (hb hby d12_9) rfl (tlt hk).2.1 ?_
    refine XS.aloadN X0.here hx rfl (hb hby d12_12) rfl rfl ?_
    refine XS.iload X0.here hx rfl (hb hby d12_13) rfl ?_
    refine XS.dup X0.here hx rfl (hb hby d12_15) rfl rfl ?_
    refine XS.istoreN X0.here hx rfl (hb hby d12_16) rfl (l' := (own_l20 ax pn)) rfl ?_
    show Steps p.tables e below (T0.setTop (mkF m 17 (own_l20 ax pn) [(.int (1 : Int32)), (.ref ax)])) _
    obtain ⟨cl87, Ar87, q87, S87, N87, H87, G87⟩ := id V0
    have hin87 : ¬ ((1 : Int32) < 0 ∨ cl87.slots.size ≤ ((1 : Int32)).toNatClampNeg) := inb_of S87 ⟨by decide, own_ltk hk (by decide)⟩
    refine X0.laload hx (j := (1 : Int32)) (v := (.long qy)) (by rw [e0]; exact Ar87.1) (State.isArrayOf_alike hZ.alike Ar87.2.1) Ar87.2.2 hin87 (H87.at hin87 rfl) (g := (mkF m 17 (own_l20 ax pn) [(.int (1 : Int32)), (.ref ax)])) rfl rfl (hb hby d12_17) _ ?_
    refine XS.lstore X0.here hx rfl (hb hby d12_18) rfl (l' := (own_l21 ax pn qy)) rfl ?_
    refine XS.lload X0.here hx rfl (hb hby d12_20) rfl ?_
    refine XS.aloadN X0.here hx rfl (hb hby d12_22) rfl rfl ?_
    refine XS.iloadN X0.here hx rfl (hb hby d12_23) rfl ?_
    refine XS.iconst X0.here hx rfl (hb hby d12_24) ?_
    refine XS.isub X0.here hx rfl (hb hby d12_25) rfl ?_
    show Steps p.tables e below (T0.setTop (mkF m 26 (own_l21 ax pn qy) [(.int ((1 : Int32) - (1 : Int32))), (.ref ax), (.long qy)])) _
    rw [show ((1 : Int32) - (1 : Int32)) = (0 : Int32) from by decide]
    show Steps p.tables e below (T0.setTop (mkF m 26 (own_l21 ax pn qy) [(.int (0 : Int32)), (.ref ax), (.long qy)])) _
    obtain ⟨cl88, Ar88, q88, S88, N88, H88, G88⟩ := id V0
    have hin88 : ¬ ((0 : Int32) < 0 ∨ cl88.slots.size ≤ ((0 : Int32)).toNatClampNeg) := inb_of S88 ⟨by decide, own_ltk hk (by decide)⟩
    refine X0.laload hx (j := (0 : Int32)) (v := (.long qx)) (by rw [e0]; exact Ar88.1) (State.isArrayOf_alike hZ.alike Ar88.2.1) Ar88.2.2 hin88 (H88.at hin88 rfl) (g := (mkF m 26 (own_l21 ax pn qy) [(.int (0 : Int32)), (.ref ax), (.long qy)])) rfl rfl (hb hby d12_26) _ ?_
    refine XS.lcmp X0.here hx rfl (hb hby d12_27) rfl ?_
    refine XS.ifNo X0.here hx rfl (hb hby d12_28) rfl ((if0 _ _).trans (tlt ((lw_lt qy qx).mpr hxy)).2.1) ?_
    exact k
  refine own_sh1 X0 hx hZ hby e0 N0 ga (own_ltk hk (by decide)) hxy V0 ?_
  intro T89 h89 locs89 X89 e89 N89 K89 V89
  have Kc89 : Keep h0 h89 [ax] := (Keep.refl h0 [ax]).trans K89 (allS (Or.inl (List.mem_of_getElem? (i := 0) rfl)) all0)
  refine own_pre (A := (T89.setTop (mkF m 65 (own_l58 ax pn qy) [(.long qy), (.int (0 : Int32)), (.ref ax)]))) ?_ ?_
  · intro t k
    refine XS.iinc X89.here hx rfl (hb hby d12_31) rfl (l' := (own_l56 ax pn qy)) rfl ?_
    show Steps  p.tables e below (T89.setTop (mkF m 34 #[.val (.ref ax), .val (.int (0 : Int32)), .val (.int pn), .val (.int ((0 : Int32) + (-1 : Int32))), .val (.int (1 : Int32)), .val (.long qy), .second] [])) _
    rw [show ((0 : Int32) + (-1 : Int32)) = (-1 : Int32) from by decide]
    refine XS.iloadN X89.here hx rfl (hb hby d12_34) rfl ?_
    refine XS.iloadN X89.here hx rfl (hb hby d12_35) rfl ?_
    refine XS.icmpYes X89.here hx rfl (pc0 := 36) (pc' := 59) rfl (hb hby d12_36) rfl (tlt (by decide : (-1 : Int32) < (0 : Int32))).1 (by decide) (by decide) ?_
    refine XS.aloadN X89.here hx rfl (hb hby d12_59) rfl rfl ?_
    refine XS.iloadN X89.here hx rfl (hb hby d12_60) rfl ?_
    refine XS.iconst X89.here hx rfl (hb hby d12_61) ?_
    refine XS.iadd X89.here hx rfl (hb hby d12_62) rfl ?_
    show Steps p.tables e below (T89.setTop (mkF m 63 (own_l58 ax pn qy) [(.int ((-1 : Int32) + (1 : Int32))), (.ref ax)])) _
    rw [show ((-1 : Int32) + (1 : Int32)) = (0 : Int32) from by decide]
    refine XS.lload X89.here hx rfl (hb hby d12_63) rfl ?_
    exact k
  obtain ⟨cl90, Ar90, q90, S90, N90, H90, G90⟩ := V89
  have hin90 : ¬ ((0 : Int32) < 0 ∨ cl90.slots.size ≤ ((0 : Int32)).toNatClampNeg) := inb_of S90 ⟨by decide, own_ltk hk (by decide)⟩
  obtain ⟨T90, h90, X90, e90, W90, st90⟩ := stJ X89 hx hZ e89 Ar90 (j := (0 : Int32)) hin90 (g := (mkF m 65 (own_l58 ax pn qy) [(.long qy), (.int (0 : Int32)), (.ref ax)])) rfl rfl (hb hby d12_65)
  have V90 : Arv Z h90 ax kk .long pn ((.long qy) :: (.long qx) :: rest) (.long (0 : Int64)) := Arv.set Ar90 q90 S90 N90 H90 G90 rfl W90 0 rfl (by simp only [List.length_cons]; omega)
  have Kc90 : Keep h0 h90 [ax] := Kc89.wr W90 (Or.inl (List.mem_of_getElem? (i := 0) rfl))
  have N90 := Fr.snoc X90 N89 ga
  refine own_pre (fun t k => st90 t k) ?_
  refine own_pre (A := (T90.setTop (mkF m 3 (own_l58 ax pn qy) []))) ?_ ?_
  · intro t k
    refine XS.goto X90.here hx rfl (pc0 := 66) (pc' := 3) rfl (hb hby d12_66) (by decide) (by decide) ?_
    exact k
  exact K _ _ _ _ _ X90 e90 N90 Kc90 V90
abbrev own_l59 (x0 : Addr) (x1 : Int32) (x2 : Int64) : Array Slot := #[.val (.ref x0), .val (.int (0 : Int32)), .val (.int x1), .val (.int ((1 : Int32) + (-1 : Int32))), .val (.int (3 : Int32)), .val (.long x2), .second]
abbrev own_l60 (x0 : Addr) (x1 : Int32) (x2 : Int64) : Array Slot := #[.val (.ref x0), .val (.int (0 : Int32)), .val (.int x1), .val (.int (1 : Int32)), .val (.int (3 : Int32)), .val (.long x2), .second]
abbrev own_l61 (x0 : Addr) (x1 : Int32) (x2 : Int64) : Array Slot := #[.val (.ref x0), .val (.int (0 : Int32)), .val (.int x1), .val (.int (0 : Int32)), .val (.int (3 : Int32)), .val (.long x2), .second]
set_option maxRecDepth 65536 in
set_option maxHeartbeats 40000000 in
theorem own_ti3_gt {p : Program} {l : Launch} {e : Env} {s : State} {m : MethodId} {args : Array Value} {below : List Frame} {meth : Method} {c : Code} {T0 : State} {locs : List Loc} {Z : State} {n0 : Nat} {h0 : Heap} {C : State → Outcome → Prop} {R : Room} {cells slots : Nat} {ax : Addr} {kk : ClassId} {pn pi : Int32} {qx qy qi : Int64} {rest : List Value} (X0 : Stand p l e R s m args below meth c T0 locs cells slots) (hx : p.tables.exec = Jvm.exec) (hZ : Z.Warmed39 s.vm) (hby : c.code = jdk_2529_method_15_code) (e0 : T0.heap = h0) (N0 : Fr n0 locs) (ga : n0 ≤ ax) (hk : (3 : Int32) < pn) (hxy : qy < qx) (V0 : Arv Z h0 ax kk .long pn ((.long qy) :: (.long qx) :: (.long qx) :: (.long qy) :: rest) (.long (0 : Int64)))
    (K : ∀ (T' : State) (h' : Heap) (locs' : List Loc) (pi' : Int32) (qi' : Int64), Stand p l e R s m args below meth c T' locs' cells slots → T'.heap = h' → Fr n0 locs' → Keep h0 h' [ax] → Arv Z h' ax kk .long pn ((.long qy) :: (.long qy) :: (.long qx) :: (.long qx) :: rest) (.long (0 : Int64)) → ∃ s₂ o, Steps p.tables e below (T'.setTop (mkF m 3 #[.val (.ref ax), .val (.int (0 : Int32)), .val (.int pn), .val (.int pi'), .val (.int (3 : Int32)), .val (.long qi'), .second] [])) s₂ ∧ C s₂ o) :
    ∃ s₂ o, Steps p.tables e below (T0.setTop (mkF m 3 (own_l24 ax pn pi qi) [])) s₂ ∧ C s₂ o := by
  refine own_pre (A := (T0.setTop (mkF m 31 (own_l28 ax pn qy) []))) ?_ ?_
  · intro t k
    refine XS.iinc X0.here hx rfl (hb hby d12_3) rfl (l' := (own_l26 ax pn pi qi)) rfl ?_
    show Steps  p.tables e below (T0.setTop (mkF m 6 #[.val (.ref ax), .val (.int (0 : Int32)), .val (.int pn), .val (.int pi), .val (.int ((2 : Int32) + (1 : Int32))), .val (.long qi), .second] [])) _
    rw [show ((2 : Int32) + (1 : Int32)) = (3 : Int32) from by decide]
    refine XS.iload X0.here hx rfl (hb hby d12_6) rfl ?_
    refine XS.iloadN X0.here hx rfl (hb hby d12_8) rfl ?_
    refine XS.icmpNo X0.here hx rfl (hb hby d12_9) rfl (tlt hk).2.1 ?_
    refine XS.aloadN X0.here hx rfl (hb hby d12_12) rfl rfl ?_
    refine XS.iload X0.here hx rfl (hb hby d12_13) rfl ?_
    refine XS.dup X0.here hx rfl (hb hby d12_15) rfl rfl ?_
    refine XS.istoreN X0.here hx rfl (hb hby d12_16) rfl (l' := (own_l28 ax pn qi)) rfl ?_
    show Steps p.tables e below (T0.setTop (mkF m 17 (own_l28 ax pn qi) [(.int (3 : Int32)), (.ref ax)])) _
    obtain ⟨cl91, Ar91, q91, S91, N91, H91, G91⟩ := id V0
    have hin91 : ¬ ((3 : Int32) < 0 ∨ cl91.slots.size ≤ ((3 : Int32)).toNatClampNeg) := inb_of S91 ⟨by decide, own_ltk hk (by decide)⟩
    refine X0.laload hx (j := (3 : Int32)) (v := (.long qy)) (by rw [e0]; exact Ar91.1) (State.isArrayOf_alike hZ.alike Ar91.2.1) Ar91.2.2 hin91 (H91.at hin91 rfl) (g := (mkF m 17 (own_l28 ax pn qi) [(.int (3 : Int32)), (.ref ax)])) rfl rfl (hb hby d12_17) _ ?_
    refine XS.lstore X0.here hx rfl (hb hby d12_18) rfl (l' := (own_l28 ax pn qy)) rfl ?_
    refine XS.lload X0.here hx rfl (hb hby d12_20) rfl ?_
    refine XS.aloadN X0.here hx rfl (hb hby d12_22) rfl rfl ?_
    refine XS.iloadN X0.here hx rfl (hb hby d12_23) rfl ?_
    refine XS.iconst X0.here hx rfl (hb hby d12_24) ?_
    refine XS.isub X0.here hx rfl (hb hby d12_25) rfl ?_
    show Steps p.tables e below (T0.setTop (mkF m 26 (own_l28 ax pn qy) [(.int ((3 : Int32) - (1 : Int32))), (.ref ax), (.long qy)])) _
    rw [show ((3 : Int32) - (1 : Int32)) = (2 : Int32) from by decide]
    show Steps p.tables e below (T0.setTop (mkF m 26 (own_l28 ax pn qy) [(.int (2 : Int32)), (.ref ax), (.long qy)])) _
    obtain ⟨cl92, Ar92, q92, S92, N92, H92, G92⟩ := id V0
    have hin92 : ¬ ((2 : Int32) < 0 ∨ cl92.slots.size ≤ ((2 : Int32)).toNatClampNeg) := inb_of S92 ⟨by decide, own_ltk hk (by decide)⟩
    refine X0.laload hx (j := (2 : Int32)) (v := (.long qx)) (by rw [e0]; exact Ar92.1) (State.isArrayOf_alike hZ.alike Ar92.2.1) Ar92.2.2 hin92 (H92.at hin92 rfl) (g := (mkF m 26 (own_l28 ax pn qy) [(.int (2 : Int32)), (.ref ax), (.long qy)])) rfl rfl (hb hby d12_26) _ ?_
    refine XS.lcmp X0.here hx rfl (hb hby d12_27) rfl ?_
    refine XS.ifNo X0.here hx rfl (hb hby d12_28) rfl ((if0 _ _).trans (tlt ((lw_lt qy qx).mpr hxy)).2.1) ?_
    exact k
  refine own_sh3 X0 hx hZ hby e0 N0 ga (own_ltk hk (by decide)) hxy V0 ?_
  intro T93 h93 locs93 X93 e93 N93 K93 V93
  have Kc93 : Keep h0 h93 [ax] := (Keep.refl h0 [ax]).trans K93 (allS (Or.inl (List.mem_of_getElem? (i := 0) rfl)) all0)
  refine own_sh2 X93 hx hZ hby e93 N93 ga (own_ltk hk (by decide)) hxy V93 ?_
  intro T94 h94 locs94 X94 e94 N94 K94 V94
  have Kc94 : Keep h0 h94 [ax] := Kc93.trans K94 (allS (Or.inl (List.mem_of_getElem? (i := 0) rfl)) all0)
  refine own_pre (A := (T94.setTop (mkF m 65 (own_l61 ax pn qy) [(.long qy), (.int (1 : Int32)), (.ref ax)]))) ?_ ?_
  · intro t k
    refine XS.iinc X94.here hx rfl (hb hby d12_31) rfl (l' := (own_l59 ax pn qy)) rfl ?_
    show Steps  p.tables e below (T94.setTop (mkF m 34 #[.val (.ref ax), .val (.int (0 : Int32)), .val (.int pn), .val (.int ((1 : Int32) + (-1 : Int32))), .val (.int (3 : Int32)), .val (.long qy), .second] [])) _
    rw [show ((1 : Int32) + (-1 : Int32)) = (0 : Int32) from by decide]
    refine XS.iloadN X94.here hx rfl (hb hby d12_34) rfl ?_
    refine XS.iloadN X94.here hx rfl (hb hby d12_35) rfl ?_
    refine XS.icmpNo X94.here hx rfl (hb hby d12_36) rfl (flt (by decide : ¬ ((0 : Int32) < (0 : Int32)))).1 ?_
    refine XS.lload X94.here hx rfl (hb hby d12_39) rfl ?_
    refine XS.aloadN X94.here hx rfl (hb hby d12_41) rfl rfl ?_
    refine XS.iloadN X94.here hx rfl (hb hby d12_42) rfl ?_
    show Steps p.tables e below (T94.setTop (mkF m 43 (own_l61 ax pn qy) [(.int (0 : Int32)), (.ref ax), (.long qy)])) _
    obtain ⟨cl95, Ar95, q95, S95, N95, H95, G95⟩ := id V94
    have hin95 : ¬ ((0 : Int32) < 0 ∨ cl95.slots.size ≤ ((0 : Int32)).toNatClampNeg) := inb_of S95 ⟨by decide, own_ltk hk (by decide)⟩
    refine X94.laload hx (j := (0 : Int32)) (v := (.long qy)) (by rw [e94]; exact Ar95.1) (State.isArrayOf_alike hZ.alike Ar95.2.1) Ar95.2.2 hin95 (H95.at hin95 rfl) (g := (mkF m 43 (own_l61 ax pn qy) [(.int (0 : Int32)), (.ref ax), (.long qy)])) rfl rfl (hb hby d12_43) _ ?_
    refine XS.lcmp X94.here hx rfl (hb hby d12_44) rfl ?_
    refine XS.ifYes X94.here hx rfl (pc0 := 45) (pc' := 59) rfl (hb hby d12_45) rfl ((if0 _ _).trans (flt (fun q => (own_irr qy) ((lw_lt qy qy).mp q))).2.1) (by decide) (by decide) ?_
    refine XS.aloadN X94.here hx rfl (hb hby d12_59) rfl rfl ?_
    refine XS.iloadN X94.here hx rfl (hb hby d12_60) rfl ?_
    refine XS.iconst X94.here hx rfl (hb hby d12_61) ?_
    refine XS.iadd X94.here hx rfl (hb hby d12_62) rfl ?_
    show Steps p.tables e below (T94.setTop (mkF m 63 (own_l61 ax pn qy) [(.int ((0 : Int32) + (1 : Int32))), (.ref ax)])) _
    rw [show ((0 : Int32) + (1 : Int32)) = (1 : Int32) from by decide]
    refine XS.lload X94.here hx rfl (hb hby d12_63) rfl ?_
    exact k
  obtain ⟨cl96, Ar96, q96, S96, N96, H96, G96⟩ := V94
  have hin96 : ¬ ((1 : Int32) < 0 ∨ cl96.slots.size ≤ ((1 : Int32)).toNatClampNeg) := inb_of S96 ⟨by decide, own_ltk hk (by decide)⟩
  obtain ⟨T96, h96, X96, e96, W96, st96⟩ := stJ X94 hx hZ e94 Ar96 (j := (1 : Int32)) hin96 (g := (mkF m 65 (own_l61 ax pn qy) [(.long qy), (.int (1 : Int32)), (.ref ax)])) rfl rfl (hb hby d12_65)
  have V96 : Arv Z h96 ax kk .long pn ((.long qy) :: (.long qy) :: (.long qx) :: (.long qx) :: rest) (.long (0 : Int64)) := Arv.set Ar96 q96 S96 N96 H96 G96 rfl W96 1 rfl (by simp only [List.length_cons]; omega)
  have Kc96 : Keep h0 h96 [ax] := Kc94.wr W96 (Or.inl (List.mem_of_getElem? (i := 0) rfl))
  have N96 := Fr.snoc X96 N94 ga
  refine own_pre (fun t k => st96 t k) ?_
  refine own_pre (A := (T96.setTop (mkF m 3 (own_l61 ax pn qy) []))) ?_ ?_
  · intro t k
    refine XS.goto X96.here hx rfl (pc0 := 66) (pc' := 3) rfl (hb hby d12_66) (by decide) (by decide) ?_
    exact k
  exact K _ _ _ _ _ X96 e96 N96 Kc96 V96
abbrev own_l62 (x0 : Addr) (x1 : Int32) (x2 : Int64) : Array Slot := #[.val (.ref x0), .val (.int (0 : Int32)), .val (.int x1), .val (.int ((2 : Int32) + (-1 : Int32))), .val (.int (5 : Int32)), .val (.long x2), .second]
abbrev own_l63 (x0 : Addr) (x1 : Int32) (x2 : Int64) : Array Slot := #[.val (.ref x0), .val (.int (0 : Int32)), .val (.int x1), .val (.int (2 : Int32)), .val (.int (5 : Int32)), .val (.long x2), .second]
abbrev own_l64 (x0 : Addr) (x1 : Int32) (x2 : Int64) : Array Slot := #[.val (.ref x0), .val (.int (0 : Int32)), .val (.int x1), .val (.int (1 : Int32)), .val (.int (5 : Int32)), .val (.long x2), .second]
set_option maxRecDepth 65536 in
set_option maxHeartbeats 40000000 in
theorem own_ti5_gt {p : Program} {l : Launch} {e : Env} {s : State} {m : MethodId} {args : Array Value} {below : List Frame} {meth : Method} {c : Code} {T0 : State} {locs : List Loc} {Z : State} {n0 : Nat} {h0 : Heap} {C : State → Outcome → Prop} {R : Room} {cells slots : Nat} {ax : Addr} {kk : ClassId} {pn pi : Int32} {qx qy qi : Int64} {rest : List Value} (X0 : Stand p l e R s m args below meth c T0 locs cells slots) (hx : p.tables.exec = Jvm.exec) (hZ : Z.Warmed39 s.vm) (hby : c.code = jdk_2529_method_15_code) (e0 : T0.heap = h0) (N0 : Fr n0 locs) (ga : n0 ≤ ax) (hk : (5 : Int32) < pn) (hxy : qy < qx) (V0 : Arv Z h0 ax kk .long pn ((.long qy) :: (.long qy) :: (.long qx) :: (.long qx) :: (.long qx) :: (.long qy) :: rest) (.long (0 : Int64)))
    (K : ∀ (T' : State) (h' : Heap) (locs' : List Loc) (pi' : Int32) (qi' : Int64), Stand p l e R s m args below meth c T' locs' cells slots → T'.heap = h' → Fr n0 locs' → Keep h0 h' [ax] → Arv Z h' ax kk .long pn ((.long qy) :: (.long qy) :: (.long qy) :: (.long qx) :: (.long qx) :: (.long qx) :: rest) (.long (0 : Int64)) → ∃ s₂ o, Steps p.tables e below (T'.setTop (mkF m 3 #[.val (.ref ax), .val (.int (0 : Int32)), .val (.int pn), .val (.int pi'), .val (.int (5 : Int32)), .val (.long qi'), .second] [])) s₂ ∧ C s₂ o) :
    ∃ s₂ o, Steps p.tables e below (T0.setTop (mkF m 3 (own_l30 ax pn pi qi) [])) s₂ ∧ C s₂ o := by
  refine own_pre (A := (T0.setTop (mkF m 31 (own_l34 ax pn qy) []))) ?_ ?_
  · intro t k
    refine XS.iinc X0.here hx rfl (hb hby d12_3) rfl (l' := (own_l32 ax pn pi qi)) rfl ?_
    show Steps  p.tables e below (T0.setTop (mkF m 6 #[.val (.ref ax), .val (.int (0 : Int32)), .val (.int pn), .val (.int pi), .val (.int ((4 : Int32) + (1 : Int32))), .val (.long qi), .second] [])) _
    rw [show ((4 : Int32) + (1 : Int32)) = (5 : Int32) from by decide]
    refine XS.iload X0.here hx rfl (hb hby d12_6) rfl ?_
    refine XS.iloadN X0.here hx rfl (hb hby d12_8) rfl ?_
    refine XS.icmpNo X0.here hx rfl (hb hby d12_9) rfl (tlt hk).2.1 ?_
    refine XS.aloadN X0.here hx rfl (hb hby d12_12) rfl rfl ?_
    refine XS.iload X0.here hx rfl (hb hby d12_13) rfl ?_
    refine XS.dup X0.here hx rfl (hb hby d12_15) rfl rfl ?_
    refine XS.istoreN X0.here hx rfl (hb hby d12_16) rfl (l' := (own_l34 ax pn qi)) rfl ?_
    show Steps p.tables e below (T0.setTop (mkF m 17 (own_l34 ax pn qi) [(.int (5 : Int32)), (.ref ax)])) _
    obtain ⟨cl97, Ar97, q97, S97, N97, H97, G97⟩ := id V0
    have hin97 : ¬ ((5 : Int32) < 0 ∨ cl97.slots.size ≤ ((5 : Int32)).toNatClampNeg) := inb_of S97 ⟨by decide, own_ltk hk (by decide)⟩
    refine X0.laload hx (j := (5 : Int32)) (v := (.long qy)) (by rw [e0]; exact Ar97.1) (State.isArrayOf_alike hZ.alike Ar97.2.1) Ar97.2.2 hin97 (H97.at hin97 rfl) (g := (mkF m 17 (own_l34 ax pn qi) [(.int (5 : Int32)), (.ref ax)])) rfl rfl (hb hby d12_17) _ ?_
    refine XS.lstore X0.here hx rfl (hb hby d12_18) rfl (l' := (own_l34 ax pn qy)) rfl ?_
    refine XS.lload X0.here hx rfl (hb hby d12_20) rfl ?_
    refine XS.aloadN X0.here hx rfl (hb hby d12_22) rfl rfl ?_
    refine XS.iloadN X0.here hx rfl (hb hby d12_23) rfl ?_
    refine XS.iconst X0.here hx rfl (hb hby d12_24) ?_
    refine XS.isub X0.here hx rfl (hb hby d12_25) rfl ?_
    show Steps p.tables e below (T0.setTop (mkF m 26 (own_l34 ax pn qy) [(.int ((5 : Int32) - (1 : Int32))), (.ref ax), (.long qy)])) _
    rw [show ((5 : Int32) - (1 : Int32)) = (4 : Int32) from by decide]
    show Steps p.tables e below (T0.setTop (mkF m 26 (own_l34 ax pn qy) [(.int (4 : Int32)), (.ref ax), (.long qy)])) _
    obtain ⟨cl98, Ar98, q98, S98, N98, H98, G98⟩ := id V0
    have hin98 : ¬ ((4 : Int32) < 0 ∨ cl98.slots.size ≤ ((4 : Int32)).toNatClampNeg) := inb_of S98 ⟨by decide, own_ltk hk (by decide)⟩
    refine X0.laload hx (j := (4 : Int32)) (v := (.long qx)) (by rw [e0]; exact Ar98.1) (State.isArrayOf_alike hZ.alike Ar98.2.1) Ar98.2.2 hin98 (H98.at hin98 rfl) (g := (mkF m 26 (own_l34 ax pn qy) [(.int (4 : Int32)), (.ref ax), (.long qy)])) rfl rfl (hb hby d12_26) _ ?_
    refine XS.lcmp X0.here hx rfl (hb hby d12_27) rfl ?_
    refine XS.ifNo X0.here hx rfl (hb hby d12_28) rfl ((if0 _ _).trans (tlt ((lw_lt qy qx).mpr hxy)).2.1) ?_
    exact k
  refine own_sh5 X0 hx hZ hby e0 N0 ga (own_ltk hk (by decide)) hxy V0 ?_
  intro T99 h99 locs99 X99 e99 N99 K99 V99
  have Kc99 : Keep h0 h99 [ax] := (Keep.refl h0 [ax]).trans K99 (allS (Or.inl (List.mem_of_getElem? (i := 0) rfl)) all0)
  refine own_sh4 X99 hx hZ hby e99 N99 ga (own_ltk hk (by decide)) hxy V99 ?_
  intro T100 h100 locs100 X100 e100 N100 K100 V100
  have Kc100 : Keep h0 h100 [ax] := Kc99.trans K100 (allS (Or.inl (List.mem_of_getElem? (i := 0) rfl)) all0)
  refine own_sh3 X100 hx hZ hby e100 N100 ga (own_ltk hk (by decide)) hxy V100 ?_
  intro T101 h101 locs101 X101 e101 N101 K101 V101
  have Kc101 : Keep h0 h101 [ax] := Kc100.trans K101 (allS (Or.inl (List.mem_of_getElem? (i := 0) rfl)) all0)
  refine own_pre (A := (T101.setTop (mkF m 65 (own_l64 ax pn qy) [(.long qy), (.int (2 : Int32)), (.ref ax)]))) ?_ ?_
  · intro t k
    refine XS.iinc X101.here hx rfl (hb hby d12_31) rfl (l' := (own_l62 ax pn qy)) rfl ?_
    show Steps  p.tables e below (T101.setTop (mkF m 34 #[.val (.ref ax), .val (.int (0 : Int32)), .val (.int pn), .val (.int ((2 : Int32) + (-1 : Int32))), .val (.int (5 : Int32)), .val (.long qy), .second] [])) _
    rw [show ((2 : Int32) + (-1 : Int32)) = (1 : Int32) from by decide]
    refine XS.iloadN X101.here hx rfl (hb hby d12_34) rfl ?_
    refine XS.iloadN X101.here hx rfl (hb hby d12_35) rfl ?_
    refine XS.icmpNo X101.here hx rfl (hb hby d12_36) rfl (flt (by decide : ¬ ((1 : Int32) < (0 : Int32)))).1 ?_
    refine XS.lload X101.here hx rfl (hb hby d12_39) rfl ?_
    refine XS.aloadN X101.here hx rfl (hb hby d12_41) rfl rfl ?_
    refine XS.iloadN X101.here hx rfl (hb hby d12_42) rfl ?_
    show Steps p.tables e below (T101.setTop (mkF m 43 (own_l64 ax pn qy) [(.int (1 : Int32)), (.ref ax), (.long qy)])) _
    obtain ⟨cl102, Ar102, q102, S102, N102, H102, G102⟩ := id V101
    have hin102 : ¬ ((1 : Int32) < 0 ∨ cl102.slots.size ≤ ((1 : Int32)).toNatClampNeg) := inb_of S102 ⟨by decide, own_ltk hk (by decide)⟩
    refine X101.laload hx (j := (1 : Int32)) (v := (.long qy)) (by rw [e101]; exact Ar102.1) (State.isArrayOf_alike hZ.alike Ar102.2.1) Ar102.2.2 hin102 (H102.at hin102 rfl) (g := (mkF m 43 (own_l64 ax pn qy) [(.int (1 : Int32)), (.ref ax), (.long qy)])) rfl rfl (hb hby d12_43) _ ?_
    refine XS.lcmp X101.here hx rfl (hb hby d12_44) rfl ?_
    refine XS.ifYes X101.here hx rfl (pc0 := 45) (pc' := 59) rfl (hb hby d12_45) rfl ((if0 _ _).trans (flt (fun q => (own_irr qy) ((lw_lt qy qy).mp q))).2.1) (by decide) (by decide) ?_
    refine XS.aloadN X101.here hx rfl (hb hby d12_59) rfl rfl ?_
    refine XS.iloadN X101.here hx rfl (hb hby d12_60) rfl ?_
    refine XS.iconst X101.here hx rfl (hb hby d12_61) ?_
    refine XS.iadd X101.here hx rfl (hb hby d12_62) rfl ?_
    show Steps p.tables e below (T101.setTop (mkF m 63 (own_l64 ax pn qy) [(.int ((1 : Int32) + (1 : Int32))), (.ref ax)])) _
    rw [show ((1 : Int32) + (1 : Int32)) = (2 : Int32) from by decide]
    refine XS.lload X101.here hx rfl (hb hby d12_63) rfl ?_
    exact k
  obtain ⟨cl103, Ar103, q103, S103, N103, H103, G103⟩ := V101
  have hin103 : ¬ ((2 : Int32) < 0 ∨ cl103.slots.size ≤ ((2 : Int32)).toNatClampNeg) := inb_of S103 ⟨by decide, own_ltk hk (by decide)⟩
  obtain ⟨T103, h103, X103, e103, W103, st103⟩ := stJ X101 hx hZ e101 Ar103 (j := (2 : Int32)) hin103 (g := (mkF m 65 (own_l64 ax pn qy) [(.long qy), (.int (2 : Int32)), (.ref ax)])) rfl rfl (hb hby d12_65)
  have V103 : Arv Z h103 ax kk .long pn ((.long qy) :: (.long qy) :: (.long qy) :: (.long qx) :: (.long qx) :: (.long qx) :: rest) (.long (0 : Int64)) := Arv.set Ar103 q103 S103 N103 H103 G103 rfl W103 2 rfl (by simp only [List.length_cons]; omega)
  have Kc103 : Keep h0 h103 [ax] := Kc101.wr W103 (Or.inl (List.mem_of_getElem? (i := 0) rfl))
  have N103 := Fr.snoc X103 N101 ga
  refine own_pre (fun t k => st103 t k) ?_
  refine own_pre (A := (T103.setTop (mkF m 3 (own_l64 ax pn qy) []))) ?_ ?_
  · intro t k
    refine XS.goto X103.here hx rfl (pc0 := 66) (pc' := 3) rfl (hb hby d12_66) (by decide) (by decide) ?_
    exact k
  exact K _ _ _ _ _ X103 e103 N103 Kc103 V103
abbrev own_l65 (x0 : Addr) (x1 : Int32) (x2 : Int64) : Array Slot := #[.val (.ref x0), .val (.int (0 : Int32)), .val (.int x1), .val (.int ((3 : Int32) + (-1 : Int32))), .val (.int (7 : Int32)), .val (.long x2), .second]
abbrev own_l66 (x0 : Addr) (x1 : Int32) (x2 : Int64) : Array Slot := #[.val (.ref x0), .val (.int (0 : Int32)), .val (.int x1), .val (.int (3 : Int32)), .val (.int (7 : Int32)), .val (.long x2), .second]
abbrev own_l67 (x0 : Addr) (x1 : Int32) (x2 : Int64) : Array Slot := #[.val (.ref x0), .val (.int (0 : Int32)), .val (.int x1), .val (.int (2 : Int32)), .val (.int (7 : Int32)), .val (.long x2), .second]
set_option maxRecDepth 65536 in
set_option maxHeartbeats 40000000 in
theorem own_ti7_gt {p : Program} {l : Launch} {e : Env} {s : State} {m : MethodId} {args : Array Value} {below : List Frame} {meth : Method} {c : Code} {T0 : State} {locs : List Loc} {Z : State} {n0 : Nat} {h0 : Heap} {C : State → Outcome → Prop} {R : Room} {cells slots : Nat} {ax : Addr} {kk : ClassId} {pn pi : Int32} {qx qy qi : Int64} {rest : List Value} (X0 : Stand p l e R s m args below meth c T0 locs cells slots) (hx : p.tables.exec = Jvm.exec) (hZ : Z.Warmed39 s.vm) (hby : c.code = jdk_2529_method_15_code) (e0 : T0.heap = h0) (N0 : Fr n0 locs) (ga : n0 ≤ ax) (hk : (7 : Int32) < pn) (hxy : qy < qx) (V0 : Arv Z h0 ax kk .long pn ((.long qy) :: (.long qy) :: (.long qy) :: (.long qx) :: (.long qx) :: (.long qx) :: (.long qx) :: (.long qy) :: rest) (.long (0 : Int64)))
    (K : ∀ (T' : State) (h' : Heap) (locs' : List Loc) (pi' : Int32) (qi' : Int64), Stand p l e R s m args below meth c T' locs' cells slots → T'.heap = h' → Fr n0 locs' → Keep h0 h' [ax] → Arv Z h' ax kk .long pn ((.long qy) :: (.long qy) :: (.long qy) :: (.long qy) :: (.long qx) :: (.long qx) :: (.long qx) :: (.long qx) :: rest) (.long (0 : Int64)) → ∃ s₂ o, Steps p.tables e below (T'.setTop (mkF m 3 #[.val (.ref ax), .val (.int (0 : Int32)), .val (.int pn), .val (.int pi'), .val (.int (7 : Int32)), .val (.long qi'), .second] [])) s₂ ∧ C s₂ o) :
    ∃ s₂ o, Steps p.tables e below (T0.setTop (mkF m 3 (own_l36 ax pn pi qi) [])) s₂ ∧ C s₂ o := by
  refine own_pre (A := (T0.setTop (mkF m 31 (own_l40 ax pn qy) []))) ?_ ?_
  · intro t k
    refine XS.iinc X0.here hx rfl (hb hby d12_3) rfl (l' := (own_l38 ax pn pi qi)) rfl ?_
    show Steps  p.tables e below (T0.setTop (mkF m 6 #[.val (.ref ax), .val (.int (0 : Int32)), .val (.int pn), .val (.int pi), .val (.int ((6 : Int32) + (1 : Int32))), .val (.long qi), .second] [])) _
    rw [show ((6 : Int32) + (1 : Int32)) = (7 : Int32) from by decide]
    refine XS.iload X0.here hx rfl (hb hby d12_6) rfl ?_
    refine XS.iloadN X0.here hx rfl (hb hby d12_8) rfl ?_
    refine XS.icmpNo X0.here hx rfl (hb hby d12_9) rfl (tlt hk).2.1 ?_
    refine XS.aloadN X0.here hx rfl (hb hby d12_12) rfl rfl ?_
    refine XS.iload X0.here hx rfl (hb hby d12_13) rfl ?_
    refine XS.dup X0.here hx rfl (hb hby d12_15) rfl rfl ?_
    refine XS.istoreN X0.here hx rfl (hb hby d12_16) rfl (l' := (own_l40 ax pn qi)) rfl ?_
    show Steps p.tables e below (T0.setTop (mkF m 17 (own_l40 ax pn qi) [(.int (7 : Int32)), (.ref ax)])) _
    obtain ⟨cl104, Ar104, q104, S104, N104, H104, G104⟩ := id V0
    have hin104 : ¬ ((7 : Int32) < 0 ∨ cl104.slots.size ≤ ((7 : Int32)).toNatClampNeg) := inb_of S104 ⟨by decide, own_ltk hk (by decide)⟩
    refine X0.laload hx (j := (7 : Int32)) (v := (.long qy)) (by rw [e0]; exact Ar104.1) (State.isArrayOf_alike hZ.alike Ar104.2.1) Ar104.2.2 hin104 (H104.at hin104 rfl) (g := (mkF m 17 (own_l40 ax pn qi) [(.int (7 : Int32)), (.ref ax)])) rfl rfl (hb hby d12_17) _ ?_
    refine XS.lstore X0.here hx rfl (hb hby d12_18) rfl (l' := (own_l40 ax pn qy)) rfl ?_
    refine XS.lload X0.here hx rfl (hb hby d12_20) rfl ?_
    refine XS.aloadN X0.here hx rfl (hb hby d12_22) rfl rfl ?_
    refine XS.iloadN X0.here hx rfl (hb hby d12_23) rfl ?_
    refine XS.iconst X0.here hx rfl (hb hby d12_24) ?_
    refine XS.isub X0.here hx rfl (hb hby d12_25) rfl ?_
    show Steps p.tables e below (T0.setTop (mkF m 26 (own_l40 ax pn qy) [(.int ((7 : Int32) - (1 : Int32))), (.ref ax), (.long qy)])) _
    rw [show ((7 : Int32) - (1 : Int32)) = (6 : Int32) from by decide]
    show Steps p.tables e below (T0.setTop (mkF m 26 (own_l40 ax pn qy) [(.int (6 : Int32)), (.ref ax), (.long qy)])) _
    obtain ⟨cl105, Ar105, q105, S105, N105, H105, G105⟩ := id V0
    have hin105 : ¬ ((6 : Int32) < 0 ∨ cl105.slots.size ≤ ((6 : Int32)).toNatClampNeg) := inb_of S105 ⟨by decide, own_ltk hk (by decide)⟩
    refine X0.laload hx (j := (6 : Int32)) (v := (.long qx)) (by rw [e0]; exact Ar105.1) (State.isArrayOf_alike hZ.alike Ar105.2.1) Ar105.2.2 hin105 (H105.at hin105 rfl) (g := (mkF m 26 (own_l40 ax pn qy) [(.int (6 : Int32)), (.ref ax), (.long qy)])) rfl rfl (hb hby d12_26) _ ?_
    refine XS.lcmp X0.here hx rfl (hb hby d12_27) rfl ?_
    refine XS.ifNo X0.here hx rfl (hb hby d12_28) rfl ((if0 _ _).trans (tlt ((lw_lt qy qx).mpr hxy)).2.1) ?_
    exact k
  refine own_sh7 X0 hx hZ hby e0 N0 ga (own_ltk hk (by decide)) hxy V0 ?_
  intro T106 h106 locs106 X106 e106 N106 K106 V106
  have Kc106 : Keep h0 h106 [ax] := (Keep.refl h0 [ax]).trans K106 (allS (Or.inl (List.mem_of_getElem? (i := 0) rfl)) all0)
  refine own_sh6 X106 hx hZ hby e106 N106 ga (own_ltk hk (by decide)) hxy V106 ?_
  intro T107 h107 locs107 X107 e107 N107 K107 V107
  have Kc107 : Keep h0 h107 [ax] := Kc106.trans K107 (allS (Or.inl (List.mem_of_getElem? (i := 0) rfl)) all0)
  refine own_sh5 X107 hx hZ hby e107 N107 ga (own_ltk hk (by decide)) hxy V107 ?_
  intro T108 h108 locs108 X108 e108 N108 K108 V108
  have Kc108 : Keep h0 h108 [ax] := Kc107.trans K108 (allS (Or.inl (List.mem_of_getElem? (i := 0) rfl)) all0)
  refine own_sh4 X108 hx hZ hby e108 N108 ga (own_ltk hk (by decide)) hxy V108 ?_
  intro T109 h109 locs109 X109 e109 N109 K109 V109
  have Kc109 : Keep h0 h109 [ax] := Kc108.trans K109 (allS (Or.inl (List.mem_of_getElem? (i := 0) rfl)) all0)
  refine own_pre (A := (T109.setTop (mkF m 65 (own_l67 ax pn qy) [(.long qy), (.int (3 : Int32)), (.ref ax)]))) ?_ ?_
  · intro t k
    refine XS.iinc X109.here hx rfl (hb hby d12_31) rfl (l' := (own_l65 ax pn qy)) rfl ?_
    show Steps  p.tables e below (T109.setTop (mkF m 34 #[.val (.ref ax), .val (.int (0 : Int32)), .val (.int pn), .val (.int ((3 : Int32) + (-1 : Int32))), .val (.int (7 : Int32)), .val (.long qy), .second] [])) _
    rw [show ((3 : Int32) + (-1 : Int32)) = (2 : Int32) from by decide]
    refine XS.iloadN X109.here hx rfl (hb hby d12_34) rfl ?_
    refine XS.iloadN X109.here hx rfl (hb hby d12_35) rfl ?_
    refine XS.icmpNo X109.here hx rfl (hb hby d12_36) rfl (flt (by decide : ¬ ((2 : Int32) < (0 : Int32)))).1 ?_
    refine XS.lload X109.here hx rfl (hb hby d12_39) rfl ?_
    refine XS.aloadN X109.here hx rfl (hb hby d12_41) rfl rfl ?_
    refine XS.iloadN X109.here hx rfl (hb hby d12_42) rfl ?_
    show Steps p.tables e below (T109.setTop (mkF m 43 (own_l67 ax pn qy) [(.int (2 : Int32)), (.ref ax), (.long qy)])) _
    obtain ⟨cl110, Ar110, q110, S110, N110, H110, G110⟩ := id V109
    have hin110 : ¬ ((2 : Int32) < 0 ∨ cl110.slots.size ≤ ((2 : Int32)).toNatClampNeg) := inb_of S110 ⟨by decide, own_ltk hk (by decide)⟩
    refine X109.laload hx (j := (2 : Int32)) (v := (.long qy)) (by rw [e109]; exact Ar110.1) (State.isArrayOf_alike hZ.alike Ar110.2.1) Ar110.2.2 hin110 (H110.at hin110 rfl) (g := (mkF m 43 (own_l67 ax pn qy) [(.int (2 : Int32)), (.ref ax), (.long qy)])) rfl rfl (hb hby d12_43) _ ?_
    refine XS.lcmp X109.here hx rfl (hb hby d12_44) rfl ?_
    refine XS.ifYes X109.here hx rfl (pc0 := 45) (pc' := 59) rfl (hb hby d12_45) rfl ((if0 _ _).trans (flt (fun q => (own_irr qy) ((lw_lt qy qy).mp q))).2.1) (by decide) (by decide) ?_
    refine XS.aloadN X109.here hx rfl (hb hby d12_59) rfl rfl ?_
    refine XS.iloadN X109.here hx rfl (hb hby d12_60) rfl ?_
    refine XS.iconst X109.here hx rfl (hb hby d12_61) ?_
    refine XS.iadd X109.here hx rfl (hb hby d12_62) rfl ?_
    show Steps p.tables e below (T109.setTop (mkF m 63 (own_l67 ax pn qy) [(.int ((2 : Int32) + (1 : Int32))), (.ref ax)])) _
    rw [show ((2 : Int32) + (1 : Int32)) = (3 : Int32) from by decide]
    refine XS.lload X109.here hx rfl (hb hby d12_63) rfl ?_
    exact k
  obtain ⟨cl111, Ar111, q111, S111, N111, H111, G111⟩ := V109
  have hin111 : ¬ ((3 : Int32) < 0 ∨ cl111.slots.size ≤ ((3 : Int32)).toNatClampNeg) := inb_of S111 ⟨by decide, own_ltk hk (by decide)⟩
  obtain ⟨T111, h111, X111, e111, W111, st111⟩ := stJ X109 hx hZ e109 Ar111 (j := (3 : Int32)) hin111 (g := (mkF m 65 (own_l67 ax pn qy) [(.long qy), (.int (3 : Int32)), (.ref ax)])) rfl rfl (hb hby d12_65)
  have V111 : Arv Z h111 ax kk .long pn ((.long qy) :: (.long qy) :: (.long qy) :: (.long qy) :: (.long qx) :: (.long qx) :: (.long qx) :: (.long qx) :: rest) (.long (0 : Int64)) := Arv.set Ar111 q111 S111 N111 H111 G111 rfl W111 3 rfl (by simp only [List.length_cons]; omega)
  have Kc111 : Keep h0 h111 [ax] := Kc109.wr W111 (Or.inl (List.mem_of_getElem? (i := 0) rfl))
  have N111 := Fr.snoc X111 N109 ga
  refine own_pre (fun t k => st111 t k) ?_
  refine own_pre (A := (T111.setTop (mkF m 3 (own_l67 ax pn qy) []))) ?_ ?_
  · intro t k
    refine XS.goto X111.here hx rfl (pc0 := 66) (pc' := 3) rfl (hb hby d12_66) (by decide) (by decide) ?_
    exact k
  exact K _ _ _ _ _ X111 e111 N111 Kc111 V111
abbrev own_l68 (x0 : Addr) : Array Slot := #[.val (.ref x0), .val (.int (0 : Int32)), .val (.int (0 : Int32)), .unset, .val (.int (0 : Int32)), .unset, .unset]
abbrev own_l69 (x0 : Addr) : Array Slot := #[.val (.ref x0), .val (.int (0 : Int32)), .val (.int (0 : Int32)), .unset, .val (.int ((0 : Int32) + (1 : Int32))), .unset, .unset]
abbrev own_l70 (x0 : Addr) : Array Slot := #[.val (.ref x0), .val (.int (0 : Int32)), .val (.int (0 : Int32)), .unset, .val (.int (1 : Int32)), .unset, .unset]
def own_Q12_0_eq (Z : State) (ax : Addr) (kk : ClassId) (qx : Int64) (qy : Int64) (h0 : Heap) (n0 : Nat) (v : Option Value) (h : Heap) (L : List Loc) : Prop := v = none ∧ Fr n0 L ∧ Keep h0 h [ax] ∧ Arv Z h ax kk .long (0 : Int32) [] (.long (0 : Int64))
set_option maxRecDepth 65536 in
set_option maxHeartbeats 40000000 in
theorem rm12_0_eq (l : Launch) (Z : State) (a0 : Array Value) (hw : ∀ d ∈ tables_1, d.before a0 Z = true) (ws : List Jvm.Cond) (ax : Addr) (kk : ClassId) (qx : Int64) (qy : Int64) (h0 : Heap) (n0 : Nat) (Z0 : n0 ≤ h0.size) (V0 : Arv Z h0 ax kk .long (0 : Int32) [] (.long (0 : Int64))) (ga : n0 ≤ ax) :
    MetFree l (⟨"java/util/DualPivotQuicksort", "insertionSort", "([JII)V"⟩ : MethodName) (head1 (Jvm.Cond.code (⟨"java/util/DualPivotQuicksort", "insertionSort", "([JII)V"⟩ : MethodName) jdk_2529_method_15_code 7 none :: ws) ({ frames := 0, cells := 0, slots := 0, locals := 0 } : Room)) (fun a U => a = #[(.ref ax), (.int (0 : Int32)), (.int (0 : Int32))] ∧ Z.Warmed39 U.vm ∧ U.heap = h0) (fun _ _ _ _ _ => True) (fun _ U o U' => ∃ v L, o = .returned v ∧ own_Q12_0_eq Z ax kk qx qy h0 n0 v U'.heap L ∧ FrameEnd U o U' L ({ frames := 0, cells := 0, slots := 0, locals := 0 } : Room).cells ({ frames := 0, cells := 0, slots := 0, locals := 0 } : Room).slots) := by
  refine MetFree.of_bodySF (plainFor_of_name own_pn12) hisR ?_
  intro p e s m args below meth c s₁ Bd hml0 hP hK
  obtain ⟨rfl, hZ, hh⟩ := hP
  have hx := Bd.exec
  have hby := Bd.bytes
  have hml : c.maxLocals = 7 := hml0
  have hown : s.vm.findClass "java/util/DualPivotQuicksort" = some m.cls := findClass_of_methodNamed Bd.named
  have hnm := (name_of_methodNamed Bd.named Bd.method).1
  have X0 : Stand p l e ({ frames := 0, cells := 0, slots := 0, locals := 0 } : Room) s m #[(.ref ax), (.int (0 : Int32)), (.int (0 : Int32))] below meth c s₁ [] 0 0 := Stand.of_body Bd
  have e0 : s₁.heap = h0 := by rw [← hh, Bd.state]; rfl
  have N0 := Fr.nil n0
  refine own_pre (A := (s₁.setTop (mkF m 0 #[.val (.ref ax), .val (.int (0 : Int32)), .val (.int (0 : Int32)), .unset, .unset, .unset, .unset] []))) (fun t k => castTop (own_ef12 m ax (0 : Int32) (0 : Int32)) k) ?_
  refine own_pre (A := (s₁.setTop (mkF m 3 (own_l68 ax) []))) ?_ ?_
  · intro t k
    refine XS.iloadN X0.here hx rfl (hb hby d12_0) rfl ?_
    refine XS.istore X0.here hx rfl (hb hby d12_1) rfl (l' := (own_l68 ax)) rfl ?_
    exact k
  refine own_pre (A := (s₁.setTop (mkF m 69 (own_l70 ax) []))) ?_ ?_
  · intro t k
    refine XS.iinc X0.here hx rfl (hb hby d12_3) rfl (l' := (own_l69 ax)) rfl ?_
    show Steps  p.tables e below (s₁.setTop (mkF m 6 #[.val (.ref ax), .val (.int (0 : Int32)), .val (.int (0 : Int32)), .unset, .val (.int ((0 : Int32) + (1 : Int32))), .unset, .unset] [])) _
    rw [show ((0 : Int32) + (1 : Int32)) = (1 : Int32) from by decide]
    refine XS.iload X0.here hx rfl (hb hby d12_6) rfl ?_
    refine XS.iloadN X0.here hx rfl (hb hby d12_8) rfl ?_
    refine XS.icmpYes X0.here hx rfl (pc0 := 9) (pc' := 69) rfl (hb hby d12_9) rfl (flt (by decide : ¬ ((1 : Int32) < (0 : Int32)))).2.1 (by decide) (by decide) ?_
    exact k
  obtain ⟨fs, hr, hrun, hended, hW, hsame⟩ := X0.leave (hlocks := BodyLoose.notSynchronized Bd) (v := none) (fun _ => rfl)
  refine ⟨_, _, X0.returnOut hx Bd.returns (hb hby d12_69) hr, hrun, hended, _, _, rfl, ?_, ⟨_, rfl⟩, hW, hsame.mono (by decide) (by decide)⟩
  show own_Q12_0_eq Z ax kk qx qy h0 n0 _ s₁.heap _
  rw [e0]
  exact ⟨rfl, N0, (Keep.refl h0 [ax]), V0⟩
abbrev own_l71 (x0 : Addr) : Array Slot := #[.val (.ref x0), .val (.int (0 : Int32)), .val (.int (1 : Int32)), .unset, .val (.int (0 : Int32)), .unset, .unset]
abbrev own_l72 (x0 : Addr) : Array Slot := #[.val (.ref x0), .val (.int (0 : Int32)), .val (.int (1 : Int32)), .unset, .val (.int ((0 : Int32) + (1 : Int32))), .unset, .unset]
abbrev own_l73 (x0 : Addr) : Array Slot := #[.val (.ref x0), .val (.int (0 : Int32)), .val (.int (1 : Int32)), .unset, .val (.int (1 : Int32)), .unset, .unset]
def own_Q12_1_eq (Z : State) (ax : Addr) (kk : ClassId) (qx : Int64) (qy : Int64) (h0 : Heap) (n0 : Nat) (v : Option Value) (h : Heap) (L : List Loc) : Prop := v = none ∧ Fr n0 L ∧ Keep h0 h [ax] ∧ Arv Z h ax kk .long (1 : Int32) [(.long qx)] (.long (0 : Int64))
set_option maxRecDepth 65536 in
set_option maxHeartbeats 40000000 in
theorem rm12_1_eq (l : Launch) (Z : State) (a0 : Array Value) (hw : ∀ d ∈ tables_1, d.before a0 Z = true) (ws : List Jvm.Cond) (ax : Addr) (kk : ClassId) (qx : Int64) (qy : Int64) (h0 : Heap) (n0 : Nat) (Z0 : n0 ≤ h0.size) (V0 : Arv Z h0 ax kk .long (1 : Int32) [(.long qx)] (.long (0 : Int64))) (ga : n0 ≤ ax) :
    MetFree l (⟨"java/util/DualPivotQuicksort", "insertionSort", "([JII)V"⟩ : MethodName) (head1 (Jvm.Cond.code (⟨"java/util/DualPivotQuicksort", "insertionSort", "([JII)V"⟩ : MethodName) jdk_2529_method_15_code 7 none :: ws) ({ frames := 0, cells := 0, slots := 0, locals := 0 } : Room)) (fun a U => a = #[(.ref ax), (.int (0 : Int32)), (.int (1 : Int32))] ∧ Z.Warmed39 U.vm ∧ U.heap = h0) (fun _ _ _ _ _ => True) (fun _ U o U' => ∃ v L, o = .returned v ∧ own_Q12_1_eq Z ax kk qx qy h0 n0 v U'.heap L ∧ FrameEnd U o U' L ({ frames := 0, cells := 0, slots := 0, locals := 0 } : Room).cells ({ frames := 0, cells := 0, slots := 0, locals := 0 } : Room).slots) := by
  refine MetFree.of_bodySF (plainFor_of_name own_pn12) hisR ?_
  intro p e s m args below meth c s₁ Bd hml0 hP hK
  obtain ⟨rfl, hZ, hh⟩ := hP
  have hx := Bd.exec
  have hby := Bd.bytes
  have hml : c.maxLocals = 7 := hml0
  have hown : s.vm.findClass "java/util/DualPivotQuicksort" = some m.cls := findClass_of_methodNamed Bd.named
  have hnm := (name_of_methodNamed Bd.named Bd.method).1
  have X0 : Stand p l e ({ frames := 0, cells := 0, slots := 0, locals := 0 } : Room) s m #[(.ref ax), (.int (0 : Int32)), (.int (1 : Int32))] below meth c s₁ [] 0 0 := Stand.of_body Bd
  have e0 : s₁.heap = h0 := by rw [← hh, Bd.state]; rfl
  have N0 := Fr.nil n0
  refine own_pre (A := (s₁.setTop (mkF m 0 #[.val (.ref ax), .val (.int (0 : Int32)), .val (.int (1 : Int32)), .unset, .unset, .unset, .unset] []))) (fun t k => castTop (own_ef12 m ax (0 : Int32) (1 : Int32)) k) ?_
  refine own_pre (A := (s₁.setTop (mkF m 3 (own_l71 ax) []))) ?_ ?_
  · intro t k
    refine XS.iloadN X0.here hx rfl (hb hby d12_0) rfl ?_
    refine XS.istore X0.here hx rfl (hb hby d12_1) rfl (l' := (own_l71 ax)) rfl ?_
    exact k
  refine own_pre (A := (s₁.setTop (mkF m 69 (own_l73 ax) []))) ?_ ?_
  · intro t k
    refine XS.iinc X0.here hx rfl (hb hby d12_3) rfl (l' := (own_l72 ax)) rfl ?_
    show Steps  p.tables e below (s₁.setTop (mkF m 6 #[.val (.ref ax), .val (.int (0 : Int32)), .val (.int (1 : Int32)), .unset, .val (.int ((0 : Int32) + (1 : Int32))), .unset, .unset] [])) _
    rw [show ((0 : Int32) + (1 : Int32)) = (1 : Int32) from by decide]
    refine XS.iload X0.here hx rfl (hb hby d12_6) rfl ?_
    refine XS.iloadN X0.here hx rfl (hb hby d12_8) rfl ?_
    refine XS.icmpYes X0.here hx rfl (pc0 := 9) (pc' := 69) rfl (hb hby d12_9) rfl (flt (by decide : ¬ ((1 : Int32) < (1 : Int32)))).2.1 (by decide) (by decide) ?_
    exact k
  obtain ⟨fs, hr, hrun, hended, hW, hsame⟩ := X0.leave (hlocks := BodyLoose.notSynchronized Bd) (v := none) (fun _ => rfl)
  refine ⟨_, _, X0.returnOut hx Bd.returns (hb hby d12_69) hr, hrun, hended, _, _, rfl, ?_, ⟨_, rfl⟩, hW, hsame.mono (by decide) (by decide)⟩
  show own_Q12_1_eq Z ax kk qx qy h0 n0 _ s₁.heap _
  rw [e0]
  exact ⟨rfl, N0, (Keep.refl h0 [ax]), V0⟩
abbrev own_l74 (x0 : Addr) : Array Slot := #[.val (.ref x0), .val (.int (0 : Int32)), .val (.int (2 : Int32)), .unset, .val (.int (0 : Int32)), .unset, .unset]
abbrev own_l75 (x0 : Addr) (x1 : Int32) (x2 : Int64) : Array Slot := #[.val (.ref x0), .val (.int (0 : Int32)), .val (.int (2 : Int32)), .val (.int x1), .val (.int ((1 : Int32) + (1 : Int32))), .val (.long x2), .second]
abbrev own_l76 (x0 : Addr) (x1 : Int32) (x2 : Int64) : Array Slot := #[.val (.ref x0), .val (.int (0 : Int32)), .val (.int (2 : Int32)), .val (.int x1), .val (.int (1 : Int32)), .val (.long x2), .second]
abbrev own_l77 (x0 : Addr) (x1 : Int32) (x2 : Int64) : Array Slot := #[.val (.ref x0), .val (.int (0 : Int32)), .val (.int (2 : Int32)), .val (.int x1), .val (.int (2 : Int32)), .val (.long x2), .second]
def own_Q12_2_lt (Z : State) (ax : Addr) (kk : ClassId) (qx : Int64) (qy : Int64) (h0 : Heap) (n0 : Nat) (v : Option Value) (h : Heap) (L : List Loc) : Prop := v = none ∧ Fr n0 L ∧ Keep h0 h [ax] ∧ Arv Z h ax kk .long (2 : Int32) [(.long qx), (.long qy)] (.long (0 : Int64))
set_option maxRecDepth 65536 in
set_option maxHeartbeats 40000000 in
theorem rm12_2_lt (l : Launch) (Z : State) (a0 : Array Value) (hw : ∀ d ∈ tables_1, d.before a0 Z = true) (ws : List Jvm.Cond) (ax : Addr) (kk : ClassId) (qx : Int64) (qy : Int64) (h0 : Heap) (n0 : Nat) (Z0 : n0 ≤ h0.size) (V0 : Arv Z h0 ax kk .long (2 : Int32) [(.long qx), (.long qy)] (.long (0 : Int64))) (ga : n0 ≤ ax) (hxy : qx < qy) :
    MetFree l (⟨"java/util/DualPivotQuicksort", "insertionSort", "([JII)V"⟩ : MethodName) (head1 (Jvm.Cond.code (⟨"java/util/DualPivotQuicksort", "insertionSort", "([JII)V"⟩ : MethodName) jdk_2529_method_15_code 7 none :: ws) ({ frames := 0, cells := 0, slots := 0, locals := 0 } : Room)) (fun a U => a = #[(.ref ax), (.int (0 : Int32)), (.int (2 : Int32))] ∧ Z.Warmed39 U.vm ∧ U.heap = h0) (fun _ _ _ _ _ => True) (fun _ U o U' => ∃ v L, o = .returned v ∧ own_Q12_2_lt Z ax kk qx qy h0 n0 v U'.heap L ∧ FrameEnd U o U' L ({ frames := 0, cells := 0, slots := 0, locals := 0 } : Room).cells ({ frames := 0, cells := 0, slots := 0, locals := 0 } : Room).slots) := by
  refine MetFree.of_bodySF (plainFor_of_name own_pn12) hisR ?_
  intro p e s m args below meth c s₁ Bd hml0 hP hK
  obtain ⟨rfl, hZ, hh⟩ := hP
  have hx := Bd.exec
  have hby := Bd.bytes
  have hml : c.maxLocals = 7 := hml0
  have hown : s.vm.findClass "java/util/DualPivotQuicksort" = some m.cls := findClass_of_methodNamed Bd.named
  have hnm := (name_of_methodNamed Bd.named Bd.method).1
  have X0 : Stand p l e ({ frames := 0, cells := 0, slots := 0, locals := 0 } : Room) s m #[(.ref ax), (.int (0 : Int32)), (.int (2 : Int32))] below meth c s₁ [] 0 0 := Stand.of_body Bd
  have e0 : s₁.heap = h0 := by rw [← hh, Bd.state]; rfl
  have N0 := Fr.nil n0
  refine own_pre (A := (s₁.setTop (mkF m 0 #[.val (.ref ax), .val (.int (0 : Int32)), .val (.int (2 : Int32)), .unset, .unset, .unset, .unset] []))) (fun t k => castTop (own_ef12 m ax (0 : Int32) (2 : Int32)) k) ?_
  refine own_pre (A := (s₁.setTop (mkF m 3 (own_l74 ax) []))) ?_ ?_
  · intro t k
    refine XS.iloadN X0.here hx rfl (hb hby d12_0) rfl ?_
    refine XS.istore X0.here hx rfl (hb hby d12_1) rfl (l' := (own_l74 ax)) rfl ?_
    exact k
  refine own_tn1 X0 hx hZ hby e0 N0 ga (by decide) (own_asym hxy) V0 ?_
  intro T112 h112 locs112 pi112 qi112 X112 e112 N112 K112 V112
  have Kc112 : Keep h0 h112 [ax] := (Keep.refl h0 [ax]).trans K112 (allS (Or.inl (List.mem_of_getElem? (i := 0) rfl)) all0)
  refine own_pre (A := (T112.setTop (mkF m 69 (own_l77 ax pi112 qi112) []))) ?_ ?_
  · intro t k
    refine XS.iinc X112.here hx rfl (hb hby d12_3) rfl (l' := (own_l75 ax pi112 qi112)) rfl ?_
    show Steps  p.tables e below (T112.setTop (mkF m 6 #[.val (.ref ax), .val (.int (0 : Int32)), .val (.int (2 : Int32)), .val (.int pi112), .val (.int ((1 : Int32) + (1 : Int32))), .val (.long qi112), .second] [])) _
    rw [show ((1 : Int32) + (1 : Int32)) = (2 : Int32) from by decide]
    refine XS.iload X112.here hx rfl (hb hby d12_6) rfl ?_
    refine XS.iloadN X112.here hx rfl (hb hby d12_8) rfl ?_
    refine XS.icmpYes X112.here hx rfl (pc0 := 9) (pc' := 69) rfl (hb hby d12_9) rfl (flt (by decide : ¬ ((2 : Int32) < (2 : Int32)))).2.1 (by decide) (by decide) ?_
    exact k
  obtain ⟨fs, hr, hrun, hended, hW, hsame⟩ := X112.leave (hlocks := BodyLoose.notSynchronized Bd) (v := none) (fun _ => rfl)
  refine ⟨_, _, X112.returnOut hx Bd.returns (hb hby d12_69) hr, hrun, hended, _, _, rfl, ?_, ⟨_, rfl⟩, hW, hsame.mono (by decide) (by decide)⟩
  show own_Q12_2_lt Z ax kk qx qy h0 n0 _ T112.heap _
  rw [e112]
  exact ⟨rfl, N112, Kc112, V112⟩
def own_Q12_2_gt (Z : State) (ax : Addr) (kk : ClassId) (qx : Int64) (qy : Int64) (h0 : Heap) (n0 : Nat) (v : Option Value) (h : Heap) (L : List Loc) : Prop := v = none ∧ Fr n0 L ∧ Keep h0 h [ax] ∧ Arv Z h ax kk .long (2 : Int32) [(.long qy), (.long qx)] (.long (0 : Int64))
set_option maxRecDepth 65536 in
set_option maxHeartbeats 40000000 in
theorem rm12_2_gt (l : Launch) (Z : State) (a0 : Array Value) (hw : ∀ d ∈ tables_1, d.before a0 Z = true) (ws : List Jvm.Cond) (ax : Addr) (kk : ClassId) (qx : Int64) (qy : Int64) (h0 : Heap) (n0 : Nat) (Z0 : n0 ≤ h0.size) (V0 : Arv Z h0 ax kk .long (2 : Int32) [(.long qx), (.long qy)] (.long (0 : Int64))) (ga : n0 ≤ ax) (hxy : qy < qx) :
    MetFree l (⟨"java/util/DualPivotQuicksort", "insertionSort", "([JII)V"⟩ : MethodName) (head1 (Jvm.Cond.code (⟨"java/util/DualPivotQuicksort", "insertionSort", "([JII)V"⟩ : MethodName) jdk_2529_method_15_code 7 none :: ws) ({ frames := 0, cells := 0, slots := 0, locals := 0 } : Room)) (fun a U => a = #[(.ref ax), (.int (0 : Int32)), (.int (2 : Int32))] ∧ Z.Warmed39 U.vm ∧ U.heap = h0) (fun _ _ _ _ _ => True) (fun _ U o U' => ∃ v L, o = .returned v ∧ own_Q12_2_gt Z ax kk qx qy h0 n0 v U'.heap L ∧ FrameEnd U o U' L ({ frames := 0, cells := 0, slots := 0, locals := 0 } : Room).cells ({ frames := 0, cells := 0, slots := 0, locals := 0 } : Room).slots) := by
  refine MetFree.of_bodySF (plainFor_of_name own_pn12) hisR ?_
  intro p e s m args below meth c s₁ Bd hml0 hP hK
  obtain ⟨rfl, hZ, hh⟩ := hP
  have hx := Bd.exec
  have hby := Bd.bytes
  have hml : c.maxLocals = 7 := hml0
  have hown : s.vm.findClass "java/util/DualPivotQuicksort" = some m.cls := findClass_of_methodNamed Bd.named
  have hnm := (name_of_methodNamed Bd.named Bd.method).1
  have X0 : Stand p l e ({ frames := 0, cells := 0, slots := 0, locals := 0 } : Room) s m #[(.ref ax), (.int (0 : Int32)), (.int (2 : Int32))] below meth c s₁ [] 0 0 := Stand.of_body Bd
  have e0 : s₁.heap = h0 := by rw [← hh, Bd.state]; rfl
  have N0 := Fr.nil n0
  refine own_pre (A := (s₁.setTop (mkF m 0 #[.val (.ref ax), .val (.int (0 : Int32)), .val (.int (2 : Int32)), .unset, .unset, .unset, .unset] []))) (fun t k => castTop (own_ef12 m ax (0 : Int32) (2 : Int32)) k) ?_
  refine own_pre (A := (s₁.setTop (mkF m 3 (own_l74 ax) []))) ?_ ?_
  · intro t k
    refine XS.iloadN X0.here hx rfl (hb hby d12_0) rfl ?_
    refine XS.istore X0.here hx rfl (hb hby d12_1) rfl (l' := (own_l74 ax)) rfl ?_
    exact k
  refine own_ti1_gt X0 hx hZ hby e0 N0 ga (by decide) hxy V0 ?_
  intro T113 h113 locs113 pi113 qi113 X113 e113 N113 K113 V113
  have Kc113 : Keep h0 h113 [ax] := (Keep.refl h0 [ax]).trans K113 (allS (Or.inl (List.mem_of_getElem? (i := 0) rfl)) all0)
  refine own_pre (A := (T113.setTop (mkF m 69 (own_l77 ax pi113 qi113) []))) ?_ ?_
  · intro t k
    refine XS.iinc X113.here hx rfl (hb hby d12_3) rfl (l' := (own_l75 ax pi113 qi113)) rfl ?_
    show Steps  p.tables e below (T113.setTop (mkF m 6 #[.val (.ref ax), .val (.int (0 : Int32)), .val (.int (2 : Int32)), .val (.int pi113), .val (.int ((1 : Int32) + (1 : Int32))), .val (.long qi113), .second] [])) _
    rw [show ((1 : Int32) + (1 : Int32)) = (2 : Int32) from by decide]
    refine XS.iload X113.here hx rfl (hb hby d12_6) rfl ?_
    refine XS.iloadN X113.here hx rfl (hb hby d12_8) rfl ?_
    refine XS.icmpYes X113.here hx rfl (pc0 := 9) (pc' := 69) rfl (hb hby d12_9) rfl (flt (by decide : ¬ ((2 : Int32) < (2 : Int32)))).2.1 (by decide) (by decide) ?_
    exact k
  obtain ⟨fs, hr, hrun, hended, hW, hsame⟩ := X113.leave (hlocks := BodyLoose.notSynchronized Bd) (v := none) (fun _ => rfl)
  refine ⟨_, _, X113.returnOut hx Bd.returns (hb hby d12_69) hr, hrun, hended, _, _, rfl, ?_, ⟨_, rfl⟩, hW, hsame.mono (by decide) (by decide)⟩
  show own_Q12_2_gt Z ax kk qx qy h0 n0 _ T113.heap _
  rw [e113]
  exact ⟨rfl, N113, Kc113, V113⟩
def own_Q12_2_eq (Z : State) (ax : Addr) (kk : ClassId) (qx : Int64) (qy : Int64) (h0 : Heap) (n0 : Nat) (v : Option Value) (h : Heap) (L : List Loc) : Prop := v = none ∧ Fr n0 L ∧ Keep h0 h [ax] ∧ Arv Z h ax kk .long (2 : Int32) [(.long qx), (.long qx)] (.long (0 : Int64))
set_option maxRecDepth 65536 in
set_option maxHeartbeats 40000000 in
theorem rm12_2_eq (l : Launch) (Z : State) (a0 : Array Value) (hw : ∀ d ∈ tables_1, d.before a0 Z = true) (ws : List Jvm.Cond) (ax : Addr) (kk : ClassId) (qx : Int64) (qy : Int64) (h0 : Heap) (n0 : Nat) (Z0 : n0 ≤ h0.size) (V0 : Arv Z h0 ax kk .long (2 : Int32) [(.long qx), (.long qx)] (.long (0 : Int64))) (ga : n0 ≤ ax) :
    MetFree l (⟨"java/util/DualPivotQuicksort", "insertionSort", "([JII)V"⟩ : MethodName) (head1 (Jvm.Cond.code (⟨"java/util/DualPivotQuicksort", "insertionSort", "([JII)V"⟩ : MethodName) jdk_2529_method_15_code 7 none :: ws) ({ frames := 0, cells := 0, slots := 0, locals := 0 } : Room)) (fun a U => a = #[(.ref ax), (.int (0 : Int32)), (.int (2 : Int32))] ∧ Z.Warmed39 U.vm ∧ U.heap = h0) (fun _ _ _ _ _ => True) (fun _ U o U' => ∃ v L, o = .returned v ∧ own_Q12_2_eq Z ax kk qx qy h0 n0 v U'.heap L ∧ FrameEnd U o U' L ({ frames := 0, cells := 0, slots := 0, locals := 0 } : Room).cells ({ frames := 0, cells := 0, slots := 0, locals := 0 } : Room).slots) := by
  refine MetFree.of_bodySF (plainFor_of_name own_pn12) hisR ?_
  intro p e s m args below meth c s₁ Bd hml0 hP hK
  obtain ⟨rfl, hZ, hh⟩ := hP
  have hx := Bd.exec
  have hby := Bd.bytes
  have hml : c.maxLocals = 7 := hml0
  have hown : s.vm.findClass "java/util/DualPivotQuicksort" = some m.cls := findClass_of_methodNamed Bd.named
  have hnm := (name_of_methodNamed Bd.named Bd.method).1
  have X0 : Stand p l e ({ frames := 0, cells := 0, slots := 0, locals := 0 } : Room) s m #[(.ref ax), (.int (0 : Int32)), (.int (2 : Int32))] below meth c s₁ [] 0 0 := Stand.of_body Bd
  have e0 : s₁.heap = h0 := by rw [← hh, Bd.state]; rfl
  have N0 := Fr.nil n0
  refine own_pre (A := (s₁.setTop (mkF m 0 #[.val (.ref ax), .val (.int (0 : Int32)), .val (.int (2 : Int32)), .unset, .unset, .unset, .unset] []))) (fun t k => castTop (own_ef12 m ax (0 : Int32) (2 : Int32)) k) ?_
  refine own_pre (A := (s₁.setTop (mkF m 3 (own_l74 ax) []))) ?_ ?_
  · intro t k
    refine XS.iloadN X0.here hx rfl (hb hby d12_0) rfl ?_
    refine XS.istore X0.here hx rfl (hb hby d12_1) rfl (l' := (own_l74 ax)) rfl ?_
    exact k
  refine own_tn1 X0 hx hZ hby e0 N0 ga (by decide) (own_irr _) V0 ?_
  intro T114 h114 locs114 pi114 qi114 X114 e114 N114 K114 V114
  have Kc114 : Keep h0 h114 [ax] := (Keep.refl h0 [ax]).trans K114 (allS (Or.inl (List.mem_of_getElem? (i := 0) rfl)) all0)
  refine own_pre (A := (T114.setTop (mkF m 69 (own_l77 ax pi114 qi114) []))) ?_ ?_
  · intro t k
    refine XS.iinc X114.here hx rfl (hb hby d12_3) rfl (l' := (own_l75 ax pi114 qi114)) rfl ?_
    show Steps  p.tables e below (T114.setTop (mkF m 6 #[.val (.ref ax), .val (.int (0 : Int32)), .val (.int (2 : Int32)), .val (.int pi114), .val (.int ((1 : Int32) + (1 : Int32))), .val (.long qi114), .second] [])) _
    rw [show ((1 : Int32) + (1 : Int32)) = (2 : Int32) from by decide]
    refine XS.iload X114.here hx rfl (hb hby d12_6) rfl ?_
    refine XS.iloadN X114.here hx rfl (hb hby d12_8) rfl ?_
    refine XS.icmpYes X114.here hx rfl (pc0 := 9) (pc' := 69) rfl (hb hby d12_9) rfl (flt (by decide : ¬ ((2 : Int32) < (2 : Int32)))).2.1 (by decide) (by decide) ?_
    exact k
  obtain ⟨fs, hr, hrun, hended, hW, hsame⟩ := X114.leave (hlocks := BodyLoose.notSynchronized Bd) (v := none) (fun _ => rfl)
  refine ⟨_, _, X114.returnOut hx Bd.returns (hb hby d12_69) hr, hrun, hended, _, _, rfl, ?_, ⟨_, rfl⟩, hW, hsame.mono (by decide) (by decide)⟩
  show own_Q12_2_eq Z ax kk qx qy h0 n0 _ T114.heap _
  rw [e114]
  exact ⟨rfl, N114, Kc114, V114⟩
abbrev own_l78 (x0 : Addr) : Array Slot := #[.val (.ref x0), .val (.int (0 : Int32)), .val (.int (3 : Int32)), .unset, .val (.int (0 : Int32)), .unset, .unset]
abbrev own_l79 (x0 : Addr) (x1 : Int32) (x2 : Int64) : Array Slot := #[.val (.ref x0), .val (.int (0 : Int32)), .val (.int (3 : Int32)), .val (.int x1), .val (.int ((2 : Int32) + (1 : Int32))), .val (.long x2), .second]
abbrev own_l80 (x0 : Addr) (x1 : Int32) (x2 : Int64) : Array Slot := #[.val (.ref x0), .val (.int (0 : Int32)), .val (.int (3 : Int32)), .val (.int x1), .val (.int (2 : Int32)), .val (.long x2), .second]
abbrev own_l81 (x0 : Addr) (x1 : Int32) (x2 : Int64) : Array Slot := #[.val (.ref x0), .val (.int (0 : Int32)), .val (.int (3 : Int32)), .val (.int x1), .val (.int (3 : Int32)), .val (.long x2), .second]
def own_Q12_3_lt (Z : State) (ax : Addr) (kk : ClassId) (qx : Int64) (qy : Int64) (h0 : Heap) (n0 : Nat) (v : Option Value) (h : Heap) (L : List Loc) : Prop := v = none ∧ Fr n0 L ∧ Keep h0 h [ax] ∧ Arv Z h ax kk .long (3 : Int32) [(.long qx), (.long qx), (.long qy)] (.long (0 : Int64))
set_option maxRecDepth 65536 in
set_option maxHeartbeats 40000000 in
theorem rm12_3_lt (l : Launch) (Z : State) (a0 : Array Value) (hw : ∀ d ∈ tables_1, d.before a0 Z = true) (ws : List Jvm.Cond) (ax : Addr) (kk : ClassId) (qx : Int64) (qy : Int64) (h0 : Heap) (n0 : Nat) (Z0 : n0 ≤ h0.size) (V0 : Arv Z h0 ax kk .long (3 : Int32) [(.long qx), (.long qy), (.long qx)] (.long (0 : Int64))) (ga : n0 ≤ ax) (hxy : qx < qy) :
    MetFree l (⟨"java/util/DualPivotQuicksort", "insertionSort", "([JII)V"⟩ : MethodName) (head1 (Jvm.Cond.code (⟨"java/util/DualPivotQuicksort", "insertionSort", "([JII)V"⟩ : MethodName) jdk_2529_method_15_code 7 none :: ws) ({ frames := 0, cells := 0, slots := 0, locals := 0 } : Room)) (fun a U => a = #[(.ref ax), (.int (0 : Int32)), (.int (3 : Int32))] ∧ Z.Warmed39 U.vm ∧ U.heap = h0) (fun _ _ _ _ _ => True) (fun _ U o U' => ∃ v L, o = .returned v ∧ own_Q12_3_lt Z ax kk qx qy h0 n0 v U'.heap L ∧ FrameEnd U o U' L ({ frames := 0, cells := 0, slots := 0, locals := 0 } : Room).cells ({ frames := 0, cells := 0, slots := 0, locals := 0 } : Room).slots) := by
  refine MetFree.of_bodySF (plainFor_of_name own_pn12) hisR ?_
  intro p e s m args below meth c s₁ Bd hml0 hP hK
  obtain ⟨rfl, hZ, hh⟩ := hP
  have hx := Bd.exec
  have hby := Bd.bytes
  have hml : c.maxLocals = 7 := hml0
  have hown : s.vm.findClass "java/util/DualPivotQuicksort" = some m.cls := findClass_of_methodNamed Bd.named
  have hnm := (name_of_methodNamed Bd.named Bd.method).1
  have X0 : Stand p l e ({ frames := 0, cells := 0, slots := 0, locals := 0 } : Room) s m #[(.ref ax), (.int (0 : Int32)), (.int (3 : Int32))] below meth c s₁ [] 0 0 := Stand.of_body Bd
  have e0 : s₁.heap = h0 := by rw [← hh, Bd.state]; rfl
  have N0 := Fr.nil n0
  refine own_pre (A := (s₁.setTop (mkF m 0 #[.val (.ref ax), .val (.int (0 : Int32)), .val (.int (3 : Int32)), .unset, .unset, .unset, .unset] []))) (fun t k => castTop (own_ef12 m ax (0 : Int32) (3 : Int32)) k) ?_
  refine own_pre (A := (s₁.setTop (mkF m 3 (own_l78 ax) []))) ?_ ?_
  · intro t k
    refine XS.iloadN X0.here hx rfl (hb hby d12_0) rfl ?_
    refine XS.istore X0.here hx rfl (hb hby d12_1) rfl (l' := (own_l78 ax)) rfl ?_
    exact k
  refine own_tn1 X0 hx hZ hby e0 N0 ga (by decide) (own_asym hxy) V0 ?_
  intro T115 h115 locs115 pi115 qi115 X115 e115 N115 K115 V115
  have Kc115 : Keep h0 h115 [ax] := (Keep.refl h0 [ax]).trans K115 (allS (Or.inl (List.mem_of_getElem? (i := 0) rfl)) all0)
  refine own_ti2_lt X115 hx hZ hby e115 N115 ga (by decide) hxy V115 ?_
  intro T116 h116 locs116 pi116 qi116 X116 e116 N116 K116 V116
  have Kc116 : Keep h0 h116 [ax] := Kc115.trans K116 (allS (Or.inl (List.mem_of_getElem? (i := 0) rfl)) all0)
  refine own_pre (A := (T116.setTop (mkF m 69 (own_l81 ax pi116 qi116) []))) ?_ ?_
  · intro t k
    refine XS.iinc X116.here hx rfl (hb hby d12_3) rfl (l' := (own_l79 ax pi116 qi116)) rfl ?_
    show Steps  p.tables e below (T116.setTop (mkF m 6 #[.val (.ref ax), .val (.int (0 : Int32)), .val (.int (3 : Int32)), .val (.int pi116), .val (.int ((2 : Int32) + (1 : Int32))), .val (.long qi116), .second] [])) _
    rw [show ((2 : Int32) + (1 : Int32)) = (3 : Int32) from by decide]
    refine XS.iload X116.here hx rfl (hb hby d12_6) rfl ?_
    refine XS.iloadN X116.here hx rfl (hb hby d12_8) rfl ?_
    refine XS.icmpYes X116.here hx rfl (pc0 := 9) (pc' := 69) rfl (hb hby d12_9) rfl (flt (by decide : ¬ ((3 : Int32) < (3 : Int32)))).2.1 (by decide) (by decide) ?_
    exact k
  obtain ⟨fs, hr, hrun, hended, hW, hsame⟩ := X116.leave (hlocks := BodyLoose.notSynchronized Bd) (v := none) (fun _ => rfl)
  refine ⟨_, _, X116.returnOut hx Bd.returns (hb hby d12_69) hr, hrun, hended, _, _, rfl, ?_, ⟨_, rfl⟩, hW, hsame.mono (by decide) (by decide)⟩
  show own_Q12_3_lt Z ax kk qx qy h0 n0 _ T116.heap _
  rw [e116]
  exact ⟨rfl, N116, Kc116, V116⟩
def own_Q12_3_gt (Z : State) (ax : Addr) (kk : ClassId) (qx : Int64) (qy : Int64) (h0 : Heap) (n0 : Nat) (v : Option Value) (h : Heap) (L : List Loc) : Prop := v = none ∧ Fr n0 L ∧ Keep h0 h [ax] ∧ Arv Z h ax kk .long (3 : Int32) [(.long qy), (.long qx), (.long qx)] (.long (0 : Int64))
set_option maxRecDepth 65536 in
set_option maxHeartbeats 40000000 in
theorem rm12_3_gt (l : Launch) (Z : State) (a0 : Array Value) (hw : ∀ d ∈ tables_1, d.before a0 Z = true) (ws : List Jvm.Cond) (ax : Addr) (kk : ClassId) (qx : Int64) (qy : Int64) (h0 : Heap) (n0 : Nat) (Z0 : n0 ≤ h0.size) (V0 : Arv Z h0 ax kk .long (3 : Int32) [(.long qx), (.long qy), (.long qx)] (.long (0 : Int64))) (ga : n0 ≤ ax) (hxy : qy < qx) :
    MetFree l (⟨"java/util/DualPivotQuicksort", "insertionSort", "([JII)V"⟩ : MethodName) (head1 (Jvm.Cond.code (⟨"java/util/DualPivotQuicksort", "insertionSort", "([JII)V"⟩ : MethodName) jdk_2529_method_15_code 7 none :: ws) ({ frames := 0, cells := 0, slots := 0, locals := 0 } : Room)) (fun a U => a = #[(.ref ax), (.int (0 : Int32)), (.int (3 : Int32))] ∧ Z.Warmed39 U.vm ∧ U.heap = h0) (fun _ _ _ _ _ => True) (fun _ U o U' => ∃ v L, o = .returned v ∧ own_Q12_3_gt Z ax kk qx qy h0 n0 v U'.heap L ∧ FrameEnd U o U' L ({ frames := 0, cells := 0, slots := 0, locals := 0 } : Room).cells ({ frames := 0, cells := 0, slots := 0, locals := 0 } : Room).slots) := by
  refine MetFree.of_bodySF (plainFor_of_name own_pn12) hisR ?_
  intro p e s m args below meth c s₁ Bd hml0 hP hK
  obtain ⟨rfl, hZ, hh⟩ := hP
  have hx := Bd.exec
  have hby := Bd.bytes
  have hml : c.maxLocals = 7 := hml0
  have hown : s.vm.findClass "java/util/DualPivotQuicksort" = some m.cls := findClass_of_methodNamed Bd.named
  have hnm := (name_of_methodNamed Bd.named Bd.method).1
  have X0 : Stand p l e ({ frames := 0, cells := 0, slots := 0, locals := 0 } : Room) s m #[(.ref ax), (.int (0 : Int32)), (.int (3 : Int32))] below meth c s₁ [] 0 0 := Stand.of_body Bd
  have e0 : s₁.heap = h0 := by rw [← hh, Bd.state]; rfl
  have N0 := Fr.nil n0
  refine own_pre (A := (s₁.setTop (mkF m 0 #[.val (.ref ax), .val (.int (0 : Int32)), .val (.int (3 : Int32)), .unset, .unset, .unset, .unset] []))) (fun t k => castTop (own_ef12 m ax (0 : Int32) (3 : Int32)) k) ?_
  refine own_pre (A := (s₁.setTop (mkF m 3 (own_l78 ax) []))) ?_ ?_
  · intro t k
    refine XS.iloadN X0.here hx rfl (hb hby d12_0) rfl ?_
    refine XS.istore X0.here hx rfl (hb hby d12_1) rfl (l' := (own_l78 ax)) rfl ?_
    exact k
  refine own_ti1_gt X0 hx hZ hby e0 N0 ga (by decide) hxy V0 ?_
  intro T117 h117 locs117 pi117 qi117 X117 e117 N117 K117 V117
  have Kc117 : Keep h0 h117 [ax] := (Keep.refl h0 [ax]).trans K117 (allS (Or.inl (List.mem_of_getElem? (i := 0) rfl)) all0)
  refine own_tn2 X117 hx hZ hby e117 N117 ga (by decide) (own_irr _) V117 ?_
  intro T118 h118 locs118 pi118 qi118 X118 e118 N118 K118 V118
  have Kc118 : Keep h0 h118 [ax] := Kc117.trans K118 (allS (Or.inl (List.mem_of_getElem? (i := 0) rfl)) all0)
  refine own_pre (A := (T118.setTop (mkF m 69 (own_l81 ax pi118 qi118) []))) ?_ ?_
  · intro t k
    refine XS.iinc X118.here hx rfl (hb hby d12_3) rfl (l' := (own_l79 ax pi118 qi118)) rfl ?_
    show Steps  p.tables e below (T118.setTop (mkF m 6 #[.val (.ref ax), .val (.int (0 : Int32)), .val (.int (3 : Int32)), .val (.int pi118), .val (.int ((2 : Int32) + (1 : Int32))), .val (.long qi118), .second] [])) _
    rw [show ((2 : Int32) + (1 : Int32)) = (3 : Int32) from by decide]
    refine XS.iload X118.here hx rfl (hb hby d12_6) rfl ?_
    refine XS.iloadN X118.here hx rfl (hb hby d12_8) rfl ?_
    refine XS.icmpYes X118.here hx rfl (pc0 := 9) (pc' := 69) rfl (hb hby d12_9) rfl (flt (by decide : ¬ ((3 : Int32) < (3 : Int32)))).2.1 (by decide) (by decide) ?_
    exact k
  obtain ⟨fs, hr, hrun, hended, hW, hsame⟩ := X118.leave (hlocks := BodyLoose.notSynchronized Bd) (v := none) (fun _ => rfl)
  refine ⟨_, _, X118.returnOut hx Bd.returns (hb hby d12_69) hr, hrun, hended, _, _, rfl, ?_, ⟨_, rfl⟩, hW, hsame.mono (by decide) (by decide)⟩
  show own_Q12_3_gt Z ax kk qx qy h0 n0 _ T118.heap _
  rw [e118]
  exact ⟨rfl, N118, Kc118, V118⟩
def own_Q12_3_eq (Z : State) (ax : Addr) (kk : ClassId) (qx : Int64) (qy : Int64) (h0 : Heap) (n0 : Nat) (v : Option Value) (h : Heap) (L : List Loc) : Prop := v = none ∧ Fr n0 L ∧ Keep h0 h [ax] ∧ Arv Z h ax kk .long (3 : Int32) [(.long qx), (.long qx), (.long qx)] (.long (0 : Int64))
set_option maxRecDepth 65536 in
set_option maxHeartbeats 40000000 in
theorem rm12_3_eq (l : Launch) (Z : State) (a0 : Array Value) (hw : ∀ d ∈ tables_1, d.before a0 Z = true) (ws : List Jvm.Cond) (ax : Addr) (kk : ClassId) (qx : Int64) (qy : Int64) (h0 : Heap) (n0 : Nat) (Z0 : n0 ≤ h0.size) (V0 : Arv Z h0 ax kk .long (3 : Int32) [(.long qx), (.long qx), (.long qx)] (.long (0 : Int64))) (ga : n0 ≤ ax) :
    MetFree l (⟨"java/util/DualPivotQuicksort", "insertionSort", "([JII)V"⟩ : MethodName) (head1 (Jvm.Cond.code (⟨"java/util/DualPivotQuicksort", "insertionSort", "([JII)V"⟩ : MethodName) jdk_2529_method_15_code 7 none :: ws) ({ frames := 0, cells := 0, slots := 0, locals := 0 } : Room)) (fun a U => a = #[(.ref ax), (.int (0 : Int32)), (.int (3 : Int32))] ∧ Z.Warmed39 U.vm ∧ U.heap = h0) (fun _ _ _ _ _ => True) (fun _ U o U' => ∃ v L, o = .returned v ∧ own_Q12_3_eq Z ax kk qx qy h0 n0 v U'.heap L ∧ FrameEnd U o U' L ({ frames := 0, cells := 0, slots := 0, locals := 0 } : Room).cells ({ frames := 0, cells := 0, slots := 0, locals := 0 } : Room).slots) := by
  refine MetFree.of_bodySF (plainFor_of_name own_pn12) hisR ?_
  intro p e s m args below meth c s₁ Bd hml0 hP hK
  obtain ⟨rfl, hZ, hh⟩ := hP
  have hx := Bd.exec
  have hby := Bd.bytes
  have hml : c.maxLocals = 7 := hml0
  have hown : s.vm.findClass "java/util/DualPivotQuicksort" = some m.cls := findClass_of_methodNamed Bd.named
  have hnm := (name_of_methodNamed Bd.named Bd.method).1
  have X0 : Stand p l e ({ frames := 0, cells := 0, slots := 0, locals := 0 } : Room) s m #[(.ref ax), (.int (0 : Int32)), (.int (3 : Int32))] below meth c s₁ [] 0 0 := Stand.of_body Bd
  have e0 : s₁.heap = h0 := by rw [← hh, Bd.state]; rfl
  have N0 := Fr.nil n0
  refine own_pre (A := (s₁.setTop (mkF m 0 #[.val (.ref ax), .val (.int (0 : Int32)), .val (.int (3 : Int32)), .unset, .unset, .unset, .unset] []))) (fun t k => castTop (own_ef12 m ax (0 : Int32) (3 : Int32)) k) ?_
  refine own_pre (A := (s₁.setTop (mkF m 3 (own_l78 ax) []))) ?_ ?_
  · intro t k
    refine XS.iloadN X0.here hx rfl (hb hby d12_0) rfl ?_
    refine XS.istore X0.here hx rfl (hb hby d12_1) rfl (l' := (own_l78 ax)) rfl ?_
    exact k
  refine own_tn1 X0 hx hZ hby e0 N0 ga (by decide) (own_irr _) V0 ?_
  intro T119 h119 locs119 pi119 qi119 X119 e119 N119 K119 V119
  have Kc119 : Keep h0 h119 [ax] := (Keep.refl h0 [ax]).trans K119 (allS (Or.inl (List.mem_of_getElem? (i := 0) rfl)) all0)
  refine own_tn2 X119 hx hZ hby e119 N119 ga (by decide) (own_irr _) V119 ?_
  intro T120 h120 locs120 pi120 qi120 X120 e120 N120 K120 V120
  have Kc120 : Keep h0 h120 [ax] := Kc119.trans K120 (allS (Or.inl (List.mem_of_getElem? (i := 0) rfl)) all0)
  refine own_pre (A := (T120.setTop (mkF m 69 (own_l81 ax pi120 qi120) []))) ?_ ?_
  · intro t k
    refine XS.iinc X120.here hx rfl (hb hby d12_3) rfl (l' := (own_l79 ax pi120 qi120)) rfl ?_
    show Steps  p.tables e below (T120.setTop (mkF m 6 #[.val (.ref ax), .val (.int (0 : Int32)), .val (.int (3 : Int32)), .val (.int pi120), .val (.int ((2 : Int32) + (1 : Int32))), .val (.long qi120), .second] [])) _
    rw [show ((2 : Int32) + (1 : Int32)) = (3 : Int32) from by decide]
    refine XS.iload X120.here hx rfl (hb hby d12_6) rfl ?_
    refine XS.iloadN X120.here hx rfl (hb hby d12_8) rfl ?_
    refine XS.icmpYes X120.here hx rfl (pc0 := 9) (pc' := 69) rfl (hb hby d12_9) rfl (flt (by decide : ¬ ((3 : Int32) < (3 : Int32)))).2.1 (by decide) (by decide) ?_
    exact k
  obtain ⟨fs, hr, hrun, hended, hW, hsame⟩ := X120.leave (hlocks := BodyLoose.notSynchronized Bd) (v := none) (fun _ => rfl)
  refine ⟨_, _, X120.returnOut hx Bd.returns (hb hby d12_69) hr, hrun, hended, _, _, rfl, ?_, ⟨_, rfl⟩, hW, hsame.mono (by decide) (by decide)⟩
  show own_Q12_3_eq Z ax kk qx qy h0 n0 _ T120.heap _
  rw [e120]
  exact ⟨rfl, N120, Kc120, V120⟩
abbrev own_l82 (x0 : Addr) : Array Slot := #[.val (.ref x0), .val (.int (0 : Int32)), .val (.int (4 : Int32)), .unset, .val (.int (0 : Int32)), .unset, .unset]
abbrev own_l83 (x0 : Addr) (x1 : Int32) (x2 : Int64) : Array Slot := #[.val (.ref x0), .val (.int (0 : Int32)), .val (.int (4 : Int32)), .val (.int x1), .val (.int ((3 : Int32) + (1 : Int32))), .val (.long x2), .second]
abbrev own_l84 (x0 : Addr) (x1 : Int32) (x2 : Int64) : Array Slot := #[.val (.ref x0), .val (.int (0 : Int32)), .val (.int (4 : Int32)), .val (.int x1), .val (.int (3 : Int32)), .val (.long x2), .second]
abbrev own_l85 (x0 : Addr) (x1 : Int32) (x2 : Int64) : Array Slot := #[.val (.ref x0), .val (.int (0 : Int32)), .val (.int (4 : Int32)), .val (.int x1), .val (.int (4 : Int32)), .val (.long x2), .second]
def own_Q12_4_lt (Z : State) (ax : Addr) (kk : ClassId) (qx : Int64) (qy : Int64) (h0 : Heap) (n0 : Nat) (v : Option Value) (h : Heap) (L : List Loc) : Prop := v = none ∧ Fr n0 L ∧ Keep h0 h [ax] ∧ Arv Z h ax kk .long (4 : Int32) [(.long qx), (.long qx), (.long qy), (.long qy)] (.long (0 : Int64))
set_option maxRecDepth 65536 in
set_option maxHeartbeats 40000000 in
theorem rm12_4_lt (l : Launch) (Z : State) (a0 : Array Value) (hw : ∀ d ∈ tables_1, d.before a0 Z = true) (ws : List Jvm.Cond) (ax : Addr) (kk : ClassId) (qx : Int64) (qy : Int64) (h0 : Heap) (n0 : Nat) (Z0 : n0 ≤ h0.size) (V0 : Arv Z h0 ax kk .long (4 : Int32) [(.long qx), (.long qy), (.long qx), (.long qy)] (.long (0 : Int64))) (ga : n0 ≤ ax) (hxy : qx < qy) :
    MetFree l (⟨"java/util/DualPivotQuicksort", "insertionSort", "([JII)V"⟩ : MethodName) (head1 (Jvm.Cond.code (⟨"java/util/DualPivotQuicksort", "insertionSort", "([JII)V"⟩ : MethodName) jdk_2529_method_15_code 7 none :: ws) ({ frames := 0, cells := 0, slots := 0, locals := 0 } : Room)) (fun a U => a = #[(.ref ax), (.int (0 : Int32)), (.int (4 : Int32))] ∧ Z.Warmed39 U.vm ∧ U.heap = h0) (fun _ _ _ _ _ => True) (fun _ U o U' => ∃ v L, o = .returned v ∧ own_Q12_4_lt Z ax kk qx qy h0 n0 v U'.heap L ∧ FrameEnd U o U' L ({ frames := 0, cells := 0, slots := 0, locals := 0 } : Room).cells ({ frames := 0, cells := 0, slots := 0, locals := 0 } : Room).slots) := by
  refine MetFree.of_bodySF (plainFor_of_name own_pn12) hisR ?_
  intro p e s m args below meth c s₁ Bd hml0 hP hK
  obtain ⟨rfl, hZ, hh⟩ := hP
  have hx := Bd.exec
  have hby := Bd.bytes
  have hml : c.maxLocals = 7 := hml0
  have hown : s.vm.findClass "java/util/DualPivotQuicksort" = some m.cls := findClass_of_methodNamed Bd.named
  have hnm := (name_of_methodNamed Bd.named Bd.method).1
  have X0 : Stand p l e ({ frames := 0, cells := 0, slots := 0, locals := 0 } : Room) s m #[(.ref ax), (.int (0 : Int32)), (.int (4 : Int32))] below meth c s₁ [] 0 0 := Stand.of_body Bd
  have e0 : s₁.heap = h0 := by rw [← hh, Bd.state]; rfl
  have N0 := Fr.nil n0
  refine own_pre (A := (s₁.setTop (mkF m 0 #[.val (.ref ax), .val (.int (0 : Int32)), .val (.int (4 : Int32)), .unset, .unset, .unset, .unset] []))) (fun t k => castTop (own_ef12 m ax (0 : Int32) (4 : Int32)) k) ?_
  refine own_pre (A := (s₁.setTop (mkF m 3 (own_l82 ax) []))) ?_ ?_
  · intro t k
    refine XS.iloadN X0.here hx rfl (hb hby d12_0) rfl ?_
    refine XS.istore X0.here hx rfl (hb hby d12_1) rfl (l' := (own_l82 ax)) rfl ?_
    exact k
  refine own_tn1 X0 hx hZ hby e0 N0 ga (by decide) (own_asym hxy) V0 ?_
  intro T121 h121 locs121 pi121 qi121 X121 e121 N121 K121 V121
  have Kc121 : Keep h0 h121 [ax] := (Keep.refl h0 [ax]).trans K121 (allS (Or.inl (List.mem_of_getElem? (i := 0) rfl)) all0)
  refine own_ti2_lt X121 hx hZ hby e121 N121 ga (by decide) hxy V121 ?_
  intro T122 h122 locs122 pi122 qi122 X122 e122 N122 K122 V122
  have Kc122 : Keep h0 h122 [ax] := Kc121.trans K122 (allS (Or.inl (List.mem_of_getElem? (i := 0) rfl)) all0)
  refine own_tn3 X122 hx hZ hby e122 N122 ga (by decide) (own_irr _) V122 ?_
  intro T123 h123 locs123 pi123 qi123 X123 e123 N123 K123 V123
  have Kc123 : Keep h0 h123 [ax] := Kc122.trans K123 (allS (Or.inl (List.mem_of_getElem? (i := 0) rfl)) all0)
  refine own_pre (A := (T123.setTop (mkF m 69 (own_l85 ax pi123 qi123) []))) ?_ ?_
  · intro t k
    refine XS.iinc X123.here hx rfl (hb hby d12_3) rfl (l' := (own_l83 ax pi123 qi123)) rfl ?_
    show Steps  p.tables e below (T123.setTop (mkF m 6 #[.val (.ref ax), .val (.int (0 : Int32)), .val (.int (4 : Int32)), .val (.int pi123), .val (.int ((3 : Int32) + (1 : Int32))), .val (.long qi123), .second] [])) _
    rw [show ((3 : Int32) + (1 : Int32)) = (4 : Int32) from by decide]
    refine XS.iload X123.here hx rfl (hb hby d12_6) rfl ?_
    refine XS.iloadN X123.here hx rfl (hb hby d12_8) rfl ?_
    refine XS.icmpYes X123.here hx rfl (pc0 := 9) (pc' := 69) rfl (hb hby d12_9) rfl (flt (by decide : ¬ ((4 : Int32) < (4 : Int32)))).2.1 (by decide) (by decide) ?_
    exact k
  obtain ⟨fs, hr, hrun, hended, hW, hsame⟩ := X123.leave (hlocks := BodyLoose.notSynchronized Bd) (v := none) (fun _ => rfl)
  refine ⟨_, _, X123.returnOut hx Bd.returns (hb hby d12_69) hr, hrun, hended, _, _, rfl, ?_, ⟨_, rfl⟩, hW, hsame.mono (by decide) (by decide)⟩
  show own_Q12_4_lt Z ax kk qx qy h0 n0 _ T123.heap _
  rw [e123]
  exact ⟨rfl, N123, Kc123, V123⟩
def own_Q12_4_gt (Z : State) (ax : Addr) (kk : ClassId) (qx : Int64) (qy : Int64) (h0 : Heap) (n0 : Nat) (v : Option Value) (h : Heap) (L : List Loc) : Prop := v = none ∧ Fr n0 L ∧ Keep h0 h [ax] ∧ Arv Z h ax kk .long (4 : Int32) [(.long qy), (.long qy), (.long qx), (.long qx)] (.long (0 : Int64))
set_option maxRecDepth 65536 in
set_option maxHeartbeats 40000000 in
theorem rm12_4_gt (l : Launch) (Z : State) (a0 : Array Value) (hw : ∀ d ∈ tables_1, d.before a0 Z = true) (ws : List Jvm.Cond) (ax : Addr) (kk : ClassId) (qx : Int64) (qy : Int64) (h0 : Heap) (n0 : Nat) (Z0 : n0 ≤ h0.size) (V0 : Arv Z h0 ax kk .long (4 : Int32) [(.long qx), (.long qy), (.long qx), (.long qy)] (.long (0 : Int64))) (ga : n0 ≤ ax) (hxy : qy < qx) :
    MetFree l (⟨"java/util/DualPivotQuicksort", "insertionSort", "([JII)V"⟩ : MethodName) (head1 (Jvm.Cond.code (⟨"java/util/DualPivotQuicksort", "insertionSort", "([JII)V"⟩ : MethodName) jdk_2529_method_15_code 7 none :: ws) ({ frames := 0, cells := 0, slots := 0, locals := 0 } : Room)) (fun a U => a = #[(.ref ax), (.int (0 : Int32)), (.int (4 : Int32))] ∧ Z.Warmed39 U.vm ∧ U.heap = h0) (fun _ _ _ _ _ => True) (fun _ U o U' => ∃ v L, o = .returned v ∧ own_Q12_4_gt Z ax kk qx qy h0 n0 v U'.heap L ∧ FrameEnd U o U' L ({ frames := 0, cells := 0, slots := 0, locals := 0 } : Room).cells ({ frames := 0, cells := 0, slots := 0, locals := 0 } : Room).slots) := by
  refine MetFree.of_bodySF (plainFor_of_name own_pn12) hisR ?_
  intro p e s m args below meth c s₁ Bd hml0 hP hK
  obtain ⟨rfl, hZ, hh⟩ := hP
  have hx := Bd.exec
  have hby := Bd.bytes
  have hml : c.maxLocals = 7 := hml0
  have hown : s.vm.findClass "java/util/DualPivotQuicksort" = some m.cls := findClass_of_methodNamed Bd.named
  have hnm := (name_of_methodNamed Bd.named Bd.method).1
  have X0 : Stand p l e ({ frames := 0, cells := 0, slots := 0, locals := 0 } : Room) s m #[(.ref ax), (.int (0 : Int32)), (.int (4 : Int32))] below meth c s₁ [] 0 0 := Stand.of_body Bd
  have e0 : s₁.heap = h0 := by rw [← hh, Bd.state]; rfl
  have N0 := Fr.nil n0
  refine own_pre (A := (s₁.setTop (mkF m 0 #[.val (.ref ax), .val (.int (0 : Int32)), .val (.int (4 : Int32)), .unset, .unset, .unset, .unset] []))) (fun t k => castTop (own_ef12 m ax (0 : Int32) (4 : Int32)) k) ?_
  refine own_pre (A := (s₁.setTop (mkF m 3 (own_l82 ax) []))) ?_ ?_
  · intro t k
    refine XS.iloadN X0.here hx rfl (hb hby d12_0) rfl ?_
    refine XS.istore X0.here hx rfl (hb hby d12_1) rfl (l' := (own_l82 ax)) rfl ?_
    exact k
  refine own_ti1_gt X0 hx hZ hby e0 N0 ga (by decide) hxy V0 ?_
  intro T124 h124 locs124 pi124 qi124 X124 e124 N124 K124 V124
  have Kc124 : Keep h0 h124 [ax] := (Keep.refl h0 [ax]).trans K124 (allS (Or.inl (List.mem_of_getElem? (i := 0) rfl)) all0)
  refine own_tn2 X124 hx hZ hby e124 N124 ga (by decide) (own_irr _) V124 ?_
  intro T125 h125 locs125 pi125 qi125 X125 e125 N125 K125 V125
  have Kc125 : Keep h0 h125 [ax] := Kc124.trans K125 (allS (Or.inl (List.mem_of_getElem? (i := 0) rfl)) all0)
  refine own_ti3_gt X125 hx hZ hby e125 N125 ga (by decide) hxy V125 ?_
  intro T126 h126 locs126 pi126 qi126 X126 e126 N126 K126 V126
  have Kc126 : Keep h0 h126 [ax] := Kc125.trans K126 (allS (Or.inl (List.mem_of_getElem? (i := 0) rfl)) all0)
  refine own_pre (A := (T126.setTop (mkF m 69 (own_l85 ax pi126 qi126) []))) ?_ ?_
  · intro t k
    refine XS.iinc X126.here hx rfl (hb hby d12_3) rfl (l' := (own_l83 ax pi126 qi126)) rfl ?_
    show Steps  p.tables e below (T126.setTop (mkF m 6 #[.val (.ref ax), .val (.int (0 : Int32)), .val (.int (4 : Int32)), .val (.int pi126), .val (.int ((3 : Int32) + (1 : Int32))), .val (.long qi126), .second] [])) _
    rw [show ((3 : Int32) + (1 : Int32)) = (4 : Int32) from by decide]
    refine XS.iload X126.here hx rfl (hb hby d12_6) rfl ?_
    refine XS.iloadN X126.here hx rfl (hb hby d12_8) rfl ?_
    refine XS.icmpYes X126.here hx rfl (pc0 := 9) (pc' := 69) rfl (hb hby d12_9) rfl (flt (by decide : ¬ ((4 : Int32) < (4 : Int32)))).2.1 (by decide) (by decide) ?_
    exact k
  obtain ⟨fs, hr, hrun, hended, hW, hsame⟩ := X126.leave (hlocks := BodyLoose.notSynchronized Bd) (v := none) (fun _ => rfl)
  refine ⟨_, _, X126.returnOut hx Bd.returns (hb hby d12_69) hr, hrun, hended, _, _, rfl, ?_, ⟨_, rfl⟩, hW, hsame.mono (by decide) (by decide)⟩
  show own_Q12_4_gt Z ax kk qx qy h0 n0 _ T126.heap _
  rw [e126]
  exact ⟨rfl, N126, Kc126, V126⟩
def own_Q12_4_eq (Z : State) (ax : Addr) (kk : ClassId) (qx : Int64) (qy : Int64) (h0 : Heap) (n0 : Nat) (v : Option Value) (h : Heap) (L : List Loc) : Prop := v = none ∧ Fr n0 L ∧ Keep h0 h [ax] ∧ Arv Z h ax kk .long (4 : Int32) [(.long qx), (.long qx), (.long qx), (.long qx)] (.long (0 : Int64))
set_option maxRecDepth 65536 in
set_option maxHeartbeats 40000000 in
theorem rm12_4_eq (l : Launch) (Z : State) (a0 : Array Value) (hw : ∀ d ∈ tables_1, d.before a0 Z = true) (ws : List Jvm.Cond) (ax : Addr) (kk : ClassId) (qx : Int64) (qy : Int64) (h0 : Heap) (n0 : Nat) (Z0 : n0 ≤ h0.size) (V0 : Arv Z h0 ax kk .long (4 : Int32) [(.long qx), (.long qx), (.long qx), (.long qx)] (.long (0 : Int64))) (ga : n0 ≤ ax) :
    MetFree l (⟨"java/util/DualPivotQuicksort", "insertionSort", "([JII)V"⟩ : MethodName) (head1 (Jvm.Cond.code (⟨"java/util/DualPivotQuicksort", "insertionSort", "([JII)V"⟩ : MethodName) jdk_2529_method_15_code 7 none :: ws) ({ frames := 0, cells := 0, slots := 0, locals := 0 } : Room)) (fun a U => a = #[(.ref ax), (.int (0 : Int32)), (.int (4 : Int32))] ∧ Z.Warmed39 U.vm ∧ U.heap = h0) (fun _ _ _ _ _ => True) (fun _ U o U' => ∃ v L, o = .returned v ∧ own_Q12_4_eq Z ax kk qx qy h0 n0 v U'.heap L ∧ FrameEnd U o U' L ({ frames := 0, cells := 0, slots := 0, locals := 0 } : Room).cells ({ frames := 0, cells := 0, slots := 0, locals := 0 } : Room).slots) := by
  refine MetFree.of_bodySF (plainFor_of_name own_pn12) hisR ?_
  intro p e s m args below meth c s₁ Bd hml0 hP hK
  obtain ⟨rfl, hZ, hh⟩ := hP
  have hx := Bd.exec
  have hby := Bd.bytes
  have hml : c.maxLocals = 7 := hml0
  have hown : s.vm.findClass "java/util/DualPivotQuicksort" = some m.cls := findClass_of_methodNamed Bd.named
  have hnm := (name_of_methodNamed Bd.named Bd.method).1
  have X0 : Stand p l e ({ frames := 0, cells := 0, slots := 0, locals := 0 } : Room) s m #[(.ref ax), (.int (0 : Int32)), (.int (4 : Int32))] below meth c s₁ [] 0 0 := Stand.of_body Bd
  have e0 : s₁.heap = h0 := by rw [← hh, Bd.state]; rfl
  have N0 := Fr.nil n0
  refine own_pre (A := (s₁.setTop (mkF m 0 #[.val (.ref ax), .val (.int (0 : Int32)), .val (.int (4 : Int32)), .unset, .unset, .unset, .unset] []))) (fun t k => castTop (own_ef12 m ax (0 : Int32) (4 : Int32)) k) ?_
  refine own_pre (A := (s₁.setTop (mkF m 3 (own_l82 ax) []))) ?_ ?_
  · intro t k
    refine XS.iloadN X0.here hx rfl (hb hby d12_0) rfl ?_
    refine XS.istore X0.here hx rfl (hb hby d12_1) rfl (l' := (own_l82 ax)) rfl ?_
    exact k
  refine own_tn1 X0 hx hZ hby e0 N0 ga (by decide) (own_irr _) V0 ?_
  intro T127 h127 locs127 pi127 qi127 X127 e127 N127 K127 V127
  have Kc127 : Keep h0 h127 [ax] := (Keep.refl h0 [ax]).trans K127 (allS (Or.inl (List.mem_of_getElem? (i := 0) rfl)) all0)
  refine own_tn2 X127 hx hZ hby e127 N127 ga (by decide) (own_irr _) V127 ?_
  intro T128 h128 locs128 pi128 qi128 X128 e128 N128 K128 V128
  have Kc128 : Keep h0 h128 [ax] := Kc127.trans K128 (allS (Or.inl (List.mem_of_getElem? (i := 0) rfl)) all0)
  refine own_tn3 X128 hx hZ hby e128 N128 ga (by decide) (own_irr _) V128 ?_
  intro T129 h129 locs129 pi129 qi129 X129 e129 N129 K129 V129
  have Kc129 : Keep h0 h129 [ax] := Kc128.trans K129 (allS (Or.inl (List.mem_of_getElem? (i := 0) rfl)) all0)
  refine own_pre (A := (T129.setTop (mkF m 69 (own_l85 ax pi129 qi129) []))) ?_ ?_
  · intro t k
    refine XS.iinc X129.here hx rfl (hb hby d12_3) rfl (l' := (own_l83 ax pi129 qi129)) rfl ?_
    show Steps  p.tables e below (T129.setTop (mkF m 6 #[.val (.ref ax), .val (.int (0 : Int32)), .val (.int (4 : Int32)), .val (.int pi129), .val (.int ((3 : Int32) + (1 : Int32))), .val (.long qi129), .second] [])) _
    rw [show ((3 : Int32) + (1 : Int32)) = (4 : Int32) from by decide]
    refine XS.iload X129.here hx rfl (hb hby d12_6) rfl ?_
    refine XS.iloadN X129.here hx rfl (hb hby d12_8) rfl ?_
    refine XS.icmpYes X129.here hx rfl (pc0 := 9) (pc' := 69) rfl (hb hby d12_9) rfl (flt (by decide : ¬ ((4 : Int32) < (4 : Int32)))).2.1 (by decide) (by decide) ?_
    exact k
  obtain ⟨fs, hr, hrun, hended, hW, hsame⟩ := X129.leave (hlocks := BodyLoose.notSynchronized Bd) (v := none) (fun _ => rfl)
  refine ⟨_, _, X129.returnOut hx Bd.returns (hb hby d12_69) hr, hrun, hended, _, _, rfl, ?_, ⟨_, rfl⟩, hW, hsame.mono (by decide) (by decide)⟩
  show own_Q12_4_eq Z ax kk qx qy h0 n0 _ T129.heap _
  rw [e129]
  exact ⟨rfl, N129, Kc129, V129⟩
abbrev own_l86 (x0 : Addr) : Array Slot := #[.val (.ref x0), .val (.int (0 : Int32)), .val (.int (5 : Int32)), .unset, .val (.int (0 : Int32)), .unset, .unset]
abbrev own_l87 (x0 : Addr) (x1 : Int32) (x2 : Int64) : Array Slot := #[.val (.ref x0), .val (.int (0 : Int32)), .val (.int (5 : Int32)), .val (.int x1), .val (.int ((4 : Int32) + (1 : Int32))), .val (.long x2), .second]
abbrev own_l88 (x0 : Addr) (x1 : Int32) (x2 : Int64) : Array Slot := #[.val (.ref x0), .val (.int (0 : Int32)), .val (.int (5 : Int32)), .val (.int x1), .val (.int (4 : Int32)), .val (.long x2), .second]
abbrev own_l89 (x0 : Addr) (x1 : Int32) (x2 : Int64) : Array Slot := #[.val (.ref x0), .val (.int (0 : Int32)), .val (.int (5 : Int32)), .val (.int x1), .val (.int (5 : Int32)), .val (.long x2), .second]
def own_Q12_5_lt (Z : State) (ax : Addr) (kk : ClassId) (qx : Int64) (qy : Int64) (h0 : Heap) (n0 : Nat) (v : Option Value) (h : Heap) (L : List Loc) : Prop := v = none ∧ Fr n0 L ∧ Keep h0 h [ax] ∧ Arv Z h ax kk .long (5 : Int32) [(.long qx), (.long qx), (.long qx), (.long qy), (.long qy)] (.long (0 : Int64))
set_option maxRecDepth 65536 in
set_option maxHeartbeats 40000000 in
theorem rm12_5_lt (l : Launch) (Z : State) (a0 : Array Value) (hw : ∀ d ∈ tables_1, d.before a0 Z = true) (ws : List Jvm.Cond) (ax : Addr) (kk : ClassId) (qx : Int64) (qy : Int64) (h0 : Heap) (n0 : Nat) (Z0 : n0 ≤ h0.size) (V0 : Arv Z h0 ax kk .long (5 : Int32) [(.long qx), (.long qy), (.long qx), (.long qy), (.long qx)] (.long (0 : Int64))) (ga : n0 ≤ ax) (hxy : qx < qy) :
    MetFree l (⟨"java/util/DualPivotQuicksort", "insertionSort", "([JII)V"⟩ : MethodName) (head1 (Jvm.Cond.code (⟨"java/util/DualPivotQuicksort", "insertionSort", "([JII)V"⟩ : MethodName) jdk_2529_method_15_code 7 none :: ws) ({ frames := 0, cells := 0, slots := 0, locals := 0 } : Room)) (fun a U => a = #[(.ref ax), (.int (0 : Int32)), (.int (5 : Int32))] ∧ Z.Warmed39 U.vm ∧ U.heap = h0) (fun _ _ _ _ _ => True) (fun _ U o U' => ∃ v L, o = .returned v ∧ own_Q12_5_lt Z ax kk qx qy h0 n0 v U'.heap L ∧ FrameEnd U o U' L ({ frames := 0, cells := 0, slots := 0, locals := 0 } : Room).cells ({ frames := 0, cells := 0, slots := 0, locals := 0 } : Room).slots) := by
  refine MetFree.of_bodySF (plainFor_of_name own_pn12) hisR ?_
  intro p e s m args below meth c s₁ Bd hml0 hP hK
  obtain ⟨rfl, hZ, hh⟩ := hP
  have hx := Bd.exec
  have hby := Bd.bytes
  have hml : c.maxLocals = 7 := hml0
  have hown : s.vm.findClass "java/util/DualPivotQuicksort" = some m.cls := findClass_of_methodNamed Bd.named
  have hnm := (name_of_methodNamed Bd.named Bd.method).1
  have X0 : Stand p l e ({ frames := 0, cells := 0, slots := 0, locals := 0 } : Room) s m #[(.ref ax), (.int (0 : Int32)), (.int (5 : Int32))] below meth c s₁ [] 0 0 := Stand.of_body Bd
  have e0 : s₁.heap = h0 := by rw [← hh, Bd.state]; rfl
  have N0 := Fr.nil n0
  refine own_pre (A := (s₁.setTop (mkF m 0 #[.val (.ref ax), .val (.int (0 : Int32)), .val (.int (5 : Int32)), .unset, .unset, .unset, .unset] []))) (fun t k => castTop (own_ef12 m ax (0 : Int32) (5 : Int32)) k) ?_
  refine own_pre (A := (s₁.setTop (mkF m 3 (own_l86 ax) []))) ?_ ?_
  · intro t k
    refine XS.iloadN X0.here hx rfl (hb hby d12_0) rfl ?_
    refine XS.istore X0.here hx rfl (hb hby d12_1) rfl (l' := (own_l86 ax)) rfl ?_
    exact k
  refine own_tn1 X0 hx hZ hby e0 N0 ga (by decide) (own_asym hxy) V0 ?_
  intro T130 h130 locs130 pi130 qi130 X130 e130 N130 K130 V130
  have Kc130 : Keep h0 h130 [ax] := (Keep.refl h0 [ax]).trans K130 (allS (Or.inl (List.mem_of_getElem? (i := 0) rfl)) all0)
  refine own_ti2_lt X130 hx hZ hby e130 N130 ga (by decide) hxy V130 ?_
  intro T131 h131 locs131 pi131 qi131 X131 e131 N131 K131 V131
  have Kc131 : Keep h0 h131 [ax] := Kc130.trans K131 (allS (Or.inl (List.mem_of_getElem? (i := 0) rfl)) all0)
  refine own_tn3 X131 hx hZ hby e131 N131 ga (by decide) (own_irr _) V131 ?_
  intro T132 h132 locs132 pi132 qi132 X132 e132 N132 K132 V132
  have Kc132 : Keep h0 h132 [ax] := Kc131.trans K132 (allS (Or.inl (List.mem_of_getElem? (i := 0) rfl)) all0)
  refine own_ti4_lt X132 hx hZ hby e132 N132 ga (by decide) hxy V132 ?_
  intro T133 h133 locs133 pi133 qi133 X133 e133 N133 K133 V133
  have Kc133 : Keep h0 h133 [ax] := Kc132.trans K133 (allS (Or.inl (List.mem_of_getElem? (i := 0) rfl)) all0)
  refine own_pre (A := (T133.setTop (mkF m 69 (own_l89 ax pi133 qi133) []))) ?_ ?_
  · intro t k
    refine XS.iinc X133.here hx rfl (hb hby d12_3) rfl (l' := (own_l87 ax pi133 qi133)) rfl ?_
    show Steps  p.tables e below (T133.setTop (mkF m 6 #[.val (.ref ax), .val (.int (0 : Int32)), .val (.int (5 : Int32)), .val (.int pi133), .val (.int ((4 : Int32) + (1 : Int32))), .val (.long qi133), .second] [])) _
    rw [show ((4 : Int32) + (1 : Int32)) = (5 : Int32) from by decide]
    refine XS.iload X133.here hx rfl (hb hby d12_6) rfl ?_
    refine XS.iloadN X133.here hx rfl (hb hby d12_8) rfl ?_
    refine XS.icmpYes X133.here hx rfl (pc0 := 9) (pc' := 69) rfl (hb hby d12_9) rfl (flt (by decide : ¬ ((5 : Int32) < (5 : Int32)))).2.1 (by decide) (by decide) ?_
    exact k
  obtain ⟨fs, hr, hrun, hended, hW, hsame⟩ := X133.leave (hlocks := BodyLoose.notSynchronized Bd) (v := none) (fun _ => rfl)
  refine ⟨_, _, X133.returnOut hx Bd.returns (hb hby d12_69) hr, hrun, hended, _, _, rfl, ?_, ⟨_, rfl⟩, hW, hsame.mono (by decide) (by decide)⟩
  show own_Q12_5_lt Z ax kk qx qy h0 n0 _ T133.heap _
  rw [e133]
  exact ⟨rfl, N133, Kc133, V133⟩
def own_Q12_5_gt (Z : State) (ax : Addr) (kk : ClassId) (qx : Int64) (qy : Int64) (h0 : Heap) (n0 : Nat) (v : Option Value) (h : Heap) (L : List Loc) : Prop := v = none ∧ Fr n0 L ∧ Keep h0 h [ax] ∧ Arv Z h ax kk .long (5 : Int32) [(.long qy), (.long qy), (.long qx), (.long qx), (.long qx)] (.long (0 : Int64))
set_option maxRecDepth 65536 in
set_option maxHeartbeats 40000000 in
theorem rm12_5_gt (l : Launch) (Z : State) (a0 : Array Value) (hw : ∀ d ∈ tables_1, d.before a0 Z = true) (ws : List Jvm.Cond) (ax : Addr) (kk : ClassId) (qx : Int64) (qy : Int64) (h0 : Heap) (n0 : Nat) (Z0 : n0 ≤ h0.size) (V0 : Arv Z h0 ax kk .long (5 : Int32) [(.long qx), (.long qy), (.long qx), (.long qy), (.long qx)] (.long (0 : Int64))) (ga : n0 ≤ ax) (hxy : qy < qx) :
    MetFree l (⟨"java/util/DualPivotQuicksort", "insertionSort", "([JII)V"⟩ : MethodName) (head1 (Jvm.Cond.code (⟨"java/util/DualPivotQuicksort", "insertionSort", "([JII)V"⟩ : MethodName) jdk_2529_method_15_code 7 none :: ws) ({ frames := 0, cells := 0, slots := 0, locals := 0 } : Room)) (fun a U => a = #[(.ref ax), (.int (0 : Int32)), (.int (5 : Int32))] ∧ Z.Warmed39 U.vm ∧ U.heap = h0) (fun _ _ _ _ _ => True) (fun _ U o U' => ∃ v L, o = .returned v ∧ own_Q12_5_gt Z ax kk qx qy h0 n0 v U'.heap L ∧ FrameEnd U o U' L ({ frames := 0, cells := 0, slots := 0, locals := 0 } : Room).cells ({ frames := 0, cells := 0, slots := 0, locals := 0 } : Room).slots) := by
  refine MetFree.of_bodySF (plainFor_of_name own_pn12) hisR ?_
  intro p e s m args below meth c s₁ Bd hml0 hP hK
  obtain ⟨rfl, hZ, hh⟩ := hP
  have hx := Bd.exec
  have hby := Bd.bytes
  have hml : c.maxLocals = 7 := hml0
  have hown : s.vm.findClass "java/util/DualPivotQuicksort" = some m.cls := findClass_of_methodNamed Bd.named
  have hnm := (name_of_methodNamed Bd.named Bd.method).1
  have X0 : Stand p l e ({ frames := 0, cells := 0, slots := 0, locals := 0 } : Room) s m #[(.ref ax), (.int (0 : Int32)), (.int (5 : Int32))] below meth c s₁ [] 0 0 := Stand.of_body Bd
  have e0 : s₁.heap = h0 := by rw [← hh, Bd.state]; rfl
  have N0 := Fr.nil n0
  refine own_pre (A := (s₁.setTop (mkF m 0 #[.val (.ref ax), .val (.int (0 : Int32)), .val (.int (5 : Int32)), .unset, .unset, .unset, .unset] []))) (fun t k => castTop (own_ef12 m ax (0 : Int32) (5 : Int32)) k) ?_
  refine own_pre (A := (s₁.setTop (mkF m 3 (own_l86 ax) []))) ?_ ?_
  · intro t k
    refine XS.iloadN X0.here hx rfl (hb hby d12_0) rfl ?_
    refine XS.istore X0.here hx rfl (hb hby d12_1) rfl (l' := (own_l86 ax)) rfl ?_
    exact k
  refine own_ti1_gt X0 hx hZ hby e0 N0 ga (by decide) hxy V0 ?_
  intro T134 h134 locs134 pi134 qi134 X134 e134 N134 K134 V134
  have Kc134 : Keep h0 h134 [ax] := (Keep.refl h0 [ax]).trans K134 (allS (Or.inl (List.mem_of_getElem? (i := 0) rfl)) all0)
  refine own_tn2 X134 hx hZ hby e134 N134 ga (by decide) (own_irr _) V134 ?_
  intro T135 h135 locs135 pi135 qi135 X135 e135 N135 K135 V135
  have Kc135 : Keep h0 h135 [ax] := Kc134.trans K135 (allS (Or.inl (List.mem_of_getElem? (i := 0) rfl)) all0)
  refine own_ti3_gt X135 hx hZ hby e135 N135 ga (by decide) hxy V135 ?_
  intro T136 h136 locs136 pi136 qi136 X136 e136 N136 K136 V136
  have Kc136 : Keep h0 h136 [ax] := Kc135.trans K136 (allS (Or.inl (List.mem_of_getElem? (i := 0) rfl)) all0)
  refine own_tn4 X136 hx hZ hby e136 N136 ga (by decide) (own_irr _) V136 ?_
  intro T137 h137 locs137 pi137 qi137 X137 e137 N137 K137 V137
  have Kc137 : Keep h0 h137 [ax] := Kc136.trans K137 (allS (Or.inl (List.mem_of_getElem? (i := 0) rfl)) all0)
  refine own_pre (A := (T137.setTop (mkF m 69 (own_l89 ax pi137 qi137) []))) ?_ ?_
  · intro t k
    refine XS.iinc X137.here hx rfl (hb hby d12_3) rfl (l' := (own_l87 ax pi137 qi137)) rfl ?_
    show Steps  p.tables e below (T137.setTop (mkF m 6 #[.val (.ref ax), .val (.int (0 : Int32)), .val (.int (5 : Int32)), .val (.int pi137), .val (.int ((4 : Int32) + (1 : Int32))), .val (.long qi137), .second] [])) _
    rw [show ((4 : Int32) + (1 : Int32)) = (5 : Int32) from by decide]
    refine XS.iload X137.here hx rfl (hb hby d12_6) rfl ?_
    refine XS.iloadN X137.here hx rfl (hb hby d12_8) rfl ?_
    refine XS.icmpYes X137.here hx rfl (pc0 := 9) (pc' := 69) rfl (hb hby d12_9) rfl (flt (by decide : ¬ ((5 : Int32) < (5 : Int32)))).2.1 (by decide) (by decide) ?_
    exact k
  obtain ⟨fs, hr, hrun, hended, hW, hsame⟩ := X137.leave (hlocks := BodyLoose.notSynchronized Bd) (v := none) (fun _ => rfl)
  refine ⟨_, _, X137.returnOut hx Bd.returns (hb hby d12_69) hr, hrun, hended, _, _, rfl, ?_, ⟨_, rfl⟩, hW, hsame.mono (by decide) (by decide)⟩
  show own_Q12_5_gt Z ax kk qx qy h0 n0 _ T137.heap _
  rw [e137]
  exact ⟨rfl, N137, Kc137, V137⟩
def own_Q12_5_eq (Z : State) (ax : Addr) (kk : ClassId) (qx : Int64) (qy : Int64) (h0 : Heap) (n0 : Nat) (v : Option Value) (h : Heap) (L : List Loc) : Prop := v = none ∧ Fr n0 L ∧ Keep h0 h [ax] ∧ Arv Z h ax kk .long (5 : Int32) [(.long qx), (.long qx), (.long qx), (.long qx), (.long qx)] (.long (0 : Int64))
set_option maxRecDepth 65536 in
set_option maxHeartbeats 40000000 in
theorem rm12_5_eq (l : Launch) (Z : State) (a0 : Array Value) (hw : ∀ d ∈ tables_1, d.before a0 Z = true) (ws : List Jvm.Cond) (ax : Addr) (kk : ClassId) (qx : Int64) (qy : Int64) (h0 : Heap) (n0 : Nat) (Z0 : n0 ≤ h0.size) (V0 : Arv Z h0 ax kk .long (5 : Int32) [(.long qx), (.long qx), (.long qx), (.long qx), (.long qx)] (.long (0 : Int64))) (ga : n0 ≤ ax) :
    MetFree l (⟨"java/util/DualPivotQuicksort", "insertionSort", "([JII)V"⟩ : MethodName) (head1 (Jvm.Cond.code (⟨"java/util/DualPivotQuicksort", "insertionSort", "([JII)V"⟩ : MethodName) jdk_2529_method_15_code 7 none :: ws) ({ frames := 0, cells := 0, slots := 0, locals := 0 } : Room)) (fun a U => a = #[(.ref ax), (.int (0 : Int32)), (.int (5 : Int32))] ∧ Z.Warmed39 U.vm ∧ U.heap = h0) (fun _ _ _ _ _ => True) (fun _ U o U' => ∃ v L, o = .returned v ∧ own_Q12_5_eq Z ax kk qx qy h0 n0 v U'.heap L ∧ FrameEnd U o U' L ({ frames := 0, cells := 0, slots := 0, locals := 0 } : Room).cells ({ frames := 0, cells := 0, slots := 0, locals := 0 } : Room).slots) := by
  refine MetFree.of_bodySF (plainFor_of_name own_pn12) hisR ?_
  intro p e s m args below meth c s₁ Bd hml0 hP hK
  obtain ⟨rfl, hZ, hh⟩ := hP
  have hx := Bd.exec
  have hby := Bd.bytes
  have hml : c.maxLocals = 7 := hml0
  have hown : s.vm.findClass "java/util/DualPivotQuicksort" = some m.cls := findClass_of_methodNamed Bd.named
  have hnm := (name_of_methodNamed Bd.named Bd.method).1
  have X0 : Stand p l e ({ frames := 0, cells := 0, slots := 0, locals := 0 } : Room) s m #[(.ref ax), (.int (0 : Int32)), (.int (5 : Int32))] below meth c s₁ [] 0 0 := Stand.of_body Bd
  have e0 : s₁.heap = h0 := by rw [← hh, Bd.state]; rfl
  have N0 := Fr.nil n0
  refine own_pre (A := (s₁.setTop (mkF m 0 #[.val (.ref ax), .val (.int (0 : Int32)), .val (.int (5 : Int32)), .unset, .unset, .unset, .unset] []))) (fun t k => castTop (own_ef12 m ax (0 : Int32) (5 : Int32)) k) ?_
  refine own_pre (A := (s₁.setTop (mkF m 3 (own_l86 ax) []))) ?_ ?_
  · intro t k
    refine XS.iloadN X0.here hx rfl (hb hby d12_0) rfl ?_
    refine XS.istore X0.here hx rfl (hb hby d12_1) rfl (l' := (own_l86 ax)) rfl ?_
    exact k
  refine own_tn1 X0 hx hZ hby e0 N0 ga (by decide) (own_irr _) V0 ?_
  intro T138 h138 locs138 pi138 qi138 X138 e138 N138 K138 V138
  have Kc138 : Keep h0 h138 [ax] := (Keep.refl h0 [ax]).trans K138 (allS (Or.inl (List.mem_of_getElem? (i := 0) rfl)) all0)
  refine own_tn2 X138 hx hZ hby e138 N138 ga (by decide) (own_irr _) V138 ?_
  intro T139 h139 locs139 pi139 qi139 X139 e139 N139 K139 V139
  have Kc139 : Keep h0 h139 [ax] := Kc138.trans K139 (allS (Or.inl (List.mem_of_getElem? (i := 0) rfl)) all0)
  refine own_tn3 X139 hx hZ hby e139 N139 ga (by decide) (own_irr _) V139 ?_
  intro T140 h140 locs140 pi140 qi140 X140 e140 N140 K140 V140
  have Kc140 : Keep h0 h140 [ax] := Kc139.trans K140 (allS (Or.inl (List.mem_of_getElem? (i := 0) rfl)) all0)
  refine own_tn4 X140 hx hZ hby e140 N140 ga (by decide) (own_irr _) V140 ?_
  intro T141 h141 locs141 pi141 qi141 X141 e141 N141 K141 V141
  have Kc141 : Keep h0 h141 [ax] := Kc140.trans K141 (allS (Or.inl (List.mem_of_getElem? (i := 0) rfl)) all0)
  refine own_pre (A := (T141.setTop (mkF m 69 (own_l89 ax pi141 qi141) []))) ?_ ?_
  · intro t k
    refine XS.iinc X141.here hx rfl (hb hby d12_3) rfl (l' := (own_l87 ax pi141 qi141)) rfl ?_
    show Steps  p.tables e below (T141.setTop (mkF m 6 #[.val (.ref ax), .val (.int (0 : Int32)), .val (.int (5 : Int32)), .val (.int pi141), .val (.int ((4 : Int32) + (1 : Int32))), .val (.long qi141), .second] [])) _
    rw [show ((4 : Int32) + (1 : Int32)) = (5 : Int32) from by decide]
    refine XS.iload X141.here hx rfl (hb hby d12_6) rfl ?_
    refine XS.iloadN X141.here hx rfl (hb hby d12_8) rfl ?_
    refine XS.icmpYes X141.here hx rfl (pc0 := 9) (pc' := 69) rfl (hb hby d12_9) rfl (flt (by decide : ¬ ((5 : Int32) < (5 : Int32)))).2.1 (by decide) (by decide) ?_
    exact k
  obtain ⟨fs, hr, hrun, hended, hW, hsame⟩ := X141.leave (hlocks := BodyLoose.notSynchronized Bd) (v := none) (fun _ => rfl)
  refine ⟨_, _, X141.returnOut hx Bd.returns (hb hby d12_69) hr, hrun, hended, _, _, rfl, ?_, ⟨_, rfl⟩, hW, hsame.mono (by decide) (by decide)⟩
  show own_Q12_5_eq Z ax kk qx qy h0 n0 _ T141.heap _
  rw [e141]
  exact ⟨rfl, N141, Kc141, V141⟩
abbrev own_l90 (x0 : Addr) : Array Slot := #[.val (.ref x0), .val (.int (0 : Int32)), .val (.int (6 : Int32)), .unset, .val (.int (0 : Int32)), .unset, .unset]
abbrev own_l91 (x0 : Addr) (x1 : Int32) (x2 : Int64) : Array Slot := #[.val (.ref x0), .val (.int (0 : Int32)), .val (.int (6 : Int32)), .val (.int x1), .val (.int ((5 : Int32) + (1 : Int32))), .val (.long x2), .second]
abbrev own_l92 (x0 : Addr) (x1 : Int32) (x2 : Int64) : Array Slot := #[.val (.ref x0), .val (.int (0 : Int32)), .val (.int (6 : Int32)), .val (.int x1), .val (.int (5 : Int32)), .val (.long x2), .second]
abbrev own_l93 (x0 : Addr) (x1 : Int32) (x2 : Int64) : Array Slot := #[.val (.ref x0), .val (.int (0 : Int32)), .val (.int (6 : Int32)), .val (.int x1), .val (.int (6 : Int32)), .val (.long x2), .second]
def own_Q12_6_lt (Z : State) (ax : Addr) (kk : ClassId) (qx : Int64) (qy : Int64) (h0 : Heap) (n0 : Nat) (v : Option Value) (h : Heap) (L : List Loc) : Prop := v = none ∧ Fr n0 L ∧ Keep h0 h [ax] ∧ Arv Z h ax kk .long (6 : Int32) [(.long qx), (.long qx), (.long qx), (.long qy), (.long qy), (.long qy)] (.long (0 : Int64))
set_option maxRecDepth 65536 in
set_option maxHeartbeats 40000000 in
theorem rm12_6_lt (l : Launch) (Z : State) (a0 : Array Value) (hw : ∀ d ∈ tables_1, d.before a0 Z = true) (ws : List Jvm.Cond) (ax : Addr) (kk : ClassId) (qx : Int64) (qy : Int64) (h0 : Heap) (n0 : Nat) (Z0 : n0 ≤ h0.size) (V0 : Arv Z h0 ax kk .long (6 : Int32) [(.long qx), (.long qy), (.long qx), (.long qy), (.long qx), (.long qy)] (.long (0 : Int64))) (ga : n0 ≤ ax) (hxy : qx < qy) :
    MetFree l (⟨"java/util/DualPivotQuicksort", "insertionSort", "([JII)V"⟩ : MethodName) (head1 (Jvm.Cond.code (⟨"java/util/DualPivotQuicksort", "insertionSort", "([JII)V"⟩ : MethodName) jdk_2529_method_15_code 7 none :: ws) ({ frames := 0, cells := 0, slots := 0, locals := 0 } : Room)) (fun a U => a = #[(.ref ax), (.int (0 : Int32)), (.int (6 : Int32))] ∧ Z.Warmed39 U.vm ∧ U.heap = h0) (fun _ _ _ _ _ => True) (fun _ U o U' => ∃ v L, o = .returned v ∧ own_Q12_6_lt Z ax kk qx qy h0 n0 v U'.heap L ∧ FrameEnd U o U' L ({ frames := 0, cells := 0, slots := 0, locals := 0 } : Room).cells ({ frames := 0, cells := 0, slots := 0, locals := 0 } : Room).slots) := by
  refine MetFree.of_bodySF (plainFor_of_name own_pn12) hisR ?_
  intro p e s m args below meth c s₁ Bd hml0 hP hK
  obtain ⟨rfl, hZ, hh⟩ := hP
  have hx := Bd.exec
  have hby := Bd.bytes
  have hml : c.maxLocals = 7 := hml0
  have hown : s.vm.findClass "java/util/DualPivotQuicksort" = some m.cls := findClass_of_methodNamed Bd.named
  have hnm := (name_of_methodNamed Bd.named Bd.method).1
  have X0 : Stand p l e ({ frames := 0, cells := 0, slots := 0, locals := 0 } : Room) s m #[(.ref ax), (.int (0 : Int32)), (.int (6 : Int32))] below meth c s₁ [] 0 0 := Stand.of_body Bd
  have e0 : s₁.heap = h0 := by rw [← hh, Bd.state]; rfl
  have N0 := Fr.nil n0
  refine own_pre (A := (s₁.setTop (mkF m 0 #[.val (.ref ax), .val (.int (0 : Int32)), .val (.int (6 : Int32)), .unset, .unset, .unset, .unset] []))) (fun t k => castTop (own_ef12 m ax (0 : Int32) (6 : Int32)) k) ?_
  refine own_pre (A := (s₁.setTop (mkF m 3 (own_l90 ax) []))) ?_ ?_
  · intro t k
    refine XS.iloadN X0.here hx rfl (hb hby d12_0) rfl ?_
    refine XS.istore X0.here hx rfl (hb hby d12_1) rfl (l' := (own_l90 ax)) rfl ?_
    exact k
  refine own_tn1 X0 hx hZ hby e0 N0 ga (by decide) (own_asym hxy) V0 ?_
  intro T142 h142 locs142 pi142 qi142 X142 e142 N142 K142 V142
  have Kc142 : Keep h0 h142 [ax] := (Keep.refl h0 [ax]).trans K142 (allS (Or.inl (List.mem_of_getElem? (i := 0) rfl)) all0)
  refine own_ti2_lt X142 hx hZ hby e142 N142 ga (by decide) hxy V142 ?_
  intro T143 h143 locs143 pi143 qi143 X143 e143 N143 K143 V143
  have Kc143 : Keep h0 h143 [ax] := Kc142.trans K143 (allS (Or.inl (List.mem_of_getElem? (i := 0) rfl)) all0)
  refine own_tn3 X143 hx hZ hby e143 N143 ga (by decide) (own_irr _) V143 ?_
  intro T144 h144 locs144 pi144 qi144 X144 e144 N144 K144 V144
  have Kc144 : Keep h0 h144 [ax] := Kc143.trans K144 (allS (Or.inl (List.mem_of_getElem? (i := 0) rfl)) all0)
  refine own_ti4_lt X144 hx hZ hby e144 N144 ga (by decide) hxy V144 ?_
  intro T145 h145 locs145 pi145 qi145 X145 e145 N145 K145 V145
  have Kc145 : Keep h0 h145 [ax] := Kc144.trans K145 (allS (Or.inl (List.mem_of_getElem? (i := 0) rfl)) all0)
  refine own_tn5 X145 hx hZ hby e145 N145 ga (by decide) (own_irr _) V145 ?_
  intro T146 h146 locs146 pi146 qi146 X146 e146 N146 K146 V146
  have Kc146 : Keep h0 h146 [ax] := Kc145.trans K146 (allS (Or.inl (List.mem_of_getElem? (i := 0) rfl)) all0)
  refine own_pre (A := (T146.setTop (mkF m 69 (own_l93 ax pi146 qi146) []))) ?_ ?_
  · intro t k
    refine XS.iinc X146.here hx rfl (hb hby d12_3) rfl (l' := (own_l91 ax pi146 qi146)) rfl ?_
    show Steps  p.tables e below (T146.setTop (mkF m 6 #[.val (.ref ax), .val (.int (0 : Int32)), .val (.int (6 : Int32)), .val (.int pi146), .val (.int ((5 : Int32) + (1 : Int32))), .val (.long qi146), .second] [])) _
    rw [show ((5 : Int32) + (1 : Int32)) = (6 : Int32) from by decide]
    refine XS.iload X146.here hx rfl (hb hby d12_6) rfl ?_
    refine XS.iloadN X146.here hx rfl (hb hby d12_8) rfl ?_
    refine XS.icmpYes X146.here hx rfl (pc0 := 9) (pc' := 69) rfl (hb hby d12_9) rfl (flt (by decide : ¬ ((6 : Int32) < (6 : Int32)))).2.1 (by decide) (by decide) ?_
    exact k
  obtain ⟨fs, hr, hrun, hended, hW, hsame⟩ := X146.leave (hlocks := BodyLoose.notSynchronized Bd) (v := none) (fun _ => rfl)
  refine ⟨_, _, X146.returnOut hx Bd.returns (hb hby d12_69) hr, hrun, hended, _, _, rfl, ?_, ⟨_, rfl⟩, hW, hsame.mono (by decide) (by decide)⟩
  show own_Q12_6_lt Z ax kk qx qy h0 n0 _ T146.heap _
  rw [e146]
  exact ⟨rfl, N146, Kc146, V146⟩
def own_Q12_6_gt (Z : State) (ax : Addr) (kk : ClassId) (qx : Int64) (qy : Int64) (h0 : Heap) (n0 : Nat) (v : Option Value) (h : Heap) (L : List Loc) : Prop := v = none ∧ Fr n0 L ∧ Keep h0 h [ax] ∧ Arv Z h ax kk .long (6 : Int32) [(.long qy), (.long qy), (.long qy), (.long qx), (.long qx), (.long qx)] (.long (0 : Int64))
set_option maxRecDepth 65536 in
set_option maxHeartbeats 40000000 in
theorem rm12_6_gt (l : Launch) (Z : State) (a0 : Array Value) (hw : ∀ d ∈ tables_1, d.before a0 Z = true) (ws : List Jvm.Cond) (ax : Addr) (kk : ClassId) (qx : Int64) (qy : Int64) (h0 : Heap) (n0 : Nat) (Z0 : n0 ≤ h0.size) (V0 : Arv Z h0 ax kk .long (6 : Int32) [(.long qx), (.long qy), (.long qx), (.long qy), (.long qx), (.long qy)] (.long (0 : Int64))) (ga : n0 ≤ ax) (hxy : qy < qx) :
    MetFree l (⟨"java/util/DualPivotQuicksort", "insertionSort", "([JII)V"⟩ : MethodName) (head1 (Jvm.Cond.code (⟨"java/util/DualPivotQuicksort", "insertionSort", "([JII)V"⟩ : MethodName) jdk_2529_method_15_code 7 none :: ws) ({ frames := 0, cells := 0, slots := 0, locals := 0 } : Room)) (fun a U => a = #[(.ref ax), (.int (0 : Int32)), (.int (6 : Int32))] ∧ Z.Warmed39 U.vm ∧ U.heap = h0) (fun _ _ _ _ _ => True) (fun _ U o U' => ∃ v L, o = .returned v ∧ own_Q12_6_gt Z ax kk qx qy h0 n0 v U'.heap L ∧ FrameEnd U o U' L ({ frames := 0, cells := 0, slots := 0, locals := 0 } : Room).cells ({ frames := 0, cells := 0, slots := 0, locals := 0 } : Room).slots) := by
  refine MetFree.of_bodySF (plainFor_of_name own_pn12) hisR ?_
  intro p e s m args below meth c s₁ Bd hml0 hP hK
  obtain ⟨rfl, hZ, hh⟩ := hP
  have hx := Bd.exec
  have hby := Bd.bytes
  have hml : c.maxLocals = 7 := hml0
  have hown : s.vm.findClass "java/util/DualPivotQuicksort" = some m.cls := findClass_of_methodNamed Bd.named
  have hnm := (name_of_methodNamed Bd.named Bd.method).1
  have X0 : Stand p l e ({ frames := 0, cells := 0, slots := 0, locals := 0 } : Room) s m #[(.ref ax), (.int (0 : Int32)), (.int (6 : Int32))] below meth c s₁ [] 0 0 := Stand.of_body Bd
  have e0 : s₁.heap = h0 := by rw [← hh, Bd.state]; rfl
  have N0 := Fr.nil n0
  refine own_pre (A := (s₁.setTop (mkF m 0 #[.val (.ref ax), .val (.int (0 : Int32)), .val (.int (6 : Int32)), .unset, .unset, .unset, .unset] []))) (fun t k => castTop (own_ef12 m ax (0 : Int32) (6 : Int32)) k) ?_
  refine own_pre (A := (s₁.setTop (mkF m 3 (own_l90 ax) []))) ?_ ?_
  · intro t k
    refine XS.iloadN X0.here hx rfl (hb hby d12_0) rfl ?_
    refine XS.istore X0.here hx rfl (hb hby d12_1) rfl (l' := (own_l90 ax)) rfl ?_
    exact k
  refine own_ti1_gt X0 hx hZ hby e0 N0 ga (by decide) hxy V0 ?_
  intro T147 h147 locs147 pi147 qi147 X147 e147 N147 K147 V147
  have Kc147 : Keep h0 h147 [ax] := (Keep.refl h0 [ax]).trans K147 (allS (Or.inl (List.mem_of_getElem? (i := 0) rfl)) all0)
  refine own_tn2 X147 hx hZ hby e147 N147 ga (by decide) (own_irr _) V147 ?_
  intro T148 h148 locs148 pi148 qi148 X148 e148 N148 K148 V148
  have Kc148 : Keep h0 h148 [ax] := Kc147.trans K148 (allS (Or.inl (List.mem_of_getElem? (i := 0) rfl)) all0)
  refine own_ti3_gt X148 hx hZ hby e148 N148 ga (by decide) hxy V148 ?_
  intro T149 h149 locs149 pi149 qi149 X149 e149 N149 K149 V149
  have Kc149 : Keep h0 h149 [ax] := Kc148.trans K149 (allS (Or.inl (List.mem_of_getElem? (i := 0) rfl)) all0)
  refine own_tn4 X149 hx hZ hby e149 N149 ga (by decide) (own_irr _) V149 ?_
  intro T150 h150 locs150 pi150 qi150 X150 e150 N150 K150 V150
  have Kc150 : Keep h0 h150 [ax] := Kc149.trans K150 (allS (Or.inl (List.mem_of_getElem? (i := 0) rfl)) all0)
  refine own_ti5_gt X150 hx hZ hby e150 N150 ga (by decide) hxy V150 ?_
  intro T151 h151 locs151 pi151 qi151 X151 e151 N151 K151 V151
  have Kc151 : Keep h0 h151 [ax] := Kc150.trans K151 (allS (Or.inl (List.mem_of_getElem? (i := 0) rfl)) all0)
  refine own_pre (A := (T151.setTop (mkF m 69 (own_l93 ax pi151 qi151) []))) ?_ ?_
  · intro t k
    refine XS.iinc X151.here hx rfl (hb hby d12_3) rfl (l' := (own_l91 ax pi151 qi151)) rfl ?_
    show Steps  p.tables e below (T151.setTop (mkF m 6 #[.val (.ref ax), .val (.int (0 : Int32)), .val (.int (6 : Int32)), .val (.int pi151), .val (.int ((5 : Int32) + (1 : Int32))), .val (.long qi151), .second] [])) _
    rw [show ((5 : Int32) + (1 : Int32)) = (6 : Int32) from by decide]
    refine XS.iload X151.here hx rfl (hb hby d12_6) rfl ?_
    refine XS.iloadN X151.here hx rfl (hb hby d12_8) rfl ?_
    refine XS.icmpYes X151.here hx rfl (pc0 := 9) (pc' := 69) rfl (hb hby d12_9) rfl (flt (by decide : ¬ ((6 : Int32) < (6 : Int32)))).2.1 (by decide) (by decide) ?_
    exact k
  obtain ⟨fs, hr, hrun, hended, hW, hsame⟩ := X151.leave (hlocks := BodyLoose.notSynchronized Bd) (v := none) (fun _ => rfl)
  refine ⟨_, _, X151.returnOut hx Bd.returns (hb hby d12_69) hr, hrun, hended, _, _, rfl, ?_, ⟨_, rfl⟩, hW, hsame.mono (by decide) (by decide)⟩
  show own_Q12_6_gt Z ax kk qx qy h0 n0 _ T151.heap _
  rw [e151]
  exact ⟨rfl, N151, Kc151, V151⟩
def own_Q12_6_eq (Z : State) (ax : Addr) (kk : ClassId) (qx : Int64) (qy : Int64) (h0 : Heap) (n0 : Nat) (v : Option Value) (h : Heap) (L : List Loc) : Prop := v = none ∧ Fr n0 L ∧ Keep h0 h [ax] ∧ Arv Z h ax kk .long (6 : Int32) [(.long qx), (.long qx), (.long qx), (.long qx), (.long qx), (.long qx)] (.long (0 : Int64))
set_option maxRecDepth 65536 in
set_option maxHeartbeats 40000000 in
theorem rm12_6_eq (l : Launch) (Z : State) (a0 : Array Value) (hw : ∀ d ∈ tables_1, d.before a0 Z = true) (ws : List Jvm.Cond) (ax : Addr) (kk : ClassId) (qx : Int64) (qy : Int64) (h0 : Heap) (n0 : Nat) (Z0 : n0 ≤ h0.size) (V0 : Arv Z h0 ax kk .long (6 : Int32) [(.long qx), (.long qx), (.long qx), (.long qx), (.long qx), (.long qx)] (.long (0 : Int64))) (ga : n0 ≤ ax) :
    MetFree l (⟨"java/util/DualPivotQuicksort", "insertionSort", "([JII)V"⟩ : MethodName) (head1 (Jvm.Cond.code (⟨"java/util/DualPivotQuicksort", "insertionSort", "([JII)V"⟩ : MethodName) jdk_2529_method_15_code 7 none :: ws) ({ frames := 0, cells := 0, slots := 0, locals := 0 } : Room)) (fun a U => a = #[(.ref ax), (.int (0 : Int32)), (.int (6 : Int32))] ∧ Z.Warmed39 U.vm ∧ U.heap = h0) (fun _ _ _ _ _ => True) (fun _ U o U' => ∃ v L, o = .returned v ∧ own_Q12_6_eq Z ax kk qx qy h0 n0 v U'.heap L ∧ FrameEnd U o U' L ({ frames := 0, cells := 0, slots := 0, locals := 0 } : Room).cells ({ frames := 0, cells := 0, slots := 0, locals := 0 } : Room).slots) := by
  refine MetFree.of_bodySF (plainFor_of_name own_pn12) hisR ?_
  intro p e s m args below meth c s₁ Bd hml0 hP hK
  obtain ⟨rfl, hZ, hh⟩ := hP
  have hx := Bd.exec
  have hby := Bd.bytes
  have hml : c.maxLocals = 7 := hml0
  have hown : s.vm.findClass "java/util/DualPivotQuicksort" = some m.cls := findClass_of_methodNamed Bd.named
  have hnm := (name_of_methodNamed Bd.named Bd.method).1
  have X0 : Stand p l e ({ frames := 0, cells := 0, slots := 0, locals := 0 } : Room) s m #[(.ref ax), (.int (0 : Int32)), (.int (6 : Int32))] below meth c s₁ [] 0 0 := Stand.of_body Bd
  have e0 : s₁.heap = h0 := by rw [← hh, Bd.state]; rfl
  have N0 := Fr.nil n0
  refine own_pre (A := (s₁.setTop (mkF m 0 #[.val (.ref ax), .val (.int (0 : Int32)), .val (.int (6 : Int32)), .unset, .unset, .unset, .unset] []))) (fun t k => castTop (own_ef12 m ax (0 : Int32) (6 : Int32)) k) ?_
  refine own_pre (A := (s₁.setTop (mkF m 3 (own_l90 ax) []))) ?_ ?_
  · intro t k
    refine XS.iloadN X0.here hx rfl (hb hby d12_0) rfl ?_
    refine XS.istore X0.here hx rfl (hb hby d12_1) rfl (l' := (own_l90 ax)) rfl ?_
    exact k
  refine own_tn1 X0 hx hZ hby e0 N0 ga (by decide) (own_irr _) V0 ?_
  intro T152 h152 locs152 pi152 qi152 X152 e152 N152 K152 V152
  have Kc152 : Keep h0 h152 [ax] := (Keep.refl h0 [ax]).trans K152 (allS (Or.inl (List.mem_of_getElem? (i := 0) rfl)) all0)
  refine own_tn2 X152 hx hZ hby e152 N152 ga (by decide) (own_irr _) V152 ?_
  intro T153 h153 locs153 pi153 qi153 X153 e153 N153 K153 V153
  have Kc153 : Keep h0 h153 [ax] := Kc152.trans K153 (allS (Or.inl (List.mem_of_getElem? (i := 0) rfl)) all0)
  refine own_tn3 X153 hx hZ hby e153 N153 ga (by decide) (own_irr _) V153 ?_
  intro T154 h154 locs154 pi154 qi154 X154 e154 N154 K154 V154
  have Kc154 : Keep h0 h154 [ax] := Kc153.trans K154 (allS (Or.inl (List.mem_of_getElem? (i := 0) rfl)) all0)
  refine own_tn4 X154 hx hZ hby e154 N154 ga (by decide) (own_irr _) V154 ?_
  intro T155 h155 locs155 pi155 qi155 X155 e155 N155 K155 V155
  have Kc155 : Keep h0 h155 [ax] := Kc154.trans K155 (allS (Or.inl (List.mem_of_getElem? (i := 0) rfl)) all0)
  refine own_tn5 X155 hx hZ hby e155 N155 ga (by decide) (own_irr _) V155 ?_
  intro T156 h156 locs156 pi156 qi156 X156 e156 N156 K156 V156
  have Kc156 : Keep h0 h156 [ax] := Kc155.trans K156 (allS (Or.inl (List.mem_of_getElem? (i := 0) rfl)) all0)
  refine own_pre (A := (T156.setTop (mkF m 69 (own_l93 ax pi156 qi156) []))) ?_ ?_
  · intro t k
    refine XS.iinc X156.here hx rfl (hb hby d12_3) rfl (l' := (own_l91 ax pi156 qi156)) rfl ?_
    show Steps  p.tables e below (T156.setTop (mkF m 6 #[.val (.ref ax), .val (.int (0 : Int32)), .val (.int (6 : Int32)), .val (.int pi156), .val (.int ((5 : Int32) + (1 : Int32))), .val (.long qi156), .second] [])) _
    rw [show ((5 : Int32) + (1 : Int32)) = (6 : Int32) from by decide]
    refine XS.iload X156.here hx rfl (hb hby d12_6) rfl ?_
    refine XS.iloadN X156.here hx rfl (hb hby d12_8) rfl ?_
    refine XS.icmpYes X156.here hx rfl (pc0 := 9) (pc' := 69) rfl (hb hby d12_9) rfl (flt (by decide : ¬ ((6 : Int32) < (6 : Int32)))).2.1 (by decide) (by decide) ?_
    exact k
  obtain ⟨fs, hr, hrun, hended, hW, hsame⟩ := X156.leave (hlocks := BodyLoose.notSynchronized Bd) (v := none) (fun _ => rfl)
  refine ⟨_, _, X156.returnOut hx Bd.returns (hb hby d12_69) hr, hrun, hended, _, _, rfl, ?_, ⟨_, rfl⟩, hW, hsame.mono (by decide) (by decide)⟩
  show own_Q12_6_eq Z ax kk qx qy h0 n0 _ T156.heap _
  rw [e156]
  exact ⟨rfl, N156, Kc156, V156⟩
abbrev own_l94 (x0 : Addr) : Array Slot := #[.val (.ref x0), .val (.int (0 : Int32)), .val (.int (7 : Int32)), .unset, .val (.int (0 : Int32)), .unset, .unset]
abbrev own_l95 (x0 : Addr) (x1 : Int32) (x2 : Int64) : Array Slot := #[.val (.ref x0), .val (.int (0 : Int32)), .val (.int (7 : Int32)), .val (.int x1), .val (.int ((6 : Int32) + (1 : Int32))), .val (.long x2), .second]
abbrev own_l96 (x0 : Addr) (x1 : Int32) (x2 : Int64) : Array Slot := #[.val (.ref x0), .val (.int (0 : Int32)), .val (.int (7 : Int32)), .val (.int x1), .val (.int (6 : Int32)), .val (.long x2), .second]
abbrev own_l97 (x0 : Addr) (x1 : Int32) (x2 : Int64) : Array Slot := #[.val (.ref x0), .val (.int (0 : Int32)), .val (.int (7 : Int32)), .val (.int x1), .val (.int (7 : Int32)), .val (.long x2), .second]
def own_Q12_7_lt (Z : State) (ax : Addr) (kk : ClassId) (qx : Int64) (qy : Int64) (h0 : Heap) (n0 : Nat) (v : Option Value) (h : Heap) (L : List Loc) : Prop := v = none ∧ Fr n0 L ∧ Keep h0 h [ax] ∧ Arv Z h ax kk .long (7 : Int32) [(.long qx), (.long qx), (.long qx), (.long qx), (.long qy), (.long qy), (.long qy)] (.long (0 : Int64))
set_option maxRecDepth 65536 in
set_option maxHeartbeats 40000000 in
theorem rm12_7_lt (l : Launch) (Z : State) (a0 : Array Value) (hw : ∀ d ∈ tables_1, d.before a0 Z = true) (ws : List Jvm.Cond) (ax : Addr) (kk : ClassId) (qx : Int64) (qy : Int64) (h0 : Heap) (n0 : Nat) (Z0 : n0 ≤ h0.size) (V0 : Arv Z h0 ax kk .long (7 : Int32) [(.long qx), (.long qy), (.long qx), (.long qy), (.long qx), (.long qy), (.long qx)] (.long (0 : Int64))) (ga : n0 ≤ ax) (hxy : qx < qy) :
    MetFree l (⟨"java/util/DualPivotQuicksort", "insertionSort", "([JII)V"⟩ : MethodName) (head1 (Jvm.Cond.code (⟨"java/util/DualPivotQuicksort", "insertionSort", "([JII)V"⟩ : MethodName) jdk_2529_method_15_code 7 none :: ws) ({ frames := 0, cells := 0, slots := 0, locals := 0 } : Room)) (fun a U => a = #[(.ref ax), (.int (0 : Int32)), (.int (7 : Int32))] ∧ Z.Warmed39 U.vm ∧ U.heap = h0) (fun _ _ _ _ _ => True) (fun _ U o U' => ∃ v L, o = .returned v ∧ own_Q12_7_lt Z ax kk qx qy h0 n0 v U'.heap L ∧ FrameEnd U o U' L ({ frames := 0, cells := 0, slots := 0, locals := 0 } : Room).cells ({ frames := 0, cells := 0, slots := 0, locals := 0 } : Room).slots) := by
  refine MetFree.of_bodySF (plainFor_of_name own_pn12) hisR ?_
  intro p e s m args below meth c s₁ Bd hml0 hP hK
  obtain ⟨rfl, hZ, hh⟩ := hP
  have hx := Bd.exec
  have hby := Bd.bytes
  have hml : c.maxLocals = 7 := hml0
  have hown : s.vm.findClass "java/util/DualPivotQuicksort" = some m.cls := findClass_of_methodNamed Bd.named
  have hnm := (name_of_methodNamed Bd.named Bd.method).1
  have X0 : Stand p l e ({ frames := 0, cells := 0, slots := 0, locals := 0 } : Room) s m #[(.ref ax), (.int (0 : Int32)), (.int (7 : Int32))] below meth c s₁ [] 0 0 := Stand.of_body Bd
  have e0 : s₁.heap = h0 := by rw [← hh, Bd.state]; rfl
  have N0 := Fr.nil n0
  refine own_pre (A := (s₁.setTop (mkF m 0 #[.val (.ref ax), .val (.int (0 : Int32)), .val (.int (7 : Int32)), .unset, .unset, .unset, .unset] []))) (fun t k => castTop (own_ef12 m ax (0 : Int32) (7 : Int32)) k) ?_
  refine own_pre (A := (s₁.setTop (mkF m 3 (own_l94 ax) []))) ?_ ?_
  · intro t k
    refine XS.iloadN X0.here hx rfl (hb hby d12_0) rfl ?_
    refine XS.istore X0.here hx rfl (hb hby d12_1) rfl (l' := (own_l94 ax)) rfl ?_
    exact k
  refine own_tn1 X0 hx hZ hby e0 N0 ga (by decide) (own_asym hxy) V0 ?_
  intro T157 h157 locs157 pi157 qi157 X157 e157 N157 K157 V157
  have Kc157 : Keep h0 h157 [ax] := (Keep.refl h0 [ax]).trans K157 (allS (Or.inl (List.mem_of_getElem? (i := 0) rfl)) all0)
  refine own_ti2_lt X157 hx hZ hby e157 N157 ga (by decide) hxy V157 ?_
  intro T158 h158 locs158 pi158 qi158 X158 e158 N158 K158 V158
  have Kc158 : Keep h0 h158 [ax] := Kc157.trans K158 (allS (Or.inl (List.mem_of_getElem? (i := 0) rfl)) all0)
  refine own_tn3 X158 hx hZ hby e158 N158 ga (by decide) (own_irr _) V158 ?_
  intro T159 h159 locs159 pi159 qi159 X159 e159 N159 K159 V159
  have Kc159 : Keep h0 h159 [ax] := Kc158.trans K159 (allS (Or.inl (List.mem_of_getElem? (i := 0) rfl)) all0)
  refine own_ti4_lt X159 hx hZ hby e159 N159 ga (by decide) hxy V159 ?_
  intro T160 h160 locs160 pi160 qi160 X160 e160 N160 K160 V160
  have Kc160 : Keep h0 h160 [ax] := Kc159.trans K160 (allS (Or.inl (List.mem_of_getElem? (i := 0) rfl)) all0)
  refine own_tn5 X160 hx hZ hby e160 N160 ga (by decide) (own_irr _) V160 ?_
  intro T161 h161 locs161 pi161 qi161 X161 e161 N161 K161 V161
  have Kc161 : Keep h0 h161 [ax] := Kc160.trans K161 (allS (Or.inl (List.mem_of_getElem? (i := 0) rfl)) all0)
  refine own_ti6_lt X161 hx hZ hby e161 N161 ga (by decide) hxy V161 ?_
  intro T162 h162 locs162 pi162 qi162 X162 e162 N162 K162 V162
  have Kc162 : Keep h0 h162 [ax] := Kc161.trans K162 (allS (Or.inl (List.mem_of_getElem? (i := 0) rfl)) all0)
  refine own_pre (A := (T162.setTop (mkF m 69 (own_l97 ax pi162 qi162) []))) ?_ ?_
  · intro t k
    refine XS.iinc X162.here hx rfl (hb hby d12_3) rfl (l' := (own_l95 ax pi162 qi162)) rfl ?_
    show Steps  p.tables e below (T162.setTop (mkF m 6 #[.val (.ref ax), .val (.int (0 : Int32)), .val (.int (7 : Int32)), .val (.int pi162), .val (.int ((6 : Int32) + (1 : Int32))), .val (.long qi162), .second] [])) _
    rw [show ((6 : Int32) + (1 : Int32)) = (7 : Int32) from by decide]
    refine XS.iload X162.here hx rfl (hb hby d12_6) rfl ?_
    refine XS.iloadN X162.here hx rfl (hb hby d12_8) rfl ?_
    refine XS.icmpYes X162.here hx rfl (pc0 := 9) (pc' := 69) rfl (hb hby d12_9) rfl (flt (by decide : ¬ ((7 : Int32) < (7 : Int32)))).2.1 (by decide) (by decide) ?_
    exact k
  obtain ⟨fs, hr, hrun, hended, hW, hsame⟩ := X162.leave (hlocks := BodyLoose.notSynchronized Bd) (v := none) (fun _ => rfl)
  refine ⟨_, _, X162.returnOut hx Bd.returns (hb hby d12_69) hr, hrun, hended, _, _, rfl, ?_, ⟨_, rfl⟩, hW, hsame.mono (by decide) (by decide)⟩
  show own_Q12_7_lt Z ax kk qx qy h0 n0 _ T162.heap _
  rw [e162]
  exact ⟨rfl, N162, Kc162, V162⟩
def own_Q12_7_gt (Z : State) (ax : Addr) (kk : ClassId) (qx : Int64) (qy : Int64) (h0 : Heap) (n0 : Nat) (v : Option Value) (h : Heap) (L : List Loc) : Prop := v = none ∧ Fr n0 L ∧ Keep h0 h [ax] ∧ Arv Z h ax kk .long (7 : Int32) [(.long qy), (.long qy), (.long qy), (.long qx), (.long qx), (.long qx), (.long qx)] (.long (0 : Int64))
set_option maxRecDepth 65536 in
set_option maxHeartbeats 40000000 in
theorem rm12_7_gt (l : Launch) (Z : State) (a0 : Array Value) (hw : ∀ d ∈ tables_1, d.before a0 Z = true) (ws : List Jvm.Cond) (ax : Addr) (kk : ClassId) (qx : Int64) (qy : Int64) (h0 : Heap) (n0 : Nat) (Z0 : n0 ≤ h0.size) (V0 : Arv Z h0 ax kk .long (7 : Int32) [(.long qx), (.long qy), (.long qx), (.long qy), (.long qx), (.long qy), (.long qx)] (.long (0 : Int64))) (ga : n0 ≤ ax) (hxy : qy < qx) :
    MetFree l (⟨"java/util/DualPivotQuicksort", "insertionSort", "([JII)V"⟩ : MethodName) (head1 (Jvm.Cond.code (⟨"java/util/DualPivotQuicksort", "insertionSort", "([JII)V"⟩ : MethodName) jdk_2529_method_15_code 7 none :: ws) ({ frames := 0, cells := 0, slots := 0, locals := 0 } : Room)) (fun a U => a = #[(.ref ax), (.int (0 : Int32)), (.int (7 : Int32))] ∧ Z.Warmed39 U.vm ∧ U.heap = h0) (fun _ _ _ _ _ => True) (fun _ U o U' => ∃ v L, o = .returned v ∧ own_Q12_7_gt Z ax kk qx qy h0 n0 v U'.heap L ∧ FrameEnd U o U' L ({ frames := 0, cells := 0, slots := 0, locals := 0 } : Room).cells ({ frames := 0, cells := 0, slots := 0, locals := 0 } : Room).slots) := by
  refine MetFree.of_bodySF (plainFor_of_name own_pn12) hisR ?_
  intro p e s m args below meth c s₁ Bd hml0 hP hK
  obtain ⟨rfl, hZ, hh⟩ := hP
  have hx := Bd.exec
  have hby := Bd.bytes
  have hml : c.maxLocals = 7 := hml0
  have hown : s.vm.findClass "java/util/DualPivotQuicksort" = some m.cls := findClass_of_methodNamed Bd.named
  have hnm := (name_of_methodNamed Bd.named Bd.method).1
  have X0 : Stand p l e ({ frames := 0, cells := 0, slots := 0, locals := 0 } : Room) s m #[(.ref ax), (.int (0 : Int32)), (.int (7 : Int32))] below meth c s₁ [] 0 0 := Stand.of_body Bd
  have e0 : s₁.heap = h0 := by rw [← hh, Bd.state]; rfl
  have N0 := Fr.nil n0
  refine own_pre (A := (s₁.setTop (mkF m 0 #[.val (.ref ax), .val (.int (0 : Int32)), .val (.int (7 : Int32)), .unset, .unset, .unset, .unset] []))) (fun t k => castTop (own_ef12 m ax (0 : Int32) (7 : Int32)) k) ?_
  refine own_pre (A := (s₁.setTop (mkF m 3 (own_l94 ax) []))) ?_ ?_
  · intro t k
    refine XS.iloadN X0.here hx rfl (hb hby d12_0) rfl ?_
    refine XS.istore X0.here hx rfl (hb hby d12_1) rfl (l' := (own_l94 ax)) rfl ?_
    exact k
  refine own_ti1_gt X0 hx hZ hby e0 N0 ga (by decide) hxy V0 ?_
  intro T163 h163 locs163 pi163 qi163 X163 e163 N163 K163 V163
  have Kc163 : Keep h0 h163 [ax] := (Keep.refl h0 [ax]).trans K163 (allS (Or.inl (List.mem_of_getElem? (i := 0) rfl)) all0)
  refine own_tn2 X163 hx hZ hby e163 N163 ga (by decide) (own_irr _) V163 ?_
  intro T164 h164 locs164 pi164 qi164 X164 e164 N164 K164 V164
  have Kc164 : Keep h0 h164 [ax] := Kc163.trans K164 (allS (Or.inl (List.mem_of_getElem? (i := 0) rfl)) all0)
  refine own_ti3_gt X164 hx hZ hby e164 N164 ga (by decide) hxy V164 ?_
  intro T165 h165 locs165 pi165 qi165 X165 e165 N165 K165 V165
  have Kc165 : Keep h0 h165 [ax] := Kc164.trans K165 (allS (Or.inl (List.mem_of_getElem? (i := 0) rfl)) all0)
  refine own_tn4 X165 hx hZ hby e165 N165 ga (by decide) (own_irr _) V165 ?_
  intro T166 h166 locs166 pi166 qi166 X166 e166 N166 K166 V166
  have Kc166 : Keep h0 h166 [ax] := Kc165.trans K166 (allS (Or.inl (List.mem_of_getElem? (i := 0) rfl)) all0)
  refine own_ti5_gt X166 hx hZ hby e166 N166 ga (by decide) hxy V166 ?_
  intro T167 h167 locs167 pi167 qi167 X167 e167 N167 K167 V167
  have Kc167 : Keep h0 h167 [ax] := Kc166.trans K167 (allS (Or.inl (List.mem_of_getElem? (i := 0) rfl)) all0)
  refine own_tn6 X167 hx hZ hby e167 N167 ga (by decide) (own_irr _) V167 ?_
  intro T168 h168 locs168 pi168 qi168 X168 e168 N168 K168 V168
  have Kc168 : Keep h0 h168 [ax] := Kc167.trans K168 (allS (Or.inl (List.mem_of_getElem? (i := 0) rfl)) all0)
  refine own_pre (A := (T168.setTop (mkF m 69 (own_l97 ax pi168 qi168) []))) ?_ ?_
  · intro t k
    refine XS.iinc X168.here hx rfl (hb hby d12_3) rfl (l' := (own_l95 ax pi168 qi168)) rfl ?_
    show Steps  p.tables e below (T168.setTop (mkF m 6 #[.val (.ref ax), .val (.int (0 : Int32)), .val (.int (7 : Int32)), .val (.int pi168), .val (.int ((6 : Int32) + (1 : Int32))), .val (.long qi168), .second] [])) _
    rw [show ((6 : Int32) + (1 : Int32)) = (7 : Int32) from by decide]
    refine XS.iload X168.here hx rfl (hb hby d12_6) rfl ?_
    refine XS.iloadN X168.here hx rfl (hb hby d12_8) rfl ?_
    refine XS.icmpYes X168.here hx rfl (pc0 := 9) (pc' := 69) rfl (hb hby d12_9) rfl (flt (by decide : ¬ ((7 : Int32) < (7 : Int32)))).2.1 (by decide) (by decide) ?_
    exact k
  obtain ⟨fs, hr, hrun, hended, hW, hsame⟩ := X168.leave (hlocks := BodyLoose.notSynchronized Bd) (v := none) (fun _ => rfl)
  refine ⟨_, _, X168.returnOut hx Bd.returns (hb hby d12_69) hr, hrun, hended, _, _, rfl, ?_, ⟨_, rfl⟩, hW, hsame.mono (by decide) (by decide)⟩
  show own_Q12_7_gt Z ax kk qx qy h0 n0 _ T168.heap _
  rw [e168]
  exact ⟨rfl, N168, Kc168, V168⟩
def own_Q12_7_eq (Z : State) (ax : Addr) (kk : ClassId) (qx : Int64) (qy : Int64) (h0 : Heap) (n0 : Nat) (v : Option Value) (h : Heap) (L : List Loc) : Prop := v = none ∧ Fr n0 L ∧ Keep h0 h [ax] ∧ Arv Z h ax kk .long (7 : Int32) [(.long qx), (.long qx), (.long qx), (.long qx), (.long qx), (.long qx), (.long qx)] (.long (0 : Int64))
set_option maxRecDepth 65536 in
set_option maxHeartbeats 40000000 in
theorem rm12_7_eq (l : Launch) (Z : State) (a0 : Array Value) (hw : ∀ d ∈ tables_1, d.before a0 Z = true) (ws : List Jvm.Cond) (ax : Addr) (kk : ClassId) (qx : Int64) (qy : Int64) (h0 : Heap) (n0 : Nat) (Z0 : n0 ≤ h0.size) (V0 : Arv Z h0 ax kk .long (7 : Int32) [(.long qx), (.long qx), (.long qx), (.long qx), (.long qx), (.long qx), (.long qx)] (.long (0 : Int64))) (ga : n0 ≤ ax) :
    MetFree l (⟨"java/util/DualPivotQuicksort", "insertionSort", "([JII)V"⟩ : MethodName) (head1 (Jvm.Cond.code (⟨"java/util/DualPivotQuicksort", "insertionSort", "([JII)V"⟩ : MethodName) jdk_2529_method_15_code 7 none :: ws) ({ frames := 0, cells := 0, slots := 0, locals := 0 } : Room)) (fun a U => a = #[(.ref ax), (.int (0 : Int32)), (.int (7 : Int32))] ∧ Z.Warmed39 U.vm ∧ U.heap = h0) (fun _ _ _ _ _ => True) (fun _ U o U' => ∃ v L, o = .returned v ∧ own_Q12_7_eq Z ax kk qx qy h0 n0 v U'.heap L ∧ FrameEnd U o U' L ({ frames := 0, cells := 0, slots := 0, locals := 0 } : Room).cells ({ frames := 0, cells := 0, slots := 0, locals := 0 } : Room).slots) := by
  refine MetFree.of_bodySF (plainFor_of_name own_pn12) hisR ?_
  intro p e s m args below meth c s₁ Bd hml0 hP hK
  obtain ⟨rfl, hZ, hh⟩ := hP
  have hx := Bd.exec
  have hby := Bd.bytes
  have hml : c.maxLocals = 7 := hml0
  have hown : s.vm.findClass "java/util/DualPivotQuicksort" = some m.cls := findClass_of_methodNamed Bd.named
  have hnm := (name_of_methodNamed Bd.named Bd.method).1
  have X0 : Stand p l e ({ frames := 0, cells := 0, slots := 0, locals := 0 } : Room) s m #[(.ref ax), (.int (0 : Int32)), (.int (7 : Int32))] below meth c s₁ [] 0 0 := Stand.of_body Bd
  have e0 : s₁.heap = h0 := by rw [← hh, Bd.state]; rfl
  have N0 := Fr.nil n0
  refine own_pre (A := (s₁.setTop (mkF m 0 #[.val (.ref ax), .val (.int (0 : Int32)), .val (.int (7 : Int32)), .unset, .unset, .unset, .unset] []))) (fun t k => castTop (own_ef12 m ax (0 : Int32) (7 : Int32)) k) ?_
  refine own_pre (A := (s₁.setTop (mkF m 3 (own_l94 ax) []))) ?_ ?_
  · intro t k
    refine XS.iloadN X0.here hx rfl (hb hby d12_0) rfl ?_
    refine XS.istore X0.here hx rfl (hb hby d12_1) rfl (l' := (own_l94 ax)) rfl ?_
    exact k
  refine own_tn1 X0 hx hZ hby e0 N0 ga (by decide) (own_irr _) V0 ?_
  intro T169 h169 locs169 pi169 qi169 X169 e169 N169 K169 V169
  have Kc169 : Keep h0 h169 [ax] := (Keep.refl h0 [ax]).trans K169 (allS (Or.inl (List.mem_of_getElem? (i := 0) rfl)) all0)
  refine own_tn2 X169 hx hZ hby e169 N169 ga (by decide) (own_irr _) V169 ?_
  intro T170 h170 locs170 pi170 qi170 X170 e170 N170 K170 V170
  have Kc170 : Keep h0 h170 [ax] := Kc169.trans K170 (allS (Or.inl (List.mem_of_getElem? (i := 0) rfl)) all0)
  refine own_tn3 X170 hx hZ hby e170 N170 ga (by decide) (own_irr _) V170 ?_
  intro T171 h171 locs171 pi171 qi171 X171 e171 N171 K171 V171
  have Kc171 : Keep h0 h171 [ax] := Kc170.trans K171 (allS (Or.inl (List.mem_of_getElem? (i := 0) rfl)) all0)
  refine own_tn4 X171 hx hZ hby e171 N171 ga (by decide) (own_irr _) V171 ?_
  intro T172 h172 locs172 pi172 qi172 X172 e172 N172 K172 V172
  have Kc172 : Keep h0 h172 [ax] := Kc171.trans K172 (allS (Or.inl (List.mem_of_getElem? (i := 0) rfl)) all0)
  refine own_tn5 X172 hx hZ hby e172 N172 ga (by decide) (own_irr _) V172 ?_
  intro T173 h173 locs173 pi173 qi173 X173 e173 N173 K173 V173
  have Kc173 : Keep h0 h173 [ax] := Kc172.trans K173 (allS (Or.inl (List.mem_of_getElem? (i := 0) rfl)) all0)
  refine own_tn6 X173 hx hZ hby e173 N173 ga (by decide) (own_irr _) V173 ?_
  intro T174 h174 locs174 pi174 qi174 X174 e174 N174 K174 V174
  have Kc174 : Keep h0 h174 [ax] := Kc173.trans K174 (allS (Or.inl (List.mem_of_getElem? (i := 0) rfl)) all0)
  refine own_pre (A := (T174.setTop (mkF m 69 (own_l97 ax pi174 qi174) []))) ?_ ?_
  · intro t k
    refine XS.iinc X174.here hx rfl (hb hby d12_3) rfl (l' := (own_l95 ax pi174 qi174)) rfl ?_
    show Steps  p.tables e below (T174.setTop (mkF m 6 #[.val (.ref ax), .val (.int (0 : Int32)), .val (.int (7 : Int32)), .val (.int pi174), .val (.int ((6 : Int32) + (1 : Int32))), .val (.long qi174), .second] [])) _
    rw [show ((6 : Int32) + (1 : Int32)) = (7 : Int32) from by decide]
    refine XS.iload X174.here hx rfl (hb hby d12_6) rfl ?_
    refine XS.iloadN X174.here hx rfl (hb hby d12_8) rfl ?_
    refine XS.icmpYes X174.here hx rfl (pc0 := 9) (pc' := 69) rfl (hb hby d12_9) rfl (flt (by decide : ¬ ((7 : Int32) < (7 : Int32)))).2.1 (by decide) (by decide) ?_
    exact k
  obtain ⟨fs, hr, hrun, hended, hW, hsame⟩ := X174.leave (hlocks := BodyLoose.notSynchronized Bd) (v := none) (fun _ => rfl)
  refine ⟨_, _, X174.returnOut hx Bd.returns (hb hby d12_69) hr, hrun, hended, _, _, rfl, ?_, ⟨_, rfl⟩, hW, hsame.mono (by decide) (by decide)⟩
  show own_Q12_7_eq Z ax kk qx qy h0 n0 _ T174.heap _
  rw [e174]
  exact ⟨rfl, N174, Kc174, V174⟩
abbrev own_l98 (x0 : Addr) : Array Slot := #[.val (.ref x0), .val (.int (0 : Int32)), .val (.int (8 : Int32)), .unset, .val (.int (0 : Int32)), .unset, .unset]
abbrev own_l99 (x0 : Addr) (x1 : Int32) (x2 : Int64) : Array Slot := #[.val (.ref x0), .val (.int (0 : Int32)), .val (.int (8 : Int32)), .val (.int x1), .val (.int ((7 : Int32) + (1 : Int32))), .val (.long x2), .second]
abbrev own_l100 (x0 : Addr) (x1 : Int32) (x2 : Int64) : Array Slot := #[.val (.ref x0), .val (.int (0 : Int32)), .val (.int (8 : Int32)), .val (.int x1), .val (.int (7 : Int32)), .val (.long x2), .second]
abbrev own_l101 (x0 : Addr) (x1 : Int32) (x2 : Int64) : Array Slot := #[.val (.ref x0), .val (.int (0 : Int32)), .val (.int (8 : Int32)), .val (.int x1), .val (.int (8 : Int32)), .val (.long x2), .second]
def own_Q12_8_lt (Z : State) (ax : Addr) (kk : ClassId) (qx : Int64) (qy : Int64) (h0 : Heap) (n0 : Nat) (v : Option Value) (h : Heap) (L : List Loc) : Prop := v = none ∧ Fr n0 L ∧ Keep h0 h [ax] ∧ Arv Z h ax kk .long (8 : Int32) [(.long qx), (.long qx), (.long qx), (.long qx), (.long qy), (.long qy), (.long qy), (.long qy)] (.long (0 : Int64))
set_option maxRecDepth 65536 in
set_option maxHeartbeats 40000000 in
theorem rm12_8_lt (l : Launch) (Z : State) (a0 : Array Value) (hw : ∀ d ∈ tables_1, d.before a0 Z = true) (ws : List Jvm.Cond) (ax : Addr) (kk : ClassId) (qx : Int64) (qy : Int64) (h0 : Heap) (n0 : Nat) (Z0 : n0 ≤ h0.size) (V0 : Arv Z h0 ax kk .long (8 : Int32) [(.long qx), (.long qy), (.long qx), (.long qy), (.long qx), (.long qy), (.long qx), (.long qy)] (.long (0 : Int64))) (ga : n0 ≤ ax) (hxy : qx < qy) :
    MetFree l (⟨"java/util/DualPivotQuicksort", "insertionSort", "([JII)V"⟩ : MethodName) (head1 (Jvm.Cond.code (⟨"java/util/DualPivotQuicksort", "insertionSort", "([JII)V"⟩ : MethodName) jdk_2529_method_15_code 7 none :: ws) ({ frames := 0, cells := 0, slots := 0, locals := 0 } : Room)) (fun a U => a = #[(.ref ax), (.int (0 : Int32)), (.int (8 : Int32))] ∧ Z.Warmed39 U.vm ∧ U.heap = h0) (fun _ _ _ _ _ => True) (fun _ U o U' => ∃ v L, o = .returned v ∧ own_Q12_8_lt Z ax kk qx qy h0 n0 v U'.heap L ∧ FrameEnd U o U' L ({ frames := 0, cells := 0, slots := 0, locals := 0 } : Room).cells ({ frames := 0, cells := 0, slots := 0, locals := 0 } : Room).slots) := by
  refine MetFree.of_bodySF (plainFor_of_name own_pn12) hisR ?_
  intro p e s m args below meth c s₁ Bd hml0 hP hK
  obtain ⟨rfl, hZ, hh⟩ := hP
  have hx := Bd.exec
  have hby := Bd.bytes
  have hml : c.maxLocals = 7 := hml0
  have hown : s.vm.findClass "java/util/DualPivotQuicksort" = some m.cls := findClass_of_methodNamed Bd.named
  have hnm := (name_of_methodNamed Bd.named Bd.method).1
  have X0 : Stand p l e ({ frames := 0, cells := 0, slots := 0, locals := 0 } : Room) s m #[(.ref ax), (.int (0 : Int32)), (.int (8 : Int32))] below meth c s₁ [] 0 0 := Stand.of_body Bd
  have e0 : s₁.heap = h0 := by rw [← hh, Bd.state]; rfl
  have N0 := Fr.nil n0
  refine own_pre (A := (s₁.setTop (mkF m 0 #[.val (.ref ax), .val (.int (0 : Int32)), .val (.int (8 : Int32)), .unset, .unset, .unset, .unset] []))) (fun t k => castTop (own_ef12 m ax (0 : Int32) (8 : Int32)) k) ?_
  refine own_pre (A := (s₁.setTop (mkF m 3 (own_l98 ax) []))) ?_ ?_
  · intro t k
    refine XS.iloadN X0.here hx rfl (hb hby d12_0) rfl ?_
    refine XS.istore X0.here hx rfl (hb hby d12_1) rfl (l' := (own_l98 ax)) rfl ?_
    exact k
  refine own_tn1 X0 hx hZ hby e0 N0 ga (by decide) (own_asym hxy) V0 ?_
  intro T175 h175 locs175 pi175 qi175 X175 e175 N175 K175 V175
  have Kc175 : Keep h0 h175 [ax] := (Keep.refl h0 [ax]).trans K175 (allS (Or.inl (List.mem_of_getElem? (i := 0) rfl)) all0)
  refine own_ti2_lt X175 hx hZ hby e175 N175 ga (by decide) hxy V175 ?_
  intro T176 h176 locs176 pi176 qi176 X176 e176 N176 K176 V176
  have Kc176 : Keep h0 h176 [ax] := Kc175.trans K176 (allS (Or.inl (List.mem_of_getElem? (i := 0) rfl)) all0)
  refine own_tn3 X176 hx hZ hby e176 N176 ga (by decide) (own_irr _) V176 ?_
  intro T177 h177 locs177 pi177 qi177 X177 e177 N177 K177 V177
  have Kc177 : Keep h0 h177 [ax] := Kc176.trans K177 (allS (Or.inl (List.mem_of_getElem? (i := 0) rfl)) all0)
  refine own_ti4_lt X177 hx hZ hby e177 N177 ga (by decide) hxy V177 ?_
  intro T178 h178 locs178 pi178 qi178 X178 e178 N178 K178 V178
  have Kc178 : Keep h0 h178 [ax] := Kc177.trans K178 (allS (Or.inl (List.mem_of_getElem? (i := 0) rfl)) all0)
  refine own_tn5 X178 hx hZ hby e178 N178 ga (by decide) (own_irr _) V178 ?_
  intro T179 h179 locs179 pi179 qi179 X179 e179 N179 K179 V179
  have Kc179 : Keep h0 h179 [ax] := Kc178.trans K179 (allS (Or.inl (List.mem_of_getElem? (i := 0) rfl)) all0)
  refine own_ti6_lt X179 hx hZ hby e179 N179 ga (by decide) hxy V179 ?_
  intro T180 h180 locs180 pi180 qi180 X180 e180 N180 K180 V180
  have Kc180 : Keep h0 h180 [ax] := Kc179.trans K180 (allS (Or.inl (List.mem_of_getElem? (i := 0) rfl)) all0)
  refine own_tn7 X180 hx hZ hby e180 N180 ga (by decide) (own_irr _) V180 ?_
  intro T181 h181 locs181 pi181 qi181 X181 e181 N181 K181 V181
  have Kc181 : Keep h0 h181 [ax] := Kc180.trans K181 (allS (Or.inl (List.mem_of_getElem? (i := 0) rfl)) all0)
  refine own_pre (A := (T181.setTop (mkF m 69 (own_l101 ax pi181 qi181) []))) ?_ ?_
  · intro t k
    refine XS.iinc X181.here hx rfl (hb hby d12_3) rfl (l' := (own_l99 ax pi181 qi181)) rfl ?_
    show Steps  p.tables e below (T181.setTop (mkF m 6 #[.val (.ref ax), .val (.int (0 : Int32)), .val (.int (8 : Int32)), .val (.int pi181), .val (.int ((7 : Int32) + (1 : Int32))), .val (.long qi181), .second] [])) _
    rw [show ((7 : Int32) + (1 : Int32)) = (8 : Int32) from by decide]
    refine XS.iload X181.here hx rfl (hb hby d12_6) rfl ?_
    refine XS.iloadN X181.here hx rfl (hb hby d12_8) rfl ?_
    refine XS.icmpYes X181.here hx rfl (pc0 := 9) (pc' := 69) rfl (hb hby d12_9) rfl (flt (by decide : ¬ ((8 : Int32) < (8 : Int32)))).2.1 (by decide) (by decide) ?_
    exact k
  obtain ⟨fs, hr, hrun, hended, hW, hsame⟩ := X181.leave (hlocks := BodyLoose.notSynchronized Bd) (v := none) (fun _ => rfl)
  refine ⟨_, _, X181.returnOut hx Bd.returns (hb hby d12_69) hr, hrun, hended, _, _, rfl, ?_, ⟨_, rfl⟩, hW, hsame.mono (by decide) (by decide)⟩
  show own_Q12_8_lt Z ax kk qx qy h0 n0 _ T181.heap _
  rw [e181]
  exact ⟨rfl, N181, Kc181, V181⟩
def own_Q12_8_gt (Z : State) (ax : Addr) (kk : ClassId) (qx : Int64) (qy : Int64) (h0 : Heap) (n0 : Nat) (v : Option Value) (h : Heap) (L : List Loc) : Prop := v = none ∧ Fr n0 L ∧ Keep h0 h [ax] ∧ Arv Z h ax kk .long (8 : Int32) [(.long qy), (.long qy), (.long qy), (.long qy), (.long qx), (.long qx), (.long qx), (.long qx)] (.long (0 : Int64))
set_option maxRecDepth 65536 in
set_option maxHeartbeats 40000000 in
theorem rm12_8_gt (l : Launch) (Z : State) (a0 : Array Value) (hw : ∀ d ∈ tables_1, d.before a0 Z = true) (ws : List Jvm.Cond) (ax : Addr) (kk : ClassId) (qx : Int64) (qy : Int64) (h0 : Heap) (n0 : Nat) (Z0 : n0 ≤ h0.size) (V0 : Arv Z h0 ax kk .long (8 : Int32) [(.long qx), (.long qy), (.long qx), (.long qy), (.long qx), (.long qy), (.long qx), (.long qy)] (.long (0 : Int64))) (ga : n0 ≤ ax) (hxy : qy < qx) :
    MetFree l (⟨"java/util/DualPivotQuicksort", "insertionSort", "([JII)V"⟩ : MethodName) (head1 (Jvm.Cond.code (⟨"java/util/DualPivotQuicksort", "insertionSort", "([JII)V"⟩ : MethodName) jdk_2529_method_15_code 7 none :: ws) ({ frames := 0, cells := 0, slots := 0, locals := 0 } : Room)) (fun a U => a = #[(.ref ax), (.int (0 : Int32)), (.int (8 : Int32))] ∧ Z.Warmed39 U.vm ∧ U.heap = h0) (fun _ _ _ _ _ => True) (fun _ U o U' => ∃ v L, o = .returned v ∧ own_Q12_8_gt Z ax kk qx qy h0 n0 v U'.heap L ∧ FrameEnd U o U' L ({ frames := 0, cells := 0, slots := 0, locals := 0 } : Room).cells ({ frames := 0, cells := 0, slots := 0, locals := 0 } : Room).slots) := by
  refine MetFree.of_bodySF (plainFor_of_name own_pn12) hisR ?_
  intro p e s m args below meth c s₁ Bd hml0 hP hK
  obtain ⟨rfl, hZ, hh⟩ := hP
  have hx := Bd.exec
  have hby := Bd.bytes
  have hml : c.maxLocals = 7 := hml0
  have hown : s.vm.findClass "java/util/DualPivotQuicksort" = some m.cls := findClass_of_methodNamed Bd.named
  have hnm := (name_of_methodNamed Bd.named Bd.method).1
  have X0 : Stand p l e ({ frames := 0, cells := 0, slots := 0, locals := 0 } : Room) s m #[(.ref ax), (.int (0 : Int32)), (.int (8 : Int32))] below meth c s₁ [] 0 0 := Stand.of_body Bd
  have e0 : s₁.heap = h0 := by rw [← hh, Bd.state]; rfl
  have N0 := Fr.nil n0
  refine own_pre (A := (s₁.setTop (mkF m 0 #[.val (.ref ax), .val (.int (0 : Int32)), .val (.int (8 : Int32)), .unset, .unset, .unset, .unset] []))) (fun t k => castTop (own_ef12 m ax (0 : Int32) (8 : Int32)) k) ?_
  refine own_pre (A := (s₁.setTop (mkF m 3 (own_l98 ax) []))) ?_ ?_
  · intro t k
    refine XS.iloadN X0.here hx rfl (hb hby d12_0) rfl ?_
    refine XS.istore X0.here hx rfl (hb hby d12_1) rfl (l' := (own_l98 ax)) rfl ?_
    exact k
  refine own_ti1_gt X0 hx hZ hby e0 N0 ga (by decide) hxy V0 ?_
  intro T182 h182 locs182 pi182 qi182 X182 e182 N182 K182 V182
  have Kc182 : Keep h0 h182 [ax] := (Keep.refl h0 [ax]).trans K182 (allS (Or.inl (List.mem_of_getElem? (i := 0) rfl)) all0)
  refine own_tn2 X182 hx hZ hby e182 N182 ga (by decide) (own_irr _) V182 ?_
  intro T183 h183 locs183 pi183 qi183 X183 e183 N183 K183 V183
  have Kc183 : Keep h0 h183 [ax] := Kc182.trans K183 (allS (Or.inl (List.mem_of_getElem? (i := 0) rfl)) all0)
  refine own_ti3_gt X183 hx hZ hby e183 N183 ga (by decide) hxy V183 ?_
  intro T184 h184 locs184 pi184 qi184 X184 e184 N184 K184 V184
  have Kc184 : Keep h0 h184 [ax] := Kc183.trans K184 (allS (Or.inl (List.mem_of_getElem? (i := 0) rfl)) all0)
  refine own_tn4 X184 hx hZ hby e184 N184 ga (by decide) (own_irr _) V184 ?_
  intro T185 h185 locs185 pi185 qi185 X185 e185 N185 K185 V185
  have Kc185 : Keep h0 h185 [ax] := Kc184.trans K185 (allS (Or.inl (List.mem_of_getElem? (i := 0) rfl)) all0)
  refine own_ti5_gt X185 hx hZ hby e185 N185 ga (by decide) hxy V185 ?_
  intro T186 h186 locs186 pi186 qi186 X186 e186 N186 K186 V186
  have Kc186 : Keep h0 h186 [ax] := Kc185.trans K186 (allS (Or.inl (List.mem_of_getElem? (i := 0) rfl)) all0)
  refine own_tn6 X186 hx hZ hby e186 N186 ga (by decide) (own_irr _) V186 ?_
  intro T187 h187 locs187 pi187 qi187 X187 e187 N187 K187 V187
  have Kc187 : Keep h0 h187 [ax] := Kc186.trans K187 (allS (Or.inl (List.mem_of_getElem? (i := 0) rfl)) all0)
  refine own_ti7_gt X187 hx hZ hby e187 N187 ga (by decide) hxy V187 ?_
  intro T188 h188 locs188 pi188 qi188 X188 e188 N188 K188 V188
  have Kc188 : Keep h0 h188 [ax] := Kc187.trans K188 (allS (Or.inl (List.mem_of_getElem? (i := 0) rfl)) all0)
  refine own_pre (A := (T188.setTop (mkF m 69 (own_l101 ax pi188 qi188) []))) ?_ ?_
  · intro t k
    refine XS.iinc X188.here hx rfl (hb hby d12_3) rfl (l' := (own_l99 ax pi188 qi188)) rfl ?_
    show Steps  p.tables e below (T188.setTop (mkF m 6 #[.val (.ref ax), .val (.int (0 : Int32)), .val (.int (8 : Int32)), .val (.int pi188), .val (.int ((7 : Int32) + (1 : Int32))), .val (.long qi188), .second] [])) _
    rw [show ((7 : Int32) + (1 : Int32)) = (8 : Int32) from by decide]
    refine XS.iload X188.here hx rfl (hb hby d12_6) rfl ?_
    refine XS.iloadN X188.here hx rfl (hb hby d12_8) rfl ?_
    refine XS.icmpYes X188.here hx rfl (pc0 := 9) (pc' := 69) rfl (hb hby d12_9) rfl (flt (by decide : ¬ ((8 : Int32) < (8 : Int32)))).2.1 (by decide) (by decide) ?_
    exact k
  obtain ⟨fs, hr, hrun, hended, hW, hsame⟩ := X188.leave (hlocks := BodyLoose.notSynchronized Bd) (v := none) (fun _ => rfl)
  refine ⟨_, _, X188.returnOut hx Bd.returns (hb hby d12_69) hr, hrun, hended, _, _, rfl, ?_, ⟨_, rfl⟩, hW, hsame.mono (by decide) (by decide)⟩
  show own_Q12_8_gt Z ax kk qx qy h0 n0 _ T188.heap _
  rw [e188]
  exact ⟨rfl, N188, Kc188, V188⟩
def own_Q12_8_eq (Z : State) (ax : Addr) (kk : ClassId) (qx : Int64) (qy : Int64) (h0 : Heap) (n0 : Nat) (v : Option Value) (h : Heap) (L : List Loc) : Prop := v = none ∧ Fr n0 L ∧ Keep h0 h [ax] ∧ Arv Z h ax kk .long (8 : Int32) [(.long qx), (.long qx), (.long qx), (.long qx), (.long qx), (.long qx), (.long qx), (.long qx)] (.long (0 : Int64))
set_option maxRecDepth 65536 in
set_option maxHeartbeats 40000000 in
theorem rm12_8_eq (l : Launch) (Z : State) (a0 : Array Value) (hw : ∀ d ∈ tables_1, d.before a0 Z = true) (ws : List Jvm.Cond) (ax : Addr) (kk : ClassId) (qx : Int64) (qy : Int64) (h0 : Heap) (n0 : Nat) (Z0 : n0 ≤ h0.size) (V0 : Arv Z h0 ax kk .long (8 : Int32) [(.long qx), (.long qx), (.long qx), (.long qx), (.long qx), (.long qx), (.long qx), (.long qx)] (.long (0 : Int64))) (ga : n0 ≤ ax) :
    MetFree l (⟨"java/util/DualPivotQuicksort", "insertionSort", "([JII)V"⟩ : MethodName) (head1 (Jvm.Cond.code (⟨"java/util/DualPivotQuicksort", "insertionSort", "([JII)V"⟩ : MethodName) jdk_2529_method_15_code 7 none :: ws) ({ frames := 0, cells := 0, slots := 0, locals := 0 } : Room)) (fun a U => a = #[(.ref ax), (.int (0 : Int32)), (.int (8 : Int32))] ∧ Z.Warmed39 U.vm ∧ U.heap = h0) (fun _ _ _ _ _ => True) (fun _ U o U' => ∃ v L, o = .returned v ∧ own_Q12_8_eq Z ax kk qx qy h0 n0 v U'.heap L ∧ FrameEnd U o U' L ({ frames := 0, cells := 0, slots := 0, locals := 0 } : Room).cells ({ frames := 0, cells := 0, slots := 0, locals := 0 } : Room).slots) := by
  refine MetFree.of_bodySF (plainFor_of_name own_pn12) hisR ?_
  intro p e s m args below meth c s₁ Bd hml0 hP hK
  obtain ⟨rfl, hZ, hh⟩ := hP
  have hx := Bd.exec
  have hby := Bd.bytes
  have hml : c.maxLocals = 7 := hml0
  have hown : s.vm.findClass "java/util/DualPivotQuicksort" = some m.cls := findClass_of_methodNamed Bd.named
  have hnm := (name_of_methodNamed Bd.named Bd.method).1
  have X0 : Stand p l e ({ frames := 0, cells := 0, slots := 0, locals := 0 } : Room) s m #[(.ref ax), (.int (0 : Int32)), (.int (8 : Int32))] below meth c s₁ [] 0 0 := Stand.of_body Bd
  have e0 : s₁.heap = h0 := by rw [← hh, Bd.state]; rfl
  have N0 := Fr.nil n0
  refine own_pre (A := (s₁.setTop (mkF m 0 #[.val (.ref ax), .val (.int (0 : Int32)), .val (.int (8 : Int32)), .unset, .unset, .unset, .unset] []))) (fun t k => castTop (own_ef12 m ax (0 : Int32) (8 : Int32)) k) ?_
  refine own_pre (A := (s₁.setTop (mkF m 3 (own_l98 ax) []))) ?_ ?_
  · intro t k
    refine XS.iloadN X0.here hx rfl (hb hby d12_0) rfl ?_
    refine XS.istore X0.here hx rfl (hb hby d12_1) rfl (l' := (own_l98 ax)) rfl ?_
    exact k
  refine own_tn1 X0 hx hZ hby e0 N0 ga (by decide) (own_irr _) V0 ?_
  intro T189 h189 locs189 pi189 qi189 X189 e189 N189 K189 V189
  have Kc189 : Keep h0 h189 [ax] := (Keep.refl h0 [ax]).trans K189 (allS (Or.inl (List.mem_of_getElem? (i := 0) rfl)) all0)
  refine own_tn2 X189 hx hZ hby e189 N189 ga (by decide) (own_irr _) V189 ?_
  intro T190 h190 locs190 pi190 qi190 X190 e190 N190 K190 V190
  have Kc190 : Keep h0 h190 [ax] := Kc189.trans K190 (allS (Or.inl (List.mem_of_getElem? (i := 0) rfl)) all0)
  refine own_tn3 X190 hx hZ hby e190 N190 ga (by decide) (own_irr _) V190 ?_
  intro T191 h191 locs191 pi191 qi191 X191 e191 N191 K191 V191
  have Kc191 : Keep h0 h191 [ax] := Kc190.trans K191 (allS (Or.inl (List.mem_of_getElem? (i := 0) rfl)) all0)
  refine own_tn4 X191 hx hZ hby e191 N191 ga (by decide) (own_irr _) V191 ?_
  intro T192 h192 locs192 pi192 qi192 X192 e192 N192 K192 V192
  have Kc192 : Keep h0 h192 [ax] := Kc191.trans K192 (allS (Or.inl (List.mem_of_getElem? (i := 0) rfl)) all0)
  refine own_tn5 X192 hx hZ hby e192 N192 ga (by decide) (own_irr _) V192 ?_
  intro T193 h193 locs193 pi193 qi193 X193 e193 N193 K193 V193
  have Kc193 : Keep h0 h193 [ax] := Kc192.trans K193 (allS (Or.inl (List.mem_of_getElem? (i := 0) rfl)) all0)
  refine own_tn6 X193 hx hZ hby e193 N193 ga (by decide) (own_irr _) V193 ?_
  intro T194 h194 locs194 pi194 qi194 X194 e194 N194 K194 V194
  have Kc194 : Keep h0 h194 [ax] := Kc193.trans K194 (allS (Or.inl (List.mem_of_getElem? (i := 0) rfl)) all0)
  refine own_tn7 X194 hx hZ hby e194 N194 ga (by decide) (own_irr _) V194 ?_
  intro T195 h195 locs195 pi195 qi195 X195 e195 N195 K195 V195
  have Kc195 : Keep h0 h195 [ax] := Kc194.trans K195 (allS (Or.inl (List.mem_of_getElem? (i := 0) rfl)) all0)
  refine own_pre (A := (T195.setTop (mkF m 69 (own_l101 ax pi195 qi195) []))) ?_ ?_
  · intro t k
    refine XS.iinc X195.here hx rfl (hb hby d12_3) rfl (l' := (own_l99 ax pi195 qi195)) rfl ?_
    show Steps  p.tables e below (T195.setTop (mkF m 6 #[.val (.ref ax), .val (.int (0 : Int32)), .val (.int (8 : Int32)), .val (.int pi195), .val (.int ((7 : Int32) + (1 : Int32))), .val (.long qi195), .second] [])) _
    rw [show ((7 : Int32) + (1 : Int32)) = (8 : Int32) from by decide]
    refine XS.iload X195.here hx rfl (hb hby d12_6) rfl ?_
    refine XS.iloadN X195.here hx rfl (hb hby d12_8) rfl ?_
    refine XS.icmpYes X195.here hx rfl (pc0 := 9) (pc' := 69) rfl (hb hby d12_9) rfl (flt (by decide : ¬ ((8 : Int32) < (8 : Int32)))).2.1 (by decide) (by decide) ?_
    exact k
  obtain ⟨fs, hr, hrun, hended, hW, hsame⟩ := X195.leave (hlocks := BodyLoose.notSynchronized Bd) (v := none) (fun _ => rfl)
  refine ⟨_, _, X195.returnOut hx Bd.returns (hb hby d12_69) hr, hrun, hended, _, _, rfl, ?_, ⟨_, rfl⟩, hW, hsame.mono (by decide) (by decide)⟩
  show own_Q12_8_eq Z ax kk qx qy h0 n0 _ T195.heap _
  rw [e195]
  exact ⟨rfl, N195, Kc195, V195⟩
abbrev own_l102 (x0 : Addr) : Array Slot := #[.val (.ref x0), .val (.int (0 : Int32)), .val (.int (9 : Int32)), .unset, .val (.int (0 : Int32)), .unset, .unset]
abbrev own_l103 (x0 : Addr) (x1 : Int32) (x2 : Int64) : Array Slot := #[.val (.ref x0), .val (.int (0 : Int32)), .val (.int (9 : Int32)), .val (.int x1), .val (.int ((8 : Int32) + (1 : Int32))), .val (.long x2), .second]
abbrev own_l104 (x0 : Addr) (x1 : Int32) (x2 : Int64) : Array Slot := #[.val (.ref x0), .val (.int (0 : Int32)), .val (.int (9 : Int32)), .val (.int x1), .val (.int (8 : Int32)), .val (.long x2), .second]
abbrev own_l105 (x0 : Addr) (x1 : Int32) (x2 : Int64) : Array Slot := #[.val (.ref x0), .val (.int (0 : Int32)), .val (.int (9 : Int32)), .val (.int x1), .val (.int (9 : Int32)), .val (.long x2), .second]
def own_Q12_9_lt (Z : State) (ax : Addr) (kk : ClassId) (qx : Int64) (qy : Int64) (h0 : Heap) (n0 : Nat) (v : Option Value) (h : Heap) (L : List Loc) : Prop := v = none ∧ Fr n0 L ∧ Keep h0 h [ax] ∧ Arv Z h ax kk .long (9 : Int32) [(.long qx), (.long qx), (.long qx), (.long qx), (.long qx), (.long qy), (.long qy), (.long qy), (.long qy)] (.long (0 : Int64))
set_option maxRecDepth 65536 in
set_option maxHeartbeats 40000000 in
theorem rm12_9_lt (l : Launch) (Z : State) (a0 : Array Value) (hw : ∀ d ∈ tables_1, d.before a0 Z = true) (ws : List Jvm.Cond) (ax : Addr) (kk : ClassId) (qx : Int64) (qy : Int64) (h0 : Heap) (n0 : Nat) (Z0 : n0 ≤ h0.size) (V0 : Arv Z h0 ax kk .long (9 : Int32) [(.long qx), (.long qy), (.long qx), (.long qy), (.long qx), (.long qy), (.long qx), (.long qy), (.long qx)] (.long (0 : Int64))) (ga : n0 ≤ ax) (hxy : qx < qy) :
    MetFree l (⟨"java/util/DualPivotQuicksort", "insertionSort", "([JII)V"⟩ : MethodName) (head1 (Jvm.Cond.code (⟨"java/util/DualPivotQuicksort", "insertionSort", "([JII)V"⟩ : MethodName) jdk_2529_method_15_code 7 none :: ws) ({ frames := 0, cells := 0, slots := 0, locals := 0 } : Room)) (fun a U => a = #[(.ref ax), (.int (0 : Int32)), (.int (9 : Int32))] ∧ Z.Warmed39 U.vm ∧ U.heap = h0) (fun _ _ _ _ _ => True) (fun _ U o U' => ∃ v L, o = .returned v ∧ own_Q12_9_lt Z ax kk qx qy h0 n0 v U'.heap L ∧ FrameEnd U o U' L ({ frames := 0, cells := 0, slots := 0, locals := 0 } : Room).cells ({ frames := 0, cells := 0, slots := 0, locals := 0 } : Room).slots) := by
  refine MetFree.of_bodySF (plainFor_of_name own_pn12) hisR ?_
  intro p e s m args below meth c s₁ Bd hml0 hP hK
  obtain ⟨rfl, hZ, hh⟩ := hP
  have hx := Bd.exec
  have hby := Bd.bytes
  have hml : c.maxLocals = 7 := hml0
  have hown : s.vm.findClass "java/util/DualPivotQuicksort" = some m.cls := findClass_of_methodNamed Bd.named
  have hnm := (name_of_methodNamed Bd.named Bd.method).1
  have X0 : Stand p l e ({ frames := 0, cells := 0, slots := 0, locals := 0 } : Room) s m #[(.ref ax), (.int (0 : Int32)), (.int (9 : Int32))] below meth c s₁ [] 0 0 := Stand.of_body Bd
  have e0 : s₁.heap = h0 := by rw [← hh, Bd.state]; rfl
  have N0 := Fr.nil n0
  refine own_pre (A := (s₁.setTop (mkF m 0 #[.val (.ref ax), .val (.int (0 : Int32)), .val (.int (9 : Int32)), .unset, .unset, .unset, .unset] []))) (fun t k => castTop (own_ef12 m ax (0 : Int32) (9 : Int32)) k) ?_
  refine own_pre (A := (s₁.setTop (mkF m 3 (own_l102 ax) []))) ?_ ?_
  · intro t k
    refine XS.iloadN X0.here hx rfl (hb hby d12_0) rfl ?_
    refine XS.istore X0.here hx rfl (hb hby d12_1) rfl (l' := (own_l102 ax)) rfl ?_
    exact k
  refine own_tn1 X0 hx hZ hby e0 N0 ga (by decide) (own_asym hxy) V0 ?_
  intro T196 h196 locs196 pi196 qi196 X196 e196 N196 K196 V196
  have Kc196 : Keep h0 h196 [ax] := (Keep.refl h0 [ax]).trans K196 (allS (Or.inl (List.mem_of_getElem? (i := 0) rfl)) all0)
  refine own_ti2_lt X196 hx hZ hby e196 N196 ga (by decide) hxy V196 ?_
  intro T197 h197 locs197 pi197 qi197 X197 e197 N197 K197 V197
  have Kc197 : Keep h0 h197 [ax] := Kc196.trans K197 (allS (Or.inl (List.mem_of_getElem? (i := 0) rfl)) all0)
  refine own_tn3 X197 hx hZ hby e197 N197 ga (by decide) (own_irr _) V197 ?_
  intro T198 h198 locs198 pi198 qi198 X198 e198 N198 K198 V198
  have Kc198 : Keep h0 h198 [ax] := Kc197.trans K198 (allS (Or.inl (List.mem_of_getElem? (i := 0) rfl)) all0)
  refine own_ti4_lt X198 hx hZ hby e198 N198 ga (by decide) hxy V198 ?_
  intro T199 h199 locs199 pi199 qi199 X199 e199 N199 K199 V199
  have Kc199 : Keep h0 h199 [ax] := Kc198.trans K199 (allS (Or.inl (List.mem_of_getElem? (i := 0) rfl)) all0)
  refine own_tn5 X199 hx hZ hby e199 N199 ga (by decide) (own_irr _) V199 ?_
  intro T200 h200 locs200 pi200 qi200 X200 e200 N200 K200 V200
  have Kc200 : Keep h0 h200 [ax] := Kc199.trans K200 (allS (Or.inl (List.mem_of_getElem? (i := 0) rfl)) all0)
  refine own_ti6_lt X200 hx hZ hby e200 N200 ga (by decide) hxy V200 ?_
  intro T201 h201 locs201 pi201 qi201 X201 e201 N201 K201 V201
  have Kc201 : Keep h0 h201 [ax] := Kc200.trans K201 (allS (Or.inl (List.mem_of_getElem? (i := 0) rfl)) all0)
  refine own_tn7 X201 hx hZ hby e201 N201 ga (by decide) (own_irr _) V201 ?_
  intro T202 h202 locs202 pi202 qi202 X202 e202 N202 K202 V202
  have Kc202 : Keep h0 h202 [ax] := Kc201.trans K202 (allS (Or.inl (List.mem_of_getElem? (i := 0) rfl)) all0)
  refine own_ti8_lt X202 hx hZ hby e202 N202 ga (by decide) hxy V202 ?_
  intro T203 h203 locs203 pi203 qi203 X203 e203 N203 K203 V203
  have Kc203 : Keep h0 h203 [ax] := Kc202.trans K203 (allS (Or.inl (List.mem_of_getElem? (i := 0) rfl)) all0)
  refine own_pre (A := (T203.setTop (mkF m 69 (own_l105 ax pi203 qi203) []))) ?_ ?_
  · intro t k
    refine XS.iinc X203.here hx rfl (hb hby d12_3) rfl (l' := (own_l103 ax pi203 qi203)) rfl ?_
    show Steps  p.tables e below (T203.setTop (mkF m 6 #[.val (.ref ax), .val (.int (0 : Int32)), .val (.int (9 : Int32)), .val (.int pi203), .val (.int ((8 : Int32) + (1 : Int32))), .val (.long qi203), .second] [])) _
    rw [show ((8 : Int32) + (1 : Int32)) = (9 : Int32) from by decide]
    refine XS.iload X203.here hx rfl (hb hby d12_6) rfl ?_
    refine XS.iloadN X203.here hx rfl (hb hby d12_8) rfl ?_
    refine XS.icmpYes X203.here hx rfl (pc0 := 9) (pc' := 69) rfl (hb hby d12_9) rfl (flt (by decide : ¬ ((9 : Int32) < (9 : Int32)))).2.1 (by decide) (by decide) ?_
    exact k
  obtain ⟨fs, hr, hrun, hended, hW, hsame⟩ := X203.leave (hlocks := BodyLoose.notSynchronized Bd) (v := none) (fun _ => rfl)
  refine ⟨_, _, X203.returnOut hx Bd.returns (hb hby d12_69) hr, hrun, hended, _, _, rfl, ?_, ⟨_, rfl⟩, hW, hsame.mono (by decide) (by decide)⟩
  show own_Q12_9_lt Z ax kk qx qy h0 n0 _ T203.heap _
  rw [e203]
  exact ⟨rfl, N203, Kc203, V203⟩
def own_Q12_9_gt (Z : State) (ax : Addr) (kk : ClassId) (qx : Int64) (qy : Int64) (h0 : Heap) (n0 : Nat) (v : Option Value) (h : Heap) (L : List Loc) : Prop := v = none ∧ Fr n0 L ∧ Keep h0 h [ax] ∧ Arv Z h ax kk .long (9 : Int32) [(.long qy), (.long qy), (.long qy), (.long qy), (.long qx), (.long qx), (.long qx), (.long qx), (.long qx)] (.long (0 : Int64))
set_option maxRecDepth 65536 in
set_option maxHeartbeats 40000000 in
theorem rm12_9_gt (l : Launch) (Z : State) (a0 : Array Value) (hw : ∀ d ∈ tables_1, d.before a0 Z = true) (ws : List Jvm.Cond) (ax : Addr) (kk : ClassId) (qx : Int64) (qy : Int64) (h0 : Heap) (n0 : Nat) (Z0 : n0 ≤ h0.size) (V0 : Arv Z h0 ax kk .long (9 : Int32) [(.long qx), (.long qy), (.long qx), (.long qy), (.long qx), (.long qy), (.long qx), (.long qy), (.long qx)] (.long (0 : Int64))) (ga : n0 ≤ ax) (hxy : qy < qx) :
    MetFree l (⟨"java/util/DualPivotQuicksort", "insertionSort", "([JII)V"⟩ : MethodName) (head1 (Jvm.Cond.code (⟨"java/util/DualPivotQuicksort", "insertionSort", "([JII)V"⟩ : MethodName) jdk_2529_method_15_code 7 none :: ws) ({ frames := 0, cells := 0, slots := 0, locals := 0 } : Room)) (fun a U => a = #[(.ref ax), (.int (0 : Int32)), (.int (9 : Int32))] ∧ Z.Warmed39 U.vm ∧ U.heap = h0) (fun _ _ _ _ _ => True) (fun _ U o U' => ∃ v L, o = .returned v ∧ own_Q12_9_gt Z ax kk qx qy h0 n0 v U'.heap L ∧ FrameEnd U o U' L ({ frames := 0, cells := 0, slots := 0, locals := 0 } : Room).cells ({ frames := 0, cells := 0, slots := 0, locals := 0 } : Room).slots) := by
  refine MetFree.of_bodySF (plainFor_of_name own_pn12) hisR ?_
  intro p e s m args below meth c s₁ Bd hml0 hP hK
  obtain ⟨rfl, hZ, hh⟩ := hP
  have hx := Bd.exec
  have hby := Bd.bytes
  have hml : c.maxLocals = 7 := hml0
  have hown : s.vm.findClass "java/util/DualPivotQuicksort" = some m.cls := findClass_of_methodNamed Bd.named
  have hnm := (name_of_methodNamed Bd.named Bd.method).1
  have X0 : Stand p l e ({ frames := 0, cells := 0, slots := 0, locals := 0 } : Room) s m #[(.ref ax), (.int (0 : Int32)), (.int (9 : Int32))] below meth c s₁ [] 0 0 := Stand.of_body Bd
  have e0 : s₁.heap = h0 := by rw [← hh, Bd.state]; rfl
  have N0 := Fr.nil n0
  refine own_pre (A := (s₁.setTop (mkF m 0 #[.val (.ref ax), .val (.int (0 : Int32)), .val (.int (9 : Int32)), .unset, .unset, .unset, .unset] []))) (fun t k => castTop (own_ef12 m ax (0 : Int32) (9 : Int32)) k) ?_
  refine own_pre (A := (s₁.setTop (mkF m 3 (own_l102 ax) []))) ?_ ?_
  · intro t k
    refine XS.iloadN X0.here hx rfl (hb hby d12_0) rfl ?_
    refine XS.istore X0.here hx rfl (hb hby d12_1) rfl (l' := (own_l102 ax)) rfl ?_
    exact k
  refine own_ti1_gt X0 hx hZ hby e0 N0 ga (by decide) hxy V0 ?_
  intro T204 h204 locs204 pi204 qi204 X204 e204 N204 K204 V204
  have Kc204 : Keep h0 h204 [ax] := (Keep.refl h0 [ax]).trans K204 (allS (Or.inl (List.mem_of_getElem? (i := 0) rfl)) all0)
  refine own_tn2 X204 hx hZ hby e204 N204 ga (by decide) (own_irr _) V204 ?_
  intro T205 h205 locs205 pi205 qi205 X205 e205 N205 K205 V205
  have Kc205 : Keep h0 h205 [ax] := Kc204.trans K205 (allS (Or.inl (List.mem_of_getElem? (i := 0) rfl)) all0)
  refine own_ti3_gt X205 hx hZ hby e205 N205 ga (by decide) hxy V205 ?_
  intro T206 h206 locs206 pi206 qi206 X206 e206 N206 K206 V206
  have Kc206 : Keep h0 h206 [ax] := Kc205.trans K206 (allS (Or.inl (List.mem_of_getElem? (i := 0) rfl)) all0)
  refine own_tn4 X206 hx hZ hby e206 N206 ga (by decide) (own_irr _) V206 ?_
  intro T207 h207 locs207 pi207 qi207 X207 e207 N207 K207 V207
  have Kc207 : Keep h0 h207 [ax] := Kc206.trans K207 (allS (Or.inl (List.mem_of_getElem? (i := 0) rfl)) all0)
  refine own_ti5_gt X207 hx hZ hby e207 N207 ga (by decide) hxy V207 ?_
  intro T208 h208 locs208 pi208 qi208 X208 e208 N208 K208 V208
  have Kc208 : Keep h0 h208 [ax] := Kc207.trans K208 (allS (Or.inl (List.mem_of_getElem? (i := 0) rfl)) all0)
  refine own_tn6 X208 hx hZ hby e208 N208 ga (by decide) (own_irr _) V208 ?_
  intro T209 h209 locs209 pi209 qi209 X209 e209 N209 K209 V209
  have Kc209 : Keep h0 h209 [ax] := Kc208.trans K209 (allS (Or.inl (List.mem_of_getElem? (i := 0) rfl)) all0)
  refine own_ti7_gt X209 hx hZ hby e209 N209 ga (by decide) hxy V209 ?_
  intro T210 h210 locs210 pi210 qi210 X210 e210 N210 K210 V210
  have Kc210 : Keep h0 h210 [ax] := Kc209.trans K210 (allS (Or.inl (List.mem_of_getElem? (i := 0) rfl)) all0)
  refine own_tn8 X210 hx hZ hby e210 N210 ga (by decide) (own_irr _) V210 ?_
  intro T211 h211 locs211 pi211 qi211 X211 e211 N211 K211 V211
  have Kc211 : Keep h0 h211 [ax] := Kc210.trans K211 (allS (Or.inl (List.mem_of_getElem? (i := 0) rfl)) all0)
  refine own_pre (A := (T211.setTop (mkF m 69 (own_l105 ax pi211 qi211) []))) ?_ ?_
  · intro t k
    refine XS.iinc X211.here hx rfl (hb hby d12_3) rfl (l' := (own_l103 ax pi211 qi211)) rfl ?_
    show Steps  p.tables e below (T211.setTop (mkF m 6 #[.val (.ref ax), .val (.int (0 : Int32)), .val (.int (9 : Int32)), .val (.int pi211), .val (.int ((8 : Int32) + (1 : Int32))), .val (.long qi211), .second] [])) _
    rw [show ((8 : Int32) + (1 : Int32)) = (9 : Int32) from by decide]
    refine XS.iload X211.here hx rfl (hb hby d12_6) rfl ?_
    refine XS.iloadN X211.here hx rfl (hb hby d12_8) rfl ?_
    refine XS.icmpYes X211.here hx rfl (pc0 := 9) (pc' := 69) rfl (hb hby d12_9) rfl (flt (by decide : ¬ ((9 : Int32) < (9 : Int32)))).2.1 (by decide) (by decide) ?_
    exact k
  obtain ⟨fs, hr, hrun, hended, hW, hsame⟩ := X211.leave (hlocks := BodyLoose.notSynchronized Bd) (v := none) (fun _ => rfl)
  refine ⟨_, _, X211.returnOut hx Bd.returns (hb hby d12_69) hr, hrun, hended, _, _, rfl, ?_, ⟨_, rfl⟩, hW, hsame.mono (by decide) (by decide)⟩
  show own_Q12_9_gt Z ax kk qx qy h0 n0 _ T211.heap _
  rw [e211]
  exact ⟨rfl, N211, Kc211, V211⟩
def own_Q12_9_eq (Z : State) (ax : Addr) (kk : ClassId) (qx : Int64) (qy : Int64) (h0 : Heap) (n0 : Nat) (v : Option Value) (h : Heap) (L : List Loc) : Prop := v = none ∧ Fr n0 L ∧ Keep h0 h [ax] ∧ Arv Z h ax kk .long (9 : Int32) [(.long qx), (.long qx), (.long qx), (.long qx), (.long qx), (.long qx), (.long qx), (.long qx), (.long qx)] (.long (0 : Int64))
set_option maxRecDepth 65536 in
set_option maxHeartbeats 40000000 in
theorem rm12_9_eq (l : Launch) (Z : State) (a0 : Array Value) (hw : ∀ d ∈ tables_1, d.before a0 Z = true) (ws : List Jvm.Cond) (ax : Addr) (kk : ClassId) (qx : Int64) (qy : Int64) (h0 : Heap) (n0 : Nat) (Z0 : n0 ≤ h0.size) (V0 : Arv Z h0 ax kk .long (9 : Int32) [(.long qx), (.long qx), (.long qx), (.long qx), (.long qx), (.long qx), (.long qx), (.long qx), (.long qx)] (.long (0 : Int64))) (ga : n0 ≤ ax) :
    MetFree l (⟨"java/util/DualPivotQuicksort", "insertionSort", "([JII)V"⟩ : MethodName) (head1 (Jvm.Cond.code (⟨"java/util/DualPivotQuicksort", "insertionSort", "([JII)V"⟩ : MethodName) jdk_2529_method_15_code 7 none :: ws) ({ frames := 0, cells := 0, slots := 0, locals := 0 } : Room)) (fun a U => a = #[(.ref ax), (.int (0 : Int32)), (.int (9 : Int32))] ∧ Z.Warmed39 U.vm ∧ U.heap = h0) (fun _ _ _ _ _ => True) (fun _ U o U' => ∃ v L, o = .returned v ∧ own_Q12_9_eq Z ax kk qx qy h0 n0 v U'.heap L ∧ FrameEnd U o U' L ({ frames := 0, cells := 0, slots := 0, locals := 0 } : Room).cells ({ frames := 0, cells := 0, slots := 0, locals := 0 } : Room).slots) := by
  refine MetFree.of_bodySF (plainFor_of_name own_pn12) hisR ?_
  intro p e s m args below meth c s₁ Bd hml0 hP hK
  obtain ⟨rfl, hZ, hh⟩ := hP
  have hx := Bd.exec
  have hby := Bd.bytes
  have hml : c.maxLocals = 7 := hml0
  have hown : s.vm.findClass "java/util/DualPivotQuicksort" = some m.cls := findClass_of_methodNamed Bd.named
  have hnm := (name_of_methodNamed Bd.named Bd.method).1
  have X0 : Stand p l e ({ frames := 0, cells := 0, slots := 0, locals := 0 } : Room) s m #[(.ref ax), (.int (0 : Int32)), (.int (9 : Int32))] below meth c s₁ [] 0 0 := Stand.of_body Bd
  have e0 : s₁.heap = h0 := by rw [← hh, Bd.state]; rfl
  have N0 := Fr.nil n0
  refine own_pre (A := (s₁.setTop (mkF m 0 #[.val (.ref ax), .val (.int (0 : Int32)), .val (.int (9 : Int32)), .unset, .unset, .unset, .unset] []))) (fun t k => castTop (own_ef12 m ax (0 : Int32) (9 : Int32)) k) ?_
  refine own_pre (A := (s₁.setTop (mkF m 3 (own_l102 ax) []))) ?_ ?_
  · intro t k
    refine XS.iloadN X0.here hx rfl (hb hby d12_0) rfl ?_
    refine XS.istore X0.here hx rfl (hb hby d12_1) rfl (l' := (own_l102 ax)) rfl ?_
    exact k
  refine own_tn1 X0 hx hZ hby e0 N0 ga (by decide) (own_irr _) V0 ?_
  intro T212 h212 locs212 pi212 qi212 X212 e212 N212 K212 V212
  have Kc212 : Keep h0 h212 [ax] := (Keep.refl h0 [ax]).trans K212 (allS (Or.inl (List.mem_of_getElem? (i := 0) rfl)) all0)
  refine own_tn2 X212 hx hZ hby e212 N212 ga (by decide) (own_irr _) V212 ?_
  intro T213 h213 locs213 pi213 qi213 X213 e213 N213 K213 V213
  have Kc213 : Keep h0 h213 [ax] := Kc212.trans K213 (allS (Or.inl (List.mem_of_getElem? (i := 0) rfl)) all0)
  refine own_tn3 X213 hx hZ hby e213 N213 ga (by decide) (own_irr _) V213 ?_
  intro T214 h214 locs214 pi214 qi214 X214 e214 N214 K214 V214
  have Kc214 : Keep h0 h214 [ax] := Kc213.trans K214 (allS (Or.inl (List.mem_of_getElem? (i := 0) rfl)) all0)
  refine own_tn4 X214 hx hZ hby e214 N214 ga (by decide) (own_irr _) V214 ?_
  intro T215 h215 locs215 pi215 qi215 X215 e215 N215 K215 V215
  have Kc215 : Keep h0 h215 [ax] := Kc214.trans K215 (allS (Or.inl (List.mem_of_getElem? (i := 0) rfl)) all0)
  refine own_tn5 X215 hx hZ hby e215 N215 ga (by decide) (own_irr _) V215 ?_
  intro T216 h216 locs216 pi216 qi216 X216 e216 N216 K216 V216
  have Kc216 : Keep h0 h216 [ax] := Kc215.trans K216 (allS (Or.inl (List.mem_of_getElem? (i := 0) rfl)) all0)
  refine own_tn6 X216 hx hZ hby e216 N216 ga (by decide) (own_irr _) V216 ?_
  intro T217 h217 locs217 pi217 qi217 X217 e217 N217 K217 V217
  have Kc217 : Keep h0 h217 [ax] := Kc216.trans K217 (allS (Or.inl (List.mem_of_getElem? (i := 0) rfl)) all0)
  refine own_tn7 X217 hx hZ hby e217 N217 ga (by decide) (own_irr _) V217 ?_
  intro T218 h218 locs218 pi218 qi218 X218 e218 N218 K218 V218
  have Kc218 : Keep h0 h218 [ax] := Kc217.trans K218 (allS (Or.inl (List.mem_of_getElem? (i := 0) rfl)) all0)
  refine own_tn8 X218 hx hZ hby e218 N218 ga (by decide) (own_irr _) V218 ?_
  intro T219 h219 locs219 pi219 qi219 X219 e219 N219 K219 V219
  have Kc219 : Keep h0 h219 [ax] := Kc218.trans K219 (allS (Or.inl (List.mem_of_getElem? (i := 0) rfl)) all0)
  refine own_pre (A := (T219.setTop (mkF m 69 (own_l105 ax pi219 qi219) []))) ?_ ?_
  · intro t k
    refine XS.iinc X219.here hx rfl (hb hby d12_3) rfl (l' := (own_l103 ax pi219 qi219)) rfl ?_
    show Steps  p.tables e below (T219.setTop (mkF m 6 #[.val (.ref ax), .val (.int (0 : Int32)), .val (.int (9 : Int32)), .val (.int pi219), .val (.int ((8 : Int32) + (1 : Int32))), .val (.long qi219), .second] [])) _
    rw [show ((8 : Int32) + (1 : Int32)) = (9 : Int32) from by decide]
    refine XS.iload X219.here hx rfl (hb hby d12_6) rfl ?_
    refine XS.iloadN X219.here hx rfl (hb hby d12_8) rfl ?_
    refine XS.icmpYes X219.here hx rfl (pc0 := 9) (pc' := 69) rfl (hb hby d12_9) rfl (flt (by decide : ¬ ((9 : Int32) < (9 : Int32)))).2.1 (by decide) (by decide) ?_
    exact k
  obtain ⟨fs, hr, hrun, hended, hW, hsame⟩ := X219.leave (hlocks := BodyLoose.notSynchronized Bd) (v := none) (fun _ => rfl)
  refine ⟨_, _, X219.returnOut hx Bd.returns (hb hby d12_69) hr, hrun, hended, _, _, rfl, ?_, ⟨_, rfl⟩, hW, hsame.mono (by decide) (by decide)⟩
  show own_Q12_9_eq Z ax kk qx qy h0 n0 _ T219.heap _
  rw [e219]
  exact ⟨rfl, N219, Kc219, V219⟩
theorem own_sub0 (n : Int32) : n - (0 : Int32) = n := by
  apply Int32.toInt_inj.mp
  have h := c_isub n (0 : Int32)
  have r := rng32 n
  have r2 := rng32 (n - (0 : Int32))
  have z : (0 : Int32).toInt = 0 := by decide
  omega
def own_Al (Z : State) (h : Heap) (a : Addr) (ty : FieldType) (n : Int32) : Prop := ∃ c : Cell, Arr Z h a c ty ∧ c.slots.size = n.toNatClampNeg ∧ ¬ n < 0
theorem own_Al.lt {Z : State} {h : Heap} {a : Addr} {ty : FieldType} {n : Int32} (F : own_Al Z h a ty n) : a < h.size := by obtain ⟨c, A, -⟩ := F; exact A.lt
theorem own_Al.ext {Z : State} {h h' : Heap} {a : Addr} {ty : FieldType} {n : Int32} (F : own_Al Z h a ty n) (E : Ext h h') : own_Al Z h' a ty n := by obtain ⟨c, A, r⟩ := F; exact ⟨c, A.ext E, r⟩
theorem own_Al.other {Z : State} {h h' : Heap} {a b : Addr} {ty : FieldType} {n : Int32} {sl : Nat} {v : Value} (F : own_Al Z h b ty n) (W : Wr h h' a sl v) (q : b ≠ a) : own_Al Z h' b ty n := by obtain ⟨c, A, r⟩ := F; exact ⟨c, A.other W q, r⟩
theorem own_Al.keep {Z : State} {h h' : Heap} {a : Addr} {ty : FieldType} {n : Int32} {ws : List Addr} (F : own_Al Z h a ty n) (K : Keep h h' ws) (q : a ∉ ws) : own_Al Z h' a ty n := by obtain ⟨c, A, r⟩ := F; exact ⟨c, ⟨K.2.1 a c A.1 q, A.2⟩, r⟩
theorem d11_0 : decode jdk_2529_method_13_code 0 = .ok (.iload 4, 2) := by decide +kernel
theorem d11_2 : decode jdk_2529_method_13_code 2 = .ok (.iconst 1, 1) := by decide +kernel
theorem d11_3 : decode jdk_2529_method_13_code 3 = .ok (.isub, 1) := by decide +kernel
theorem d11_4 : decode jdk_2529_method_13_code 4 = .ok (.istore 5, 2) := by decide +kernel
theorem d11_6 : decode jdk_2529_method_13_code 6 = .ok (.iload 4, 2) := by decide +kernel
theorem d11_8 : decode jdk_2529_method_13_code 8 = .ok (.iload_n 3, 1) := by decide +kernel
theorem d11_9 : decode jdk_2529_method_13_code 9 = .ok (.isub, 1) := by decide +kernel
theorem d11_10 : decode jdk_2529_method_13_code 10 = .ok (.istore 6, 2) := by decide +kernel
theorem d11_12 : decode jdk_2529_method_13_code 12 = .ok (.iload 6, 2) := by decide +kernel
theorem d11_14 : decode jdk_2529_method_13_code 14 = .ok (.bipush 65, 2) := by decide +kernel
theorem d11_16 : decode jdk_2529_method_13_code 16 = .ok (.iload_n 2, 1) := by decide +kernel
theorem d11_17 : decode jdk_2529_method_13_code 17 = .ok (.iadd, 1) := by decide +kernel
theorem d11_18 : decode jdk_2529_method_13_code 18 = .ok (.if_icmp .ge 28, 3) := by decide +kernel
theorem d11_21 : decode jdk_2529_method_13_code 21 = .ok (.iload_n 2, 1) := by decide +kernel
theorem d11_22 : decode jdk_2529_method_13_code 22 = .ok (.iconst 1, 1) := by decide +kernel
theorem d11_23 : decode jdk_2529_method_13_code 23 = .ok (.iand, 1) := by decide +kernel
theorem d11_24 : decode jdk_2529_method_13_code 24 = .ok (.ifCond .le 22, 3) := by decide +kernel
theorem d11_46 : decode jdk_2529_method_13_code 46 = .ok (.iload 6, 2) := by decide +kernel
theorem d11_48 : decode jdk_2529_method_13_code 48 = .ok (.bipush 44, 2) := by decide +kernel
theorem d11_50 : decode jdk_2529_method_13_code 50 = .ok (.if_icmp .ge 11, 3) := by decide +kernel
theorem d11_53 : decode jdk_2529_method_13_code 53 = .ok (.aload_n 1, 1) := by decide +kernel
theorem d11_54 : decode jdk_2529_method_13_code 54 = .ok (.iload_n 3, 1) := by decide +kernel
theorem d11_55 : decode jdk_2529_method_13_code 55 = .ok (.iload 4, 2) := by decide +kernel
theorem d11_57 : decode jdk_2529_method_13_code 57 = .ok (.invokestatic 105, 3) := by decide +kernel
theorem d11_60 : decode jdk_2529_method_13_code 60 = .ok (.return_, 1) := by decide +kernel
theorem own_pn11 : plainName "java/util/DualPivotQuicksort" = true := by first | (simp [plainName, overriddenIn]; done) | decide +kernel
theorem own_ef11n (m : MethodId) (x1 : Addr) (x2 : Int32) (x3 : Int32) (x4 : Int32) : entryFrame m #[.null, (.ref x1), (.int x2), (.int x3), (.int x4)] 25 = mkF m 0 #[.val .null, .val (.ref x1), .val (.int x2), .val (.int x3), .val (.int x4), .unset, .unset, .unset, .unset, .unset, .unset, .unset, .unset, .unset, .unset, .unset, .unset, .unset, .unset, .unset, .unset, .unset, .unset, .unset, .unset] [] := by first | (simp [entryFrame, mkF, argsToLocals, Value.category]; done) | rfl
abbrev own_l106 (x0 : Addr) (x1 : Int32) : Array Slot := #[.val .null, .val (.ref x0), .val (.int (0 : Int32)), .val (.int (0 : Int32)), .val (.int x1), .unset, .unset, .unset, .unset, .unset, .unset, .unset, .unset, .unset, .unset, .unset, .unset, .unset, .unset, .unset, .unset, .unset, .unset, .unset, .unset]
abbrev own_l107 (x0 : Addr) (x1 : Int32) : Array Slot := #[.val .null, .val (.ref x0), .val (.int (0 : Int32)), .val (.int (0 : Int32)), .val (.int x1), .val (.int (x1 - (1 : Int32))), .unset, .unset, .unset, .unset, .unset, .unset, .unset, .unset, .unset, .unset, .unset, .unset, .unset, .unset, .unset, .unset, .unset, .unset, .unset]
abbrev own_l108 (x0 : Addr) (x1 : Int32) : Array Slot := #[.val .null, .val (.ref x0), .val (.int (0 : Int32)), .val (.int (0 : Int32)), .val (.int x1), .val (.int (x1 - (1 : Int32))), .val (.int x1), .unset, .unset, .unset, .unset, .unset, .unset, .unset, .unset, .unset, .unset, .unset, .unset, .unset, .unset, .unset, .unset, .unset, .unset]
set_option maxRecDepth 65536 in
set_option maxHeartbeats 40000000 in
theorem own_s5 (l : Launch) (Z : State) (a0 : Array Value) (hw : ∀ d ∈ tables_1, d.before a0 Z = true) (ws : List Jvm.Cond) (ax : Addr) (pn : Int32) (Qh : Heap → List Loc → Prop) (h0 : Heap) (n0 : Nat) (Z0 : n0 ≤ h0.size) (HI : MetFree l (⟨"java/util/DualPivotQuicksort", "insertionSort", "([JII)V"⟩ : MethodName) (head1 [Jvm.Cond.code (⟨"java/util/DualPivotQuicksort", "insertionSort", "([JII)V"⟩ : MethodName) jdk_2529_method_15_code 7 none] ({ frames := 0, cells := 0, slots := 0, locals := 0 } : Room)) (fun a U => a = #[(.ref ax), (.int (0 : Int32)), (.int pn)] ∧ Z.Warmed39 U.vm ∧ U.heap = h0) (fun _ _ _ _ _ => True) (fun _ U o U' => ∃ v L, o = .returned v ∧ own_QW Qh h0 n0 v U'.heap L ∧ FrameEnd U o U' L ({ frames := 0, cells := 0, slots := 0, locals := 0 } : Room).cells ({ frames := 0, cells := 0, slots := 0, locals := 0 } : Room).slots)) (hlt65 : pn < (65 : Int32)) (hlt44 : pn < (44 : Int32)) :
    MetFree l (⟨"java/util/DualPivotQuicksort", "sort", "(Ljava/util/DualPivotQuicksort$Sorter;[JIII)V"⟩ : MethodName) (head1 (Jvm.Cond.code (⟨"java/util/DualPivotQuicksort", "sort", "(Ljava/util/DualPivotQuicksort$Sorter;[JIII)V"⟩ : MethodName) jdk_2529_method_13_code 25 none :: ws) ({ frames := 1, cells := 0, slots := 0, locals := 18 } : Room)) (fun a U => a = #[.null, (.ref ax), (.int (0 : Int32)), (.int (0 : Int32)), (.int pn)] ∧ Z.Warmed39 U.vm ∧ U.heap = h0) (fun _ _ _ _ _ => True) (fun _ U o U' => ∃ v L, o = .returned v ∧ own_QW Qh h0 n0 v U'.heap L ∧ FrameEnd U o U' L ({ frames := 1, cells := 0, slots := 0, locals := 18 } : Room).cells ({ frames := 1, cells := 0, slots := 0, locals := 18 } : Room).slots) := by
  refine MetFree.of_bodySF (plainFor_of_name own_pn11) hisR ?_
  intro p e s m args below meth c s₁ Bd hml0 hP hK
  obtain ⟨rfl, hZ, hh⟩ := hP
  have hx := Bd.exec
  have hby := Bd.bytes
  have hml : c.maxLocals = 25 := hml0
  have hown : s.vm.findClass "java/util/DualPivotQuicksort" = some m.cls := findClass_of_methodNamed Bd.named
  have hnm := (name_of_methodNamed Bd.named Bd.method).1
  have X0 : Stand p l e ({ frames := 1, cells := 0, slots := 0, locals := 18 } : Room) s m #[.null, (.ref ax), (.int (0 : Int32)), (.int (0 : Int32)), (.int pn)] below meth c s₁ [] 0 0 := Stand.of_body Bd
  have e0 : s₁.heap = h0 := by rw [← hh, Bd.state]; rfl
  have N0 := Fr.nil n0
  refine own_pre (A := (s₁.setTop (mkF m 0 (own_l106 ax pn) []))) (fun t k => castTop (own_ef11n m ax (0 : Int32) (0 : Int32) pn) k) ?_
  refine own_pre (A := (s₁.setTop (mkF m 57 (own_l108 ax pn) [(.int pn), (.int (0 : Int32)), (.ref ax)]))) ?_ ?_
  · intro t k
    refine XS.iload X0.here hx rfl (hb hby d11_0) rfl ?_
    refine XS.iconst X0.here hx rfl (hb hby d11_2) ?_
    refine XS.isub X0.here hx rfl (hb hby d11_3) rfl ?_
    refine XS.istore X0.here hx rfl (hb hby d11_4) rfl (l' := (own_l107 ax pn)) rfl ?_
    refine XS.iload X0.here hx rfl (hb hby d11_6) rfl ?_
    refine XS.iloadN X0.here hx rfl (hb hby d11_8) rfl ?_
    refine XS.isub X0.here hx rfl (hb hby d11_9) rfl ?_
    show Steps p.tables e below (s₁.setTop (mkF m 10 (own_l107 ax pn) [(.int (pn - (0 : Int32)))])) _
    rw [own_sub0 pn]
    refine XS.istore X0.here hx rfl (hb hby d11_10) rfl (l' := (own_l108 ax pn)) rfl ?_
    refine XS.iload X0.here hx rfl (hb hby d11_12) rfl ?_
    refine XS.bipush X0.here hx rfl (hb hby d11_14) ?_
    refine XS.iloadN X0.here hx rfl (hb hby d11_16) rfl ?_
    refine XS.iadd X0.here hx rfl (hb hby d11_17) rfl ?_
    show Steps p.tables e below (s₁.setTop (mkF m 18 (own_l108 ax pn) [(.int ((65 : Int32) + (0 : Int32))), (.int pn)])) _
    rw [show ((65 : Int32) + (0 : Int32)) = (65 : Int32) from by decide]
    refine XS.icmpNo X0.here hx rfl (hb hby d11_18) rfl (tlt hlt65).2.1 ?_
    refine XS.iloadN X0.here hx rfl (hb hby d11_21) rfl ?_
    refine XS.iconst X0.here hx rfl (hb hby d11_22) ?_
    refine XS.iand X0.here hx rfl (hb hby d11_23) rfl ?_
    show Steps p.tables e below (s₁.setTop (mkF m 24 (own_l108 ax pn) [(.int ((0 : Int32) &&& (1 : Int32)))])) _
    rw [show ((0 : Int32) &&& (1 : Int32)) = (0 : Int32) from by decide]
    refine XS.ifYes X0.here hx rfl (pc0 := 24) (pc' := 46) rfl (hb hby d11_24) rfl ((if0 _ _).trans (flt (by decide : ¬ ((0 : Int32) < (0 : Int32)))).2.2.2) (by decide) (by decide) ?_
    refine XS.iload X0.here hx rfl (hb hby d11_46) rfl ?_
    refine XS.bipush X0.here hx rfl (hb hby d11_48) ?_
    refine XS.icmpNo X0.here hx rfl (hb hby d11_50) rfl (tlt hlt44).2.1 ?_
    refine XS.aloadN X0.here hx rfl (hb hby d11_53) rfl rfl ?_
    refine XS.iloadN X0.here hx rfl (hb hby d11_54) rfl ?_
    refine XS.iload X0.here hx rfl (hb hby d11_55) rfl ?_
    exact k
  obtain ⟨_, _, ⟨T220, L220, k220, n220⟩, -, X220, ⟨Lc220, hQ220, l220, y220, z220⟩, st220⟩ := Jvm.LawKit.callS X0 hx (y := (⟨"java/util/DualPivotQuicksort", "insertionSort", "([JII)V"⟩ : MethodName)) hown (mvT hZ (own_w hw 56 rfl)) (mvT hZ (own_w hw 57 rfl)) (mvT hZ (own_w hw 51 rfl)) (mvT hZ (own_w hw 58 rfl)) (by decide) (backOf (W := 0) (HI) hZ (own_w hw 58 rfl) (own_w hw 51 rfl) (by decide) (by decide)) (g := (mkF m 57 (own_l108 ax pn) [(.int pn), (.int (0 : Int32)), (.ref ax)])) rfl (by rw [hml]; rfl) (argsL := [(.ref ax), (.int (0 : Int32)), (.int pn)]) (rest := []) (lenOf own_pd1 rfl) rfl (by show 2 * 0 + _ ≤ _; exact Nat.le_of_eq rfl) (hb hby d11_57) (fun _ _ => ⟨rfl, e0, (by decide : 0 + 0 ≤ _), (by decide : 0 + 0 ≤ _)⟩)
  dsimp only [Pt.U, Pt.locs, Pt.cells, Pt.slots] at X220 l220 y220 z220 st220 hQ220
  replace y220 : _ = 0 := y220
  replace z220 : _ = 0 := z220
  subst l220 y220 z220
  obtain ⟨rfl, hq⟩ := hQ220
  refine own_pre (fun t k => st220 t k) ?_
  obtain ⟨fs, hr, hrun, hended, hW, hsame⟩ := X220.leave (hlocks := BodyLoose.notSynchronized Bd) (v := none) (fun _ => rfl)
  refine ⟨_, _, X220.returnOut hx Bd.returns (hb hby d11_60) hr, hrun, hended, _, _, rfl, ?_, ⟨_, rfl⟩, hW, hsame.mono (by decide) (by decide)⟩
  show own_QW Qh h0 n0 _ T220.heap _
  exact ⟨rfl, hq⟩
theorem d10_0 : decode jdk_2529_method_12_code 0 = .ok (.iload_n 3, 1) := by decide +kernel
theorem d10_1 : decode jdk_2529_method_12_code 1 = .ok (.iload_n 2, 1) := by decide +kernel
theorem d10_2 : decode jdk_2529_method_12_code 2 = .ok (.isub, 1) := by decide +kernel
theorem d10_3 : decode jdk_2529_method_12_code 3 = .ok (.istore 4, 2) := by decide +kernel
theorem d10_5 : decode jdk_2529_method_12_code 5 = .ok (.iload_n 1, 1) := by decide +kernel
theorem d10_6 : decode jdk_2529_method_12_code 6 = .ok (.iconst 1, 1) := by decide +kernel
theorem d10_7 : decode jdk_2529_method_12_code 7 = .ok (.if_icmp .le 61, 3) := by decide +kernel
theorem d10_68 : decode jdk_2529_method_12_code 68 = .ok (.aconst_null, 1) := by decide +kernel
theorem d10_69 : decode jdk_2529_method_12_code 69 = .ok (.aload_n 0, 1) := by decide +kernel
theorem d10_70 : decode jdk_2529_method_12_code 70 = .ok (.iconst 0, 1) := by decide +kernel
theorem d10_71 : decode jdk_2529_method_12_code 71 = .ok (.iload_n 2, 1) := by decide +kernel
theorem d10_72 : decode jdk_2529_method_12_code 72 = .ok (.iload_n 3, 1) := by decide +kernel
theorem d10_73 : decode jdk_2529_method_12_code 73 = .ok (.invokestatic 99, 3) := by decide +kernel
theorem d10_76 : decode jdk_2529_method_12_code 76 = .ok (.return_, 1) := by decide +kernel
theorem own_pn10 : plainName "java/util/DualPivotQuicksort" = true := by first | (simp [plainName, overriddenIn]; done) | decide +kernel
theorem own_ef10 (m : MethodId) (x0 : Addr) (x1 : Int32) (x2 : Int32) (x3 : Int32) : entryFrame m #[(.ref x0), (.int x1), (.int x2), (.int x3)] 7 = mkF m 0 #[.val (.ref x0), .val (.int x1), .val (.int x2), .val (.int x3), .unset, .unset, .unset] [] := by first | (simp [entryFrame, mkF, argsToLocals, Value.category]; done) | rfl
abbrev own_l109 (x0 : Addr) (x1 : Int32) : Array Slot := #[.val (.ref x0), .val (.int (0 : Int32)), .val (.int (0 : Int32)), .val (.int x1), .unset, .unset, .unset]
abbrev own_l110 (x0 : Addr) (x1 : Int32) : Array Slot := #[.val (.ref x0), .val (.int (0 : Int32)), .val (.int (0 : Int32)), .val (.int x1), .val (.int x1), .unset, .unset]
set_option maxRecDepth 65536 in
set_option maxHeartbeats 40000000 in
theorem own_s4 (l : Launch) (Z : State) (a0 : Array Value) (hw : ∀ d ∈ tables_1, d.before a0 Z = true) (ws : List Jvm.Cond) (ax : Addr) (pn : Int32) (Qh : Heap → List Loc → Prop) (h0 : Heap) (n0 : Nat) (Z0 : n0 ≤ h0.size) (HI : MetFree l (⟨"java/util/DualPivotQuicksort", "sort", "(Ljava/util/DualPivotQuicksort$Sorter;[JIII)V"⟩ : MethodName) (head1 [Jvm.Cond.code (⟨"java/util/DualPivotQuicksort", "sort", "(Ljava/util/DualPivotQuicksort$Sorter;[JIII)V"⟩ : MethodName) jdk_2529_method_13_code 25 none] ({ frames := 1, cells := 0, slots := 0, locals := 18 } : Room)) (fun a U => a = #[.null, (.ref ax), (.int (0 : Int32)), (.int (0 : Int32)), (.int pn)] ∧ Z.Warmed39 U.vm ∧ U.heap = h0) (fun _ _ _ _ _ => True) (fun _ U o U' => ∃ v L, o = .returned v ∧ own_QW Qh h0 n0 v U'.heap L ∧ FrameEnd U o U' L ({ frames := 1, cells := 0, slots := 0, locals := 18 } : Room).cells ({ frames := 1, cells := 0, slots := 0, locals := 18 } : Room).slots)) :
    MetFree l (⟨"java/util/DualPivotQuicksort", "sort", "([JIII)V"⟩ : MethodName) (head1 (Jvm.Cond.code (⟨"java/util/DualPivotQuicksort", "sort", "([JIII)V"⟩ : MethodName) jdk_2529_method_12_code 7 none :: ws) ({ frames := 2, cells := 0, slots := 0, locals := 54 } : Room)) (fun a U => a = #[(.ref ax), (.int (0 : Int32)), (.int (0 : Int32)), (.int pn)] ∧ Z.Warmed39 U.vm ∧ U.heap = h0) (fun _ _ _ _ _ => True) (fun _ U o U' => ∃ v L, o = .returned v ∧ own_QW Qh h0 n0 v U'.heap L ∧ FrameEnd U o U' L ({ frames := 2, cells := 0, slots := 0, locals := 54 } : Room).cells ({ frames := 2, cells := 0, slots := 0, locals := 54 } : Room).slots) := by
  refine MetFree.of_bodySF (plainFor_of_name own_pn10) hisR ?_
  intro p e s m args below meth c s₁ Bd hml0 hP hK
  obtain ⟨rfl, hZ, hh⟩ := hP
  have hx := Bd.exec
  have hby := Bd.bytes
  have hml : c.maxLocals = 7 := hml0
  have hown : s.vm.findClass "java/util/DualPivotQuicksort" = some m.cls := findClass_of_methodNamed Bd.named
  have hnm := (name_of_methodNamed Bd.named Bd.method).1
  have X0 : Stand p l e ({ frames := 2, cells := 0, slots := 0, locals := 54 } : Room) s m #[(.ref ax), (.int (0 : Int32)), (.int (0 : Int32)), (.int pn)] below meth c s₁ [] 0 0 := Stand.of_body Bd
  have e0 : s₁.heap = h0 := by rw [← hh, Bd.state]; rfl
  have N0 := Fr.nil n0
  refine own_pre (A := (s₁.setTop (mkF m 0 (own_l109 ax pn) []))) (fun t k => castTop (own_ef10 m ax (0 : Int32) (0 : Int32) pn) k) ?_
  refine own_pre (A := (s₁.setTop (mkF m 73 (own_l110 ax pn) [(.int pn), (.int (0 : Int32)), (.int (0 : Int32)), (.ref ax), .null]))) ?_ ?_
  · intro t k
    refine XS.iloadN X0.here hx rfl (hb hby d10_0) rfl ?_
    refine XS.iloadN X0.here hx rfl (hb hby d10_1) rfl ?_
    refine XS.isub X0.here hx rfl (hb hby d10_2) rfl ?_
    show Steps p.tables e below (s₁.setTop (mkF m 3 (own_l109 ax pn) [(.int (pn - (0 : Int32)))])) _
    rw [own_sub0 pn]
    refine XS.istore X0.here hx rfl (hb hby d10_3) rfl (l' := (own_l110 ax pn)) rfl ?_
    refine XS.iloadN X0.here hx rfl (hb hby d10_5) rfl ?_
    refine XS.iconst X0.here hx rfl (hb hby d10_6) ?_
    refine XS.icmpYes X0.here hx rfl (pc0 := 7) (pc' := 68) rfl (hb hby d10_7) rfl (flt (by decide : ¬ ((1 : Int32) < (0 : Int32)))).2.2.2 (by decide) (by decide) ?_
    refine XS.aconstNull X0.here hx rfl (hb hby d10_68) ?_
    refine XS.aloadN X0.here hx rfl (hb hby d10_69) rfl rfl ?_
    refine XS.iconst X0.here hx rfl (hb hby d10_70) ?_
    refine XS.iloadN X0.here hx rfl (hb hby d10_71) rfl ?_
    refine XS.iloadN X0.here hx rfl (hb hby d10_72) rfl ?_
    exact k
  obtain ⟨_, _, ⟨T221, L221, k221, n221⟩, -, X221, ⟨Lc221, hQ221, l221, y221, z221⟩, st221⟩ := Jvm.LawKit.callS X0 hx (y := (⟨"java/util/DualPivotQuicksort", "sort", "(Ljava/util/DualPivotQuicksort$Sorter;[JIII)V"⟩ : MethodName)) hown (mvT hZ (own_w hw 53 rfl)) (mvT hZ (own_w hw 54 rfl)) (mvT hZ (own_w hw 51 rfl)) (mvT hZ (own_w hw 55 rfl)) (by decide) (backOf (W := 0) (HI) hZ (own_w hw 55 rfl) (own_w hw 51 rfl) (by decide) (by decide)) (g := (mkF m 73 (own_l110 ax pn) [(.int pn), (.int (0 : Int32)), (.int (0 : Int32)), (.ref ax), .null])) rfl (by rw [hml]; rfl) (argsL := [.null, (.ref ax), (.int (0 : Int32)), (.int (0 : Int32)), (.int pn)]) (rest := []) (lenOf own_pd2 rfl) rfl (by show 2 * 0 + _ ≤ _; exact Nat.le_of_eq rfl) (hb hby d10_73) (fun _ _ => ⟨rfl, e0, (by decide : 0 + 0 ≤ _), (by decide : 0 + 0 ≤ _)⟩)
  dsimp only [Pt.U, Pt.locs, Pt.cells, Pt.slots] at X221 l221 y221 z221 st221 hQ221
  replace y221 : _ = 0 := y221
  replace z221 : _ = 0 := z221
  subst l221 y221 z221
  obtain ⟨rfl, hq⟩ := hQ221
  refine own_pre (fun t k => st221 t k) ?_
  obtain ⟨fs, hr, hrun, hended, hW, hsame⟩ := X221.leave (hlocks := BodyLoose.notSynchronized Bd) (v := none) (fun _ => rfl)
  refine ⟨_, _, X221.returnOut hx Bd.returns (hb hby d10_76) hr, hrun, hended, _, _, rfl, ?_, ⟨_, rfl⟩, hW, hsame.mono (by decide) (by decide)⟩
  show own_QW Qh h0 n0 _ T221.heap _
  exact ⟨rfl, hq⟩
theorem d9_0 : decode jdk_65_method_4_code 0 = .ok (.aload_n 0, 1) := by decide +kernel
theorem d9_1 : decode jdk_65_method_4_code 1 = .ok (.iconst 0, 1) := by decide +kernel
theorem d9_2 : decode jdk_65_method_4_code 2 = .ok (.iconst 0, 1) := by decide +kernel
theorem d9_3 : decode jdk_65_method_4_code 3 = .ok (.aload_n 0, 1) := by decide +kernel
theorem d9_4 : decode jdk_65_method_4_code 4 = .ok (.arraylength, 1) := by decide +kernel
theorem d9_5 : decode jdk_65_method_4_code 5 = .ok (.invokestatic 19, 3) := by decide +kernel
theorem d9_8 : decode jdk_65_method_4_code 8 = .ok (.return_, 1) := by decide +kernel
theorem own_pn9 : plainName "java/util/Arrays" = true := by first | (simp [plainName, overriddenIn]; done) | decide +kernel
theorem own_ef9 (m : MethodId) (x0 : Addr) : entryFrame m #[(.ref x0)] 1 = mkF m 0 #[.val (.ref x0)] [] := by first | (simp [entryFrame, mkF, argsToLocals, Value.category]; done) | rfl
set_option maxRecDepth 65536 in
set_option maxHeartbeats 40000000 in
theorem own_sS (l : Launch) (Z : State) (a0 : Array Value) (hw : ∀ d ∈ tables_1, d.before a0 Z = true) (ws : List Jvm.Cond) (ax : Addr) (Qh : Heap → List Loc → Prop) (pn : Int32) (h0 : Heap) (n0 : Nat) (Z0 : n0 ≤ h0.size) (HI : MetFree l (⟨"java/util/DualPivotQuicksort", "sort", "([JIII)V"⟩ : MethodName) (head1 [Jvm.Cond.code (⟨"java/util/DualPivotQuicksort", "sort", "([JIII)V"⟩ : MethodName) jdk_2529_method_12_code 7 none] ({ frames := 2, cells := 0, slots := 0, locals := 54 } : Room)) (fun a U => a = #[(.ref ax), (.int (0 : Int32)), (.int (0 : Int32)), (.int pn)] ∧ Z.Warmed39 U.vm ∧ U.heap = h0) (fun _ _ _ _ _ => True) (fun _ U o U' => ∃ v L, o = .returned v ∧ own_QW Qh h0 n0 v U'.heap L ∧ FrameEnd U o U' L ({ frames := 2, cells := 0, slots := 0, locals := 54 } : Room).cells ({ frames := 2, cells := 0, slots := 0, locals := 54 } : Room).slots)) (Va : own_Al Z h0 ax .long pn) :
    MetFree l (⟨"java/util/Arrays", "sort", "([J)V"⟩ : MethodName) (head1 (Jvm.Cond.code (⟨"java/util/Arrays", "sort", "([J)V"⟩ : MethodName) jdk_65_method_4_code 1 none :: ws) ({ frames := 3, cells := 0, slots := 0, locals := 72 } : Room)) (fun a U => a = #[(.ref ax)] ∧ Z.Warmed39 U.vm ∧ U.heap = h0) (fun _ _ _ _ _ => True) (fun _ U o U' => ∃ v L, o = .returned v ∧ own_QW Qh h0 n0 v U'.heap L ∧ FrameEnd U o U' L ({ frames := 3, cells := 0, slots := 0, locals := 72 } : Room).cells ({ frames := 3, cells := 0, slots := 0, locals := 72 } : Room).slots) := by
  refine MetFree.of_bodySF (plainFor_of_name own_pn9) hisR ?_
  intro p e s m args below meth c s₁ Bd hml0 hP hK
  obtain ⟨rfl, hZ, hh⟩ := hP
  have hx := Bd.exec
  have hby := Bd.bytes
  have hml : c.maxLocals = 1 := hml0
  have hown : s.vm.findClass "java/util/Arrays" = some m.cls := findClass_of_methodNamed Bd.named
  have hnm := (name_of_methodNamed Bd.named Bd.method).1
  have X0 : Stand p l e ({ frames := 3, cells := 0, slots := 0, locals := 72 } : Room) s m #[(.ref ax)] below meth c s₁ [] 0 0 := Stand.of_body Bd
  have e0 : s₁.heap = h0 := by rw [← hh, Bd.state]; rfl
  have N0 := Fr.nil n0
  refine own_pre (A := (s₁.setTop (mkF m 0 #[.val (.ref ax)] []))) (fun t k => castTop (own_ef9 m ax) k) ?_
  refine own_pre (A := (s₁.setTop (mkF m 5 #[.val (.ref ax)] [(.int pn), (.int (0 : Int32)), (.int (0 : Int32)), (.ref ax)]))) ?_ ?_
  · intro t k
    refine XS.aloadN X0.here hx rfl (hb hby d9_0) rfl rfl ?_
    refine XS.iconst X0.here hx rfl (hb hby d9_1) ?_
    refine XS.iconst X0.here hx rfl (hb hby d9_2) ?_
    refine XS.aloadN X0.here hx rfl (hb hby d9_3) rfl rfl ?_
    show Steps p.tables e below (s₁.setTop (mkF m 4 #[.val (.ref ax)] [(.ref ax), (.int (0 : Int32)), (.int (0 : Int32)), (.ref ax)])) _
    obtain ⟨cl222, Ar222, S222, N222⟩ := id Va
    refine X0.arraylength hx (by rw [e0]; exact Ar222.1) (State.isArrayOf_alike hZ.alike Ar222.2.1) (g := (mkF m 4 #[.val (.ref ax)] [(.ref ax), (.int (0 : Int32)), (.int (0 : Int32)), (.ref ax)])) rfl rfl (hb hby d9_4) _ ?_
    rw [len_of S222 N222]
    exact k
  obtain ⟨_, _, ⟨T223, L223, k223, n223⟩, -, X223, ⟨Lc223, hQ223, l223, y223, z223⟩, st223⟩ := Jvm.LawKit.callS X0 hx (y := (⟨"java/util/DualPivotQuicksort", "sort", "([JIII)V"⟩ : MethodName)) hown (mvT hZ (own_w hw 49 rfl)) (mvT hZ (own_w hw 50 rfl)) (mvT hZ (own_w hw 51 rfl)) (mvT hZ (own_w hw 52 rfl)) (by decide) (backOf (W := 0) (HI) hZ (own_w hw 52 rfl) (own_w hw 51 rfl) (by decide) (by decide)) (g := (mkF m 5 #[.val (.ref ax)] [(.int pn), (.int (0 : Int32)), (.int (0 : Int32)), (.ref ax)])) rfl (by rw [hml]; rfl) (argsL := [(.ref ax), (.int (0 : Int32)), (.int (0 : Int32)), (.int pn)]) (rest := []) (lenOf own_pd3 rfl) rfl (by show 2 * 0 + _ ≤ _; exact Nat.le_of_eq rfl) (hb hby d9_5) (fun _ _ => ⟨rfl, e0, (by decide : 0 + 0 ≤ _), (by decide : 0 + 0 ≤ _)⟩)
  dsimp only [Pt.U, Pt.locs, Pt.cells, Pt.slots] at X223 l223 y223 z223 st223 hQ223
  replace y223 : _ = 0 := y223
  replace z223 : _ = 0 := z223
  subst l223 y223 z223
  obtain ⟨rfl, hq⟩ := hQ223
  refine own_pre (fun t k => st223 t k) ?_
  obtain ⟨fs, hr, hrun, hended, hW, hsame⟩ := X223.leave (hlocks := BodyLoose.notSynchronized Bd) (v := none) (fun _ => rfl)
  refine ⟨_, _, X223.returnOut hx Bd.returns (hb hby d9_8) hr, hrun, hended, _, _, rfl, ?_, ⟨_, rfl⟩, hW, hsame.mono (by decide) (by decide)⟩
  show own_QW Qh h0 n0 _ T223.heap _
  exact ⟨rfl, hq⟩
theorem d14_0 : decode prog_5_method_1_code 0 = .ok (.aload_n 0, 1) := by decide +kernel
theorem d14_1 : decode prog_5_method_1_code 1 = .ok (.invokespecial 1, 3) := by decide +kernel
theorem d14_4 : decode prog_5_method_1_code 4 = .ok (.aload_n 0, 1) := by decide +kernel
theorem d14_5 : decode prog_5_method_1_code 5 = .ok (.aload_n 1, 1) := by decide +kernel
theorem d14_6 : decode prog_5_method_1_code 6 = .ok (.putfield 7, 3) := by decide +kernel
theorem d14_9 : decode prog_5_method_1_code 9 = .ok (.return_, 1) := by decide +kernel
theorem own_pn14 : plainName "com/example/otito/otito/chain/CodePointSet" = true := by first | (simp [plainName, overriddenIn]; done) | decide +kernel
theorem own_ef14 (m : MethodId) (x0 : Addr) (x1 : Addr) : entryFrame m #[(.ref x0), (.ref x1)] 2 = mkF m 0 #[.val (.ref x0), .val (.ref x1)] [] := by first | (simp [entryFrame, mkF, argsToLocals, Value.category]; done) | rfl
def own_Q14 (Z : State) (ax : Addr) (ab : Addr) (h0 : Heap) (n0 : Nat) (v : Option Value) (h : Heap) (L : List Loc) : Prop := v = none ∧ Fr n0 L ∧ Keep h0 h [ax] ∧ Fld Z h ax "com/example/otito/otito/chain/CodePointSet" "bounds" "[I" (.ref ab)
set_option maxRecDepth 65536 in
set_option maxHeartbeats 40000000 in
theorem rm14 (l : Launch) (Z : State) (a0 : Array Value) (hw : ∀ d ∈ tables_1, d.before a0 Z = true) (ws : List Jvm.Cond) (ax : Addr) (ab : Addr) (h0 : Heap) (n0 : Nat) (Z0 : n0 ≤ h0.size) (Ea : Exa Z h0 ax "com/example/otito/otito/chain/CodePointSet") (Fb : Fld Z h0 ax "com/example/otito/otito/chain/CodePointSet" "bounds" "[I" .null) (ga : n0 ≤ ax) :
    MetFree l (⟨"com/example/otito/otito/chain/CodePointSet", "<init>", "([I)V"⟩ : MethodName) (head1 (Jvm.Cond.code (⟨"com/example/otito/otito/chain/CodePointSet", "<init>", "([I)V"⟩ : MethodName) prog_5_method_1_code 2 none :: ws) ({ frames := 1, cells := 0, slots := 0, locals := 12 } : Room)) (fun a U => a = #[(.ref ax), (.ref ab)] ∧ Z.Warmed39 U.vm ∧ U.heap = h0) (fun _ _ _ _ _ => True) (fun _ U o U' => ∃ v L, o = .returned v ∧ own_Q14 Z ax ab h0 n0 v U'.heap L ∧ FrameEnd U o U' L ({ frames := 1, cells := 0, slots := 0, locals := 12 } : Room).cells ({ frames := 1, cells := 0, slots := 0, locals := 12 } : Room).slots) := by
  refine MetFree.of_bodySF (plainFor_of_name own_pn14) hisR ?_
  intro p e s m args below meth c s₁ Bd hml0 hP hK
  obtain ⟨rfl, hZ, hh⟩ := hP
  have hx := Bd.exec
  have hby := Bd.bytes
  have hml : c.maxLocals = 2 := hml0
  have hown : s.vm.findClass "com/example/otito/otito/chain/CodePointSet" = some m.cls := findClass_of_methodNamed Bd.named
  have hnm := (name_of_methodNamed Bd.named Bd.method).1
  have X0 : Stand p l e ({ frames := 1, cells := 0, slots := 0, locals := 12 } : Room) s m #[(.ref ax), (.ref ab)] below meth c s₁ [] 0 0 := Stand.of_body Bd
  have e0 : s₁.heap = h0 := by rw [← hh, Bd.state]; rfl
  have N0 := Fr.nil n0
  refine own_pre (A := (s₁.setTop (mkF m 0 #[.val (.ref ax), .val (.ref ab)] []))) (fun t k => castTop (own_ef14 m ax ab) k) ?_
  refine own_pre (A := (s₁.setTop (mkF m 1 #[.val (.ref ax), .val (.ref ab)] [(.ref ax)]))) ?_ ?_
  · intro t k
    refine XS.aloadN X0.here hx rfl (hb hby d14_0) rfl rfl ?_
    exact k
  obtain ⟨T224, X224, e224, st224⟩ := initO X0 hx hZ hown (own_w hw 70 rfl) (own_w hw 20 rfl) (own_w hw 21 rfl) e0 (g := (mkF m 1 #[.val (.ref ax), .val (.ref ab)] [(.ref ax)])) rfl (by rw [hml]; rfl) rfl (hb hby d14_1) (by decide) (W := 0) (by show 2 * 0 + _ ≤ _; exact Nat.le_of_eq rfl) (by decide)
  refine own_pre (fun t k => st224 t k) ?_
  refine own_pre (A := (T224.setTop (mkF m 6 #[.val (.ref ax), .val (.ref ab)] [(.ref ab), (.ref ax)]))) ?_ ?_
  · intro t k
    refine XS.aloadN X224.here hx rfl (hb hby d14_4) rfl rfl ?_
    refine XS.aloadN X224.here hx rfl (hb hby d14_5) rfl rfl ?_
    exact k
  obtain ⟨T225, h225, X225, e225, W225, st225⟩ := putF X224 hx hZ hown (host := "") (Or.inl (own_w hw 71 rfl)) Via.refl e224 Fb Ea (Or.inr ⟨(own_w hw 72 rfl), rfl, hnm⟩) (own_w hw 62 rfl) (ty := (.array .int)) (by decide) rfl rfl (g := (mkF m 6 #[.val (.ref ax), .val (.ref ab)] [(.ref ab), (.ref ax)])) rfl rfl (hb hby d14_6)
  have Kc225 : Keep h0 h225 [ax] := (Keep.refl h0 [ax]).wr W225 (Or.inl (List.mem_of_getElem? (i := 0) rfl))
  have N225 := Fr.snoc X225 N0 ga
  have Fw225 := Fb.same W225
  refine own_pre (fun t k => st225 t k) ?_
  obtain ⟨fs, hr, hrun, hended, hW, hsame⟩ := X225.leave (hlocks := BodyLoose.notSynchronized Bd) (v := none) (fun _ => rfl)
  refine ⟨_, _, X225.returnOut hx Bd.returns (hb hby d14_9) hr, hrun, hended, _, _, rfl, ?_, ⟨_, rfl⟩, hW, hsame.mono (by decide) (by decide)⟩
  show own_Q14 Z ax ab h0 n0 _ T225.heap _
  rw [e225]
  exact ⟨rfl, N225, Kc225, Fw225⟩
theorem d4_0 : decode prog_6_method_1_code 0 = .ok (.aload_n 0, 1) := by decide +kernel
theorem d4_1 : decode prog_6_method_1_code 1 = .ok (.invokespecial 1, 3) := by decide +kernel
theorem d4_4 : decode prog_6_method_1_code 4 = .ok (.aload_n 0, 1) := by decide +kernel
theorem d4_5 : decode prog_6_method_1_code 5 = .ok (.bipush 8, 2) := by decide +kernel
theorem d4_7 : decode prog_6_method_1_code 7 = .ok (.newarray .long, 2) := by decide +kernel
theorem d4_9 : decode prog_6_method_1_code 9 = .ok (.putfield 7, 3) := by decide +kernel
theorem d4_12 : decode prog_6_method_1_code 12 = .ok (.return_, 1) := by decide +kernel
theorem own_pn4 : plainName "com/example/otito/otito/chain/CodePointSet$Builder" = true := by first | (simp [plainName, overriddenIn]; done) | decide +kernel
theorem own_ef4 (m : MethodId) (x0 : Addr) : entryFrame m #[(.ref x0)] 1 = mkF m 0 #[.val (.ref x0)] [] := by first | (simp [entryFrame, mkF, argsToLocals, Value.category]; done) | rfl
def own_Q4 (Z : State) (ax : Addr) (h0 : Heap) (n0 : Nat) (v : Option Value) (h : Heap) (L : List Loc) : Prop := v = none ∧ Fr n0 L ∧ Keep h0 h [ax] ∧ ∃ (ar : Addr) (kr : ClassId), n0 ≤ ar ∧ h0.size ≤ ar ∧ Fld Z h ax "com/example/otito/otito/chain/CodePointSet$Builder" "ranges" "[J" (.ref ar) ∧ Fld Z h ax "com/example/otito/otito/chain/CodePointSet$Builder" "count" "I" (.int (0 : Int32)) ∧ Arv Z h ar kr .long (8 : Int32) [(.long (0 : Int64)), (.long (0 : Int64)), (.long (0 : Int64)), (.long (0 : Int64)), (.long (0 : Int64)), (.long (0 : Int64)), (.long (0 : Int64)), (.long (0 : Int64))] (.long (0 : Int64)) ∧ Exa Z h ar "[J" ∧ ax ≠ ar
set_option maxRecDepth 65536 in
set_option maxHeartbeats 40000000 in
theorem rm4 (l : Launch) (Z : State) (a0 : Array Value) (hw : ∀ d ∈ tables_1, d.before a0 Z = true) (ws : List Jvm.Cond) (ax : Addr) (h0 : Heap) (n0 : Nat) (Z0 : n0 ≤ h0.size) (Ea : Exa Z h0 ax "com/example/otito/otito/chain/CodePointSet$Builder") (Fr_ : Fld Z h0 ax "com/example/otito/otito/chain/CodePointSet$Builder" "ranges" "[J" .null) (Fc : Fld Z h0 ax "com/example/otito/otito/chain/CodePointSet$Builder" "count" "I" (.int (0 : Int32))) (ga : n0 ≤ ax) :
    MetFree l (⟨"com/example/otito/otito/chain/CodePointSet$Builder", "<init>", "()V"⟩ : MethodName) (head1 (Jvm.Cond.code (⟨"com/example/otito/otito/chain/CodePointSet$Builder", "<init>", "()V"⟩ : MethodName) prog_6_method_1_code 1 none :: ws) ({ frames := 1, cells := 1, slots := 8, locals := 12 } : Room)) (fun a U => a = #[(.ref ax)] ∧ Z.Warmed39 U.vm ∧ U.heap = h0) (fun _ _ _ _ _ => True) (fun _ U o U' => ∃ v L, o = .returned v ∧ own_Q4 Z ax h0 n0 v U'.heap L ∧ FrameEnd U o U' L ({ frames := 1, cells := 1, slots := 8, locals := 12 } : Room).cells ({ frames := 1, cells := 1, slots := 8, locals := 12 } : Room).slots) := by
  refine MetFree.of_bodySF (plainFor_of_name own_pn4) hisR ?_
  intro p e s m args below meth c s₁ Bd hml0 hP hK
  obtain ⟨rfl, hZ, hh⟩ := hP
  have hx := Bd.exec
  have hby := Bd.bytes
  have hml : c.maxLocals = 1 := hml0
  have hown : s.vm.findClass "com/example/otito/otito/chain/CodePointSet$Builder" = some m.cls := findClass_of_methodNamed Bd.named
  have hnm := (name_of_methodNamed Bd.named Bd.method).1
  have X0 : Stand p l e ({ frames := 1, cells := 1, slots := 8, locals := 12 } : Room) s m #[(.ref ax)] below meth c s₁ [] 0 0 := Stand.of_body Bd
  have e0 : s₁.heap = h0 := by rw [← hh, Bd.state]; rfl
  have N0 := Fr.nil n0
  refine own_pre (A := (s₁.setTop (mkF m 0 #[.val (.ref ax)] []))) (fun t k => castTop (own_ef4 m ax) k) ?_
  refine own_pre (A := (s₁.setTop (mkF m 1 #[.val (.ref ax)] [(.ref ax)]))) ?_ ?_
  · intro t k
    refine XS.aloadN X0.here hx rfl (hb hby d4_0) rfl rfl ?_
    exact k
  obtain ⟨T226, X226, e226, st226⟩ := initO X0 hx hZ hown (own_w hw 19 rfl) (own_w hw 20 rfl) (own_w hw 21 rfl) e0 (g := (mkF m 1 #[.val (.ref ax)] [(.ref ax)])) rfl (by rw [hml]; rfl) rfl (hb hby d4_1) (by decide) (W := 0) (by show 2 * 0 + _ ≤ _; exact Nat.le_of_eq rfl) (by decide)
  refine own_pre (fun t k => st226 t k) ?_
  refine own_pre (A := (T226.setTop (mkF m 7 #[.val (.ref ax)] [(.int (8 : Int32)), (.ref ax)]))) ?_ ?_
  · intro t k
    refine XS.aloadN X226.here hx rfl (hb hby d4_4) rfl rfl ?_
    refine XS.bipush X226.here hx rfl (hb hby d4_5) ?_
    exact k
  obtain ⟨T227, h227, k227, X227, e227, E227, A227, Q227, st227⟩ := newPE X226 hx hZ (own_w hw 22 rfl) e226 (g := (mkF m 7 #[.val (.ref ax)] [(.int (8 : Int32)), (.ref ax)])) rfl (hb hby d4_7) rfl (by decide) (cap := 8) (by decide) (by decide) (by decide) (by decide) (ad := "[J") (by decide)
  obtain ⟨b227, g227⟩ : ∃ z, z = h0.size := ⟨_, rfl⟩
  rw [← g227] at A227 st227 Q227
  have ne_ax_b227 : ax ≠ b227 := Nat.ne_of_lt (Nat.lt_of_lt_of_le Ea.lt (Nat.le_of_eq g227.symm))
  have gn_b227 : n0 ≤ b227 := Nat.le_trans Z0 (Nat.le_of_eq g227.symm)
  have sz_b227 : h0.size ≤ b227 := Nat.le_trans (Keep.refl h0 [ax]).1 (Nat.le_of_eq g227.symm)
  have Ea_227 := Ea.ext E227
  have Fr__227 := Fr_.ext E227
  have Fc_227 := Fc.ext E227
  have Kc227 : Keep h0 h227 [ax] := (Keep.refl h0 [ax]).ext E227
  have V227 : Arv Z h227 b227 k227 .long (8 : Int32) [(.long (0 : Int64)), (.long (0 : Int64)), (.long (0 : Int64)), (.long (0 : Int64)), (.long (0 : Int64)), (.long (0 : Int64)), (.long (0 : Int64)), (.long (0 : Int64))] (.long (0 : Int64)) := (Arv.new A227 (by decide)).pad (pad_rep [] (.long (0 : Int64)) 8)
  refine own_pre (fun t k => st227 t k) ?_
  obtain ⟨T228, h228, X228, e228, W228, st228⟩ := putF X227 hx hZ hown (host := "") (Or.inl (own_w hw 23 rfl)) Via.refl e227 Fr__227 Ea_227 (Or.inl (own_w hw 24 rfl)) (own_w hw 14 rfl) (ty := (.array .long)) (by decide) rfl rfl (g := (mkF m 9 #[.val (.ref ax)] [(.ref b227), (.ref ax)])) rfl rfl (hb hby d4_9)
  have Fc_228 := Fc_227.other W228 (Or.inr (slot_ne (Or.inl (own_w hw 31 rfl)) (Or.inl (own_w hw 24 rfl)) (by decide) (t := .int) (t' := (.array .long)) (by decide) (by decide)))
  have Q227_228 := Q227.wr W228
  have V227_228 := V227.other W228 ne_ax_b227.symm
  have Kc228 : Keep h0 h228 [ax] := Kc227.wr W228 (Or.inl (List.mem_of_getElem? (i := 0) rfl))
  have N228 := Fr.snoc X228 N0 ga
  have Fw228 := Fr__227.same W228
  refine own_pre (fun t k => st228 t k) ?_
  obtain ⟨fs, hr, hrun, hended, hW, hsame⟩ := X228.leave (hlocks := BodyLoose.notSynchronized Bd) (v := none) (fun _ => rfl)
  refine ⟨_, _, X228.returnOut hx Bd.returns (hb hby d4_12) hr, hrun, hended, _, _, rfl, ?_, ⟨_, rfl⟩, hW, hsame.mono (by decide) (by decide)⟩
  show own_Q4 Z ax h0 n0 _ T228.heap _
  rw [e228]
  exact ⟨rfl, N228, Kc228, b227, k227, gn_b227, sz_b227, Fw228, Fc_228, V227_228, Q227_228, ne_ax_b227⟩
def own_Q8_x (Z : State) (asr : Addr) (ks : ClassId) (u0 : Int64) (u1 : Int64) (u2 : Int64) (u3 : Int64) (u4 : Int64) (u5 : Int64) (u6 : Int64) (u7 : Int64) (h0 : Heap) (n0 : Nat) (v : Option Value) (h : Heap) (L : List Loc) : Prop := Fr n0 L ∧ ∃ (ad : Addr) (kd : ClassId), v = some (.ref ad) ∧ n0 ≤ ad ∧ h0.size ≤ ad ∧ Arv Z h ad kd .long (16 : Int32) [(.long u0), (.long u1), (.long u2), (.long u3), (.long u4), (.long u5), (.long u6), (.long u7), (.long (0 : Int64)), (.long (0 : Int64)), (.long (0 : Int64)), (.long (0 : Int64)), (.long (0 : Int64)), (.long (0 : Int64)), (.long (0 : Int64)), (.long (0 : Int64))] (.long (0 : Int64)) ∧ Exa Z h ad "[J" ∧ Keep h0 h []
set_option maxRecDepth 65536 in
set_option maxHeartbeats 40000000 in
theorem rm8_x (l : Launch) (Z : State) (a0 : Array Value) (hw : ∀ d ∈ tables_1, d.before a0 Z = true) (ws : List Jvm.Cond) (asr : Addr) (ks : ClassId) (u0 : Int64) (u1 : Int64) (u2 : Int64) (u3 : Int64) (u4 : Int64) (u5 : Int64) (u6 : Int64) (u7 : Int64) (h0 : Heap) (n0 : Nat) (Z0 : n0 ≤ h0.size) (Vs : Arv Z h0 asr ks .long (8 : Int32) [(.long u0), (.long u1), (.long u2), (.long u3), (.long u4), (.long u5), (.long u6), (.long u7)] (.long (0 : Int64))) (Es : Exa Z h0 asr "[J") :
    MetFree l (⟨"java/util/Arrays", "copyOf", "([JI)[J"⟩ : MethodName) (head1 (Jvm.Cond.code (⟨"java/util/Arrays", "copyOf", "([JI)[J"⟩ : MethodName) jdk_65_method_124_code 3 (some (.array .long)) :: ws) ({ frames := 1, cells := 1, slots := 16, locals := 40 } : Room)) (fun a U => a = #[(.ref asr), (.int (16 : Int32))] ∧ Z.Warmed39 U.vm ∧ U.heap = h0) (fun _ _ _ _ _ => True) (fun _ U o U' => ∃ v L, o = .returned v ∧ own_Q8_x Z asr ks u0 u1 u2 u3 u4 u5 u6 u7 h0 n0 v U'.heap L ∧ FrameEnd U o U' L ({ frames := 1, cells := 1, slots := 16, locals := 40 } : Room).cells ({ frames := 1, cells := 1, slots := 16, locals := 40 } : Room).slots) := by
  refine MetFree.of_bodySF (plainFor_of_name own_pn8) hisR ?_
  intro p e s m args below meth c s₁ Bd hml0 hP hK
  obtain ⟨rfl, hZ, hh⟩ := hP
  have hx := Bd.exec
  have hby := Bd.bytes
  have hml : c.maxLocals = 3 := hml0
  have hown : s.vm.findClass "java/util/Arrays" = some m.cls := findClass_of_methodNamed Bd.named
  have hnm := (name_of_methodNamed Bd.named Bd.method).1
  have X0 : Stand p l e ({ frames := 1, cells := 1, slots := 16, locals := 40 } : Room) s m #[(.ref asr), (.int (16 : Int32))] below meth c s₁ [] 0 0 := Stand.of_body Bd
  have e0 : s₁.heap = h0 := by rw [← hh, Bd.state]; rfl
  have N0 := Fr.nil n0
  refine own_pre (A := (s₁.setTop (mkF m 0 #[.val (.ref asr), .val (.int (16 : Int32)), .unset] []))) (fun t k => castTop (own_ef8 m asr (16 : Int32)) k) ?_
  refine own_pre (A := (s₁.setTop (mkF m 15 #[.val (.ref asr), .val (.int (16 : Int32)), .unset] [(.int (16 : Int32))]))) ?_ ?_
  · intro t k
    refine XS.iloadN X0.here hx rfl (hb hby d8_0) rfl ?_
    refine XS.aloadN X0.here hx rfl (hb hby d8_1) rfl rfl ?_
    show Steps p.tables e below (s₁.setTop (mkF m 2 #[.val (.ref asr), .val (.int (16 : Int32)), .unset] [(.ref asr), (.int (16 : Int32))])) _
    obtain ⟨cl229, Ar229, -, S229, N229, -, -⟩ := id Vs
    refine X0.arraylength hx (by rw [e0]; exact Ar229.1) (State.isArrayOf_alike hZ.alike Ar229.2.1) (g := (mkF m 2 #[.val (.ref asr), .val (.int (16 : Int32)), .unset] [(.ref asr), (.int (16 : Int32))])) rfl rfl (hb hby d8_2) _ ?_
    rw [len_of S229 N229]
    refine XS.icmpYes X0.here hx rfl (pc0 := 3) (pc' := 14) rfl (hb hby d8_3) rfl (feq (by decide : ¬ ((16 : Int32) = (8 : Int32)))).2 (by decide) (by decide) ?_
    refine XS.iloadN X0.here hx rfl (hb hby d8_14) rfl ?_
    exact k
  obtain ⟨T230, h230, k230, X230, e230, E230, A230, Q230, st230⟩ := newPE X0 hx hZ (own_w hw 22 rfl) e0 (g := (mkF m 15 #[.val (.ref asr), .val (.int (16 : Int32)), .unset] [(.int (16 : Int32))])) rfl (hb hby d8_15) rfl (by decide) (cap := 16) (by decide) (by decide) (by decide) (by decide) (ad := "[J") (by decide)
  obtain ⟨b230, g230⟩ : ∃ z, z = h0.size := ⟨_, rfl⟩
  rw [← g230] at A230 st230 Q230
  have gn_b230 : n0 ≤ b230 := Nat.le_trans Z0 (Nat.le_of_eq g230.symm)
  have sz_b230 : h0.size ≤ b230 := Nat.le_trans (Keep.refl h0 []).1 (Nat.le_of_eq g230.symm)
  have Vs_230 := Vs.ext E230
  have Zs230 : n0 ≤ h230.size := Nat.le_trans Z0 E230.1
  have Kc230 : Keep h0 h230 [] := (Keep.refl h0 []).ext E230
  have V230 : Arv Z h230 b230 k230 .long (16 : Int32) [(.long (0 : Int64)), (.long (0 : Int64)), (.long (0 : Int64)), (.long (0 : Int64)), (.long (0 : Int64)), (.long (0 : Int64)), (.long (0 : Int64)), (.long (0 : Int64)), (.long (0 : Int64)), (.long (0 : Int64)), (.long (0 : Int64)), (.long (0 : Int64)), (.long (0 : Int64)), (.long (0 : Int64)), (.long (0 : Int64)), (.long (0 : Int64))] (.long (0 : Int64)) := (Arv.new A230 (by decide)).pad (pad_rep [] (.long (0 : Int64)) 16)
  refine own_pre (fun t k => st230 t k) ?_
  refine own_pre (A := (T230.setTop (mkF m 25 #[.val (.ref asr), .val (.int (16 : Int32)), .val (.ref b230)] [(.int (16 : Int32)), (.int (8 : Int32)), (.int (0 : Int32)), (.ref b230), (.int (0 : Int32)), (.ref asr)]))) ?_ ?_
  · intro t k
    refine XS.astoreN X230.here hx rfl (hb hby d8_17) rfl rfl (l' := #[.val (.ref asr), .val (.int (16 : Int32)), .val (.ref b230)]) rfl ?_
    refine XS.aloadN X230.here hx rfl (hb hby d8_18) rfl rfl ?_
    refine XS.iconst X230.here hx rfl (hb hby d8_19) ?_
    refine XS.aloadN X230.here hx rfl (hb hby d8_20) rfl rfl ?_
    refine XS.iconst X230.here hx rfl (hb hby d8_21) ?_
    refine XS.aloadN X230.here hx rfl (hb hby d8_22) rfl rfl ?_
    show Steps p.tables e below (T230.setTop (mkF m 23 #[.val (.ref asr), .val (.int (16 : Int32)), .val (.ref b230)] [(.ref asr), (.int (0 : Int32)), (.ref b230), (.int (0 : Int32)), (.ref asr)])) _
    obtain ⟨cl231, Ar231, -, S231, N231, -, -⟩ := id Vs_230
    refine X230.arraylength hx (by rw [e230]; exact Ar231.1) (State.isArrayOf_alike hZ.alike Ar231.2.1) (g := (mkF m 23 #[.val (.ref asr), .val (.int (16 : Int32)), .val (.ref b230)] [(.ref asr), (.int (0 : Int32)), (.ref b230), (.int (0 : Int32)), (.ref asr)])) rfl rfl (hb hby d8_23) _ ?_
    rw [len_of S231 N231]
    refine XS.iloadN X230.here hx rfl (hb hby d8_24) rfl ?_
    exact k
  obtain ⟨_, _, ⟨T232, L232, k232, n232⟩, -, X232, ⟨Lc232, hQ232, l232, y232, z232⟩, st232⟩ := Jvm.LawKit.callS X230 hx (y := (⟨"java/lang/Math", "min", "(II)I"⟩ : MethodName)) hown (mvT hZ (own_w hw 41 rfl)) (mvT hZ (own_w hw 7 rfl)) (mvT hZ (own_w hw 8 rfl)) (mvT hZ (own_w hw 9 rfl)) (by decide) (backOf (W := 4) (rm2 l Z a0 hw [] (8 : Int32) (16 : Int32) h230 n0 Zs230) hZ (own_w hw 9 rfl) (own_w hw 8 rfl) (by decide) (by decide)) (g := (mkF m 25 #[.val (.ref asr), .val (.int (16 : Int32)), .val (.ref b230)] [(.int (16 : Int32)), (.int (8 : Int32)), (.int (0 : Int32)), (.ref b230), (.int (0 : Int32)), (.ref asr)])) rfl (by rw [hml]; rfl) (argsL := [(.int (8 : Int32)), (.int (16 : Int32))]) (rest := [(.int (0 : Int32)), (.ref b230), (.int (0 : Int32)), (.ref asr)]) (lenOf own_pd0 rfl) rfl (by show 2 * 0 + _ ≤ _; exact Nat.le_of_eq rfl) (hb hby d8_25) (fun _ _ => ⟨rfl, e230, (by decide : 1 + 0 ≤ _), (by decide : 16 + 0 ≤ _)⟩)
  dsimp only [Pt.U, Pt.locs, Pt.cells, Pt.slots] at X232 l232 y232 z232 st232 hQ232
  replace y232 : _ = 1 := y232
  replace z232 : _ = 16 := z232
  subst y232 z232
  obtain ⟨rfl, Nq232, eq232⟩ := hQ232
  have N232 := own_frl l232 N0 Nq232
  refine own_pre (fun t k => st232 t k) ?_
  rw [show own_min (8 : Int32) (16 : Int32) = (8 : Int32) from by decide]
  obtain ⟨T233, h233, L233, X233, e233, N233, K233, V233, st233⟩ := cpA X232 hx hZ hown (own_w hw 42 rfl) (own_w hw 45 rfl) (own_w hw 43 rfl) (own_w hw 44 rfl) eq232 Vs_230 V230 (Or.inl ⟨rfl, rfl⟩) (sp := (0 : Int32)) (dp := (0 : Int32)) (nn := (8 : Int32)) (us := [(.long u0), (.long u1), (.long u2), (.long u3), (.long u4), (.long u5), (.long u6), (.long u7)]) (by decide) (by decide) (by decide) (by decide) (by decide) rfl (by decide) N232 gn_b230 (g := (mkF m 28 #[.val (.ref asr), .val (.int (16 : Int32)), .val (.ref b230)] [(.int (8 : Int32)), (.int (0 : Int32)), (.ref b230), (.int (0 : Int32)), (.ref asr)])) rfl (by rw [hml]; rfl) rfl (hb hby d8_28) (by decide) (W := 0) (by show 2 * 0 + _ ≤ _; exact Nat.le_of_eq rfl) (by decide)
  refine own_pre (fun t k => st233 t k) ?_
  have V233' : Arv Z h233 b230 k230 .long (16 : Int32) [(.long u0), (.long u1), (.long u2), (.long u3), (.long u4), (.long u5), (.long u6), (.long u7), (.long (0 : Int64)), (.long (0 : Int64)), (.long (0 : Int64)), (.long (0 : Int64)), (.long (0 : Int64)), (.long (0 : Int64)), (.long (0 : Int64)), (.long (0 : Int64))] (.long (0 : Int64)) := V233
  have Q230_233 := Q230.keep K233
  have Kc233 : Keep h0 h233 [] := Kc230.trans K233 (allS (Or.inr sz_b230) all0)
  refine own_pre (A := (T233.setTop (mkF m 32 #[.val (.ref asr), .val (.int (16 : Int32)), .val (.ref b230)] [(.ref b230)]))) ?_ ?_
  · intro t k
    refine XS.aloadN X233.here hx rfl (hb hby d8_31) rfl rfl ?_
    exact k
  obtain ⟨fs, hr, hrun, hended, hW, hsame⟩ := X233.leave (hlocks := BodyLoose.notSynchronized Bd) (v := some (.ref b230)) (fun h => by rw [Bd.returns] at h; cases h)
  refine ⟨_, _, retOut X233 hx Bd.returns rfl (Or.inr (Or.inr (Or.inr (Or.inr ⟨rfl, rfl, rfl⟩)))) (hb hby d8_32) hr, hrun, hended, _, _, rfl, ?_, ⟨_, rfl⟩, hW, hsame.mono (by decide) (by decide)⟩
  show own_Q8_x Z asr ks u0 u1 u2 u3 u4 u5 u6 u7 h0 n0 _ T233.heap _
  rw [e233]
  exact ⟨N233, b230, k230, rfl, gn_b230, sz_b230, V233', Q230_233, Kc233⟩
theorem d6_0 : decode prog_6_method_2_code 0 = .ok (.aload_n 0, 1) := by decide +kernel
theorem d6_1 : decode prog_6_method_2_code 1 = .ok (.getfield 13, 3) := by decide +kernel
theorem d6_4 : decode prog_6_method_2_code 4 = .ok (.aload_n 0, 1) := by decide +kernel
theorem d6_5 : decode prog_6_method_2_code 5 = .ok (.getfield 7, 3) := by decide +kernel
theorem d6_8 : decode prog_6_method_2_code 8 = .ok (.arraylength, 1) := by decide +kernel
theorem d6_9 : decode prog_6_method_2_code 9 = .ok (.if_icmp .ne 20, 3) := by decide +kernel
theorem d6_12 : decode prog_6_method_2_code 12 = .ok (.aload_n 0, 1) := by decide +kernel
theorem d6_13 : decode prog_6_method_2_code 13 = .ok (.aload_n 0, 1) := by decide +kernel
theorem d6_14 : decode prog_6_method_2_code 14 = .ok (.getfield 7, 3) := by decide +kernel
theorem d6_17 : decode prog_6_method_2_code 17 = .ok (.iconst 2, 1) := by decide +kernel
theorem d6_18 : decode prog_6_method_2_code 18 = .ok (.aload_n 0, 1) := by decide +kernel
theorem d6_19 : decode prog_6_method_2_code 19 = .ok (.getfield 13, 3) := by decide +kernel
theorem d6_22 : decode prog_6_method_2_code 22 = .ok (.imul, 1) := by decide +kernel
theorem d6_23 : decode prog_6_method_2_code 23 = .ok (.invokestatic 17, 3) := by decide +kernel
theorem d6_26 : decode prog_6_method_2_code 26 = .ok (.putfield 7, 3) := by decide +kernel
theorem d6_29 : decode prog_6_method_2_code 29 = .ok (.aload_n 0, 1) := by decide +kernel
theorem d6_30 : decode prog_6_method_2_code 30 = .ok (.getfield 7, 3) := by decide +kernel
theorem d6_33 : decode prog_6_method_2_code 33 = .ok (.aload_n 0, 1) := by decide +kernel
theorem d6_34 : decode prog_6_method_2_code 34 = .ok (.dup, 1) := by decide +kernel
theorem d6_35 : decode prog_6_method_2_code 35 = .ok (.getfield 13, 3) := by decide +kernel
theorem d6_38 : decode prog_6_method_2_code 38 = .ok (.dup_x1, 1) := by decide +kernel
theorem d6_39 : decode prog_6_method_2_code 39 = .ok (.iconst 1, 1) := by decide +kernel
theorem d6_40 : decode prog_6_method_2_code 40 = .ok (.iadd, 1) := by decide +kernel
theorem d6_41 : decode prog_6_method_2_code 41 = .ok (.putfield 13, 3) := by decide +kernel
theorem d6_44 : decode prog_6_method_2_code 44 = .ok (.iload_n 1, 1) := by decide +kernel
theorem d6_45 : decode prog_6_method_2_code 45 = .ok (.i2l, 1) := by decide +kernel
theorem d6_46 : decode prog_6_method_2_code 46 = .ok (.bipush 32, 2) := by decide +kernel
theorem d6_48 : decode prog_6_method_2_code 48 = .ok (.lshl, 1) := by decide +kernel
theorem d6_49 : decode prog_6_method_2_code 49 = .ok (.iload_n 2, 1) := by decide +kernel
theorem d6_50 : decode prog_6_method_2_code 50 = .ok (.i2l, 1) := by decide +kernel
theorem d6_51 : decode prog_6_method_2_code 51 = .ok (.lor, 1) := by decide +kernel
theorem d6_52 : decode prog_6_method_2_code 52 = .ok (.lastore, 1) := by decide +kernel
theorem d6_53 : decode prog_6_method_2_code 53 = .ok (.return_, 1) := by decide +kernel
theorem own_pn6 : plainName "com/example/otito/otito/chain/CodePointSet$Builder" = true := by first | (simp [plainName, overriddenIn]; done) | decide +kernel
theorem own_ef6 (m : MethodId) (x0 : Addr) (x1 : Int32) (x2 : Int32) : entryFrame m #[(.ref x0), (.int x1), (.int x2)] 3 = mkF m 0 #[.val (.ref x0), .val (.int x1), .val (.int x2)] [] := by first | (simp [entryFrame, mkF, argsToLocals, Value.category]; done) | rfl
def own_Q6_0 (Z : State) (ax : Addr) (pf : Int32) (pl : Int32) (ar : Addr) (kr : ClassId) (u0 : Int64) (u1 : Int64) (u2 : Int64) (u3 : Int64) (u4 : Int64) (u5 : Int64) (u6 : Int64) (u7 : Int64) (qw : Int64) (h0 : Heap) (n0 : Nat) (v : Option Value) (h : Heap) (L : List Loc) : Prop := v = none ∧ Fr n0 L ∧ Keep h0 h [ax, ar] ∧ Fld Z h ax "com/example/otito/otito/chain/CodePointSet$Builder" "ranges" "[J" (.ref ar) ∧ Fld Z h ax "com/example/otito/otito/chain/CodePointSet$Builder" "count" "I" (.int (1 : Int32)) ∧ Arv Z h ar kr .long (8 : Int32) [(.long qw), (.long u1), (.long u2), (.long u3), (.long u4), (.long u5), (.long u6), (.long u7)] (.long (0 : Int64))
set_option maxRecDepth 65536 in
set_option maxHeartbeats 40000000 in
theorem rm6_0 (l : Launch) (Z : State) (a0 : Array Value) (hw : ∀ d ∈ tables_1, d.before a0 Z = true) (ws : List Jvm.Cond) (ax : Addr) (pf : Int32) (pl : Int32) (ar : Addr) (kr : ClassId) (u0 : Int64) (u1 : Int64) (u2 : Int64) (u3 : Int64) (u4 : Int64) (u5 : Int64) (u6 : Int64) (u7 : Int64) (qw : Int64) (h0 : Heap) (n0 : Nat) (Z0 : n0 ≤ h0.size) (Ea : Exa Z h0 ax "com/example/otito/otito/chain/CodePointSet$Builder") (Fr_ : Fld Z h0 ax "com/example/otito/otito/chain/CodePointSet$Builder" "ranges" "[J" (.ref ar)) (Fc : Fld Z h0 ax "com/example/otito/otito/chain/CodePointSet$Builder" "count" "I" (.int (0 : Int32))) (Vr : Arv Z h0 ar kr .long (8 : Int32) [(.long u0), (.long u1), (.long u2), (.long u3), (.long u4), (.long u5), (.long u6), (.long u7)] (.long (0 : Int64))) (Er : Exa Z h0 ar "[J") (nar : ax ≠ ar) (ga : n0 ≤ ax) (gr : n0 ≤ ar) (hq : qw = (((pf.toInt64) <<< ((32 : Int32) &&& 0x3f).toInt64) ||| (pl.toInt64))) :
    MetFree l (⟨"com/example/otito/otito/chain/CodePointSet$Builder", "add", "(II)V"⟩ : MethodName) (head1 (Jvm.Cond.code (⟨"com/example/otito/otito/chain/CodePointSet$Builder", "add", "(II)V"⟩ : MethodName) prog_6_method_2_code 3 none :: ws) ({ frames := 0, cells := 0, slots := 0, locals := 0 } : Room)) (fun a U => a = #[(.ref ax), (.int pf), (.int pl)] ∧ Z.Warmed39 U.vm ∧ U.heap = h0) (fun _ _ _ _ _ => True) (fun _ U o U' => ∃ v L, o = .returned v ∧ own_Q6_0 Z ax pf pl ar kr u0 u1 u2 u3 u4 u5 u6 u7 qw h0 n0 v U'.heap L ∧ FrameEnd U o U' L ({ frames := 0, cells := 0, slots := 0, locals := 0 } : Room).cells ({ frames := 0, cells := 0, slots := 0, locals := 0 } : Room).slots) := by
  refine MetFree.of_bodySF (plainFor_of_name own_pn6) hisR ?_
  intro p e s m args below meth c s₁ Bd hml0 hP hK
  obtain ⟨rfl, hZ, hh⟩ := hP
  have hx := Bd.exec
  have hby := Bd.bytes
  have hml : c.maxLocals = 3 := hml0
  have hown : s.vm.findClass "com/example/otito/otito/chain/CodePointSet$Builder" = some m.cls := findClass_of_methodNamed Bd.named
  have hnm := (name_of_methodNamed Bd.named Bd.method).1
  have X0 : Stand p l e ({ frames := 0, cells := 0, slots := 0, locals := 0 } : Room) s m #[(.ref ax), (.int pf), (.int pl)] below meth c s₁ [] 0 0 := Stand.of_body Bd
  have e0 : s₁.heap = h0 := by rw [← hh, Bd.state]; rfl
  have N0 := Fr.nil n0
  refine own_pre (A := (s₁.setTop (mkF m 0 #[.val (.ref ax), .val (.int pf), .val (.int pl)] []))) (fun t k => castTop (own_ef6 m ax pf pl) k) ?_
  refine own_pre (A := (s₁.setTop (mkF m 1 #[.val (.ref ax), .val (.int pf), .val (.int pl)] [(.ref ax)]))) ?_ ?_
  · intro t k
    refine XS.aloadN X0.here hx rfl (hb hby d6_0) rfl rfl ?_
    exact k
  obtain ⟨T234, X234, e234, st234⟩ := getF X0 hx hZ hown (host := "") (Or.inl (own_w hw 30 rfl)) Via.refl e0 Fc (g := (mkF m 1 #[.val (.ref ax), .val (.int pf), .val (.int pl)] [(.ref ax)])) rfl rfl (hb hby d6_1)
  refine own_pre (fun t k => st234 t k) ?_
  refine own_pre (A := (T234.setTop (mkF m 5 #[.val (.ref ax), .val (.int pf), .val (.int pl)] [(.ref ax), (.int (0 : Int32))]))) ?_ ?_
  · intro t k
    refine XS.aloadN X234.here hx rfl (hb hby d6_4) rfl rfl ?_
    exact k
  obtain ⟨T235, X235, e235, st235⟩ := getF X234 hx hZ hown (host := "") (Or.inl (own_w hw 23 rfl)) Via.refl e234 Fr_ (g := (mkF m 5 #[.val (.ref ax), .val (.int pf), .val (.int pl)] [(.ref ax), (.int (0 : Int32))])) rfl rfl (hb hby d6_5)
  refine own_pre (fun t k => st235 t k) ?_
  refine own_pre (A := (T235.setTop (mkF m 30 #[.val (.ref ax), .val (.int pf), .val (.int pl)] [(.ref ax)]))) ?_ ?_
  · intro t k
    show Steps p.tables e below (T235.setTop (mkF m 8 #[.val (.ref ax), .val (.int pf), .val (.int pl)] [(.ref ar), (.int (0 : Int32))])) _
    obtain ⟨cl236, Ar236, -, S236, N236, -, -⟩ := id Vr
    refine X235.arraylength hx (by rw [e235]; exact Ar236.1) (State.isArrayOf_alike hZ.alike Ar236.2.1) (g := (mkF m 8 #[.val (.ref ax), .val (.int pf), .val (.int pl)] [(.ref ar), (.int (0 : Int32))])) rfl rfl (hb hby d6_8) _ ?_
    rw [len_of S236 N236]
    refine XS.icmpYes X235.here hx rfl (pc0 := 9) (pc' := 29) rfl (hb hby d6_9) rfl (feq (by decide : ¬ ((0 : Int32) = (8 : Int32)))).2 (by decide) (by decide) ?_
    refine XS.aloadN X235.here hx rfl (hb hby d6_29) rfl rfl ?_
    exact k
  obtain ⟨T237, X237, e237, st237⟩ := getF X235 hx hZ hown (host := "") (Or.inl (own_w hw 23 rfl)) Via.refl e235 Fr_ (g := (mkF m 30 #[.val (.ref ax), .val (.int pf), .val (.int pl)] [(.ref ax)])) rfl rfl (hb hby d6_30)
  refine own_pre (fun t k => st237 t k) ?_
  refine own_pre (A := (T237.setTop (mkF m 35 #[.val (.ref ax), .val (.int pf), .val (.int pl)] [(.ref ax), (.ref ax), (.ref ar)]))) ?_ ?_
  · intro t k
    refine XS.aloadN X237.here hx rfl (hb hby d6_33) rfl rfl ?_
    refine XS.dup X237.here hx rfl (hb hby d6_34) rfl rfl ?_
    exact k
  obtain ⟨T238, X238, e238, st238⟩ := getF X237 hx hZ hown (host := "") (Or.inl (own_w hw 30 rfl)) Via.refl e237 Fc (g := (mkF m 35 #[.val (.ref ax), .val (.int pf), .val (.int pl)] [(.ref ax), (.ref ax), (.ref ar)])) rfl rfl (hb hby d6_35)
  refine own_pre (fun t k => st238 t k) ?_
  refine own_pre (A := (T238.setTop (mkF m 41 #[.val (.ref ax), .val (.int pf), .val (.int pl)] [(.int (1 : Int32)), (.ref ax), (.int (0 : Int32)), (.ref ar)]))) ?_ ?_
  · intro t k
    refine XS.dupX1 X238.here hx rfl (hb hby d6_38) rfl rfl rfl ?_
    refine XS.iconst X238.here hx rfl (hb hby d6_39) ?_
    refine XS.iadd X238.here hx rfl (hb hby d6_40) rfl ?_
    show Steps p.tables e below (T238.setTop (mkF m 41 #[.val (.ref ax), .val (.int pf), .val (.int pl)] [(.int ((0 : Int32) + (1 : Int32))), (.ref ax), (.int (0 : Int32)), (.ref ar)])) _
    rw [show ((0 : Int32) + (1 : Int32)) = (1 : Int32) from by decide]
    exact k
  obtain ⟨T239, h239, X239, e239, W239, st239⟩ := putF X238 hx hZ hown (host := "") (Or.inl (own_w hw 30 rfl)) Via.refl e238 Fc Ea (Or.inl (own_w hw 31 rfl)) (own_w hw 14 rfl) (ty := .int) (by decide) rfl rfl (g := (mkF m 41 #[.val (.ref ax), .val (.int pf), .val (.int pl)] [(.int (1 : Int32)), (.ref ax), (.int (0 : Int32)), (.ref ar)])) rfl rfl (hb hby d6_41)
  have Fr__239 := Fr_.other W239 (Or.inr (slot_ne (Or.inl (own_w hw 24 rfl)) (Or.inl (own_w hw 31 rfl)) (by decide) (t := (.array .long)) (t' := .int) (by decide) (by decide)))
  have Vr_239 := Vr.other W239 nar.symm
  have Kc239 : Keep h0 h239 [ax, ar] := (Keep.refl h0 [ax, ar]).wr W239 (Or.inl (List.mem_of_getElem? (i := 0) rfl))
  have N239 := Fr.snoc X239 N0 ga
  have Fw239 := Fc.same W239
  refine own_pre (fun t k => st239 t k) ?_
  refine own_pre (A := (T239.setTop (mkF m 52 #[.val (.ref ax), .val (.int pf), .val (.int pl)] [(.long qw), (.int (0 : Int32)), (.ref ar)]))) ?_ ?_
  · intro t k
    refine XS.iloadN X239.here hx rfl (hb hby d6_44) rfl ?_
    refine XS.i2l X239.here hx rfl (hb hby d6_45) rfl ?_
    refine XS.bipush X239.here hx rfl (hb hby d6_46) ?_
    refine XS.lshl X239.here hx rfl (hb hby d6_48) rfl ?_
    refine XS.iloadN X239.here hx rfl (hb hby d6_49) rfl ?_
    refine XS.i2l X239.here hx rfl (hb hby d6_50) rfl ?_
    refine XS.lor X239.here hx rfl (hb hby d6_51) rfl ?_
    show Steps p.tables e below (T239.setTop (mkF m 52 #[.val (.ref ax), .val (.int pf), .val (.int pl)] [(.long (((pf.toInt64) <<< ((32 : Int32) &&& 0x3f).toInt64) ||| (pl.toInt64))), (.int (0 : Int32)), (.ref ar)])) _
    rw [← hq]
    exact k
  obtain ⟨cl240, Ar240, q240, S240, N240, H240, G240⟩ := Vr_239
  have hin240 : ¬ ((0 : Int32) < 0 ∨ cl240.slots.size ≤ ((0 : Int32)).toNatClampNeg) := inb_of S240 ⟨by decide, by decide⟩
  obtain ⟨T240, h240, X240, e240, W240, st240⟩ := stJ X239 hx hZ e239 Ar240 (j := (0 : Int32)) hin240 (g := (mkF m 52 #[.val (.ref ax), .val (.int pf), .val (.int pl)] [(.long qw), (.int (0 : Int32)), (.ref ar)])) rfl rfl (hb hby d6_52)
  have V240 : Arv Z h240 ar kr .long (8 : Int32) [(.long qw), (.long u1), (.long u2), (.long u3), (.long u4), (.long u5), (.long u6), (.long u7)] (.long (0 : Int64)) := Arv.set Ar240 q240 S240 N240 H240 G240 rfl W240 0 rfl (Nat.le_of_ble_eq_true rfl)
  have Fr__240 := Fr__239.other W240 (Or.inl nar)
  have Fw239_240 := Fw239.other W240 (Or.inl nar)
  have Kc240 : Keep h0 h240 [ax, ar] := Kc239.wr W240 (Or.inl (List.mem_of_getElem? (i := 1) rfl))
  have N240 := Fr.snoc X240 N239 gr
  refine own_pre (fun t k => st240 t k) ?_
  obtain ⟨fs, hr, hrun, hended, hW, hsame⟩ := X240.leave (hlocks := BodyLoose.notSynchronized Bd) (v := none) (fun _ => rfl)
  refine ⟨_, _, X240.returnOut hx Bd.returns (hb hby d6_53) hr, hrun, hended, _, _, rfl, ?_, ⟨_, rfl⟩, hW, hsame.mono (by decide) (by decide)⟩
  show own_Q6_0 Z ax pf pl ar kr u0 u1 u2 u3 u4 u5 u6 u7 qw h0 n0 _ T240.heap _
  rw [e240]
  exact ⟨rfl, N240, Kc240, Fr__240, Fw239_240, V240⟩
def own_Q6_1 (Z : State) (ax : Addr) (pf : Int32) (pl : Int32) (ar : Addr) (kr : ClassId) (u0 : Int64) (u1 : Int64) (u2 : Int64) (u3 : Int64) (u4 : Int64) (u5 : Int64) (u6 : Int64) (u7 : Int64) (qw : Int64) (h0 : Heap) (n0 : Nat) (v : Option Value) (h : Heap) (L : List Loc) : Prop := v = none ∧ Fr n0 L ∧ Keep h0 h [ax, ar] ∧ Fld Z h ax "com/example/otito/otito/chain/CodePointSet$Builder" "ranges" "[J" (.ref ar) ∧ Fld Z h ax "com/example/otito/otito/chain/CodePointSet$Builder" "count" "I" (.int (2 : Int32)) ∧ Arv Z h ar kr .long (8 : Int32) [(.long u0), (.long qw), (.long u2), (.long u3), (.long u4), (.long u5), (.long u6), (.long u7)] (.long (0 : Int64))
set_option maxRecDepth 65536 in
set_option maxHeartbeats 40000000 in
theorem rm6_1 (l : Launch) (Z : State) (a0 : Array Value) (hw : ∀ d ∈ tables_1, d.before a0 Z = true) (ws : List Jvm.Cond) (ax : Addr) (pf : Int32) (pl : Int32) (ar : Addr) (kr : ClassId) (u0 : Int64) (u1 : Int64) (u2 : Int64) (u3 : Int64) (u4 : Int64) (u5 : Int64) (u6 : Int64) (u7 : Int64) (qw : Int64) (h0 : Heap) (n0 : Nat) (Z0 : n0 ≤ h0.size) (Ea : Exa Z h0 ax "com/example/otito/otito/chain/CodePointSet$Builder") (Fr_ : Fld Z h0 ax "com/example/otito/otito/chain/CodePointSet$Builder" "ranges" "[J" (.ref ar)) (Fc : Fld Z h0 ax "com/example/otito/otito/chain/CodePointSet$Builder" "count" "I" (.int (1 : Int32))) (Vr : Arv Z h0 ar kr .long (8 : Int32) [(.long u0), (.long u1), (.long u2), (.long u3), (.long u4), (.long u5), (.long u6), (.long u7)] (.long (0 : Int64))) (Er : Exa Z h0 ar "[J") (nar : ax ≠ ar) (ga : n0 ≤ ax) (gr : n0 ≤ ar) (hq : qw = (((pf.toInt64) <<< ((32 : Int32) &&& 0x3f).toInt64) ||| (pl.toInt64))) :
    MetFree l (⟨"com/example/otito/otito/chain/CodePointSet$Builder", "add", "(II)V"⟩ : MethodName) (head1 (Jvm.Cond.code (⟨"com/example/otito/otito/chain/CodePointSet$Builder", "add", "(II)V"⟩ : MethodName) prog_6_method_2_code 3 none :: ws) ({ frames := 0, cells := 0, slots := 0, locals := 0 } : Room)) (fun a U => a = #[(.ref ax), (.int pf), (.int pl)] ∧ Z.Warmed39 U.vm ∧ U.heap = h0) (fun _ _ _ _ _ => True) (fun _ U o U' => ∃ v L, o = .returned v ∧ own_Q6_1 Z ax pf pl ar kr u0 u1 u2 u3 u4 u5 u6 u7 qw h0 n0 v U'.heap L ∧ FrameEnd U o U' L ({ frames := 0, cells := 0, slots := 0, locals := 0 } : Room).cells ({ frames := 0, cells := 0, slots := 0, locals := 0 } : Room).slots) := by
  refine MetFree.of_bodySF (plainFor_of_name own_pn6) hisR ?_
  intro p e s m args below meth c s₁ Bd hml0 hP hK
  obtain ⟨rfl, hZ, hh⟩ := hP
  have hx := Bd.exec
  have hby := Bd.bytes
  have hml : c.maxLocals = 3 := hml0
  have hown : s.vm.findClass "com/example/otito/otito/chain/CodePointSet$Builder" = some m.cls := findClass_of_methodNamed Bd.named
  have hnm := (name_of_methodNamed Bd.named Bd.method).1
  have X0 : Stand p l e ({ frames := 0, cells := 0, slots := 0, locals := 0 } : Room) s m #[(.ref ax), (.int pf), (.int pl)] below meth c s₁ [] 0 0 := Stand.of_body Bd
  have e0 : s₁.heap = h0 := by rw [← hh, Bd.state]; rfl
  have N0 := Fr.nil n0
  refine own_pre (A := (s₁.setTop (mkF m 0 #[.val (.ref ax), .val (.int pf), .val (.int pl)] []))) (fun t k => castTop (own_ef6 m ax pf pl) k) ?_
  refine own_pre (A := (s₁.setTop (mkF m 1 #[.val (.ref ax), .val (.int pf), .val (.int pl)] [(.ref ax)]))) ?_ ?_
  · intro t k
    refine XS.aloadN X0.here hx rfl (hb hby d6_0) rfl rfl ?_
    exact k
  obtain ⟨T241, X241, e241, st241⟩ := getF X0 hx hZ hown (host := "") (Or.inl (own_w hw 30 rfl)) Via.refl e0 Fc (g := (mkF m 1 #[.val (.ref ax), .val (.int pf), .val (.int pl)] [(.ref ax)])) rfl rfl (hb hby d6_1)
  refine own_pre (fun t k => st241 t k) ?_
  refine own_pre (A := (T241.setTop (mkF m 5 #[.val (.ref ax), .val (.int pf), .val (.int pl)] [(.ref ax), (.int (1 : Int32))]))) ?_ ?_
  · intro t k
    refine XS.aloadN X241.here hx rfl (hb hby d6_4) rfl rfl ?_
    exact k
  obtain ⟨T242, X242, e242, st242⟩ := getF X241 hx hZ hown (host := "") (Or.inl (own_w hw 23 rfl)) Via.refl e241 Fr_ (g := (mkF m 5 #[.val (.ref ax), .val (.int pf), .val (.int pl)] [(.ref ax), (.int (1 : Int32))])) rfl rfl (hb hby d6_5)
  refine own_pre (fun t k => st242 t k) ?_
  refine own_pre (A := (T242.setTop (mkF m 30 #[.val (.ref ax), .val (.int pf), .val (.int pl)] [(.ref ax)]))) ?_ ?_
  · intro t k
    show Steps p.tables e below (T242.setTop (mkF m 8 #[.val (.ref ax), .val (.int pf), .val (.int pl)] [(.ref ar), (.int (1 : Int32))])) _
    obtain ⟨cl243, Ar243, -, S243, N243, -, -⟩ := id Vr
    refine X242.arraylength hx (by rw [e242]; exact Ar243.1) (State.isArrayOf_alike hZ.alike Ar243.2.1) (g := (mkF m 8 #[.val (.ref ax), .val (.int pf), .val (.int pl)] [(.ref ar), (.int (1 : Int32))])) rfl rfl (hb hby d6_8) _ ?_
    rw [len_of S243 N243]
    refine XS.icmpYes X242.here hx rfl (pc0 := 9) (pc' := 29) rfl (hb hby d6_9) rfl (feq (by decide : ¬ ((1 : Int32) = (8 : Int32)))).2 (by decide) (by decide) ?_
    refine XS.aloadN X242.here hx rfl (hb hby d6_29) rfl rfl ?_
    exact k
  obtain ⟨T244, X244, e244, st244⟩ := getF X242 hx hZ hown (host := "") (Or.inl (own_w hw 23 rfl)) Via.refl e242 Fr_ (g := (mkF m 30 #[.val (.ref ax), .val (.int pf), .val (.int pl)] [(.ref ax)])) rfl rfl (hb hby d6_30)
  refine own_pre (fun t k => st244 t k) ?_
  refine own_pre (A := (T244.setTop (mkF m 35 #[.val (.ref ax), .val (.int pf), .val (.int pl)] [(.ref ax), (.ref ax), (.ref ar)]))) ?_ ?_
  · intro t k
    refine XS.aloadN X244.here hx rfl (hb hby d6_33) rfl rfl ?_
    refine XS.dup X244.here hx rfl (hb hby d6_34) rfl rfl ?_
    exact k
  obtain ⟨T245, X245, e245, st245⟩ := getF X244 hx hZ hown (host := "") (Or.inl (own_w hw 30 rfl)) Via.refl e244 Fc (g := (mkF m 35 #[.val (.ref ax), .val (.int pf), .val (.int pl)] [(.ref ax), (.ref ax), (.ref ar)])) rfl rfl (hb hby d6_35)
  refine own_pre (fun t k => st245 t k) ?_
  refine own_pre (A := (T245.setTop (mkF m 41 #[.val (.ref ax), .val (.int pf), .val (.int pl)] [(.int (2 : Int32)), (.ref ax), (.int (1 : Int32)), (.ref ar)]))) ?_ ?_
  · intro t k
    refine XS.dupX1 X245.here hx rfl (hb hby d6_38) rfl rfl rfl ?_
    refine XS.iconst X245.here hx rfl (hb hby d6_39) ?_
    refine XS.iadd X245.here hx rfl (hb hby d6_40) rfl ?_
    show Steps p.tables e below (T245.setTop (mkF m 41 #[.val (.ref ax), .val (.int pf), .val (.int pl)] [(.int ((1 : Int32) + (1 : Int32))), (.ref ax), (.int (1 : Int32)), (.ref ar)])) _
    rw [show ((1 : Int32) + (1 : Int32)) = (2 : Int32) from by decide]
    exact k
  obtain ⟨T246, h246, X246, e246, W246, st246⟩ := putF X245 hx hZ hown (host := "") (Or.inl (own_w hw 30 rfl)) Via.refl e245 Fc Ea (Or.inl (own_w hw 31 rfl)) (own_w hw 14 rfl) (ty := .int) (by decide) rfl rfl (g := (mkF m 41 #[.val (.ref ax), .val (.int pf), .val (.int pl)] [(.int (2 : Int32)), (.ref ax), (.int (1 : Int32)), (.ref ar)])) rfl rfl (hb hby d6_41)
  have Fr__246 := Fr_.other W246 (Or.inr (slot_ne (Or.inl (own_w hw 24 rfl)) (Or.inl (own_w hw 31 rfl)) (by decide) (t := (.array .long)) (t' := .int) (by decide) (by decide)))
  have Vr_246 := Vr.other W246 nar.symm
  have Kc246 : Keep h0 h246 [ax, ar] := (Keep.refl h0 [ax, ar]).wr W246 (Or.inl (List.mem_of_getElem? (i := 0) rfl))
  have N246 := Fr.snoc X246 N0 ga
  have Fw246 := Fc.same W246
  refine own_pre (fun t k => st246 t k) ?_
  refine own_pre (A := (T246.setTop (mkF m 52 #[.val (.ref ax), .val (.int pf), .val (.int pl)] [(.long qw), (.int (1 : Int32)), (.ref ar)]))) ?_ ?_
  · intro t k
    refine XS.iloadN X246.here hx rfl (hb hby d6_44) rfl ?_
    refine XS.i2l X246.here hx rfl (hb hby d6_45) rfl ?_
    refine XS.bipush X246.here hx rfl (hb hby d6_46) ?_
    refine XS.lshl X246.here hx rfl (hb hby d6_48) rfl ?_
    refine XS.iloadN X246.here hx rfl (hb hby d6_49) rfl ?_
    refine XS.i2l X246.here hx rfl (hb hby d6_50) rfl ?_
    refine XS.lor X246.here hx rfl (hb hby d6_51) rfl ?_
    show Steps p.tables e below (T246.setTop (mkF m 52 #[.val (.ref ax), .val (.int pf), .val (.int pl)] [(.long (((pf.toInt64) <<< ((32 : Int32) &&& 0x3f).toInt64) ||| (pl.toInt64))), (.int (1 : Int32)), (.ref ar)])) _
    rw [← hq]
    exact k
  obtain ⟨cl247, Ar247, q247, S247, N247, H247, G247⟩ := Vr_246
  have hin247 : ¬ ((1 : Int32) < 0 ∨ cl247.slots.size ≤ ((1 : Int32)).toNatClampNeg) := inb_of S247 ⟨by decide, by decide⟩
  obtain ⟨T247, h247, X247, e247, W247, st247⟩ := stJ X246 hx hZ e246 Ar247 (j := (1 : Int32)) hin247 (g := (mkF m 52 #[.val (.ref ax), .val (.int pf), .val (.int pl)] [(.long qw), (.int (1 : Int32)), (.ref ar)])) rfl rfl (hb hby d6_52)
  have V247 : Arv Z h247 ar kr .long (8 : Int32) [(.long u0), (.long qw), (.long u2), (.long u3), (.long u4), (.long u5), (.long u6), (.long u7)] (.long (0 : Int64)) := Arv.set Ar247 q247 S247 N247 H247 G247 rfl W247 1 rfl (Nat.le_of_ble_eq_true rfl)
  have Fr__247 := Fr__246.other W247 (Or.inl nar)
  have Fw246_247 := Fw246.other W247 (Or.inl nar)
  have Kc247 : Keep h0 h247 [ax, ar] := Kc246.wr W247 (Or.inl (List.mem_of_getElem? (i := 1) rfl))
  have N247 := Fr.snoc X247 N246 gr
  refine own_pre (fun t k => st247 t k) ?_
  obtain ⟨fs, hr, hrun, hended, hW, hsame⟩ := X247.leave (hlocks := BodyLoose.notSynchronized Bd) (v := none) (fun _ => rfl)
  refine ⟨_, _, X247.returnOut hx Bd.returns (hb hby d6_53) hr, hrun, hended, _, _, rfl, ?_, ⟨_, rfl⟩, hW, hsame.mono (by decide) (by decide)⟩
  show own_Q6_1 Z ax pf pl ar kr u0 u1 u2 u3 u4 u5 u6 u7 qw h0 n0 _ T247.heap _
  rw [e247]
  exact ⟨rfl, N247, Kc247, Fr__247, Fw246_247, V247⟩
def own_Q6_2 (Z : State) (ax : Addr) (pf : Int32) (pl : Int32) (ar : Addr) (kr : ClassId) (u0 : Int64) (u1 : Int64) (u2 : Int64) (u3 : Int64) (u4 : Int64) (u5 : Int64) (u6 : Int64) (u7 : Int64) (qw : Int64) (h0 : Heap) (n0 : Nat) (v : Option Value) (h : Heap) (L : List Loc) : Prop := v = none ∧ Fr n0 L ∧ Keep h0 h [ax, ar] ∧ Fld Z h ax "com/example/otito/otito/chain/CodePointSet$Builder" "ranges" "[J" (.ref ar) ∧ Fld Z h ax "com/example/otito/otito/chain/CodePointSet$Builder" "count" "I" (.int (3 : Int32)) ∧ Arv Z h ar kr .long (8 : Int32) [(.long u0), (.long u1), (.long qw), (.long u3), (.long u4), (.long u5), (.long u6), (.long u7)] (.long (0 : Int64))
set_option maxRecDepth 65536 in
set_option maxHeartbeats 40000000 in
theorem rm6_2 (l : Launch) (Z : State) (a0 : Array Value) (hw : ∀ d ∈ tables_1, d.before a0 Z = true) (ws : List Jvm.Cond) (ax : Addr) (pf : Int32) (pl : Int32) (ar : Addr) (kr : ClassId) (u0 : Int64) (u1 : Int64) (u2 : Int64) (u3 : Int64) (u4 : Int64) (u5 : Int64) (u6 : Int64) (u7 : Int64) (qw : Int64) (h0 : Heap) (n0 : Nat) (Z0 : n0 ≤ h0.size) (Ea : Exa Z h0 ax "com/example/otito/otito/chain/CodePointSet$Builder") (Fr_ : Fld Z h0 ax "com/example/otito/otito/chain/CodePointSet$Builder" "ranges" "[J" (.ref ar)) (Fc : Fld Z h0 ax "com/example/otito/otito/chain/CodePointSet$Builder" "count" "I" (.int (2 : Int32))) (Vr : Arv Z h0 ar kr .long (8 : Int32) [(.long u0), (.long u1), (.long u2), (.long u3), (.long u4), (.long u5), (.long u6), (.long u7)] (.long (0 : Int64))) (Er : Exa Z h0 ar "[J") (nar : ax ≠ ar) (ga : n0 ≤ ax) (gr : n0 ≤ ar) (hq : qw = (((pf.toInt64) <<< ((32 : Int32) &&& 0x3f).toInt64) ||| (pl.toInt64))) :
    MetFree l (⟨"com/example/otito/otito/chain/CodePointSet$Builder", "add", "(II)V"⟩ : MethodName) (head1 (Jvm.Cond.code (⟨"com/example/otito/otito/chain/CodePointSet$Builder", "add", "(II)V"⟩ : MethodName) prog_6_method_2_code 3 none :: ws) ({ frames := 0, cells := 0, slots := 0, locals := 0 } : Room)) (fun a U => a = #[(.ref ax), (.int pf), (.int pl)] ∧ Z.Warmed39 U.vm ∧ U.heap = h0) (fun _ _ _ _ _ => True) (fun _ U o U' => ∃ v L, o = .returned v ∧ own_Q6_2 Z ax pf pl ar kr u0 u1 u2 u3 u4 u5 u6 u7 qw h0 n0 v U'.heap L ∧ FrameEnd U o U' L ({ frames := 0, cells := 0, slots := 0, locals := 0 } : Room).cells ({ frames := 0, cells := 0, slots := 0, locals := 0 } : Room).slots) := by
  refine MetFree.of_bodySF (plainFor_of_name own_pn6) hisR ?_
  intro p e s m args below meth c s₁ Bd hml0 hP hK
  obtain ⟨rfl, hZ, hh⟩ := hP
  have hx := Bd.exec
  have hby := Bd.bytes
  have hml : c.maxLocals = 3 := hml0
  have hown : s.vm.findClass "com/example/otito/otito/chain/CodePointSet$Builder" = some m.cls := findClass_of_methodNamed Bd.named
  have hnm := (name_of_methodNamed Bd.named Bd.method).1
  have X0 : Stand p l e ({ frames := 0, cells := 0, slots := 0, locals := 0 } : Room) s m #[(.ref ax), (.int pf), (.int pl)] below meth c s₁ [] 0 0 := Stand.of_body Bd
  have e0 : s₁.heap = h0 := by rw [← hh, Bd.state]; rfl
  have N0 := Fr.nil n0
  refine own_pre (A := (s₁.setTop (mkF m 0 #[.val (.ref ax), .val (.int pf), .val (.int pl)] []))) (fun t k => castTop (own_ef6 m ax pf pl) k) ?_
  refine own_pre (A := (s₁.setTop (mkF m 1 #[.val (.ref ax), .val (.int pf), .val (.int pl)] [(.ref ax)]))) ?_ ?_
  · intro t k
    refine XS.aloadN X0.here hx rfl (hb hby d6_0) rfl rfl ?_
    exact k
  obtain ⟨T248, X248, e248, st248⟩ := getF X0 hx hZ hown (host := "") (Or.inl (own_w hw 30 rfl)) Via.refl e0 Fc (g := (mkF m 1 #[.val (.ref ax), .val (.int pf), .val (.int pl)] [(.ref ax)])) rfl rfl (hb hby d6_1)
  refine own_pre (fun t k => st248 t k) ?_
  refine own_pre (A := (T248.setTop (mkF m 5 #[.val (.ref ax), .val (.int pf), .val (.int pl)] [(.ref ax), (.int (2 : Int32))]))) ?_ ?_
  · intro t k
    refine XS.aloadN X248.here hx rfl (hb hby d6_4) rfl rfl ?_
    exact k
  obtain ⟨T249, X249, e249, st249⟩ := getF X248 hx hZ hown (host := "") (Or.inl (own_w hw 23 rfl)) Via.refl e248 Fr_ (g := (mkF m 5 #[.val (.ref ax), .val (.int pf), .val (.int pl)] [(.ref ax), (.int (2 : Int32))])) rfl rfl (hb hby d6_5)
  refine own_pre (fun t k => st249 t k) ?_
  refine own_pre (A := (T249.setTop (mkF m 30 #[.val (.ref ax), .val (.int pf), .val (.int pl)] [(.ref ax)]))) ?_ ?_
  · intro t k
    show Steps p.tables e below (T249.setTop (mkF m 8 #[.val (.ref ax), .val (.int pf), .val (.int pl)] [(.ref ar), (.int (2 : Int32))])) _
    obtain ⟨cl250, Ar250, -, S250, N250, -, -⟩ := id Vr
    refine X249.arraylength hx (by rw [e249]; exact Ar250.1) (State.isArrayOf_alike hZ.alike Ar250.2.1) (g := (mkF m 8 #[.val (.ref ax), .val (.int pf), .val (.int pl)] [(.ref ar), (.int (2 : Int32))])) rfl rfl (hb hby d6_8) _ ?_
    rw [len_of S250 N250]
    refine XS.icmpYes X249.here hx rfl (pc0 := 9) (pc' := 29) rfl (hb hby d6_9) rfl (feq (by decide : ¬ ((2 : Int32) = (8 : Int32)))).2 (by decide) (by decide) ?_
    refine XS.aloadN X249.here hx rfl (hb hby d6_29) rfl rfl ?_
    exact k
  obtain ⟨T251, X251, e251, st251⟩ := getF X249 hx hZ hown (host := "") (Or.inl (own_w hw 23 rfl)) Via.refl e249 Fr_ (g := (mkF m 30 #[.val (.ref ax), .val (.int pf), .val (.int pl)] [(.ref ax)])) rfl rfl (hb hby d6_30)
  refine own_pre (fun t k => st251 t k) ?_
  refine own_pre (A := (T251.setTop (mkF m 35 #[.val (.ref ax), .val (.int pf), .val (.int pl)] [(.ref ax), (.ref ax), (.ref ar)]))) ?_ ?_
  · intro t k
    refine XS.aloadN X251.here hx rfl (hb hby d6_33) rfl rfl ?_
    refine XS.dup X251.here hx rfl (hb hby d6_34) rfl rfl ?_
    exact k
  obtain ⟨T252, X252, e252, st252⟩ := getF X251 hx hZ hown (host := "") (Or.inl (own_w hw 30 rfl)) Via.refl e251 Fc (g := (mkF m 35 #[.val (.ref ax), .val (.int pf), .val (.int pl)] [(.ref ax), (.ref ax), (.ref ar)])) rfl rfl (hb hby d6_35)
  refine own_pre (fun t k => st252 t k) ?_
  refine own_pre (A := (T252.setTop (mkF m 41 #[.val (.ref ax), .val (.int pf), .val (.int pl)] [(.int (3 : Int32)), (.ref ax), (.int (2 : Int32)), (.ref ar)]))) ?_ ?_
  · intro t k
    refine XS.dupX1 X252.here hx rfl (hb hby d6_38) rfl rfl rfl ?_
    refine XS.iconst X252.here hx rfl (hb hby d6_39) ?_
    refine XS.iadd X252.here hx rfl (hb hby d6_40) rfl ?_
    show Steps p.tables e below (T252.setTop (mkF m 41 #[.val (.ref ax), .val (.int pf), .val (.int pl)] [(.int ((2 : Int32) + (1 : Int32))), (.ref ax), (.int (2 : Int32)), (.ref ar)])) _
    rw [show ((2 : Int32) + (1 : Int32)) = (3 : Int32) from by decide]
    exact k
  obtain ⟨T253, h253, X253, e253, W253, st253⟩ := putF X252 hx hZ hown (host := "") (Or.inl (own_w hw 30 rfl)) Via.refl e252 Fc Ea (Or.inl (own_w hw 31 rfl)) (own_w hw 14 rfl) (ty := .int) (by decide) rfl rfl (g := (mkF m 41 #[.val (.ref ax), .val (.int pf), .val (.int pl)] [(.int (3 : Int32)), (.ref ax), (.int (2 : Int32)), (.ref ar)])) rfl rfl (hb hby d6_41)
  have Fr__253 := Fr_.other W253 (Or.inr (slot_ne (Or.inl (own_w hw 24 rfl)) (Or.inl (own_w hw 31 rfl)) (by decide) (t := (.array .long)) (t' := .int) (by decide) (by decide)))
  have Vr_253 := Vr.other W253 nar.symm
  have Kc253 : Keep h0 h253 [ax, ar] := (Keep.refl h0 [ax, ar]).wr W253 (Or.inl (List.mem_of_getElem? (i := 0) rfl))
  have N253 := Fr.snoc X253 N0 ga
  have Fw253 := Fc.same W253
  refine own_pre (fun t k => st253 t k) ?_
  refine own_pre (A := (T253.setTop (mkF m 52 #[.val (.ref ax), .val (.int pf), .val (.int pl)] [(.long qw), (.int (2 : Int32)), (.ref ar)]))) ?_ ?_
  · intro t k
    refine XS.iloadN X253.here hx rfl (hb hby d6_44) rfl ?_
    refine XS.i2l X253.here hx rfl (hb hby d6_45) rfl ?_
    refine XS.bipush X253.here hx rfl (hb hby d6_46) ?_
    refine XS.lshl X253.here hx rfl (hb hby d6_48) rfl ?_
    refine XS.iloadN X253.here hx rfl (hb hby d6_49) rfl ?_
    refine XS.i2l X253.here hx rfl (hb hby d6_50) rfl ?_
    refine XS.lor X253.here hx rfl (hb hby d6_51) rfl ?_
    show Steps p.tables e below (T253.setTop (mkF m 52 #[.val (.ref ax), .val (.int pf), .val (.int pl)] [(.long (((pf.toInt64) <<< ((32 : Int32) &&& 0x3f).toInt64) ||| (pl.toInt64))), (.int (2 : Int32)), (.ref ar)])) _
    rw [← hq]
    exact k
  obtain ⟨cl254, Ar254, q254, S254, N254, H254, G254⟩ := Vr_253
  have hin254 : ¬ ((2 : Int32) < 0 ∨ cl254.slots.size ≤ ((2 : Int32)).toNatClampNeg) := inb_of S254 ⟨by decide, by decide⟩
  obtain ⟨T254, h254, X254, e254, W254, st254⟩ := stJ X253 hx hZ e253 Ar254 (j := (2 : Int32)) hin254 (g := (mkF m 52 #[.val (.ref ax), .val (.int pf), .val (.int pl)] [(.long qw), (.int (2 : Int32)), (.ref ar)])) rfl rfl (hb hby d6_52)
  have V254 : Arv Z h254 ar kr .long (8 : Int32) [(.long u0), (.long u1), (.long qw), (.long u3), (.long u4), (.long u5), (.long u6), (.long u7)] (.long (0 : Int64)) := Arv.set Ar254 q254 S254 N254 H254 G254 rfl W254 2 rfl (Nat.le_of_ble_eq_true rfl)
  have Fr__254 := Fr__253.other W254 (Or.inl nar)
  have Fw253_254 := Fw253.other W254 (Or.inl nar)
  have Kc254 : Keep h0 h254 [ax, ar] := Kc253.wr W254 (Or.inl (List.mem_of_getElem? (i := 1) rfl))
  have N254 := Fr.snoc X254 N253 gr
  refine own_pre (fun t k => st254 t k) ?_
  obtain ⟨fs, hr, hrun, hended, hW, hsame⟩ := X254.leave (hlocks := BodyLoose.notSynchronized Bd) (v := none) (fun _ => rfl)
  refine ⟨_, _, X254.returnOut hx Bd.returns (hb hby d6_53) hr, hrun, hended, _, _, rfl, ?_, ⟨_, rfl⟩, hW, hsame.mono (by decide) (by decide)⟩
  show own_Q6_2 Z ax pf pl ar kr u0 u1 u2 u3 u4 u5 u6 u7 qw h0 n0 _ T254.heap _
  rw [e254]
  exact ⟨rfl, N254, Kc254, Fr__254, Fw253_254, V254⟩
def own_Q6_3 (Z : State) (ax : Addr) (pf : Int32) (pl : Int32) (ar : Addr) (kr : ClassId) (u0 : Int64) (u1 : Int64) (u2 : Int64) (u3 : Int64) (u4 : Int64) (u5 : Int64) (u6 : Int64) (u7 : Int64) (qw : Int64) (h0 : Heap) (n0 : Nat) (v : Option Value) (h : Heap) (L : List Loc) : Prop := v = none ∧ Fr n0 L ∧ Keep h0 h [ax, ar] ∧ Fld Z h ax "com/example/otito/otito/chain/CodePointSet$Builder" "ranges" "[J" (.ref ar) ∧ Fld Z h ax "com/example/otito/otito/chain/CodePointSet$Builder" "count" "I" (.int (4 : Int32)) ∧ Arv Z h ar kr .long (8 : Int32) [(.long u0), (.long u1), (.long u2), (.long qw), (.long u4), (.long u5), (.long u6), (.long u7)] (.long (0 : Int64))
set_option maxRecDepth 65536 in
set_option maxHeartbeats 40000000 in
theorem rm6_3 (l : Launch) (Z : State) (a0 : Array Value) (hw : ∀ d ∈ tables_1, d.before a0 Z = true) (ws : List Jvm.Cond) (ax : Addr) (pf : Int32) (pl : Int32) (ar : Addr) (kr : ClassId) (u0 : Int64) (u1 : Int64) (u2 : Int64) (u3 : Int64) (u4 : Int64) (u5 : Int64) (u6 : Int64) (u7 : Int64) (qw : Int64) (h0 : Heap) (n0 : Nat) (Z0 : n0 ≤ h0.size) (Ea : Exa Z h0 ax "com/example/otito/otito/chain/CodePointSet$Builder") (Fr_ : Fld Z h0 ax "com/example/otito/otito/chain/CodePointSet$Builder" "ranges" "[J" (.ref ar)) (Fc : Fld Z h0 ax "com/example/otito/otito/chain/CodePointSet$Builder" "count" "I" (.int (3 : Int32))) (Vr : Arv Z h0 ar kr .long (8 : Int32) [(.long u0), (.long u1), (.long u2), (.long u3), (.long u4), (.long u5), (.long u6), (.long u7)] (.long (0 : Int64))) (Er : Exa Z h0 ar "[J") (nar : ax ≠ ar) (ga : n0 ≤ ax) (gr : n0 ≤ ar) (hq : qw = (((pf.toInt64) <<< ((32 : Int32) &&& 0x3f).toInt64) ||| (pl.toInt64))) :
    MetFree l (⟨"com/example/otito/otito/chain/CodePointSet$Builder", "add", "(II)V"⟩ : MethodName) (head1 (Jvm.Cond.code (⟨"com/example/otito/otito/chain/CodePointSet$Builder", "add", "(II)V"⟩ : MethodName) prog_6_method_2_code 3 none :: ws) ({ frames := 0, cells := 0, slots := 0, locals := 0 } : Room)) (fun a U => a = #[(.ref ax), (.int pf), (.int pl)] ∧ Z.Warmed39 U.vm ∧ U.heap = h0) (fun _ _ _ _ _ => True) (fun _ U o U' => ∃ v L, o = .returned v ∧ own_Q6_3 Z ax pf pl ar kr u0 u1 u2 u3 u4 u5 u6 u7 qw h0 n0 v U'.heap L ∧ FrameEnd U o U' L ({ frames := 0, cells := 0, slots := 0, locals := 0 } : Room).cells ({ frames := 0, cells := 0, slots := 0, locals := 0 } : Room).slots) := by
  refine MetFree.of_bodySF (plainFor_of_name own_pn6) hisR ?_
  intro p e s m args below meth c s₁ Bd hml0 hP hK
  obtain ⟨rfl, hZ, hh⟩ := hP
  have hx := Bd.exec
  have hby := Bd.bytes
  have hml : c.maxLocals = 3 := hml0
  have hown : s.vm.findClass "com/example/otito/otito/chain/CodePointSet$Builder" = some m.cls := findClass_of_methodNamed Bd.named
  have hnm := (name_of_methodNamed Bd.named Bd.method).1
  have X0 : Stand p l e ({ frames := 0, cells := 0, slots := 0, locals := 0 } : Room) s m #[(.ref ax), (.int pf), (.int pl)] below meth c s₁ [] 0 0 := Stand.of_body Bd
  have e0 : s₁.heap = h0 := by rw [← hh, Bd.state]; rfl
  have N0 := Fr.nil n0
  refine own_pre (A := (s₁.setTop (mkF m 0 #[.val (.ref ax), .val (.int pf), .val (.int pl)] []))) (fun t k => castTop (own_ef6 m ax pf pl) k) ?_
  refine own_pre (A := (s₁.setTop (mkF m 1 #[.val (.ref ax), .val (.int pf), .val (.int pl)] [(.ref ax)]))) ?_ ?_
  · intro t k
    refine XS.aloadN X0.here hx rfl (hb hby d6_0) rfl rfl ?_
    exact k
  obtain ⟨T255, X255, e255, st255⟩ := getF X0 hx hZ hown (host := "") (Or.inl (own_w hw 30 rfl)) Via.refl e0 Fc (g := (mkF m 1 #[.val (.ref ax), .val (.int pf), .val (.int pl)] [(.ref ax)])) rfl rfl (hb hby d6_1)
  refine own_pre (fun t k => st255 t k) ?_
  refine own_pre (A := (T255.setTop (mkF m 5 #[.val (.ref ax), .val (.int pf), .val (.int pl)] [(.ref ax), (.int (3 : Int32))]))) ?_ ?_
  · intro t k
    refine XS.aloadN X255.here hx rfl (hb hby d6_4) rfl rfl ?_
    exact k
  obtain ⟨T256, X256, e256, st256⟩ := getF X255 hx hZ hown (host := "") (Or.inl (own_w hw 23 rfl)) Via.refl e255 Fr_ (g := (mkF m 5 #[.val (.ref ax), .val (.int pf), .val (.int pl)] [(.ref ax), (.int (3 : Int32))])) rfl rfl (hb hby d6_5)
  refine own_pre (fun t k => st256 t k) ?_
  refine own_pre (A := (T256.setTop (mkF m 30 #[.val (.ref ax), .val (.int pf), .val (.int pl)] [(.ref ax)]))) ?_ ?_
  · intro t k
    show Steps p.tables e below (T256.setTop (mkF m 8 #[.val (.ref ax), .val (.int pf), .val (.int pl)] [(.ref ar), (.int (3 : Int32))])) _
    obtain ⟨cl257, Ar257, -, S257, N257, -, -⟩ := id Vr
    refine X256.arraylength hx (by rw [e256]; exact Ar257.1) (State.isArrayOf_alike hZ.alike Ar257.2.1) (g := (mkF m 8 #[.val (.ref ax), .val (.int pf), .val (.int pl)] [(.ref ar), (.int (3 : Int32))])) rfl rfl (hb hby d6_8) _ ?_
    rw [len_of S257 N257]
    refine XS.icmpYes X256.here hx rfl (pc0 := 9) (pc' := 29) rfl (hb hby d6_9) rfl (feq (by decide : ¬ ((3 : Int32) = (8 : Int32)))).2 (by decide) (by decide) ?_
    refine XS.aloadN X256.here hx rfl (hb hby d6_29) rfl rfl ?_
    exact k
  obtain ⟨T258, X258, e258, st258⟩ := getF X256 hx hZ hown (host := "") (Or.inl (own_w hw 23 rfl)) Via.refl e256 Fr_ (g := (mkF m 30 #[.val (.ref ax), .val (.int pf), .val (.int pl)] [(.ref ax)])) rfl rfl (hb hby d6_30)
  refine own_pre (fun t k => st258 t k) ?_
  refine own_pre (A := (T258.setTop (mkF m 35 #[.val (.ref ax), .val (.int pf), .val (.int pl)] [(.ref ax), (.ref ax), (.ref ar)]))) ?_ ?_
  · intro t k
    refine XS.aloadN X258.here hx rfl (hb hby d6_33) rfl rfl ?_
    refine XS.dup X258.here hx rfl (hb hby d6_34) rfl rfl ?_
    exact k
  obtain ⟨T259, X259, e259, st259⟩ := getF X258 hx hZ hown (host := "") (Or.inl (own_w hw 30 rfl)) Via.refl e258 Fc (g := (mkF m 35 #[.val (.ref ax), .val (.int pf), .val (.int pl)] [(.ref ax), (.ref ax), (.ref ar)])) rfl rfl (hb hby d6_35)
  refine own_pre (fun t k => st259 t k) ?_
  refine own_pre (A := (T259.setTop (mkF m 41 #[.val (.ref ax), .val (.int pf), .val (.int pl)] [(.int (4 : Int32)), (.ref ax), (.int (3 : Int32)), (.ref ar)]))) ?_ ?_
  · intro t k
    refine XS.dupX1 X259.here hx rfl (hb hby d6_38) rfl rfl rfl ?_
    refine XS.iconst X259.here hx rfl (hb hby d6_39) ?_
    refine XS.iadd X259.here hx rfl (hb hby d6_40) rfl ?_
    show Steps p.tables e below (T259.setTop (mkF m 41 #[.val (.ref ax), .val (.int pf), .val (.int pl)] [(.int ((3 : Int32) + (1 : Int32))), (.ref ax), (.int (3 : Int32)), (.ref ar)])) _
    rw [show ((3 : Int32) + (1 : Int32)) = (4 : Int32) from by decide]
    exact k
  obtain ⟨T260, h260, X260, e260, W260, st260⟩ := putF X259 hx hZ hown (host := "") (Or.inl (own_w hw 30 rfl)) Via.refl e259 Fc Ea (Or.inl (own_w hw 31 rfl)) (own_w hw 14 rfl) (ty := .int) (by decide) rfl rfl (g := (mkF m 41 #[.val (.ref ax), .val (.int pf), .val (.int pl)] [(.int (4 : Int32)), (.ref ax), (.int (3 : Int32)), (.ref ar)])) rfl rfl (hb hby d6_41)
  have Fr__260 := Fr_.other W260 (Or.inr (slot_ne (Or.inl (own_w hw 24 rfl)) (Or.inl (own_w hw 31 rfl)) (by decide) (t := (.array .long)) (t' := .int) (by decide) (by decide)))
  have Vr_260 := Vr.other W260 nar.symm
  have Kc260 : Keep h0 h260 [ax, ar] := (Keep.refl h0 [ax, ar]).wr W260 (Or.inl (List.mem_of_getElem? (i := 0) rfl))
  have N260 := Fr.snoc X260 N0 ga
  have Fw260 := Fc.same W260
  refine own_pre (fun t k => st260 t k) ?_
  refine own_pre (A := (T260.setTop (mkF m 52 #[.val (.ref ax), .val (.int pf), .val (.int pl)] [(.long qw), (.int (3 : Int32)), (.ref ar)]))) ?_ ?_
  · intro t k
    refine XS.iloadN X260.here hx rfl (hb hby d6_44) rfl ?_
    refine XS.i2l X260.here hx rfl (hb hby d6_45) rfl ?_
    refine XS.bipush X260.here hx rfl (hb hby d6_46) ?_
    refine XS.lshl X260.here hx rfl (hb hby d6_48) rfl ?_
    refine XS.iloadN X260.here hx rfl (hb hby d6_49) rfl ?_
    refine XS.i2l X260.here hx rfl (hb hby d6_50) rfl ?_
    refine XS.lor X260.here hx rfl (hb hby d6_51) rfl ?_
    show Steps p.tables e below (T260.setTop (mkF m 52 #[.val (.ref ax), .val (.int pf), .val (.int pl)] [(.long (((pf.toInt64) <<< ((32 : Int32) &&& 0x3f).toInt64) ||| (pl.toInt64))), (.int (3 : Int32)), (.ref ar)])) _
    rw [← hq]
    exact k
  obtain ⟨cl261, Ar261, q261, S261, N261, H261, G261⟩ := Vr_260
  have hin261 : ¬ ((3 : Int32) < 0 ∨ cl261.slots.size ≤ ((3 : Int32)).toNatClampNeg) := inb_of S261 ⟨by decide, by decide⟩
  obtain ⟨T261, h261, X261, e261, W261, st261⟩ := stJ X260 hx hZ e260 Ar261 (j := (3 : Int32)) hin261 (g := (mkF m 52 #[.val (.ref ax), .val (.int pf), .val (.int pl)] [(.long qw), (.int (3 : Int32)), (.ref ar)])) rfl rfl (hb hby d6_52)
  have V261 : Arv Z h261 ar kr .long (8 : Int32) [(.long u0), (.long u1), (.long u2), (.long qw), (.long u4), (.long u5), (.long u6), (.long u7)] (.long (0 : Int64)) := Arv.set Ar261 q261 S261 N261 H261 G261 rfl W261 3 rfl (Nat.le_of_ble_eq_true rfl)
  have Fr__261 := Fr__260.other W261 (Or.inl nar)
  have Fw260_261 := Fw260.other W261 (Or.inl nar)
  have Kc261 : Keep h0 h261 [ax, ar] := Kc260.wr W261 (Or.inl (List.mem_of_getElem? (i := 1) rfl))
  have N261 := Fr.snoc X261 N260 gr
  refine own_pre (fun t k => st261 t k) ?_
  obtain ⟨fs, hr, hrun, hended, hW, hsame⟩ := X261.leave (hlocks := BodyLoose.notSynchronized Bd) (v := none) (fun _ => rfl)
  refine ⟨_, _, X261.returnOut hx Bd.returns (hb hby d6_53) hr, hrun, hended, _, _, rfl, ?_, ⟨_, rfl⟩, hW, hsame.mono (by decide) (by decide)⟩
  show own_Q6_3 Z ax pf pl ar kr u0 u1 u2 u3 u4 u5 u6 u7 qw h0 n0 _ T261.heap _
  rw [e261]
  exact ⟨rfl, N261, Kc261, Fr__261, Fw260_261, V261⟩
def own_Q6_4 (Z : State) (ax : Addr) (pf : Int32) (pl : Int32) (ar : Addr) (kr : ClassId) (u0 : Int64) (u1 : Int64) (u2 : Int64) (u3 : Int64) (u4 : Int64) (u5 : Int64) (u6 : Int64) (u7 : Int64) (qw : Int64) (h0 : Heap) (n0 : Nat) (v : Option Value) (h : Heap) (L : List Loc) : Prop := v = none ∧ Fr n0 L ∧ Keep h0 h [ax, ar] ∧ Fld Z h ax "com/example/otito/otito/chain/CodePointSet$Builder" "ranges" "[J" (.ref ar) ∧ Fld Z h ax "com/example/otito/otito/chain/CodePointSet$Builder" "count" "I" (.int (5 : Int32)) ∧ Arv Z h ar kr .long (8 : Int32) [(.long u0), (.long u1), (.long u2), (.long u3), (.long qw), (.long u5), (.long u6), (.long u7)] (.long (0 : Int64))
set_option maxRecDepth 65536 in
set_option maxHeartbeats 40000000 in
theorem rm6_4 (l : Launch) (Z : State) (a0 : Array Value) (hw : ∀ d ∈ tables_1, d.before a0 Z = true) (ws : List Jvm.Cond) (ax : Addr) (pf : Int32) (pl : Int32) (ar : Addr) (kr : ClassId) (u0 : Int64) (u1 : Int64) (u2 : Int64) (u3 : Int64) (u4 : Int64) (u5 : Int64) (u6 : Int64) (u7 : Int64) (qw : Int64) (h0 : Heap) (n0 : Nat) (Z0 : n0 ≤ h0.size) (Ea : Exa Z h0 ax "com/example/otito/otito/chain/CodePointSet$Builder") (Fr_ : Fld Z h0 ax "com/example/otito/otito/chain/CodePointSet$Builder" "ranges" "[J" (.ref ar)) (Fc : Fld Z h0 ax "com/example/otito/otito/chain/CodePointSet$Builder" "count" "I" (.int (4 : Int32))) (Vr : Arv Z h0 ar kr .long (8 : Int32) [(.long u0), (.long u1), (.long u2), (.long u3), (.long u4), (.long u5), (.long u6), (.long u7)] (.long (0 : Int64))) (Er : Exa Z h0 ar "[J") (nar : ax ≠ ar) (ga : n0 ≤ ax) (gr : n0 ≤ ar) (hq : qw = (((pf.toInt64) <<< ((32 : Int32) &&& 0x3f).toInt64) ||| (pl.toInt64))) :
    MetFree l (⟨"com/example/otito/otito/chain/CodePointSet$Builder", "add", "(II)V"⟩ : MethodName) (head1 (Jvm.Cond.code (⟨"com/example/otito/otito/chain/CodePointSet$Builder", "add", "(II)V"⟩ : MethodName) prog_6_method_2_code 3 none :: ws) ({ frames := 0, cells := 0, slots := 0, locals := 0 } : Room)) (fun a U => a = #[(.ref ax), (.int pf), (.int pl)] ∧ Z.Warmed39 U.vm ∧ U.heap = h0) (fun _ _ _ _ _ => True) (fun _ U o U' => ∃ v L, o = .returned v ∧ own_Q6_4 Z ax pf pl ar kr u0 u1 u2 u3 u4 u5 u6 u7 qw h0 n0 v U'.heap L ∧ FrameEnd U o U' L ({ frames := 0, cells := 0, slots := 0, locals := 0 } : Room).cells ({ frames := 0, cells := 0, slots := 0, locals := 0 } : Room).slots) := by
  refine MetFree.of_bodySF (plainFor_of_name own_pn6) hisR ?_
  intro p e s m args below meth c s₁ Bd hml0 hP hK
  obtain ⟨rfl, hZ, hh⟩ := hP
  have hx := Bd.exec
  have hby := Bd.bytes
  have hml : c.maxLocals = 3 := hml0
  have hown : s.vm.findClass "com/example/otito/otito/chain/CodePointSet$Builder" = some m.cls := findClass_of_methodNamed Bd.named
  have hnm := (name_of_methodNamed Bd.named Bd.method).1
  have X0 : Stand p l e ({ frames := 0, cells := 0, slots := 0, locals := 0 } : Room) s m #[(.ref ax), (.int pf), (.int pl)] below meth c s₁ [] 0 0 := Stand.of_body Bd
  have e0 : s₁.heap = h0 := by rw [← hh, Bd.state]; rfl
  have N0 := Fr.nil n0
  refine own_pre (A := (s₁.setTop (mkF m 0 #[.val (.ref ax), .val (.int pf), .val (.int pl)] []))) (fun t k => castTop (own_ef6 m ax pf pl) k) ?_
  refine own_pre (A := (s₁.setTop (mkF m 1 #[.val (.ref ax), .val (.int pf), .val (.int pl)] [(.ref ax)]))) ?_ ?_
  · intro t k
    refine XS.aloadN X0.here hx rfl (hb hby d6_0) rfl rfl ?_
    exact k
  obtain ⟨T262, X262, e262, st262⟩ := getF X0 hx hZ hown (host := "") (Or.inl (own_w hw 30 rfl)) Via.refl e0 Fc (g := (mkF m 1 #[.val (.ref ax), .val (.int pf), .val (.int pl)] [(.ref ax)])) rfl rfl (hb hby d6_1)
  refine own_pre (fun t k => st262 t k) ?_
  refine own_pre (A := (T262.setTop (mkF m 5 #[.val (.ref ax), .val (.int pf), .val (.int pl)] [(.ref ax), (.int (4 : Int32))]))) ?_ ?_
  · intro t k
    refine XS.aloadN X262.here hx rfl (hb hby d6_4) rfl rfl ?_
    exact k
  obtain ⟨T263, X263, e263, st263⟩ := getF X262 hx hZ hown (host := "") (Or.inl (own_w hw 23 rfl)) Via.refl e262 Fr_ (g := (mkF m 5 #[.val (.ref ax), .val (.int pf), .val (.int pl)] [(.ref ax), (.int (4 : Int32))])) rfl rfl (hb hby d6_5)
  refine own_pre (fun t k => st263 t k) ?_
  refine own_pre (A := (T263.setTop (mkF m 30 #[.val (.ref ax), .val (.int pf), .val (.int pl)] [(.ref ax)]))) ?_ ?_
  · intro t k
    show Steps p.tables e below (T263.setTop (mkF m 8 #[.val (.ref ax), .val (.int pf), .val (.int pl)] [(.ref ar), (.int (4 : Int32))])) _
    obtain ⟨cl264, Ar264, -, S264, N264, -, -⟩ := id Vr
    refine X263.arraylength hx (by rw [e263]; exact Ar264.1) (State.isArrayOf_alike hZ.alike Ar264.2.1) (g := (mkF m 8 #[.val (.ref ax), .val (.int pf), .val (.int pl)] [(.ref ar), (.int (4 : Int32))])) rfl rfl (hb hby d6_8) _ ?_
    rw [len_of S264 N264]
    refine XS.icmpYes X263.here hx rfl (pc0 := 9) (pc' := 29) rfl (hb hby d6_9) rfl (feq (by decide : ¬ ((4 : Int32) = (8 : Int32)))).2 (by decide) (by decide) ?_
    refine XS.aloadN X263.here hx rfl (hb hby d6_29) rfl rfl ?_
    exact k
  obtain ⟨T265, X265, e265, st265⟩ := getF X263 hx hZ hown (host := "") (Or.inl (own_w hw 23 rfl)) Via.refl e263 Fr_ (g := (mkF m 30 #[.val (.ref ax), .val (.int pf), .val (.int pl)] [(.ref ax)])) rfl rfl (hb hby d6_30)
  refine own_pre (fun t k => st265 t k) ?_
  refine own_pre (A := (T265.setTop (mkF m 35 #[.val (.ref ax), .val (.int pf), .val (.int pl)] [(.ref ax), (.ref ax), (.ref ar)]))) ?_ ?_
  · intro t k
    refine XS.aloadN X265.here hx rfl (hb hby d6_33) rfl rfl ?_
    refine XS.dup X265.here hx rfl (hb hby d6_34) rfl rfl ?_
    exact k
  obtain ⟨T266, X266, e266, st266⟩ := getF X265 hx hZ hown (host := "") (Or.inl (own_w hw 30 rfl)) Via.refl e265 Fc (g := (mkF m 35 #[.val (.ref ax), .val (.int pf), .val (.int pl)] [(.ref ax), (.ref ax), (.ref ar)])) rfl rfl (hb hby d6_35)
  refine own_pre (fun t k => st266 t k) ?_
  refine own_pre (A := (T266.setTop (mkF m 41 #[.val (.ref ax), .val (.int pf), .val (.int pl)] [(.int (5 : Int32)), (.ref ax), (.int (4 : Int32)), (.ref ar)]))) ?_ ?_
  · intro t k
    refine XS.dupX1 X266.here hx rfl (hb hby d6_38) rfl rfl rfl ?_
    refine XS.iconst X266.here hx rfl (hb hby d6_39) ?_
    refine XS.iadd X266.here hx rfl (hb hby d6_40) rfl ?_
    show Steps p.tables e below (T266.setTop (mkF m 41 #[.val (.ref ax), .val (.int pf), .val (.int pl)] [(.int ((4 : Int32) + (1 : Int32))), (.ref ax), (.int (4 : Int32)), (.ref ar)])) _
    rw [show ((4 : Int32) + (1 : Int32)) = (5 : Int32) from by decide]
    exact k
  obtain ⟨T267, h267, X267, e267, W267, st267⟩ := putF X266 hx hZ hown (host := "") (Or.inl (own_w hw 30 rfl)) Via.refl e266 Fc Ea (Or.inl (own_w hw 31 rfl)) (own_w hw 14 rfl) (ty := .int) (by decide) rfl rfl (g := (mkF m 41 #[.val (.ref ax), .val (.int pf), .val (.int pl)] [(.int (5 : Int32)), (.ref ax), (.int (4 : Int32)), (.ref ar)])) rfl rfl (hb hby d6_41)
  have Fr__267 := Fr_.other W267 (Or.inr (slot_ne (Or.inl (own_w hw 24 rfl)) (Or.inl (own_w hw 31 rfl)) (by decide) (t := (.array .long)) (t' := .int) (by decide) (by decide)))
  have Vr_267 := Vr.other W267 nar.symm
  have Kc267 : Keep h0 h267 [ax, ar] := (Keep.refl h0 [ax, ar]).wr W267 (Or.inl (List.mem_of_getElem? (i := 0) rfl))
  have N267 := Fr.snoc X267 N0 ga
  have Fw267 := Fc.same W267
  refine own_pre (fun t k => st267 t k) ?_
  refine own_pre (A := (T267.setTop (mkF m 52 #[.val (.ref ax), .val (.int pf), .val (.int pl)] [(.long qw), (.int (4 : Int32)), (.ref ar)]))) ?_ ?_
  · intro t k
    refine XS.iloadN X267.here hx rfl (hb hby d6_44) rfl ?_
    refine XS.i2l X267.here hx rfl (hb hby d6_45) rfl ?_
    refine XS.bipush X267.here hx rfl (hb hby d6_46) ?_
    refine XS.lshl X267.here hx rfl (hb hby d6_48) rfl ?_
    refine XS.iloadN X267.here hx rfl (hb hby d6_49) rfl ?_
    refine XS.i2l X267.here hx rfl (hb hby d6_50) rfl ?_
    refine XS.lor X267.here hx rfl (hb hby d6_51) rfl ?_
    show Steps p.tables e below (T267.setTop (mkF m 52 #[.val (.ref ax), .val (.int pf), .val (.int pl)] [(.long (((pf.toInt64) <<< ((32 : Int32) &&& 0x3f).toInt64) ||| (pl.toInt64))), (.int (4 : Int32)), (.ref ar)])) _
    rw [← hq]
    exact k
  obtain ⟨cl268, Ar268, q268, S268, N268, H268, G268⟩ := Vr_267
  have hin268 : ¬ ((4 : Int32) < 0 ∨ cl268.slots.size ≤ ((4 : Int32)).toNatClampNeg) := inb_of S268 ⟨by decide, by decide⟩
  obtain ⟨T268, h268, X268, e268, W268, st268⟩ := stJ X267 hx hZ e267 Ar268 (j := (4 : Int32)) hin268 (g := (mkF m 52 #[.val (.ref ax), .val (.int pf), .val (.int pl)] [(.long qw), (.int (4 : Int32)), (.ref ar)])) rfl rfl (hb hby d6_52)
  have V268 : Arv Z h268 ar kr .long (8 : Int32) [(.long u0), (.long u1), (.long u2), (.long u3), (.long qw), (.long u5), (.long u6), (.long u7)] (.long (0 : Int64)) := Arv.set Ar268 q268 S268 N268 H268 G268 rfl W268 4 rfl (Nat.le_of_ble_eq_true rfl)
  have Fr__268 := Fr__267.other W268 (Or.inl nar)
  have Fw267_268 := Fw267.other W268 (Or.inl nar)
  have Kc268 : Keep h0 h268 [ax, ar] := Kc267.wr W268 (Or.inl (List.mem_of_getElem? (i := 1) rfl))
  have N268 := Fr.snoc X268 N267 gr
  refine own_pre (fun t k => st268 t k) ?_
  obtain ⟨fs, hr, hrun, hended, hW, hsame⟩ := X268.leave (hlocks := BodyLoose.notSynchronized Bd) (v := none) (fun _ => rfl)
  refine ⟨_, _, X268.returnOut hx Bd.returns (hb hby d6_53) hr, hrun, hended, _, _, rfl, ?_, ⟨_, rfl⟩, hW, hsame.mono (by decide) (by decide)⟩
  show own_Q6_4 Z ax pf pl ar kr u0 u1 u2 u3 u4 u5 u6 u7 qw h0 n0 _ T268.heap _
  rw [e268]
  exact ⟨rfl, N268, Kc268, Fr__268, Fw267_268, V268⟩
def own_Q6_5 (Z : State) (ax : Addr) (pf : Int32) (pl : Int32) (ar : Addr) (kr : ClassId) (u0 : Int64) (u1 : Int64) (u2 : Int64) (u3 : Int64) (u4 : Int64) (u5 : Int64) (u6 : Int64) (u7 : Int64) (qw : Int64) (h0 : Heap) (n0 : Nat) (v : Option Value) (h : Heap) (L : List Loc) : Prop := v = none ∧ Fr n0 L ∧ Keep h0 h [ax, ar] ∧ Fld Z h ax "com/example/otito/otito/chain/CodePointSet$Builder" "ranges" "[J" (.ref ar) ∧ Fld Z h ax "com/example/otito/otito/chain/CodePointSet$Builder" "count" "I" (.int (6 : Int32)) ∧ Arv Z h ar kr .long (8 : Int32) [(.long u0), (.long u1), (.long u2), (.long u3), (.long u4), (.long qw), (.long u6), (.long u7)] (.long (0 : Int64))
set_option maxRecDepth 65536 in
set_option maxHeartbeats 40000000 in
theorem rm6_5 (l : Launch) (Z : State) (a0 : Array Value) (hw : ∀ d ∈ tables_1, d.before a0 Z = true) (ws : List Jvm.Cond) (ax : Addr) (pf : Int32) (pl : Int32) (ar : Addr) (kr : ClassId) (u0 : Int64) (u1 : Int64) (u2 : Int64) (u3 : Int64) (u4 : Int64) (u5 : Int64) (u6 : Int64) (u7 : Int64) (qw : Int64) (h0 : Heap) (n0 : Nat) (Z0 : n0 ≤ h0.size) (Ea : Exa Z h0 ax "com/example/otito/otito/chain/CodePointSet$Builder") (Fr_ : Fld Z h0 ax "com/example/otito/otito/chain/CodePointSet$Builder" "ranges" "[J" (.ref ar)) (Fc : Fld Z h0 ax "com/example/otito/otito/chain/CodePointSet$Builder" "count" "I" (.int (5 : Int32))) (Vr : Arv Z h0 ar kr .long (8 : Int32) [(.long u0), (.long u1), (.long u2), (.long u3), (.long u4), (.long u5), (.long u6), (.long u7)] (.long (0 : Int64))) (Er : Exa Z h0 ar "[J") (nar : ax ≠ ar) (ga : n0 ≤ ax) (gr : n0 ≤ ar) (hq : qw = (((pf.toInt64) <<< ((32 : Int32) &&& 0x3f).toInt64) ||| (pl.toInt64))) :
    MetFree l (⟨"com/example/otito/otito/chain/CodePointSet$Builder", "add", "(II)V"⟩ : MethodName) (head1 (Jvm.Cond.code (⟨"com/example/otito/otito/chain/CodePointSet$Builder", "add", "(II)V"⟩ : MethodName) prog_6_method_2_code 3 none :: ws) ({ frames := 0, cells := 0, slots := 0, locals := 0 } : Room)) (fun a U => a = #[(.ref ax), (.int pf), (.int pl)] ∧ Z.Warmed39 U.vm ∧ U.heap = h0) (fun _ _ _ _ _ => True) (fun _ U o U' => ∃ v L, o = .returned v ∧ own_Q6_5 Z ax pf pl ar kr u0 u1 u2 u3 u4 u5 u6 u7 qw h0 n0 v U'.heap L ∧ FrameEnd U o U' L ({ frames := 0, cells := 0, slots := 0, locals := 0 } : Room).cells ({ frames := 0, cells := 0, slots := 0, locals := 0 } : Room).slots) := by
  refine MetFree.of_bodySF (plainFor_of_name own_pn6) hisR ?_
  intro p e s m args below meth c s₁ Bd hml0 hP hK
  obtain ⟨rfl, hZ, hh⟩ := hP
  have hx := Bd.exec
  have hby := Bd.bytes
  have hml : c.maxLocals = 3 := hml0
  have hown : s.vm.findClass "com/example/otito/otito/chain/CodePointSet$Builder" = some m.cls := findClass_of_methodNamed Bd.named
  have hnm := (name_of_methodNamed Bd.named Bd.method).1
  have X0 : Stand p l e ({ frames := 0, cells := 0, slots := 0, locals := 0 } : Room) s m #[(.ref ax), (.int pf), (.int pl)] below meth c s₁ [] 0 0 := Stand.of_body Bd
  have e0 : s₁.heap = h0 := by rw [← hh, Bd.state]; rfl
  have N0 := Fr.nil n0
  refine own_pre (A := (s₁.setTop (mkF m 0 #[.val (.ref ax), .val (.int pf), .val (.int pl)] []))) (fun t k => castTop (own_ef6 m ax pf pl) k) ?_
  refine own_pre (A := (s₁.setTop (mkF m 1 #[.val (.ref ax), .val (.int pf), .val (.int pl)] [(.ref ax)]))) ?_ ?_
  · intro t k
    refine XS.aloadN X0.here hx rfl (hb hby d6_0) rfl rfl ?_
    exact k
  obtain ⟨T269, X269, e269, st269⟩ := getF X0 hx hZ hown (host := "") (Or.inl (own_w hw 30 rfl)) Via.refl e0 Fc (g := (mkF m 1 #[.val (.ref ax), .val (.int pf), .val (.int pl)] [(.ref ax)])) rfl rfl (hb hby d6_1)
  refine own_pre (fun t k => st269 t k) ?_
  refine own_pre (A := (T269.setTop (mkF m 5 #[.val (.ref ax), .val (.int pf), .val (.int pl)] [(.ref ax), (.int (5 : Int32))]))) ?_ ?_
  · intro t k
    refine XS.aloadN X269.here hx rfl (hb hby d6_4) rfl rfl ?_
    exact k
  obtain ⟨T270, X270, e270, st270⟩ := getF X269 hx hZ hown (host := "") (Or.inl (own_w hw 23 rfl)) Via.refl e269 Fr_ (g := (mkF m 5 #[.val (.ref ax), .val (.int pf), .val (.int pl)] [(.ref ax), (.int (5 : Int32))])) rfl rfl (hb hby d6_5)
  refine own_pre (fun t k => st270 t k) ?_
  refine own_pre (A := (T270.setTop (mkF m 30 #[.val (.ref ax), .val (.int pf), .val (.int pl)] [(.ref ax)]))) ?_ ?_
  · intro t k
    show Steps p.tables e below (T270.setTop (mkF m 8 #[.val (.ref ax), .val (.int pf), .val (.int pl)] [(.ref ar), (.int (5 : Int32))])) _
    obtain ⟨cl271, Ar271, -, S271, N271, -, -⟩ := id Vr
    refine X270.arraylength hx (by rw [e270]; exact Ar271.1) (State.isArrayOf_alike hZ.alike Ar271.2.1) (g := (mkF m 8 #[.val (.ref ax), .val (.int pf), .val (.int pl)] [(.ref ar), (.int (5 : Int32))])) rfl rfl (hb hby d6_8) _ ?_
    rw [len_of S271 N271]
    refine XS.icmpYes X270.here hx rfl (pc0 := 9) (pc' := 29) rfl (hb hby d6_9) rfl (feq (by decide : ¬ ((5 : Int32) = (8 : Int32)))).2 (by decide) (by decide) ?_
    refine XS.aloadN X270.here hx rfl (hb hby d6_29) rfl rfl ?_
    exact k
  obtain ⟨T272, X272, e272, st272⟩ := getF X270 hx hZ hown (host := "") (Or.inl (own_w hw 23 rfl)) Via.refl e270 Fr_ (g := (mkF m 30 #[.val (.ref ax), .val (.int pf), .val (.int pl)] [(.ref ax)])) rfl rfl (hb hby d6_30)
  refine own_pre (fun t k => st272 t k) ?_
  refine own_pre (A := (T272.setTop (mkF m 35 #[.val (.ref ax), .val (.int pf), .val (.int pl)] [(.ref ax), (.ref ax), (.ref ar)]))) ?_ ?_
  · intro t k
    refine XS.aloadN X272.here hx rfl (hb hby d6_33) rfl rfl ?_
    refine XS.dup X272.here hx rfl (hb hby d6_34) rfl rfl ?_
    exact k
  obtain ⟨T273, X273, e273, st273⟩ := getF X272 hx hZ hown (host := "") (Or.inl (own_w hw 30 rfl)) Via.refl e272 Fc (g := (mkF m 35 #[.val (.ref ax), .val (.int pf), .val (.int pl)] [(.ref ax), (.ref ax), (.ref ar)])) rfl rfl (hb hby d6_35)
  refine own_pre (fun t k => st273 t k) ?_
  refine own_pre (A := (T273.setTop (mkF m 41 #[.val (.ref ax), .val (.int pf), .val (.int pl)] [(.int (6 : Int32)), (.ref ax), (.int (5 : Int32)), (.ref ar)]))) ?_ ?_
  · intro t k
    refine XS.dupX1 X273.here hx rfl (hb hby d6_38) rfl rfl rfl ?_
    refine XS.iconst X273.here hx rfl (hb hby d6_39) ?_
    refine XS.iadd X273.here hx rfl (hb hby d6_40) rfl ?_
    show Steps p.tables e below (T273.setTop (mkF m 41 #[.val (.ref ax), .val (.int pf), .val (.int pl)] [(.int ((5 : Int32) + (1 : Int32))), (.ref ax), (.int (5 : Int32)), (.ref ar)])) _
    rw [show ((5 : Int32) + (1 : Int32)) = (6 : Int32) from by decide]
    exact k
  obtain ⟨T274, h274, X274, e274, W274, st274⟩ := putF X273 hx hZ hown (host := "") (Or.inl (own_w hw 30 rfl)) Via.refl e273 Fc Ea (Or.inl (own_w hw 31 rfl)) (own_w hw 14 rfl) (ty := .int) (by decide) rfl rfl (g := (mkF m 41 #[.val (.ref ax), .val (.int pf), .val (.int pl)] [(.int (6 : Int32)), (.ref ax), (.int (5 : Int32)), (.ref ar)])) rfl rfl (hb hby d6_41)
  have Fr__274 := Fr_.other W274 (Or.inr (slot_ne (Or.inl (own_w hw 24 rfl)) (Or.inl (own_w hw 31 rfl)) (by decide) (t := (.array .long)) (t' := .int) (by decide) (by decide)))
  have Vr_274 := Vr.other W274 nar.symm
  have Kc274 : Keep h0 h274 [ax, ar] := (Keep.refl h0 [ax, ar]).wr W274 (Or.inl (List.mem_of_getElem? (i := 0) rfl))
  have N274 := Fr.snoc X274 N0 ga
  have Fw274 := Fc.same W274
  refine own_pre (fun t k => st274 t k) ?_
  refine own_pre (A := (T274.setTop (mkF m 52 #[.val (.ref ax), .val (.int pf), .val (.int pl)] [(.long qw), (.int (5 : Int32)), (.ref ar)]))) ?_ ?_
  · intro t k
    refine XS.iloadN X274.here hx rfl (hb hby d6_44) rfl ?_
    refine XS.i2l X274.here hx rfl (hb hby d6_45) rfl ?_
    refine XS.bipush X274.here hx rfl (hb hby d6_46) ?_
    refine XS.lshl X274.here hx rfl (hb hby d6_48) rfl ?_
    refine XS.iloadN X274.here hx rfl (hb hby d6_49) rfl ?_
    refine XS.i2l X274.here hx rfl (hb hby d6_50) rfl ?_
    refine XS.lor X274.here hx rfl (hb hby d6_51) rfl ?_
    show Steps p.tables e below (T274.setTop (mkF m 52 #[.val (.ref ax), .val (.int pf), .val (.int pl)] [(.long (((pf.toInt64) <<< ((32 : Int32) &&& 0x3f).toInt64) ||| (pl.toInt64))), (.int (5 : Int32)), (.ref ar)])) _
    rw [← hq]
    exact k
  obtain ⟨cl275, Ar275, q275, S275, N275, H275, G275⟩ := Vr_274
  have hin275 : ¬ ((5 : Int32) < 0 ∨ cl275.slots.size ≤ ((5 : Int32)).toNatClampNeg) := inb_of S275 ⟨by decide, by decide⟩
  obtain ⟨T275, h275, X275, e275, W275, st275⟩ := stJ X274 hx hZ e274 Ar275 (j := (5 : Int32)) hin275 (g := (mkF m 52 #[.val (.ref ax), .val (.int pf), .val (.int pl)] [(.long qw), (.int (5 : Int32)), (.ref ar)])) rfl rfl (hb hby d6_52)
  have V275 : Arv Z h275 ar kr .long (8 : Int32) [(.long u0), (.long u1), (.long u2), (.long u3), (.long u4), (.long qw), (.long u6), (.long u7)] (.long (0 : Int64)) := Arv.set Ar275 q275 S275 N275 H275 G275 rfl W275 5 rfl (Nat.le_of_ble_eq_true rfl)
  have Fr__275 := Fr__274.other W275 (Or.inl nar)
  have Fw274_275 := Fw274.other W275 (Or.inl nar)
  have Kc275 : Keep h0 h275 [ax, ar] := Kc274.wr W275 (Or.inl (List.mem_of_getElem? (i := 1) rfl))
  have N275 := Fr.snoc X275 N274 gr
  refine own_pre (fun t k => st275 t k) ?_
  obtain ⟨fs, hr, hrun, hended, hW, hsame⟩ := X275.leave (hlocks := BodyLoose.notSynchronized Bd) (v := none) (fun _ => rfl)
  refine ⟨_, _, X275.returnOut hx Bd.returns (hb hby d6_53) hr, hrun, hended, _, _, rfl, ?_, ⟨_, rfl⟩, hW, hsame.mono (by decide) (by decide)⟩
  show own_Q6_5 Z ax pf pl ar kr u0 u1 u2 u3 u4 u5 u6 u7 qw h0 n0 _ T275.heap _
  rw [e275]
  exact ⟨rfl, N275, Kc275, Fr__275, Fw274_275, V275⟩
def own_Q6_6 (Z : State) (ax : Addr) (pf : Int32) (pl : Int32) (ar : Addr) (kr : ClassId) (u0 : Int64) (u1 : Int64) (u2 : Int64) (u3 : Int64) (u4 : Int64) (u5 : Int64) (u6 : Int64) (u7 : Int64) (qw : Int64) (h0 : Heap) (n0 : Nat) (v : Option Value) (h : Heap) (L : List Loc) : Prop := v = none ∧ Fr n0 L ∧ Keep h0 h [ax, ar] ∧ Fld Z h ax "com/example/otito/otito/chain/CodePointSet$Builder" "ranges" "[J" (.ref ar) ∧ Fld Z h ax "com/example/otito/otito/chain/CodePointSet$Builder" "count" "I" (.int (7 : Int32)) ∧ Arv Z h ar kr .long (8 : Int32) [(.long u0), (.long u1), (.long u2), (.long u3), (.long u4), (.long u5), (.long qw), (.long u7)] (.long (0 : Int64))
set_option maxRecDepth 65536 in
set_option maxHeartbeats 40000000 in
theorem rm6_6 (l : Launch) (Z : State) (a0 : Array Value) (hw : ∀ d ∈ tables_1, d.before a0 Z = true) (ws : List Jvm.Cond) (ax : Addr) (pf : Int32) (pl : Int32) (ar : Addr) (kr : ClassId) (u0 : Int64) (u1 : Int64) (u2 : Int64) (u3 : Int64) (u4 : Int64) (u5 : Int64) (u6 : Int64) (u7 : Int64) (qw : Int64) (h0 : Heap) (n0 : Nat) (Z0 : n0 ≤ h0.size) (Ea : Exa Z h0 ax "com/example/otito/otito/chain/CodePointSet$Builder") (Fr_ : Fld Z h0 ax "com/example/otito/otito/chain/CodePointSet$Builder" "ranges" "[J" (.ref ar)) (Fc : Fld Z h0 ax "com/example/otito/otito/chain/CodePointSet$Builder" "count" "I" (.int (6 : Int32))) (Vr : Arv Z h0 ar kr .long (8 : Int32) [(.long u0), (.long u1), (.long u2), (.long u3), (.long u4), (.long u5), (.long u6), (.long u7)] (.long (0 : Int64))) (Er : Exa Z h0 ar "[J") (nar : ax ≠ ar) (ga : n0 ≤ ax) (gr : n0 ≤ ar) (hq : qw = (((pf.toInt64) <<< ((32 : Int32) &&& 0x3f).toInt64) ||| (pl.toInt64))) :
    MetFree l (⟨"com/example/otito/otito/chain/CodePointSet$Builder", "add", "(II)V"⟩ : MethodName) (head1 (Jvm.Cond.code (⟨"com/example/otito/otito/chain/CodePointSet$Builder", "add", "(II)V"⟩ : MethodName) prog_6_method_2_code 3 none :: ws) ({ frames := 0, cells := 0, slots := 0, locals := 0 } : Room)) (fun a U => a = #[(.ref ax), (.int pf), (.int pl)] ∧ Z.Warmed39 U.vm ∧ U.heap = h0) (fun _ _ _ _ _ => True) (fun _ U o U' => ∃ v L, o = .returned v ∧ own_Q6_6 Z ax pf pl ar kr u0 u1 u2 u3 u4 u5 u6 u7 qw h0 n0 v U'.heap L ∧ FrameEnd U o U' L ({ frames := 0, cells := 0, slots := 0, locals := 0 } : Room).cells ({ frames := 0, cells := 0, slots := 0, locals := 0 } : Room).slots) := by
  refine MetFree.of_bodySF (plainFor_of_name own_pn6) hisR ?_
  intro p e s m args below meth c s₁ Bd hml0 hP hK
  obtain ⟨rfl, hZ, hh⟩ := hP
  have hx := Bd.exec
  have hby := Bd.bytes
  have hml : c.maxLocals = 3 := hml0
  have hown : s.vm.findClass "com/example/otito/otito/chain/CodePointSet$Builder" = some m.cls := findClass_of_methodNamed Bd.named
  have hnm := (name_of_methodNamed Bd.named Bd.method).1
  have X0 : Stand p l e ({ frames := 0, cells := 0, slots := 0, locals := 0 } : Room) s m #[(.ref ax), (.int pf), (.int pl)] below meth c s₁ [] 0 0 := Stand.of_body Bd
  have e0 : s₁.heap = h0 := by rw [← hh, Bd.state]; rfl
  have N0 := Fr.nil n0
  refine own_pre (A := (s₁.setTop (mkF m 0 #[.val (.ref ax), .val (.int pf), .val (.int pl)] []))) (fun t k => castTop (own_ef6 m ax pf pl) k) ?_
  refine own_pre (A := (s₁.setTop (mkF m 1 #[.val (.ref ax), .val (.int pf), .val (.int pl)] [(.ref ax)]))) ?_ ?_
  · intro t k
    refine XS.aloadN X0.here hx rfl (hb hby d6_0) rfl rfl ?_
    exact k
  obtain ⟨T276, X276, e276, st276⟩ := getF X0 hx hZ hown (host := "") (Or.inl (own_w hw 30 rfl)) Via.refl e0 Fc (g := (mkF m 1 #[.val (.ref ax), .val (.int pf), .val (.int pl)] [(.ref ax)])) rfl rfl (hb hby d6_1)
  refine own_pre (fun t k => st276 t k) ?_
  refine own_pre (A := (T276.setTop (mkF m 5 #[.val (.ref ax), .val (.int pf), .val (.int pl)] [(.ref ax), (.int (6 : Int32))]))) ?_ ?_
  · intro t k
    refine XS.aloadN X276.here hx rfl (hb hby d6_4) rfl rfl ?_
    exact k
  obtain ⟨T277, X277, e277, st277⟩ := getF X276 hx hZ hown (host := "") (Or.inl (own_w hw 23 rfl)) Via.refl e276 Fr_ (g := (mkF m 5 #[.val (.ref ax), .val (.int pf), .val (.int pl)] [(.ref ax), (.int (6 : Int32))])) rfl rfl (hb hby d6_5)
  refine own_pre (fun t k => st277 t k) ?_
  refine own_pre (A := (T277.setTop (mkF m 30 #[.val (.ref ax), .val (.int pf), .val (.int pl)] [(.ref ax)]))) ?_ ?_
  · intro t k
    show Steps p.tables e below (T277.setTop (mkF m 8 #[.val (.ref ax), .val (.int pf), .val (.int pl)] [(.ref ar), (.int (6 : Int32))])) _
    obtain ⟨cl278, Ar278, -, S278, N278, -, -⟩ := id Vr
    refine X277.arraylength hx (by rw [e277]; exact Ar278.1) (State.isArrayOf_alike hZ.alike Ar278.2.1) (g := (mkF m 8 #[.val (.ref ax), .val (.int pf), .val (.int pl)] [(.ref ar), (.int (6 : Int32))])) rfl rfl (hb hby d6_8) _ ?_
    rw [len_of S278 N278]
    refine XS.icmpYes X277.here hx rfl (pc0 := 9) (pc' := 29) rfl (hb hby d6_9) rfl (feq (by decide : ¬ ((6 : Int32) = (8 : Int32)))).2 (by decide) (by decide) ?_
    refine XS.aloadN X277.here hx rfl (hb hby d6_29) rfl rfl ?_
    exact k
  obtain ⟨T279, X279, e279, st279⟩ := getF X277 hx hZ hown (host := "") (Or.inl (own_w hw 23 rfl)) Via.refl e277 Fr_ (g := (mkF m 30 #[.val (.ref ax), .val (.int pf), .val (.int pl)] [(.ref ax)])) rfl rfl (hb hby d6_30)
  refine own_pre (fun t k => st279 t k) ?_
  refine own_pre (A := (T279.setTop (mkF m 35 #[.val (.ref ax), .val (.int pf), .val (.int pl)] [(.ref ax), (.ref ax), (.ref ar)]))) ?_ ?_
  · intro t k
    refine XS.aloadN X279.here hx rfl (hb hby d6_33) rfl rfl ?_
    refine XS.dup X279.here hx rfl (hb hby d6_34) rfl rfl ?_
    exact k
  obtain ⟨T280, X280, e280, st280⟩ := getF X279 hx hZ hown (host := "") (Or.inl (own_w hw 30 rfl)) Via.refl e279 Fc (g := (mkF m 35 #[.val (.ref ax), .val (.int pf), .val (.int pl)] [(.ref ax), (.ref ax), (.ref ar)])) rfl rfl (hb hby d6_35)
  refine own_pre (fun t k => st280 t k) ?_
  refine own_pre (A := (T280.setTop (mkF m 41 #[.val (.ref ax), .val (.int pf), .val (.int pl)] [(.int (7 : Int32)), (.ref ax), (.int (6 : Int32)), (.ref ar)]))) ?_ ?_
  · intro t k
    refine XS.dupX1 X280.here hx rfl (hb hby d6_38) rfl rfl rfl ?_
    refine XS.iconst X280.here hx rfl (hb hby d6_39) ?_
    refine XS.iadd X280.here hx rfl (hb hby d6_40) rfl ?_
    show Steps p.tables e below (T280.setTop (mkF m 41 #[.val (.ref ax), .val (.int pf), .val (.int pl)] [(.int ((6 : Int32) + (1 : Int32))), (.ref ax), (.int (6 : Int32)), (.ref ar)])) _
    rw [show ((6 : Int32) + (1 : Int32)) = (7 : Int32) from by decide]
    exact k
  obtain ⟨T281, h281, X281, e281, W281, st281⟩ := putF X280 hx hZ hown (host := "") (Or.inl (own_w hw 30 rfl)) Via.refl e280 Fc Ea (Or.inl (own_w hw 31 rfl)) (own_w hw 14 rfl) (ty := .int) (by decide) rfl rfl (g := (mkF m 41 #[.val (.ref ax), .val (.int pf), .val (.int pl)] [(.int (7 : Int32)), (.ref ax), (.int (6 : Int32)), (.ref ar)])) rfl rfl (hb hby d6_41)
  have Fr__281 := Fr_.other W281 (Or.inr (slot_ne (Or.inl (own_w hw 24 rfl)) (Or.inl (own_w hw 31 rfl)) (by decide) (t := (.array .long)) (t' := .int) (by decide) (by decide)))
  have Vr_281 := Vr.other W281 nar.symm
  have Kc281 : Keep h0 h281 [ax, ar] := (Keep.refl h0 [ax, ar]).wr W281 (Or.inl (List.mem_of_getElem? (i := 0) rfl))
  have N281 := Fr.snoc X281 N0 ga
  have Fw281 := Fc.same W281
  refine own_pre (fun t k => st281 t k) ?_
  refine own_pre (A := (T281.setTop (mkF m 52 #[.val (.ref ax), .val (.int pf), .val (.int pl)] [(.long qw), (.int (6 : Int32)), (.ref ar)]))) ?_ ?_
  · intro t k
    refine XS.iloadN X281.here hx rfl (hb hby d6_44) rfl ?_
    refine XS.i2l X281.here hx rfl (hb hby d6_45) rfl ?_
    refine XS.bipush X281.here hx rfl (hb hby d6_46) ?_
    refine XS.lshl X281.here hx rfl (hb hby d6_48) rfl ?_
    refine XS.iloadN X281.here hx rfl (hb hby d6_49) rfl ?_
    refine XS.i2l X281.here hx rfl (hb hby d6_50) rfl ?_
    refine XS.lor X281.here hx rfl (hb hby d6_51) rfl ?_
    show Steps p.tables e below (T281.setTop (mkF m 52 #[.val (.ref ax), .val (.int pf), .val (.int pl)] [(.long (((pf.toInt64) <<< ((32 : Int32) &&& 0x3f).toInt64) ||| (pl.toInt64))), (.int (6 : Int32)), (.ref ar)])) _
    rw [← hq]
    exact k
  obtain ⟨cl282, Ar282, q282, S282, N282, H282, G282⟩ := Vr_281
  have hin282 : ¬ ((6 : Int32) < 0 ∨ cl282.slots.size ≤ ((6 : Int32)).toNatClampNeg) := inb_of S282 ⟨by decide, by decide⟩
  obtain ⟨T282, h282, X282, e282, W282, st282⟩ := stJ X281 hx hZ e281 Ar282 (j := (6 : Int32)) hin282 (g := (mkF m 52 #[.val (.ref ax), .val (.int pf), .val (.int pl)] [(.long qw), (.int (6 : Int32)), (.ref ar)])) rfl rfl (hb hby d6_52)
  have V282 : Arv Z h282 ar kr .long (8 : Int32) [(.long u0), (.long u1), (.long u2), (.long u3), (.long u4), (.long u5), (.long qw), (.long u7)] (.long (0 : Int64)) := Arv.set Ar282 q282 S282 N282 H282 G282 rfl W282 6 rfl (Nat.le_of_ble_eq_true rfl)
  have Fr__282 := Fr__281.other W282 (Or.inl nar)
  have Fw281_282 := Fw281.other W282 (Or.inl nar)
  have Kc282 : Keep h0 h282 [ax, ar] := Kc281.wr W282 (Or.inl (List.mem_of_getElem? (i := 1) rfl))
  have N282 := Fr.snoc X282 N281 gr
  refine own_pre (fun t k => st282 t k) ?_
  obtain ⟨fs, hr, hrun, hended, hW, hsame⟩ := X282.leave (hlocks := BodyLoose.notSynchronized Bd) (v := none) (fun _ => rfl)
  refine ⟨_, _, X282.returnOut hx Bd.returns (hb hby d6_53) hr, hrun, hended, _, _, rfl, ?_, ⟨_, rfl⟩, hW, hsame.mono (by decide) (by decide)⟩
  show own_Q6_6 Z ax pf pl ar kr u0 u1 u2 u3 u4 u5 u6 u7 qw h0 n0 _ T282.heap _
  rw [e282]
  exact ⟨rfl, N282, Kc282, Fr__282, Fw281_282, V282⟩
def own_Q6_7 (Z : State) (ax : Addr) (pf : Int32) (pl : Int32) (ar : Addr) (kr : ClassId) (u0 : Int64) (u1 : Int64) (u2 : Int64) (u3 : Int64) (u4 : Int64) (u5 : Int64) (u6 : Int64) (u7 : Int64) (qw : Int64) (h0 : Heap) (n0 : Nat) (v : Option Value) (h : Heap) (L : List Loc) : Prop := v = none ∧ Fr n0 L ∧ Keep h0 h [ax, ar] ∧ Fld Z h ax "com/example/otito/otito/chain/CodePointSet$Builder" "ranges" "[J" (.ref ar) ∧ Fld Z h ax "com/example/otito/otito/chain/CodePointSet$Builder" "count" "I" (.int (8 : Int32)) ∧ Arv Z h ar kr .long (8 : Int32) [(.long u0), (.long u1), (.long u2), (.long u3), (.long u4), (.long u5), (.long u6), (.long qw)] (.long (0 : Int64))
set_option maxRecDepth 65536 in
set_option maxHeartbeats 40000000 in
theorem rm6_7 (l : Launch) (Z : State) (a0 : Array Value) (hw : ∀ d ∈ tables_1, d.before a0 Z = true) (ws : List Jvm.Cond) (ax : Addr) (pf : Int32) (pl : Int32) (ar : Addr) (kr : ClassId) (u0 : Int64) (u1 : Int64) (u2 : Int64) (u3 : Int64) (u4 : Int64) (u5 : Int64) (u6 : Int64) (u7 : Int64) (qw : Int64) (h0 : Heap) (n0 : Nat) (Z0 : n0 ≤ h0.size) (Ea : Exa Z h0 ax "com/example/otito/otito/chain/CodePointSet$Builder") (Fr_ : Fld Z h0 ax "com/example/otito/otito/chain/CodePointSet$Builder" "ranges" "[J" (.ref ar)) (Fc : Fld Z h0 ax "com/example/otito/otito/chain/CodePointSet$Builder" "count" "I" (.int (7 : Int32))) (Vr : Arv Z h0 ar kr .long (8 : Int32) [(.long u0), (.long u1), (.long u2), (.long u3), (.long u4), (.long u5), (.long u6), (.long u7)] (.long (0 : Int64))) (Er : Exa Z h0 ar "[J") (nar : ax ≠ ar) (ga : n0 ≤ ax) (gr : n0 ≤ ar) (hq : qw = (((pf.toInt64) <<< ((32 : Int32) &&& 0x3f).toInt64) ||| (pl.toInt64))) :
    MetFree l (⟨"com/example/otito/otito/chain/CodePointSet$Builder", "add", "(II)V"⟩ : MethodName) (head1 (Jvm.Cond.code (⟨"com/example/otito/otito/chain/CodePointSet$Builder", "add", "(II)V"⟩ : MethodName) prog_6_method_2_code 3 none :: ws) ({ frames := 0, cells := 0, slots := 0, locals := 0 } : Room)) (fun a U => a = #[(.ref ax), (.int pf), (.int pl)] ∧ Z.Warmed39 U.vm ∧ U.heap = h0) (fun _ _ _ _ _ => True) (fun _ U o U' => ∃ v L, o = .returned v ∧ own_Q6_7 Z ax pf pl ar kr u0 u1 u2 u3 u4 u5 u6 u7 qw h0 n0 v U'.heap L ∧ FrameEnd U o U' L ({ frames := 0, cells := 0, slots := 0, locals := 0 } : Room).cells ({ frames := 0, cells := 0, slots := 0, locals := 0 } : Room).slots) := by
  refine MetFree.of_bodySF (plainFor_of_name own_pn6) hisR ?_
  intro p e s m args below meth c s₁ Bd hml0 hP hK
  obtain ⟨rfl, hZ, hh⟩ := hP
  have hx := Bd.exec
  have hby := Bd.bytes
  have hml : c.maxLocals = 3 := hml0
  have hown : s.vm.findClass "com/example/otito/otito/chain/CodePointSet$Builder" = some m.cls := findClass_of_methodNamed Bd.named
  have hnm := (name_of_methodNamed Bd.named Bd.method).1
  have X0 : Stand p l e ({ frames := 0, cells := 0, slots := 0, locals := 0 } : Room) s m #[(.ref ax), (.int pf), (.int pl)] below meth c s₁ [] 0 0 := Stand.of_body Bd
  have e0 : s₁.heap = h0 := by rw [← hh, Bd.state]; rfl
  have N0 := Fr.nil n0
  refine own_pre (A := (s₁.setTop (mkF m 0 #[.val (.ref ax), .val (.int pf), .val (.int pl)] []))) (fun t k => castTop (own_ef6 m ax pf pl) k) ?_
  refine own_pre (A := (s₁.setTop (mkF m 1 #[.val (.ref ax), .val (.int pf), .val (.int pl)] [(.ref ax)]))) ?_ ?_
  · intro t k
    refine XS.aloadN X0.here hx rfl (hb hby d6_0) rfl rfl ?_
    exact k
  obtain ⟨T283, X283, e283, st283⟩ := getF X0 hx hZ hown (host := "") (Or.inl (own_w hw 30 rfl)) Via.refl e0 Fc (g := (mkF m 1 #[.val (.ref ax), .val (.int pf), .val (.int pl)] [(.ref ax)])) rfl rfl (hb hby d6_1)
  refine own_pre (fun t k => st283 t k) ?_
  refine own_pre (A := (T283.setTop (mkF m 5 #[.val (.ref ax), .val (.int pf), .val (.int pl)] [(.ref ax), (.int (7 : Int32))]))) ?_ ?_
  · intro t k
    refine XS.aloadN X283.here hx rfl (hb hby d6_4) rfl rfl ?_
    exact k
  obtain ⟨T284, X284, e284, st284⟩ := getF X283 hx hZ hown (host := "") (Or.inl (own_w hw 23 rfl)) Via.refl e283 Fr_ (g := (mkF m 5 #[.val (.ref ax), .val (.int pf), .val (.int pl)] [(.ref ax), (.int (7 : Int32))])) rfl rfl (hb hby d6_5)
  refine own_pre (fun t k => st284 t k) ?_
  refine own_pre (A := (T284.setTop (mkF m 30 #[.val (.ref ax), .val (.int pf), .val (.int pl)] [(.ref ax)]))) ?_ ?_
  · intro t k
    show Steps p.tables e below (T284.setTop (mkF m 8 #[.val (.ref ax), .val (.int pf), .val (.int pl)] [(.ref ar), (.int (7 : Int32))])) _
    obtain ⟨cl285, Ar285, -, S285, N285, -, -⟩ := id Vr
    refine X284.arraylength hx (by rw [e284]; exact Ar285.1) (State.isArrayOf_alike hZ.alike Ar285.2.1) (g := (mkF m 8 #[.val (.ref ax), .val (.int pf), .val (.int pl)] [(.ref ar), (.int (7 : Int32))])) rfl rfl (hb hby d6_8) _ ?_
    rw [len_of S285 N285]
    refine XS.icmpYes X284.here hx rfl (pc0 := 9) (pc' := 29) rfl (hb hby d6_9) rfl (feq (by decide : ¬ ((7 : Int32) = (8 : Int32)))).2 (by decide) (by decide) ?_
    refine XS.aloadN X284.here hx rfl (hb hby d6_29) rfl rfl ?_
    exact k
  obtain ⟨T286, X286, e286, st286⟩ := getF X284 hx hZ hown (host := "") (Or.inl (own_w hw 23 rfl)) Via.refl e284 Fr_ (g := (mkF m 30 #[.val (.ref ax), .val (.int pf), .val (.int pl)] [(.ref ax)])) rfl rfl (hb hby d6_30)
  refine own_pre (fun t k => st286 t k) ?_
  refine own_pre (A := (T286.setTop (mkF m 35 #[.val (.ref ax), .val (.int pf), .val (.int pl)] [(.ref ax), (.ref ax), (.ref ar)]))) ?_ ?_
  · intro t k
    refine XS.aloadN X286.here hx rfl (hb hby d6_33) rfl rfl ?_
    refine XS.dup X286.here hx rfl (hb hby d6_34) rfl rfl ?_
    exact k
  obtain ⟨T287, X287, e287, st287⟩ := getF X286 hx hZ hown (host := "") (Or.inl (own_w hw 30 rfl)) Via.refl e286 Fc (g := (mkF m 35 #[.val (.ref ax), .val (.int pf), .val (.int pl)] [(.ref ax), (.ref ax), (.ref ar)])) rfl rfl (hb hby d6_35)
  refine own_pre (fun t k => st287 t k) ?_
  refine own_pre (A := (T287.setTop (mkF m 41 #[.val (.ref ax), .val (.int pf), .val (.int pl)] [(.int (8 : Int32)), (.ref ax), (.int (7 : Int32)), (.ref ar)]))) ?_ ?_
  · intro t k
    refine XS.dupX1 X287.here hx rfl (hb hby d6_38) rfl rfl rfl ?_
    refine XS.iconst X287.here hx rfl (hb hby d6_39) ?_
    refine XS.iadd X287.here hx rfl (hb hby d6_40) rfl ?_
    show Steps p.tables e below (T287.setTop (mkF m 41 #[.val (.ref ax), .val (.int pf), .val (.int pl)] [(.int ((7 : Int32) + (1 : Int32))), (.ref ax), (.int (7 : Int32)), (.ref ar)])) _
    rw [show ((7 : Int32) + (1 : Int32)) = (8 : Int32) from by decide]
    exact k
  obtain ⟨T288, h288, X288, e288, W288, st288⟩ := putF X287 hx hZ hown (host := "") (Or.inl (own_w hw 30 rfl)) Via.refl e287 Fc Ea (Or.inl (own_w hw 31 rfl)) (own_w hw 14 rfl) (ty := .int) (by decide) rfl rfl (g := (mkF m 41 #[.val (.ref ax), .val (.int pf), .val (.int pl)] [(.int (8 : Int32)), (.ref ax), (.int (7 : Int32)), (.ref ar)])) rfl rfl (hb hby d6_41)
  have Fr__288 := Fr_.other W288 (Or.inr (slot_ne (Or.inl (own_w hw 24 rfl)) (Or.inl (own_w hw 31 rfl)) (by decide) (t := (.array .long)) (t' := .int) (by decide) (by decide)))
  have Vr_288 := Vr.other W288 nar.symm
  have Kc288 : Keep h0 h288 [ax, ar] := (Keep.refl h0 [ax, ar]).wr W288 (Or.inl (List.mem_of_getElem? (i := 0) rfl))
  have N288 := Fr.snoc X288 N0 ga
  have Fw288 := Fc.same W288
  refine own_pre (fun t k => st288 t k) ?_
  refine own_pre (A := (T288.setTop (mkF m 52 #[.val (.ref ax), .val (.int pf), .val (.int pl)] [(.long qw), (.int (7 : Int32)), (.ref ar)]))) ?_ ?_
  · intro t k
    refine XS.iloadN X288.here hx rfl (hb hby d6_44) rfl ?_
    refine XS.i2l X288.here hx rfl (hb hby d6_45) rfl ?_
    refine XS.bipush X288.here hx rfl (hb hby d6_46) ?_
    refine XS.lshl X288.here hx rfl (hb hby d6_48) rfl ?_
    refine XS.iloadN X288.here hx rfl (hb hby d6_49) rfl ?_
    refine XS.i2l X288.here hx rfl (hb hby d6_50) rfl ?_
    refine XS.lor X288.here hx rfl (hb hby d6_51) rfl ?_
    show Steps p.tables e below (T288.setTop (mkF m 52 #[.val (.ref ax), .val (.int pf), .val (.int pl)] [(.long (((pf.toInt64) <<< ((32 : Int32) &&& 0x3f).toInt64) ||| (pl.toInt64))), (.int (7 : Int32)), (.ref ar)])) _
    rw [← hq]
    exact k
  obtain ⟨cl289, Ar289, q289, S289, N289, H289, G289⟩ := Vr_288
  have hin289 : ¬ ((7 : Int32) < 0 ∨ cl289.slots.size ≤ ((7 : Int32)).toNatClampNeg) := inb_of S289 ⟨by decide, by decide⟩
  obtain ⟨T289, h289, X289, e289, W289, st289⟩ := stJ X288 hx hZ e288 Ar289 (j := (7 : Int32)) hin289 (g := (mkF m 52 #[.val (.ref ax), .val (.int pf), .val (.int pl)] [(.long qw), (.int (7 : Int32)), (.ref ar)])) rfl rfl (hb hby d6_52)
  have V289 : Arv Z h289 ar kr .long (8 : Int32) [(.long u0), (.long u1), (.long u2), (.long u3), (.long u4), (.long u5), (.long u6), (.long qw)] (.long (0 : Int64)) := Arv.set Ar289 q289 S289 N289 H289 G289 rfl W289 7 rfl (Nat.le_of_ble_eq_true rfl)
  have Fr__289 := Fr__288.other W289 (Or.inl nar)
  have Fw288_289 := Fw288.other W289 (Or.inl nar)
  have Kc289 : Keep h0 h289 [ax, ar] := Kc288.wr W289 (Or.inl (List.mem_of_getElem? (i := 1) rfl))
  have N289 := Fr.snoc X289 N288 gr
  refine own_pre (fun t k => st289 t k) ?_
  obtain ⟨fs, hr, hrun, hended, hW, hsame⟩ := X289.leave (hlocks := BodyLoose.notSynchronized Bd) (v := none) (fun _ => rfl)
  refine ⟨_, _, X289.returnOut hx Bd.returns (hb hby d6_53) hr, hrun, hended, _, _, rfl, ?_, ⟨_, rfl⟩, hW, hsame.mono (by decide) (by decide)⟩
  show own_Q6_7 Z ax pf pl ar kr u0 u1 u2 u3 u4 u5 u6 u7 qw h0 n0 _ T289.heap _
  rw [e289]
  exact ⟨rfl, N289, Kc289, Fr__289, Fw288_289, V289⟩
def own_Q6_8 (Z : State) (ax : Addr) (pf : Int32) (pl : Int32) (ar : Addr) (kr : ClassId) (u0 : Int64) (u1 : Int64) (u2 : Int64) (u3 : Int64) (u4 : Int64) (u5 : Int64) (u6 : Int64) (u7 : Int64) (qw : Int64) (h0 : Heap) (n0 : Nat) (v : Option Value) (h : Heap) (L : List Loc) : Prop := v = none ∧ Fr n0 L ∧ Keep h0 h [ax] ∧ ∃ (ad : Addr) (kd : ClassId), n0 ≤ ad ∧ h0.size ≤ ad ∧ ax ≠ ad ∧ Fld Z h ax "com/example/otito/otito/chain/CodePointSet$Builder" "ranges" "[J" (.ref ad) ∧ Fld Z h ax "com/example/otito/otito/chain/CodePointSet$Builder" "count" "I" (.int (9 : Int32)) ∧ Arv Z h ad kd .long (16 : Int32) [(.long u0), (.long u1), (.long u2), (.long u3), (.long u4), (.long u5), (.long u6), (.long u7), (.long qw), (.long (0 : Int64)), (.long (0 : Int64)), (.long (0 : Int64)), (.long (0 : Int64)), (.long (0 : Int64)), (.long (0 : Int64)), (.long (0 : Int64))] (.long (0 : Int64)) ∧ Exa Z h ad "[J"
set_option maxRecDepth 65536 in
set_option maxHeartbeats 40000000 in
theorem rm6_8 (l : Launch) (Z : State) (a0 : Array Value) (hw : ∀ d ∈ tables_1, d.before a0 Z = true) (ws : List Jvm.Cond) (ax : Addr) (pf : Int32) (pl : Int32) (ar : Addr) (kr : ClassId) (u0 : Int64) (u1 : Int64) (u2 : Int64) (u3 : Int64) (u4 : Int64) (u5 : Int64) (u6 : Int64) (u7 : Int64) (qw : Int64) (h0 : Heap) (n0 : Nat) (Z0 : n0 ≤ h0.size) (Ea : Exa Z h0 ax "com/example/otito/otito/chain/CodePointSet$Builder") (Fr_ : Fld Z h0 ax "com/example/otito/otito/chain/CodePointSet$Builder" "ranges" "[J" (.ref ar)) (Fc : Fld Z h0 ax "com/example/otito/otito/chain/CodePointSet$Builder" "count" "I" (.int (8 : Int32))) (Vr : Arv Z h0 ar kr .long (8 : Int32) [(.long u0), (.long u1), (.long u2), (.long u3), (.long u4), (.long u5), (.long u6), (.long u7)] (.long (0 : Int64))) (Er : Exa Z h0 ar "[J") (nar : ax ≠ ar) (ga : n0 ≤ ax) (gr : n0 ≤ ar) (hq : qw = (((pf.toInt64) <<< ((32 : Int32) &&& 0x3f).toInt64) ||| (pl.toInt64))) :
    MetFree l (⟨"com/example/otito/otito/chain/CodePointSet$Builder", "add", "(II)V"⟩ : MethodName) (head1 (Jvm.Cond.code (⟨"com/example/otito/otito/chain/CodePointSet$Builder", "add", "(II)V"⟩ : MethodName) prog_6_method_2_code 3 none :: ws) ({ frames := 2, cells := 1, slots := 16, locals := 60 } : Room)) (fun a U => a = #[(.ref ax), (.int pf), (.int pl)] ∧ Z.Warmed39 U.vm ∧ U.heap = h0) (fun _ _ _ _ _ => True) (fun _ U o U' => ∃ v L, o = .returned v ∧ own_Q6_8 Z ax pf pl ar kr u0 u1 u2 u3 u4 u5 u6 u7 qw h0 n0 v U'.heap L ∧ FrameEnd U o U' L ({ frames := 2, cells := 1, slots := 16, locals := 60 } : Room).cells ({ frames := 2, cells := 1, slots := 16, locals := 60 } : Room).slots) := by
  refine MetFree.of_bodySF (plainFor_of_name own_pn6) hisR ?_
  intro p e s m args below meth c s₁ Bd hml0 hP hK
  obtain ⟨rfl, hZ, hh⟩ := hP
  have hx := Bd.exec
  have hby := Bd.bytes
  have hml : c.maxLocals = 3 := hml0
  have hown : s.vm.findClass "com/example/otito/otito/chain/CodePointSet$Builder" = some m.cls := findClass_of_methodNamed Bd.named
  have hnm := (name_of_methodNamed Bd.named Bd.method).1
  have X0 : Stand p l e ({ frames := 2, cells := 1, slots := 16, locals := 60 } : Room) s m #[(.ref ax), (.int pf), (.int pl)] below meth c s₁ [] 0 0 := Stand.of_body Bd
  have e0 : s₁.heap = h0 := by rw [← hh, Bd.state]; rfl
  have N0 := Fr.nil n0
  refine own_pre (A := (s₁.setTop (mkF m 0 #[.val (.ref ax), .val (.int pf), .val (.int pl)] []))) (fun t k => castTop (own_ef6 m ax pf pl) k) ?_
  refine own_pre (A := (s₁.setTop (mkF m 1 #[.val (.ref ax), .val (.int pf), .val (.int pl)] [(.ref ax)]))) ?_ ?_
  · intro t k
    refine XS.aloadN X0.here hx rfl (hb hby d6_0) rfl rfl ?_
    exact k
  obtain ⟨T290, X290, e290, st290⟩ := getF X0 hx hZ hown (host := "") (Or.inl (own_w hw 30 rfl)) Via.refl e0 Fc (g := (mkF m 1 #[.val (.ref ax), .val (.int pf), .val (.int pl)] [(.ref ax)])) rfl rfl (hb hby d6_1)
  refine own_pre (fun t k => st290 t k) ?_
  refine own_pre (A := (T290.setTop (mkF m 5 #[.val (.ref ax), .val (.int pf), .val (.int pl)] [(.ref ax), (.int (8 : Int32))]))) ?_ ?_
  · intro t k
    refine XS.aloadN X290.here hx rfl (hb hby d6_4) rfl rfl ?_
    exact k
  obtain ⟨T291, X291, e291, st291⟩ := getF X290 hx hZ hown (host := "") (Or.inl (own_w hw 23 rfl)) Via.refl e290 Fr_ (g := (mkF m 5 #[.val (.ref ax), .val (.int pf), .val (.int pl)] [(.ref ax), (.int (8 : Int32))])) rfl rfl (hb hby d6_5)
  refine own_pre (fun t k => st291 t k) ?_
  refine own_pre (A := (T291.setTop (mkF m 14 #[.val (.ref ax), .val (.int pf), .val (.int pl)] [(.ref ax), (.ref ax)]))) ?_ ?_
  · intro t k
    show Steps p.tables e below (T291.setTop (mkF m 8 #[.val (.ref ax), .val (.int pf), .val (.int pl)] [(.ref ar), (.int (8 : Int32))])) _
    obtain ⟨cl292, Ar292, -, S292, N292, -, -⟩ := id Vr
    refine X291.arraylength hx (by rw [e291]; exact Ar292.1) (State.isArrayOf_alike hZ.alike Ar292.2.1) (g := (mkF m 8 #[.val (.ref ax), .val (.int pf), .val (.int pl)] [(.ref ar), (.int (8 : Int32))])) rfl rfl (hb hby d6_8) _ ?_
    rw [len_of S292 N292]
    refine XS.icmpNo X291.here hx rfl (hb hby d6_9) rfl (teq (by decide : (8 : Int32) = (8 : Int32))).2 ?_
    refine XS.aloadN X291.here hx rfl (hb hby d6_12) rfl rfl ?_
    refine XS.aloadN X291.here hx rfl (hb hby d6_13) rfl rfl ?_
    exact k
  obtain ⟨T293, X293, e293, st293⟩ := getF X291 hx hZ hown (host := "") (Or.inl (own_w hw 23 rfl)) Via.refl e291 Fr_ (g := (mkF m 14 #[.val (.ref ax), .val (.int pf), .val (.int pl)] [(.ref ax), (.ref ax)])) rfl rfl (hb hby d6_14)
  refine own_pre (fun t k => st293 t k) ?_
  refine own_pre (A := (T293.setTop (mkF m 19 #[.val (.ref ax), .val (.int pf), .val (.int pl)] [(.ref ax), (.int (2 : Int32)), (.ref ar), (.ref ax)]))) ?_ ?_
  · intro t k
    refine XS.iconst X293.here hx rfl (hb hby d6_17) ?_
    refine XS.aloadN X293.here hx rfl (hb hby d6_18) rfl rfl ?_
    exact k
  obtain ⟨T294, X294, e294, st294⟩ := getF X293 hx hZ hown (host := "") (Or.inl (own_w hw 30 rfl)) Via.refl e293 Fc (g := (mkF m 19 #[.val (.ref ax), .val (.int pf), .val (.int pl)] [(.ref ax), (.int (2 : Int32)), (.ref ar), (.ref ax)])) rfl rfl (hb hby d6_19)
  refine own_pre (fun t k => st294 t k) ?_
  refine own_pre (A := (T294.setTop (mkF m 23 #[.val (.ref ax), .val (.int pf), .val (.int pl)] [(.int (16 : Int32)), (.ref ar), (.ref ax)]))) ?_ ?_
  · intro t k
    refine XS.imul X294.here hx rfl (hb hby d6_22) rfl ?_
    show Steps p.tables e below (T294.setTop (mkF m 23 #[.val (.ref ax), .val (.int pf), .val (.int pl)] [(.int ((2 : Int32) * (8 : Int32))), (.ref ar), (.ref ax)])) _
    rw [show ((2 : Int32) * (8 : Int32)) = (16 : Int32) from by decide]
    exact k
  obtain ⟨_, _, ⟨T295, L295, k295, n295⟩, -, X295, ⟨Lc295, hQ295, l295, y295, z295⟩, st295⟩ := Jvm.LawKit.callS X294 hx (y := (⟨"java/util/Arrays", "copyOf", "([JI)[J"⟩ : MethodName)) hown (mvT hZ (own_w hw 37 rfl)) (mvT hZ (own_w hw 38 rfl)) (mvT hZ (own_w hw 39 rfl)) (mvT hZ (own_w hw 40 rfl)) (by decide) (backOf (W := 1) (rm8_x l Z a0 hw [] ar kr u0 u1 u2 u3 u4 u5 u6 u7 h0 n0 Z0 Vr Er) hZ (own_w hw 40 rfl) (own_w hw 39 rfl) (by decide) (by decide)) (g := (mkF m 23 #[.val (.ref ax), .val (.int pf), .val (.int pl)] [(.int (16 : Int32)), (.ref ar), (.ref ax)])) rfl (by rw [hml]; rfl) (argsL := [(.ref ar), (.int (16 : Int32))]) (rest := [(.ref ax)]) (lenOf own_pd4 rfl) rfl (by show 2 * 0 + _ ≤ _; exact Nat.le_of_eq rfl) (hb hby d6_23) (fun _ _ => ⟨rfl, e294, (by decide : 0 + 1 ≤ _), (by decide : 0 + 16 ≤ _)⟩)
  dsimp only [Pt.U, Pt.locs, Pt.cells, Pt.slots] at X295 l295 y295 z295 st295 hQ295
  replace y295 : _ = 1 := y295
  replace z295 : _ = 16 := z295
  subst y295 z295
  obtain ⟨Nq295, ad295, kq295, rfl, gq295, zz295, Vq295, Eq295, Kq295⟩ := hQ295
  have N295 := own_frl l295 N0 Nq295
  refine own_pre (fun t k => st295 t k) ?_
  have ne_ax_ad295 : ax ≠ ad295 := Nat.ne_of_lt (Nat.lt_of_lt_of_le Ea.lt zz295)
  have sz_ad295 : h0.size ≤ ad295 := Nat.le_trans (Keep.refl h0 [ax]).1 zz295
  have Ea_295 := Ea.keep Kq295
  have Fr__295 := Fr_.keep Kq295 nin0
  have Fc_295 := Fc.keep Kq295 nin0
  have Kc295 : Keep h0 T295.heap [ax] := (Keep.refl h0 [ax]).trans Kq295 all0
  obtain ⟨T296, h296, X296, e296, W296, st296⟩ := putF X295 hx hZ hown (host := "") (Or.inl (own_w hw 23 rfl)) Via.refl rfl Fr__295 Ea_295 (Or.inl (own_w hw 24 rfl)) (own_w hw 14 rfl) (ty := (.array .long)) (by decide) rfl rfl (g := (mkF m 26 #[.val (.ref ax), .val (.int pf), .val (.int pl)] [(.ref ad295), (.ref ax)])) rfl rfl (hb hby d6_26)
  have Ea_296 := Ea_295.wr W296
  have Fc_296 := Fc_295.other W296 (Or.inr (slot_ne (Or.inl (own_w hw 31 rfl)) (Or.inl (own_w hw 24 rfl)) (by decide) (t := .int) (t' := (.array .long)) (by decide) (by decide)))
  have Vq295_296 := Vq295.other W296 ne_ax_ad295.symm
  have Eq295_296 := Eq295.wr W296
  have Kc296 : Keep h0 h296 [ax] := Kc295.wr W296 (Or.inl (List.mem_of_getElem? (i := 0) rfl))
  have N296 := Fr.snoc X296 N295 ga
  have Fw296 := Fr__295.same W296
  refine own_pre (fun t k => st296 t k) ?_
  refine own_pre (A := (T296.setTop (mkF m 30 #[.val (.ref ax), .val (.int pf), .val (.int pl)] [(.ref ax)]))) ?_ ?_
  · intro t k
    refine XS.aloadN X296.here hx rfl (hb hby d6_29) rfl rfl ?_
    exact k
  obtain ⟨T297, X297, e297, st297⟩ := getF X296 hx hZ hown (host := "") (Or.inl (own_w hw 23 rfl)) Via.refl e296 Fw296 (g := (mkF m 30 #[.val (.ref ax), .val (.int pf), .val (.int pl)] [(.ref ax)])) rfl rfl (hb hby d6_30)
  refine own_pre (fun t k => st297 t k) ?_
  refine own_pre (A := (T297.setTop (mkF m 35 #[.val (.ref ax), .val (.int pf), .val (.int pl)] [(.ref ax), (.ref ax), (.ref ad295)]))) ?_ ?_
  · intro t k
    refine XS.aloadN X297.here hx rfl (hb hby d6_33) rfl rfl ?_
    refine XS.dup X297.here hx rfl (hb hby d6_34) rfl rfl ?_
    exact k
  obtain ⟨T298, X298, e298, st298⟩ := getF X297 hx hZ hown (host := "") (Or.inl (own_w hw 30 rfl)) Via.refl e297 Fc_296 (g := (mkF m 35 #[.val (.ref ax), .val (.int pf), .val (.int pl)] [(.ref ax), (.ref ax), (.ref ad295)])) rfl rfl (hb hby d6_35)
  refine own_pre (fun t k => st298 t k) ?_
  refine own_pre (A := (T298.setTop (mkF m 41 #[.val (.ref ax), .val (.int pf), .val (.int pl)] [(.int (9 : Int32)), (.ref ax), (.int (8 : Int32)), (.ref ad295)]))) ?_ ?_
  · intro t k
    refine XS.dupX1 X298.here hx rfl (hb hby d6_38) rfl rfl rfl ?_
    refine XS.iconst X298.here hx rfl (hb hby d6_39) ?_
    refine XS.iadd X298.here hx rfl (hb hby d6_40) rfl ?_
    show Steps p.tables e below (T298.setTop (mkF m 41 #[.val (.ref ax), .val (.int pf), .val (.int pl)] [(.int ((8 : Int32) + (1 : Int32))), (.ref ax), (.int (8 : Int32)), (.ref ad295)])) _
    rw [show ((8 : Int32) + (1 : Int32)) = (9 : Int32) from by decide]
    exact k
  obtain ⟨T299, h299, X299, e299, W299, st299⟩ := putF X298 hx hZ hown (host := "") (Or.inl (own_w hw 30 rfl)) Via.refl e298 Fc_296 Ea_296 (Or.inl (own_w hw 31 rfl)) (own_w hw 14 rfl) (ty := .int) (by decide) rfl rfl (g := (mkF m 41 #[.val (.ref ax), .val (.int pf), .val (.int pl)] [(.int (9 : Int32)), (.ref ax), (.int (8 : Int32)), (.ref ad295)])) rfl rfl (hb hby d6_41)
  have Fw296_299 := Fw296.other W299 (Or.inr (slot_ne (Or.inl (own_w hw 24 rfl)) (Or.inl (own_w hw 31 rfl)) (by decide) (t := (.array .long)) (t' := .int) (by decide) (by decide)))
  have Vq295_299 := Vq295_296.other W299 ne_ax_ad295.symm
  have Eq295_299 := Eq295_296.wr W299
  have Kc299 : Keep h0 h299 [ax] := Kc296.wr W299 (Or.inl (List.mem_of_getElem? (i := 0) rfl))
  have N299 := Fr.snoc X299 N296 ga
  have Fw299 := Fc_296.same W299
  refine own_pre (fun t k => st299 t k) ?_
  refine own_pre (A := (T299.setTop (mkF m 52 #[.val (.ref ax), .val (.int pf), .val (.int pl)] [(.long qw), (.int (8 : Int32)), (.ref ad295)]))) ?_ ?_
  · intro t k
    refine XS.iloadN X299.here hx rfl (hb hby d6_44) rfl ?_
    refine XS.i2l X299.here hx rfl (hb hby d6_45) rfl ?_
    refine XS.bipush X299.here hx rfl (hb hby d6_46) ?_
    refine XS.lshl X299.here hx rfl (hb hby d6_48) rfl ?_
    refine XS.iloadN X299.here hx rfl (hb hby d6_49) rfl ?_
    refine XS.i2l X299.here hx rfl (hb hby d6_50) rfl ?_
    refine XS.lor X299.here hx rfl (hb hby d6_51) rfl ?_
    show Steps p.tables e below (T299.setTop (mkF m 52 #[.val (.ref ax), .val (.int pf), .val (.int pl)] [(.long (((pf.toInt64) <<< ((32 : Int32) &&& 0x3f).toInt64) ||| (pl.toInt64))), (.int (8 : Int32)), (.ref ad295)])) _
    rw [← hq]
    exact k
  obtain ⟨cl300, Ar300, q300, S300, N300, H300, G300⟩ := Vq295_299
  have hin300 : ¬ ((8 : Int32) < 0 ∨ cl300.slots.size ≤ ((8 : Int32)).toNatClampNeg) := inb_of S300 ⟨by decide, by decide⟩
  obtain ⟨T300, h300, X300, e300, W300, st300⟩ := stJ X299 hx hZ e299 Ar300 (j := (8 : Int32)) hin300 (g := (mkF m 52 #[.val (.ref ax), .val (.int pf), .val (.int pl)] [(.long qw), (.int (8 : Int32)), (.ref ad295)])) rfl rfl (hb hby d6_52)
  have V300 : Arv Z h300 ad295 kq295 .long (16 : Int32) [(.long u0), (.long u1), (.long u2), (.long u3), (.long u4), (.long u5), (.long u6), (.long u7), (.long qw), (.long (0 : Int64)), (.long (0 : Int64)), (.long (0 : Int64)), (.long (0 : Int64)), (.long (0 : Int64)), (.long (0 : Int64)), (.long (0 : Int64))] (.long (0 : Int64)) := Arv.set Ar300 q300 S300 N300 H300 G300 rfl W300 8 rfl (Nat.le_of_ble_eq_true rfl)
  have Fw296_300 := Fw296_299.other W300 (Or.inl ne_ax_ad295)
  have Fw299_300 := Fw299.other W300 (Or.inl ne_ax_ad295)
  have Eq295_300 := Eq295_299.wr W300
  have Kc300 : Keep h0 h300 [ax] := Kc299.wr W300 (Or.inr sz_ad295)
  have N300 := Fr.snoc X300 N299 gq295
  refine own_pre (fun t k => st300 t k) ?_
  obtain ⟨fs, hr, hrun, hended, hW, hsame⟩ := X300.leave (hlocks := BodyLoose.notSynchronized Bd) (v := none) (fun _ => rfl)
  refine ⟨_, _, X300.returnOut hx Bd.returns (hb hby d6_53) hr, hrun, hended, _, _, rfl, ?_, ⟨_, rfl⟩, hW, hsame.mono (by decide) (by decide)⟩
  show own_Q6_8 Z ax pf pl ar kr u0 u1 u2 u3 u4 u5 u6 u7 qw h0 n0 _ T300.heap _
  rw [e300]
  exact ⟨rfl, N300, Kc300, ad295, kq295, gq295, sz_ad295, ne_ax_ad295, Fw296_300, Fw299_300, V300, Eq295_300⟩
theorem d16_0 : decode prog_5_method_9_code 0 = .ok (.iconst 0, 1) := by decide +kernel
theorem d16_1 : decode prog_5_method_9_code 1 = .ok (.istore_n 2, 1) := by decide +kernel
theorem d16_2 : decode prog_5_method_9_code 2 = .ok (.aload_n 0, 1) := by decide +kernel
theorem d16_3 : decode prog_5_method_9_code 3 = .ok (.getfield 7, 3) := by decide +kernel
theorem d16_6 : decode prog_5_method_9_code 6 = .ok (.arraylength, 1) := by decide +kernel
theorem d16_7 : decode prog_5_method_9_code 7 = .ok (.iconst 2, 1) := by decide +kernel
theorem d16_8 : decode prog_5_method_9_code 8 = .ok (.idiv, 1) := by decide +kernel
theorem d16_9 : decode prog_5_method_9_code 9 = .ok (.iconst 1, 1) := by decide +kernel
theorem d16_10 : decode prog_5_method_9_code 10 = .ok (.isub, 1) := by decide +kernel
theorem d16_11 : decode prog_5_method_9_code 11 = .ok (.istore_n 3, 1) := by decide +kernel
theorem d16_12 : decode prog_5_method_9_code 12 = .ok (.iload_n 2, 1) := by decide +kernel
theorem d16_13 : decode prog_5_method_9_code 13 = .ok (.iload_n 3, 1) := by decide +kernel
theorem d16_14 : decode prog_5_method_9_code 14 = .ok (.if_icmp .gt 59, 3) := by decide +kernel
theorem d16_17 : decode prog_5_method_9_code 17 = .ok (.iload_n 2, 1) := by decide +kernel
theorem d16_18 : decode prog_5_method_9_code 18 = .ok (.iload_n 3, 1) := by decide +kernel
theorem d16_19 : decode prog_5_method_9_code 19 = .ok (.iadd, 1) := by decide +kernel
theorem d16_20 : decode prog_5_method_9_code 20 = .ok (.iconst 1, 1) := by decide +kernel
theorem d16_21 : decode prog_5_method_9_code 21 = .ok (.iushr, 1) := by decide +kernel
theorem d16_22 : decode prog_5_method_9_code 22 = .ok (.istore 4, 2) := by decide +kernel
theorem d16_24 : decode prog_5_method_9_code 24 = .ok (.iload_n 1, 1) := by decide +kernel
theorem d16_25 : decode prog_5_method_9_code 25 = .ok (.aload_n 0, 1) := by decide +kernel
theorem d16_26 : decode prog_5_method_9_code 26 = .ok (.getfield 7, 3) := by decide +kernel
theorem d16_29 : decode prog_5_method_9_code 29 = .ok (.iconst 2, 1) := by decide +kernel
theorem d16_30 : decode prog_5_method_9_code 30 = .ok (.iload 4, 2) := by decide +kernel
theorem d16_32 : decode prog_5_method_9_code 32 = .ok (.imul, 1) := by decide +kernel
theorem d16_33 : decode prog_5_method_9_code 33 = .ok (.iaload, 1) := by decide +kernel
theorem d16_34 : decode prog_5_method_9_code 34 = .ok (.if_icmp .ge 11, 3) := by decide +kernel
theorem d16_37 : decode prog_5_method_9_code 37 = .ok (.iload 4, 2) := by decide +kernel
theorem d16_39 : decode prog_5_method_9_code 39 = .ok (.iconst 1, 1) := by decide +kernel
theorem d16_40 : decode prog_5_method_9_code 40 = .ok (.isub, 1) := by decide +kernel
theorem d16_41 : decode prog_5_method_9_code 41 = .ok (.istore_n 3, 1) := by decide +kernel
theorem d16_42 : decode prog_5_method_9_code 42 = .ok (.goto 28, 3) := by decide +kernel
theorem d16_45 : decode prog_5_method_9_code 45 = .ok (.iload_n 1, 1) := by decide +kernel
theorem d16_46 : decode prog_5_method_9_code 46 = .ok (.aload_n 0, 1) := by decide +kernel
theorem d16_47 : decode prog_5_method_9_code 47 = .ok (.getfield 7, 3) := by decide +kernel
theorem d16_50 : decode prog_5_method_9_code 50 = .ok (.iconst 2, 1) := by decide +kernel
theorem d16_51 : decode prog_5_method_9_code 51 = .ok (.iload 4, 2) := by decide +kernel
theorem d16_53 : decode prog_5_method_9_code 53 = .ok (.imul, 1) := by decide +kernel
theorem d16_54 : decode prog_5_method_9_code 54 = .ok (.iconst 1, 1) := by decide +kernel
theorem d16_55 : decode prog_5_method_9_code 55 = .ok (.iadd, 1) := by decide +kernel
theorem d16_56 : decode prog_5_method_9_code 56 = .ok (.iaload, 1) := by decide +kernel
theorem d16_57 : decode prog_5_method_9_code 57 = .ok (.if_icmp .le 11, 3) := by decide +kernel
theorem d16_60 : decode prog_5_method_9_code 60 = .ok (.iload 4, 2) := by decide +kernel
theorem d16_62 : decode prog_5_method_9_code 62 = .ok (.iconst 1, 1) := by decide +kernel
theorem d16_63 : decode prog_5_method_9_code 63 = .ok (.iadd, 1) := by decide +kernel
theorem d16_64 : decode prog_5_method_9_code 64 = .ok (.istore_n 2, 1) := by decide +kernel
theorem d16_65 : decode prog_5_method_9_code 65 = .ok (.goto 5, 3) := by decide +kernel
theorem d16_68 : decode prog_5_method_9_code 68 = .ok (.iconst 1, 1) := by decide +kernel
theorem d16_69 : decode prog_5_method_9_code 69 = .ok (.ireturn, 1) := by decide +kernel
theorem d16_70 : decode prog_5_method_9_code 70 = .ok (.goto (-58), 3) := by decide +kernel
theorem d16_73 : decode prog_5_method_9_code 73 = .ok (.iconst 0, 1) := by decide +kernel
theorem d16_74 : decode prog_5_method_9_code 74 = .ok (.ireturn, 1) := by decide +kernel
theorem own_pn16 : plainName "com/example/otito/otito/chain/CodePointSet" = true := by first | (simp [plainName, overriddenIn]; done) | decide +kernel
theorem own_ef16 (m : MethodId) (x0 : Addr) (x1 : Int32) : entryFrame m #[(.ref x0), (.int x1)] 5 = mkF m 0 #[.val (.ref x0), .val (.int x1), .unset, .unset, .unset] [] := by first | (simp [entryFrame, mkF, argsToLocals, Value.category]; done) | rfl
def own_ct0 (px : Int32) : Int32 := (0 : Int32)
def own_Q16_0 (Z : State) (ax : Addr) (px : Int32) (ab : Addr) (kb : ClassId) (h0 : Heap) (n0 : Nat) (v : Option Value) (h : Heap) (L : List Loc) : Prop := v = some (.int (own_ct0 px)) ∧ Fr n0 L ∧ h = h0
set_option maxRecDepth 65536 in
set_option maxHeartbeats 40000000 in
theorem rm16_0 (l : Launch) (Z : State) (a0 : Array Value) (hw : ∀ d ∈ tables_1, d.before a0 Z = true) (ws : List Jvm.Cond) (ax : Addr) (px : Int32) (ab : Addr) (kb : ClassId) (h0 : Heap) (n0 : Nat) (Z0 : n0 ≤ h0.size) (Fb : Fld Z h0 ax "com/example/otito/otito/chain/CodePointSet" "bounds" "[I" (.ref ab)) (Vb : Arv Z h0 ab kb .int (0 : Int32) [] (.int (0 : Int32))) :
    MetFree l (⟨"com/example/otito/otito/chain/CodePointSet", "contains", "(I)Z"⟩ : MethodName) (head1 (Jvm.Cond.code (⟨"com/example/otito/otito/chain/CodePointSet", "contains", "(I)Z"⟩ : MethodName) prog_5_method_9_code 5 (some .boolean) :: ws) ({ frames := 0, cells := 0, slots := 0, locals := 0 } : Room)) (fun a U => a = #[(.ref ax), (.int px)] ∧ Z.Warmed39 U.vm ∧ U.heap = h0) (fun _ _ _ _ _ => True) (fun _ U o U' => ∃ v L, o = .returned v ∧ own_Q16_0 Z ax px ab kb h0 n0 v U'.heap L ∧ FrameEnd U o U' L ({ frames := 0, cells := 0, slots := 0, locals := 0 } : Room).cells ({ frames := 0, cells := 0, slots := 0, locals := 0 } : Room).slots) := by
  refine MetFree.of_bodySF (plainFor_of_name own_pn16) hisR ?_
  intro p e s m args below meth c s₁ Bd hml0 hP hK
  obtain ⟨rfl, hZ, hh⟩ := hP
  have hx := Bd.exec
  have hby := Bd.bytes
  have hml : c.maxLocals = 5 := hml0
  have hown : s.vm.findClass "com/example/otito/otito/chain/CodePointSet" = some m.cls := findClass_of_methodNamed Bd.named
  have hnm := (name_of_methodNamed Bd.named Bd.method).1
  have X0 : Stand p l e ({ frames := 0, cells := 0, slots := 0, locals := 0 } : Room) s m #[(.ref ax), (.int px)] below meth c s₁ [] 0 0 := Stand.of_body Bd
  have e0 : s₁.heap = h0 := by rw [← hh, Bd.state]; rfl
  have N0 := Fr.nil n0
  refine own_pre (A := (s₁.setTop (mkF m 0 #[.val (.ref ax), .val (.int px), .unset, .unset, .unset] []))) (fun t k => castTop (own_ef16 m ax px) k) ?_
  refine own_pre (A := (s₁.setTop (mkF m 3 #[.val (.ref ax), .val (.int px), .val (.int (0 : Int32)), .unset, .unset] [(.ref ax)]))) ?_ ?_
  · intro t k
    refine XS.iconst X0.here hx rfl (hb hby d16_0) ?_
    refine XS.istoreN X0.here hx rfl (hb hby d16_1) rfl (l' := #[.val (.ref ax), .val (.int px), .val (.int (0 : Int32)), .unset, .unset]) rfl ?_
    refine XS.aloadN X0.here hx rfl (hb hby d16_2) rfl rfl ?_
    exact k
  obtain ⟨T301, X301, e301, st301⟩ := getF X0 hx hZ hown (host := "") (Or.inl (own_w hw 71 rfl)) Via.refl e0 Fb (g := (mkF m 3 #[.val (.ref ax), .val (.int px), .val (.int (0 : Int32)), .unset, .unset] [(.ref ax)])) rfl rfl (hb hby d16_3)
  refine own_pre (fun t k => st301 t k) ?_
  refine own_pre (A := (T301.setTop (mkF m 74 #[.val (.ref ax), .val (.int px), .val (.int (0 : Int32)), .val (.int (-1 : Int32)), .unset] [(.int (0 : Int32))]))) ?_ ?_
  · intro t k
    show Steps p.tables e below (T301.setTop (mkF m 6 #[.val (.ref ax), .val (.int px), .val (.int (0 : Int32)), .unset, .unset] [(.ref ab)])) _
    obtain ⟨cl302, Ar302, -, S302, N302, -, -⟩ := id Vb
    refine X301.arraylength hx (by rw [e301]; exact Ar302.1) (State.isArrayOf_alike hZ.alike Ar302.2.1) (g := (mkF m 6 #[.val (.ref ax), .val (.int px), .val (.int (0 : Int32)), .unset, .unset] [(.ref ab)])) rfl rfl (hb hby d16_6) _ ?_
    rw [len_of S302 N302]
    refine XS.iconst X301.here hx rfl (hb hby d16_7) ?_
    refine XS.idiv X301.here hx rfl (hb hby d16_8) rfl (by decide) ?_
    show Steps p.tables e below (T301.setTop (mkF m 9 #[.val (.ref ax), .val (.int px), .val (.int (0 : Int32)), .unset, .unset] [(.int ((0 : Int32) / (2 : Int32)))])) _
    rw [show ((0 : Int32) / (2 : Int32)) = (0 : Int32) from by decide]
    refine XS.iconst X301.here hx rfl (hb hby d16_9) ?_
    refine XS.isub X301.here hx rfl (hb hby d16_10) rfl ?_
    show Steps p.tables e below (T301.setTop (mkF m 11 #[.val (.ref ax), .val (.int px), .val (.int (0 : Int32)), .unset, .unset] [(.int ((0 : Int32) - (1 : Int32)))])) _
    rw [show ((0 : Int32) - (1 : Int32)) = (-1 : Int32) from by decide]
    refine XS.istoreN X301.here hx rfl (hb hby d16_11) rfl (l' := #[.val (.ref ax), .val (.int px), .val (.int (0 : Int32)), .val (.int (-1 : Int32)), .unset]) rfl ?_
    refine XS.iloadN X301.here hx rfl (hb hby d16_12) rfl ?_
    refine XS.iloadN X301.here hx rfl (hb hby d16_13) rfl ?_
    refine XS.icmpYes X301.here hx rfl (pc0 := 14) (pc' := 73) rfl (hb hby d16_14) rfl (tlt (by decide : (-1 : Int32) < (0 : Int32))).2.2.1 (by decide) (by decide) ?_
    refine XS.iconst X301.here hx rfl (hb hby d16_73) ?_
    exact k
  have hz : own_ct0 px = (0 : Int32) := rfl
  obtain ⟨fs, hr, hrun, hended, hW, hsame⟩ := X301.leave (hlocks := BodyLoose.notSynchronized Bd) (v := some (.int (0 : Int32))) (fun h => by rw [Bd.returns] at h; cases h)
  refine ⟨_, _, retOut X301 hx Bd.returns rfl (Or.inl ⟨rfl, Or.inr (Or.inl rfl), _, rfl⟩) (hb hby d16_74) hr, hrun, hended, _, _, rfl, ?_, ⟨_, rfl⟩, hW, hsame.mono (by decide) (by decide)⟩
  show own_Q16_0 Z ax px ab kb h0 n0 _ T301.heap _
  rw [e301]
  exact ⟨by rw [hz], N0, rfl⟩
abbrev own_l111 (x0 : Addr) (x1 : Int32) : Array Slot := #[.val (.ref x0), .val (.int x1), .val (.int (0 : Int32)), .val (.int (0 : Int32)), .val (.int (0 : Int32))]
abbrev own_l112 (x0 : Addr) (x1 : Int32) : Array Slot := #[.val (.ref x0), .val (.int x1), .val (.int (0 : Int32)), .val (.int (-1 : Int32)), .val (.int (0 : Int32))]
abbrev own_l113 (x0 : Addr) (x1 : Int32) : Array Slot := #[.val (.ref x0), .val (.int x1), .val (.int (1 : Int32)), .val (.int (0 : Int32)), .val (.int (0 : Int32))]
def own_ct2 (px : Int32) (pb0 : Int32) (pb1 : Int32) : Int32 := (if px < pb0 then (0 : Int32) else (if pb1 < px then (0 : Int32) else (1 : Int32)))
def own_Q16_2 (Z : State) (ax : Addr) (px : Int32) (ab : Addr) (kb : ClassId) (pb0 : Int32) (pb1 : Int32) (h0 : Heap) (n0 : Nat) (v : Option Value) (h : Heap) (L : List Loc) : Prop := v = some (.int (own_ct2 px pb0 pb1)) ∧ Fr n0 L ∧ h = h0
set_option maxRecDepth 65536 in
set_option maxHeartbeats 40000000 in
theorem rm16_2 (l : Launch) (Z : State) (a0 : Array Value) (hw : ∀ d ∈ tables_1, d.before a0 Z = true) (ws : List Jvm.Cond) (ax : Addr) (px : Int32) (ab : Addr) (kb : ClassId) (pb0 : Int32) (pb1 : Int32) (h0 : Heap) (n0 : Nat) (Z0 : n0 ≤ h0.size) (Fb : Fld Z h0 ax "com/example/otito/otito/chain/CodePointSet" "bounds" "[I" (.ref ab)) (Vb : Arv Z h0 ab kb .int (2 : Int32) [(.int pb0), (.int pb1)] (.int (0 : Int32))) :
    MetFree l (⟨"com/example/otito/otito/chain/CodePointSet", "contains", "(I)Z"⟩ : MethodName) (head1 (Jvm.Cond.code (⟨"com/example/otito/otito/chain/CodePointSet", "contains", "(I)Z"⟩ : MethodName) prog_5_method_9_code 5 (some .boolean) :: ws) ({ frames := 0, cells := 0, slots := 0, locals := 0 } : Room)) (fun a U => a = #[(.ref ax), (.int px)] ∧ Z.Warmed39 U.vm ∧ U.heap = h0) (fun _ _ _ _ _ => True) (fun _ U o U' => ∃ v L, o = .returned v ∧ own_Q16_2 Z ax px ab kb pb0 pb1 h0 n0 v U'.heap L ∧ FrameEnd U o U' L ({ frames := 0, cells := 0, slots := 0, locals := 0 } : Room).cells ({ frames := 0, cells := 0, slots := 0, locals := 0 } : Room).slots) := by
  refine MetFree.of_bodySF (plainFor_of_name own_pn16) hisR ?_
  intro p e s m args below meth c s₁ Bd hml0 hP hK
  obtain ⟨rfl, hZ, hh⟩ := hP
  have hx := Bd.exec
  have hby := Bd.bytes
  have hml : c.maxLocals = 5 := hml0
  have hown : s.vm.findClass "com/example/otito/otito/chain/CodePointSet" = some m.cls := findClass_of_methodNamed Bd.named
  have hnm := (name_of_methodNamed Bd.named Bd.method).1
  have X0 : Stand p l e ({ frames := 0, cells := 0, slots := 0, locals := 0 } : Room) s m #[(.ref ax), (.int px)] below meth c s₁ [] 0 0 := Stand.of_body Bd
  have e0 : s₁.heap = h0 := by rw [← hh, Bd.state]; rfl
  have N0 := Fr.nil n0
  refine own_pre (A := (s₁.setTop (mkF m 0 #[.val (.ref ax), .val (.int px), .unset, .unset, .unset] []))) (fun t k => castTop (own_ef16 m ax px) k) ?_
  refine own_pre (A := (s₁.setTop (mkF m 3 #[.val (.ref ax), .val (.int px), .val (.int (0 : Int32)), .unset, .unset] [(.ref ax)]))) ?_ ?_
  · intro t k
    refine XS.iconst X0.here hx rfl (hb hby d16_0) ?_
    refine XS.istoreN X0.here hx rfl (hb hby d16_1) rfl (l' := #[.val (.ref ax), .val (.int px), .val (.int (0 : Int32)), .unset, .unset]) rfl ?_
    refine XS.aloadN X0.here hx rfl (hb hby d16_2) rfl rfl ?_
    exact k
  obtain ⟨T303, X303, e303, st303⟩ := getF X0 hx hZ hown (host := "") (Or.inl (own_w hw 71 rfl)) Via.refl e0 Fb (g := (mkF m 3 #[.val (.ref ax), .val (.int px), .val (.int (0 : Int32)), .unset, .unset] [(.ref ax)])) rfl rfl (hb hby d16_3)
  refine own_pre (fun t k => st303 t k) ?_
  refine own_pre (A := (T303.setTop (mkF m 26 (own_l111 ax px) [(.ref ax), (.int px)]))) ?_ ?_
  · intro t k
    show Steps p.tables e below (T303.setTop (mkF m 6 #[.val (.ref ax), .val (.int px), .val (.int (0 : Int32)), .unset, .unset] [(.ref ab)])) _
    obtain ⟨cl304, Ar304, -, S304, N304, -, -⟩ := id Vb
    refine X303.arraylength hx (by rw [e303]; exact Ar304.1) (State.isArrayOf_alike hZ.alike Ar304.2.1) (g := (mkF m 6 #[.val (.ref ax), .val (.int px), .val (.int (0 : Int32)), .unset, .unset] [(.ref ab)])) rfl rfl (hb hby d16_6) _ ?_
    rw [len_of S304 N304]
    refine XS.iconst X303.here hx rfl (hb hby d16_7) ?_
    refine XS.idiv X303.here hx rfl (hb hby d16_8) rfl (by decide) ?_
    show Steps p.tables e below (T303.setTop (mkF m 9 #[.val (.ref ax), .val (.int px), .val (.int (0 : Int32)), .unset, .unset] [(.int ((2 : Int32) / (2 : Int32)))])) _
    rw [show ((2 : Int32) / (2 : Int32)) = (1 : Int32) from by decide]
    refine XS.iconst X303.here hx rfl (hb hby d16_9) ?_
    refine XS.isub X303.here hx rfl (hb hby d16_10) rfl ?_
    show Steps p.tables e below (T303.setTop (mkF m 11 #[.val (.ref ax), .val (.int px), .val (.int (0 : Int32)), .unset, .unset] [(.int ((1 : Int32) - (1 : Int32)))])) _
    rw [show ((1 : Int32) - (1 : Int32)) = (0 : Int32) from by decide]
    refine XS.istoreN X303.here hx rfl (hb hby d16_11) rfl (l' := #[.val (.ref ax), .val (.int px), .val (.int (0 : Int32)), .val (.int (0 : Int32)), .unset]) rfl ?_
    refine XS.iloadN X303.here hx rfl (hb hby d16_12) rfl ?_
    refine XS.iloadN X303.here hx rfl (hb hby d16_13) rfl ?_
    refine XS.icmpNo X303.here hx rfl (hb hby d16_14) rfl (flt (by decide : ¬ ((0 : Int32) < (0 : Int32)))).2.2.1 ?_
    refine XS.iloadN X303.here hx rfl (hb hby d16_17) rfl ?_
    refine XS.iloadN X303.here hx rfl (hb hby d16_18) rfl ?_
    refine XS.iadd X303.here hx rfl (hb hby d16_19) rfl ?_
    show Steps p.tables e below (T303.setTop (mkF m 20 #[.val (.ref ax), .val (.int px), .val (.int (0 : Int32)), .val (.int (0 : Int32)), .unset] [(.int ((0 : Int32) + (0 : Int32)))])) _
    rw [show ((0 : Int32) + (0 : Int32)) = (0 : Int32) from by decide]
    refine XS.iconst X303.here hx rfl (hb hby d16_20) ?_
    refine XS.iushr X303.here hx rfl (hb hby d16_21) rfl ?_
    show Steps p.tables e below (T303.setTop (mkF m 22 #[.val (.ref ax), .val (.int px), .val (.int (0 : Int32)), .val (.int (0 : Int32)), .unset] [(.int (((0 : Int32).toUInt32 >>> ((1 : Int32) &&& 31).toUInt32).toInt32))])) _
    rw [show (((0 : Int32).toUInt32 >>> ((1 : Int32) &&& 31).toUInt32).toInt32) = (0 : Int32) from by decide]
    refine XS.istore X303.here hx rfl (hb hby d16_22) rfl (l' := (own_l111 ax px)) rfl ?_
    refine XS.iloadN X303.here hx rfl (hb hby d16_24) rfl ?_
    refine XS.aloadN X303.here hx rfl (hb hby d16_25) rfl rfl ?_
    exact k
  obtain ⟨T305, X305, e305, st305⟩ := getF X303 hx hZ hown (host := "") (Or.inl (own_w hw 71 rfl)) Via.refl e303 Fb (g := (mkF m 26 (own_l111 ax px) [(.ref ax), (.int px)])) rfl rfl (hb hby d16_26)
  refine own_pre (fun t k => st305 t k) ?_
  refine own_pre (A := (T305.setTop (mkF m 34 (own_l111 ax px) [(.int pb0), (.int px)]))) ?_ ?_
  · intro t k
    refine XS.iconst X305.here hx rfl (hb hby d16_29) ?_
    refine XS.iload X305.here hx rfl (hb hby d16_30) rfl ?_
    refine XS.imul X305.here hx rfl (hb hby d16_32) rfl ?_
    show Steps p.tables e below (T305.setTop (mkF m 33 (own_l111 ax px) [(.int ((2 : Int32) * (0 : Int32))), (.ref ab), (.int px)])) _
    rw [show ((2 : Int32) * (0 : Int32)) = (0 : Int32) from by decide]
    show Steps p.tables e below (T305.setTop (mkF m 33 (own_l111 ax px) [(.int (0 : Int32)), (.ref ab), (.int px)])) _
    obtain ⟨cl306, Ar306, q306, S306, N306, H306, G306⟩ := id Vb
    have hin306 : ¬ ((0 : Int32) < 0 ∨ cl306.slots.size ≤ ((0 : Int32)).toNatClampNeg) := inb_of S306 ⟨by decide, by decide⟩
    refine X305.iaload hx (j := (0 : Int32)) (v := (.int pb0)) (by rw [e305]; exact Ar306.1) (State.isArrayOf_alike hZ.alike Ar306.2.1) Ar306.2.2 hin306 (H306.at hin306 rfl) (g := (mkF m 33 (own_l111 ax px) [(.int (0 : Int32)), (.ref ab), (.int px)])) rfl rfl (hb hby d16_33) _ ?_
    exact k
  by_cases hc307 : px < pb0
  · skip
    refine own_pre (A := (T305.setTop (mkF m 37 (own_l111 ax px) []))) ?_ ?_
    · intro t k
      refine XS.icmpNo X305.here hx rfl (hb hby d16_34) rfl (tlt hc307).2.1 ?_
      exact k
    refine own_pre (A := (T305.setTop (mkF m 74 (own_l112 ax px) [(.int (0 : Int32))]))) ?_ ?_
    · intro t k
      refine XS.iload X305.here hx rfl (hb hby d16_37) rfl ?_
      refine XS.iconst X305.here hx rfl (hb hby d16_39) ?_
      refine XS.isub X305.here hx rfl (hb hby d16_40) rfl ?_
      show Steps p.tables e below (T305.setTop (mkF m 41 (own_l111 ax px) [(.int ((0 : Int32) - (1 : Int32)))])) _
      rw [show ((0 : Int32) - (1 : Int32)) = (-1 : Int32) from by decide]
      refine XS.istoreN X305.here hx rfl (hb hby d16_41) rfl (l' := (own_l112 ax px)) rfl ?_
      refine XS.goto X305.here hx rfl (pc0 := 42) (pc' := 70) rfl (hb hby d16_42) (by decide) (by decide) ?_
      refine XS.goto X305.here hx rfl (pc0 := 70) (pc' := 12) rfl (hb hby d16_70) (by decide) (by decide) ?_
      refine XS.iloadN X305.here hx rfl (hb hby d16_12) rfl ?_
      refine XS.iloadN X305.here hx rfl (hb hby d16_13) rfl ?_
      refine XS.icmpYes X305.here hx rfl (pc0 := 14) (pc' := 73) rfl (hb hby d16_14) rfl (tlt (by decide : (-1 : Int32) < (0 : Int32))).2.2.1 (by decide) (by decide) ?_
      refine XS.iconst X305.here hx rfl (hb hby d16_73) ?_
      exact k
    have hz : own_ct2 px pb0 pb1 = (0 : Int32) := by simp only [own_ct2, if_pos hc307]
    obtain ⟨fs, hr, hrun, hended, hW, hsame⟩ := X305.leave (hlocks := BodyLoose.notSynchronized Bd) (v := some (.int (0 : Int32))) (fun h => by rw [Bd.returns] at h; cases h)
    refine ⟨_, _, retOut X305 hx Bd.returns rfl (Or.inl ⟨rfl, Or.inr (Or.inl rfl), _, rfl⟩) (hb hby d16_74) hr, hrun, hended, _, _, rfl, ?_, ⟨_, rfl⟩, hW, hsame.mono (by decide) (by decide)⟩
    show own_Q16_2 Z ax px ab kb pb0 pb1 h0 n0 _ T305.heap _
    rw [e305]
    exact ⟨by rw [hz], N0, rfl⟩
  · skip
    refine own_pre (A := (T305.setTop (mkF m 45 (own_l111 ax px) []))) ?_ ?_
    · intro t k
      refine XS.icmpYes X305.here hx rfl (pc0 := 34) (pc' := 45) rfl (hb hby d16_34) rfl (flt hc307).2.1 (by decide) (by decide) ?_
      exact k
    refine own_pre (A := (T305.setTop (mkF m 47 (own_l111 ax px) [(.ref ax), (.int px)]))) ?_ ?_
    · intro t k
      refine XS.iloadN X305.here hx rfl (hb hby d16_45) rfl ?_
      refine XS.aloadN X305.here hx rfl (hb hby d16_46) rfl rfl ?_
      exact k
    obtain ⟨T308, X308, e308, st308⟩ := getF X305 hx hZ hown (host := "") (Or.inl (own_w hw 71 rfl)) Via.refl e305 Fb (g := (mkF m 47 (own_l111 ax px) [(.ref ax), (.int px)])) rfl rfl (hb hby d16_47)
    refine own_pre (fun t k => st308 t k) ?_
    refine own_pre (A := (T308.setTop (mkF m 57 (own_l111 ax px) [(.int pb1), (.int px)]))) ?_ ?_
    · intro t k
      refine XS.iconst X308.here hx rfl (hb hby d16_50) ?_
      refine XS.iload X308.here hx rfl (hb hby d16_51) rfl ?_
      refine XS.imul X308.here hx rfl (hb hby d16_53) rfl ?_
      show Steps p.tables e below (T308.setTop (mkF m 54 (own_l111 ax px) [(.int ((2 : Int32) * (0 : Int32))), (.ref ab), (.int px)])) _
      rw [show ((2 : Int32) * (0 : Int32)) = (0 : Int32) from by decide]
      refine XS.iconst X308.here hx rfl (hb hby d16_54) ?_
      refine XS.iadd X308.here hx rfl (hb hby d16_55) rfl ?_
      show Steps p.tables e below (T308.setTop (mkF m 56 (own_l111 ax px) [(.int ((0 : Int32) + (1 : Int32))), (.ref ab), (.int px)])) _
      rw [show ((0 : Int32) + (1 : Int32)) = (1 : Int32) from by decide]
      show Steps p.tables e below (T308.setTop (mkF m 56 (own_l111 ax px) [(.int (1 : Int32)), (.ref ab), (.int px)])) _
      obtain ⟨cl309, Ar309, q309, S309, N309, H309, G309⟩ := id Vb
      have hin309 : ¬ ((1 : Int32) < 0 ∨ cl309.slots.size ≤ ((1 : Int32)).toNatClampNeg) := inb_of S309 ⟨by decide, by decide⟩
      refine X308.iaload hx (j := (1 : Int32)) (v := (.int pb1)) (by rw [e308]; exact Ar309.1) (State.isArrayOf_alike hZ.alike Ar309.2.1) Ar309.2.2 hin309 (H309.at hin309 rfl) (g := (mkF m 56 (own_l111 ax px) [(.int (1 : Int32)), (.ref ab), (.int px)])) rfl rfl (hb hby d16_56) _ ?_
      exact k
    by_cases hc310 : pb1 < px
    · skip
      refine own_pre (A := (T308.setTop (mkF m 60 (own_l111 ax px) []))) ?_ ?_
      · intro t k
        refine XS.icmpNo X308.here hx rfl (hb hby d16_57) rfl (tlt hc310).2.2.2 ?_
        exact k
      refine own_pre (A := (T308.setTop (mkF m 74 (own_l113 ax px) [(.int (0 : Int32))]))) ?_ ?_
      · intro t k
        refine XS.iload X308.here hx rfl (hb hby d16_60) rfl ?_
        refine XS.iconst X308.here hx rfl (hb hby d16_62) ?_
        refine XS.iadd X308.here hx rfl (hb hby d16_63) rfl ?_
        show Steps p.tables e below (T308.setTop (mkF m 64 (own_l111 ax px) [(.int ((0 : Int32) + (1 : Int32)))])) _
        rw [show ((0 : Int32) + (1 : Int32)) = (1 : Int32) from by decide]
        refine XS.istoreN X308.here hx rfl (hb hby d16_64) rfl (l' := (own_l113 ax px)) rfl ?_
        refine XS.goto X308.here hx rfl (pc0 := 65) (pc' := 70) rfl (hb hby d16_65) (by decide) (by decide) ?_
        refine XS.goto X308.here hx rfl (pc0 := 70) (pc' := 12) rfl (hb hby d16_70) (by decide) (by decide) ?_
        refine XS.iloadN X308.here hx rfl (hb hby d16_12) rfl ?_
        refine XS.iloadN X308.here hx rfl (hb hby d16_13) rfl ?_
        refine XS.icmpYes X308.here hx rfl (pc0 := 14) (pc' := 73) rfl (hb hby d16_14) rfl (tlt (by decide : (0 : Int32) < (1 : Int32))).2.2.1 (by decide) (by decide) ?_
        refine XS.iconst X308.here hx rfl (hb hby d16_73) ?_
        exact k
      have hz : own_ct2 px pb0 pb1 = (0 : Int32) := by simp only [own_ct2, if_neg hc307, if_pos hc310]
      obtain ⟨fs, hr, hrun, hended, hW, hsame⟩ := X308.leave (hlocks := BodyLoose.notSynchronized Bd) (v := some (.int (0 : Int32))) (fun h => by rw [Bd.returns] at h; cases h)
      refine ⟨_, _, retOut X308 hx Bd.returns rfl (Or.inl ⟨rfl, Or.inr (Or.inl rfl), _, rfl⟩) (hb hby d16_74) hr, hrun, hended, _, _, rfl, ?_, ⟨_, rfl⟩, hW, hsame.mono (by decide) (by decide)⟩
      show own_Q16_2 Z ax px ab kb pb0 pb1 h0 n0 _ T308.heap _
      rw [e308]
      exact ⟨by rw [hz], N0, rfl⟩
    · skip
      refine own_pre (A := (T308.setTop (mkF m 68 (own_l111 ax px) []))) ?_ ?_
      · intro t k
        refine XS.icmpYes X308.here hx rfl (pc0 := 57) (pc' := 68) rfl (hb hby d16_57) rfl (flt hc310).2.2.2 (by decide) (by decide) ?_
        exact k
      refine own_pre (A := (T308.setTop (mkF m 69 (own_l111 ax px) [(.int (1 : Int32))]))) ?_ ?_
      · intro t k
        refine XS.iconst X308.here hx rfl (hb hby d16_68) ?_
        exact k
      have hz : own_ct2 px pb0 pb1 = (1 : Int32) := by simp only [own_ct2, if_neg hc307, if_neg hc310]
      obtain ⟨fs, hr, hrun, hended, hW, hsame⟩ := X308.leave (hlocks := BodyLoose.notSynchronized Bd) (v := some (.int (1 : Int32))) (fun h => by rw [Bd.returns] at h; cases h)
      refine ⟨_, _, retOut X308 hx Bd.returns rfl (Or.inl ⟨rfl, Or.inr (Or.inl rfl), _, rfl⟩) (hb hby d16_69) hr, hrun, hended, _, _, rfl, ?_, ⟨_, rfl⟩, hW, hsame.mono (by decide) (by decide)⟩
      show own_Q16_2 Z ax px ab kb pb0 pb1 h0 n0 _ T308.heap _
      rw [e308]
      exact ⟨by rw [hz], N0, rfl⟩
abbrev own_l114 (x0 : Addr) (x1 : Int32) : Array Slot := #[.val (.ref x0), .val (.int x1), .val (.int (0 : Int32)), .val (.int (1 : Int32)), .val (.int (0 : Int32))]
abbrev own_l115 (x0 : Addr) (x1 : Int32) : Array Slot := #[.val (.ref x0), .val (.int x1), .val (.int (1 : Int32)), .val (.int (1 : Int32)), .val (.int (0 : Int32))]
abbrev own_l116 (x0 : Addr) (x1 : Int32) : Array Slot := #[.val (.ref x0), .val (.int x1), .val (.int (1 : Int32)), .val (.int (1 : Int32)), .val (.int (1 : Int32))]
abbrev own_l117 (x0 : Addr) (x1 : Int32) : Array Slot := #[.val (.ref x0), .val (.int x1), .val (.int (1 : Int32)), .val (.int (0 : Int32)), .val (.int (1 : Int32))]
abbrev own_l118 (x0 : Addr) (x1 : Int32) : Array Slot := #[.val (.ref x0), .val (.int x1), .val (.int (2 : Int32)), .val (.int (1 : Int32)), .val (.int (1 : Int32))]
def own_ct4 (px : Int32) (pb0 : Int32) (pb1 : Int32) (pb2 : Int32) (pb3 : Int32) : Int32 := (if px < pb0 then (0 : Int32) else (if pb1 < px then (if px < pb2 then (0 : Int32) else (if pb3 < px then (0 : Int32) else (1 : Int32))) else (1 : Int32)))
def own_Q16_4 (Z : State) (ax : Addr) (px : Int32) (ab : Addr) (kb : ClassId) (pb0 : Int32) (pb1 : Int32) (pb2 : Int32) (pb3 : Int32) (h0 : Heap) (n0 : Nat) (v : Option Value) (h : Heap) (L : List Loc) : Prop := v = some (.int (own_ct4 px pb0 pb1 pb2 pb3)) ∧ Fr n0 L ∧ h = h0
set_option maxRecDepth 65536 in
set_option maxHeartbeats 40000000 in
theorem rm16_4 (l : Launch) (Z : State) (a0 : Array Value) (hw : ∀ d ∈ tables_1, d.before a0 Z = true) (ws : List Jvm.Cond) (ax : Addr) (px : Int32) (ab : Addr) (kb : ClassId) (pb0 : Int32) (pb1 : Int32) (pb2 : Int32) (pb3 : Int32) (h0 : Heap) (n0 : Nat) (Z0 : n0 ≤ h0.size) (Fb : Fld Z h0 ax "com/example/otito/otito/chain/CodePointSet" "bounds" "[I" (.ref ab)) (Vb : Arv Z h0 ab kb .int (4 : Int32) [(.int pb0), (.int pb1), (.int pb2), (.int pb3)] (.int (0 : Int32))) :
    MetFree l (⟨"com/example/otito/otito/chain/CodePointSet", "contains", "(I)Z"⟩ : MethodName) (head1 (Jvm.Cond.code (⟨"com/example/otito/otito/chain/CodePointSet", "contains", "(I)Z"⟩ : MethodName) prog_5_method_9_code 5 (some .boolean) :: ws) ({ frames := 0, cells := 0, slots := 0, locals := 0 } : Room)) (fun a U => a = #[(.ref ax), (.int px)] ∧ Z.Warmed39 U.vm ∧ U.heap = h0) (fun _ _ _ _ _ => True) (fun _ U o U' => ∃ v L, o = .returned v ∧ own_Q16_4 Z ax px ab kb pb0 pb1 pb2 pb3 h0 n0 v U'.heap L ∧ FrameEnd U o U' L ({ frames := 0, cells := 0, slots := 0, locals := 0 } : Room).cells ({ frames := 0, cells := 0, slots := 0, locals := 0 } : Room).slots) := by
  refine MetFree.of_bodySF (plainFor_of_name own_pn16) hisR ?_
  intro p e s m args below meth c s₁ Bd hml0 hP hK
  obtain ⟨rfl, hZ, hh⟩ := hP
  have hx := Bd.exec
  have hby := Bd.bytes
  have hml : c.maxLocals = 5 := hml0
  have hown : s.vm.findClass "com/example/otito/otito/chain/CodePointSet" = some m.cls := findClass_of_methodNamed Bd.named
  have hnm := (name_of_methodNamed Bd.named Bd.method).1
  have X0 : Stand p l e ({ frames := 0, cells := 0, slots := 0, locals := 0 } : Room) s m #[(.ref ax), (.int px)] below meth c s₁ [] 0 0 := Stand.of_body Bd
  have e0 : s₁.heap = h0 := by rw [← hh, Bd.state]; rfl
  have N0 := Fr.nil n0
  refine own_pre (A := (s₁.setTop (mkF m 0 #[.val (.ref ax), .val (.int px), .unset, .unset, .unset] []))) (fun t k => castTop (own_ef16 m ax px) k) ?_
  refine own_pre (A := (s₁.setTop (mkF m 3 #[.val (.ref ax), .val (.int px), .val (.int (0 : Int32)), .unset, .unset] [(.ref ax)]))) ?_ ?_
  · intro t k
    refine XS.iconst X0.here hx rfl (hb hby d16_0) ?_
    refine XS.istoreN X0.here hx rfl (hb hby d16_1) rfl (l' := #[.val (.ref ax), .val (.int px), .val (.int (0 : Int32)), .unset, .unset]) rfl ?_
    refine XS.aloadN X0.here hx rfl (hb hby d16_2) rfl rfl ?_
    exact k
  obtain ⟨T311, X311, e311, st311⟩ := getF X0 hx hZ hown (host := "") (Or.inl (own_w hw 71 rfl)) Via.refl e0 Fb (g := (mkF m 3 #[.val (.ref ax), .val (.int px), .val (.int (0 : Int32)), .unset, .unset] [(.ref ax)])) rfl rfl (hb hby d16_3)
  refine own_pre (fun t k => st311 t k) ?_
  refine own_pre (A := (T311.setTop (mkF m 26 (own_l114 ax px) [(.ref ax), (.int px)]))) ?_ ?_
  · intro t k
    show Steps p.tables e below (T311.setTop (mkF m 6 #[.val (.ref ax), .val (.int px), .val (.int (0 : Int32)), .unset, .unset] [(.ref ab)])) _
    obtain ⟨cl312, Ar312, -, S312, N312, -, -⟩ := id Vb
    refine X311.arraylength hx (by rw [e311]; exact Ar312.1) (State.isArrayOf_alike hZ.alike Ar312.2.1) (g := (mkF m 6 #[.val (.ref ax), .val (.int px), .val (.int (0 : Int32)), .unset, .unset] [(.ref ab)])) rfl rfl (hb hby d16_6) _ ?_
    rw [len_of S312 N312]
    refine XS.iconst X311.here hx rfl (hb hby d16_7) ?_
    refine XS.idiv X311.here hx rfl (hb hby d16_8) rfl (by decide) ?_
    show Steps p.tables e below (T311.setTop (mkF m 9 #[.val (.ref ax), .val (.int px), .val (.int (0 : Int32)), .unset, .unset] [(.int ((4 : Int32) / (2 : Int32)))])) _
    rw [show ((4 : Int32) / (2 : Int32)) = (2 : Int32) from by decide]
    refine XS.iconst X311.here hx rfl (hb hby d16_9) ?_
    refine XS.isub X311.here hx rfl (hb hby d16_10) rfl ?_
    show Steps p.tables e below (T311.setTop (mkF m 11 #[.val (.ref ax), .val (.int px), .val (.int (0 : Int32)), .unset, .unset] [(.int ((2 : Int32) - (1 : Int32)))])) _
    rw [show ((2 : Int32) - (1 : Int32)) = (1 : Int32) from by decide]
    refine XS.istoreN X311.here hx rfl (hb hby d16_11) rfl (l' := #[.val (.ref ax), .val (.int px), .val (.int (0 : Int32)), .val (.int (1 : Int32)), .unset]) rfl ?_
    refine XS.iloadN X311.here hx rfl (hb hby d16_12) rfl ?_
    refine XS.iloadN X311.here hx rfl (hb hby d16_13) rfl ?_
    refine XS.icmpNo X311.here hx rfl (hb hby d16_14) rfl (flt (by decide : ¬ ((1 : Int32) < (0 : Int32)))).2.2.1 ?_
    refine XS.iloadN X311.here hx rfl (hb hby d16_17) rfl ?_
    refine XS.iloadN X311.here hx rfl (hb hby d16_18) rfl ?_
    refine XS.iadd X311.here hx rfl (hb hby d16_19) rfl ?_
    show Steps p.tables e below (T311.setTop (mkF m 20 #[.val (.ref ax), .val (.int px), .val (.int (0 : Int32)), .val (.int (1 : Int32)), .unset] [(.int ((0 : Int32) + (1 : Int32)))])) _
    rw [show ((0 : Int32) + (1 : Int32)) = (1 : Int32) from by decide]
    refine XS.iconst X311.here hx rfl (hb hby d16_20) ?_
    refine XS.iushr X311.here hx rfl (hb hby d16_21) rfl ?_
    show Steps p.tables e below (T311.setTop (mkF m 22 #[.val (.ref ax), .val (.int px), .val (.int (0 : Int32)), .val (.int (1 : Int32)), .unset] [(.int (((1 : Int32).toUInt32 >>> ((1 : Int32) &&& 31).toUInt32).toInt32))])) _
    rw [show (((1 : Int32).toUInt32 >>> ((1 : Int32) &&& 31).toUInt32).toInt32) = (0 : Int32) from by decide]
    refine XS.istore X311.here hx rfl (hb hby d16_22) rfl (l' := (own_l114 ax px)) rfl ?_
    refine XS.iloadN X311.here hx rfl (hb hby d16_24) rfl ?_
    refine XS.aloadN X311.here hx rfl (hb hby d16_25) rfl rfl ?_
    exact k
  obtain ⟨T313, X313, e313, st313⟩ := getF X311 hx hZ hown (host := "") (Or.inl (own_w hw 71 rfl)) Via.refl e311 Fb (g := (mkF m 26 (own_l114 ax px) [(.ref ax), (.int px)])) rfl rfl (hb hby d16_26)
  refine own_pre (fun t k => st313 t k) ?_
  refine own_pre (A := (T313.setTop (mkF m 34 (own_l114 ax px) [(.int pb0), (.int px)]))) ?_ ?_
  · intro t k
    refine XS.iconst X313.here hx rfl (hb hby d16_29) ?_
    refine XS.iload X313.here hx rfl (hb hby d16_30) rfl ?_
    refine XS.imul X313.here hx rfl (hb hby d16_32) rfl ?_
    show Steps p.tables e below (T313.setTop (mkF m 33 (own_l114 ax px) [(.int ((2 : Int32) * (0 : Int32))), (.ref ab), (.int px)])) _
    rw [show ((2 : Int32) * (0 : Int32)) = (0 : Int32) from by decide]
    show Steps p.tables e below (T313.setTop (mkF m 33 (own_l114 ax px) [(.int (0 : Int32)), (.ref ab), (.int px)])) _
    obtain ⟨cl314, Ar314, q314, S314, N314, H314, G314⟩ := id Vb
    have hin314 : ¬ ((0 : Int32) < 0 ∨ cl314.slots.size ≤ ((0 : Int32)).toNatClampNeg) := inb_of S314 ⟨by decide, by decide⟩
    refine X313.iaload hx (j := (0 : Int32)) (v := (.int pb0)) (by rw [e313]; exact Ar314.1) (State.isArrayOf_alike hZ.alike Ar314.2.1) Ar314.2.2 hin314 (H314.at hin314 rfl) (g := (mkF m 33 (own_l114 ax px) [(.int (0 : Int32)), (.ref ab), (.int px)])) rfl rfl (hb hby d16_33) _ ?_
    exact k
  by_cases hc315 : px < pb0
  · skip
    refine own_pre (A := (T313.setTop (mkF m 37 (own_l114 ax px) []))) ?_ ?_
    · intro t k
      refine XS.icmpNo X313.here hx rfl (hb hby d16_34) rfl (tlt hc315).2.1 ?_
      exact k
    refine own_pre (A := (T313.setTop (mkF m 74 (own_l112 ax px) [(.int (0 : Int32))]))) ?_ ?_
    · intro t k
      refine XS.iload X313.here hx rfl (hb hby d16_37) rfl ?_
      refine XS.iconst X313.here hx rfl (hb hby d16_39) ?_
      refine XS.isub X313.here hx rfl (hb hby d16_40) rfl ?_
      show Steps p.tables e below (T313.setTop (mkF m 41 (own_l114 ax px) [(.int ((0 : Int32) - (1 : Int32)))])) _
      rw [show ((0 : Int32) - (1 : Int32)) = (-1 : Int32) from by decide]
      refine XS.istoreN X313.here hx rfl (hb hby d16_41) rfl (l' := (own_l112 ax px)) rfl ?_
      refine XS.goto X313.here hx rfl (pc0 := 42) (pc' := 70) rfl (hb hby d16_42) (by decide) (by decide) ?_
      refine XS.goto X313.here hx rfl (pc0 := 70) (pc' := 12) rfl (hb hby d16_70) (by decide) (by decide) ?_
      refine XS.iloadN X313.here hx rfl (hb hby d16_12) rfl ?_
      refine XS.iloadN X313.here hx rfl (hb hby d16_13) rfl ?_
      refine XS.icmpYes X313.here hx rfl (pc0 := 14) (pc' := 73) rfl (hb hby d16_14) rfl (tlt (by decide : (-1 : Int32) < (0 : Int32))).2.2.1 (by decide) (by decide) ?_
      refine XS.iconst X313.here hx rfl (hb hby d16_73) ?_
      exact k
    have hz : own_ct4 px pb0 pb1 pb2 pb3 = (0 : Int32) := by simp only [own_ct4, if_pos hc315]
    obtain ⟨fs, hr, hrun, hended, hW, hsame⟩ := X313.leave (hlocks := BodyLoose.notSynchronized Bd) (v := some (.int (0 : Int32))) (fun h => by rw [Bd.returns] at h; cases h)
    refine ⟨_, _, retOut X313 hx Bd.returns rfl (Or.inl ⟨rfl, Or.inr (Or.inl rfl), _, rfl⟩) (hb hby d16_74) hr, hrun, hended, _, _, rfl, ?_, ⟨_, rfl⟩, hW, hsame.mono (by decide) (by decide)⟩
    show own_Q16_4 Z ax px ab kb pb0 pb1 pb2 pb3 h0 n0 _ T313.heap _
    rw [e313]
    exact ⟨by rw [hz], N0, rfl⟩
  · skip
    refine own_pre (A := (T313.setTop (mkF m 45 (own_l114 ax px) []))) ?_ ?_
    · intro t k
      refine XS.icmpYes X313.here hx rfl (pc0 := 34) (pc' := 45) rfl (hb hby d16_34) rfl (flt hc315).2.1 (by decide) (by decide) ?_
      exact k
    refine own_pre (A := (T313.setTop (mkF m 47 (own_l114 ax px) [(.ref ax), (.int px)]))) ?_ ?_
    · intro t k
      refine XS.iloadN X313.here hx rfl (hb hby d16_45) rfl ?_
      refine XS.aloadN X313.here hx rfl (hb hby d16_46) rfl rfl ?_
      exact k
    obtain ⟨T316, X316, e316, st316⟩ := getF X313 hx hZ hown (host := "") (Or.inl (own_w hw 71 rfl)) Via.refl e313 Fb (g := (mkF m 47 (own_l114 ax px) [(.ref ax), (.int px)])) rfl rfl (hb hby d16_47)
    refine own_pre (fun t k => st316 t k) ?_
    refine own_pre (A := (T316.setTop (mkF m 57 (own_l114 ax px) [(.int pb1), (.int px)]))) ?_ ?_
    · intro t k
      refine XS.iconst X316.here hx rfl (hb hby d16_50) ?_
      refine XS.iload X316.here hx rfl (hb hby d16_51) rfl ?_
      refine XS.imul X316.here hx rfl (hb hby d16_53) rfl ?_
      show Steps p.tables e below (T316.setTop (mkF m 54 (own_l114 ax px) [(.int ((2 : Int32) * (0 : Int32))), (.ref ab), (.int px)])) _
      rw [show ((2 : Int32) * (0 : Int32)) = (0 : Int32) from by decide]
      refine XS.iconst X316.here hx rfl (hb hby d16_54) ?_
      refine XS.iadd X316.here hx rfl (hb hby d16_55) rfl ?_
      show Steps p.tables e below (T316.setTop (mkF m 56 (own_l114 ax px) [(.int ((0 : Int32) + (1 : Int32))), (.ref ab), (.int px)])) _
      rw [show ((0 : Int32) + (1 : Int32)) = (1 : Int32) from by decide]
      show Steps p.tables e below (T316.setTop (mkF m 56 (own_l114 ax px) [(.int (1 : Int32)), (.ref ab), (.int px)])) _
      obtain ⟨cl317, Ar317, q317, S317, N317, H317, G317⟩ := id Vb
      have hin317 : ¬ ((1 : Int32) < 0 ∨ cl317.slots.size ≤ ((1 : Int32)).toNatClampNeg) := inb_of S317 ⟨by decide, by decide⟩
      refine X316.iaload hx (j := (1 : Int32)) (v := (.int pb1)) (by rw [e316]; exact Ar317.1) (State.isArrayOf_alike hZ.alike Ar317.2.1) Ar317.2.2 hin317 (H317.at hin317 rfl) (g := (mkF m 56 (own_l114 ax px) [(.int (1 : Int32)), (.ref ab), (.int px)])) rfl rfl (hb hby d16_56) _ ?_
      exact k
    by_cases hc318 : pb1 < px
    · skip
      refine own_pre (A := (T316.setTop (mkF m 60 (own_l114 ax px) []))) ?_ ?_
      · intro t k
        refine XS.icmpNo X316.here hx rfl (hb hby d16_57) rfl (tlt hc318).2.2.2 ?_
        exact k
      refine own_pre (A := (T316.setTop (mkF m 26 (own_l116 ax px) [(.ref ax), (.int px)]))) ?_ ?_
      · intro t k
        refine XS.iload X316.here hx rfl (hb hby d16_60) rfl ?_
        refine XS.iconst X316.here hx rfl (hb hby d16_62) ?_
        refine XS.iadd X316.here hx rfl (hb hby d16_63) rfl ?_
        show Steps p.tables e below (T316.setTop (mkF m 64 (own_l114 ax px) [(.int ((0 : Int32) + (1 : Int32)))])) _
        rw [show ((0 : Int32) + (1 : Int32)) = (1 : Int32) from by decide]
        refine XS.istoreN X316.here hx rfl (hb hby d16_64) rfl (l' := (own_l115 ax px)) rfl ?_
        refine XS.goto X316.here hx rfl (pc0 := 65) (pc' := 70) rfl (hb hby d16_65) (by decide) (by decide) ?_
        refine XS.goto X316.here hx rfl (pc0 := 70) (pc' := 12) rfl (hb hby d16_70) (by decide) (by decide) ?_
        refine XS.iloadN X316.here hx rfl (hb hby d16_12) rfl ?_
        refine XS.iloadN X316.here hx rfl (hb hby d16_13) rfl ?_
        refine XS.icmpNo X316.here hx rfl (hb hby d16_14) rfl (flt (by decide : ¬ ((1 : Int32) < (1 : Int32)))).2.2.1 ?_
        refine XS.iloadN X316.here hx rfl (hb hby d16_17) rfl ?_
        refine XS.iloadN X316.here hx rfl (hb hby d16_18) rfl ?_
        refine XS.iadd X316.here hx rfl (hb hby d16_19) rfl ?_
        show Steps p.tables e below (T316.setTop (mkF m 20 (own_l115 ax px) [(.int ((1 : Int32) + (1 : Int32)))])) _
        rw [show ((1 : Int32) + (1 : Int32)) = (2 : Int32) from by decide]
        refine XS.iconst X316.here hx rfl (hb hby d16_20) ?_
        refine XS.iushr X316.here hx rfl (hb hby d16_21) rfl ?_
        show Steps p.tables e below (T316.setTop (mkF m 22 (own_l115 ax px) [(.int (((2 : Int32).toUInt32 >>> ((1 : Int32) &&& 31).toUInt32).toInt32))])) _
        rw [show (((2 : Int32).toUInt32 >>> ((1 : Int32) &&& 31).toUInt32).toInt32) = (1 : Int32) from by decide]
        refine XS.istore X316.here hx rfl (hb hby d16_22) rfl (l' := (own_l116 ax px)) rfl ?_
        refine XS.iloadN X316.here hx rfl (hb hby d16_24) rfl ?_
        refine XS.aloadN X316.here hx rfl (hb hby d16_25) rfl rfl ?_
        exact k
      obtain ⟨T319, X319, e319, st319⟩ := getF X316 hx hZ hown (host := "") (Or.inl (own_w hw 71 rfl)) Via.refl e316 Fb (g := (mkF m 26 (own_l116 ax px) [(.ref ax), (.int px)])) rfl rfl (hb hby d16_26)
      refine own_pre (fun t k => st319 t k) ?_
      refine own_pre (A := (T319.setTop (mkF m 34 (own_l116 ax px) [(.int pb2), (.int px)]))) ?_ ?_
      · intro t k
        refine XS.iconst X319.here hx rfl (hb hby d16_29) ?_
        refine XS.iload X319.here hx rfl (hb hby d16_30) rfl ?_
        refine XS.imul X319.here hx rfl (hb hby d16_32) rfl ?_
        show Steps p.tables e below (T319.setTop (mkF m 33 (own_l116 ax px) [(.int ((2 : Int32) * (1 : Int32))), (.ref ab), (.int px)])) _
        rw [show ((2 : Int32) * (1 : Int32)) = (2 : Int32) from by decide]
        show Steps p.tables e below (T319.setTop (mkF m 33 (own_l116 ax px) [(.int (2 : Int32)), (.ref ab), (.int px)])) _
        obtain ⟨cl320, Ar320, q320, S320, N320, H320, G320⟩ := id Vb
        have hin320 : ¬ ((2 : Int32) < 0 ∨ cl320.slots.size ≤ ((2 : Int32)).toNatClampNeg) := inb_of S320 ⟨by decide, by decide⟩
        refine X319.iaload hx (j := (2 : Int32)) (v := (.int pb2)) (by rw [e319]; exact Ar320.1) (State.isArrayOf_alike hZ.alike Ar320.2.1) Ar320.2.2 hin320 (H320.at hin320 rfl) (g := (mkF m 33 (own_l116 ax px) [(.int (2 : Int32)), (.ref ab), (.int px)])) rfl rfl (hb hby d16_33) _ ?_
        exact k
      by_cases hc321 : px < pb2
      · skip
        refine own_pre (A := (T319.setTop (mkF m 37 (own_l116 ax px) []))) ?_ ?_
        · intro t k
          refine XS.icmpNo X319.here hx rfl (hb hby d16_34) rfl (tlt hc321).2.1 ?_
          exact k
        refine own_pre (A := (T319.setTop (mkF m 74 (own_l117 ax px) [(.int (0 : Int32))]))) ?_ ?_
        · intro t k
          refine XS.iload X319.here hx rfl (hb hby d16_37) rfl ?_
          refine XS.iconst X319.here hx rfl (hb hby d16_39) ?_
          refine XS.isub X319.here hx rfl (hb hby d16_40) rfl ?_
          show Steps p.tables e below (T319.setTop (mkF m 41 (own_l116 ax px) [(.int ((1 : Int32) - (1 : Int32)))])) _
          rw [show ((1 : Int32) - (1 : Int32)) = (0 : Int32) from by decide]
          refine XS.istoreN X319.here hx rfl (hb hby d16_41) rfl (l' := (own_l117 ax px)) rfl ?_
          refine XS.goto X319.here hx rfl (pc0 := 42) (pc' := 70) rfl (hb hby d16_42) (by decide) (by decide) ?_
          refine XS.goto X319.here hx rfl (pc0 := 70) (pc' := 12) rfl (hb hby d16_70) (by decide) (by decide) ?_
          refine XS.iloadN X319.here hx rfl (hb hby d16_12) rfl ?_
          refine XS.iloadN X319.here hx rfl (hb hby d16_13) rfl ?_
          refine XS.icmpYes X319.here hx rfl (pc0 := 14) (pc' := 73) rfl (hb hby d16_14) rfl (tlt (by decide : (0 : Int32) < (1 : Int32))).2.2.1 (by decide) (by decide) ?_
          refine XS.iconst X319.here hx rfl (hb hby d16_73) ?_
          exact k
        have hz : own_ct4 px pb0 pb1 pb2 pb3 = (0 : Int32) := by simp only [own_ct4, if_neg hc315, if_pos hc318, if_pos hc321]
        obtain ⟨fs, hr, hrun, hended, hW, hsame⟩ := X319.leave (hlocks := BodyLoose.notSynchronized Bd) (v := some (.int (0 : Int32))) (fun h => by rw [Bd.returns] at h; cases h)
        refine ⟨_, _, retOut X319 hx Bd.returns rfl (Or.inl ⟨rfl, Or.inr (Or.inl rfl), _, rfl⟩) (hb hby d16_74) hr, hrun, hended, _, _, rfl, ?_, ⟨_, rfl⟩, hW, hsame.mono (by decide) (by decide)⟩
        show own_Q16_4 Z ax px ab kb pb0 pb1 pb2 pb3 h0 n0 _ T319.heap _
        rw [e319]
        exact ⟨by rw [hz], N0, rfl⟩
      · skip
        refine own_pre (A := (T319.setTop (mkF m 45 (own_l116 ax px) []))) ?_ ?_
        · intro t k
          refine XS.icmpYes X319.here hx rfl (pc0 := 34) (pc' := 45) rfl (hb hby d16_34) rfl (flt hc321).2.1 (by decide) (by decide) ?_
          exact k
        refine own_pre (A := (T319.setTop (mkF m 47 (own_l116 ax px) [(.ref ax), (.int px)]))) ?_ ?_
        · intro t k
          refine XS.iloadN X319.here hx rfl (hb hby d16_45) rfl ?_
          refine XS.aloadN X319.here hx rfl (hb hby d16_46) rfl rfl ?_
          exact k
        obtain ⟨T322, X322, e322, st322⟩ := getF X319 hx hZ hown (host := "") (Or.inl (own_w hw 71 rfl)) Via.refl e319 Fb (g := (mkF m 47 (own_l116 ax px) [(.ref ax), (.int px)])) rfl rfl (hb hby d16_47)
        refine own_pre (fun t k => st322 t k) ?_
        refine own_pre (A := (T322.setTop (mkF m 57 (own_l116 ax px) [(.int pb3), (.int px)]))) ?_ ?_
        · intro t k
          refine XS.iconst X322.here hx rfl (hb hby d16_50) ?_
          refine XS.iload X322.here hx rfl (hb hby d16_51) rfl ?_
          refine XS.imul X322.here hx rfl (hb hby d16_53) rfl ?_
          show Steps p.tables e below (T322.setTop (mkF m 54 (own_l116 ax px) [(.int ((2 : Int32) * (1 : Int32))), (.ref ab), (.int px)])) _
          rw [show ((2 : Int32) * (1 : Int32)) = (2 : Int32) from by decide]
          refine XS.iconst X322.here hx rfl (hb hby d16_54) ?_
          refine XS.iadd X322.here hx rfl (hb hby d16_55) rfl ?_
          show Steps p.tables e below (T322.setTop (mkF m 56 (own_l116 ax px) [(.int ((2 : Int32) + (1 : Int32))), (.ref ab), (.int px)])) _
          rw [show ((2 : Int32) + (1 : Int32)) = (3 : Int32) from by decide]
          show Steps p.tables e below (T322.setTop (mkF m 56 (own_l116 ax px) [(.int (3 : Int32)), (.ref ab), (.int px)])) _
          obtain ⟨cl323, Ar323, q323, S323, N323, H323, G323⟩ := id Vb
          have hin323 : ¬ ((3 : Int32) < 0 ∨ cl323.slots.size ≤ ((3 : Int32)).toNatClampNeg) := inb_of S323 ⟨by decide, by decide⟩
          refine X322.iaload hx (j := (3 : Int32)) (v := (.int pb3)) (by rw [e322]; exact Ar323.1) (State.isArrayOf_alike hZ.alike Ar323.2.1) Ar323.2.2 hin323 (H323.at hin323 rfl) (g := (mkF m 56 (own_l116 ax px) [(.int (3 : Int32)), (.ref ab), (.int px)])) rfl rfl (hb hby d16_56) _ ?_
          exact k
        by_cases hc324 : pb3 < px
        · skip
          refine own_pre (A := (T322.setTop (mkF m 60 (own_l116 ax px) []))) ?_ ?_
          · intro t k
            refine XS.icmpNo X322.here hx rfl (hb hby d16_57) rfl (tlt hc324).2.2.2 ?_
            exact k
          refine own_pre (A := (T322.setTop (mkF m 74 (own_l118 ax px) [(.int (0 : Int32))]))) ?_ ?_
          · intro t k
            refine XS.iload X322.here hx rfl (hb hby d16_60) rfl ?_
            refine XS.iconst X322.here hx rfl (hb hby d16_62) ?_
            refine XS.iadd X322.here hx rfl (hb hby d16_63) rfl ?_
            show Steps p.tables e below (T322.setTop (mkF m 64 (own_l116 ax px) [(.int ((1 : Int32) + (1 : Int32)))])) _
            rw [show ((1 : Int32) + (1 : Int32)) = (2 : Int32) from by decide]
            refine XS.istoreN X322.here hx rfl (hb hby d16_64) rfl (l' := (own_l118 ax px)) rfl ?_
            refine XS.goto X322.here hx rfl (pc0 := 65) (pc' := 70) rfl (hb hby d16_65) (by decide) (by decide) ?_
            refine XS.goto X322.here hx rfl (pc0 := 70) (pc' := 12) rfl (hb hby d16_70) (by decide) (by decide) ?_
            refine XS.iloadN X322.here hx rfl (hb hby d16_12) rfl ?_
            refine XS.iloadN X322.here hx rfl (hb hby d16_13) rfl ?_
            refine XS.icmpYes X322.here hx rfl (pc0 := 14) (pc' := 73) rfl (hb hby d16_14) rfl (tlt (by decide : (1 : Int32) < (2 : Int32))).2.2.1 (by decide) (by decide) ?_
            refine XS.iconst X322.here hx rfl (hb hby d16_73) ?_
            exact k
          have hz : own_ct4 px pb0 pb1 pb2 pb3 = (0 : Int32) := by simp only [own_ct4, if_neg hc315, if_pos hc318, if_neg hc321, if_pos hc324]
          obtain ⟨fs, hr, hrun, hended, hW, hsame⟩ := X322.leave (hlocks := BodyLoose.notSynchronized Bd) (v := some (.int (0 : Int32))) (fun h => by rw [Bd.returns] at h; cases h)
          refine ⟨_, _, retOut X322 hx Bd.returns rfl (Or.inl ⟨rfl, Or.inr (Or.inl rfl), _, rfl⟩) (hb hby d16_74) hr, hrun, hended, _, _, rfl, ?_, ⟨_, rfl⟩, hW, hsame.mono (by decide) (by decide)⟩
          show own_Q16_4 Z ax px ab kb pb0 pb1 pb2 pb3 h0 n0 _ T322.heap _
          rw [e322]
          exact ⟨by rw [hz], N0, rfl⟩
        · skip
          refine own_pre (A := (T322.setTop (mkF m 68 (own_l116 ax px) []))) ?_ ?_
          · intro t k
            refine XS.icmpYes X322.here hx rfl (pc0 := 57) (pc' := 68) rfl (hb hby d16_57) rfl (flt hc324).2.2.2 (by decide) (by decide) ?_
            exact k
          refine own_pre (A := (T322.setTop (mkF m 69 (own_l116 ax px) [(.int (1 : Int32))]))) ?_ ?_
          · intro t k
            refine XS.iconst X322.here hx rfl (hb hby d16_68) ?_
            exact k
          have hz : own_ct4 px pb0 pb1 pb2 pb3 = (1 : Int32) := by simp only [own_ct4, if_neg hc315, if_pos hc318, if_neg hc321, if_neg hc324]
          obtain ⟨fs, hr, hrun, hended, hW, hsame⟩ := X322.leave (hlocks := BodyLoose.notSynchronized Bd) (v := some (.int (1 : Int32))) (fun h => by rw [Bd.returns] at h; cases h)
          refine ⟨_, _, retOut X322 hx Bd.returns rfl (Or.inl ⟨rfl, Or.inr (Or.inl rfl), _, rfl⟩) (hb hby d16_69) hr, hrun, hended, _, _, rfl, ?_, ⟨_, rfl⟩, hW, hsame.mono (by decide) (by decide)⟩
          show own_Q16_4 Z ax px ab kb pb0 pb1 pb2 pb3 h0 n0 _ T322.heap _
          rw [e322]
          exact ⟨by rw [hz], N0, rfl⟩
    · skip
      refine own_pre (A := (T316.setTop (mkF m 68 (own_l114 ax px) []))) ?_ ?_
      · intro t k
        refine XS.icmpYes X316.here hx rfl (pc0 := 57) (pc' := 68) rfl (hb hby d16_57) rfl (flt hc318).2.2.2 (by decide) (by decide) ?_
        exact k
      refine own_pre (A := (T316.setTop (mkF m 69 (own_l114 ax px) [(.int (1 : Int32))]))) ?_ ?_
      · intro t k
        refine XS.iconst X316.here hx rfl (hb hby d16_68) ?_
        exact k
      have hz : own_ct4 px pb0 pb1 pb2 pb3 = (1 : Int32) := by simp only [own_ct4, if_neg hc315, if_neg hc318]
      obtain ⟨fs, hr, hrun, hended, hW, hsame⟩ := X316.leave (hlocks := BodyLoose.notSynchronized Bd) (v := some (.int (1 : Int32))) (fun h => by rw [Bd.returns] at h; cases h)
      refine ⟨_, _, retOut X316 hx Bd.returns rfl (Or.inl ⟨rfl, Or.inr (Or.inl rfl), _, rfl⟩) (hb hby d16_69) hr, hrun, hended, _, _, rfl, ?_, ⟨_, rfl⟩, hW, hsame.mono (by decide) (by decide)⟩
      show own_Q16_4 Z ax px ab kb pb0 pb1 pb2 pb3 h0 n0 _ T316.heap _
      rw [e316]
      exact ⟨by rw [hz], N0, rfl⟩
theorem d7_0 : decode prog_6_method_4_code 0 = .ok (.aload_n 0, 1) := by decide +kernel
theorem d7_1 : decode prog_6_method_4_code 1 = .ok (.getfield 7, 3) := by decide +kernel
theorem d7_4 : decode prog_6_method_4_code 4 = .ok (.aload_n 0, 1) := by decide +kernel
theorem d7_5 : decode prog_6_method_4_code 5 = .ok (.getfield 13, 3) := by decide +kernel
theorem d7_8 : decode prog_6_method_4_code 8 = .ok (.invokestatic 17, 3) := by decide +kernel
theorem d7_11 : decode prog_6_method_4_code 11 = .ok (.astore_n 1, 1) := by decide +kernel
theorem d7_12 : decode prog_6_method_4_code 12 = .ok (.aload_n 1, 1) := by decide +kernel
theorem d7_13 : decode prog_6_method_4_code 13 = .ok (.invokestatic 33, 3) := by decide +kernel
theorem d7_16 : decode prog_6_method_4_code 16 = .ok (.iconst 2, 1) := by decide +kernel
theorem d7_17 : decode prog_6_method_4_code 17 = .ok (.aload_n 0, 1) := by decide +kernel
theorem d7_18 : decode prog_6_method_4_code 18 = .ok (.getfield 13, 3) := by decide +kernel
theorem d7_21 : decode prog_6_method_4_code 21 = .ok (.imul, 1) := by decide +kernel
theorem d7_22 : decode prog_6_method_4_code 22 = .ok (.newarray .int, 2) := by decide +kernel
theorem d7_24 : decode prog_6_method_4_code 24 = .ok (.astore_n 2, 1) := by decide +kernel
theorem d7_25 : decode prog_6_method_4_code 25 = .ok (.iconst 0, 1) := by decide +kernel
theorem d7_26 : decode prog_6_method_4_code 26 = .ok (.istore_n 3, 1) := by decide +kernel
theorem d7_27 : decode prog_6_method_4_code 27 = .ok (.aload_n 1, 1) := by decide +kernel
theorem d7_28 : decode prog_6_method_4_code 28 = .ok (.astore 4, 2) := by decide +kernel
theorem d7_30 : decode prog_6_method_4_code 30 = .ok (.aload 4, 2) := by decide +kernel
theorem d7_32 : decode prog_6_method_4_code 32 = .ok (.arraylength, 1) := by decide +kernel
theorem d7_33 : decode prog_6_method_4_code 33 = .ok (.istore 5, 2) := by decide +kernel
theorem d7_35 : decode prog_6_method_4_code 35 = .ok (.iconst 0, 1) := by decide +kernel
theorem d7_36 : decode prog_6_method_4_code 36 = .ok (.istore 6, 2) := by decide +kernel
theorem d7_38 : decode prog_6_method_4_code 38 = .ok (.iload 6, 2) := by decide +kernel
theorem d7_40 : decode prog_6_method_4_code 40 = .ok (.iload 5, 2) := by decide +kernel
theorem d7_42 : decode prog_6_method_4_code 42 = .ok (.if_icmp .ge 79, 3) := by decide +kernel
theorem d7_45 : decode prog_6_method_4_code 45 = .ok (.aload 4, 2) := by decide +kernel
theorem d7_47 : decode prog_6_method_4_code 47 = .ok (.iload 6, 2) := by decide +kernel
theorem d7_49 : decode prog_6_method_4_code 49 = .ok (.laload, 1) := by decide +kernel
theorem d7_50 : decode prog_6_method_4_code 50 = .ok (.lstore 7, 2) := by decide +kernel
theorem d7_52 : decode prog_6_method_4_code 52 = .ok (.lload 7, 2) := by decide +kernel
theorem d7_54 : decode prog_6_method_4_code 54 = .ok (.bipush 32, 2) := by decide +kernel
theorem d7_56 : decode prog_6_method_4_code 56 = .ok (.lushr, 1) := by decide +kernel
theorem d7_57 : decode prog_6_method_4_code 57 = .ok (.l2i, 1) := by decide +kernel
theorem d7_58 : decode prog_6_method_4_code 58 = .ok (.istore 9, 2) := by decide +kernel
theorem d7_60 : decode prog_6_method_4_code 60 = .ok (.lload 7, 2) := by decide +kernel
theorem d7_62 : decode prog_6_method_4_code 62 = .ok (.l2i, 1) := by decide +kernel
theorem d7_63 : decode prog_6_method_4_code 63 = .ok (.istore 10, 2) := by decide +kernel
theorem d7_65 : decode prog_6_method_4_code 65 = .ok (.iload_n 3, 1) := by decide +kernel
theorem d7_66 : decode prog_6_method_4_code 66 = .ok (.ifCond .le 33, 3) := by decide +kernel
theorem d7_69 : decode prog_6_method_4_code 69 = .ok (.iload 9, 2) := by decide +kernel
theorem d7_71 : decode prog_6_method_4_code 71 = .ok (.aload_n 2, 1) := by decide +kernel
theorem d7_72 : decode prog_6_method_4_code 72 = .ok (.iload_n 3, 1) := by decide +kernel
theorem d7_73 : decode prog_6_method_4_code 73 = .ok (.iconst 1, 1) := by decide +kernel
theorem d7_74 : decode prog_6_method_4_code 74 = .ok (.isub, 1) := by decide +kernel
theorem d7_75 : decode prog_6_method_4_code 75 = .ok (.iaload, 1) := by decide +kernel
theorem d7_76 : decode prog_6_method_4_code 76 = .ok (.iconst 1, 1) := by decide +kernel
theorem d7_77 : decode prog_6_method_4_code 77 = .ok (.iadd, 1) := by decide +kernel
theorem d7_78 : decode prog_6_method_4_code 78 = .ok (.if_icmp .gt 21, 3) := by decide +kernel
theorem d7_81 : decode prog_6_method_4_code 81 = .ok (.aload_n 2, 1) := by decide +kernel
theorem d7_82 : decode prog_6_method_4_code 82 = .ok (.iload_n 3, 1) := by decide +kernel
theorem d7_83 : decode prog_6_method_4_code 83 = .ok (.iconst 1, 1) := by decide +kernel
theorem d7_84 : decode prog_6_method_4_code 84 = .ok (.isub, 1) := by decide +kernel
theorem d7_85 : decode prog_6_method_4_code 85 = .ok (.aload_n 2, 1) := by decide +kernel
theorem d7_86 : decode prog_6_method_4_code 86 = .ok (.iload_n 3, 1) := by decide +kernel
theorem d7_87 : decode prog_6_method_4_code 87 = .ok (.iconst 1, 1) := by decide +kernel
theorem d7_88 : decode prog_6_method_4_code 88 = .ok (.isub, 1) := by decide +kernel
theorem d7_89 : decode prog_6_method_4_code 89 = .ok (.iaload, 1) := by decide +kernel
theorem d7_90 : decode prog_6_method_4_code 90 = .ok (.iload 10, 2) := by decide +kernel
theorem d7_92 : decode prog_6_method_4_code 92 = .ok (.invokestatic 37, 3) := by decide +kernel
theorem d7_95 : decode prog_6_method_4_code 95 = .ok (.iastore, 1) := by decide +kernel
theorem d7_96 : decode prog_6_method_4_code 96 = .ok (.goto 19, 3) := by decide +kernel
theorem d7_99 : decode prog_6_method_4_code 99 = .ok (.aload_n 2, 1) := by decide +kernel
theorem d7_100 : decode prog_6_method_4_code 100 = .ok (.iload_n 3, 1) := by decide +kernel
theorem d7_101 : decode prog_6_method_4_code 101 = .ok (.iinc 3 1, 3) := by decide +kernel
theorem d7_104 : decode prog_6_method_4_code 104 = .ok (.iload 9, 2) := by decide +kernel
theorem d7_106 : decode prog_6_method_4_code 106 = .ok (.iastore, 1) := by decide +kernel
theorem d7_107 : decode prog_6_method_4_code 107 = .ok (.aload_n 2, 1) := by decide +kernel
theorem d7_108 : decode prog_6_method_4_code 108 = .ok (.iload_n 3, 1) := by decide +kernel
theorem d7_109 : decode prog_6_method_4_code 109 = .ok (.iinc 3 1, 3) := by decide +kernel
theorem d7_112 : decode prog_6_method_4_code 112 = .ok (.iload 10, 2) := by decide +kernel
theorem d7_114 : decode prog_6_method_4_code 114 = .ok (.iastore, 1) := by decide +kernel
theorem d7_115 : decode prog_6_method_4_code 115 = .ok (.iinc 6 1, 3) := by decide +kernel
theorem d7_118 : decode prog_6_method_4_code 118 = .ok (.goto (-80), 3) := by decide +kernel
theorem d7_121 : decode prog_6_method_4_code 121 = .ok (.new 24, 3) := by decide +kernel
theorem d7_124 : decode prog_6_method_4_code 124 = .ok (.dup, 1) := by decide +kernel
theorem d7_125 : decode prog_6_method_4_code 125 = .ok (.aload_n 2, 1) := by decide +kernel
theorem d7_126 : decode prog_6_method_4_code 126 = .ok (.iload_n 3, 1) := by decide +kernel
theorem d7_127 : decode prog_6_method_4_code 127 = .ok (.invokestatic 43, 3) := by decide +kernel
theorem d7_130 : decode prog_6_method_4_code 130 = .ok (.invokespecial 46, 3) := by decide +kernel
theorem d7_133 : decode prog_6_method_4_code 133 = .ok (.areturn, 1) := by decide +kernel
theorem own_pn7 : plainName "com/example/otito/otito/chain/CodePointSet$Builder" = true := by first | (simp [plainName, overriddenIn]; done) | decide +kernel
theorem own_ef7 (m : MethodId) (x0 : Addr) : entryFrame m #[(.ref x0)] 11 = mkF m 0 #[.val (.ref x0), .unset, .unset, .unset, .unset, .unset, .unset, .unset, .unset, .unset, .unset] [] := by first | (simp [entryFrame, mkF, argsToLocals, Value.category]; done) | rfl
theorem own_oi (i : Nat) (h : i < 100) : (Int32.ofNat i).toInt = i := Int32.toInt_ofNat_of_lt (by omega)
theorem own_on (i : Nat) (h : i < 100) : (Int32.ofNat i).toNatClampNeg = i := by
  show (Int32.ofNat i).toInt.toNat = i
  rw [own_oi i h]; rfl
theorem own_olt {i j : Nat} (h : i < j) (hj : j < 100) : Int32.ofNat i < Int32.ofNat j := by
  rw [Int32.lt_iff_toInt_lt, own_oi i (by omega), own_oi j hj]; omega
theorem own_onl {i j : Nat} (h : ¬ i < j) (hi : i < 100) (hj : j < 100) : ¬ Int32.ofNat i < Int32.ofNat j := by
  rw [Int32.lt_iff_toInt_lt, own_oi i hi, own_oi j hj]; omega
theorem own_o0 {i : Nat} (hi : i < 100) : ¬ Int32.ofNat i < 0 := by
  rw [Int32.lt_iff_toInt_lt, own_oi i hi]
  have e : (0 : Int32).toInt = 0 := by decide
  omega
theorem own_o1 (i : Nat) (h : i < 99) : Int32.ofNat i + (1 : Int32) = Int32.ofNat (i + 1) := by
  apply Int32.toInt_inj.mp
  have h1 := c_iadd (Int32.ofNat i) (1 : Int32)
  have r := rng32 (Int32.ofNat i + (1 : Int32))
  have o : (1 : Int32).toInt = 1 := by decide
  rw [own_oi i (by omega)] at h1
  rw [own_oi (i + 1) (by omega)]
  omega
abbrev own_l119 (x0 : Addr) (x1 : Addr) (x2 : Addr) (x3 : Int32) : Array Slot := #[.val (.ref x0), .val (.ref x1), .val (.ref x2), .val (.int (0 : Int32)), .val (.ref x1), .val (.int x3), .val (.int (0 : Int32)), .unset, .unset, .unset, .unset]
abbrev own_l120 (x0 : Addr) (x1 : Addr) (x2 : Addr) (x3 : Int32) (x4 : Int64) : Array Slot := #[.val (.ref x0), .val (.ref x1), .val (.ref x2), .val (.int (0 : Int32)), .val (.ref x1), .val (.int x3), .val (.int (0 : Int32)), .val (.long x4), .second, .unset, .unset]
abbrev own_l121 (x0 : Addr) (x1 : Addr) (x2 : Addr) (x3 : Int32) (x4 : Int64) (x5 : Int32) : Array Slot := #[.val (.ref x0), .val (.ref x1), .val (.ref x2), .val (.int (0 : Int32)), .val (.ref x1), .val (.int x3), .val (.int (0 : Int32)), .val (.long x4), .second, .val (.int x5), .unset]
abbrev own_l122 (x0 : Addr) (x1 : Addr) (x2 : Addr) (x3 : Int32) (x4 : Int64) (x5 : Int32) (x6 : Int32) : Array Slot := #[.val (.ref x0), .val (.ref x1), .val (.ref x2), .val (.int (0 : Int32)), .val (.ref x1), .val (.int x3), .val (.int (0 : Int32)), .val (.long x4), .second, .val (.int x5), .val (.int x6)]
abbrev own_l123 (x0 : Addr) (x1 : Addr) (x2 : Addr) (x3 : Int32) (x4 : Int64) (x5 : Int32) (x6 : Int32) : Array Slot := #[.val (.ref x0), .val (.ref x1), .val (.ref x2), .val (.int ((0 : Int32) + (1 : Int32))), .val (.ref x1), .val (.int x3), .val (.int (0 : Int32)), .val (.long x4), .second, .val (.int x5), .val (.int x6)]
abbrev own_l124 (x0 : Addr) (x1 : Addr) (x2 : Addr) (x3 : Int32) (x4 : Int64) (x5 : Int32) (x6 : Int32) : Array Slot := #[.val (.ref x0), .val (.ref x1), .val (.ref x2), .val (.int (1 : Int32)), .val (.ref x1), .val (.int x3), .val (.int (0 : Int32)), .val (.long x4), .second, .val (.int x5), .val (.int x6)]
abbrev own_l125 (x0 : Addr) (x1 : Addr) (x2 : Addr) (x3 : Int32) (x4 : Int64) (x5 : Int32) (x6 : Int32) : Array Slot := #[.val (.ref x0), .val (.ref x1), .val (.ref x2), .val (.int ((1 : Int32) + (1 : Int32))), .val (.ref x1), .val (.int x3), .val (.int (0 : Int32)), .val (.long x4), .second, .val (.int x5), .val (.int x6)]
abbrev own_l126 (x0 : Addr) (x1 : Addr) (x2 : Addr) (x3 : Int32) (x4 : Int64) (x5 : Int32) (x6 : Int32) : Array Slot := #[.val (.ref x0), .val (.ref x1), .val (.ref x2), .val (.int (2 : Int32)), .val (.ref x1), .val (.int x3), .val (.int (0 : Int32)), .val (.long x4), .second, .val (.int x5), .val (.int x6)]
abbrev own_l127 (x0 : Addr) (x1 : Addr) (x2 : Addr) (x3 : Int32) (x4 : Int64) (x5 : Int32) (x6 : Int32) : Array Slot := #[.val (.ref x0), .val (.ref x1), .val (.ref x2), .val (.int (2 : Int32)), .val (.ref x1), .val (.int x3), .val (.int ((0 : Int32) + (1 : Int32))), .val (.long x4), .second, .val (.int x5), .val (.int x6)]
abbrev own_l128 (x0 : Addr) (x1 : Addr) (x2 : Addr) (x3 : Int32) (x4 : Int64) (x5 : Int32) (x6 : Int32) : Array Slot := #[.val (.ref x0), .val (.ref x1), .val (.ref x2), .val (.int (2 : Int32)), .val (.ref x1), .val (.int x3), .val (.int (1 : Int32)), .val (.long x4), .second, .val (.int x5), .val (.int x6)]
set_option maxRecDepth 65536 in
set_option maxHeartbeats 40000000 in
theorem own_tb0 {p : Program} {l : Launch} {e : Env} {s : State} {m : MethodId} {args : Array Value} {below : List Frame} {meth : Method} {c : Code} {T0 : State} {locs : List Loc} {Z : State} {n0 : Nat} {h0 : Heap} {C : State → Outcome → Prop} {a0 : Array Value} {cells slots : Nat} {ax asd ab : Addr} {ks kb : ClassId} {pn pz : Int32} {vs : List Value} {nn : Nat} {qv : Int64} {pf pl : Int32} (hw : ∀ d ∈ tables_1, d.before a0 Z = true) (X0 : Stand p l e ({ frames := 4, cells := 4, slots := 55, locals := 86 } : Room) s m args below meth c T0 locs cells slots) (hx : p.tables.exec = Jvm.exec) (hZ : Z.Warmed39 s.vm) (hown : s.vm.findClass "com/example/otito/otito/chain/CodePointSet$Builder" = some m.cls) (hml : c.maxLocals = 11) (hby : c.code = prog_6_method_4_code) (e0 : T0.heap = h0) (N0 : Fr n0 locs) (ga : n0 ≤ ab) (hcl : cells ≤ 4) (hsl : slots ≤ 55) (hpn : pn = Int32.ofNat nn) (hi : 0 < nn) (hnn : nn ≤ 9) (hat : vs.getD 0 (.long (0 : Int64)) = .long qv) (hf : (((qv.toUInt64 >>> ((32 : Int32) &&& 0x3f).toInt64.toUInt64).toInt64).toInt32) = pf) (hl : (qv.toInt32) = pl) (hz : (1 : Int32) < pz) (nab : asd ≠ ab) (Vs : Arv Z h0 asd ks .long pn vs (.long (0 : Int64))) (Vb : Arv Z h0 ab kb .int pz [(.int (0 : Int32)), (.int (0 : Int32)), (.int (0 : Int32)), (.int (0 : Int32))] (.int (0 : Int32)))
    (K : ∀ (T' : State) (h' : Heap) (locs' : List Loc), Stand p l e ({ frames := 4, cells := 4, slots := 55, locals := 86 } : Room) s m args below meth c T' locs' cells slots → T'.heap = h' → Fr n0 locs' → Keep h0 h' [ab] → Arv Z h' asd ks .long pn vs (.long (0 : Int64)) → Arv Z h' ab kb .int pz [(.int pf), (.int pl), (.int (0 : Int32)), (.int (0 : Int32))] (.int (0 : Int32)) → ∃ s₂ o, Steps p.tables e below (T'.setTop (mkF m 38 #[.val (.ref ax), .val (.ref asd), .val (.ref ab), .val (.int (2 : Int32)), .val (.ref asd), .val (.int pn), .val (.int (Int32.ofNat 1)), .val (.long qv), .second, .val (.int pf), .val (.int pl)] [])) s₂ ∧ C s₂ o) :
    ∃ s₂ o, Steps p.tables e below (T0.setTop (mkF m 38 (own_l119 ax asd ab pn) [])) s₂ ∧ C s₂ o := by
  have hip : (0 : Int32) < pn := by rw [hpn]; exact own_olt (i := 0) hi (by omega)
  have hi0 : ¬ (0 : Int32) < 0 := own_o0 (i := 0) (by omega)
  have hat' : vs.getD ((0 : Int32)).toNatClampNeg (.long (0 : Int64)) = .long qv := hat
  refine own_pre (A := (T0.setTop (mkF m 106 (own_l124 ax asd ab pn qv pf pl) [(.int pf), (.int (0 : Int32)), (.ref ab)]))) ?_ ?_
  · intro t k
    refine XS.iload X0.here hx rfl (hb hby d7_38) rfl ?_
    refine XS.iload X0.here hx rfl (hb hby d7_40) rfl ?_
    refine XS.icmpNo X0.here hx rfl (hb hby d7_42) rfl (tlt hip).2.1 ?_
    refine XS.aload X0.here hx rfl (hb hby d7_45) rfl rfl ?_
    refine XS.iload X0.here hx rfl (hb hby d7_47) rfl ?_
    show Steps p.tables e below (T0.setTop (mkF m 49 (own_l119 ax asd ab pn) [(.int (0 : Int32)), (.ref asd)])) _
    obtain ⟨cl325, Ar325, q325, S325, N325, H325, G325⟩ := id Vs
    have hin325 : ¬ ((0 : Int32) < 0 ∨ cl325.slots.size ≤ ((0 : Int32)).toNatClampNeg) := inb_of S325 ⟨hi0, hip⟩
    refine X0.laload hx (j := (0 : Int32)) (v := (.long qv)) (by rw [e0]; exact Ar325.1) (State.isArrayOf_alike hZ.alike Ar325.2.1) Ar325.2.2 hin325 (H325.at hin325 hat') (g := (mkF m 49 (own_l119 ax asd ab pn) [(.int (0 : Int32)), (.ref asd)])) rfl rfl (hb hby d7_49) _ ?_
    refine XS.lstore X0.here hx rfl (hb hby d7_50) rfl (l' := (own_l120 ax asd ab pn qv)) rfl ?_
    refine XS.lload X0.here hx rfl (hb hby d7_52) rfl ?_
    refine XS.bipush X0.here hx rfl (hb hby d7_54) ?_
    refine XS.lushr X0.here hx rfl (hb hby d7_56) rfl ?_
    refine XS.l2i X0.here hx rfl (hb hby d7_57) rfl ?_
    show Steps p.tables e below (T0.setTop (mkF m 58 (own_l120 ax asd ab pn qv) [(.int (((qv.toUInt64 >>> ((32 : Int32) &&& 0x3f).toInt64.toUInt64).toInt64).toInt32))])) _
    rw [hf]
    refine XS.istore X0.here hx rfl (hb hby d7_58) rfl (l' := (own_l121 ax asd ab pn qv pf)) rfl ?_
    refine XS.lload X0.here hx rfl (hb hby d7_60) rfl ?_
    refine XS.l2i X0.here hx rfl (hb hby d7_62) rfl ?_
    show Steps p.tables e below (T0.setTop (mkF m 63 (own_l121 ax asd ab pn qv pf) [(.int (qv.toInt32))])) _
    rw [hl]
    refine XS.istore X0.here hx rfl (hb hby d7_63) rfl (l' := (own_l122 ax asd ab pn qv pf pl)) rfl ?_
    refine XS.iloadN X0.here hx rfl (hb hby d7_65) rfl ?_
    refine XS.ifYes X0.here hx rfl (pc0 := 66) (pc' := 99) rfl (hb hby d7_66) rfl ((if0 _ _).trans (flt (by decide : ¬ ((0 : Int32) < (0 : Int32)))).2.2.2) (by decide) (by decide) ?_
    refine XS.aloadN X0.here hx rfl (hb hby d7_99) rfl rfl ?_
    refine XS.iloadN X0.here hx rfl (hb hby d7_100) rfl ?_
    refine XS.iinc X0.here hx rfl (hb hby d7_101) rfl (l' := (own_l123 ax asd ab pn qv pf pl)) rfl ?_
    show Steps  p.tables e below (T0.setTop (mkF m 104 #[.val (.ref ax), .val (.ref asd), .val (.ref ab), .val (.int ((0 : Int32) + (1 : Int32))), .val (.ref asd), .val (.int pn), .val (.int (0 : Int32)), .val (.long qv), .second, .val (.int pf), .val (.int pl)] [(.int (0 : Int32)), (.ref ab)])) _
    rw [show ((0 : Int32) + (1 : Int32)) = (1 : Int32) from by decide]
    refine XS.iload X0.here hx rfl (hb hby d7_104) rfl ?_
    exact k
  obtain ⟨cl326, Ar326, q326, S326, N326, H326, G326⟩ := Vb
  have hin326 : ¬ ((0 : Int32) < 0 ∨ cl326.slots.size ≤ ((0 : Int32)).toNatClampNeg) := inb_of S326 ⟨by decide, own_ltk hz (by decide)⟩
  obtain ⟨T326, h326, X326, e326, W326, st326⟩ := stI X0 hx hZ e0 Ar326 (j := (0 : Int32)) hin326 (g := (mkF m 106 (own_l124 ax asd ab pn qv pf pl) [(.int pf), (.int (0 : Int32)), (.ref ab)])) rfl rfl (hb hby d7_106)
  have V326 : Arv Z h326 ab kb .int pz [(.int pf), (.int (0 : Int32)), (.int (0 : Int32)), (.int (0 : Int32))] (.int (0 : Int32)) := Arv.set Ar326 q326 S326 N326 H326 G326 rfl W326 0 rfl (Nat.le_of_ble_eq_true rfl)
  have Vs_326 := Vs.other W326 nab
  have Kc326 : Keep h0 h326 [ab] := (Keep.refl h0 [ab]).wr W326 (Or.inl (List.mem_of_getElem? (i := 0) rfl))
  have N326 := Fr.snoc X326 N0 ga
  refine own_pre (fun t k => st326 t k) ?_
  refine own_pre (A := (T326.setTop (mkF m 114 (own_l126 ax asd ab pn qv pf pl) [(.int pl), (.int (1 : Int32)), (.ref ab)]))) ?_ ?_
  · intro t k
    refine XS.aloadN X326.here hx rfl (hb hby d7_107) rfl rfl ?_
    refine XS.iloadN X326.here hx rfl (hb hby d7_108) rfl ?_
    refine XS.iinc X326.here hx rfl (hb hby d7_109) rfl (l' := (own_l125 ax asd ab pn qv pf pl)) rfl ?_
    show Steps  p.tables e below (T326.setTop (mkF m 112 #[.val (.ref ax), .val (.ref asd), .val (.ref ab), .val (.int ((1 : Int32) + (1 : Int32))), .val (.ref asd), .val (.int pn), .val (.int (0 : Int32)), .val (.long qv), .second, .val (.int pf), .val (.int pl)] [(.int (1 : Int32)), (.ref ab)])) _
    rw [show ((1 : Int32) + (1 : Int32)) = (2 : Int32) from by decide]
    refine XS.iload X326.here hx rfl (hb hby d7_112) rfl ?_
    exact k
  obtain ⟨cl327, Ar327, q327, S327, N327, H327, G327⟩ := V326
  have hin327 : ¬ ((1 : Int32) < 0 ∨ cl327.slots.size ≤ ((1 : Int32)).toNatClampNeg) := inb_of S327 ⟨by decide, own_ltk hz (by decide)⟩
  obtain ⟨T327, h327, X327, e327, W327, st327⟩ := stI X326 hx hZ e326 Ar327 (j := (1 : Int32)) hin327 (g := (mkF m 114 (own_l126 ax asd ab pn qv pf pl) [(.int pl), (.int (1 : Int32)), (.ref ab)])) rfl rfl (hb hby d7_114)
  have V327 : Arv Z h327 ab kb .int pz [(.int pf), (.int pl), (.int (0 : Int32)), (.int (0 : Int32))] (.int (0 : Int32)) := Arv.set Ar327 q327 S327 N327 H327 G327 rfl W327 1 rfl (Nat.le_of_ble_eq_true rfl)
  have Vs_327 := Vs_326.other W327 nab
  have Kc327 : Keep h0 h327 [ab] := Kc326.wr W327 (Or.inl (List.mem_of_getElem? (i := 0) rfl))
  have N327 := Fr.snoc X327 N326 ga
  refine own_pre (fun t k => st327 t k) ?_
  refine own_pre (A := (T327.setTop (mkF m 38 (own_l128 ax asd ab pn qv pf pl) []))) ?_ ?_
  · intro t k
    refine XS.iinc X327.here hx rfl (hb hby d7_115) rfl (l' := (own_l127 ax asd ab pn qv pf pl)) rfl ?_
    show Steps  p.tables e below (T327.setTop (mkF m 118 #[.val (.ref ax), .val (.ref asd), .val (.ref ab), .val (.int (2 : Int32)), .val (.ref asd), .val (.int pn), .val (.int ((0 : Int32) + (1 : Int32))), .val (.long qv), .second, .val (.int pf), .val (.int pl)] [])) _
    rw [show ((0 : Int32) + (1 : Int32)) = (1 : Int32) from by decide]
    refine XS.goto X327.here hx rfl (pc0 := 118) (pc' := 38) rfl (hb hby d7_118) (by decide) (by decide) ?_
    exact k
  exact K _ _ _ X327 e327 N327 Kc327 Vs_327 V327
abbrev own_l129 (x0 : Addr) (x1 : Addr) (x2 : Addr) (x3 : Int32) (x4 : Nat) (x5 : Int64) (x6 : Int32) (x7 : Int32) : Array Slot := #[.val (.ref x0), .val (.ref x1), .val (.ref x2), .val (.int (2 : Int32)), .val (.ref x1), .val (.int x3), .val (.int (Int32.ofNat x4)), .val (.long x5), .second, .val (.int x6), .val (.int x7)]
abbrev own_l130 (x0 : Addr) (x1 : Addr) (x2 : Addr) (x3 : Int32) (x4 : Nat) (x5 : Int64) (x6 : Int32) (x7 : Int32) : Array Slot := #[.val (.ref x0), .val (.ref x1), .val (.ref x2), .val (.int (2 : Int32)), .val (.ref x1), .val (.int x3), .val (.int ((Int32.ofNat x4) + (1 : Int32))), .val (.long x5), .second, .val (.int x6), .val (.int x7)]
set_option maxRecDepth 65536 in
set_option maxHeartbeats 40000000 in
theorem own_tb2s {p : Program} {l : Launch} {e : Env} {s : State} {m : MethodId} {args : Array Value} {below : List Frame} {meth : Method} {c : Code} {T0 : State} {locs : List Loc} {Z : State} {n0 : Nat} {h0 : Heap} {C : State → Outcome → Prop} {a0 : Array Value} {cells slots : Nat} {ax asd ab : Addr} {ks kb : ClassId} {pn pz : Int32} {vs : List Value} {pb0 pb1 pb2 pb3 : Int32} {i nn : Nat} {qv q7 : Int64} {pf pl p9 p10 : Int32} (hw : ∀ d ∈ tables_1, d.before a0 Z = true) (X0 : Stand p l e ({ frames := 4, cells := 4, slots := 55, locals := 86 } : Room) s m args below meth c T0 locs cells slots) (hx : p.tables.exec = Jvm.exec) (hZ : Z.Warmed39 s.vm) (hown : s.vm.findClass "com/example/otito/otito/chain/CodePointSet$Builder" = some m.cls) (hml : c.maxLocals = 11) (hby : c.code = prog_6_method_4_code) (e0 : T0.heap = h0) (N0 : Fr n0 locs) (ga : n0 ≤ ab) (hcl : cells ≤ 4) (hsl : slots ≤ 55) (hpn : pn = Int32.ofNat nn) (hi : i < nn) (hnn : nn ≤ 9) (hat : vs.getD i (.long (0 : Int64)) = .long qv) (hf : (((qv.toUInt64 >>> ((32 : Int32) &&& 0x3f).toInt64.toUInt64).toInt64).toInt32) = pf) (hl : (qv.toInt32) = pl) (hz : (1 : Int32) < pz) (hm : own_max pb1 pl = pb1) (hc : ¬ (pb1 + (1 : Int32)) < pf) (nab : asd ≠ ab) (Vs : Arv Z h0 asd ks .long pn vs (.long (0 : Int64))) (Vb : Arv Z h0 ab kb .int pz [(.int pb0), (.int pb1), (.int pb2), (.int pb3)] (.int (0 : Int32)))
    (K : ∀ (T' : State) (h' : Heap) (locs' : List Loc), Stand p l e ({ frames := 4, cells := 4, slots := 55, locals := 86 } : Room) s m args below meth c T' locs' cells slots → T'.heap = h' → Fr n0 locs' → Keep h0 h' [ab] → Arv Z h' asd ks .long pn vs (.long (0 : Int64)) → Arv Z h' ab kb .int pz [(.int pb0), (.int pb1), (.int pb2), (.int pb3)] (.int (0 : Int32)) → ∃ s₂ o, Steps p.tables e below (T'.setTop (mkF m 38 #[.val (.ref ax), .val (.ref asd), .val (.ref ab), .val (.int (2 : Int32)), .val (.ref asd), .val (.int pn), .val (.int (Int32.ofNat (i + 1))), .val (.long qv), .second, .val (.int pf), .val (.int pl)] [])) s₂ ∧ C s₂ o) :
    ∃ s₂ o, Steps p.tables e below (T0.setTop (mkF m 38 (own_l129 ax asd ab pn i q7 p9 p10) [])) s₂ ∧ C s₂ o := by
  have Z0 : n0 ≤ h0.size := Nat.le_trans ga (Nat.le_of_lt Vb.lt)
  have hip : (Int32.ofNat i) < pn := by rw [hpn]; exact own_olt (i := i) hi (by omega)
  have hi0 : ¬ (Int32.ofNat i) < 0 := own_o0 (i := i) (by omega)
  have hat' : vs.getD ((Int32.ofNat i)).toNatClampNeg (.long (0 : Int64)) = .long qv := by rw [own_on i (by omega)]; exact hat
  refine own_pre (A := (T0.setTop (mkF m 92 (own_l129 ax asd ab pn i qv pf pl) [(.int pl), (.int pb1), (.int (1 : Int32)), (.ref ab)]))) ?_ ?_
  · intro t k
    refine XS.iload X0.here hx rfl (hb hby d7_38) rfl ?_
    refine XS.iload X0.here hx rfl (hb hby d7_40) rfl ?_
    refine XS.icmpNo X0.here hx rfl (hb hby d7_42) rfl (tlt hip).2.1 ?_
    refine XS.aload X0.here hx rfl (hb hby d7_45) rfl rfl ?_
    refine XS.iload X0.here hx rfl (hb hby d7_47) rfl ?_
    show Steps p.tables e below (T0.setTop (mkF m 49 (own_l129 ax asd ab pn i q7 p9 p10) [(.int (Int32.ofNat i)), (.ref asd)])) _
    obtain ⟨cl328, Ar328, q328, S328, N328, H328, G328⟩ := id Vs
    have hin328 : ¬ ((Int32.ofNat i) < 0 ∨ cl328.slots.size ≤ ((Int32.ofNat i)).toNatClampNeg) := inb_of S328 ⟨hi0, hip⟩
    refine X0.laload hx (j := (Int32.ofNat i)) (v := (.long qv)) (by rw [e0]; exact Ar328.1) (State.isArrayOf_alike hZ.alike Ar328.2.1) Ar328.2.2 hin328 (H328.at hin328 hat') (g := (mkF m 49 (own_l129 ax asd ab pn i q7 p9 p10) [(.int (Int32.ofNat i)), (.ref asd)])) rfl rfl (hb hby d7_49) _ ?_
    refine XS.lstore X0.here hx rfl (hb hby d7_50) rfl (l' := (own_l129 ax asd ab pn i qv p9 p10)) rfl ?_
    refine XS.lload X0.here hx rfl (hb hby d7_52) rfl ?_
    refine XS.bipush X0.here hx rfl (hb hby d7_54) ?_
    refine XS.lushr X0.here hx rfl (hb hby d7_56) rfl ?_
    refine XS.l2i X0.here hx rfl (hb hby d7_57) rfl ?_
    show Steps p.tables e below (T0.setTop (mkF m 58 (own_l129 ax asd ab pn i qv p9 p10) [(.int (((qv.toUInt64 >>> ((32 : Int32) &&& 0x3f).toInt64.toUInt64).toInt64).toInt32))])) _
    rw [hf]
    refine XS.istore X0.here hx rfl (hb hby d7_58) rfl (l' := (own_l129 ax asd ab pn i qv pf p10)) rfl ?_
    refine XS.lload X0.here hx rfl (hb hby d7_60) rfl ?_
    refine XS.l2i X0.here hx rfl (hb hby d7_62) rfl ?_
    show Steps p.tables e below (T0.setTop (mkF m 63 (own_l129 ax asd ab pn i qv pf p10) [(.int (qv.toInt32))])) _
    rw [hl]
    refine XS.istore X0.here hx rfl (hb hby d7_63) rfl (l' := (own_l129 ax asd ab pn i qv pf pl)) rfl ?_
    refine XS.iloadN X0.here hx rfl (hb hby d7_65) rfl ?_
    refine XS.ifNo X0.here hx rfl (hb hby d7_66) rfl ((if0 _ _).trans (tlt (by decide : (0 : Int32) < (2 : Int32))).2.2.2) ?_
    refine XS.iload X0.here hx rfl (hb hby d7_69) rfl ?_
    refine XS.aloadN X0.here hx rfl (hb hby d7_71) rfl rfl ?_
    refine XS.iloadN X0.here hx rfl (hb hby d7_72) rfl ?_
    refine XS.iconst X0.here hx rfl (hb hby d7_73) ?_
    refine XS.isub X0.here hx rfl (hb hby d7_74) rfl ?_
    show Steps p.tables e below (T0.setTop (mkF m 75 (own_l129 ax asd ab pn i qv pf pl) [(.int ((2 : Int32) - (1 : Int32))), (.ref ab), (.int pf)])) _
    rw [show ((2 : Int32) - (1 : Int32)) = (1 : Int32) from by decide]
    show Steps p.tables e below (T0.setTop (mkF m 75 (own_l129 ax asd ab pn i qv pf pl) [(.int (1 : Int32)), (.ref ab), (.int pf)])) _
    obtain ⟨cl329, Ar329, q329, S329, N329, H329, G329⟩ := id Vb
    have hin329 : ¬ ((1 : Int32) < 0 ∨ cl329.slots.size ≤ ((1 : Int32)).toNatClampNeg) := inb_of S329 ⟨by decide, own_ltk hz (by decide)⟩
    refine X0.iaload hx (j := (1 : Int32)) (v := (.int pb1)) (by rw [e0]; exact Ar329.1) (State.isArrayOf_alike hZ.alike Ar329.2.1) Ar329.2.2 hin329 (H329.at hin329 rfl) (g := (mkF m 75 (own_l129 ax asd ab pn i qv pf pl) [(.int (1 : Int32)), (.ref ab), (.int pf)])) rfl rfl (hb hby d7_75) _ ?_
    refine XS.iconst X0.here hx rfl (hb hby d7_76) ?_
    refine XS.iadd X0.here hx rfl (hb hby d7_77) rfl ?_
    refine XS.icmpNo X0.here hx rfl (hb hby d7_78) rfl (flt hc).2.2.1 ?_
    refine XS.aloadN X0.here hx rfl (hb hby d7_81) rfl rfl ?_
    refine XS.iloadN X0.here hx rfl (hb hby d7_82) rfl ?_
    refine XS.iconst X0.here hx rfl (hb hby d7_83) ?_
    refine XS.isub X0.here hx rfl (hb hby d7_84) rfl ?_
    show Steps p.tables e below (T0.setTop (mkF m 85 (own_l129 ax asd ab pn i qv pf pl) [(.int ((2 : Int32) - (1 : Int32))), (.ref ab)])) _
    rw [show ((2 : Int32) - (1 : Int32)) = (1 : Int32) from by decide]
    refine XS.aloadN X0.here hx rfl (hb hby d7_85) rfl rfl ?_
    refine XS.iloadN X0.here hx rfl (hb hby d7_86) rfl ?_
    refine XS.iconst X0.here hx rfl (hb hby d7_87) ?_
    refine XS.isub X0.here hx rfl (hb hby d7_88) rfl ?_
    show Steps p.tables e below (T0.setTop (mkF m 89 (own_l129 ax asd ab pn i qv pf pl) [(.int ((2 : Int32) - (1 : Int32))), (.ref ab), (.int (1 : Int32)), (.ref ab)])) _
    rw [show ((2 : Int32) - (1 : Int32)) = (1 : Int32) from by decide]
    show Steps p.tables e below (T0.setTop (mkF m 89 (own_l129 ax asd ab pn i qv pf pl) [(.int (1 : Int32)), (.ref ab), (.int (1 : Int32)), (.ref ab)])) _
    obtain ⟨cl330, Ar330, q330, S330, N330, H330, G330⟩ := id Vb
    have hin330 : ¬ ((1 : Int32) < 0 ∨ cl330.slots.size ≤ ((1 : Int32)).toNatClampNeg) := inb_of S330 ⟨by decide, own_ltk hz (by decide)⟩
    refine X0.iaload hx (j := (1 : Int32)) (v := (.int pb1)) (by rw [e0]; exact Ar330.1) (State.isArrayOf_alike hZ.alike Ar330.2.1) Ar330.2.2 hin330 (H330.at hin330 rfl) (g := (mkF m 89 (own_l129 ax asd ab pn i qv pf pl) [(.int (1 : Int32)), (.ref ab), (.int (1 : Int32)), (.ref ab)])) rfl rfl (hb hby d7_89) _ ?_
    refine XS.iload X0.here hx rfl (hb hby d7_90) rfl ?_
    exact k
  obtain ⟨_, _, ⟨T331, L331, k331, n331⟩, -, X331, ⟨Lc331, hQ331, l331, y331, z331⟩, st331⟩ := Jvm.LawKit.callS X0 hx (y := (⟨"java/lang/Math", "max", "(II)I"⟩ : MethodName)) hown (mvT hZ (own_w hw 60 rfl)) (mvT hZ (own_w hw 11 rfl)) (mvT hZ (own_w hw 8 rfl)) (mvT hZ (own_w hw 12 rfl)) (by decide) (backOf (W := 2) (rm3 l Z a0 hw [] pb1 pl h0 n0 Z0) hZ (own_w hw 12 rfl) (own_w hw 8 rfl) (by decide) (by decide)) (g := (mkF m 92 (own_l129 ax asd ab pn i qv pf pl) [(.int pl), (.int pb1), (.int (1 : Int32)), (.ref ab)])) rfl (by rw [hml]; rfl) (argsL := [(.int pb1), (.int pl)]) (rest := [(.int (1 : Int32)), (.ref ab)]) (lenOf own_pd0 rfl) rfl (by show 2 * 0 + _ ≤ _; exact Nat.le_of_eq rfl) (hb hby d7_92) (fun _ _ => ⟨rfl, e0, hcl, hsl⟩)
  dsimp only [Pt.U, Pt.locs, Pt.cells, Pt.slots] at X331 l331 y331 z331 st331 hQ331
  subst y331 z331
  obtain ⟨rfl, Nq331, eq331⟩ := hQ331
  have N331 := own_frl l331 N0 Nq331
  refine own_pre (fun t k => st331 t k) ?_
  rw [hm]
  obtain ⟨cl332, Ar332, q332, S332, N332, H332, G332⟩ := Vb
  have hin332 : ¬ ((1 : Int32) < 0 ∨ cl332.slots.size ≤ ((1 : Int32)).toNatClampNeg) := inb_of S332 ⟨by decide, own_ltk hz (by decide)⟩
  obtain ⟨T332, h332, X332, e332, W332, st332⟩ := stI X331 hx hZ eq331 Ar332 (j := (1 : Int32)) hin332 (g := (mkF m 95 (own_l129 ax asd ab pn i qv pf pl) [(.int pb1), (.int (1 : Int32)), (.ref ab)])) rfl rfl (hb hby d7_95)
  have V332 : Arv Z h332 ab kb .int pz [(.int pb0), (.int pb1), (.int pb2), (.int pb3)] (.int (0 : Int32)) := Arv.set Ar332 q332 S332 N332 H332 G332 rfl W332 1 rfl (Nat.le_of_ble_eq_true rfl)
  have Vs_332 := Vs.other W332 nab
  have Kc332 : Keep h0 h332 [ab] := (Keep.refl h0 [ab]).wr W332 (Or.inl (List.mem_of_getElem? (i := 0) rfl))
  have N332 := Fr.snoc X332 N331 ga
  refine own_pre (fun t k => st332 t k) ?_
  refine own_pre (A := (T332.setTop (mkF m 38 (own_l130 ax asd ab pn i qv pf pl) []))) ?_ ?_
  · intro t k
    refine XS.goto X332.here hx rfl (pc0 := 96) (pc' := 115) rfl (hb hby d7_96) (by decide) (by decide) ?_
    refine XS.iinc X332.here hx rfl (hb hby d7_115) rfl (l' := (own_l130 ax asd ab pn i qv pf pl)) rfl ?_
    refine XS.goto X332.here hx rfl (pc0 := 118) (pc' := 38) rfl (hb hby d7_118) (by decide) (by decide) ?_
    exact k
  show ∃ s₂ o, Steps p.tables e below (T332.setTop (mkF m 38 #[.val (.ref ax), .val (.ref asd), .val (.ref ab), .val (.int (2 : Int32)), .val (.ref asd), .val (.int pn), .val (.int ((Int32.ofNat i) + (1 : Int32))), .val (.long qv), .second, .val (.int pf), .val (.int pl)] [])) s₂ ∧ _
  rw [own_o1 i (by omega)]
  exact K _ _ _ X332 e332 N332 Kc332 Vs_332 V332
set_option maxRecDepth 65536 in
set_option maxHeartbeats 40000000 in
theorem own_tb2m {p : Program} {l : Launch} {e : Env} {s : State} {m : MethodId} {args : Array Value} {below : List Frame} {meth : Method} {c : Code} {T0 : State} {locs : List Loc} {Z : State} {n0 : Nat} {h0 : Heap} {C : State → Outcome → Prop} {a0 : Array Value} {cells slots : Nat} {ax asd ab : Addr} {ks kb : ClassId} {pn pz : Int32} {vs : List Value} {pb0 pb1 pb2 pb3 : Int32} {i nn : Nat} {qv q7 : Int64} {pf pl p9 p10 : Int32} (hw : ∀ d ∈ tables_1, d.before a0 Z = true) (X0 : Stand p l e ({ frames := 4, cells := 4, slots := 55, locals := 86 } : Room) s m args below meth c T0 locs cells slots) (hx : p.tables.exec = Jvm.exec) (hZ : Z.Warmed39 s.vm) (hown : s.vm.findClass "com/example/otito/otito/chain/CodePointSet$Builder" = some m.cls) (hml : c.maxLocals = 11) (hby : c.code = prog_6_method_4_code) (e0 : T0.heap = h0) (N0 : Fr n0 locs) (ga : n0 ≤ ab) (hcl : cells ≤ 4) (hsl : slots ≤ 55) (hpn : pn = Int32.ofNat nn) (hi : i < nn) (hnn : nn ≤ 9) (hat : vs.getD i (.long (0 : Int64)) = .long qv) (hf : (((qv.toUInt64 >>> ((32 : Int32) &&& 0x3f).toInt64.toUInt64).toInt64).toInt32) = pf) (hl : (qv.toInt32) = pl) (hz : (1 : Int32) < pz) (hc : ¬ (pb1 + (1 : Int32)) < pf) (nab : asd ≠ ab) (Vs : Arv Z h0 asd ks .long pn vs (.long (0 : Int64))) (Vb : Arv Z h0 ab kb .int pz [(.int pb0), (.int pb1), (.int pb2), (.int pb3)] (.int (0 : Int32)))
    (K : ∀ (T' : State) (h' : Heap) (locs' : List Loc), Stand p l e ({ frames := 4, cells := 4, slots := 55, locals := 86 } : Room) s m args below meth c T' locs' cells slots → T'.heap = h' → Fr n0 locs' → Keep h0 h' [ab] → Arv Z h' asd ks .long pn vs (.long (0 : Int64)) → Arv Z h' ab kb .int pz [(.int pb0), (.int (own_max pb1 pl)), (.int pb2), (.int pb3)] (.int (0 : Int32)) → ∃ s₂ o, Steps p.tables e below (T'.setTop (mkF m 38 #[.val (.ref ax), .val (.ref asd), .val (.ref ab), .val (.int (2 : Int32)), .val (.ref asd), .val (.int pn), .val (.int (Int32.ofNat (i + 1))), .val (.long qv), .second, .val (.int pf), .val (.int pl)] [])) s₂ ∧ C s₂ o) :
    ∃ s₂ o, Steps p.tables e below (T0.setTop (mkF m 38 (own_l129 ax asd ab pn i q7 p9 p10) [])) s₂ ∧ C s₂ o := by
  have Z0 : n0 ≤ h0.size := Nat.le_trans ga (Nat.le_of_lt Vb.lt)
  have hip : (Int32.ofNat i) < pn := by rw [hpn]; exact own_olt (i := i) hi (by omega)
  have hi0 : ¬ (Int32.ofNat i) < 0 := own_o0 (i := i) (by omega)
  have hat' : vs.getD ((Int32.ofNat i)).toNatClampNeg (.long (0 : Int64)) = .long qv := by rw [own_on i (by omega)]; exact hat
  refine own_pre (A := (T0.setTop (mkF m 92 (own_l129 ax asd ab pn i qv pf pl) [(.int pl), (.int pb1), (.int (1 : Int32)), (.ref ab)]))) ?_ ?_
  · intro t k
    refine XS.iload X0.here hx rfl (hb hby d7_38) rfl ?_
    refine XS.iload X0.here hx rfl (hb hby d7_40) rfl ?_
    refine XS.icmpNo X0.here hx rfl (hb hby d7_42) rfl (tlt hip).2.1 ?_
    refine XS.aload X0.here hx rfl (hb hby d7_45) rfl rfl ?_
    refine XS.iload X0.here hx rfl (hb hby d7_47) rfl ?_
    show Steps p.tables e below (T0.setTop (mkF m 49 (own_l129 ax asd ab pn i q7 p9 p10) [(.int (Int32.ofNat i)), (.ref asd)])) _
    obtain ⟨cl333, Ar333, q333, S333, N333, H333, G333⟩ := id Vs
    have hin333 : ¬ ((Int32.ofNat i) < 0 ∨ cl333.slots.size ≤ ((Int32.ofNat i)).toNatClampNeg) := inb_of S333 ⟨hi0, hip⟩
    refine X0.laload hx (j := (Int32.ofNat i)) (v := (.long qv)) (by rw [e0]; exact Ar333.1) (State.isArrayOf_alike hZ.alike Ar333.2.1) Ar333.2.2 hin333 (H333.at hin333 hat') (g := (mkF m 49 (own_l129 ax asd ab pn i q7 p9 p10) [(.int (Int32.ofNat i)), (.ref asd)])) rfl rfl (hb hby d7_49) _ ?_
    refine XS.lstore X0.here hx rfl (hb hby d7_50) rfl (l' := (own_l129 ax asd ab pn i qv p9 p10)) rfl ?_
    refine XS.lload X0.here hx rfl (hb hby d7_52) rfl ?_
    refine XS.bipush X0.here hx rfl (hb hby d7_54) ?_
    refine XS.lushr X0.here hx rfl (hb hby d7_56) rfl ?_
    refine XS.l2i X0.here hx rfl (hb hby d7_57) rfl ?_
    show Steps p.tables e below (T0.setTop (mkF m 58 (own_l129 ax asd ab pn i qv p9 p10) [(.int (((qv.toUInt64 >>> ((32 : Int32) &&& 0x3f).toInt64.toUInt64).toInt64).toInt32))])) _
    rw [hf]
    refine XS.istore X0.here hx rfl (hb hby d7_58) rfl (l' := (own_l129 ax asd ab pn i qv pf p10)) rfl ?_
    refine XS.lload X0.here hx rfl (hb hby d7_60) rfl ?_
    refine XS.l2i X0.here hx rfl (hb hby d7_62) rfl ?_
    show Steps p.tables e below (T0.setTop (mkF m 63 (own_l129 ax asd ab pn i qv pf p10) [(.int (qv.toInt32))])) _
    rw [hl]
    refine XS.istore X0.here hx rfl (hb hby d7_63) rfl (l' := (own_l129 ax asd ab pn i qv pf pl)) rfl ?_
    refine XS.iloadN X0.here hx rfl (hb hby d7_65) rfl ?_
    refine XS.ifNo X0.here hx rfl (hb hby d7_66) rfl ((if0 _ _).trans (tlt (by decide : (0 : Int32) < (2 : Int32))).2.2.2) ?_
    refine XS.iload X0.here hx rfl (hb hby d7_69) rfl ?_
    refine XS.aloadN X0.here hx rfl (hb hby d7_71) rfl rfl ?_
    refine XS.iloadN X0.here hx rfl (hb hby d7_72) rfl ?_
    refine XS.iconst X0.here hx rfl (hb hby d7_73) ?_
    refine XS.isub X0.here hx rfl (hb hby d7_74) rfl ?_
    show Steps p.tables e below (T0.setTop (mkF m 75 (own_l129 ax asd ab pn i qv pf pl) [(.int ((2 : Int32) - (1 : Int32))), (.ref ab), (.int pf)])) _
    rw [show ((2 : Int32) - (1 : Int32)) = (1 : Int32) from by decide]
    show Steps p.tables e below (T0.setTop (mkF m 75 (own_l129 ax asd ab pn i qv pf pl) [(.int (1 : Int32)), (.ref ab), (.int pf)])) _
    obtain ⟨cl334, Ar334, q334, S334, N334, H334, G334⟩ := id Vb
    have hin334 : ¬ ((1 : Int32) < 0 ∨ cl334.slots.size ≤ ((1 : Int32)).toNatClampNeg) := inb_of S334 ⟨by decide, own_ltk hz (by decide)⟩
    refine X0.iaload hx (j := (1 : Int32)) (v := (.int pb1)) (by rw [e0]; exact Ar334.1) (State.isArrayOf_alike hZ.alike Ar334.2.1) Ar334.2.2 hin334 (H334.at hin334 rfl) (g := (mkF m 75 (own_l129 ax asd ab pn i qv pf pl) [(.int (1 : Int32)), (.ref ab), (.int pf)])) rfl rfl (hb hby d7_75) _ ?_
    refine XS.iconst X0.here hx rfl (hb hby d7_76) ?_
    refine XS.iadd X0.here hx rfl (hb hby d7_77) rfl ?_
    refine XS.icmpNo X0.here hx rfl (hb hby d7_78) rfl (flt hc).2.2.1 ?_
    refine XS.aloadN X0.here hx rfl (hb hby d7_81) rfl rfl ?_
    refine XS.iloadN X0.here hx rfl (hb hby d7_82) rfl ?_
    refine XS.iconst X0.here hx rfl (hb hby d7_83) ?_
    refine XS.isub X0.here hx rfl (hb hby d7_84) rfl ?_
    show Steps p.tables e below (T0.setTop (mkF m 85 (own_l129 ax asd ab pn i qv pf pl) [(.int ((2 : Int32) - (1 : Int32))), (.ref ab)])) _
    rw [show ((2 : Int32) - (1 : Int32)) = (1 : Int32) from by decide]
    refine XS.aloadN X0.here hx rfl (hb hby d7_85) rfl rfl ?_
    refine XS.iloadN X0.here hx rfl (hb hby d7_86) rfl ?_
    refine XS.iconst X0.here hx rfl (hb hby d7_87) ?_
    refine XS.isub X0.here hx rfl (hb hby d7_88) rfl ?_
    show Steps p.tables e below (T0.setTop (mkF m 89 (own_l129 ax asd ab pn i qv pf pl) [(.int ((2 : Int32) - (1 : Int32))), (.ref ab), (.int (1 : Int32)), (.ref ab)])) _
    rw [show ((2 : Int32) - (1 : Int32)) = (1 : Int32) from by decide]
    show Steps p.tables e below (T0.setTop (mkF m 89 (own_l129 ax asd ab pn i qv pf pl) [(.int (1 : Int32)), (.ref ab), (.int (1 : Int32)), (.ref ab)])) _
    obtain ⟨cl335, Ar335, q335, S335, N335, H335, G335⟩ := id Vb
    have hin335 : ¬ ((1 : Int32) < 0 ∨ cl335.slots.size ≤ ((1 : Int32)).toNatClampNeg) := inb_of S335 ⟨by decide, own_ltk hz (by decide)⟩
    refine X0.iaload hx (j := (1 : Int32)) (v := (.int pb1)) (by rw [e0]; exact Ar335.1) (State.isArrayOf_alike hZ.alike Ar335.2.1) Ar335.2.2 hin335 (H335.at hin335 rfl) (g := (mkF m 89 (own_l129 ax asd ab pn i qv pf pl) [(.int (1 : Int32)), (.ref ab), (.int (1 : Int32)), (.ref ab)])) rfl rfl (hb hby d7_89) _ ?_
    refine XS.iload X0.here hx rfl (hb hby d7_90) rfl ?_
    exact k
  obtain ⟨_, _, ⟨T336, L336, k336, n336⟩, -, X336, ⟨Lc336, hQ336, l336, y336, z336⟩, st336⟩ := Jvm.LawKit.callS X0 hx (y := (⟨"java/lang/Math", "max", "(II)I"⟩ : MethodName)) hown (mvT hZ (own_w hw 60 rfl)) (mvT hZ (own_w hw 11 rfl)) (mvT hZ (own_w hw 8 rfl)) (mvT hZ (own_w hw 12 rfl)) (by decide) (backOf (W := 2) (rm3 l Z a0 hw [] pb1 pl h0 n0 Z0) hZ (own_w hw 12 rfl) (own_w hw 8 rfl) (by decide) (by decide)) (g := (mkF m 92 (own_l129 ax asd ab pn i qv pf pl) [(.int pl), (.int pb1), (.int (1 : Int32)), (.ref ab)])) rfl (by rw [hml]; rfl) (argsL := [(.int pb1), (.int pl)]) (rest := [(.int (1 : Int32)), (.ref ab)]) (lenOf own_pd0 rfl) rfl (by show 2 * 0 + _ ≤ _; exact Nat.le_of_eq rfl) (hb hby d7_92) (fun _ _ => ⟨rfl, e0, hcl, hsl⟩)
  dsimp only [Pt.U, Pt.locs, Pt.cells, Pt.slots] at X336 l336 y336 z336 st336 hQ336
  subst y336 z336
  obtain ⟨rfl, Nq336, eq336⟩ := hQ336
  have N336 := own_frl l336 N0 Nq336
  refine own_pre (fun t k => st336 t k) ?_
  obtain ⟨cl337, Ar337, q337, S337, N337, H337, G337⟩ := Vb
  have hin337 : ¬ ((1 : Int32) < 0 ∨ cl337.slots.size ≤ ((1 : Int32)).toNatClampNeg) := inb_of S337 ⟨by decide, own_ltk hz (by decide)⟩
  obtain ⟨T337, h337, X337, e337, W337, st337⟩ := stI X336 hx hZ eq336 Ar337 (j := (1 : Int32)) hin337 (g := (mkF m 95 (own_l129 ax asd ab pn i qv pf pl) [(.int (own_max pb1 pl)), (.int (1 : Int32)), (.ref ab)])) rfl rfl (hb hby d7_95)
  have V337 : Arv Z h337 ab kb .int pz [(.int pb0), (.int (own_max pb1 pl)), (.int pb2), (.int pb3)] (.int (0 : Int32)) := Arv.set Ar337 q337 S337 N337 H337 G337 rfl W337 1 rfl (Nat.le_of_ble_eq_true rfl)
  have Vs_337 := Vs.other W337 nab
  have Kc337 : Keep h0 h337 [ab] := (Keep.refl h0 [ab]).wr W337 (Or.inl (List.mem_of_getElem? (i := 0) rfl))
  have N337 := Fr.snoc X337 N336 ga
  refine own_pre (fun t k => st337 t k) ?_
  refine own_pre (A := (T337.setTop (mkF m 38 (own_l130 ax asd ab pn i qv pf pl) []))) ?_ ?_
  · intro t k
    refine XS.goto X337.here hx rfl (pc0 := 96) (pc' := 115) rfl (hb hby d7_96) (by decide) (by decide) ?_
    refine XS.iinc X337.here hx rfl (hb hby d7_115) rfl (l' := (own_l130 ax asd ab pn i qv pf pl)) rfl ?_
    refine XS.goto X337.here hx rfl (pc0 := 118) (pc' := 38) rfl (hb hby d7_118) (by decide) (by decide) ?_
    exact k
  show ∃ s₂ o, Steps p.tables e below (T337.setTop (mkF m 38 #[.val (.ref ax), .val (.ref asd), .val (.ref ab), .val (.int (2 : Int32)), .val (.ref asd), .val (.int pn), .val (.int ((Int32.ofNat i) + (1 : Int32))), .val (.long qv), .second, .val (.int pf), .val (.int pl)] [])) s₂ ∧ _
  rw [own_o1 i (by omega)]
  exact K _ _ _ X337 e337 N337 Kc337 Vs_337 V337
abbrev own_l131 (x0 : Addr) (x1 : Addr) (x2 : Addr) (x3 : Int32) (x4 : Nat) (x5 : Int64) (x6 : Int32) (x7 : Int32) : Array Slot := #[.val (.ref x0), .val (.ref x1), .val (.ref x2), .val (.int ((2 : Int32) + (1 : Int32))), .val (.ref x1), .val (.int x3), .val (.int (Int32.ofNat x4)), .val (.long x5), .second, .val (.int x6), .val (.int x7)]
abbrev own_l132 (x0 : Addr) (x1 : Addr) (x2 : Addr) (x3 : Int32) (x4 : Nat) (x5 : Int64) (x6 : Int32) (x7 : Int32) : Array Slot := #[.val (.ref x0), .val (.ref x1), .val (.ref x2), .val (.int (3 : Int32)), .val (.ref x1), .val (.int x3), .val (.int (Int32.ofNat x4)), .val (.long x5), .second, .val (.int x6), .val (.int x7)]
abbrev own_l133 (x0 : Addr) (x1 : Addr) (x2 : Addr) (x3 : Int32) (x4 : Nat) (x5 : Int64) (x6 : Int32) (x7 : Int32) : Array Slot := #[.val (.ref x0), .val (.ref x1), .val (.ref x2), .val (.int ((3 : Int32) + (1 : Int32))), .val (.ref x1), .val (.int x3), .val (.int (Int32.ofNat x4)), .val (.long x5), .second, .val (.int x6), .val (.int x7)]
abbrev own_l134 (x0 : Addr) (x1 : Addr) (x2 : Addr) (x3 : Int32) (x4 : Nat) (x5 : Int64) (x6 : Int32) (x7 : Int32) : Array Slot := #[.val (.ref x0), .val (.ref x1), .val (.ref x2), .val (.int (4 : Int32)), .val (.ref x1), .val (.int x3), .val (.int (Int32.ofNat x4)), .val (.long x5), .second, .val (.int x6), .val (.int x7)]
abbrev own_l135 (x0 : Addr) (x1 : Addr) (x2 : Addr) (x3 : Int32) (x4 : Nat) (x5 : Int64) (x6 : Int32) (x7 : Int32) : Array Slot := #[.val (.ref x0), .val (.ref x1), .val (.ref x2), .val (.int (4 : Int32)), .val (.ref x1), .val (.int x3), .val (.int ((Int32.ofNat x4) + (1 : Int32))), .val (.long x5), .second, .val (.int x6), .val (.int x7)]
set_option maxRecDepth 65536 in
set_option maxHeartbeats 40000000 in
theorem own_tb2a {p : Program} {l : Launch} {e : Env} {s : State} {m : MethodId} {args : Array Value} {below : List Frame} {meth : Method} {c : Code} {T0 : State} {locs : List Loc} {Z : State} {n0 : Nat} {h0 : Heap} {C : State → Outcome → Prop} {a0 : Array Value} {cells slots : Nat} {ax asd ab : Addr} {ks kb : ClassId} {pn pz : Int32} {vs : List Value} {pb0 pb1 pb2 pb3 : Int32} {i nn : Nat} {qv q7 : Int64} {pf pl p9 p10 : Int32} (hw : ∀ d ∈ tables_1, d.before a0 Z = true) (X0 : Stand p l e ({ frames := 4, cells := 4, slots := 55, locals := 86 } : Room) s m args below meth c T0 locs cells slots) (hx : p.tables.exec = Jvm.exec) (hZ : Z.Warmed39 s.vm) (hown : s.vm.findClass "com/example/otito/otito/chain/CodePointSet$Builder" = some m.cls) (hml : c.maxLocals = 11) (hby : c.code = prog_6_method_4_code) (e0 : T0.heap = h0) (N0 : Fr n0 locs) (ga : n0 ≤ ab) (hcl : cells ≤ 4) (hsl : slots ≤ 55) (hpn : pn = Int32.ofNat nn) (hi : i < nn) (hnn : nn ≤ 9) (hat : vs.getD i (.long (0 : Int64)) = .long qv) (hf : (((qv.toUInt64 >>> ((32 : Int32) &&& 0x3f).toInt64.toUInt64).toInt64).toInt32) = pf) (hl : (qv.toInt32) = pl) (hz : (3 : Int32) < pz) (hc : (pb1 + (1 : Int32)) < pf) (nab : asd ≠ ab) (Vs : Arv Z h0 asd ks .long pn vs (.long (0 : Int64))) (Vb : Arv Z h0 ab kb .int pz [(.int pb0), (.int pb1), (.int pb2), (.int pb3)] (.int (0 : Int32)))
    (K : ∀ (T' : State) (h' : Heap) (locs' : List Loc), Stand p l e ({ frames := 4, cells := 4, slots := 55, locals := 86 } : Room) s m args below meth c T' locs' cells slots → T'.heap = h' → Fr n0 locs' → Keep h0 h' [ab] → Arv Z h' asd ks .long pn vs (.long (0 : Int64)) → Arv Z h' ab kb .int pz [(.int pb0), (.int pb1), (.int pf), (.int pl)] (.int (0 : Int32)) → ∃ s₂ o, Steps p.tables e below (T'.setTop (mkF m 38 #[.val (.ref ax), .val (.ref asd), .val (.ref ab), .val (.int (4 : Int32)), .val (.ref asd), .val (.int pn), .val (.int (Int32.ofNat (i + 1))), .val (.long qv), .second, .val (.int pf), .val (.int pl)] [])) s₂ ∧ C s₂ o) :
    ∃ s₂ o, Steps p.tables e below (T0.setTop (mkF m 38 (own_l129 ax asd ab pn i q7 p9 p10) [])) s₂ ∧ C s₂ o := by
  have hip : (Int32.ofNat i) < pn := by rw [hpn]; exact own_olt (i := i) hi (by omega)
  have hi0 : ¬ (Int32.ofNat i) < 0 := own_o0 (i := i) (by omega)
  have hat' : vs.getD ((Int32.ofNat i)).toNatClampNeg (.long (0 : Int64)) = .long qv := by rw [own_on i (by omega)]; exact hat
  refine own_pre (A := (T0.setTop (mkF m 106 (own_l132 ax asd ab pn i qv pf pl) [(.int pf), (.int (2 : Int32)), (.ref ab)]))) ?_ ?_
  · intro t k
    refine XS.iload X0.here hx rfl (hb hby d7_38) rfl ?_
    refine XS.iload X0.here hx rfl (hb hby d7_40) rfl ?_
    refine XS.icmpNo X0.here hx rfl (hb hby d7_42) rfl (tlt hip).2.1 ?_
    refine XS.aload X0.here hx rfl (hb hby d7_45) rfl rfl ?_
    refine XS.iload X0.here hx rfl (hb hby d7_47) rfl ?_
    show Steps p.tables e below (T0.setTop (mkF m 49 (own_l129 ax asd ab pn i q7 p9 p10) [(.int (Int32.ofNat i)), (.ref asd)])) _
    obtain ⟨cl338, Ar338, q338, S338, N338, H338, G338⟩ := id Vs
    have hin338 : ¬ ((Int32.ofNat i) < 0 ∨ cl338.slots.size ≤ ((Int32.ofNat i)).toNatClampNeg) := inb_of S338 ⟨hi0, hip⟩
    refine X0.laload hx (j := (Int32.ofNat i)) (v := (.long qv)) (by rw [e0]; exact Ar338.1) (State.isArrayOf_alike hZ.alike Ar338.2.1) Ar338.2.2 hin338 (H338.at hin338 hat') (g := (mkF m 49 (own_l129 ax asd ab pn i q7 p9 p10) [(.int (Int32.ofNat i)), (.ref asd)])) rfl rfl (hb hby d7_49) _ ?_
    refine XS.lstore X0.here hx rfl (hb hby d7_50) rfl (l' := (own_l129 ax asd ab pn i qv p9 p10)) rfl ?_
    refine XS.lload X0.here hx rfl (hb hby d7_52) rfl ?_
    refine XS.bipush X0.here hx rfl (hb hby d7_54) ?_
    refine XS.lushr X0.here hx rfl (hb hby d7_56) rfl ?_
    refine XS.l2i X0.here hx rfl (hb hby d7_57) rfl ?_
    show Steps p.tables e below (T0.setTop (mkF m 58 (own_l129 ax asd ab pn i qv p9 p10) [(.int (((qv.toUInt64 >>> ((32 : Int32) &&& 0x3f).toInt64.toUInt64).toInt64).toInt32))])) _
    rw [hf]
    refine XS.istore X0.here hx rfl (hb hby d7_58) rfl (l' := (own_l129 ax asd ab pn i qv pf p10)) rfl ?_
    refine XS.lload X0.here hx rfl (hb hby d7_60) rfl ?_
    refine XS.l2i X0.here hx rfl (hb hby d7_62) rfl ?_
    show Steps p.tables e below (T0.setTop (mkF m 63 (own_l129 ax asd ab pn i qv pf p10) [(.int (qv.toInt32))])) _
    rw [hl]
    refine XS.istore X0.here hx rfl (hb hby d7_63) rfl (l' := (own_l129 ax asd ab pn i qv pf pl)) rfl ?_
    refine XS.iloadN X0.here hx rfl (hb hby d7_65) rfl ?_
    refine XS.ifNo X0.here hx rfl (hb hby d7_66) rfl ((if0 _ _).trans (tlt (by decide : (0 : Int32) < (2 : Int32))).2.2.2) ?_
    refine XS.iload X0.here hx rfl (hb hby d7_69) rfl ?_
    refine XS.aloadN X0.here hx rfl (hb hby d7_71) rfl rfl ?_
    refine XS.iloadN X0.here hx rfl (hb hby d7_72) rfl ?_
    refine XS.iconst X0.here hx rfl (hb hby d7_73) ?_
    refine XS.isub X0.here hx rfl (hb hby d7_74) rfl ?_
    show Steps p.tables e below (T0.setTop (mkF m 75 (own_l129 ax asd ab pn i qv pf pl) [(.int ((2 : Int32) - (1 : Int32))), (.ref ab), (.int pf)])) _
    rw [show ((2 : Int32) - (1 : Int32)) = (1 : Int32) from by decide]
    show Steps p.tables e below (T0.setTop (mkF m 75 (own_l129 ax asd ab pn i qv pf pl) [(.int (1 : Int32)), (.ref ab), (.int pf)])) _
    obtain ⟨cl339, Ar339, q339, S339, N339, H339, G339⟩ := id Vb
    have hin339 : ¬ ((1 : Int32) < 0 ∨ cl339.slots.size ≤ ((1 : Int32)).toNatClampNeg) := inb_of S339 ⟨by decide, own_ltk hz (by decide)⟩
    refine X0.iaload hx (j := (1 : Int32)) (v := (.int pb1)) (by rw [e0]; exact Ar339.1) (State.isArrayOf_alike hZ.alike Ar339.2.1) Ar339.2.2 hin339 (H339.at hin339 rfl) (g := (mkF m 75 (own_l129 ax asd ab pn i qv pf pl) [(.int (1 : Int32)), (.ref ab), (.int pf)])) rfl rfl (hb hby d7_75) _ ?_
    refine XS.iconst X0.here hx rfl (hb hby d7_76) ?_
    refine XS.iadd X0.here hx rfl (hb hby d7_77) rfl ?_
    refine XS.icmpYes X0.here hx rfl (pc0 := 78) (pc' := 99) rfl (hb hby d7_78) rfl (tlt hc).2.2.1 (by decide) (by decide) ?_
    refine XS.aloadN X0.here hx rfl (hb hby d7_99) rfl rfl ?_
    refine XS.iloadN X0.here hx rfl (hb hby d7_100) rfl ?_
    refine XS.iinc X0.here hx rfl (hb hby d7_101) rfl (l' := (own_l131 ax asd ab pn i qv pf pl)) rfl ?_
    show Steps  p.tables e below (T0.setTop (mkF m 104 #[.val (.ref ax), .val (.ref asd), .val (.ref ab), .val (.int ((2 : Int32) + (1 : Int32))), .val (.ref asd), .val (.int pn), .val (.int (Int32.ofNat i)), .val (.long qv), .second, .val (.int pf), .val (.int pl)] [(.int (2 : Int32)), (.ref ab)])) _
    rw [show ((2 : Int32) + (1 : Int32)) = (3 : Int32) from by decide]
    refine XS.iload X0.here hx rfl (hb hby d7_104) rfl ?_
    exact k
  obtain ⟨cl340, Ar340, q340, S340, N340, H340, G340⟩ := Vb
  have hin340 : ¬ ((2 : Int32) < 0 ∨ cl340.slots.size ≤ ((2 : Int32)).toNatClampNeg) := inb_of S340 ⟨by decide, own_ltk hz (by decide)⟩
  obtain ⟨T340, h340, X340, e340, W340, st340⟩ := stI X0 hx hZ e0 Ar340 (j := (2 : Int32)) hin340 (g := (mkF m 106 (own_l132 ax asd ab pn i qv pf pl) [(.int pf), (.int (2 : Int32)), (.ref ab)])) rfl rfl (hb hby d7_106)
  have V340 : Arv Z h340 ab kb .int pz [(.int pb0), (.int pb1), (.int pf), (.int pb3)] (.int (0 : Int32)) := Arv.set Ar340 q340 S340 N340 H340 G340 rfl W340 2 rfl (Nat.le_of_ble_eq_true rfl)
  have Vs_340 := Vs.other W340 nab
  have Kc340 : Keep h0 h340 [ab] := (Keep.refl h0 [ab]).wr W340 (Or.inl (List.mem_of_getElem? (i := 0) rfl))
  have N340 := Fr.snoc X340 N0 ga
  refine own_pre (fun t k => st340 t k) ?_
  refine own_pre (A := (T340.setTop (mkF m 114 (own_l134 ax asd ab pn i qv pf pl) [(.int pl), (.int (3 : Int32)), (.ref ab)]))) ?_ ?_
  · intro t k
    refine XS.aloadN X340.here hx rfl (hb hby d7_107) rfl rfl ?_
    refine XS.iloadN X340.here hx rfl (hb hby d7_108) rfl ?_
    refine XS.iinc X340.here hx rfl (hb hby d7_109) rfl (l' := (own_l133 ax asd ab pn i qv pf pl)) rfl ?_
    show Steps  p.tables e below (T340.setTop (mkF m 112 #[.val (.ref ax), .val (.ref asd), .val (.ref ab), .val (.int ((3 : Int32) + (1 : Int32))), .val (.ref asd), .val (.int pn), .val (.int (Int32.ofNat i)), .val (.long qv), .second, .val (.int pf), .val (.int pl)] [(.int (3 : Int32)), (.ref ab)])) _
    rw [show ((3 : Int32) + (1 : Int32)) = (4 : Int32) from by decide]
    refine XS.iload X340.here hx rfl (hb hby d7_112) rfl ?_
    exact k
  obtain ⟨cl341, Ar341, q341, S341, N341, H341, G341⟩ := V340
  have hin341 : ¬ ((3 : Int32) < 0 ∨ cl341.slots.size ≤ ((3 : Int32)).toNatClampNeg) := inb_of S341 ⟨by decide, own_ltk hz (by decide)⟩
  obtain ⟨T341, h341, X341, e341, W341, st341⟩ := stI X340 hx hZ e340 Ar341 (j := (3 : Int32)) hin341 (g := (mkF m 114 (own_l134 ax asd ab pn i qv pf pl) [(.int pl), (.int (3 : Int32)), (.ref ab)])) rfl rfl (hb hby d7_114)
  have V341 : Arv Z h341 ab kb .int pz [(.int pb0), (.int pb1), (.int pf), (.int pl)] (.int (0 : Int32)) := Arv.set Ar341 q341 S341 N341 H341 G341 rfl W341 3 rfl (Nat.le_of_ble_eq_true rfl)
  have Vs_341 := Vs_340.other W341 nab
  have Kc341 : Keep h0 h341 [ab] := Kc340.wr W341 (Or.inl (List.mem_of_getElem? (i := 0) rfl))
  have N341 := Fr.snoc X341 N340 ga
  refine own_pre (fun t k => st341 t k) ?_
  refine own_pre (A := (T341.setTop (mkF m 38 (own_l135 ax asd ab pn i qv pf pl) []))) ?_ ?_
  · intro t k
    refine XS.iinc X341.here hx rfl (hb hby d7_115) rfl (l' := (own_l135 ax asd ab pn i qv pf pl)) rfl ?_
    refine XS.goto X341.here hx rfl (pc0 := 118) (pc' := 38) rfl (hb hby d7_118) (by decide) (by decide) ?_
    exact k
  show ∃ s₂ o, Steps p.tables e below (T341.setTop (mkF m 38 #[.val (.ref ax), .val (.ref asd), .val (.ref ab), .val (.int (4 : Int32)), .val (.ref asd), .val (.int pn), .val (.int ((Int32.ofNat i) + (1 : Int32))), .val (.long qv), .second, .val (.int pf), .val (.int pl)] [])) s₂ ∧ _
  rw [own_o1 i (by omega)]
  exact K _ _ _ X341 e341 N341 Kc341 Vs_341 V341
set_option maxRecDepth 65536 in
set_option maxHeartbeats 40000000 in
theorem own_tb4s {p : Program} {l : Launch} {e : Env} {s : State} {m : MethodId} {args : Array Value} {below : List Frame} {meth : Method} {c : Code} {T0 : State} {locs : List Loc} {Z : State} {n0 : Nat} {h0 : Heap} {C : State → Outcome → Prop} {a0 : Array Value} {cells slots : Nat} {ax asd ab : Addr} {ks kb : ClassId} {pn pz : Int32} {vs : List Value} {pb0 pb1 pb2 pb3 : Int32} {i nn : Nat} {qv q7 : Int64} {pf pl p9 p10 : Int32} (hw : ∀ d ∈ tables_1, d.before a0 Z = true) (X0 : Stand p l e ({ frames := 4, cells := 4, slots := 55, locals := 86 } : Room) s m args below meth c T0 locs cells slots) (hx : p.tables.exec = Jvm.exec) (hZ : Z.Warmed39 s.vm) (hown : s.vm.findClass "com/example/otito/otito/chain/CodePointSet$Builder" = some m.cls) (hml : c.maxLocals = 11) (hby : c.code = prog_6_method_4_code) (e0 : T0.heap = h0) (N0 : Fr n0 locs) (ga : n0 ≤ ab) (hcl : cells ≤ 4) (hsl : slots ≤ 55) (hpn : pn = Int32.ofNat nn) (hi : i < nn) (hnn : nn ≤ 9) (hat : vs.getD i (.long (0 : Int64)) = .long qv) (hf : (((qv.toUInt64 >>> ((32 : Int32) &&& 0x3f).toInt64.toUInt64).toInt64).toInt32) = pf) (hl : (qv.toInt32) = pl) (hz : (3 : Int32) < pz) (hm : own_max pb3 pl = pb3) (hc : ¬ (pb3 + (1 : Int32)) < pf) (nab : asd ≠ ab) (Vs : Arv Z h0 asd ks .long pn vs (.long (0 : Int64))) (Vb : Arv Z h0 ab kb .int pz [(.int pb0), (.int pb1), (.int pb2), (.int pb3)] (.int (0 : Int32)))
    (K : ∀ (T' : State) (h' : Heap) (locs' : List Loc), Stand p l e ({ frames := 4, cells := 4, slots := 55, locals := 86 } : Room) s m args below meth c T' locs' cells slots → T'.heap = h' → Fr n0 locs' → Keep h0 h' [ab] → Arv Z h' asd ks .long pn vs (.long (0 : Int64)) → Arv Z h' ab kb .int pz [(.int pb0), (.int pb1), (.int pb2), (.int pb3)] (.int (0 : Int32)) → ∃ s₂ o, Steps p.tables e below (T'.setTop (mkF m 38 #[.val (.ref ax), .val (.ref asd), .val (.ref ab), .val (.int (4 : Int32)), .val (.ref asd), .val (.int pn), .val (.int (Int32.ofNat (i + 1))), .val (.long qv), .second, .val (.int pf), .val (.int pl)] [])) s₂ ∧ C s₂ o) :
    ∃ s₂ o, Steps p.tables e below (T0.setTop (mkF m 38 (own_l134 ax asd ab pn i q7 p9 p10) [])) s₂ ∧ C s₂ o := by
  have Z0 : n0 ≤ h0.size := Nat.le_trans ga (Nat.le_of_lt Vb.lt)
  have hip : (Int32.ofNat i) < pn := by rw [hpn]; exact own_olt (i := i) hi (by omega)
  have hi0 : ¬ (Int32.ofNat i) < 0 := own_o0 (i := i) (by omega)
  have hat' : vs.getD ((Int32.ofNat i)).toNatClampNeg (.long (0 : Int64)) = .long qv := by rw [own_on i (by omega)]; exact hat
  refine own_pre (A := (T0.setTop (mkF m 92 (own_l134 ax asd ab pn i qv pf pl) [(.int pl), (.int pb3), (.int (3 : Int32)), (.ref ab)]))) ?_ ?_
  · intro t k
    refine XS.iload X0.here hx rfl (hb hby d7_38) rfl ?_
    refine XS.iload X0.here hx rfl (hb hby d7_40) rfl ?_
    refine XS.icmpNo X0.here hx rfl (hb hby d7_42) rfl (tlt hip).2.1 ?_
    refine XS.aload X0.here hx rfl (hb hby d7_45) rfl rfl ?_
    refine XS.iload X0.here hx rfl (hb hby d7_47) rfl ?_
    show Steps p.tables e below (T0.setTop (mkF m 49 (own_l134 ax asd ab pn i q7 p9 p10) [(.int (Int32.ofNat i)), (.ref asd)])) _
    obtain ⟨cl342, Ar342, q342, S342, N342, H342, G342⟩ := id Vs
    have hin342 : ¬ ((Int32.ofNat i) < 0 ∨ cl342.slots.size ≤ ((Int32.ofNat i)).toNatClampNeg) := inb_of S342 ⟨hi0, hip⟩
    refine X0.laload hx (j := (Int32.ofNat i)) (v := (.long qv)) (by rw [e0]; exact Ar342.1) (State.isArrayOf_alike hZ.alike Ar342.2.1) Ar342.2.2 hin342 (H342.at hin342 hat') (g := (mkF m 49 (own_l134 ax asd ab pn i q7 p9 p10) [(.int (Int32.ofNat i)), (.ref asd)])) rfl rfl (hb hby d7_49) _ ?_
    refine XS.lstore X0.here hx rfl (hb hby d7_50) rfl (l' := (own_l134 ax asd ab pn i qv p9 p10)) rfl ?_
    refine XS.lload X0.here hx rfl (hb hby d7_52) rfl ?_
    refine XS.bipush X0.here hx rfl (hb hby d7_54) ?_
    refine XS.lushr X0.here hx rfl (hb hby d7_56) rfl ?_
    refine XS.l2i X0.here hx rfl (hb hby d7_57) rfl ?_
    show Steps p.tables e below (T0.setTop (mkF m 58 (own_l134 ax asd ab pn i qv p9 p10) [(.int (((qv.toUInt64 >>> ((32 : Int32) &&& 0x3f).toInt64.toUInt64).toInt64).toInt32))])) _
    rw [hf]
    refine XS.istore X0.here hx rfl (hb hby d7_58) rfl (l' := (own_l134 ax asd ab pn i qv pf p10)) rfl ?_
    refine XS.lload X0.here hx rfl (hb hby d7_60) rfl ?_
    refine XS.l2i X0.here hx rfl (hb hby d7_62) rfl ?_
    show Steps p.tables e below (T0.setTop (mkF m 63 (own_l134 ax asd ab pn i qv pf p10) [(.int (qv.toInt32))])) _
    rw [hl]
    refine XS.istore X0.here hx rfl (hb hby d7_63) rfl (l' := (own_l134 ax asd ab pn i qv pf pl)) rfl ?_
    refine XS.iloadN X0.here hx rfl (hb hby d7_65) rfl ?_
    refine XS.ifNo X0.here hx rfl (hb hby d7_66) rfl ((if0 _ _).trans (tlt (by decide : (0 : Int32) < (4 : Int32))).2.2.2) ?_
    refine XS.iload X0.here hx rfl (hb hby d7_69) rfl ?_
    refine XS.aloadN X0.here hx rfl (hb hby d7_71) rfl rfl ?_
    refine XS.iloadN X0.here hx rfl (hb hby d7_72) rfl ?_
    refine XS.iconst X0.here hx rfl (hb hby d7_73) ?_
    refine XS.isub X0.here hx rfl (hb hby d7_74) rfl ?_
    show Steps p.tables e below (T0.setTop (mkF m 75 (own_l134 ax asd ab pn i qv pf pl) [(.int ((4 : Int32) - (1 : Int32))), (.ref ab), (.int pf)])) _
    rw [show ((4 : Int32) - (1 : Int32)) = (3 : Int32) from by decide]
    show Steps p.tables e below (T0.setTop (mkF m 75 (own_l134 ax asd ab pn i qv pf pl) [(.int (3 : Int32)), (.ref ab), (.int pf)])) _
    obtain ⟨cl343, Ar343, q343, S343, N343, H343, G343⟩ := id Vb
    have hin343 : ¬ ((3 : Int32) < 0 ∨ cl343.slots.size ≤ ((3 : Int32)).toNatClampNeg) := inb_of S343 ⟨by decide, own_ltk hz (by decide)⟩
    refine X0.iaload hx (j := (3 : Int32)) (v := (.int pb3)) (by rw [e0]; exact Ar343.1) (State.isArrayOf_alike hZ.alike Ar343.2.1) Ar343.2.2 hin343 (H343.at hin343 rfl) (g := (mkF m 75 (own_l134 ax asd ab pn i qv pf pl) [(.int (3 : Int32)), (.ref ab), (.int pf)])) rfl rfl (hb hby d7_75) _ ?_
    refine XS.iconst X0.here hx rfl (hb hby d7_76) ?_
    refine XS.iadd X0.here hx rfl (hb hby d7_77) rfl ?_
    refine XS.icmpNo X0.here hx rfl (hb hby d7_78) rfl (flt hc).2.2.1 ?_
    refine XS.aloadN X0.here hx rfl (hb hby d7_81) rfl rfl ?_
    refine XS.iloadN X0.here hx rfl (hb hby d7_82) rfl ?_
    refine XS.iconst X0.here hx rfl (hb hby d7_83) ?_
    refine XS.isub X0.here hx rfl (hb hby d7_84) rfl ?_
    show Steps p.tables e below (T0.setTop (mkF m 85 (own_l134 ax asd ab pn i qv pf pl) [(.int ((4 : Int32) - (1 : Int32))), (.ref ab)])) _
    rw [show ((4 : Int32) - (1 : Int32)) = (3 : Int32) from by decide]
    refine XS.aloadN X0.here hx rfl (hb hby d7_85) rfl rfl ?_
    refine XS.iloadN X0.here hx rfl (hb hby d7_86) rfl ?_
    refine XS.iconst X0.here hx rfl (hb hby d7_87) ?_
    refine XS.isub X0.here hx rfl (hb hby d7_88) rfl ?_
    show Steps p.tables e below (T0.setTop (mkF m 89 (own_l134 ax asd ab pn i qv pf pl) [(.int ((4 : Int32) - (1 : Int32))), (.ref ab), (.int (3 : Int32)), (.ref ab)])) _
    rw [show ((4 : Int32) - (1 : Int32)) = (3 : Int32) from by decide]
    show Steps p.tables e below (T0.setTop (mkF m 89 (own_l134 ax asd ab pn i qv pf pl) [(.int (3 : Int32)), (.ref ab), (.int (3 : Int32)), (.ref ab)])) _
    obtain ⟨cl344, Ar344, q344, S344, N344, H344, G344⟩ := id Vb
    have hin344 : ¬ ((3 : Int32) < 0 ∨ cl344.slots.size ≤ ((3 : Int32)).toNatClampNeg) := inb_of S344 ⟨by decide, own_ltk hz (by decide)⟩
    refine X0.iaload hx (j := (3 : Int32)) (v := (.int pb3)) (by rw [e0]; exact Ar344.1) (State.isArrayOf_alike hZ.alike Ar344.2.1) Ar344.2.2 hin344 (H344.at hin344 rfl) (g := (mkF m 89 (own_l134 ax asd ab pn i qv pf pl) [(.int (3 : Int32)), (.ref ab), (.int (3 : Int32)), (.ref ab)])) rfl rfl (hb hby d7_89) _ ?_
    refine XS.iload X0.here hx rfl (hb hby d7_90) rfl ?_
    exact k
  obtain ⟨_, _, ⟨T345, L345, k345, n345⟩, -, X345, ⟨Lc345, hQ345, l345, y345, z345⟩, st345⟩ := Jvm.LawKit.callS X0 hx (y := (⟨"java/lang/Math", "max", "(II)I"⟩ : MethodName)) hown (mvT hZ (own_w hw 60 rfl)) (mvT hZ (own_w hw 11 rfl)) (mvT hZ (own_w hw 8 rfl)) (mvT hZ (own_w hw 12 rfl)) (by decide) (backOf (W := 2) (rm3 l Z a0 hw [] pb3 pl h0 n0 Z0) hZ (own_w hw 12 rfl) (own_w hw 8 rfl) (by decide) (by decide)) (g := (mkF m 92 (own_l134 ax asd ab pn i qv pf pl) [(.int pl), (.int pb3), (.int (3 : Int32)), (.ref ab)])) rfl (by rw [hml]; rfl) (argsL := [(.int pb3), (.int pl)]) (rest := [(.int (3 : Int32)), (.ref ab)]) (lenOf own_pd0 rfl) rfl (by show 2 * 0 + _ ≤ _; exact Nat.le_of_eq rfl) (hb hby d7_92) (fun _ _ => ⟨rfl, e0, hcl, hsl⟩)
  dsimp only [Pt.U, Pt.locs, Pt.cells, Pt.slots] at X345 l345 y345 z345 st345 hQ345
  subst y345 z345
  obtain ⟨rfl, Nq345, eq345⟩ := hQ345
  have N345 := own_frl l345 N0 Nq345
  refine own_pre (fun t k => st345 t k) ?_
  rw [hm]
  obtain ⟨cl346, Ar346, q346, S346, N346, H346, G346⟩ := Vb
  have hin346 : ¬ ((3 : Int32) < 0 ∨ cl346.slots.size ≤ ((3 : Int32)).toNatClampNeg) := inb_of S346 ⟨by decide, own_ltk hz (by decide)⟩
  obtain ⟨T346, h346, X346, e346, W346, st346⟩ := stI X345 hx hZ eq345 Ar346 (j := (3 : Int32)) hin346 (g := (mkF m 95 (own_l134 ax asd ab pn i qv pf pl) [(.int pb3), (.int (3 : Int32)), (.ref ab)])) rfl rfl (hb hby d7_95)
  have V346 : Arv Z h346 ab kb .int pz [(.int pb0), (.int pb1), (.int pb2), (.int pb3)] (.int (0 : Int32)) := Arv.set Ar346 q346 S346 N346 H346 G346 rfl W346 3 rfl (Nat.le_of_ble_eq_true rfl)
  have Vs_346 := Vs.other W346 nab
  have Kc346 : Keep h0 h346 [ab] := (Keep.refl h0 [ab]).wr W346 (Or.inl (List.mem_of_getElem? (i := 0) rfl))
  have N346 := Fr.snoc X346 N345 ga
  refine own_pre (fun t k => st346 t k) ?_
  refine own_pre (A := (T346.setTop (mkF m 38 (own_l135 ax asd ab pn i qv pf pl) []))) ?_ ?_
  · intro t k
    refine XS.goto X346.here hx rfl (pc0 := 96) (pc' := 115) rfl (hb hby d7_96) (by decide) (by decide) ?_
    refine XS.iinc X346.here hx rfl (hb hby d7_115) rfl (l' := (own_l135 ax asd ab pn i qv pf pl)) rfl ?_
    refine XS.goto X346.here hx rfl (pc0 := 118) (pc' := 38) rfl (hb hby d7_118) (by decide) (by decide) ?_
    exact k
  show ∃ s₂ o, Steps p.tables e below (T346.setTop (mkF m 38 #[.val (.ref ax), .val (.ref asd), .val (.ref ab), .val (.int (4 : Int32)), .val (.ref asd), .val (.int pn), .val (.int ((Int32.ofNat i) + (1 : Int32))), .val (.long qv), .second, .val (.int pf), .val (.int pl)] [])) s₂ ∧ _
  rw [own_o1 i (by omega)]
  exact K _ _ _ X346 e346 N346 Kc346 Vs_346 V346
theorem own_rb2 {p : Program} {l : Launch} {e : Env} {s : State} {m : MethodId} {args : Array Value} {below : List Frame} {meth : Method} {c : Code} {Z : State} {n0 : Nat} {C : State → Outcome → Prop} {a0 : Array Value} {cells slots : Nat} {ax asd ab : Addr} {ks kb : ClassId} {pn pz : Int32} {vs : List Value} {pb0 pb1 pb2 pb3 : Int32} {nn t : Nat} {qv : Int64} {pf pl : Int32} (hw : ∀ d ∈ tables_1, d.before a0 Z = true) (hx : p.tables.exec = Jvm.exec) (hZ : Z.Warmed39 s.vm) (hown : s.vm.findClass "com/example/otito/otito/chain/CodePointSet$Builder" = some m.cls) (hml : c.maxLocals = 11) (hby : c.code = prog_6_method_4_code) (ga : n0 ≤ ab) (hcl : cells ≤ 4) (hsl : slots ≤ 55) (hpn : pn = Int32.ofNat nn) (hnn : nn ≤ 9) (hf : (((qv.toUInt64 >>> ((32 : Int32) &&& 0x3f).toInt64.toUInt64).toInt64).toInt32) = pf) (hl : (qv.toInt32) = pl) (hz : (1 : Int32) < pz) (hm : own_max pb1 pl = pb1) (hc : ¬ (pb1 + (1 : Int32)) < pf) (nab : asd ≠ ab) (ht : t ≤ nn) (j : Nat) :
    ∀ (i : Nat) (T0 : State) (h0 : Heap) (locs : List Loc) (q7 : Int64) (p9 p10 : Int32), i + j = t → (∀ x, i ≤ x → x < t → vs.getD x (.long (0 : Int64)) = .long qv) → Stand p l e ({ frames := 4, cells := 4, slots := 55, locals := 86 } : Room) s m args below meth c T0 locs cells slots → T0.heap = h0 → Fr n0 locs → Arv Z h0 asd ks .long pn vs (.long (0 : Int64)) → Arv Z h0 ab kb .int pz [(.int pb0), (.int pb1), (.int pb2), (.int pb3)] (.int (0 : Int32)) →
    (∀ (T' : State) (h' : Heap) (locs' : List Loc) (q7 : Int64) (p9 p10 : Int32), Stand p l e ({ frames := 4, cells := 4, slots := 55, locals := 86 } : Room) s m args below meth c T' locs' cells slots → T'.heap = h' → Fr n0 locs' → Keep h0 h' [ab] → Arv Z h' asd ks .long pn vs (.long (0 : Int64)) → Arv Z h' ab kb .int pz [(.int pb0), (.int pb1), (.int pb2), (.int pb3)] (.int (0 : Int32)) → ∃ s₂ o, Steps p.tables e below (T'.setTop (mkF m 38 #[.val (.ref ax), .val (.ref asd), .val (.ref ab), .val (.int (2 : Int32)), .val (.ref asd), .val (.int pn), .val (.int (Int32.ofNat t)), .val (.long q7), .second, .val (.int p9), .val (.int p10)] [])) s₂ ∧ C s₂ o) →
    ∃ s₂ o, Steps p.tables e below (T0.setTop (mkF m 38 #[.val (.ref ax), .val (.ref asd), .val (.ref ab), .val (.int (2 : Int32)), .val (.ref asd), .val (.int pn), .val (.int (Int32.ofNat i)), .val (.long q7), .second, .val (.int p9), .val (.int p10)] [])) s₂ ∧ C s₂ o := by
  induction j with
  | zero =>
    intro i T0 h0 locs q7 p9 p10 hij hv X0 e0 N0 Vs Vb K
    obtain rfl : i = t := by omega
    exact K T0 h0 locs q7 p9 p10 X0 e0 N0 (Keep.refl h0 [ab]) Vs Vb
  | succ j ih =>
    intro i T0 h0 locs q7 p9 p10 hij hv X0 e0 N0 Vs Vb K
    refine own_tb2s hw X0 hx hZ hown hml hby e0 N0 ga hcl hsl hpn (i := i) (by omega) hnn (hv i (Nat.le_refl _) (by omega)) hf hl hz hm hc nab Vs Vb ?_
    intro T1 h1 locs1 X1 e1 N1 K1 Vs1 Vb1
    refine ih (i + 1) T1 h1 locs1 qv pf pl (by omega) (fun x h1 h2 => hv x (by omega) h2) X1 e1 N1 Vs1 Vb1 ?_
    intro T2 h2 locs2 q72 p92 p102 X2 e2 N2 K2 Vs2 Vb2
    exact K T2 h2 locs2 q72 p92 p102 X2 e2 N2 (K1.trans K2 (allS (Or.inl (List.mem_of_getElem? (i := 0) rfl)) all0)) Vs2 Vb2
theorem own_rb4 {p : Program} {l : Launch} {e : Env} {s : State} {m : MethodId} {args : Array Value} {below : List Frame} {meth : Method} {c : Code} {Z : State} {n0 : Nat} {C : State → Outcome → Prop} {a0 : Array Value} {cells slots : Nat} {ax asd ab : Addr} {ks kb : ClassId} {pn pz : Int32} {vs : List Value} {pb0 pb1 pb2 pb3 : Int32} {nn t : Nat} {qv : Int64} {pf pl : Int32} (hw : ∀ d ∈ tables_1, d.before a0 Z = true) (hx : p.tables.exec = Jvm.exec) (hZ : Z.Warmed39 s.vm) (hown : s.vm.findClass "com/example/otito/otito/chain/CodePointSet$Builder" = some m.cls) (hml : c.maxLocals = 11) (hby : c.code = prog_6_method_4_code) (ga : n0 ≤ ab) (hcl : cells ≤ 4) (hsl : slots ≤ 55) (hpn : pn = Int32.ofNat nn) (hnn : nn ≤ 9) (hf : (((qv.toUInt64 >>> ((32 : Int32) &&& 0x3f).toInt64.toUInt64).toInt64).toInt32) = pf) (hl : (qv.toInt32) = pl) (hz : (3 : Int32) < pz) (hm : own_max pb3 pl = pb3) (hc : ¬ (pb3 + (1 : Int32)) < pf) (nab : asd ≠ ab) (ht : t ≤ nn) (j : Nat) :
    ∀ (i : Nat) (T0 : State) (h0 : Heap) (locs : List Loc) (q7 : Int64) (p9 p10 : Int32), i + j = t → (∀ x, i ≤ x → x < t → vs.getD x (.long (0 : Int64)) = .long qv) → Stand p l e ({ frames := 4, cells := 4, slots := 55, locals := 86 } : Room) s m args below meth c T0 locs cells slots → T0.heap = h0 → Fr n0 locs → Arv Z h0 asd ks .long pn vs (.long (0 : Int64)) → Arv Z h0 ab kb .int pz [(.int pb0), (.int pb1), (.int pb2), (.int pb3)] (.int (0 : Int32)) →
    (∀ (T' : State) (h' : Heap) (locs' : List Loc) (q7 : Int64) (p9 p10 : Int32), Stand p l e ({ frames := 4, cells := 4, slots := 55, locals := 86 } : Room) s m args below meth c T' locs' cells slots → T'.heap = h' → Fr n0 locs' → Keep h0 h' [ab] → Arv Z h' asd ks .long pn vs (.long (0 : Int64)) → Arv Z h' ab kb .int pz [(.int pb0), (.int pb1), (.int pb2), (.int pb3)] (.int (0 : Int32)) → ∃ s₂ o, Steps p.tables e below (T'.setTop (mkF m 38 #[.val (.ref ax), .val (.ref asd), .val (.ref ab), .val (.int (4 : Int32)), .val (.ref asd), .val (.int pn), .val (.int (Int32.ofNat t)), .val (.long q7), .second, .val (.int p9), .val (.int p10)] [])) s₂ ∧ C s₂ o) →
    ∃ s₂ o, Steps p.tables e below (T0.setTop (mkF m 38 #[.val (.ref ax), .val (.ref asd), .val (.ref ab), .val (.int (4 : Int32)), .val (.ref asd), .val (.int pn), .val (.int (Int32.ofNat i)), .val (.long q7), .second, .val (.int p9), .val (.int p10)] [])) s₂ ∧ C s₂ o := by
  induction j with
  | zero =>
    intro i T0 h0 locs q7 p9 p10 hij hv X0 e0 N0 Vs Vb K
    obtain rfl : i = t := by omega
    exact K T0 h0 locs q7 p9 p10 X0 e0 N0 (Keep.refl h0 [ab]) Vs Vb
  | succ j ih =>
    intro i T0 h0 locs q7 p9 p10 hij hv X0 e0 N0 Vs Vb K
    refine own_tb4s hw X0 hx hZ hown hml hby e0 N0 ga hcl hsl hpn (i := i) (by omega) hnn (hv i (Nat.le_refl _) (by omega)) hf hl hz hm hc nab Vs Vb ?_
    intro T1 h1 locs1 X1 e1 N1 K1 Vs1 Vb1
    refine ih (i + 1) T1 h1 locs1 qv pf pl (by omega) (fun x h1 h2 => hv x (by omega) h2) X1 e1 N1 Vs1 Vb1 ?_
    intro T2 h2 locs2 q72 p92 p102 X2 e2 N2 K2 Vs2 Vb2
    exact K T2 h2 locs2 q72 p92 p102 X2 e2 N2 (K1.trans K2 (allS (Or.inl (List.mem_of_getElem? (i := 0) rfl)) all0)) Vs2 Vb2
def own_HS (l : Launch) (Z : State) (n0 : Nat) (pn : Int32) (wl vs : List Value) : Prop := ∀ (h : Heap) (ad : Addr) (kd : ClassId), n0 ≤ h.size → Arv Z h ad kd .long pn (own_cut pn.toNatClampNeg wl (.long (0 : Int64))) (.long (0 : Int64)) → n0 ≤ ad → MetFree l (⟨"java/util/Arrays", "sort", "([J)V"⟩ : MethodName) (head1 [Jvm.Cond.code (⟨"java/util/Arrays", "sort", "([J)V"⟩ : MethodName) jdk_65_method_4_code 1 none] ({ frames := 3, cells := 0, slots := 0, locals := 72 } : Room)) (fun a U => a = #[(.ref ad)] ∧ Z.Warmed39 U.vm ∧ U.heap = h) (fun _ _ _ _ _ => True) (fun _ U o U' => ∃ v L, o = .returned v ∧ own_QW (fun h' L => Fr n0 L ∧ Keep h h' [ad] ∧ Arv Z h' ad kd .long pn vs (.long (0 : Int64))) h n0 v U'.heap L ∧ FrameEnd U o U' L ({ frames := 3, cells := 0, slots := 0, locals := 72 } : Room).cells ({ frames := 3, cells := 0, slots := 0, locals := 72 } : Room).slots)
theorem own_maxs (x : Int32) : own_max x x = x := by
  unfold own_max
  split <;> rfl
theorem own_maxT (x y : Int32) : x.toInt ≤ (own_max x y).toInt ∧ y.toInt ≤ (own_max x y).toInt ∧ ((own_max x y).toInt = x.toInt ∨ (own_max x y).toInt = y.toInt) := by
  unfold own_max
  split
  · rename_i h
    rw [Int32.lt_iff_toInt_lt] at h; omega
  · rename_i h
    rw [Int32.lt_iff_toInt_lt] at h; omega
theorem own_maxi (x y : Int32) : own_max (own_max x y) y = own_max x y := by
  have h1 := own_maxT x y
  have h2 := own_maxT (own_max x y) y
  apply Int32.toInt_inj.mp
  omega
theorem own_mul2 (nn : Nat) (h : nn ≤ 9) : ((2 : Int32) * Int32.ofNat nn).toInt = 2 * nn := by
  have h1 := c_imul (2 : Int32) (Int32.ofNat nn)
  have r := rng32 ((2 : Int32) * Int32.ofNat nn)
  have w : (2 : Int32).toInt = 2 := by decide
  rw [own_oi nn (by omega), w] at h1
  omega
abbrev own_l136 (x0 : Addr) (x1 : Addr) : Array Slot := #[.val (.ref x0), .val (.ref x1), .unset, .unset, .unset, .unset, .unset, .unset, .unset, .unset, .unset]
abbrev own_l137 (x0 : Addr) (x1 : Addr) (x2 : Addr) : Array Slot := #[.val (.ref x0), .val (.ref x1), .val (.ref x2), .unset, .unset, .unset, .unset, .unset, .unset, .unset, .unset]
abbrev own_l138 (x0 : Addr) (x1 : Addr) (x2 : Addr) : Array Slot := #[.val (.ref x0), .val (.ref x1), .val (.ref x2), .val (.int (0 : Int32)), .unset, .unset, .unset, .unset, .unset, .unset, .unset]
abbrev own_l139 (x0 : Addr) (x1 : Addr) (x2 : Addr) : Array Slot := #[.val (.ref x0), .val (.ref x1), .val (.ref x2), .val (.int (0 : Int32)), .val (.ref x1), .unset, .unset, .unset, .unset, .unset, .unset]
abbrev own_l140 (x0 : Addr) (x1 : Addr) (x2 : Addr) (x3 : Int32) : Array Slot := #[.val (.ref x0), .val (.ref x1), .val (.ref x2), .val (.int (0 : Int32)), .val (.ref x1), .val (.int x3), .unset, .unset, .unset, .unset, .unset]
def own_Q7_z (Z : State) (ax : Addr) (ar : Addr) (kr : ClassId) (pw : Int32) (wl : List Value) (pn : Int32) (vs : List Value) (nn : Nat) (np : Nat) (qlo : Int64) (plof : Int32) (plol : Int32) (qhi : Int64) (phif : Int32) (phil : Int32) (h0 : Heap) (n0 : Nat) (v : Option Value) (h : Heap) (L : List Loc) : Prop := Fr n0 L ∧ ∃ (ac ab : Addr) (kb : ClassId), v = some (.ref ac) ∧ Fld Z h ac "com/example/otito/otito/chain/CodePointSet" "bounds" "[I" (.ref ab) ∧ Arv Z h ab kb .int (0 : Int32) [] (.int (0 : Int32)) ∧ Exa Z h ac "com/example/otito/otito/chain/CodePointSet" ∧ Keep h0 h []
set_option maxRecDepth 65536 in
set_option maxHeartbeats 40000000 in
theorem rm7_z (l : Launch) (Z : State) (a0 : Array Value) (hw : ∀ d ∈ tables_1, d.before a0 Z = true) (ws : List Jvm.Cond) (ax : Addr) (ar : Addr) (kr : ClassId) (pw : Int32) (wl : List Value) (pn : Int32) (vs : List Value) (nn : Nat) (np : Nat) (qlo : Int64) (plof : Int32) (plol : Int32) (qhi : Int64) (phif : Int32) (phil : Int32) (h0 : Heap) (n0 : Nat) (Z0 : n0 ≤ h0.size) (Ea : Exa Z h0 ax "com/example/otito/otito/chain/CodePointSet$Builder") (Fr_ : Fld Z h0 ax "com/example/otito/otito/chain/CodePointSet$Builder" "ranges" "[J" (.ref ar)) (Fc : Fld Z h0 ax "com/example/otito/otito/chain/CodePointSet$Builder" "count" "I" (.int pn)) (Vr : Arv Z h0 ar kr .long pw wl (.long (0 : Int64))) (Er : Exa Z h0 ar "[J") (hpn : pn = Int32.ofNat nn) (hnn : nn ≤ 9) (hzn : ¬ pw < pn) (HS : own_HS l Z n0 pn wl vs) (h0n : nn = 0) :
    MetFree l (⟨"com/example/otito/otito/chain/CodePointSet$Builder", "build", "()Lcom/example/otito/otito/chain/CodePointSet;"⟩ : MethodName) (head1 (Jvm.Cond.code (⟨"com/example/otito/otito/chain/CodePointSet$Builder", "build", "()Lcom/example/otito/otito/chain/CodePointSet;"⟩ : MethodName) prog_6_method_4_code 11 (some (.object "com/example/otito/otito/chain/CodePointSet")) :: ws) ({ frames := 4, cells := 4, slots := 55, locals := 86 } : Room)) (fun a U => a = #[(.ref ax)] ∧ Z.Warmed39 U.vm ∧ U.heap = h0) (fun _ _ _ _ _ => True) (fun _ U o U' => ∃ v L, o = .returned v ∧ own_Q7_z Z ax ar kr pw wl pn vs nn np qlo plof plol qhi phif phil h0 n0 v U'.heap L ∧ FrameEnd U o U' L ({ frames := 4, cells := 4, slots := 55, locals := 86 } : Room).cells ({ frames := 4, cells := 4, slots := 55, locals := 86 } : Room).slots) := by
  refine MetFree.of_bodySF (plainFor_of_name own_pn7) hisR ?_
  intro p e s m args below meth c s₁ Bd hml0 hP hK
  obtain ⟨rfl, hZ, hh⟩ := hP
  have hx := Bd.exec
  have hby := Bd.bytes
  have hml : c.maxLocals = 11 := hml0
  have hown : s.vm.findClass "com/example/otito/otito/chain/CodePointSet$Builder" = some m.cls := findClass_of_methodNamed Bd.named
  have hnm := (name_of_methodNamed Bd.named Bd.method).1
  have X0 : Stand p l e ({ frames := 4, cells := 4, slots := 55, locals := 86 } : Room) s m #[(.ref ax)] below meth c s₁ [] 0 0 := Stand.of_body Bd
  have e0 : s₁.heap = h0 := by rw [← hh, Bd.state]; rfl
  have N0 := Fr.nil n0
  refine own_pre (A := (s₁.setTop (mkF m 0 #[.val (.ref ax), .unset, .unset, .unset, .unset, .unset, .unset, .unset, .unset, .unset, .unset] []))) (fun t k => castTop (own_ef7 m ax) k) ?_
  have hn0 : ¬ pn < 0 := by rw [hpn]; exact own_o0 (by omega)
  have hcap : pn.toNatClampNeg ≤ 18 := by rw [hpn, own_on nn (by omega)]; omega
  have hm2 : ((2 : Int32) * pn).toInt = 2 * nn := by rw [hpn]; exact own_mul2 nn hnn
  have ez : (0 : Int32).toInt = 0 := by decide
  have hm0 : ¬ ((2 : Int32) * pn) < 0 := by rw [Int32.lt_iff_toInt_lt, hm2, ez]; omega
  have hm18 : ((2 : Int32) * pn).toNatClampNeg ≤ 18 := by
    show ((2 : Int32) * pn).toInt.toNat ≤ 18
    rw [hm2]; omega
  have hz2 : ¬ ((2 : Int32) * pn) < (0 : Int32) := by
    have e2 : (0 : Int32).toInt = 0 := by decide
    rw [Int32.lt_iff_toInt_lt, hm2, e2]; omega
  have hlt : ¬ (0 : Int32) < pn := by subst h0n; rw [hpn]; decide
  refine own_pre (A := (s₁.setTop (mkF m 1 #[.val (.ref ax), .unset, .unset, .unset, .unset, .unset, .unset, .unset, .unset, .unset, .unset] [(.ref ax)]))) ?_ ?_
  · intro t k
    refine XS.aloadN X0.here hx rfl (hb hby d7_0) rfl rfl ?_
    exact k
  obtain ⟨T347, X347, e347, st347⟩ := getF X0 hx hZ hown (host := "") (Or.inl (own_w hw 23 rfl)) Via.refl e0 Fr_ (g := (mkF m 1 #[.val (.ref ax), .unset, .unset, .unset, .unset, .unset, .unset, .unset, .unset, .unset, .unset] [(.ref ax)])) rfl rfl (hb hby d7_1)
  refine own_pre (fun t k => st347 t k) ?_
  refine own_pre (A := (T347.setTop (mkF m 5 #[.val (.ref ax), .unset, .unset, .unset, .unset, .unset, .unset, .unset, .unset, .unset, .unset] [(.ref ax), (.ref ar)]))) ?_ ?_
  · intro t k
    refine XS.aloadN X347.here hx rfl (hb hby d7_4) rfl rfl ?_
    exact k
  obtain ⟨T348, X348, e348, st348⟩ := getF X347 hx hZ hown (host := "") (Or.inl (own_w hw 30 rfl)) Via.refl e347 Fc (g := (mkF m 5 #[.val (.ref ax), .unset, .unset, .unset, .unset, .unset, .unset, .unset, .unset, .unset, .unset] [(.ref ax), (.ref ar)])) rfl rfl (hb hby d7_5)
  refine own_pre (fun t k => st348 t k) ?_
  obtain ⟨_, _, ⟨T349, L349, k349, n349⟩, -, X349, ⟨Lc349, hQ349, l349, y349, z349⟩, st349⟩ := Jvm.LawKit.callS X348 hx (y := (⟨"java/util/Arrays", "copyOf", "([JI)[J"⟩ : MethodName)) hown (mvT hZ (own_w hw 37 rfl)) (mvT hZ (own_w hw 38 rfl)) (mvT hZ (own_w hw 39 rfl)) (mvT hZ (own_w hw 40 rfl)) (by decide) (backOf (W := 0) (rm8_g l Z a0 hw [] ar pn kr pw wl h0 n0 Z0 Vr Er hzn hn0 hcap) hZ (own_w hw 40 rfl) (own_w hw 39 rfl) (by decide) (by decide)) (g := (mkF m 8 #[.val (.ref ax), .unset, .unset, .unset, .unset, .unset, .unset, .unset, .unset, .unset, .unset] [(.int pn), (.ref ar)])) rfl (by rw [hml]; rfl) (argsL := [(.ref ar), (.int pn)]) (rest := []) (lenOf own_pd4 rfl) rfl (by show 2 * 0 + _ ≤ _; exact Nat.le_of_eq rfl) (hb hby d7_8) (fun _ _ => ⟨rfl, e348, (by decide : 0 + 1 ≤ _), (by decide : 0 + 18 ≤ _)⟩)
  dsimp only [Pt.U, Pt.locs, Pt.cells, Pt.slots] at X349 l349 y349 z349 st349 hQ349
  replace y349 : _ = 1 := y349
  replace z349 : _ = 18 := z349
  subst y349 z349
  obtain ⟨Nq349, ad349, kq349, rfl, gq349, zz349, Vq349, Eq349, Kq349⟩ := hQ349
  have N349 := own_frl l349 N0 Nq349
  refine own_pre (fun t k => st349 t k) ?_
  have ne_ax_ad349 : ax ≠ ad349 := Nat.ne_of_lt (Nat.lt_of_lt_of_le Ea.lt zz349)
  have sz_ad349 : h0.size ≤ ad349 := Nat.le_trans (Keep.refl h0 []).1 zz349
  have Fc_349 := Fc.keep Kq349 nin0
  have Zs349 : n0 ≤ T349.heap.size := Nat.le_trans Z0 Kq349.1
  have Kc349 : Keep h0 T349.heap [] := (Keep.refl h0 []).trans Kq349 all0
  refine own_pre (A := (T349.setTop (mkF m 13 (own_l136 ax ad349) [(.ref ad349)]))) ?_ ?_
  · intro t k
    refine XS.astoreN X349.here hx rfl (hb hby d7_11) rfl rfl (l' := (own_l136 ax ad349)) rfl ?_
    refine XS.aloadN X349.here hx rfl (hb hby d7_12) rfl rfl ?_
    exact k
  obtain ⟨_, _, ⟨T350, L350, k350, n350⟩, -, X350, ⟨Lc350, hQ350, l350, y350, z350⟩, st350⟩ := Jvm.LawKit.callS X349 hx (y := (⟨"java/util/Arrays", "sort", "([J)V"⟩ : MethodName)) hown (mvT hZ (own_w hw 46 rfl)) (mvT hZ (own_w hw 47 rfl)) (mvT hZ (own_w hw 39 rfl)) (mvT hZ (own_w hw 48 rfl)) (by decide) (backOf (W := 0) (HS T349.heap ad349 kq349 Zs349 Vq349 gq349) hZ (own_w hw 48 rfl) (own_w hw 39 rfl) (by decide) (by decide)) (g := (mkF m 13 (own_l136 ax ad349) [(.ref ad349)])) rfl (by rw [hml]; rfl) (argsL := [(.ref ad349)]) (rest := []) (lenOf own_pd5 rfl) rfl (by show 2 * 0 + _ ≤ _; exact Nat.le_of_eq rfl) (hb hby d7_13) (fun _ _ => ⟨rfl, rfl, (by decide : 1 + 0 ≤ _), (by decide : 18 + 0 ≤ _)⟩)
  dsimp only [Pt.U, Pt.locs, Pt.cells, Pt.slots] at X350 l350 y350 z350 st350 hQ350
  replace y350 : _ = 1 := y350
  replace z350 : _ = 18 := z350
  subst y350 z350
  obtain ⟨rfl, Nq350, Kq350, Vq350⟩ := hQ350
  have N350 := own_frl l350 N349 Nq350
  refine own_pre (fun t k => st350 t k) ?_
  have Fc_350 := Fc_349.keep Kq350 (ninS ne_ax_ad349 nin0)
  have Zs350 : n0 ≤ T350.heap.size := Nat.le_trans Zs349 Kq350.1
  have Kc350 : Keep h0 T350.heap [] := Kc349.trans Kq350 (allS (Or.inr sz_ad349) all0)
  refine own_pre (A := (T350.setTop (mkF m 18 (own_l136 ax ad349) [(.ref ax), (.int (2 : Int32))]))) ?_ ?_
  · intro t k
    refine XS.iconst X350.here hx rfl (hb hby d7_16) ?_
    refine XS.aloadN X350.here hx rfl (hb hby d7_17) rfl rfl ?_
    exact k
  obtain ⟨T351, X351, e351, st351⟩ := getF X350 hx hZ hown (host := "") (Or.inl (own_w hw 30 rfl)) Via.refl rfl Fc_350 (g := (mkF m 18 (own_l136 ax ad349) [(.ref ax), (.int (2 : Int32))])) rfl rfl (hb hby d7_18)
  refine own_pre (fun t k => st351 t k) ?_
  refine own_pre (A := (T351.setTop (mkF m 22 (own_l136 ax ad349) [(.int ((2 : Int32) * pn))]))) ?_ ?_
  · intro t k
    refine XS.imul X351.here hx rfl (hb hby d7_21) rfl ?_
    exact k
  obtain ⟨T352, h352, k352, X352, e352, E352, A352, Q352, st352⟩ := newPE X351 hx hZ (own_w hw 59 rfl) e351 (g := (mkF m 22 (own_l136 ax ad349) [(.int ((2 : Int32) * pn))])) rfl (hb hby d7_22) rfl hm0 (cap := 18) hm18 (by decide) (by decide) (by decide) (ad := "[I") (by decide)
  obtain ⟨b352, g352⟩ : ∃ z, z = T350.heap.size := ⟨_, rfl⟩
  rw [← g352] at A352 st352 Q352
  have Vq350_352 := Vq350.ext E352
  have Zs352 : n0 ≤ h352.size := Nat.le_trans Zs350 E352.1
  have Kc352 : Keep h0 h352 [] := Kc350.ext E352
  have V352 : Arv Z h352 b352 k352 .int ((2 : Int32) * pn) [] (.int (0 : Int32)) := Arv.new A352 hm0
  refine own_pre (fun t k => st352 t k) ?_
  refine own_pre (A := (T352.setTop (mkF m 38 (own_l119 ax ad349 b352 pn) []))) ?_ ?_
  · intro t k
    refine XS.astoreN X352.here hx rfl (hb hby d7_24) rfl rfl (l' := (own_l137 ax ad349 b352)) rfl ?_
    refine XS.iconst X352.here hx rfl (hb hby d7_25) ?_
    refine XS.istoreN X352.here hx rfl (hb hby d7_26) rfl (l' := (own_l138 ax ad349 b352)) rfl ?_
    refine XS.aloadN X352.here hx rfl (hb hby d7_27) rfl rfl ?_
    refine XS.astore X352.here hx rfl (hb hby d7_28) rfl rfl (l' := (own_l139 ax ad349 b352)) rfl ?_
    refine XS.aload X352.here hx rfl (hb hby d7_30) rfl rfl ?_
    show Steps p.tables e below (T352.setTop (mkF m 32 (own_l139 ax ad349 b352) [(.ref ad349)])) _
    obtain ⟨cl353, Ar353, -, S353, N353, -, -⟩ := id Vq350_352
    refine X352.arraylength hx (by rw [e352]; exact Ar353.1) (State.isArrayOf_alike hZ.alike Ar353.2.1) (g := (mkF m 32 (own_l139 ax ad349 b352) [(.ref ad349)])) rfl rfl (hb hby d7_32) _ ?_
    rw [len_of S353 N353]
    refine XS.istore X352.here hx rfl (hb hby d7_33) rfl (l' := (own_l140 ax ad349 b352 pn)) rfl ?_
    refine XS.iconst X352.here hx rfl (hb hby d7_35) ?_
    refine XS.istore X352.here hx rfl (hb hby d7_36) rfl (l' := (own_l119 ax ad349 b352 pn)) rfl ?_
    exact k
  have Vb0 : Arv Z h352 b352 k352 .int ((2 : Int32) * pn) [(.int (0 : Int32)), (.int (0 : Int32)), (.int (0 : Int32)), (.int (0 : Int32))] (.int (0 : Int32)) := V352.pad (pad_rep [] (.int (0 : Int32)) 4)
  refine own_pre (A := (T352.setTop (mkF m 121 (own_l119 ax ad349 b352 pn) []))) ?_ ?_
  · intro t k
    refine XS.iload X352.here hx rfl (hb hby d7_38) rfl ?_
    refine XS.iload X352.here hx rfl (hb hby d7_40) rfl ?_
    refine XS.icmpYes X352.here hx rfl (pc0 := 42) (pc' := 121) rfl (hb hby d7_42) rfl (flt hlt).2.1 (by decide) (by decide) ?_
    exact k
  obtain ⟨T354, h354, X354, e354, E354, A354, D354, -, st354⟩ := newO X352 hx hZ hown (own_w hw 61 rfl) (own_w hw 62 rfl) (own_w hw 63 rfl) e352 (g := (mkF m 121 (own_l119 ax ad349 b352 pn) [])) rfl (hb hby d7_121) (by decide) (by decide)
  obtain ⟨b354, g354⟩ : ∃ z, z = h352.size := ⟨_, rfl⟩
  rw [← g354] at A354 D354 st354
  have gn_b354 : n0 ≤ b354 := Nat.le_trans Zs352 (Nat.le_of_eq g354.symm)
  have sz_b354 : h0.size ≤ b354 := Nat.le_trans Kc352.1 (Nat.le_of_eq g354.symm)
  have Q352_354 := Q352.ext E354
  have Vb0_354 := Vb0.ext E354
  have Zs354 : n0 ≤ h354.size := Nat.le_trans Zs352 E354.1
  have Kc354 : Keep h0 h354 [] := Kc352.ext E354
  have F354_bounds : Fld Z h354 b354 "com/example/otito/otito/chain/CodePointSet" "bounds" "[I" .null := D354 (Or.inr (own_w hw 72 rfl)) (ty := (.array .int)) (by decide)
  refine own_pre (fun t k => st354 t k) ?_
  refine own_pre (A := (T354.setTop (mkF m 127 (own_l119 ax ad349 b352 pn) [(.int (0 : Int32)), (.ref b352), (.ref b354), (.ref b354)]))) ?_ ?_
  · intro t k
    refine XS.dup X354.here hx rfl (hb hby d7_124) rfl rfl ?_
    refine XS.aloadN X354.here hx rfl (hb hby d7_125) rfl rfl ?_
    refine XS.iloadN X354.here hx rfl (hb hby d7_126) rfl ?_
    exact k
  obtain ⟨_, _, ⟨T355, L355, k355, n355⟩, -, X355, ⟨Lc355, hQ355, l355, y355, z355⟩, st355⟩ := Jvm.LawKit.callS X354 hx (y := (⟨"java/util/Arrays", "copyOf", "([II)[I"⟩ : MethodName)) hown (mvT hZ (own_w hw 64 rfl)) (mvT hZ (own_w hw 65 rfl)) (mvT hZ (own_w hw 39 rfl)) (mvT hZ (own_w hw 66 rfl)) (by decide) (backOf (W := 2) (rm13_g l Z a0 hw [] b352 (0 : Int32) k352 ((2 : Int32) * pn) [(.int (0 : Int32)), (.int (0 : Int32)), (.int (0 : Int32)), (.int (0 : Int32))] h354 n0 Zs354 Vb0_354 Q352_354 hz2 (by decide) (by decide)) hZ (own_w hw 66 rfl) (own_w hw 39 rfl) (by decide) (by decide)) (g := (mkF m 127 (own_l119 ax ad349 b352 pn) [(.int (0 : Int32)), (.ref b352), (.ref b354), (.ref b354)])) rfl (by rw [hml]; rfl) (argsL := [(.ref b352), (.int (0 : Int32))]) (rest := [(.ref b354), (.ref b354)]) (lenOf own_pd6 rfl) rfl (by show 2 * 0 + _ ≤ _; exact Nat.le_of_eq rfl) (hb hby d7_127) (fun _ _ => ⟨rfl, e354, (by decide : 3 + 1 ≤ _), (by decide : 37 + 18 ≤ _)⟩)
  dsimp only [Pt.U, Pt.locs, Pt.cells, Pt.slots] at X355 l355 y355 z355 st355 hQ355
  replace y355 : _ = 4 := y355
  replace z355 : _ = 55 := z355
  subst y355 z355
  obtain ⟨Nq355, ad355, kq355, rfl, gq355, zz355, Vq355, Eq355, Kq355⟩ := hQ355
  have N355 := own_frl l355 N350 Nq355
  refine own_pre (fun t k => st355 t k) ?_
  have ne_b354_ad355 : b354 ≠ ad355 := Nat.ne_of_lt (Nat.lt_of_lt_of_le A354.lt zz355)
  have A354_355 := A354.keep Kq355
  have F354_bounds_355 := F354_bounds.keep Kq355 nin0
  have Zs355 : n0 ≤ T355.heap.size := Nat.le_trans Zs354 Kq355.1
  have Kc355 : Keep h0 T355.heap [] := Kc354.trans Kq355 all0
  have Vq355' : Arv Z T355.heap ad355 kq355 .int (0 : Int32) [] (.int (0 : Int32)) := Vq355
  obtain ⟨_, _, ⟨T356, L356, k356, n356⟩, -, X356, ⟨Lc356, hQ356, l356, y356, z356⟩, st356⟩ := X355.specialBackNest hx (y := (⟨"com/example/otito/otito/chain/CodePointSet", "<init>", "([I)V"⟩ : MethodName)) rfl hown (mvNM hZ (own_w hw 67 rfl)) (mvT hZ (own_w hw 68 rfl)) (mvT hZ (own_w hw 69 rfl)) (by decide) (backOf (W := 1) (rm14 l Z a0 hw [] b354 ad355 T355.heap n0 Zs355 A354_355 F354_bounds_355 gn_b354) hZ (own_w hw 69 rfl) (own_w hw 63 rfl) (by decide) (by decide)) (g := (mkF m 130 (own_l119 ax ad349 b352 pn) [(.ref ad355), (.ref b354), (.ref b354)])) rfl (by rw [hml]; rfl) (Steps.refl _) (a := b354) (argsL := [(.ref ad355)]) (rest := [(.ref b354)]) (lenOf own_pd7 rfl) rfl (by show 2 * 0 + _ ≤ _; exact Nat.le_of_eq rfl) (hb hby d7_130) (fun _ _ => ⟨rfl, rfl, (by decide : 4 + 0 ≤ _), (by decide : 55 + 0 ≤ _)⟩)
  dsimp only [Pt.U, Pt.locs, Pt.cells, Pt.slots] at X356 l356 y356 z356 st356 hQ356
  replace y356 : _ = 4 := y356
  replace z356 : _ = 55 := z356
  subst y356 z356
  obtain ⟨rfl, Nq356, Kq356, Fb356⟩ := hQ356
  have N356 := own_frl l356 N355 Nq356
  refine own_pre (fun t k => st356.trans k) ?_
  have A354_356 := A354_355.keep Kq356
  have Vq355'_356 := Vq355'.keep Kq356 (ninS ne_b354_ad355.symm nin0)
  have Kc356 : Keep h0 T356.heap [] := Kc355.trans Kq356 (allS (Or.inr sz_b354) all0)
  obtain ⟨fs, hr, hrun, hended, hW, hsame⟩ := X356.leave (hlocks := BodyLoose.notSynchronized Bd) (v := some (.ref b354)) (fun h => by rw [Bd.returns] at h; cases h)
  refine ⟨_, _, retOut X356 hx Bd.returns rfl (Or.inr (Or.inr (Or.inr (Or.inr ⟨rfl, rfl, rfl⟩)))) (hb hby d7_133) hr, hrun, hended, _, _, rfl, ?_, ⟨_, rfl⟩, hW, hsame.mono (by decide) (by decide)⟩
  show own_Q7_z Z ax ar kr pw wl pn vs nn np qlo plof plol qhi phif phil h0 n0 _ T356.heap _
  exact ⟨N356, b354, ad355, kq355, rfl, Fb356, Vq355'_356, A354_356, Kc356⟩
def own_Q7_S (Z : State) (ax : Addr) (ar : Addr) (kr : ClassId) (pw : Int32) (wl : List Value) (pn : Int32) (vs : List Value) (nn : Nat) (np : Nat) (qlo : Int64) (plof : Int32) (plol : Int32) (qhi : Int64) (phif : Int32) (phil : Int32) (h0 : Heap) (n0 : Nat) (v : Option Value) (h : Heap) (L : List Loc) : Prop := Fr n0 L ∧ ∃ (ac ab : Addr) (kb : ClassId), v = some (.ref ac) ∧ Fld Z h ac "com/example/otito/otito/chain/CodePointSet" "bounds" "[I" (.ref ab) ∧ Arv Z h ab kb .int (2 : Int32) [(.int plof), (.int plol)] (.int (0 : Int32)) ∧ Exa Z h ac "com/example/otito/otito/chain/CodePointSet" ∧ Keep h0 h []
set_option maxRecDepth 65536 in
set_option maxHeartbeats 40000000 in
theorem rm7_S (l : Launch) (Z : State) (a0 : Array Value) (hw : ∀ d ∈ tables_1, d.before a0 Z = true) (ws : List Jvm.Cond) (ax : Addr) (ar : Addr) (kr : ClassId) (pw : Int32) (wl : List Value) (pn : Int32) (vs : List Value) (nn : Nat) (np : Nat) (qlo : Int64) (plof : Int32) (plol : Int32) (qhi : Int64) (phif : Int32) (phil : Int32) (h0 : Heap) (n0 : Nat) (Z0 : n0 ≤ h0.size) (Ea : Exa Z h0 ax "com/example/otito/otito/chain/CodePointSet$Builder") (Fr_ : Fld Z h0 ax "com/example/otito/otito/chain/CodePointSet$Builder" "ranges" "[J" (.ref ar)) (Fc : Fld Z h0 ax "com/example/otito/otito/chain/CodePointSet$Builder" "count" "I" (.int pn)) (Vr : Arv Z h0 ar kr .long pw wl (.long (0 : Int64))) (Er : Exa Z h0 ar "[J") (hpn : pn = Int32.ofNat nn) (hnn : nn ≤ 9) (hzn : ¬ pw < pn) (HS : own_HS l Z n0 pn wl vs) (h1n : 1 ≤ nn) (hvl : ∀ x, x < nn → vs.getD x (.long (0 : Int64)) = .long qlo) (hfl : (((qlo.toUInt64 >>> ((32 : Int32) &&& 0x3f).toInt64.toUInt64).toInt64).toInt32) = plof) (hll : (qlo.toInt32) = plol) (hcl1 : ¬ (plol + (1 : Int32)) < plof) :
    MetFree l (⟨"com/example/otito/otito/chain/CodePointSet$Builder", "build", "()Lcom/example/otito/otito/chain/CodePointSet;"⟩ : MethodName) (head1 (Jvm.Cond.code (⟨"com/example/otito/otito/chain/CodePointSet$Builder", "build", "()Lcom/example/otito/otito/chain/CodePointSet;"⟩ : MethodName) prog_6_method_4_code 11 (some (.object "com/example/otito/otito/chain/CodePointSet")) :: ws) ({ frames := 4, cells := 4, slots := 55, locals := 86 } : Room)) (fun a U => a = #[(.ref ax)] ∧ Z.Warmed39 U.vm ∧ U.heap = h0) (fun _ _ _ _ _ => True) (fun _ U o U' => ∃ v L, o = .returned v ∧ own_Q7_S Z ax ar kr pw wl pn vs nn np qlo plof plol qhi phif phil h0 n0 v U'.heap L ∧ FrameEnd U o U' L ({ frames := 4, cells := 4, slots := 55, locals := 86 } : Room).cells ({ frames := 4, cells := 4, slots := 55, locals := 86 } : Room).slots) := by
  refine MetFree.of_bodySF (plainFor_of_name own_pn7) hisR ?_
  intro p e s m args below meth c s₁ Bd hml0 hP hK
  obtain ⟨rfl, hZ, hh⟩ := hP
  have hx := Bd.exec
  have hby := Bd.bytes
  have hml : c.maxLocals = 11 := hml0
  have hown : s.vm.findClass "com/example/otito/otito/chain/CodePointSet$Builder" = some m.cls := findClass_of_methodNamed Bd.named
  have hnm := (name_of_methodNamed Bd.named Bd.method).1
  have X0 : Stand p l e ({ frames := 4, cells := 4, slots := 55, locals := 86 } : Room) s m #[(.ref ax)] below meth c s₁ [] 0 0 := Stand.of_body Bd
  have e0 : s₁.heap = h0 := by rw [← hh, Bd.state]; rfl
  have N0 := Fr.nil n0
  refine own_pre (A := (s₁.setTop (mkF m 0 #[.val (.ref ax), .unset, .unset, .unset, .unset, .unset, .unset, .unset, .unset, .unset, .unset] []))) (fun t k => castTop (own_ef7 m ax) k) ?_
  have hn0 : ¬ pn < 0 := by rw [hpn]; exact own_o0 (by omega)
  have hcap : pn.toNatClampNeg ≤ 18 := by rw [hpn, own_on nn (by omega)]; omega
  have hm2 : ((2 : Int32) * pn).toInt = 2 * nn := by rw [hpn]; exact own_mul2 nn hnn
  have ez : (0 : Int32).toInt = 0 := by decide
  have hm0 : ¬ ((2 : Int32) * pn) < 0 := by rw [Int32.lt_iff_toInt_lt, hm2, ez]; omega
  have hm18 : ((2 : Int32) * pn).toNatClampNeg ≤ 18 := by
    show ((2 : Int32) * pn).toInt.toNat ≤ 18
    rw [hm2]; omega
  have hz2 : ¬ ((2 : Int32) * pn) < (2 : Int32) := by
    have e2 : (2 : Int32).toInt = 2 := by decide
    rw [Int32.lt_iff_toInt_lt, hm2, e2]; omega
  have hz1 : (1 : Int32) < ((2 : Int32) * pn) := by
    have e2 : (1 : Int32).toInt = 1 := by decide
    rw [Int32.lt_iff_toInt_lt, hm2, e2]; omega
  refine own_pre (A := (s₁.setTop (mkF m 1 #[.val (.ref ax), .unset, .unset, .unset, .unset, .unset, .unset, .unset, .unset, .unset, .unset] [(.ref ax)]))) ?_ ?_
  · intro t k
    refine XS.aloadN X0.here hx rfl (hb hby d7_0) rfl rfl ?_
    exact k
  obtain ⟨T357, X357, e357, st357⟩ := getF X0 hx hZ hown (host := "") (Or.inl (own_w hw 23 rfl)) Via.refl e0 Fr_ (g := (mkF m 1 #[.val (.ref ax), .unset, .unset, .unset, .unset, .unset, .unset, .unset, .unset, .unset, .unset] [(.ref ax)])) rfl rfl (hb hby d7_1)
  refine own_pre (fun t k => st357 t k) ?_
  refine own_pre (A := (T357.setTop (mkF m 5 #[.val (.ref ax), .unset, .unset, .unset, .unset, .unset, .unset, .unset, .unset, .unset, .unset] [(.ref ax), (.ref ar)]))) ?_ ?_
  · intro t k
    refine XS.aloadN X357.here hx rfl (hb hby d7_4) rfl rfl ?_
    exact k
  obtain ⟨T358, X358, e358, st358⟩ := getF X357 hx hZ hown (host := "") (Or.inl (own_w hw 30 rfl)) Via.refl e357 Fc (g := (mkF m 5 #[.val (.ref ax), .unset, .unset, .unset, .unset, .unset, .unset, .unset, .unset, .unset, .unset] [(.ref ax), (.ref ar)])) rfl rfl (hb hby d7_5)
  refine own_pre (fun t k => st358 t k) ?_
  obtain ⟨_, _, ⟨T359, L359, k359, n359⟩, -, X359, ⟨Lc359, hQ359, l359, y359, z359⟩, st359⟩ := Jvm.LawKit.callS X358 hx (y := (⟨"java/util/Arrays", "copyOf", "([JI)[J"⟩ : MethodName)) hown (mvT hZ (own_w hw 37 rfl)) (mvT hZ (own_w hw 38 rfl)) (mvT hZ (own_w hw 39 rfl)) (mvT hZ (own_w hw 40 rfl)) (by decide) (backOf (W := 0) (rm8_g l Z a0 hw [] ar pn kr pw wl h0 n0 Z0 Vr Er hzn hn0 hcap) hZ (own_w hw 40 rfl) (own_w hw 39 rfl) (by decide) (by decide)) (g := (mkF m 8 #[.val (.ref ax), .unset, .unset, .unset, .unset, .unset, .unset, .unset, .unset, .unset, .unset] [(.int pn), (.ref ar)])) rfl (by rw [hml]; rfl) (argsL := [(.ref ar), (.int pn)]) (rest := []) (lenOf own_pd4 rfl) rfl (by show 2 * 0 + _ ≤ _; exact Nat.le_of_eq rfl) (hb hby d7_8) (fun _ _ => ⟨rfl, e358, (by decide : 0 + 1 ≤ _), (by decide : 0 + 18 ≤ _)⟩)
  dsimp only [Pt.U, Pt.locs, Pt.cells, Pt.slots] at X359 l359 y359 z359 st359 hQ359
  replace y359 : _ = 1 := y359
  replace z359 : _ = 18 := z359
  subst y359 z359
  obtain ⟨Nq359, ad359, kq359, rfl, gq359, zz359, Vq359, Eq359, Kq359⟩ := hQ359
  have N359 := own_frl l359 N0 Nq359
  refine own_pre (fun t k => st359 t k) ?_
  have ne_ax_ad359 : ax ≠ ad359 := Nat.ne_of_lt (Nat.lt_of_lt_of_le Ea.lt zz359)
  have sz_ad359 : h0.size ≤ ad359 := Nat.le_trans (Keep.refl h0 []).1 zz359
  have Fc_359 := Fc.keep Kq359 nin0
  have Zs359 : n0 ≤ T359.heap.size := Nat.le_trans Z0 Kq359.1
  have Kc359 : Keep h0 T359.heap [] := (Keep.refl h0 []).trans Kq359 all0
  refine own_pre (A := (T359.setTop (mkF m 13 (own_l136 ax ad359) [(.ref ad359)]))) ?_ ?_
  · intro t k
    refine XS.astoreN X359.here hx rfl (hb hby d7_11) rfl rfl (l' := (own_l136 ax ad359)) rfl ?_
    refine XS.aloadN X359.here hx rfl (hb hby d7_12) rfl rfl ?_
    exact k
  obtain ⟨_, _, ⟨T360, L360, k360, n360⟩, -, X360, ⟨Lc360, hQ360, l360, y360, z360⟩, st360⟩ := Jvm.LawKit.callS X359 hx (y := (⟨"java/util/Arrays", "sort", "([J)V"⟩ : MethodName)) hown (mvT hZ (own_w hw 46 rfl)) (mvT hZ (own_w hw 47 rfl)) (mvT hZ (own_w hw 39 rfl)) (mvT hZ (own_w hw 48 rfl)) (by decide) (backOf (W := 0) (HS T359.heap ad359 kq359 Zs359 Vq359 gq359) hZ (own_w hw 48 rfl) (own_w hw 39 rfl) (by decide) (by decide)) (g := (mkF m 13 (own_l136 ax ad359) [(.ref ad359)])) rfl (by rw [hml]; rfl) (argsL := [(.ref ad359)]) (rest := []) (lenOf own_pd5 rfl) rfl (by show 2 * 0 + _ ≤ _; exact Nat.le_of_eq rfl) (hb hby d7_13) (fun _ _ => ⟨rfl, rfl, (by decide : 1 + 0 ≤ _), (by decide : 18 + 0 ≤ _)⟩)
  dsimp only [Pt.U, Pt.locs, Pt.cells, Pt.slots] at X360 l360 y360 z360 st360 hQ360
  replace y360 : _ = 1 := y360
  replace z360 : _ = 18 := z360
  subst y360 z360
  obtain ⟨rfl, Nq360, Kq360, Vq360⟩ := hQ360
  have N360 := own_frl l360 N359 Nq360
  refine own_pre (fun t k => st360 t k) ?_
  have Fc_360 := Fc_359.keep Kq360 (ninS ne_ax_ad359 nin0)
  have Eq359_360 := Eq359.keep Kq360
  have Zs360 : n0 ≤ T360.heap.size := Nat.le_trans Zs359 Kq360.1
  have Kc360 : Keep h0 T360.heap [] := Kc359.trans Kq360 (allS (Or.inr sz_ad359) all0)
  refine own_pre (A := (T360.setTop (mkF m 18 (own_l136 ax ad359) [(.ref ax), (.int (2 : Int32))]))) ?_ ?_
  · intro t k
    refine XS.iconst X360.here hx rfl (hb hby d7_16) ?_
    refine XS.aloadN X360.here hx rfl (hb hby d7_17) rfl rfl ?_
    exact k
  obtain ⟨T361, X361, e361, st361⟩ := getF X360 hx hZ hown (host := "") (Or.inl (own_w hw 30 rfl)) Via.refl rfl Fc_360 (g := (mkF m 18 (own_l136 ax ad359) [(.ref ax), (.int (2 : Int32))])) rfl rfl (hb hby d7_18)
  refine own_pre (fun t k => st361 t k) ?_
  refine own_pre (A := (T361.setTop (mkF m 22 (own_l136 ax ad359) [(.int ((2 : Int32) * pn))]))) ?_ ?_
  · intro t k
    refine XS.imul X361.here hx rfl (hb hby d7_21) rfl ?_
    exact k
  obtain ⟨T362, h362, k362, X362, e362, E362, A362, Q362, st362⟩ := newPE X361 hx hZ (own_w hw 59 rfl) e361 (g := (mkF m 22 (own_l136 ax ad359) [(.int ((2 : Int32) * pn))])) rfl (hb hby d7_22) rfl hm0 (cap := 18) hm18 (by decide) (by decide) (by decide) (ad := "[I") (by decide)
  obtain ⟨b362, g362⟩ : ∃ z, z = T360.heap.size := ⟨_, rfl⟩
  rw [← g362] at A362 st362 Q362
  have ne_ad359_b362 : ad359 ≠ b362 := Nat.ne_of_lt (Nat.lt_of_lt_of_le Eq359_360.lt (Nat.le_of_eq g362.symm))
  have gn_b362 : n0 ≤ b362 := Nat.le_trans Zs360 (Nat.le_of_eq g362.symm)
  have sz_b362 : h0.size ≤ b362 := Nat.le_trans Kc360.1 (Nat.le_of_eq g362.symm)
  have Vq360_362 := Vq360.ext E362
  have Zs362 : n0 ≤ h362.size := Nat.le_trans Zs360 E362.1
  have Kc362 : Keep h0 h362 [] := Kc360.ext E362
  have V362 : Arv Z h362 b362 k362 .int ((2 : Int32) * pn) [] (.int (0 : Int32)) := Arv.new A362 hm0
  refine own_pre (fun t k => st362 t k) ?_
  refine own_pre (A := (T362.setTop (mkF m 38 (own_l119 ax ad359 b362 pn) []))) ?_ ?_
  · intro t k
    refine XS.astoreN X362.here hx rfl (hb hby d7_24) rfl rfl (l' := (own_l137 ax ad359 b362)) rfl ?_
    refine XS.iconst X362.here hx rfl (hb hby d7_25) ?_
    refine XS.istoreN X362.here hx rfl (hb hby d7_26) rfl (l' := (own_l138 ax ad359 b362)) rfl ?_
    refine XS.aloadN X362.here hx rfl (hb hby d7_27) rfl rfl ?_
    refine XS.astore X362.here hx rfl (hb hby d7_28) rfl rfl (l' := (own_l139 ax ad359 b362)) rfl ?_
    refine XS.aload X362.here hx rfl (hb hby d7_30) rfl rfl ?_
    show Steps p.tables e below (T362.setTop (mkF m 32 (own_l139 ax ad359 b362) [(.ref ad359)])) _
    obtain ⟨cl363, Ar363, -, S363, N363, -, -⟩ := id Vq360_362
    refine X362.arraylength hx (by rw [e362]; exact Ar363.1) (State.isArrayOf_alike hZ.alike Ar363.2.1) (g := (mkF m 32 (own_l139 ax ad359 b362) [(.ref ad359)])) rfl rfl (hb hby d7_32) _ ?_
    rw [len_of S363 N363]
    refine XS.istore X362.here hx rfl (hb hby d7_33) rfl (l' := (own_l140 ax ad359 b362 pn)) rfl ?_
    refine XS.iconst X362.here hx rfl (hb hby d7_35) ?_
    refine XS.istore X362.here hx rfl (hb hby d7_36) rfl (l' := (own_l119 ax ad359 b362 pn)) rfl ?_
    exact k
  have Vb0 : Arv Z h362 b362 k362 .int ((2 : Int32) * pn) [(.int (0 : Int32)), (.int (0 : Int32)), (.int (0 : Int32)), (.int (0 : Int32))] (.int (0 : Int32)) := V362.pad (pad_rep [] (.int (0 : Int32)) 4)
  refine own_tb0 hw X362 hx hZ hown hml hby e362 N360 gn_b362 (by decide) (by decide) hpn (by omega) hnn (hvl 0 (by omega)) hfl hll hz1 ne_ad359_b362 Vq360_362 Vb0 ?_
  intro T364 h364 locs364 X364 e364 N364 K364 Vs364 Vb364
  refine own_rb2 hw hx hZ hown hml hby gn_b362 (by decide) (by decide) hpn hnn hfl hll hz1 (own_maxs _) hcl1 ne_ad359_b362 (t := nn) (Nat.le_refl _) (nn - 1) (1) _ _ _ _ _ _ (by omega) (fun x h1 h2 => hvl x h2) X364 e364 N364 Vs364 Vb364 ?_
  intro T365 h365 locs365 qq365 px365 py365 X365 e365 N365 K365 Vs365 Vb365
  have KK365 : Keep h362 h365 [b362] := K364.trans K365 (allS (Or.inl (List.mem_of_getElem? (i := 0) rfl)) all0)
  have Q362_366 := Q362.keep KK365
  have Zs366 : n0 ≤ h365.size := Nat.le_trans Zs362 KK365.1
  have Kc366 : Keep h0 h365 [] := Kc362.trans KK365 (allS (Or.inr sz_b362) all0)
  have hex : ¬ (Int32.ofNat nn) < pn := by rw [hpn]; exact Int32.lt_irrefl
  refine own_pre (A := (T365.setTop (mkF m 121 (own_l129 ax ad359 b362 pn nn qq365 px365 py365) []))) ?_ ?_
  · intro t k
    refine XS.iload X365.here hx rfl (hb hby d7_38) rfl ?_
    refine XS.iload X365.here hx rfl (hb hby d7_40) rfl ?_
    refine XS.icmpYes X365.here hx rfl (pc0 := 42) (pc' := 121) rfl (hb hby d7_42) rfl (flt hex).2.1 (by decide) (by decide) ?_
    exact k
  obtain ⟨T367, h367, X367, e367, E367, A367, D367, -, st367⟩ := newO X365 hx hZ hown (own_w hw 61 rfl) (own_w hw 62 rfl) (own_w hw 63 rfl) e365 (g := (mkF m 121 (own_l129 ax ad359 b362 pn nn qq365 px365 py365) [])) rfl (hb hby d7_121) (by decide) (by decide)
  obtain ⟨b367, g367⟩ : ∃ z, z = h365.size := ⟨_, rfl⟩
  rw [← g367] at A367 D367 st367
  have gn_b367 : n0 ≤ b367 := Nat.le_trans Zs366 (Nat.le_of_eq g367.symm)
  have sz_b367 : h0.size ≤ b367 := Nat.le_trans Kc366.1 (Nat.le_of_eq g367.symm)
  have Q362_367 := Q362_366.ext E367
  have Vb365_367 := Vb365.ext E367
  have Zs367 : n0 ≤ h367.size := Nat.le_trans Zs366 E367.1
  have Kc367 : Keep h0 h367 [] := Kc366.ext E367
  have F367_bounds : Fld Z h367 b367 "com/example/otito/otito/chain/CodePointSet" "bounds" "[I" .null := D367 (Or.inr (own_w hw 72 rfl)) (ty := (.array .int)) (by decide)
  refine own_pre (fun t k => st367 t k) ?_
  refine own_pre (A := (T367.setTop (mkF m 127 (own_l129 ax ad359 b362 pn nn qq365 px365 py365) [(.int (2 : Int32)), (.ref b362), (.ref b367), (.ref b367)]))) ?_ ?_
  · intro t k
    refine XS.dup X367.here hx rfl (hb hby d7_124) rfl rfl ?_
    refine XS.aloadN X367.here hx rfl (hb hby d7_125) rfl rfl ?_
    refine XS.iloadN X367.here hx rfl (hb hby d7_126) rfl ?_
    exact k
  obtain ⟨_, _, ⟨T368, L368, k368, n368⟩, -, X368, ⟨Lc368, hQ368, l368, y368, z368⟩, st368⟩ := Jvm.LawKit.callS X367 hx (y := (⟨"java/util/Arrays", "copyOf", "([II)[I"⟩ : MethodName)) hown (mvT hZ (own_w hw 64 rfl)) (mvT hZ (own_w hw 65 rfl)) (mvT hZ (own_w hw 39 rfl)) (mvT hZ (own_w hw 66 rfl)) (by decide) (backOf (W := 2) (rm13_g l Z a0 hw [] b362 (2 : Int32) k362 ((2 : Int32) * pn) [(.int plof), (.int plol), (.int (0 : Int32)), (.int (0 : Int32))] h367 n0 Zs367 Vb365_367 Q362_367 hz2 (by decide) (by decide)) hZ (own_w hw 66 rfl) (own_w hw 39 rfl) (by decide) (by decide)) (g := (mkF m 127 (own_l129 ax ad359 b362 pn nn qq365 px365 py365) [(.int (2 : Int32)), (.ref b362), (.ref b367), (.ref b367)])) rfl (by rw [hml]; rfl) (argsL := [(.ref b362), (.int (2 : Int32))]) (rest := [(.ref b367), (.ref b367)]) (lenOf own_pd6 rfl) rfl (by show 2 * 0 + _ ≤ _; exact Nat.le_of_eq rfl) (hb hby d7_127) (fun _ _ => ⟨rfl, e367, (by decide : 3 + 1 ≤ _), (by decide : 37 + 18 ≤ _)⟩)
  dsimp only [Pt.U, Pt.locs, Pt.cells, Pt.slots] at X368 l368 y368 z368 st368 hQ368
  replace y368 : _ = 4 := y368
  replace z368 : _ = 55 := z368
  subst y368 z368
  obtain ⟨Nq368, ad368, kq368, rfl, gq368, zz368, Vq368, Eq368, Kq368⟩ := hQ368
  have N368 := own_frl l368 N365 Nq368
  refine own_pre (fun t k => st368 t k) ?_
  have ne_b367_ad368 : b367 ≠ ad368 := Nat.ne_of_lt (Nat.lt_of_lt_of_le A367.lt zz368)
  have A367_368 := A367.keep Kq368
  have F367_bounds_368 := F367_bounds.keep Kq368 nin0
  have Zs368 : n0 ≤ T368.heap.size := Nat.le_trans Zs367 Kq368.1
  have Kc368 : Keep h0 T368.heap [] := Kc367.trans Kq368 all0
  have Vq368' : Arv Z T368.heap ad368 kq368 .int (2 : Int32) [(.int plof), (.int plol)] (.int (0 : Int32)) := Vq368
  obtain ⟨_, _, ⟨T369, L369, k369, n369⟩, -, X369, ⟨Lc369, hQ369, l369, y369, z369⟩, st369⟩ := X368.specialBackNest hx (y := (⟨"com/example/otito/otito/chain/CodePointSet", "<init>", "([I)V"⟩ : MethodName)) rfl hown (mvNM hZ (own_w hw 67 rfl)) (mvT hZ (own_w hw 68 rfl)) (mvT hZ (own_w hw 69 rfl)) (by decide) (backOf (W := 1) (rm14 l Z a0 hw [] b367 ad368 T368.heap n0 Zs368 A367_368 F367_bounds_368 gn_b367) hZ (own_w hw 69 rfl) (own_w hw 63 rfl) (by decide) (by decide)) (g := (mkF m 130 (own_l129 ax ad359 b362 pn nn qq365 px365 py365) [(.ref ad368), (.ref b367), (.ref b367)])) rfl (by rw [hml]; rfl) (Steps.refl _) (a := b367) (argsL := [(.ref ad368)]) (rest := [(.ref b367)]) (lenOf own_pd7 rfl) rfl (by show 2 * 0 + _ ≤ _; exact Nat.le_of_eq rfl) (hb hby d7_130) (fun _ _ => ⟨rfl, rfl, (by decide : 4 + 0 ≤ _), (by decide : 55 + 0 ≤ _)⟩)
  dsimp only [Pt.U, Pt.locs, Pt.cells, Pt.slots] at X369 l369 y369 z369 st369 hQ369
  replace y369 : _ = 4 := y369
  replace z369 : _ = 55 := z369
  subst y369 z369
  obtain ⟨rfl, Nq369, Kq369, Fb369⟩ := hQ369
  have N369 := own_frl l369 N368 Nq369
  refine own_pre (fun t k => st369.trans k) ?_
  have A367_369 := A367_368.keep Kq369
  have Vq368'_369 := Vq368'.keep Kq369 (ninS ne_b367_ad368.symm nin0)
  have Kc369 : Keep h0 T369.heap [] := Kc368.trans Kq369 (allS (Or.inr sz_b367) all0)
  obtain ⟨fs, hr, hrun, hended, hW, hsame⟩ := X369.leave (hlocks := BodyLoose.notSynchronized Bd) (v := some (.ref b367)) (fun h => by rw [Bd.returns] at h; cases h)
  refine ⟨_, _, retOut X369 hx Bd.returns rfl (Or.inr (Or.inr (Or.inr (Or.inr ⟨rfl, rfl, rfl⟩)))) (hb hby d7_133) hr, hrun, hended, _, _, rfl, ?_, ⟨_, rfl⟩, hW, hsame.mono (by decide) (by decide)⟩
  show own_Q7_S Z ax ar kr pw wl pn vs nn np qlo plof plol qhi phif phil h0 n0 _ T369.heap _
  exact ⟨N369, b367, ad368, kq368, rfl, Fb369, Vq368'_369, A367_369, Kc369⟩
def own_Q7_O (Z : State) (ax : Addr) (ar : Addr) (kr : ClassId) (pw : Int32) (wl : List Value) (pn : Int32) (vs : List Value) (nn : Nat) (np : Nat) (qlo : Int64) (plof : Int32) (plol : Int32) (qhi : Int64) (phif : Int32) (phil : Int32) (h0 : Heap) (n0 : Nat) (v : Option Value) (h : Heap) (L : List Loc) : Prop := Fr n0 L ∧ ∃ (ac ab : Addr) (kb : ClassId), v = some (.ref ac) ∧ Fld Z h ac "com/example/otito/otito/chain/CodePointSet" "bounds" "[I" (.ref ab) ∧ Arv Z h ab kb .int (2 : Int32) [(.int plof), (.int (own_max plol phil))] (.int (0 : Int32)) ∧ Exa Z h ac "com/example/otito/otito/chain/CodePointSet" ∧ Keep h0 h []
set_option maxRecDepth 65536 in
set_option maxHeartbeats 40000000 in
theorem rm7_O (l : Launch) (Z : State) (a0 : Array Value) (hw : ∀ d ∈ tables_1, d.before a0 Z = true) (ws : List Jvm.Cond) (ax : Addr) (ar : Addr) (kr : ClassId) (pw : Int32) (wl : List Value) (pn : Int32) (vs : List Value) (nn : Nat) (np : Nat) (qlo : Int64) (plof : Int32) (plol : Int32) (qhi : Int64) (phif : Int32) (phil : Int32) (h0 : Heap) (n0 : Nat) (Z0 : n0 ≤ h0.size) (Ea : Exa Z h0 ax "com/example/otito/otito/chain/CodePointSet$Builder") (Fr_ : Fld Z h0 ax "com/example/otito/otito/chain/CodePointSet$Builder" "ranges" "[J" (.ref ar)) (Fc : Fld Z h0 ax "com/example/otito/otito/chain/CodePointSet$Builder" "count" "I" (.int pn)) (Vr : Arv Z h0 ar kr .long pw wl (.long (0 : Int64))) (Er : Exa Z h0 ar "[J") (hpn : pn = Int32.ofNat nn) (hnn : nn ≤ 9) (hzn : ¬ pw < pn) (HS : own_HS l Z n0 pn wl vs) (h1p : 1 ≤ np) (hpl : np < nn) (hvl : ∀ x, x < np → vs.getD x (.long (0 : Int64)) = .long qlo) (hvh : ∀ x, np ≤ x → x < nn → vs.getD x (.long (0 : Int64)) = .long qhi) (hfl : (((qlo.toUInt64 >>> ((32 : Int32) &&& 0x3f).toInt64.toUInt64).toInt64).toInt32) = plof) (hll : (qlo.toInt32) = plol) (hfh : (((qhi.toUInt64 >>> ((32 : Int32) &&& 0x3f).toInt64.toUInt64).toInt64).toInt32) = phif) (hlh : (qhi.toInt32) = phil) (hcl1 : ¬ (plol + (1 : Int32)) < plof) (hov : ¬ (plol + (1 : Int32)) < phif) (hov2 : ¬ ((own_max plol phil) + (1 : Int32)) < phif) :
    MetFree l (⟨"com/example/otito/otito/chain/CodePointSet$Builder", "build", "()Lcom/example/otito/otito/chain/CodePointSet;"⟩ : MethodName) (head1 (Jvm.Cond.code (⟨"com/example/otito/otito/chain/CodePointSet$Builder", "build", "()Lcom/example/otito/otito/chain/CodePointSet;"⟩ : MethodName) prog_6_method_4_code 11 (some (.object "com/example/otito/otito/chain/CodePointSet")) :: ws) ({ frames := 4, cells := 4, slots := 55, locals := 86 } : Room)) (fun a U => a = #[(.ref ax)] ∧ Z.Warmed39 U.vm ∧ U.heap = h0) (fun _ _ _ _ _ => True) (fun _ U o U' => ∃ v L, o = .returned v ∧ own_Q7_O Z ax ar kr pw wl pn vs nn np qlo plof plol qhi phif phil h0 n0 v U'.heap L ∧ FrameEnd U o U' L ({ frames := 4, cells := 4, slots := 55, locals := 86 } : Room).cells ({ frames := 4, cells := 4, slots := 55, locals := 86 } : Room).slots) := by
  refine MetFree.of_bodySF (plainFor_of_name own_pn7) hisR ?_
  intro p e s m args below meth c s₁ Bd hml0 hP hK
  obtain ⟨rfl, hZ, hh⟩ := hP
  have hx := Bd.exec
  have hby := Bd.bytes
  have hml : c.maxLocals = 11 := hml0
  have hown : s.vm.findClass "com/example/otito/otito/chain/CodePointSet$Builder" = some m.cls := findClass_of_methodNamed Bd.named
  have hnm := (name_of_methodNamed Bd.named Bd.method).1
  have X0 : Stand p l e ({ frames := 4, cells := 4, slots := 55, locals := 86 } : Room) s m #[(.ref ax)] below meth c s₁ [] 0 0 := Stand.of_body Bd
  have e0 : s₁.heap = h0 := by rw [← hh, Bd.state]; rfl
  have N0 := Fr.nil n0
  refine own_pre (A := (s₁.setTop (mkF m 0 #[.val (.ref ax), .unset, .unset, .unset, .unset, .unset, .unset, .unset, .unset, .unset, .unset] []))) (fun t k => castTop (own_ef7 m ax) k) ?_
  have hn0 : ¬ pn < 0 := by rw [hpn]; exact own_o0 (by omega)
  have hcap : pn.toNatClampNeg ≤ 18 := by rw [hpn, own_on nn (by omega)]; omega
  have hm2 : ((2 : Int32) * pn).toInt = 2 * nn := by rw [hpn]; exact own_mul2 nn hnn
  have ez : (0 : Int32).toInt = 0 := by decide
  have hm0 : ¬ ((2 : Int32) * pn) < 0 := by rw [Int32.lt_iff_toInt_lt, hm2, ez]; omega
  have hm18 : ((2 : Int32) * pn).toNatClampNeg ≤ 18 := by
    show ((2 : Int32) * pn).toInt.toNat ≤ 18
    rw [hm2]; omega
  have hz2 : ¬ ((2 : Int32) * pn) < (2 : Int32) := by
    have e2 : (2 : Int32).toInt = 2 := by decide
    rw [Int32.lt_iff_toInt_lt, hm2, e2]; omega
  have hz1 : (1 : Int32) < ((2 : Int32) * pn) := by
    have e2 : (1 : Int32).toInt = 1 := by decide
    rw [Int32.lt_iff_toInt_lt, hm2, e2]; omega
  refine own_pre (A := (s₁.setTop (mkF m 1 #[.val (.ref ax), .unset, .unset, .unset, .unset, .unset, .unset, .unset, .unset, .unset, .unset] [(.ref ax)]))) ?_ ?_
  · intro t k
    refine XS.aloadN X0.here hx rfl (hb hby d7_0) rfl rfl ?_
    exact k
  obtain ⟨T370, X370, e370, st370⟩ := getF X0 hx hZ hown (host := "") (Or.inl (own_w hw 23 rfl)) Via.refl e0 Fr_ (g := (mkF m 1 #[.val (.ref ax), .unset, .unset, .unset, .unset, .unset, .unset, .unset, .unset, .unset, .unset] [(.ref ax)])) rfl rfl (hb hby d7_1)
  refine own_pre (fun t k => st370 t k) ?_
  refine own_pre (A := (T370.setTop (mkF m 5 #[.val (.ref ax), .unset, .unset, .unset, .unset, .unset, .unset, .unset, .unset, .unset, .unset] [(.ref ax), (.ref ar)]))) ?_ ?_
  · intro t k
    refine XS.aloadN X370.here hx rfl (hb hby d7_4) rfl rfl ?_
    exact k
  obtain ⟨T371, X371, e371, st371⟩ := getF X370 hx hZ hown (host := "") (Or.inl (own_w hw 30 rfl)) Via.refl e370 Fc (g := (mkF m 5 #[.val (.ref ax), .unset, .unset, .unset, .unset, .unset, .unset, .unset, .unset, .unset, .unset] [(.ref ax), (.ref ar)])) rfl rfl (hb hby d7_5)
  refine own_pre (fun t k => st371 t k) ?_
  obtain ⟨_, _, ⟨T372, L372, k372, n372⟩, -, X372, ⟨Lc372, hQ372, l372, y372, z372⟩, st372⟩ := Jvm.LawKit.callS X371 hx (y := (⟨"java/util/Arrays", "copyOf", "([JI)[J"⟩ : MethodName)) hown (mvT hZ (own_w hw 37 rfl)) (mvT hZ (own_w hw 38 rfl)) (mvT hZ (own_w hw 39 rfl)) (mvT hZ (own_w hw 40 rfl)) (by decide) (backOf (W := 0) (rm8_g l Z a0 hw [] ar pn kr pw wl h0 n0 Z0 Vr Er hzn hn0 hcap) hZ (own_w hw 40 rfl) (own_w hw 39 rfl) (by decide) (by decide)) (g := (mkF m 8 #[.val (.ref ax), .unset, .unset, .unset, .unset, .unset, .unset, .unset, .unset, .unset, .unset] [(.int pn), (.ref ar)])) rfl (by rw [hml]; rfl) (argsL := [(.ref ar), (.int pn)]) (rest := []) (lenOf own_pd4 rfl) rfl (by show 2 * 0 + _ ≤ _; exact Nat.le_of_eq rfl) (hb hby d7_8) (fun _ _ => ⟨rfl, e371, (by decide : 0 + 1 ≤ _), (by decide : 0 + 18 ≤ _)⟩)
  dsimp only [Pt.U, Pt.locs, Pt.cells, Pt.slots] at X372 l372 y372 z372 st372 hQ372
  replace y372 : _ = 1 := y372
  replace z372 : _ = 18 := z372
  subst y372 z372
  obtain ⟨Nq372, ad372, kq372, rfl, gq372, zz372, Vq372, Eq372, Kq372⟩ := hQ372
  have N372 := own_frl l372 N0 Nq372
  refine own_pre (fun t k => st372 t k) ?_
  have ne_ax_ad372 : ax ≠ ad372 := Nat.ne_of_lt (Nat.lt_of_lt_of_le Ea.lt zz372)
  have sz_ad372 : h0.size ≤ ad372 := Nat.le_trans (Keep.refl h0 []).1 zz372
  have Fc_372 := Fc.keep Kq372 nin0
  have Zs372 : n0 ≤ T372.heap.size := Nat.le_trans Z0 Kq372.1
  have Kc372 : Keep h0 T372.heap [] := (Keep.refl h0 []).trans Kq372 all0
  refine own_pre (A := (T372.setTop (mkF m 13 (own_l136 ax ad372) [(.ref ad372)]))) ?_ ?_
  · intro t k
    refine XS.astoreN X372.here hx rfl (hb hby d7_11) rfl rfl (l' := (own_l136 ax ad372)) rfl ?_
    refine XS.aloadN X372.here hx rfl (hb hby d7_12) rfl rfl ?_
    exact k
  obtain ⟨_, _, ⟨T373, L373, k373, n373⟩, -, X373, ⟨Lc373, hQ373, l373, y373, z373⟩, st373⟩ := Jvm.LawKit.callS X372 hx (y := (⟨"java/util/Arrays", "sort", "([J)V"⟩ : MethodName)) hown (mvT hZ (own_w hw 46 rfl)) (mvT hZ (own_w hw 47 rfl)) (mvT hZ (own_w hw 39 rfl)) (mvT hZ (own_w hw 48 rfl)) (by decide) (backOf (W := 0) (HS T372.heap ad372 kq372 Zs372 Vq372 gq372) hZ (own_w hw 48 rfl) (own_w hw 39 rfl) (by decide) (by decide)) (g := (mkF m 13 (own_l136 ax ad372) [(.ref ad372)])) rfl (by rw [hml]; rfl) (argsL := [(.ref ad372)]) (rest := []) (lenOf own_pd5 rfl) rfl (by show 2 * 0 + _ ≤ _; exact Nat.le_of_eq rfl) (hb hby d7_13) (fun _ _ => ⟨rfl, rfl, (by decide : 1 + 0 ≤ _), (by decide : 18 + 0 ≤ _)⟩)
  dsimp only [Pt.U, Pt.locs, Pt.cells, Pt.slots] at X373 l373 y373 z373 st373 hQ373
  replace y373 : _ = 1 := y373
  replace z373 : _ = 18 := z373
  subst y373 z373
  obtain ⟨rfl, Nq373, Kq373, Vq373⟩ := hQ373
  have N373 := own_frl l373 N372 Nq373
  refine own_pre (fun t k => st373 t k) ?_
  have Fc_373 := Fc_372.keep Kq373 (ninS ne_ax_ad372 nin0)
  have Eq372_373 := Eq372.keep Kq373
  have Zs373 : n0 ≤ T373.heap.size := Nat.le_trans Zs372 Kq373.1
  have Kc373 : Keep h0 T373.heap [] := Kc372.trans Kq373 (allS (Or.inr sz_ad372) all0)
  refine own_pre (A := (T373.setTop (mkF m 18 (own_l136 ax ad372) [(.ref ax), (.int (2 : Int32))]))) ?_ ?_
  · intro t k
    refine XS.iconst X373.here hx rfl (hb hby d7_16) ?_
    refine XS.aloadN X373.here hx rfl (hb hby d7_17) rfl rfl ?_
    exact k
  obtain ⟨T374, X374, e374, st374⟩ := getF X373 hx hZ hown (host := "") (Or.inl (own_w hw 30 rfl)) Via.refl rfl Fc_373 (g := (mkF m 18 (own_l136 ax ad372) [(.ref ax), (.int (2 : Int32))])) rfl rfl (hb hby d7_18)
  refine own_pre (fun t k => st374 t k) ?_
  refine own_pre (A := (T374.setTop (mkF m 22 (own_l136 ax ad372) [(.int ((2 : Int32) * pn))]))) ?_ ?_
  · intro t k
    refine XS.imul X374.here hx rfl (hb hby d7_21) rfl ?_
    exact k
  obtain ⟨T375, h375, k375, X375, e375, E375, A375, Q375, st375⟩ := newPE X374 hx hZ (own_w hw 59 rfl) e374 (g := (mkF m 22 (own_l136 ax ad372) [(.int ((2 : Int32) * pn))])) rfl (hb hby d7_22) rfl hm0 (cap := 18) hm18 (by decide) (by decide) (by decide) (ad := "[I") (by decide)
  obtain ⟨b375, g375⟩ : ∃ z, z = T373.heap.size := ⟨_, rfl⟩
  rw [← g375] at A375 st375 Q375
  have ne_ad372_b375 : ad372 ≠ b375 := Nat.ne_of_lt (Nat.lt_of_lt_of_le Eq372_373.lt (Nat.le_of_eq g375.symm))
  have gn_b375 : n0 ≤ b375 := Nat.le_trans Zs373 (Nat.le_of_eq g375.symm)
  have sz_b375 : h0.size ≤ b375 := Nat.le_trans Kc373.1 (Nat.le_of_eq g375.symm)
  have Vq373_375 := Vq373.ext E375
  have Zs375 : n0 ≤ h375.size := Nat.le_trans Zs373 E375.1
  have Kc375 : Keep h0 h375 [] := Kc373.ext E375
  have V375 : Arv Z h375 b375 k375 .int ((2 : Int32) * pn) [] (.int (0 : Int32)) := Arv.new A375 hm0
  refine own_pre (fun t k => st375 t k) ?_
  refine own_pre (A := (T375.setTop (mkF m 38 (own_l119 ax ad372 b375 pn) []))) ?_ ?_
  · intro t k
    refine XS.astoreN X375.here hx rfl (hb hby d7_24) rfl rfl (l' := (own_l137 ax ad372 b375)) rfl ?_
    refine XS.iconst X375.here hx rfl (hb hby d7_25) ?_
    refine XS.istoreN X375.here hx rfl (hb hby d7_26) rfl (l' := (own_l138 ax ad372 b375)) rfl ?_
    refine XS.aloadN X375.here hx rfl (hb hby d7_27) rfl rfl ?_
    refine XS.astore X375.here hx rfl (hb hby d7_28) rfl rfl (l' := (own_l139 ax ad372 b375)) rfl ?_
    refine XS.aload X375.here hx rfl (hb hby d7_30) rfl rfl ?_
    show Steps p.tables e below (T375.setTop (mkF m 32 (own_l139 ax ad372 b375) [(.ref ad372)])) _
    obtain ⟨cl376, Ar376, -, S376, N376, -, -⟩ := id Vq373_375
    refine X375.arraylength hx (by rw [e375]; exact Ar376.1) (State.isArrayOf_alike hZ.alike Ar376.2.1) (g := (mkF m 32 (own_l139 ax ad372 b375) [(.ref ad372)])) rfl rfl (hb hby d7_32) _ ?_
    rw [len_of S376 N376]
    refine XS.istore X375.here hx rfl (hb hby d7_33) rfl (l' := (own_l140 ax ad372 b375 pn)) rfl ?_
    refine XS.iconst X375.here hx rfl (hb hby d7_35) ?_
    refine XS.istore X375.here hx rfl (hb hby d7_36) rfl (l' := (own_l119 ax ad372 b375 pn)) rfl ?_
    exact k
  have Vb0 : Arv Z h375 b375 k375 .int ((2 : Int32) * pn) [(.int (0 : Int32)), (.int (0 : Int32)), (.int (0 : Int32)), (.int (0 : Int32))] (.int (0 : Int32)) := V375.pad (pad_rep [] (.int (0 : Int32)) 4)
  refine own_tb0 hw X375 hx hZ hown hml hby e375 N373 gn_b375 (by decide) (by decide) hpn (by omega) hnn (hvl 0 (by omega)) hfl hll hz1 ne_ad372_b375 Vq373_375 Vb0 ?_
  intro T377 h377 locs377 X377 e377 N377 K377 Vs377 Vb377
  refine own_rb2 hw hx hZ hown hml hby gn_b375 (by decide) (by decide) hpn hnn hfl hll hz1 (own_maxs _) hcl1 ne_ad372_b375 (t := np) (Nat.le_of_lt hpl) (np - 1) (1) _ _ _ _ _ _ (by omega) (fun x h1 h2 => hvl x h2) X377 e377 N377 Vs377 Vb377 ?_
  intro T378 h378 locs378 qq378 px378 py378 X378 e378 N378 K378 Vs378 Vb378
  have KK378 : Keep h375 h378 [b375] := K377.trans K378 (allS (Or.inl (List.mem_of_getElem? (i := 0) rfl)) all0)
  refine own_tb2m hw X378 hx hZ hown hml hby e378 N378 gn_b375 (by decide) (by decide) hpn hpl hnn (hvh np (Nat.le_refl _) hpl) hfh hlh hz1 hov ne_ad372_b375 Vs378 Vb378 ?_
  intro T379 h379 locs379 X379 e379 N379 K379 Vs379 Vb379
  have KK379 : Keep h375 h379 [b375] := KK378.trans K379 (allS (Or.inl (List.mem_of_getElem? (i := 0) rfl)) all0)
  refine own_rb2 hw hx hZ hown hml hby gn_b375 (by decide) (by decide) hpn hnn hfh hlh hz1 (own_maxi _ _) hov2 ne_ad372_b375 (t := nn) (Nat.le_refl _) (nn - np - 1) (np + 1) _ _ _ _ _ _ (by omega) (fun x h1 h2 => hvh x (by omega) h2) X379 e379 N379 Vs379 Vb379 ?_
  intro T380 h380 locs380 qq380 px380 py380 X380 e380 N380 K380 Vs380 Vb380
  have KK380 : Keep h375 h380 [b375] := KK379.trans K380 (allS (Or.inl (List.mem_of_getElem? (i := 0) rfl)) all0)
  have Q375_381 := Q375.keep KK380
  have Zs381 : n0 ≤ h380.size := Nat.le_trans Zs375 KK380.1
  have Kc381 : Keep h0 h380 [] := Kc375.trans KK380 (allS (Or.inr sz_b375) all0)
  have hex : ¬ (Int32.ofNat nn) < pn := by rw [hpn]; exact Int32.lt_irrefl
  refine own_pre (A := (T380.setTop (mkF m 121 (own_l129 ax ad372 b375 pn nn qq380 px380 py380) []))) ?_ ?_
  · intro t k
    refine XS.iload X380.here hx rfl (hb hby d7_38) rfl ?_
    refine XS.iload X380.here hx rfl (hb hby d7_40) rfl ?_
    refine XS.icmpYes X380.here hx rfl (pc0 := 42) (pc' := 121) rfl (hb hby d7_42) rfl (flt hex).2.1 (by decide) (by decide) ?_
    exact k
  obtain ⟨T382, h382, X382, e382, E382, A382, D382, -, st382⟩ := newO X380 hx hZ hown (own_w hw 61 rfl) (own_w hw 62 rfl) (own_w hw 63 rfl) e380 (g := (mkF m 121 (own_l129 ax ad372 b375 pn nn qq380 px380 py380) [])) rfl (hb hby d7_121) (by decide) (by decide)
  obtain ⟨b382, g382⟩ : ∃ z, z = h380.size := ⟨_, rfl⟩
  rw [← g382] at A382 D382 st382
  have gn_b382 : n0 ≤ b382 := Nat.le_trans Zs381 (Nat.le_of_eq g382.symm)
  have sz_b382 : h0.size ≤ b382 := Nat.le_trans Kc381.1 (Nat.le_of_eq g382.symm)
  have Q375_382 := Q375_381.ext E382
  have Vb380_382 := Vb380.ext E382
  have Zs382 : n0 ≤ h382.size := Nat.le_trans Zs381 E382.1
  have Kc382 : Keep h0 h382 [] := Kc381.ext E382
  have F382_bounds : Fld Z h382 b382 "com/example/otito/otito/chain/CodePointSet" "bounds" "[I" .null := D382 (Or.inr (own_w hw 72 rfl)) (ty := (.array .int)) (by decide)
  refine own_pre (fun t k => st382 t k) ?_
  refine own_pre (A := (T382.setTop (mkF m 127 (own_l129 ax ad372 b375 pn nn qq380 px380 py380) [(.int (2 : Int32)), (.ref b375), (.ref b382), (.ref b382)]))) ?_ ?_
  · intro t k
    refine XS.dup X382.here hx rfl (hb hby d7_124) rfl rfl ?_
    refine XS.aloadN X382.here hx rfl (hb hby d7_125) rfl rfl ?_
    refine XS.iloadN X382.here hx rfl (hb hby d7_126) rfl ?_
    exact k
  obtain ⟨_, _, ⟨T383, L383, k383, n383⟩, -, X383, ⟨Lc383, hQ383, l383, y383, z383⟩, st383⟩ := Jvm.LawKit.callS X382 hx (y := (⟨"java/util/Arrays", "copyOf", "([II)[I"⟩ : MethodName)) hown (mvT hZ (own_w hw 64 rfl)) (mvT hZ (own_w hw 65 rfl)) (mvT hZ (own_w hw 39 rfl)) (mvT hZ (own_w hw 66 rfl)) (by decide) (backOf (W := 2) (rm13_g l Z a0 hw [] b375 (2 : Int32) k375 ((2 : Int32) * pn) [(.int plof), (.int (own_max plol phil)), (.int (0 : Int32)), (.int (0 : Int32))] h382 n0 Zs382 Vb380_382 Q375_382 hz2 (by decide) (by decide)) hZ (own_w hw 66 rfl) (own_w hw 39 rfl) (by decide) (by decide)) (g := (mkF m 127 (own_l129 ax ad372 b375 pn nn qq380 px380 py380) [(.int (2 : Int32)), (.ref b375), (.ref b382), (.ref b382)])) rfl (by rw [hml]; rfl) (argsL := [(.ref b375), (.int (2 : Int32))]) (rest := [(.ref b382), (.ref b382)]) (lenOf own_pd6 rfl) rfl (by show 2 * 0 + _ ≤ _; exact Nat.le_of_eq rfl) (hb hby d7_127) (fun _ _ => ⟨rfl, e382, (by decide : 3 + 1 ≤ _), (by decide : 37 + 18 ≤ _)⟩)
  dsimp only [Pt.U, Pt.locs, Pt.cells, Pt.slots] at X383 l383 y383 z383 st383 hQ383
  replace y383 : _ = 4 := y383
  replace z383 : _ = 55 := z383
  subst y383 z383
  obtain ⟨Nq383, ad383, kq383, rfl, gq383, zz383, Vq383, Eq383, Kq383⟩ := hQ383
  have N383 := own_frl l383 N380 Nq383
  refine own_pre (fun t k => st383 t k) ?_
  have ne_b382_ad383 : b382 ≠ ad383 := Nat.ne_of_lt (Nat.lt_of_lt_of_le A382.lt zz383)
  have A382_383 := A382.keep Kq383
  have F382_bounds_383 := F382_bounds.keep Kq383 nin0
  have Zs383 : n0 ≤ T383.heap.size := Nat.le_trans Zs382 Kq383.1
  have Kc383 : Keep h0 T383.heap [] := Kc382.trans Kq383 all0
  have Vq383' : Arv Z T383.heap ad383 kq383 .int (2 : Int32) [(.int plof), (.int (own_max plol phil))] (.int (0 : Int32)) := Vq383
  obtain ⟨_, _, ⟨T384, L384, k384, n384⟩, -, X384, ⟨Lc384, hQ384, l384, y384, z384⟩, st384⟩ := X383.specialBackNest hx (y := (⟨"com/example/otito/otito/chain/CodePointSet", "<init>", "([I)V"⟩ : MethodName)) rfl hown (mvNM hZ (own_w hw 67 rfl)) (mvT hZ (own_w hw 68 rfl)) (mvT hZ (own_w hw 69 rfl)) (by decide) (backOf (W := 1) (rm14 l Z a0 hw [] b382 ad383 T383.heap n0 Zs383 A382_383 F382_bounds_383 gn_b382) hZ (own_w hw 69 rfl) (own_w hw 63 rfl) (by decide) (by decide)) (g := (mkF m 130 (own_l129 ax ad372 b375 pn nn qq380 px380 py380) [(.ref ad383), (.ref b382), (.ref b382)])) rfl (by rw [hml]; rfl) (Steps.refl _) (a := b382) (argsL := [(.ref ad383)]) (rest := [(.ref b382)]) (lenOf own_pd7 rfl) rfl (by show 2 * 0 + _ ≤ _; exact Nat.le_of_eq rfl) (hb hby d7_130) (fun _ _ => ⟨rfl, rfl, (by decide : 4 + 0 ≤ _), (by decide : 55 + 0 ≤ _)⟩)
  dsimp only [Pt.U, Pt.locs, Pt.cells, Pt.slots] at X384 l384 y384 z384 st384 hQ384
  replace y384 : _ = 4 := y384
  replace z384 : _ = 55 := z384
  subst y384 z384
  obtain ⟨rfl, Nq384, Kq384, Fb384⟩ := hQ384
  have N384 := own_frl l384 N383 Nq384
  refine own_pre (fun t k => st384.trans k) ?_
  have A382_384 := A382_383.keep Kq384
  have Vq383'_384 := Vq383'.keep Kq384 (ninS ne_b382_ad383.symm nin0)
  have Kc384 : Keep h0 T384.heap [] := Kc383.trans Kq384 (allS (Or.inr sz_b382) all0)
  obtain ⟨fs, hr, hrun, hended, hW, hsame⟩ := X384.leave (hlocks := BodyLoose.notSynchronized Bd) (v := some (.ref b382)) (fun h => by rw [Bd.returns] at h; cases h)
  refine ⟨_, _, retOut X384 hx Bd.returns rfl (Or.inr (Or.inr (Or.inr (Or.inr ⟨rfl, rfl, rfl⟩)))) (hb hby d7_133) hr, hrun, hended, _, _, rfl, ?_, ⟨_, rfl⟩, hW, hsame.mono (by decide) (by decide)⟩
  show own_Q7_O Z ax ar kr pw wl pn vs nn np qlo plof plol qhi phif phil h0 n0 _ T384.heap _
  exact ⟨N384, b382, ad383, kq383, rfl, Fb384, Vq383'_384, A382_384, Kc384⟩
def own_Q7_D (Z : State) (ax : Addr) (ar : Addr) (kr : ClassId) (pw : Int32) (wl : List Value) (pn : Int32) (vs : List Value) (nn : Nat) (np : Nat) (qlo : Int64) (plof : Int32) (plol : Int32) (qhi : Int64) (phif : Int32) (phil : Int32) (h0 : Heap) (n0 : Nat) (v : Option Value) (h : Heap) (L : List Loc) : Prop := Fr n0 L ∧ ∃ (ac ab : Addr) (kb : ClassId), v = some (.ref ac) ∧ Fld Z h ac "com/example/otito/otito/chain/CodePointSet" "bounds" "[I" (.ref ab) ∧ Arv Z h ab kb .int (4 : Int32) [(.int plof), (.int plol), (.int phif), (.int phil)] (.int (0 : Int32)) ∧ Exa Z h ac "com/example/otito/otito/chain/CodePointSet" ∧ Keep h0 h []
set_option maxRecDepth 65536 in
set_option maxHeartbeats 40000000 in
theorem rm7_D (l : Launch) (Z : State) (a0 : Array Value) (hw : ∀ d ∈ tables_1, d.before a0 Z = true) (ws : List Jvm.Cond) (ax : Addr) (ar : Addr) (kr : ClassId) (pw : Int32) (wl : List Value) (pn : Int32) (vs : List Value) (nn : Nat) (np : Nat) (qlo : Int64) (plof : Int32) (plol : Int32) (qhi : Int64) (phif : Int32) (phil : Int32) (h0 : Heap) (n0 : Nat) (Z0 : n0 ≤ h0.size) (Ea : Exa Z h0 ax "com/example/otito/otito/chain/CodePointSet$Builder") (Fr_ : Fld Z h0 ax "com/example/otito/otito/chain/CodePointSet$Builder" "ranges" "[J" (.ref ar)) (Fc : Fld Z h0 ax "com/example/otito/otito/chain/CodePointSet$Builder" "count" "I" (.int pn)) (Vr : Arv Z h0 ar kr .long pw wl (.long (0 : Int64))) (Er : Exa Z h0 ar "[J") (hpn : pn = Int32.ofNat nn) (hnn : nn ≤ 9) (hzn : ¬ pw < pn) (HS : own_HS l Z n0 pn wl vs) (h1p : 1 ≤ np) (hpl : np < nn) (hvl : ∀ x, x < np → vs.getD x (.long (0 : Int64)) = .long qlo) (hvh : ∀ x, np ≤ x → x < nn → vs.getD x (.long (0 : Int64)) = .long qhi) (hfl : (((qlo.toUInt64 >>> ((32 : Int32) &&& 0x3f).toInt64.toUInt64).toInt64).toInt32) = plof) (hll : (qlo.toInt32) = plol) (hfh : (((qhi.toUInt64 >>> ((32 : Int32) &&& 0x3f).toInt64.toUInt64).toInt64).toInt32) = phif) (hlh : (qhi.toInt32) = phil) (hcl1 : ¬ (plol + (1 : Int32)) < plof) (hdis : (plol + (1 : Int32)) < phif) (hch : ¬ (phil + (1 : Int32)) < phif) :
    MetFree l (⟨"com/example/otito/otito/chain/CodePointSet$Builder", "build", "()Lcom/example/otito/otito/chain/CodePointSet;"⟩ : MethodName) (head1 (Jvm.Cond.code (⟨"com/example/otito/otito/chain/CodePointSet$Builder", "build", "()Lcom/example/otito/otito/chain/CodePointSet;"⟩ : MethodName) prog_6_method_4_code 11 (some (.object "com/example/otito/otito/chain/CodePointSet")) :: ws) ({ frames := 4, cells := 4, slots := 55, locals := 86 } : Room)) (fun a U => a = #[(.ref ax)] ∧ Z.Warmed39 U.vm ∧ U.heap = h0) (fun _ _ _ _ _ => True) (fun _ U o U' => ∃ v L, o = .returned v ∧ own_Q7_D Z ax ar kr pw wl pn vs nn np qlo plof plol qhi phif phil h0 n0 v U'.heap L ∧ FrameEnd U o U' L ({ frames := 4, cells := 4, slots := 55, locals := 86 } : Room).cells ({ frames := 4, cells := 4, slots := 55, locals := 86 } : Room).slots) := by
  refine MetFree.of_bodySF (plainFor_of_name own_pn7) hisR ?_
  intro p e s m args below meth c s₁ Bd hml0 hP hK
  obtain ⟨rfl, hZ, hh⟩ := hP
  have hx := Bd.exec
  have hby := Bd.bytes
  have hml : c.maxLocals = 11 := hml0
  have hown : s.vm.findClass "com/example/otito/otito/chain/CodePointSet$Builder" = some m.cls := findClass_of_methodNamed Bd.named
  have hnm := (name_of_methodNamed Bd.named Bd.method).1
  have X0 : Stand p l e ({ frames := 4, cells := 4, slots := 55, locals := 86 } : Room) s m #[(.ref ax)] below meth c s₁ [] 0 0 := Stand.of_body Bd
  have e0 : s₁.heap = h0 := by rw [← hh, Bd.state]; rfl
  have N0 := Fr.nil n0
  refine own_pre (A := (s₁.setTop (mkF m 0 #[.val (.ref ax), .unset, .unset, .unset, .unset, .unset, .unset, .unset, .unset, .unset, .unset] []))) (fun t k => castTop (own_ef7 m ax) k) ?_
  have hn0 : ¬ pn < 0 := by rw [hpn]; exact own_o0 (by omega)
  have hcap : pn.toNatClampNeg ≤ 18 := by rw [hpn, own_on nn (by omega)]; omega
  have hm2 : ((2 : Int32) * pn).toInt = 2 * nn := by rw [hpn]; exact own_mul2 nn hnn
  have ez : (0 : Int32).toInt = 0 := by decide
  have hm0 : ¬ ((2 : Int32) * pn) < 0 := by rw [Int32.lt_iff_toInt_lt, hm2, ez]; omega
  have hm18 : ((2 : Int32) * pn).toNatClampNeg ≤ 18 := by
    show ((2 : Int32) * pn).toInt.toNat ≤ 18
    rw [hm2]; omega
  have hz2 : ¬ ((2 : Int32) * pn) < (4 : Int32) := by
    have e2 : (4 : Int32).toInt = 4 := by decide
    rw [Int32.lt_iff_toInt_lt, hm2, e2]; omega
  have hz1 : (1 : Int32) < ((2 : Int32) * pn) := by
    have e2 : (1 : Int32).toInt = 1 := by decide
    rw [Int32.lt_iff_toInt_lt, hm2, e2]; omega
  have hz3 : (3 : Int32) < ((2 : Int32) * pn) := by
    have e2 : (3 : Int32).toInt = 3 := by decide
    rw [Int32.lt_iff_toInt_lt, hm2, e2]; omega
  refine own_pre (A := (s₁.setTop (mkF m 1 #[.val (.ref ax), .unset, .unset, .unset, .unset, .unset, .unset, .unset, .unset, .unset, .unset] [(.ref ax)]))) ?_ ?_
  · intro t k
    refine XS.aloadN X0.here hx rfl (hb hby d7_0) rfl rfl ?_
    exact k
  obtain ⟨T385, X385, e385, st385⟩ := getF X0 hx hZ hown (host := "") (Or.inl (own_w hw 23 rfl)) Via.refl e0 Fr_ (g := (mkF m 1 #[.val (.ref ax), .unset, .unset, .unset, .unset, .unset, .unset, .unset, .unset, .unset, .unset] [(.ref ax)])) rfl rfl (hb hby d7_1)
  refine own_pre (fun t k => st385 t k) ?_
  refine own_pre (A := (T385.setTop (mkF m 5 #[.val (.ref ax), .unset, .unset, .unset, .unset, .unset, .unset, .unset, .unset, .unset, .unset] [(.ref ax), (.ref ar)]))) ?_ ?_
  · intro t k
    refine XS.aloadN X385.here hx rfl (hb hby d7_4) rfl rfl ?_
    exact k
  obtain ⟨T386, X386, e386, st386⟩ := getF X385 hx hZ hown (host := "") (Or.inl (own_w hw 30 rfl)) Via.refl e385 Fc (g := (mkF m 5 #[.val (.ref ax), .unset, .unset, .unset, .unset, .unset, .unset, .unset, .unset, .unset, .unset] [(.ref ax), (.ref ar)])) rfl rfl (hb hby d7_5)
  refine own_pre (fun t k => st386 t k) ?_
  obtain ⟨_, _, ⟨T387, L387, k387, n387⟩, -, X387, ⟨Lc387, hQ387, l387, y387, z387⟩, st387⟩ := Jvm.LawKit.callS X386 hx (y := (⟨"java/util/Arrays", "copyOf", "([JI)[J"⟩ : MethodName)) hown (mvT hZ (own_w hw 37 rfl)) (mvT hZ (own_w hw 38 rfl)) (mvT hZ (own_w hw 39 rfl)) (mvT hZ (own_w hw 40 rfl)) (by decide) (backOf (W := 0) (rm8_g l Z a0 hw [] ar pn kr pw wl h0 n0 Z0 Vr Er hzn hn0 hcap) hZ (own_w hw 40 rfl) (own_w hw 39 rfl) (by decide) (by decide)) (g := (mkF m 8 #[.val (.ref ax), .unset, .unset, .unset, .unset, .unset, .unset, .unset, .unset, .unset, .unset] [(.int pn), (.ref ar)])) rfl (by rw [hml]; rfl) (argsL := [(.ref ar), (.int pn)]) (rest := []) (lenOf own_pd4 rfl) rfl (by show 2 * 0 + _ ≤ _; exact Nat.le_of_eq rfl) (hb hby d7_8) (fun _ _ => ⟨rfl, e386, (by decide : 0 + 1 ≤ _), (by decide : 0 + 18 ≤ _)⟩)
  dsimp only [Pt.U, Pt.locs, Pt.cells, Pt.slots] at X387 l387 y387 z387 st387 hQ387
  replace y387 : _ = 1 := y387
  replace z387 : _ = 18 := z387
  subst y387 z387
  obtain ⟨Nq387, ad387, kq387, rfl, gq387, zz387, Vq387, Eq387, Kq387⟩ := hQ387
  have N387 := own_frl l387 N0 Nq387
  refine own_pre (fun t k => st387 t k) ?_
  have ne_ax_ad387 : ax ≠ ad387 := Nat.ne_of_lt (Nat.lt_of_lt_of_le Ea.lt zz387)
  have sz_ad387 : h0.size ≤ ad387 := Nat.le_trans (Keep.refl h0 []).1 zz387
  have Fc_387 := Fc.keep Kq387 nin0
  have Zs387 : n0 ≤ T387.heap.size := Nat.le_trans Z0 Kq387.1
  have Kc387 : Keep h0 T387.heap [] := (Keep.refl h0 []).trans Kq387 all0
  refine own_pre (A := (T387.setTop (mkF m 13 (own_l136 ax ad387) [(.ref ad387)]))) ?_ ?_
  · intro t k
    refine XS.astoreN X387.here hx rfl (hb hby d7_11) rfl rfl (l' := (own_l136 ax ad387)) rfl ?_
    refine XS.aloadN X387.here hx rfl (hb hby d7_12) rfl rfl ?_
    exact k
  obtain ⟨_, _, ⟨T388, L388, k388, n388⟩, -, X388, ⟨Lc388, hQ388, l388, y388, z388⟩, st388⟩ := Jvm.LawKit.callS X387 hx (y := (⟨"java/util/Arrays", "sort", "([J)V"⟩ : MethodName)) hown (mvT hZ (own_w hw 46 rfl)) (mvT hZ (own_w hw 47 rfl)) (mvT hZ (own_w hw 39 rfl)) (mvT hZ (own_w hw 48 rfl)) (by decide) (backOf (W := 0) (HS T387.heap ad387 kq387 Zs387 Vq387 gq387) hZ (own_w hw 48 rfl) (own_w hw 39 rfl) (by decide) (by decide)) (g := (mkF m 13 (own_l136 ax ad387) [(.ref ad387)])) rfl (by rw [hml]; rfl) (argsL := [(.ref ad387)]) (rest := []) (lenOf own_pd5 rfl) rfl (by show 2 * 0 + _ ≤ _; exact Nat.le_of_eq rfl) (hb hby d7_13) (fun _ _ => ⟨rfl, rfl, (by decide : 1 + 0 ≤ _), (by decide : 18 + 0 ≤ _)⟩)
  dsimp only [Pt.U, Pt.locs, Pt.cells, Pt.slots] at X388 l388 y388 z388 st388 hQ388
  replace y388 : _ = 1 := y388
  replace z388 : _ = 18 := z388
  subst y388 z388
  obtain ⟨rfl, Nq388, Kq388, Vq388⟩ := hQ388
  have N388 := own_frl l388 N387 Nq388
  refine own_pre (fun t k => st388 t k) ?_
  have Fc_388 := Fc_387.keep Kq388 (ninS ne_ax_ad387 nin0)
  have Eq387_388 := Eq387.keep Kq388
  have Zs388 : n0 ≤ T388.heap.size := Nat.le_trans Zs387 Kq388.1
  have Kc388 : Keep h0 T388.heap [] := Kc387.trans Kq388 (allS (Or.inr sz_ad387) all0)
  refine own_pre (A := (T388.setTop (mkF m 18 (own_l136 ax ad387) [(.ref ax), (.int (2 : Int32))]))) ?_ ?_
  · intro t k
    refine XS.iconst X388.here hx rfl (hb hby d7_16) ?_
    refine XS.aloadN X388.here hx rfl (hb hby d7_17) rfl rfl ?_
    exact k
  obtain ⟨T389, X389, e389, st389⟩ := getF X388 hx hZ hown (host := "") (Or.inl (own_w hw 30 rfl)) Via.refl rfl Fc_388 (g := (mkF m 18 (own_l136 ax ad387) [(.ref ax), (.int (2 : Int32))])) rfl rfl (hb hby d7_18)
  refine own_pre (fun t k => st389 t k) ?_
  refine own_pre (A := (T389.setTop (mkF m 22 (own_l136 ax ad387) [(.int ((2 : Int32) * pn))]))) ?_ ?_
  · intro t k
    refine XS.imul X389.here hx rfl (hb hby d7_21) rfl ?_
    exact k
  obtain ⟨T390, h390, k390, X390, e390, E390, A390, Q390, st390⟩ := newPE X389 hx hZ (own_w hw 59 rfl) e389 (g := (mkF m 22 (own_l136 ax ad387) [(.int ((2 : Int32) * pn))])) rfl (hb hby d7_22) rfl hm0 (cap := 18) hm18 (by decide) (by decide) (by decide) (ad := "[I") (by decide)
  obtain ⟨b390, g390⟩ : ∃ z, z = T388.heap.size := ⟨_, rfl⟩
  rw [← g390] at A390 st390 Q390
  have ne_ad387_b390 : ad387 ≠ b390 := Nat.ne_of_lt (Nat.lt_of_lt_of_le Eq387_388.lt (Nat.le_of_eq g390.symm))
  have gn_b390 : n0 ≤ b390 := Nat.le_trans Zs388 (Nat.le_of_eq g390.symm)
  have sz_b390 : h0.size ≤ b390 := Nat.le_trans Kc388.1 (Nat.le_of_eq g390.symm)
  have Vq388_390 := Vq388.ext E390
  have Zs390 : n0 ≤ h390.size := Nat.le_trans Zs388 E390.1
  have Kc390 : Keep h0 h390 [] := Kc388.ext E390
  have V390 : Arv Z h390 b390 k390 .int ((2 : Int32) * pn) [] (.int (0 : Int32)) := Arv.new A390 hm0
  refine own_pre (fun t k => st390 t k) ?_
  refine own_pre (A := (T390.setTop (mkF m 38 (own_l119 ax ad387 b390 pn) []))) ?_ ?_
  · intro t k
    refine XS.astoreN X390.here hx rfl (hb hby d7_24) rfl rfl (l' := (own_l137 ax ad387 b390)) rfl ?_
    refine XS.iconst X390.here hx rfl (hb hby d7_25) ?_
    refine XS.istoreN X390.here hx rfl (hb hby d7_26) rfl (l' := (own_l138 ax ad387 b390)) rfl ?_
    refine XS.aloadN X390.here hx rfl (hb hby d7_27) rfl rfl ?_
    refine XS.astore X390.here hx rfl (hb hby d7_28) rfl rfl (l' := (own_l139 ax ad387 b390)) rfl ?_
    refine XS.aload X390.here hx rfl (hb hby d7_30) rfl rfl ?_
    show Steps p.tables e below (T390.setTop (mkF m 32 (own_l139 ax ad387 b390) [(.ref ad387)])) _
    obtain ⟨cl391, Ar391, -, S391, N391, -, -⟩ := id Vq388_390
    refine X390.arraylength hx (by rw [e390]; exact Ar391.1) (State.isArrayOf_alike hZ.alike Ar391.2.1) (g := (mkF m 32 (own_l139 ax ad387 b390) [(.ref ad387)])) rfl rfl (hb hby d7_32) _ ?_
    rw [len_of S391 N391]
    refine XS.istore X390.here hx rfl (hb hby d7_33) rfl (l' := (own_l140 ax ad387 b390 pn)) rfl ?_
    refine XS.iconst X390.here hx rfl (hb hby d7_35) ?_
    refine XS.istore X390.here hx rfl (hb hby d7_36) rfl (l' := (own_l119 ax ad387 b390 pn)) rfl ?_
    exact k
  have Vb0 : Arv Z h390 b390 k390 .int ((2 : Int32) * pn) [(.int (0 : Int32)), (.int (0 : Int32)), (.int (0 : Int32)), (.int (0 : Int32))] (.int (0 : Int32)) := V390.pad (pad_rep [] (.int (0 : Int32)) 4)
  refine own_tb0 hw X390 hx hZ hown hml hby e390 N388 gn_b390 (by decide) (by decide) hpn (by omega) hnn (hvl 0 (by omega)) hfl hll hz1 ne_ad387_b390 Vq388_390 Vb0 ?_
  intro T392 h392 locs392 X392 e392 N392 K392 Vs392 Vb392
  refine own_rb2 hw hx hZ hown hml hby gn_b390 (by decide) (by decide) hpn hnn hfl hll hz1 (own_maxs _) hcl1 ne_ad387_b390 (t := np) (Nat.le_of_lt hpl) (np - 1) (1) _ _ _ _ _ _ (by omega) (fun x h1 h2 => hvl x h2) X392 e392 N392 Vs392 Vb392 ?_
  intro T393 h393 locs393 qq393 px393 py393 X393 e393 N393 K393 Vs393 Vb393
  have KK393 : Keep h390 h393 [b390] := K392.trans K393 (allS (Or.inl (List.mem_of_getElem? (i := 0) rfl)) all0)
  refine own_tb2a hw X393 hx hZ hown hml hby e393 N393 gn_b390 (by decide) (by decide) hpn hpl hnn (hvh np (Nat.le_refl _) hpl) hfh hlh hz3 hdis ne_ad387_b390 Vs393 Vb393 ?_
  intro T394 h394 locs394 X394 e394 N394 K394 Vs394 Vb394
  have KK394 : Keep h390 h394 [b390] := KK393.trans K394 (allS (Or.inl (List.mem_of_getElem? (i := 0) rfl)) all0)
  refine own_rb4 hw hx hZ hown hml hby gn_b390 (by decide) (by decide) hpn hnn hfh hlh hz3 (own_maxs _) hch ne_ad387_b390 (t := nn) (Nat.le_refl _) (nn - np - 1) (np + 1) _ _ _ _ _ _ (by omega) (fun x h1 h2 => hvh x (by omega) h2) X394 e394 N394 Vs394 Vb394 ?_
  intro T395 h395 locs395 qq395 px395 py395 X395 e395 N395 K395 Vs395 Vb395
  have KK395 : Keep h390 h395 [b390] := KK394.trans K395 (allS (Or.inl (List.mem_of_getElem? (i := 0) rfl)) all0)
  have Q390_396 := Q390.keep KK395
  have Zs396 : n0 ≤ h395.size := Nat.le_trans Zs390 KK395.1
  have Kc396 : Keep h0 h395 [] := Kc390.trans KK395 (allS (Or.inr sz_b390) all0)
  have hex : ¬ (Int32.ofNat nn) < pn := by rw [hpn]; exact Int32.lt_irrefl
  refine own_pre (A := (T395.setTop (mkF m 121 (own_l134 ax ad387 b390 pn nn qq395 px395 py395) []))) ?_ ?_
  · intro t k
    refine XS.iload X395.here hx rfl (hb hby d7_38) rfl ?_
    refine XS.iload X395.here hx rfl (hb hby d7_40) rfl ?_
    refine XS.icmpYes X395.here hx rfl (pc0 := 42) (pc' := 121) rfl (hb hby d7_42) rfl (flt hex).2.1 (by decide) (by decide) ?_
    exact k
  obtain ⟨T397, h397, X397, e397, E397, A397, D397, -, st397⟩ := newO X395 hx hZ hown (own_w hw 61 rfl) (own_w hw 62 rfl) (own_w hw 63 rfl) e395 (g := (mkF m 121 (own_l134 ax ad387 b390 pn nn qq395 px395 py395) [])) rfl (hb hby d7_121) (by decide) (by decide)
  obtain ⟨b397, g397⟩ : ∃ z, z = h395.size := ⟨_, rfl⟩
  rw [← g397] at A397 D397 st397
  have gn_b397 : n0 ≤ b397 := Nat.le_trans Zs396 (Nat.le_of_eq g397.symm)
  have sz_b397 : h0.size ≤ b397 := Nat.le_trans Kc396.1 (Nat.le_of_eq g397.symm)
  have Q390_397 := Q390_396.ext E397
  have Vb395_397 := Vb395.ext E397
  have Zs397 : n0 ≤ h397.size := Nat.le_trans Zs396 E397.1
  have Kc397 : Keep h0 h397 [] := Kc396.ext E397
  have F397_bounds : Fld Z h397 b397 "com/example/otito/otito/chain/CodePointSet" "bounds" "[I" .null := D397 (Or.inr (own_w hw 72 rfl)) (ty := (.array .int)) (by decide)
  refine own_pre (fun t k => st397 t k) ?_
  refine own_pre (A := (T397.setTop (mkF m 127 (own_l134 ax ad387 b390 pn nn qq395 px395 py395) [(.int (4 : Int32)), (.ref b390), (.ref b397), (.ref b397)]))) ?_ ?_
  · intro t k
    refine XS.dup X397.here hx rfl (hb hby d7_124) rfl rfl ?_
    refine XS.aloadN X397.here hx rfl (hb hby d7_125) rfl rfl ?_
    refine XS.iloadN X397.here hx rfl (hb hby d7_126) rfl ?_
    exact k
  obtain ⟨_, _, ⟨T398, L398, k398, n398⟩, -, X398, ⟨Lc398, hQ398, l398, y398, z398⟩, st398⟩ := Jvm.LawKit.callS X397 hx (y := (⟨"java/util/Arrays", "copyOf", "([II)[I"⟩ : MethodName)) hown (mvT hZ (own_w hw 64 rfl)) (mvT hZ (own_w hw 65 rfl)) (mvT hZ (own_w hw 39 rfl)) (mvT hZ (own_w hw 66 rfl)) (by decide) (backOf (W := 2) (rm13_g l Z a0 hw [] b390 (4 : Int32) k390 ((2 : Int32) * pn) [(.int plof), (.int plol), (.int phif), (.int phil)] h397 n0 Zs397 Vb395_397 Q390_397 hz2 (by decide) (by decide)) hZ (own_w hw 66 rfl) (own_w hw 39 rfl) (by decide) (by decide)) (g := (mkF m 127 (own_l134 ax ad387 b390 pn nn qq395 px395 py395) [(.int (4 : Int32)), (.ref b390), (.ref b397), (.ref b397)])) rfl (by rw [hml]; rfl) (argsL := [(.ref b390), (.int (4 : Int32))]) (rest := [(.ref b397), (.ref b397)]) (lenOf own_pd6 rfl) rfl (by show 2 * 0 + _ ≤ _; exact Nat.le_of_eq rfl) (hb hby d7_127) (fun _ _ => ⟨rfl, e397, (by decide : 3 + 1 ≤ _), (by decide : 37 + 18 ≤ _)⟩)
  dsimp only [Pt.U, Pt.locs, Pt.cells, Pt.slots] at X398 l398 y398 z398 st398 hQ398
  replace y398 : _ = 4 := y398
  replace z398 : _ = 55 := z398
  subst y398 z398
  obtain ⟨Nq398, ad398, kq398, rfl, gq398, zz398, Vq398, Eq398, Kq398⟩ := hQ398
  have N398 := own_frl l398 N395 Nq398
  refine own_pre (fun t k => st398 t k) ?_
  have ne_b397_ad398 : b397 ≠ ad398 := Nat.ne_of_lt (Nat.lt_of_lt_of_le A397.lt zz398)
  have A397_398 := A397.keep Kq398
  have F397_bounds_398 := F397_bounds.keep Kq398 nin0
  have Zs398 : n0 ≤ T398.heap.size := Nat.le_trans Zs397 Kq398.1
  have Kc398 : Keep h0 T398.heap [] := Kc397.trans Kq398 all0
  have Vq398' : Arv Z T398.heap ad398 kq398 .int (4 : Int32) [(.int plof), (.int plol), (.int phif), (.int phil)] (.int (0 : Int32)) := Vq398
  obtain ⟨_, _, ⟨T399, L399, k399, n399⟩, -, X399, ⟨Lc399, hQ399, l399, y399, z399⟩, st399⟩ := X398.specialBackNest hx (y := (⟨"com/example/otito/otito/chain/CodePointSet", "<init>", "([I)V"⟩ : MethodName)) rfl hown (mvNM hZ (own_w hw 67 rfl)) (mvT hZ (own_w hw 68 rfl)) (mvT hZ (own_w hw 69 rfl)) (by decide) (backOf (W := 1) (rm14 l Z a0 hw [] b397 ad398 T398.heap n0 Zs398 A397_398 F397_bounds_398 gn_b397) hZ (own_w hw 69 rfl) (own_w hw 63 rfl) (by decide) (by decide)) (g := (mkF m 130 (own_l134 ax ad387 b390 pn nn qq395 px395 py395) [(.ref ad398), (.ref b397), (.ref b397)])) rfl (by rw [hml]; rfl) (Steps.refl _) (a := b397) (argsL := [(.ref ad398)]) (rest := [(.ref b397)]) (lenOf own_pd7 rfl) rfl (by show 2 * 0 + _ ≤ _; exact Nat.le_of_eq rfl) (hb hby d7_130) (fun _ _ => ⟨rfl, rfl, (by decide : 4 + 0 ≤ _), (by decide : 55 + 0 ≤ _)⟩)
  dsimp only [Pt.U, Pt.locs, Pt.cells, Pt.slots] at X399 l399 y399 z399 st399 hQ399
  replace y399 : _ = 4 := y399
  replace z399 : _ = 55 := z399
  subst y399 z399
  obtain ⟨rfl, Nq399, Kq399, Fb399⟩ := hQ399
  have N399 := own_frl l399 N398 Nq399
  refine own_pre (fun t k => st399.trans k) ?_
  have A397_399 := A397_398.keep Kq399
  have Vq398'_399 := Vq398'.keep Kq399 (ninS ne_b397_ad398.symm nin0)
  have Kc399 : Keep h0 T399.heap [] := Kc398.trans Kq399 (allS (Or.inr sz_b397) all0)
  obtain ⟨fs, hr, hrun, hended, hW, hsame⟩ := X399.leave (hlocks := BodyLoose.notSynchronized Bd) (v := some (.ref b397)) (fun h => by rw [Bd.returns] at h; cases h)
  refine ⟨_, _, retOut X399 hx Bd.returns rfl (Or.inr (Or.inr (Or.inr (Or.inr ⟨rfl, rfl, rfl⟩)))) (hb hby d7_133) hr, hrun, hended, _, _, rfl, ?_, ⟨_, rfl⟩, hW, hsame.mono (by decide) (by decide)⟩
  show own_Q7_D Z ax ar kr pw wl pn vs nn np qlo plof plol qhi phif phil h0 n0 _ T399.heap _
  exact ⟨N399, b397, ad398, kq398, rfl, Fb399, Vq398'_399, A397_399, Kc399⟩
theorem own_one : (1 : Int32).toInt = 1 := by decide
theorem own_add1 (x : Int32) (h : 0 ≤ x.toInt ∧ x.toInt < 1114112) : (x + (1 : Int32)).toInt = x.toInt + 1 := by
  have h1 := c_iadd x (1 : Int32)
  have r := rng32 (x + (1 : Int32))
  rw [own_one] at h1
  omega
theorem own_nlt1 (f l : Int32) (h : 0 ≤ f.toInt ∧ f.toInt ≤ l.toInt ∧ l.toInt < 1114112) : ¬ (l + (1 : Int32)) < f := by
  rw [Int32.lt_iff_toInt_lt, own_add1 l (by omega)]; omega
theorem own_nlt2 (a f l : Int32) (ha : 0 ≤ a.toInt ∧ a.toInt < 1114112) (h : 0 ≤ f.toInt ∧ f.toInt ≤ l.toInt ∧ l.toInt < 1114112) : ¬ ((own_max a l) + (1 : Int32)) < f := by
  have m := own_maxT a l
  rw [Int32.lt_iff_toInt_lt, own_add1 (own_max a l) (by omega)]; omega
theorem own_inn_iff (q f l : Int32) : own_inn q f l = (0 : Int32) ↔ ¬ (f.toInt ≤ q.toInt ∧ q.toInt ≤ l.toInt) := by
  have d : ¬ (1 : Int32) = 0 := by decide
  simp only [own_inn, Int32.lt_iff_toInt_lt]
  repeat' split
  all_goals first | (simp only [d, true_iff, false_iff, iff_false, iff_true]; omega) | (constructor <;> intro hh <;> first | rfl | omega | (exact absurd hh d))
theorem own_ct0_eq (q : Int32) : own_ct0 q = (0 : Int32) := by first | rfl | (simp only [own_ct0]; done) | (unfold own_ct0; repeat' split <;> first | rfl | (exfalso; simp_all))
theorem own_ct2_eq (q f l : Int32) : own_ct2 q f l = (if f.toInt ≤ q.toInt ∧ q.toInt ≤ l.toInt then (1 : Int32) else 0) := by
  simp only [own_ct2, Int32.lt_iff_toInt_lt]
  repeat' split
  all_goals first | rfl | omega | (exfalso; omega)
theorem own_ct4_eq (q f l g u : Int32) (h1 : f.toInt ≤ l.toInt) (h2 : l.toInt < g.toInt) (h3 : g.toInt ≤ u.toInt) : own_ct4 q f l g u = (if (f.toInt ≤ q.toInt ∧ q.toInt ≤ l.toInt) ∨ (g.toInt ≤ q.toInt ∧ q.toInt ≤ u.toInt) then (1 : Int32) else 0) := by
  simp only [own_ct4, Int32.lt_iff_toInt_lt]
  repeat' split
  all_goals first | rfl | omega | (exfalso; omega)
theorem own_fin1 (q f l : Int32) : own_ct2 q f l = (if own_inn q f l = (0 : Int32) then (0 : Int32) else 1) := by
  rw [own_ct2_eq]
  by_cases h : f.toInt ≤ q.toInt ∧ q.toInt ≤ l.toInt
  · rw [if_pos h, if_neg (fun z => (own_inn_iff q f l).mp z h)]
  · rw [if_neg h, if_pos ((own_inn_iff q f l).mpr h)]
theorem own_finS (q f l g u : Int32) (e1 : g = f) (e2 : u = l) : own_ct2 q f l = (if own_inn q f l = (0 : Int32) ∧ own_inn q g u = (0 : Int32) then (0 : Int32) else 1) := by
  subst e1 e2
  rw [own_fin1]; simp only [and_self]
theorem own_finO (q f l g u : Int32) (hA : 0 ≤ f.toInt ∧ f.toInt ≤ l.toInt ∧ l.toInt < 1114112) (hB : 0 ≤ g.toInt ∧ g.toInt ≤ u.toInt ∧ u.toInt < 1114112) (ho : f.toInt ≤ g.toInt) (hv : ¬ (l + (1 : Int32)) < g) : own_ct2 q f (own_max l u) = (if own_inn q f l = (0 : Int32) ∧ own_inn q g u = (0 : Int32) then (0 : Int32) else 1) := by
  rw [own_ct2_eq]; simp only [own_inn_iff]
  have m := own_maxT l u
  rw [Int32.lt_iff_toInt_lt, own_add1 l (by omega)] at hv
  by_cases h : f.toInt ≤ q.toInt ∧ q.toInt ≤ (own_max l u).toInt
  · rw [if_pos h, if_neg (by omega)]
  · rw [if_neg h, if_pos (by omega)]
theorem own_finD (q f l g u : Int32) (hA : 0 ≤ f.toInt ∧ f.toInt ≤ l.toInt ∧ l.toInt < 1114112) (hB : 0 ≤ g.toInt ∧ g.toInt ≤ u.toInt ∧ u.toInt < 1114112) (hv : (l + (1 : Int32)) < g) : own_ct4 q f l g u = (if own_inn q f l = (0 : Int32) ∧ own_inn q g u = (0 : Int32) then (0 : Int32) else 1) := by
  rw [Int32.lt_iff_toInt_lt, own_add1 l (by omega)] at hv
  rw [own_ct4_eq q f l g u (by omega) (by omega) (by omega)]; simp only [own_inn_iff]
  by_cases h : (f.toInt ≤ q.toInt ∧ q.toInt ≤ l.toInt) ∨ (g.toInt ≤ q.toInt ∧ q.toInt ≤ u.toInt)
  · rw [if_pos h, if_neg (by omega)]
  · rw [if_neg h, if_pos (by omega)]
theorem own_cp_r (x : Int32) : 0 ≤ (own_cp x).toInt ∧ (own_cp x).toInt < 1114112 := by
  have h1 := (c_and x (2147483647 : Int32) (by decide)).1
  have h := (c_irem (x &&& (2147483647 : Int32)) (1114112 : Int32) 1114112 (by decide)).1 h1
  show 0 ≤ ((x &&& (2147483647 : Int32)) % (1114112 : Int32)).toInt ∧ ((x &&& (2147483647 : Int32)) % (1114112 : Int32)).toInt < 1114112
  rw [h]
  exact ⟨Int.emod_nonneg _ (by omega), Int.emod_lt_of_pos _ (by omega)⟩
theorem own_mm (x y : Int32) (hx : 0 ≤ x.toInt ∧ x.toInt < 1114112) (hy : 0 ≤ y.toInt ∧ y.toInt < 1114112) : 0 ≤ (own_min x y).toInt ∧ (own_min x y).toInt ≤ (own_max x y).toInt ∧ (own_max x y).toInt < 1114112 := by
  simp only [own_min, own_max, Int32.lt_iff_toInt_lt]
  repeat' split
  all_goals omega
theorem own_n10 (x : Int32) : ∃ n : Nat, n ≤ 9 ∧ ((x &&& (2147483647 : Int32)) % (10 : Int32)).toInt = n := by
  have h1 := (c_and x (2147483647 : Int32) (by decide)).1
  have h := (c_irem (x &&& (2147483647 : Int32)) (10 : Int32) 10 (by decide)).1 h1
  have h2 := Int.emod_nonneg ((x &&& (2147483647 : Int32)).toInt) (b := 10) (by omega)
  have h3 := Int.emod_lt_of_pos ((x &&& (2147483647 : Int32)).toInt) (b := 10) (by omega)
  exact ⟨((x &&& (2147483647 : Int32)).toInt % 10).toNat, by omega, by rw [h]; omega⟩
theorem own_n (x : Int32) : ((x &&& (2147483647 : Int32)) % (10 : Int32)) = (0 : Int32) ∨ ((x &&& (2147483647 : Int32)) % (10 : Int32)) = (1 : Int32) ∨ ((x &&& (2147483647 : Int32)) % (10 : Int32)) = (2 : Int32) ∨ ((x &&& (2147483647 : Int32)) % (10 : Int32)) = (3 : Int32) ∨ ((x &&& (2147483647 : Int32)) % (10 : Int32)) = (4 : Int32) ∨ ((x &&& (2147483647 : Int32)) % (10 : Int32)) = (5 : Int32) ∨ ((x &&& (2147483647 : Int32)) % (10 : Int32)) = (6 : Int32) ∨ ((x &&& (2147483647 : Int32)) % (10 : Int32)) = (7 : Int32) ∨ ((x &&& (2147483647 : Int32)) % (10 : Int32)) = (8 : Int32) ∨ ((x &&& (2147483647 : Int32)) % (10 : Int32)) = (9 : Int32) := by
  obtain ⟨n, h, e⟩ := own_n10 x
  simp only [← Int32.toInt_inj, e]
  have e0 : (0 : Int32).toInt = 0 := by decide
  have e1 : (1 : Int32).toInt = 1 := by decide
  have e2 : (2 : Int32).toInt = 2 := by decide
  have e3 : (3 : Int32).toInt = 3 := by decide
  have e4 : (4 : Int32).toInt = 4 := by decide
  have e5 : (5 : Int32).toInt = 5 := by decide
  have e6 : (6 : Int32).toInt = 6 := by decide
  have e7 : (7 : Int32).toInt = 7 := by decide
  have e8 : (8 : Int32).toInt = 8 := by decide
  have e9 : (9 : Int32).toInt = 9 := by decide
  rw [e0, e1, e2, e3, e4, e5, e6, e7, e8, e9]
  omega
theorem own_nat64 (x : Int64) (h : 0 ≤ x.toInt) : (x.toBitVec.toNat : Int) = x.toInt := by
  have l := x.toBitVec.isLt
  have h' : 0 ≤ x.toBitVec.toInt := h
  show (x.toBitVec.toNat : Int) = x.toBitVec.toInt
  rw [BitVec.toInt_eq_toNat_cond] at h' ⊢
  split at h' <;> split <;> omega
theorem own_pkn (f l : Int32) (hf : 0 ≤ f.toInt) (hl : 0 ≤ l.toInt) (hf2 : f.toInt < 1114112) : (((f.toInt64) <<< ((32 : Int32) &&& 0x3f).toInt64) ||| (l.toInt64)).toBitVec.toNat = f.toInt.toNat * 4294967296 + l.toInt.toNat := by
  have e : ((32 : Int32) &&& 0x3f).toInt64 = (32 : Int64) := by decide
  have nf := own_nat64 f.toInt64 (by rw [Int32.toInt_toInt64]; exact hf)
  have nl := own_nat64 l.toInt64 (by rw [Int32.toInt_toInt64]; exact hl)
  rw [Int32.toInt_toInt64] at nf nl
  have rl := rng32 l
  rw [e, Int64.toBitVec_or, BitVec.toNat_or, Int64.toBitVec_shiftLeft]
  have e2 : ((32 : Int64).toBitVec.smod 64) = (32 : BitVec 64) := by decide
  rw [e2]
  have e3 : (f.toInt64.toBitVec <<< (32 : BitVec 64)).toNat = f.toInt.toNat <<< 32 := by
    show (f.toInt64.toBitVec <<< (32 : BitVec 64).toNat).toNat = _
    rw [BitVec.toNat_shiftLeft]
    have e4 : (32 : BitVec 64).toNat = 32 := by decide
    have e5 : f.toInt64.toBitVec.toNat = f.toInt.toNat := by omega
    rw [e4, e5, Nat.shiftLeft_eq]
    omega
  have e6 : l.toInt64.toBitVec.toNat = l.toInt.toNat := by omega
  rw [e3, e6, ← Nat.shiftLeft_add_eq_or_of_lt (by omega), Nat.shiftLeft_eq]
theorem own_pk (f l : Int32) (hf : 0 ≤ f.toInt) (hl : 0 ≤ l.toInt) (hf2 : f.toInt < 1114112) : (((f.toInt64) <<< ((32 : Int32) &&& 0x3f).toInt64) ||| (l.toInt64)).toInt = f.toInt * 4294967296 + l.toInt := by
  have h := own_pkn f l hf hl hf2
  have rl := rng32 l
  show (((f.toInt64) <<< ((32 : Int32) &&& 0x3f).toInt64) ||| (l.toInt64)).toBitVec.toInt = _
  rw [BitVec.toInt_eq_toNat_cond, h]
  split <;> omega
theorem own_pkl (f l : Int32) (hf : 0 ≤ f.toInt) (hl : 0 ≤ l.toInt) (hf2 : f.toInt < 1114112) (q : Int64) (h : q = (((f.toInt64) <<< ((32 : Int32) &&& 0x3f).toInt64) ||| (l.toInt64))) : (q.toInt32) = l := by
  have h1 := c_l2i q
  have h2 := own_pk f l hf hl hf2
  rw [← h] at h2
  have rl := rng32 l
  have rq := rng32 q.toInt32
  apply Int32.toInt_inj.mp
  omega
theorem own_pku (f l : Int32) (hf : 0 ≤ f.toInt) (hl : 0 ≤ l.toInt) (hf2 : f.toInt < 1114112) (q : Int64) (h : q = (((f.toInt64) <<< ((32 : Int32) &&& 0x3f).toInt64) ||| (l.toInt64))) : (((q.toUInt64 >>> ((32 : Int32) &&& 0x3f).toInt64.toUInt64).toInt64).toInt32) = f := by
  have hn := own_pkn f l hf hl hf2
  rw [← h] at hn
  have rl := rng32 l
  have e : ((32 : Int32) &&& 0x3f).toInt64.toUInt64 = (32 : UInt64) := by decide
  rw [e]
  have n1 : (q.toUInt64 >>> (32 : UInt64)).toNat = f.toInt.toNat := by
    rw [UInt64.toNat_shiftRight]
    have e7 : q.toUInt64.toNat = q.toBitVec.toNat := rfl
    have e8 : (32 : UInt64).toNat % 64 = 32 := by decide
    rw [e7, hn, e8, Nat.shiftRight_eq_div_pow]
    omega
  have n2 : ((q.toUInt64 >>> (32 : UInt64)).toInt64).toInt = f.toInt := by
    show ((q.toUInt64 >>> (32 : UInt64)).toBitVec).toInt = _
    rw [BitVec.toInt_eq_toNat_cond]
    have e9 : (q.toUInt64 >>> (32 : UInt64)).toBitVec.toNat = (q.toUInt64 >>> (32 : UInt64)).toNat := rfl
    rw [e9, n1]
    split <;> omega
  have h1 := c_l2i (q.toUInt64 >>> (32 : UInt64)).toInt64
  have r1 := rng32 ((q.toUInt64 >>> (32 : UInt64)).toInt64).toInt32
  apply Int32.toInt_inj.mp
  omega
theorem own_tri (x y : Int64) : x < y ∨ x = y ∨ y < x := by
  simp only [Int64.lt_iff_toInt_lt, ← Int64.toInt_inj]; omega
theorem own_pn0 : plainName "com/example/otito/otito/chain/CodePointSetAddPinLaw" = true := by first | (simp [plainName, overriddenIn]; done) | decide +kernel
theorem own_ef0 (m : MethodId) (x0 : Int32) (x1 : Int32) (x2 : Int32) (x3 : Int32) (x4 : Int32) (x5 : Int32) : entryFrame m #[(.int x0), (.int x1), (.int x2), (.int x3), (.int x4), (.int x5)] maxLocals = mkF m 0 #[.val (.int x0), .val (.int x1), .val (.int x2), .val (.int x3), .val (.int x4), .val (.int x5), .unset, .unset, .unset, .unset, .unset, .unset, .unset, .unset, .unset] [] := by first | (simp [entryFrame, mkF, argsToLocals, Value.category, maxLocals]; done) | rfl
abbrev own_l141 (x0 : Int32) (x1 : Int32) (x2 : Int32) (x3 : Int32) (x4 : Int32) (x5 : Int32) (x6 : Int32) (x7 : Int32) (x8 : Int32) (x9 : Int32) (x10 : Int32) (x11 : Int32) (x12 : Addr) : Array Slot := #[.val (.int x0), .val (.int x1), .val (.int x2), .val (.int x3), .val (.int x4), .val (.int x5), .val (.int x6), .val (.int x7), .val (.int x8), .val (.int x9), .val (.int x10), .val (.int x11), .val (.ref x12), .unset, .unset]
abbrev own_l142 (x0 : Int32) (x1 : Int32) (x2 : Int32) (x3 : Int32) (x4 : Int32) (x5 : Int32) (x6 : Int32) (x7 : Int32) (x8 : Int32) (x9 : Int32) (x10 : Int32) (x11 : Int32) (x12 : Addr) (x13 : Addr) : Array Slot := #[.val (.int x0), .val (.int x1), .val (.int x2), .val (.int x3), .val (.int x4), .val (.int x5), .val (.int x6), .val (.int x7), .val (.int x8), .val (.int x9), .val (.int x10), .val (.int x11), .val (.ref x12), .val (.ref x13), .unset]
abbrev own_l143 (x0 : Int32) (x1 : Int32) (x2 : Int32) (x3 : Int32) (x4 : Int32) (x5 : Int32) (x6 : Int32) (x7 : Int32) (x8 : Int32) (x9 : Int32) (x10 : Int32) (x11 : Int32) (x12 : Addr) (x13 : Addr) : Array Slot := #[.val (.int x0), .val (.int x1), .val (.int x2), .val (.int x3), .val (.int x4), .val (.int x5), .val (.int x6), .val (.int x7), .val (.int x8), .val (.int x9), .val (.int x10), .val (.int x11), .val (.ref x12), .val (.ref x13), .val (.int (0 : Int32))]
set_option maxRecDepth 65536 in
set_option maxHeartbeats 40000000 in
theorem own_su_z {p : Program} {l : Launch} {e : Env} {s : State} {m : MethodId} {args : Array Value} {below : List Frame} {meth : Method} {c : Code} {T0 : State} {locs : List Loc} {Z : State} {n0 : Nat} {h0 : Heap} {C : State → Outcome → Prop} {a0 : Array Value} {cells slots : Nat} {bld ar : Addr} {kr : ClassId} {pw pn pq p0 p1 p2 p3 p4 p5 pf0 pl0 pf1 pl1 : Int32} {wl vs : List Value} {nn np : Nat} {qx qy : Int64} (hw : ∀ d ∈ tables_1, d.before a0 Z = true) (X0 : Stand p l e room_1 s m args below meth c T0 locs cells slots) (hx : p.tables.exec = Jvm.exec) (hZ : Z.Warmed39 s.vm) (hown : s.vm.findClass "com/example/otito/otito/chain/CodePointSetAddPinLaw" = some m.cls) (hml : c.maxLocals = 15) (hby : c.code = code) (e0 : T0.heap = h0) (N0 : Fr n0 locs) (Z0 : n0 ≤ h0.size) (hcl : cells ≤ 20) (hsl : slots ≤ 130) (Ea : Exa Z h0 bld "com/example/otito/otito/chain/CodePointSet$Builder") (Fr_ : Fld Z h0 bld "com/example/otito/otito/chain/CodePointSet$Builder" "ranges" "[J" (.ref ar)) (Fc : Fld Z h0 bld "com/example/otito/otito/chain/CodePointSet$Builder" "count" "I" (.int pn)) (Vr : Arv Z h0 ar kr .long pw wl (.long (0 : Int64))) (Er : Exa Z h0 ar "[J") (hpn : pn = Int32.ofNat nn) (hnn : nn ≤ 9) (hzn : ¬ pw < pn) (HS : own_HS l Z n0 pn wl vs) (hn1 : pn < (1 : Int32)) (hn2 : pn < (2 : Int32)) (h0n : nn = 0)
    (K : ∀ (T' : State) (h' : Heap) (locs' : List Loc) (ac' : Addr) (ex' : Int32), Stand p l e room_1 s m args below meth c T' locs' 24 192 → T'.heap = h' → Fr n0 locs' → ∃ s₂ o, Steps p.tables e below (T'.setTop (mkF m 284 #[.val (.int p0), .val (.int p1), .val (.int p2), .val (.int p3), .val (.int p4), .val (.int p5), .val (.int pf0), .val (.int pl0), .val (.int pf1), .val (.int pl1), .val (.int pq), .val (.int pn), .val (.ref bld), .val (.ref ac'), .val (.int ex')] [(.int (1 : Int32))])) s₂ ∧ C s₂ o) :
    ∃ s₂ o, Steps p.tables e below (T0.setTop (mkF m 217 (own_l141 p0 p1 p2 p3 p4 p5 pf0 pl0 pf1 pl1 pq pn bld) [])) s₂ ∧ C s₂ o := by
  refine own_pre (A := (T0.setTop (mkF m 219 (own_l141 p0 p1 p2 p3 p4 p5 pf0 pl0 pf1 pl1 pq pn bld) [(.ref bld)]))) ?_ ?_
  · intro t k
    refine XS.aload X0.here hx rfl (hb hby at_217) rfl rfl ?_
    exact k
  obtain ⟨cq400, kq400, q400a, q400b, q400c⟩ := isOf hZ e0 Ea
  obtain ⟨_, _, ⟨T400, L400, k400, n400⟩, -, X400, ⟨Lc400, hQ400, l400, y400, z400⟩, st400⟩ := X0.virtualBack hx (y := (⟨"com/example/otito/otito/chain/CodePointSet$Builder", "build", "()Lcom/example/otito/otito/chain/CodePointSet;"⟩ : MethodName)) (z := (⟨"com/example/otito/otito/chain/CodePointSet$Builder", "build", "()Lcom/example/otito/otito/chain/CodePointSet;"⟩ : MethodName)) hown (mvT hZ (own_w hw 32 rfl)) (mvT hZ (own_w hw 33 rfl)) (notFace_of_selects (args := #[]) (mvT hZ (own_w hw 35 rfl))) (mvT hZ (own_w hw 35 rfl)) (mvT hZ (own_w hw 34 rfl)) (by decide) (backOf (W := 0) (rm7_z l Z a0 hw [] bld ar kr pw wl pn vs nn np qx pf0 pl0 qy pf1 pl1 h0 n0 Z0 Ea Fr_ Fc Vr Er hpn hnn hzn HS h0n) hZ (own_w hw 36 rfl) (own_w hw 15 rfl) (by decide) (by decide)) q400a q400c (g := (mkF m 219 (own_l141 p0 p1 p2 p3 p4 p5 pf0 pl0 pf1 pl1 pq pn bld) [(.ref bld)])) rfl (by rw [hml]; rfl) (Steps.refl _) (argsL := []) (rest := []) (lenOf own_pd8 rfl) rfl (by show 2 * 0 + _ ≤ _; exact Nat.le_of_eq rfl) (hb hby at_219) (fun _ _ => ⟨rfl, e0, (Nat.le_trans (Nat.add_le_add_right hcl _) (by decide)), (Nat.le_trans (Nat.add_le_add_right hsl _) (by decide))⟩)
  dsimp only [Pt.U, Pt.locs, Pt.cells, Pt.slots] at X400 l400 y400 z400 st400 hQ400
  subst y400 z400
  obtain ⟨Nq400, ac400, ab400, kq400, rfl, Fq400, Vq400, Eq400, Kq400⟩ := hQ400
  have N400 := own_frl l400 N0 Nq400
  refine own_pre (fun t k => st400.trans k) ?_
  have Zs400 : n0 ≤ T400.heap.size := Nat.le_trans Z0 Kq400.1
  have Kc400 : Keep h0 T400.heap [] := (Keep.refl h0 []).trans Kq400 all0
  refine own_pre (A := (T400.setTop (mkF m 271 (own_l143 p0 p1 p2 p3 p4 p5 pf0 pl0 pf1 pl1 pq pn bld ac400) [(.int pq), (.ref ac400)]))) ?_ ?_
  · intro t k
    refine XS.astore X400.here hx rfl (hb hby at_222) rfl rfl (l' := (own_l142 p0 p1 p2 p3 p4 p5 pf0 pl0 pf1 pl1 pq pn bld ac400)) rfl ?_
    refine XS.iload X400.here hx rfl (hb hby at_224) rfl ?_
    refine XS.iconst X400.here hx rfl (hb hby at_226) ?_
    refine XS.icmpYes X400.here hx rfl (pc0 := 227) (pc' := 242) rfl (hb hby at_227) rfl (tlt hn1).1 (by decide) (by decide) ?_
    refine XS.iload X400.here hx rfl (hb hby at_242) rfl ?_
    refine XS.iconst X400.here hx rfl (hb hby at_244) ?_
    refine XS.icmpYes X400.here hx rfl (pc0 := 245) (pc' := 264) rfl (hb hby at_245) rfl (tlt hn2).1 (by decide) (by decide) ?_
    refine XS.iconst X400.here hx rfl (hb hby at_264) ?_
    refine XS.istore X400.here hx rfl (hb hby at_265) rfl (l' := (own_l143 p0 p1 p2 p3 p4 p5 pf0 pl0 pf1 pl1 pq pn bld ac400)) rfl ?_
    refine XS.aload X400.here hx rfl (hb hby at_267) rfl rfl ?_
    refine XS.iload X400.here hx rfl (hb hby at_269) rfl ?_
    exact k
  obtain ⟨cq401, kq401, q401a, q401b, q401c⟩ := isOf hZ rfl Eq400
  obtain ⟨_, _, ⟨T401, L401, k401, n401⟩, -, X401, ⟨Lc401, hQ401, l401, y401, z401⟩, st401⟩ := X400.virtualBack hx (y := (⟨"com/example/otito/otito/chain/CodePointSet", "contains", "(I)Z"⟩ : MethodName)) (z := (⟨"com/example/otito/otito/chain/CodePointSet", "contains", "(I)Z"⟩ : MethodName)) hown (mvT hZ (own_w hw 76 rfl)) (mvT hZ (own_w hw 77 rfl)) (notFace_of_selects (args := #[]) (mvT hZ (own_w hw 79 rfl))) (mvT hZ (own_w hw 79 rfl)) (mvT hZ (own_w hw 78 rfl)) (by decide) (backOf (W := 0) (rm16_0 l Z a0 hw [] ac400 pq ab400 kq400 T400.heap n0 Zs400 Fq400 Vq400) hZ (own_w hw 80 rfl) (own_w hw 63 rfl) (by decide) (by decide)) q401a q401c (g := (mkF m 271 (own_l143 p0 p1 p2 p3 p4 p5 pf0 pl0 pf1 pl1 pq pn bld ac400) [(.int pq), (.ref ac400)])) rfl (by rw [hml]; rfl) (Steps.refl _) (argsL := [(.int pq)]) (rest := []) (lenOf own_pd9 rfl) rfl (by show 2 * 0 + _ ≤ _; exact Nat.le_of_eq rfl) (hb hby at_271) (fun _ _ => ⟨rfl, rfl, (Nat.le_trans (Nat.add_le_add_right (Nat.add_le_add_right hcl _) _) (by decide)), (Nat.le_trans (Nat.add_le_add_right (Nat.add_le_add_right hsl _) _) (by decide))⟩)
  dsimp only [Pt.U, Pt.locs, Pt.cells, Pt.slots] at X401 l401 y401 z401 st401 hQ401
  subst y401 z401
  obtain ⟨rfl, Nq401, eq401⟩ := hQ401
  have N401 := own_frl l401 N400 Nq401
  refine own_pre (fun t k => st401.trans k) ?_
  refine own_pre (A := (T401.setTop (mkF m 276 (own_l143 p0 p1 p2 p3 p4 p5 pf0 pl0 pf1 pl1 pq pn bld ac400) [(.int (0 : Int32)), (.int (own_ct0 pq))]))) ?_ ?_
  · intro t k
    refine XS.iload X401.here hx rfl (hb hby at_274) rfl ?_
    exact k
  have hz : (own_ct0 pq) = (0 : Int32) := own_ct0_eq pq
  refine own_pre (A := (T401.setTop (mkF m 284 (own_l143 p0 p1 p2 p3 p4 p5 pf0 pl0 pf1 pl1 pq pn bld ac400) [(.int (1 : Int32))]))) ?_ ?_
  · intro t k
    refine XS.icmpNo X401.here hx rfl (hb hby at_276) rfl (teq hz).2 ?_
    refine XS.iconst X401.here hx rfl (hb hby at_279) ?_
    refine XS.goto X401.here hx rfl (pc0 := 280) (pc' := 284) rfl (hb hby at_280) (by decide) (by decide) ?_
    exact k
  exact K _ _ _ _ _ (X401.more (Nat.le_trans (Nat.add_le_add_right (Nat.add_le_add_right hcl _) _) (by decide)) (Nat.le_trans (Nat.add_le_add_right (Nat.add_le_add_right hsl _) _) (by decide))) eq401 N401
abbrev own_l144 (x0 : Int32) (x1 : Int32) (x2 : Int32) (x3 : Int32) (x4 : Int32) (x5 : Int32) (x6 : Int32) (x7 : Int32) (x8 : Int32) (x9 : Int32) (x10 : Int32) (x11 : Int32) (x12 : Addr) (x13 : Addr) : Array Slot := #[.val (.int x0), .val (.int x1), .val (.int x2), .val (.int x3), .val (.int x4), .val (.int x5), .val (.int x6), .val (.int x7), .val (.int x8), .val (.int x9), .val (.int x10), .val (.int x11), .val (.ref x12), .val (.ref x13), .val (.int (1 : Int32))]
set_option maxRecDepth 65536 in
set_option maxHeartbeats 40000000 in
theorem own_su_1 {p : Program} {l : Launch} {e : Env} {s : State} {m : MethodId} {args : Array Value} {below : List Frame} {meth : Method} {c : Code} {T0 : State} {locs : List Loc} {Z : State} {n0 : Nat} {h0 : Heap} {C : State → Outcome → Prop} {a0 : Array Value} {cells slots : Nat} {bld ar : Addr} {kr : ClassId} {pw pn pq p0 p1 p2 p3 p4 p5 pf0 pl0 pf1 pl1 : Int32} {wl vs : List Value} {nn np : Nat} {qx qy : Int64} (hw : ∀ d ∈ tables_1, d.before a0 Z = true) (X0 : Stand p l e room_1 s m args below meth c T0 locs cells slots) (hx : p.tables.exec = Jvm.exec) (hZ : Z.Warmed39 s.vm) (hown : s.vm.findClass "com/example/otito/otito/chain/CodePointSetAddPinLaw" = some m.cls) (hml : c.maxLocals = 15) (hby : c.code = code) (e0 : T0.heap = h0) (N0 : Fr n0 locs) (Z0 : n0 ≤ h0.size) (hcl : cells ≤ 20) (hsl : slots ≤ 130) (Ea : Exa Z h0 bld "com/example/otito/otito/chain/CodePointSet$Builder") (Fr_ : Fld Z h0 bld "com/example/otito/otito/chain/CodePointSet$Builder" "ranges" "[J" (.ref ar)) (Fc : Fld Z h0 bld "com/example/otito/otito/chain/CodePointSet$Builder" "count" "I" (.int pn)) (Vr : Arv Z h0 ar kr .long pw wl (.long (0 : Int64))) (Er : Exa Z h0 ar "[J") (hpn : pn = Int32.ofNat nn) (hnn : nn ≤ 9) (hzn : ¬ pw < pn) (HS : own_HS l Z n0 pn wl vs) (hn1 : ¬ pn < (1 : Int32)) (hn2 : pn < (2 : Int32)) (h1n : 1 ≤ nn) (hvl : ∀ x, x < nn → vs.getD x (.long (0 : Int64)) = .long qx) (hux : (((qx.toUInt64 >>> ((32 : Int32) &&& 0x3f).toInt64.toUInt64).toInt64).toInt32) = pf0) (hlx : (qx.toInt32) = pl0) (hA : 0 ≤ pf0.toInt ∧ pf0.toInt ≤ pl0.toInt ∧ pl0.toInt < 1114112)
    (K : ∀ (T' : State) (h' : Heap) (locs' : List Loc) (ac' : Addr) (ex' : Int32), Stand p l e room_1 s m args below meth c T' locs' 24 192 → T'.heap = h' → Fr n0 locs' → ∃ s₂ o, Steps p.tables e below (T'.setTop (mkF m 284 #[.val (.int p0), .val (.int p1), .val (.int p2), .val (.int p3), .val (.int p4), .val (.int p5), .val (.int pf0), .val (.int pl0), .val (.int pf1), .val (.int pl1), .val (.int pq), .val (.int pn), .val (.ref bld), .val (.ref ac'), .val (.int ex')] [(.int (1 : Int32))])) s₂ ∧ C s₂ o) :
    ∃ s₂ o, Steps p.tables e below (T0.setTop (mkF m 217 (own_l141 p0 p1 p2 p3 p4 p5 pf0 pl0 pf1 pl1 pq pn bld) [])) s₂ ∧ C s₂ o := by
  refine own_pre (A := (T0.setTop (mkF m 219 (own_l141 p0 p1 p2 p3 p4 p5 pf0 pl0 pf1 pl1 pq pn bld) [(.ref bld)]))) ?_ ?_
  · intro t k
    refine XS.aload X0.here hx rfl (hb hby at_217) rfl rfl ?_
    exact k
  obtain ⟨cq402, kq402, q402a, q402b, q402c⟩ := isOf hZ e0 Ea
  obtain ⟨_, _, ⟨T402, L402, k402, n402⟩, -, X402, ⟨Lc402, hQ402, l402, y402, z402⟩, st402⟩ := X0.virtualBack hx (y := (⟨"com/example/otito/otito/chain/CodePointSet$Builder", "build", "()Lcom/example/otito/otito/chain/CodePointSet;"⟩ : MethodName)) (z := (⟨"com/example/otito/otito/chain/CodePointSet$Builder", "build", "()Lcom/example/otito/otito/chain/CodePointSet;"⟩ : MethodName)) hown (mvT hZ (own_w hw 32 rfl)) (mvT hZ (own_w hw 33 rfl)) (notFace_of_selects (args := #[]) (mvT hZ (own_w hw 35 rfl))) (mvT hZ (own_w hw 35 rfl)) (mvT hZ (own_w hw 34 rfl)) (by decide) (backOf (W := 0) (rm7_S l Z a0 hw [] bld ar kr pw wl pn vs nn np qx pf0 pl0 qx pf0 pl0 h0 n0 Z0 Ea Fr_ Fc Vr Er hpn hnn hzn HS h1n hvl hux hlx (own_nlt1 _ _ hA)) hZ (own_w hw 36 rfl) (own_w hw 15 rfl) (by decide) (by decide)) q402a q402c (g := (mkF m 219 (own_l141 p0 p1 p2 p3 p4 p5 pf0 pl0 pf1 pl1 pq pn bld) [(.ref bld)])) rfl (by rw [hml]; rfl) (Steps.refl _) (argsL := []) (rest := []) (lenOf own_pd8 rfl) rfl (by show 2 * 0 + _ ≤ _; exact Nat.le_of_eq rfl) (hb hby at_219) (fun _ _ => ⟨rfl, e0, (Nat.le_trans (Nat.add_le_add_right hcl _) (by decide)), (Nat.le_trans (Nat.add_le_add_right hsl _) (by decide))⟩)
  dsimp only [Pt.U, Pt.locs, Pt.cells, Pt.slots] at X402 l402 y402 z402 st402 hQ402
  subst y402 z402
  obtain ⟨Nq402, ac402, ab402, kq402, rfl, Fq402, Vq402, Eq402, Kq402⟩ := hQ402
  have N402 := own_frl l402 N0 Nq402
  refine own_pre (fun t k => st402.trans k) ?_
  have Zs402 : n0 ≤ T402.heap.size := Nat.le_trans Z0 Kq402.1
  have Kc402 : Keep h0 T402.heap [] := (Keep.refl h0 []).trans Kq402 all0
  refine own_pre (A := (T402.setTop (mkF m 236 (own_l142 p0 p1 p2 p3 p4 p5 pf0 pl0 pf1 pl1 pq pn bld ac402) [(.int pl0), (.int pf0), (.int pq)]))) ?_ ?_
  · intro t k
    refine XS.astore X402.here hx rfl (hb hby at_222) rfl rfl (l' := (own_l142 p0 p1 p2 p3 p4 p5 pf0 pl0 pf1 pl1 pq pn bld ac402)) rfl ?_
    refine XS.iload X402.here hx rfl (hb hby at_224) rfl ?_
    refine XS.iconst X402.here hx rfl (hb hby at_226) ?_
    refine XS.icmpNo X402.here hx rfl (hb hby at_227) rfl (flt hn1).1 ?_
    refine XS.iload X402.here hx rfl (hb hby at_230) rfl ?_
    refine XS.iload X402.here hx rfl (hb hby at_232) rfl ?_
    refine XS.iload X402.here hx rfl (hb hby at_234) rfl ?_
    exact k
  obtain ⟨_, _, ⟨T403, L403, k403, n403⟩, -, X403, ⟨Lc403, hQ403, l403, y403, z403⟩, st403⟩ := Jvm.LawKit.callS X402 hx (y := (⟨"com/example/otito/otito/chain/CodePointSetAddPinLaw", "in", "(III)Z"⟩ : MethodName)) hown (mvT hZ (own_w hw 73 rfl)) (mvT hZ (own_w hw 74 rfl)) (mvT hZ (own_w hw 2 rfl)) (mvT hZ (own_w hw 75 rfl)) (by decide) (backOf (W := 0) (rm15 l Z a0 hw [] pq pf0 pl0 T402.heap n0 Zs402) hZ (own_w hw 75 rfl) (own_w hw 2 rfl) (by decide) (by decide)) (g := (mkF m 236 (own_l142 p0 p1 p2 p3 p4 p5 pf0 pl0 pf1 pl1 pq pn bld ac402) [(.int pl0), (.int pf0), (.int pq)])) rfl (by rw [hml]; rfl) (argsL := [(.int pq), (.int pf0), (.int pl0)]) (rest := []) (lenOf own_pd10 rfl) rfl (by show 2 * 0 + _ ≤ _; exact Nat.le_of_eq rfl) (hb hby at_236) (fun _ _ => ⟨rfl, rfl, (Nat.le_trans (Nat.add_le_add_right (Nat.add_le_add_right hcl _) _) (by decide)), (Nat.le_trans (Nat.add_le_add_right (Nat.add_le_add_right hsl _) _) (by decide))⟩)
  dsimp only [Pt.U, Pt.locs, Pt.cells, Pt.slots] at X403 l403 y403 z403 st403 hQ403
  subst y403 z403
  obtain ⟨rfl, Nq403, eq403⟩ := hQ403
  have N403 := own_frl l403 N402 Nq403
  refine own_pre (fun t k => st403 t k) ?_
  by_cases hc404 : (own_inn pq pf0 pl0) = (0 : Int32)
  · skip
    refine own_pre (A := (T403.setTop (mkF m 242 (own_l142 p0 p1 p2 p3 p4 p5 pf0 pl0 pf1 pl1 pq pn bld ac402) []))) ?_ ?_
    · intro t k
      refine XS.ifNo X403.here hx rfl (hb hby at_239) rfl ((if0 _ _).trans (teq hc404).2) ?_
      exact k
    refine own_pre (A := (T403.setTop (mkF m 271 (own_l143 p0 p1 p2 p3 p4 p5 pf0 pl0 pf1 pl1 pq pn bld ac402) [(.int pq), (.ref ac402)]))) ?_ ?_
    · intro t k
      refine XS.iload X403.here hx rfl (hb hby at_242) rfl ?_
      refine XS.iconst X403.here hx rfl (hb hby at_244) ?_
      refine XS.icmpYes X403.here hx rfl (pc0 := 245) (pc' := 264) rfl (hb hby at_245) rfl (tlt hn2).1 (by decide) (by decide) ?_
      refine XS.iconst X403.here hx rfl (hb hby at_264) ?_
      refine XS.istore X403.here hx rfl (hb hby at_265) rfl (l' := (own_l143 p0 p1 p2 p3 p4 p5 pf0 pl0 pf1 pl1 pq pn bld ac402)) rfl ?_
      refine XS.aload X403.here hx rfl (hb hby at_267) rfl rfl ?_
      refine XS.iload X403.here hx rfl (hb hby at_269) rfl ?_
      exact k
    obtain ⟨cq405, kq405, q405a, q405b, q405c⟩ := isOf hZ eq403 Eq402
    obtain ⟨_, _, ⟨T405, L405, k405, n405⟩, -, X405, ⟨Lc405, hQ405, l405, y405, z405⟩, st405⟩ := X403.virtualBack hx (y := (⟨"com/example/otito/otito/chain/CodePointSet", "contains", "(I)Z"⟩ : MethodName)) (z := (⟨"com/example/otito/otito/chain/CodePointSet", "contains", "(I)Z"⟩ : MethodName)) hown (mvT hZ (own_w hw 76 rfl)) (mvT hZ (own_w hw 77 rfl)) (notFace_of_selects (args := #[]) (mvT hZ (own_w hw 79 rfl))) (mvT hZ (own_w hw 79 rfl)) (mvT hZ (own_w hw 78 rfl)) (by decide) (backOf (W := 0) (rm16_2 l Z a0 hw [] ac402 pq ab402 kq402 pf0 pl0 T402.heap n0 Zs402 Fq402 Vq402) hZ (own_w hw 80 rfl) (own_w hw 63 rfl) (by decide) (by decide)) q405a q405c (g := (mkF m 271 (own_l143 p0 p1 p2 p3 p4 p5 pf0 pl0 pf1 pl1 pq pn bld ac402) [(.int pq), (.ref ac402)])) rfl (by rw [hml]; rfl) (Steps.refl _) (argsL := [(.int pq)]) (rest := []) (lenOf own_pd9 rfl) rfl (by show 2 * 0 + _ ≤ _; exact Nat.le_of_eq rfl) (hb hby at_271) (fun _ _ => ⟨rfl, eq403, (Nat.le_trans (Nat.add_le_add_right (Nat.add_le_add_right (Nat.add_le_add_right hcl _) _) _) (by decide)), (Nat.le_trans (Nat.add_le_add_right (Nat.add_le_add_right (Nat.add_le_add_right hsl _) _) _) (by decide))⟩)
    dsimp only [Pt.U, Pt.locs, Pt.cells, Pt.slots] at X405 l405 y405 z405 st405 hQ405
    subst y405 z405
    obtain ⟨rfl, Nq405, eq405⟩ := hQ405
    have N405 := own_frl l405 N403 Nq405
    refine own_pre (fun t k => st405.trans k) ?_
    refine own_pre (A := (T405.setTop (mkF m 276 (own_l143 p0 p1 p2 p3 p4 p5 pf0 pl0 pf1 pl1 pq pn bld ac402) [(.int (0 : Int32)), (.int (own_ct2 pq pf0 pl0))]))) ?_ ?_
    · intro t k
      refine XS.iload X405.here hx rfl (hb hby at_274) rfl ?_
      exact k
    have hz : (own_ct2 pq pf0 pl0) = (0 : Int32) := (own_fin1 pq pf0 pl0).trans (if_pos hc404)
    refine own_pre (A := (T405.setTop (mkF m 284 (own_l143 p0 p1 p2 p3 p4 p5 pf0 pl0 pf1 pl1 pq pn bld ac402) [(.int (1 : Int32))]))) ?_ ?_
    · intro t k
      refine XS.icmpNo X405.here hx rfl (hb hby at_276) rfl (teq hz).2 ?_
      refine XS.iconst X405.here hx rfl (hb hby at_279) ?_
      refine XS.goto X405.here hx rfl (pc0 := 280) (pc' := 284) rfl (hb hby at_280) (by decide) (by decide) ?_
      exact k
    exact K _ _ _ _ _ (X405.more (Nat.le_trans (Nat.add_le_add_right (Nat.add_le_add_right (Nat.add_le_add_right hcl _) _) _) (by decide)) (Nat.le_trans (Nat.add_le_add_right (Nat.add_le_add_right (Nat.add_le_add_right hsl _) _) _) (by decide))) eq405 N405
  · skip
    refine own_pre (A := (T403.setTop (mkF m 260 (own_l142 p0 p1 p2 p3 p4 p5 pf0 pl0 pf1 pl1 pq pn bld ac402) []))) ?_ ?_
    · intro t k
      refine XS.ifYes X403.here hx rfl (pc0 := 239) (pc' := 260) rfl (hb hby at_239) rfl ((if0 _ _).trans (feq hc404).2) (by decide) (by decide) ?_
      exact k
    refine own_pre (A := (T403.setTop (mkF m 271 (own_l144 p0 p1 p2 p3 p4 p5 pf0 pl0 pf1 pl1 pq pn bld ac402) [(.int pq), (.ref ac402)]))) ?_ ?_
    · intro t k
      refine XS.iconst X403.here hx rfl (hb hby at_260) ?_
      refine XS.goto X403.here hx rfl (pc0 := 261) (pc' := 265) rfl (hb hby at_261) (by decide) (by decide) ?_
      refine XS.istore X403.here hx rfl (hb hby at_265) rfl (l' := (own_l144 p0 p1 p2 p3 p4 p5 pf0 pl0 pf1 pl1 pq pn bld ac402)) rfl ?_
      refine XS.aload X403.here hx rfl (hb hby at_267) rfl rfl ?_
      refine XS.iload X403.here hx rfl (hb hby at_269) rfl ?_
      exact k
    obtain ⟨cq406, kq406, q406a, q406b, q406c⟩ := isOf hZ eq403 Eq402
    obtain ⟨_, _, ⟨T406, L406, k406, n406⟩, -, X406, ⟨Lc406, hQ406, l406, y406, z406⟩, st406⟩ := X403.virtualBack hx (y := (⟨"com/example/otito/otito/chain/CodePointSet", "contains", "(I)Z"⟩ : MethodName)) (z := (⟨"com/example/otito/otito/chain/CodePointSet", "contains", "(I)Z"⟩ : MethodName)) hown (mvT hZ (own_w hw 76 rfl)) (mvT hZ (own_w hw 77 rfl)) (notFace_of_selects (args := #[]) (mvT hZ (own_w hw 79 rfl))) (mvT hZ (own_w hw 79 rfl)) (mvT hZ (own_w hw 78 rfl)) (by decide) (backOf (W := 0) (rm16_2 l Z a0 hw [] ac402 pq ab402 kq402 pf0 pl0 T402.heap n0 Zs402 Fq402 Vq402) hZ (own_w hw 80 rfl) (own_w hw 63 rfl) (by decide) (by decide)) q406a q406c (g := (mkF m 271 (own_l144 p0 p1 p2 p3 p4 p5 pf0 pl0 pf1 pl1 pq pn bld ac402) [(.int pq), (.ref ac402)])) rfl (by rw [hml]; rfl) (Steps.refl _) (argsL := [(.int pq)]) (rest := []) (lenOf own_pd9 rfl) rfl (by show 2 * 0 + _ ≤ _; exact Nat.le_of_eq rfl) (hb hby at_271) (fun _ _ => ⟨rfl, eq403, (Nat.le_trans (Nat.add_le_add_right (Nat.add_le_add_right (Nat.add_le_add_right hcl _) _) _) (by decide)), (Nat.le_trans (Nat.add_le_add_right (Nat.add_le_add_right (Nat.add_le_add_right hsl _) _) _) (by decide))⟩)
    dsimp only [Pt.U, Pt.locs, Pt.cells, Pt.slots] at X406 l406 y406 z406 st406 hQ406
    subst y406 z406
    obtain ⟨rfl, Nq406, eq406⟩ := hQ406
    have N406 := own_frl l406 N403 Nq406
    refine own_pre (fun t k => st406.trans k) ?_
    refine own_pre (A := (T406.setTop (mkF m 276 (own_l144 p0 p1 p2 p3 p4 p5 pf0 pl0 pf1 pl1 pq pn bld ac402) [(.int (1 : Int32)), (.int (own_ct2 pq pf0 pl0))]))) ?_ ?_
    · intro t k
      refine XS.iload X406.here hx rfl (hb hby at_274) rfl ?_
      exact k
    have hz : (own_ct2 pq pf0 pl0) = (1 : Int32) := (own_fin1 pq pf0 pl0).trans (if_neg hc404)
    refine own_pre (A := (T406.setTop (mkF m 284 (own_l144 p0 p1 p2 p3 p4 p5 pf0 pl0 pf1 pl1 pq pn bld ac402) [(.int (1 : Int32))]))) ?_ ?_
    · intro t k
      refine XS.icmpNo X406.here hx rfl (hb hby at_276) rfl (teq hz).2 ?_
      refine XS.iconst X406.here hx rfl (hb hby at_279) ?_
      refine XS.goto X406.here hx rfl (pc0 := 280) (pc' := 284) rfl (hb hby at_280) (by decide) (by decide) ?_
      exact k
    exact K _ _ _ _ _ (X406.more (Nat.le_trans (Nat.add_le_add_right (Nat.add_le_add_right (Nat.add_le_add_right hcl _) _) _) (by decide)) (Nat.le_trans (Nat.add_le_add_right (Nat.add_le_add_right (Nat.add_le_add_right hsl _) _) _) (by decide))) eq406 N406
set_option maxRecDepth 65536 in
set_option maxHeartbeats 40000000 in
theorem own_su_S {p : Program} {l : Launch} {e : Env} {s : State} {m : MethodId} {args : Array Value} {below : List Frame} {meth : Method} {c : Code} {T0 : State} {locs : List Loc} {Z : State} {n0 : Nat} {h0 : Heap} {C : State → Outcome → Prop} {a0 : Array Value} {cells slots : Nat} {bld ar : Addr} {kr : ClassId} {pw pn pq p0 p1 p2 p3 p4 p5 pf0 pl0 pf1 pl1 : Int32} {wl vs : List Value} {nn np : Nat} {qx qy : Int64} (hw : ∀ d ∈ tables_1, d.before a0 Z = true) (X0 : Stand p l e room_1 s m args below meth c T0 locs cells slots) (hx : p.tables.exec = Jvm.exec) (hZ : Z.Warmed39 s.vm) (hown : s.vm.findClass "com/example/otito/otito/chain/CodePointSetAddPinLaw" = some m.cls) (hml : c.maxLocals = 15) (hby : c.code = code) (e0 : T0.heap = h0) (N0 : Fr n0 locs) (Z0 : n0 ≤ h0.size) (hcl : cells ≤ 20) (hsl : slots ≤ 130) (Ea : Exa Z h0 bld "com/example/otito/otito/chain/CodePointSet$Builder") (Fr_ : Fld Z h0 bld "com/example/otito/otito/chain/CodePointSet$Builder" "ranges" "[J" (.ref ar)) (Fc : Fld Z h0 bld "com/example/otito/otito/chain/CodePointSet$Builder" "count" "I" (.int pn)) (Vr : Arv Z h0 ar kr .long pw wl (.long (0 : Int64))) (Er : Exa Z h0 ar "[J") (hpn : pn = Int32.ofNat nn) (hnn : nn ≤ 9) (hzn : ¬ pw < pn) (HS : own_HS l Z n0 pn wl vs) (hn1 : ¬ pn < (1 : Int32)) (hn2 : ¬ pn < (2 : Int32)) (h1n : 1 ≤ nn) (hvl : ∀ x, x < nn → vs.getD x (.long (0 : Int64)) = .long qx) (hux : (((qx.toUInt64 >>> ((32 : Int32) &&& 0x3f).toInt64.toUInt64).toInt64).toInt32) = pf0) (hlx : (qx.toInt32) = pl0) (hA : 0 ≤ pf0.toInt ∧ pf0.toInt ≤ pl0.toInt ∧ pl0.toInt < 1114112) (he1 : pf1 = pf0) (he2 : pl1 = pl0)
    (K : ∀ (T' : State) (h' : Heap) (locs' : List Loc) (ac' : Addr) (ex' : Int32), Stand p l e room_1 s m args below meth c T' locs' 24 192 → T'.heap = h' → Fr n0 locs' → ∃ s₂ o, Steps p.tables e below (T'.setTop (mkF m 284 #[.val (.int p0), .val (.int p1), .val (.int p2), .val (.int p3), .val (.int p4), .val (.int p5), .val (.int pf0), .val (.int pl0), .val (.int pf1), .val (.int pl1), .val (.int pq), .val (.int pn), .val (.ref bld), .val (.ref ac'), .val (.int ex')] [(.int (1 : Int32))])) s₂ ∧ C s₂ o) :
    ∃ s₂ o, Steps p.tables e below (T0.setTop (mkF m 217 (own_l141 p0 p1 p2 p3 p4 p5 pf0 pl0 pf1 pl1 pq pn bld) [])) s₂ ∧ C s₂ o := by
  refine own_pre (A := (T0.setTop (mkF m 219 (own_l141 p0 p1 p2 p3 p4 p5 pf0 pl0 pf1 pl1 pq pn bld) [(.ref bld)]))) ?_ ?_
  · intro t k
    refine XS.aload X0.here hx rfl (hb hby at_217) rfl rfl ?_
    exact k
  obtain ⟨cq407, kq407, q407a, q407b, q407c⟩ := isOf hZ e0 Ea
  obtain ⟨_, _, ⟨T407, L407, k407, n407⟩, -, X407, ⟨Lc407, hQ407, l407, y407, z407⟩, st407⟩ := X0.virtualBack hx (y := (⟨"com/example/otito/otito/chain/CodePointSet$Builder", "build", "()Lcom/example/otito/otito/chain/CodePointSet;"⟩ : MethodName)) (z := (⟨"com/example/otito/otito/chain/CodePointSet$Builder", "build", "()Lcom/example/otito/otito/chain/CodePointSet;"⟩ : MethodName)) hown (mvT hZ (own_w hw 32 rfl)) (mvT hZ (own_w hw 33 rfl)) (notFace_of_selects (args := #[]) (mvT hZ (own_w hw 35 rfl))) (mvT hZ (own_w hw 35 rfl)) (mvT hZ (own_w hw 34 rfl)) (by decide) (backOf (W := 0) (rm7_S l Z a0 hw [] bld ar kr pw wl pn vs nn np qx pf0 pl0 qx pf0 pl0 h0 n0 Z0 Ea Fr_ Fc Vr Er hpn hnn hzn HS h1n hvl hux hlx (own_nlt1 _ _ hA)) hZ (own_w hw 36 rfl) (own_w hw 15 rfl) (by decide) (by decide)) q407a q407c (g := (mkF m 219 (own_l141 p0 p1 p2 p3 p4 p5 pf0 pl0 pf1 pl1 pq pn bld) [(.ref bld)])) rfl (by rw [hml]; rfl) (Steps.refl _) (argsL := []) (rest := []) (lenOf own_pd8 rfl) rfl (by show 2 * 0 + _ ≤ _; exact Nat.le_of_eq rfl) (hb hby at_219) (fun _ _ => ⟨rfl, e0, (Nat.le_trans (Nat.add_le_add_right hcl _) (by decide)), (Nat.le_trans (Nat.add_le_add_right hsl _) (by decide))⟩)
  dsimp only [Pt.U, Pt.locs, Pt.cells, Pt.slots] at X407 l407 y407 z407 st407 hQ407
  subst y407 z407
  obtain ⟨Nq407, ac407, ab407, kq407, rfl, Fq407, Vq407, Eq407, Kq407⟩ := hQ407
  have N407 := own_frl l407 N0 Nq407
  refine own_pre (fun t k => st407.trans k) ?_
  have Zs407 : n0 ≤ T407.heap.size := Nat.le_trans Z0 Kq407.1
  have Kc407 : Keep h0 T407.heap [] := (Keep.refl h0 []).trans Kq407 all0
  refine own_pre (A := (T407.setTop (mkF m 236 (own_l142 p0 p1 p2 p3 p4 p5 pf0 pl0 pf1 pl1 pq pn bld ac407) [(.int pl0), (.int pf0), (.int pq)]))) ?_ ?_
  · intro t k
    refine XS.astore X407.here hx rfl (hb hby at_222) rfl rfl (l' := (own_l142 p0 p1 p2 p3 p4 p5 pf0 pl0 pf1 pl1 pq pn bld ac407)) rfl ?_
    refine XS.iload X407.here hx rfl (hb hby at_224) rfl ?_
    refine XS.iconst X407.here hx rfl (hb hby at_226) ?_
    refine XS.icmpNo X407.here hx rfl (hb hby at_227) rfl (flt hn1).1 ?_
    refine XS.iload X407.here hx rfl (hb hby at_230) rfl ?_
    refine XS.iload X407.here hx rfl (hb hby at_232) rfl ?_
    refine XS.iload X407.here hx rfl (hb hby at_234) rfl ?_
    exact k
  obtain ⟨_, _, ⟨T408, L408, k408, n408⟩, -, X408, ⟨Lc408, hQ408, l408, y408, z408⟩, st408⟩ := Jvm.LawKit.callS X407 hx (y := (⟨"com/example/otito/otito/chain/CodePointSetAddPinLaw", "in", "(III)Z"⟩ : MethodName)) hown (mvT hZ (own_w hw 73 rfl)) (mvT hZ (own_w hw 74 rfl)) (mvT hZ (own_w hw 2 rfl)) (mvT hZ (own_w hw 75 rfl)) (by decide) (backOf (W := 0) (rm15 l Z a0 hw [] pq pf0 pl0 T407.heap n0 Zs407) hZ (own_w hw 75 rfl) (own_w hw 2 rfl) (by decide) (by decide)) (g := (mkF m 236 (own_l142 p0 p1 p2 p3 p4 p5 pf0 pl0 pf1 pl1 pq pn bld ac407) [(.int pl0), (.int pf0), (.int pq)])) rfl (by rw [hml]; rfl) (argsL := [(.int pq), (.int pf0), (.int pl0)]) (rest := []) (lenOf own_pd10 rfl) rfl (by show 2 * 0 + _ ≤ _; exact Nat.le_of_eq rfl) (hb hby at_236) (fun _ _ => ⟨rfl, rfl, (Nat.le_trans (Nat.add_le_add_right (Nat.add_le_add_right hcl _) _) (by decide)), (Nat.le_trans (Nat.add_le_add_right (Nat.add_le_add_right hsl _) _) (by decide))⟩)
  dsimp only [Pt.U, Pt.locs, Pt.cells, Pt.slots] at X408 l408 y408 z408 st408 hQ408
  subst y408 z408
  obtain ⟨rfl, Nq408, eq408⟩ := hQ408
  have N408 := own_frl l408 N407 Nq408
  refine own_pre (fun t k => st408 t k) ?_
  by_cases hc409 : (own_inn pq pf0 pl0) = (0 : Int32)
  · skip
    refine own_pre (A := (T408.setTop (mkF m 242 (own_l142 p0 p1 p2 p3 p4 p5 pf0 pl0 pf1 pl1 pq pn bld ac407) []))) ?_ ?_
    · intro t k
      refine XS.ifNo X408.here hx rfl (hb hby at_239) rfl ((if0 _ _).trans (teq hc409).2) ?_
      exact k
    refine own_pre (A := (T408.setTop (mkF m 254 (own_l142 p0 p1 p2 p3 p4 p5 pf0 pl0 pf1 pl1 pq pn bld ac407) [(.int pl1), (.int pf1), (.int pq)]))) ?_ ?_
    · intro t k
      refine XS.iload X408.here hx rfl (hb hby at_242) rfl ?_
      refine XS.iconst X408.here hx rfl (hb hby at_244) ?_
      refine XS.icmpNo X408.here hx rfl (hb hby at_245) rfl (flt hn2).1 ?_
      refine XS.iload X408.here hx rfl (hb hby at_248) rfl ?_
      refine XS.iload X408.here hx rfl (hb hby at_250) rfl ?_
      refine XS.iload X408.here hx rfl (hb hby at_252) rfl ?_
      exact k
    obtain ⟨_, _, ⟨T410, L410, k410, n410⟩, -, X410, ⟨Lc410, hQ410, l410, y410, z410⟩, st410⟩ := Jvm.LawKit.callS X408 hx (y := (⟨"com/example/otito/otito/chain/CodePointSetAddPinLaw", "in", "(III)Z"⟩ : MethodName)) hown (mvT hZ (own_w hw 73 rfl)) (mvT hZ (own_w hw 74 rfl)) (mvT hZ (own_w hw 2 rfl)) (mvT hZ (own_w hw 75 rfl)) (by decide) (backOf (W := 0) (rm15 l Z a0 hw [] pq pf1 pl1 T407.heap n0 Zs407) hZ (own_w hw 75 rfl) (own_w hw 2 rfl) (by decide) (by decide)) (g := (mkF m 254 (own_l142 p0 p1 p2 p3 p4 p5 pf0 pl0 pf1 pl1 pq pn bld ac407) [(.int pl1), (.int pf1), (.int pq)])) rfl (by rw [hml]; rfl) (argsL := [(.int pq), (.int pf1), (.int pl1)]) (rest := []) (lenOf own_pd10 rfl) rfl (by show 2 * 0 + _ ≤ _; exact Nat.le_of_eq rfl) (hb hby at_254) (fun _ _ => ⟨rfl, eq408, (Nat.le_trans (Nat.add_le_add_right (Nat.add_le_add_right (Nat.add_le_add_right hcl _) _) _) (by decide)), (Nat.le_trans (Nat.add_le_add_right (Nat.add_le_add_right (Nat.add_le_add_right hsl _) _) _) (by decide))⟩)
    dsimp only [Pt.U, Pt.locs, Pt.cells, Pt.slots] at X410 l410 y410 z410 st410 hQ410
    subst y410 z410
    obtain ⟨rfl, Nq410, eq410⟩ := hQ410
    have N410 := own_frl l410 N408 Nq410
    refine own_pre (fun t k => st410 t k) ?_
    by_cases hc411 : (own_inn pq pf1 pl1) = (0 : Int32)
    · skip
      refine own_pre (A := (T410.setTop (mkF m 264 (own_l142 p0 p1 p2 p3 p4 p5 pf0 pl0 pf1 pl1 pq pn bld ac407) []))) ?_ ?_
      · intro t k
        refine XS.ifYes X410.here hx rfl (pc0 := 257) (pc' := 264) rfl (hb hby at_257) rfl ((if0 _ _).trans (teq hc411).1) (by decide) (by decide) ?_
        exact k
      refine own_pre (A := (T410.setTop (mkF m 271 (own_l143 p0 p1 p2 p3 p4 p5 pf0 pl0 pf1 pl1 pq pn bld ac407) [(.int pq), (.ref ac407)]))) ?_ ?_
      · intro t k
        refine XS.iconst X410.here hx rfl (hb hby at_264) ?_
        refine XS.istore X410.here hx rfl (hb hby at_265) rfl (l' := (own_l143 p0 p1 p2 p3 p4 p5 pf0 pl0 pf1 pl1 pq pn bld ac407)) rfl ?_
        refine XS.aload X410.here hx rfl (hb hby at_267) rfl rfl ?_
        refine XS.iload X410.here hx rfl (hb hby at_269) rfl ?_
        exact k
      obtain ⟨cq412, kq412, q412a, q412b, q412c⟩ := isOf hZ eq410 Eq407
      obtain ⟨_, _, ⟨T412, L412, k412, n412⟩, -, X412, ⟨Lc412, hQ412, l412, y412, z412⟩, st412⟩ := X410.virtualBack hx (y := (⟨"com/example/otito/otito/chain/CodePointSet", "contains", "(I)Z"⟩ : MethodName)) (z := (⟨"com/example/otito/otito/chain/CodePointSet", "contains", "(I)Z"⟩ : MethodName)) hown (mvT hZ (own_w hw 76 rfl)) (mvT hZ (own_w hw 77 rfl)) (notFace_of_selects (args := #[]) (mvT hZ (own_w hw 79 rfl))) (mvT hZ (own_w hw 79 rfl)) (mvT hZ (own_w hw 78 rfl)) (by decide) (backOf (W := 0) (rm16_2 l Z a0 hw [] ac407 pq ab407 kq407 pf0 pl0 T407.heap n0 Zs407 Fq407 Vq407) hZ (own_w hw 80 rfl) (own_w hw 63 rfl) (by decide) (by decide)) q412a q412c (g := (mkF m 271 (own_l143 p0 p1 p2 p3 p4 p5 pf0 pl0 pf1 pl1 pq pn bld ac407) [(.int pq), (.ref ac407)])) rfl (by rw [hml]; rfl) (Steps.refl _) (argsL := [(.int pq)]) (rest := []) (lenOf own_pd9 rfl) rfl (by show 2 * 0 + _ ≤ _; exact Nat.le_of_eq rfl) (hb hby at_271) (fun _ _ => ⟨rfl, eq410, (Nat.le_trans (Nat.add_le_add_right (Nat.add_le_add_right (Nat.add_le_add_right (Nat.add_le_add_right hcl _) _) _) _) (by decide)), (Nat.le_trans (Nat.add_le_add_right (Nat.add_le_add_right (Nat.add_le_add_right (Nat.add_le_add_right hsl _) _) _) _) (by decide))⟩)
      dsimp only [Pt.U, Pt.locs, Pt.cells, Pt.slots] at X412 l412 y412 z412 st412 hQ412
      subst y412 z412
      obtain ⟨rfl, Nq412, eq412⟩ := hQ412
      have N412 := own_frl l412 N410 Nq412
      refine own_pre (fun t k => st412.trans k) ?_
      refine own_pre (A := (T412.setTop (mkF m 276 (own_l143 p0 p1 p2 p3 p4 p5 pf0 pl0 pf1 pl1 pq pn bld ac407) [(.int (0 : Int32)), (.int (own_ct2 pq pf0 pl0))]))) ?_ ?_
      · intro t k
        refine XS.iload X412.here hx rfl (hb hby at_274) rfl ?_
        exact k
      have hz : (own_ct2 pq pf0 pl0) = (0 : Int32) := (own_finS pq pf0 pl0 pf1 pl1 he1 he2).trans (if_pos ⟨hc409, hc411⟩)
      refine own_pre (A := (T412.setTop (mkF m 284 (own_l143 p0 p1 p2 p3 p4 p5 pf0 pl0 pf1 pl1 pq pn bld ac407) [(.int (1 : Int32))]))) ?_ ?_
      · intro t k
        refine XS.icmpNo X412.here hx rfl (hb hby at_276) rfl (teq hz).2 ?_
        refine XS.iconst X412.here hx rfl (hb hby at_279) ?_
        refine XS.goto X412.here hx rfl (pc0 := 280) (pc' := 284) rfl (hb hby at_280) (by decide) (by decide) ?_
        exact k
      exact K _ _ _ _ _ (X412.more (Nat.le_trans (Nat.add_le_add_right (Nat.add_le_add_right (Nat.add_le_add_right (Nat.add_le_add_right hcl _) _) _) _) (by decide)) (Nat.le_trans (Nat.add_le_add_right (Nat.add_le_add_right (Nat.add_le_add_right (Nat.add_le_add_right hsl _) _) _) _) (by decide))) eq412 N412
    · skip
      refine own_pre (A := (T410.setTop (mkF m 260 (own_l142 p0 p1 p2 p3 p4 p5 pf0 pl0 pf1 pl1 pq pn bld ac407) []))) ?_ ?_
      · intro t k
        refine XS.ifNo X410.here hx rfl (hb hby at_257) rfl ((if0 _ _).trans (feq hc411).1) ?_
        exact k
      refine own_pre (A := (T410.setTop (mkF m 271 (own_l144 p0 p1 p2 p3 p4 p5 pf0 pl0 pf1 pl1 pq pn bld ac407) [(.int pq), (.ref ac407)]))) ?_ ?_
      · intro t k
        refine XS.iconst X410.here hx rfl (hb hby at_260) ?_
        refine XS.goto X410.here hx rfl (pc0 := 261) (pc' := 265) rfl (hb hby at_261) (by decide) (by decide) ?_
        refine XS.istore X410.here hx rfl (hb hby at_265) rfl (l' := (own_l144 p0 p1 p2 p3 p4 p5 pf0 pl0 pf1 pl1 pq pn bld ac407)) rfl ?_
        refine XS.aload X410.here hx rfl (hb hby at_267) rfl rfl ?_
        refine XS.iload X410.here hx rfl (hb hby at_269) rfl ?_
        exact k
      obtain ⟨cq413, kq413, q413a, q413b, q413c⟩ := isOf hZ eq410 Eq407
      obtain ⟨_, _, ⟨T413, L413, k413, n413⟩, -, X413, ⟨Lc413, hQ413, l413, y413, z413⟩, st413⟩ := X410.virtualBack hx (y := (⟨"com/example/otito/otito/chain/CodePointSet", "contains", "(I)Z"⟩ : MethodName)) (z := (⟨"com/example/otito/otito/chain/CodePointSet", "contains", "(I)Z"⟩ : MethodName)) hown (mvT hZ (own_w hw 76 rfl)) (mvT hZ (own_w hw 77 rfl)) (notFace_of_selects (args := #[]) (mvT hZ (own_w hw 79 rfl))) (mvT hZ (own_w hw 79 rfl)) (mvT hZ (own_w hw 78 rfl)) (by decide) (backOf (W := 0) (rm16_2 l Z a0 hw [] ac407 pq ab407 kq407 pf0 pl0 T407.heap n0 Zs407 Fq407 Vq407) hZ (own_w hw 80 rfl) (own_w hw 63 rfl) (by decide) (by decide)) q413a q413c (g := (mkF m 271 (own_l144 p0 p1 p2 p3 p4 p5 pf0 pl0 pf1 pl1 pq pn bld ac407) [(.int pq), (.ref ac407)])) rfl (by rw [hml]; rfl) (Steps.refl _) (argsL := [(.int pq)]) (rest := []) (lenOf own_pd9 rfl) rfl (by show 2 * 0 + _ ≤ _; exact Nat.le_of_eq rfl) (hb hby at_271) (fun _ _ => ⟨rfl, eq410, (Nat.le_trans (Nat.add_le_add_right (Nat.add_le_add_right (Nat.add_le_add_right (Nat.add_le_add_right hcl _) _) _) _) (by decide)), (Nat.le_trans (Nat.add_le_add_right (Nat.add_le_add_right (Nat.add_le_add_right (Nat.add_le_add_right hsl _) _) _) _) (by decide))⟩)
      dsimp only [Pt.U, Pt.locs, Pt.cells, Pt.slots] at X413 l413 y413 z413 st413 hQ413
      subst y413 z413
      obtain ⟨rfl, Nq413, eq413⟩ := hQ413
      have N413 := own_frl l413 N410 Nq413
      refine own_pre (fun t k => st413.trans k) ?_
      refine own_pre (A := (T413.setTop (mkF m 276 (own_l144 p0 p1 p2 p3 p4 p5 pf0 pl0 pf1 pl1 pq pn bld ac407) [(.int (1 : Int32)), (.int (own_ct2 pq pf0 pl0))]))) ?_ ?_
      · intro t k
        refine XS.iload X413.here hx rfl (hb hby at_274) rfl ?_
        exact k
      have hz : (own_ct2 pq pf0 pl0) = (1 : Int32) := (own_finS pq pf0 pl0 pf1 pl1 he1 he2).trans (if_neg fun z => hc411 z.2)
      refine own_pre (A := (T413.setTop (mkF m 284 (own_l144 p0 p1 p2 p3 p4 p5 pf0 pl0 pf1 pl1 pq pn bld ac407) [(.int (1 : Int32))]))) ?_ ?_
      · intro t k
        refine XS.icmpNo X413.here hx rfl (hb hby at_276) rfl (teq hz).2 ?_
        refine XS.iconst X413.here hx rfl (hb hby at_279) ?_
        refine XS.goto X413.here hx rfl (pc0 := 280) (pc' := 284) rfl (hb hby at_280) (by decide) (by decide) ?_
        exact k
      exact K _ _ _ _ _ (X413.more (Nat.le_trans (Nat.add_le_add_right (Nat.add_le_add_right (Nat.add_le_add_right (Nat.add_le_add_right hcl _) _) _) _) (by decide)) (Nat.le_trans (Nat.add_le_add_right (Nat.add_le_add_right (Nat.add_le_add_right (Nat.add_le_add_right hsl _) _) _) _) (by decide))) eq413 N413
  · skip
    refine own_pre (A := (T408.setTop (mkF m 260 (own_l142 p0 p1 p2 p3 p4 p5 pf0 pl0 pf1 pl1 pq pn bld ac407) []))) ?_ ?_
    · intro t k
      refine XS.ifYes X408.here hx rfl (pc0 := 239) (pc' := 260) rfl (hb hby at_239) rfl ((if0 _ _).trans (feq hc409).2) (by decide) (by decide) ?_
      exact k
    refine own_pre (A := (T408.setTop (mkF m 271 (own_l144 p0 p1 p2 p3 p4 p5 pf0 pl0 pf1 pl1 pq pn bld ac407) [(.int pq), (.ref ac407)]))) ?_ ?_
    · intro t k
      refine XS.iconst X408.here hx rfl (hb hby at_260) ?_
      refine XS.goto X408.here hx rfl (pc0 := 261) (pc' := 265) rfl (hb hby at_261) (by decide) (by decide) ?_
      refine XS.istore X408.here hx rfl (hb hby at_265) rfl (l' := (own_l144 p0 p1 p2 p3 p4 p5 pf0 pl0 pf1 pl1 pq pn bld ac407)) rfl ?_
      refine XS.aload X408.here hx rfl (hb hby at_267) rfl rfl ?_
      refine XS.iload X408.here hx rfl (hb hby at_269) rfl ?_
      exact k
    obtain ⟨cq414, kq414, q414a, q414b, q414c⟩ := isOf hZ eq408 Eq407
    obtain ⟨_, _, ⟨T414, L414, k414, n414⟩, -, X414, ⟨Lc414, hQ414, l414, y414, z414⟩, st414⟩ := X408.virtualBack hx (y := (⟨"com/example/otito/otito/chain/CodePointSet", "contains", "(I)Z"⟩ : MethodName)) (z := (⟨"com/example/otito/otito/chain/CodePointSet", "contains", "(I)Z"⟩ : MethodName)) hown (mvT hZ (own_w hw 76 rfl)) (mvT hZ (own_w hw 77 rfl)) (notFace_of_selects (args := #[]) (mvT hZ (own_w hw 79 rfl))) (mvT hZ (own_w hw 79 rfl)) (mvT hZ (own_w hw 78 rfl)) (by decide) (backOf (W := 0) (rm16_2 l Z a0 hw [] ac407 pq ab407 kq407 pf0 pl0 T407.heap n0 Zs407 Fq407 Vq407) hZ (own_w hw 80 rfl) (own_w hw 63 rfl) (by decide) (by decide)) q414a q414c (g := (mkF m 271 (own_l144 p0 p1 p2 p3 p4 p5 pf0 pl0 pf1 pl1 pq pn bld ac407) [(.int pq), (.ref ac407)])) rfl (by rw [hml]; rfl) (Steps.refl _) (argsL := [(.int pq)]) (rest := []) (lenOf own_pd9 rfl) rfl (by show 2 * 0 + _ ≤ _; exact Nat.le_of_eq rfl) (hb hby at_271) (fun _ _ => ⟨rfl, eq408, (Nat.le_trans (Nat.add_le_add_right (Nat.add_le_add_right (Nat.add_le_add_right hcl _) _) _) (by decide)), (Nat.le_trans (Nat.add_le_add_right (Nat.add_le_add_right (Nat.add_le_add_right hsl _) _) _) (by decide))⟩)
    dsimp only [Pt.U, Pt.locs, Pt.cells, Pt.slots] at X414 l414 y414 z414 st414 hQ414
    subst y414 z414
    obtain ⟨rfl, Nq414, eq414⟩ := hQ414
    have N414 := own_frl l414 N408 Nq414
    refine own_pre (fun t k => st414.trans k) ?_
    refine own_pre (A := (T414.setTop (mkF m 276 (own_l144 p0 p1 p2 p3 p4 p5 pf0 pl0 pf1 pl1 pq pn bld ac407) [(.int (1 : Int32)), (.int (own_ct2 pq pf0 pl0))]))) ?_ ?_
    · intro t k
      refine XS.iload X414.here hx rfl (hb hby at_274) rfl ?_
      exact k
    have hz : (own_ct2 pq pf0 pl0) = (1 : Int32) := (own_finS pq pf0 pl0 pf1 pl1 he1 he2).trans (if_neg fun z => hc409 z.1)
    refine own_pre (A := (T414.setTop (mkF m 284 (own_l144 p0 p1 p2 p3 p4 p5 pf0 pl0 pf1 pl1 pq pn bld ac407) [(.int (1 : Int32))]))) ?_ ?_
    · intro t k
      refine XS.icmpNo X414.here hx rfl (hb hby at_276) rfl (teq hz).2 ?_
      refine XS.iconst X414.here hx rfl (hb hby at_279) ?_
      refine XS.goto X414.here hx rfl (pc0 := 280) (pc' := 284) rfl (hb hby at_280) (by decide) (by decide) ?_
      exact k
    exact K _ _ _ _ _ (X414.more (Nat.le_trans (Nat.add_le_add_right (Nat.add_le_add_right (Nat.add_le_add_right hcl _) _) _) (by decide)) (Nat.le_trans (Nat.add_le_add_right (Nat.add_le_add_right (Nat.add_le_add_right hsl _) _) _) (by decide))) eq414 N414
set_option maxRecDepth 65536 in
set_option maxHeartbeats 40000000 in
theorem own_su_ltO {p : Program} {l : Launch} {e : Env} {s : State} {m : MethodId} {args : Array Value} {below : List Frame} {meth : Method} {c : Code} {T0 : State} {locs : List Loc} {Z : State} {n0 : Nat} {h0 : Heap} {C : State → Outcome → Prop} {a0 : Array Value} {cells slots : Nat} {bld ar : Addr} {kr : ClassId} {pw pn pq p0 p1 p2 p3 p4 p5 pf0 pl0 pf1 pl1 : Int32} {wl vs : List Value} {nn np : Nat} {qx qy : Int64} (hw : ∀ d ∈ tables_1, d.before a0 Z = true) (X0 : Stand p l e room_1 s m args below meth c T0 locs cells slots) (hx : p.tables.exec = Jvm.exec) (hZ : Z.Warmed39 s.vm) (hown : s.vm.findClass "com/example/otito/otito/chain/CodePointSetAddPinLaw" = some m.cls) (hml : c.maxLocals = 15) (hby : c.code = code) (e0 : T0.heap = h0) (N0 : Fr n0 locs) (Z0 : n0 ≤ h0.size) (hcl : cells ≤ 20) (hsl : slots ≤ 130) (Ea : Exa Z h0 bld "com/example/otito/otito/chain/CodePointSet$Builder") (Fr_ : Fld Z h0 bld "com/example/otito/otito/chain/CodePointSet$Builder" "ranges" "[J" (.ref ar)) (Fc : Fld Z h0 bld "com/example/otito/otito/chain/CodePointSet$Builder" "count" "I" (.int pn)) (Vr : Arv Z h0 ar kr .long pw wl (.long (0 : Int64))) (Er : Exa Z h0 ar "[J") (hpn : pn = Int32.ofNat nn) (hnn : nn ≤ 9) (hzn : ¬ pw < pn) (HS : own_HS l Z n0 pn wl vs) (hn1 : ¬ pn < (1 : Int32)) (hn2 : ¬ pn < (2 : Int32)) (h1p : 1 ≤ np) (hpl : np < nn) (hvl : ∀ x, x < np → vs.getD x (.long (0 : Int64)) = .long qx) (hvh : ∀ x, np ≤ x → x < nn → vs.getD x (.long (0 : Int64)) = .long qy) (hux : (((qx.toUInt64 >>> ((32 : Int32) &&& 0x3f).toInt64.toUInt64).toInt64).toInt32) = pf0) (hlx : (qx.toInt32) = pl0) (huy : (((qy.toUInt64 >>> ((32 : Int32) &&& 0x3f).toInt64.toUInt64).toInt64).toInt32) = pf1) (hly : (qy.toInt32) = pl1) (hA : 0 ≤ pf0.toInt ∧ pf0.toInt ≤ pl0.toInt ∧ pl0.toInt < 1114112) (hB : 0 ≤ pf1.toInt ∧ pf1.toInt ≤ pl1.toInt ∧ pl1.toInt < 1114112) (ho : pf0.toInt ≤ pf1.toInt) (hv : ¬ (pl0 + (1 : Int32)) < pf1)
    (K : ∀ (T' : State) (h' : Heap) (locs' : List Loc) (ac' : Addr) (ex' : Int32), Stand p l e room_1 s m args below meth c T' locs' 24 192 → T'.heap = h' → Fr n0 locs' → ∃ s₂ o, Steps p.tables e below (T'.setTop (mkF m 284 #[.val (.int p0), .val (.int p1), .val (.int p2), .val (.int p3), .val (.int p4), .val (.int p5), .val (.int pf0), .val (.int pl0), .val (.int pf1), .val (.int pl1), .val (.int pq), .val (.int pn), .val (.ref bld), .val (.ref ac'), .val (.int ex')] [(.int (1 : Int32))])) s₂ ∧ C s₂ o) :
    ∃ s₂ o, Steps p.tables e below (T0.setTop (mkF m 217 (own_l141 p0 p1 p2 p3 p4 p5 pf0 pl0 pf1 pl1 pq pn bld) [])) s₂ ∧ C s₂ o := by
  refine own_pre (A := (T0.setTop (mkF m 219 (own_l141 p0 p1 p2 p3 p4 p5 pf0 pl0 pf1 pl1 pq pn bld) [(.ref bld)]))) ?_ ?_
  · intro t k
    refine XS.aload X0.here hx rfl (hb hby at_217) rfl rfl ?_
    exact k
  obtain ⟨cq415, kq415, q415a, q415b, q415c⟩ := isOf hZ e0 Ea
  obtain ⟨_, _, ⟨T415, L415, k415, n415⟩, -, X415, ⟨Lc415, hQ415, l415, y415, z415⟩, st415⟩ := X0.virtualBack hx (y := (⟨"com/example/otito/otito/chain/CodePointSet$Builder", "build", "()Lcom/example/otito/otito/chain/CodePointSet;"⟩ : MethodName)) (z := (⟨"com/example/otito/otito/chain/CodePointSet$Builder", "build", "()Lcom/example/otito/otito/chain/CodePointSet;"⟩ : MethodName)) hown (mvT hZ (own_w hw 32 rfl)) (mvT hZ (own_w hw 33 rfl)) (notFace_of_selects (args := #[]) (mvT hZ (own_w hw 35 rfl))) (mvT hZ (own_w hw 35 rfl)) (mvT hZ (own_w hw 34 rfl)) (by decide) (backOf (W := 0) (rm7_O l Z a0 hw [] bld ar kr pw wl pn vs nn np qx pf0 pl0 qy pf1 pl1 h0 n0 Z0 Ea Fr_ Fc Vr Er hpn hnn hzn HS h1p hpl hvl hvh hux hlx huy hly (own_nlt1 _ _ hA) hv (own_nlt2 _ _ _ ⟨by omega, by omega⟩ hB)) hZ (own_w hw 36 rfl) (own_w hw 15 rfl) (by decide) (by decide)) q415a q415c (g := (mkF m 219 (own_l141 p0 p1 p2 p3 p4 p5 pf0 pl0 pf1 pl1 pq pn bld) [(.ref bld)])) rfl (by rw [hml]; rfl) (Steps.refl _) (argsL := []) (rest := []) (lenOf own_pd8 rfl) rfl (by show 2 * 0 + _ ≤ _; exact Nat.le_of_eq rfl) (hb hby at_219) (fun _ _ => ⟨rfl, e0, (Nat.le_trans (Nat.add_le_add_right hcl _) (by decide)), (Nat.le_trans (Nat.add_le_add_right hsl _) (by decide))⟩)
  dsimp only [Pt.U, Pt.locs, Pt.cells, Pt.slots] at X415 l415 y415 z415 st415 hQ415
  subst y415 z415
  obtain ⟨Nq415, ac415, ab415, kq415, rfl, Fq415, Vq415, Eq415, Kq415⟩ := hQ415
  have N415 := own_frl l415 N0 Nq415
  refine own_pre (fun t k => st415.trans k) ?_
  have Zs415 : n0 ≤ T415.heap.size := Nat.le_trans Z0 Kq415.1
  have Kc415 : Keep h0 T415.heap [] := (Keep.refl h0 []).trans Kq415 all0
  refine own_pre (A := (T415.setTop (mkF m 236 (own_l142 p0 p1 p2 p3 p4 p5 pf0 pl0 pf1 pl1 pq pn bld ac415) [(.int pl0), (.int pf0), (.int pq)]))) ?_ ?_
  · intro t k
    refine XS.astore X415.here hx rfl (hb hby at_222) rfl rfl (l' := (own_l142 p0 p1 p2 p3 p4 p5 pf0 pl0 pf1 pl1 pq pn bld ac415)) rfl ?_
    refine XS.iload X415.here hx rfl (hb hby at_224) rfl ?_
    refine XS.iconst X415.here hx rfl (hb hby at_226) ?_
    refine XS.icmpNo X415.here hx rfl (hb hby at_227) rfl (flt hn1).1 ?_
    refine XS.iload X415.here hx rfl (hb hby at_230) rfl ?_
    refine XS.iload X415.here hx rfl (hb hby at_232) rfl ?_
    refine XS.iload X415.here hx rfl (hb hby at_234) rfl ?_
    exact k
  obtain ⟨_, _, ⟨T416, L416, k416, n416⟩, -, X416, ⟨Lc416, hQ416, l416, y416, z416⟩, st416⟩ := Jvm.LawKit.callS X415 hx (y := (⟨"com/example/otito/otito/chain/CodePointSetAddPinLaw", "in", "(III)Z"⟩ : MethodName)) hown (mvT hZ (own_w hw 73 rfl)) (mvT hZ (own_w hw 74 rfl)) (mvT hZ (own_w hw 2 rfl)) (mvT hZ (own_w hw 75 rfl)) (by decide) (backOf (W := 0) (rm15 l Z a0 hw [] pq pf0 pl0 T415.heap n0 Zs415) hZ (own_w hw 75 rfl) (own_w hw 2 rfl) (by decide) (by decide)) (g := (mkF m 236 (own_l142 p0 p1 p2 p3 p4 p5 pf0 pl0 pf1 pl1 pq pn bld ac415) [(.int pl0), (.int pf0), (.int pq)])) rfl (by rw [hml]; rfl) (argsL := [(.int pq), (.int pf0), (.int pl0)]) (rest := []) (lenOf own_pd10 rfl) rfl (by show 2 * 0 + _ ≤ _; exact Nat.le_of_eq rfl) (hb hby at_236) (fun _ _ => ⟨rfl, rfl, (Nat.le_trans (Nat.add_le_add_right (Nat.add_le_add_right hcl _) _) (by decide)), (Nat.le_trans (Nat.add_le_add_right (Nat.add_le_add_right hsl _) _) (by decide))⟩)
  dsimp only [Pt.U, Pt.locs, Pt.cells, Pt.slots] at X416 l416 y416 z416 st416 hQ416
  subst y416 z416
  obtain ⟨rfl, Nq416, eq416⟩ := hQ416
  have N416 := own_frl l416 N415 Nq416
  refine own_pre (fun t k => st416 t k) ?_
  by_cases hc417 : (own_inn pq pf0 pl0) = (0 : Int32)
  · skip
    refine own_pre (A := (T416.setTop (mkF m 242 (own_l142 p0 p1 p2 p3 p4 p5 pf0 pl0 pf1 pl1 pq pn bld ac415) []))) ?_ ?_
    · intro t k
      refine XS.ifNo X416.here hx rfl (hb hby at_239) rfl ((if0 _ _).trans (teq hc417).2) ?_
      exact k
    refine own_pre (A := (T416.setTop (mkF m 254 (own_l142 p0 p1 p2 p3 p4 p5 pf0 pl0 pf1 pl1 pq pn bld ac415) [(.int pl1), (.int pf1), (.int pq)]))) ?_ ?_
    · intro t k
      refine XS.iload X416.here hx rfl (hb hby at_242) rfl ?_
      refine XS.iconst X416.here hx rfl (hb hby at_244) ?_
      refine XS.icmpNo X416.here hx rfl (hb hby at_245) rfl (flt hn2).1 ?_
      refine XS.iload X416.here hx rfl (hb hby at_248) rfl ?_
      refine XS.iload X416.here hx rfl (hb hby at_250) rfl ?_
      refine XS.iload X416.here hx rfl (hb hby at_252) rfl ?_
      exact k
    obtain ⟨_, _, ⟨T418, L418, k418, n418⟩, -, X418, ⟨Lc418, hQ418, l418, y418, z418⟩, st418⟩ := Jvm.LawKit.callS X416 hx (y := (⟨"com/example/otito/otito/chain/CodePointSetAddPinLaw", "in", "(III)Z"⟩ : MethodName)) hown (mvT hZ (own_w hw 73 rfl)) (mvT hZ (own_w hw 74 rfl)) (mvT hZ (own_w hw 2 rfl)) (mvT hZ (own_w hw 75 rfl)) (by decide) (backOf (W := 0) (rm15 l Z a0 hw [] pq pf1 pl1 T415.heap n0 Zs415) hZ (own_w hw 75 rfl) (own_w hw 2 rfl) (by decide) (by decide)) (g := (mkF m 254 (own_l142 p0 p1 p2 p3 p4 p5 pf0 pl0 pf1 pl1 pq pn bld ac415) [(.int pl1), (.int pf1), (.int pq)])) rfl (by rw [hml]; rfl) (argsL := [(.int pq), (.int pf1), (.int pl1)]) (rest := []) (lenOf own_pd10 rfl) rfl (by show 2 * 0 + _ ≤ _; exact Nat.le_of_eq rfl) (hb hby at_254) (fun _ _ => ⟨rfl, eq416, (Nat.le_trans (Nat.add_le_add_right (Nat.add_le_add_right (Nat.add_le_add_right hcl _) _) _) (by decide)), (Nat.le_trans (Nat.add_le_add_right (Nat.add_le_add_right (Nat.add_le_add_right hsl _) _) _) (by decide))⟩)
    dsimp only [Pt.U, Pt.locs, Pt.cells, Pt.slots] at X418 l418 y418 z418 st418 hQ418
    subst y418 z418
    obtain ⟨rfl, Nq418, eq418⟩ := hQ418
    have N418 := own_frl l418 N416 Nq418
    refine own_pre (fun t k => st418 t k) ?_
    by_cases hc419 : (own_inn pq pf1 pl1) = (0 : Int32)
    · skip
      refine own_pre (A := (T418.setTop (mkF m 264 (own_l142 p0 p1 p2 p3 p4 p5 pf0 pl0 pf1 pl1 pq pn bld ac415) []))) ?_ ?_
      · intro t k
        refine XS.ifYes X418.here hx rfl (pc0 := 257) (pc' := 264) rfl (hb hby at_257) rfl ((if0 _ _).trans (teq hc419).1) (by decide) (by decide) ?_
        exact k
      refine own_pre (A := (T418.setTop (mkF m 271 (own_l143 p0 p1 p2 p3 p4 p5 pf0 pl0 pf1 pl1 pq pn bld ac415) [(.int pq), (.ref ac415)]))) ?_ ?_
      · intro t k
        refine XS.iconst X418.here hx rfl (hb hby at_264) ?_
        refine XS.istore X418.here hx rfl (hb hby at_265) rfl (l' := (own_l143 p0 p1 p2 p3 p4 p5 pf0 pl0 pf1 pl1 pq pn bld ac415)) rfl ?_
        refine XS.aload X418.here hx rfl (hb hby at_267) rfl rfl ?_
        refine XS.iload X418.here hx rfl (hb hby at_269) rfl ?_
        exact k
      obtain ⟨cq420, kq420, q420a, q420b, q420c⟩ := isOf hZ eq418 Eq415
      obtain ⟨_, _, ⟨T420, L420, k420, n420⟩, -, X420, ⟨Lc420, hQ420, l420, y420, z420⟩, st420⟩ := X418.virtualBack hx (y := (⟨"com/example/otito/otito/chain/CodePointSet", "contains", "(I)Z"⟩ : MethodName)) (z := (⟨"com/example/otito/otito/chain/CodePointSet", "contains", "(I)Z"⟩ : MethodName)) hown (mvT hZ (own_w hw 76 rfl)) (mvT hZ (own_w hw 77 rfl)) (notFace_of_selects (args := #[]) (mvT hZ (own_w hw 79 rfl))) (mvT hZ (own_w hw 79 rfl)) (mvT hZ (own_w hw 78 rfl)) (by decide) (backOf (W := 0) (rm16_2 l Z a0 hw [] ac415 pq ab415 kq415 pf0 (own_max pl0 pl1) T415.heap n0 Zs415 Fq415 Vq415) hZ (own_w hw 80 rfl) (own_w hw 63 rfl) (by decide) (by decide)) q420a q420c (g := (mkF m 271 (own_l143 p0 p1 p2 p3 p4 p5 pf0 pl0 pf1 pl1 pq pn bld ac415) [(.int pq), (.ref ac415)])) rfl (by rw [hml]; rfl) (Steps.refl _) (argsL := [(.int pq)]) (rest := []) (lenOf own_pd9 rfl) rfl (by show 2 * 0 + _ ≤ _; exact Nat.le_of_eq rfl) (hb hby at_271) (fun _ _ => ⟨rfl, eq418, (Nat.le_trans (Nat.add_le_add_right (Nat.add_le_add_right (Nat.add_le_add_right (Nat.add_le_add_right hcl _) _) _) _) (by decide)), (Nat.le_trans (Nat.add_le_add_right (Nat.add_le_add_right (Nat.add_le_add_right (Nat.add_le_add_right hsl _) _) _) _) (by decide))⟩)
      dsimp only [Pt.U, Pt.locs, Pt.cells, Pt.slots] at X420 l420 y420 z420 st420 hQ420
      subst y420 z420
      obtain ⟨rfl, Nq420, eq420⟩ := hQ420
      have N420 := own_frl l420 N418 Nq420
      refine own_pre (fun t k => st420.trans k) ?_
      refine own_pre (A := (T420.setTop (mkF m 276 (own_l143 p0 p1 p2 p3 p4 p5 pf0 pl0 pf1 pl1 pq pn bld ac415) [(.int (0 : Int32)), (.int (own_ct2 pq pf0 (own_max pl0 pl1)))]))) ?_ ?_
      · intro t k
        refine XS.iload X420.here hx rfl (hb hby at_274) rfl ?_
        exact k
      have hz : (own_ct2 pq pf0 (own_max pl0 pl1)) = (0 : Int32) := (own_finO pq pf0 pl0 pf1 pl1 hA hB ho hv).trans (if_pos ⟨hc417, hc419⟩)
      refine own_pre (A := (T420.setTop (mkF m 284 (own_l143 p0 p1 p2 p3 p4 p5 pf0 pl0 pf1 pl1 pq pn bld ac415) [(.int (1 : Int32))]))) ?_ ?_
      · intro t k
        refine XS.icmpNo X420.here hx rfl (hb hby at_276) rfl (teq hz).2 ?_
        refine XS.iconst X420.here hx rfl (hb hby at_279) ?_
        refine XS.goto X420.here hx rfl (pc0 := 280) (pc' := 284) rfl (hb hby at_280) (by decide) (by decide) ?_
        exact k
      exact K _ _ _ _ _ (X420.more (Nat.le_trans (Nat.add_le_add_right (Nat.add_le_add_right (Nat.add_le_add_right (Nat.add_le_add_right hcl _) _) _) _) (by decide)) (Nat.le_trans (Nat.add_le_add_right (Nat.add_le_add_right (Nat.add_le_add_right (Nat.add_le_add_right hsl _) _) _) _) (by decide))) eq420 N420
    · skip
      refine own_pre (A := (T418.setTop (mkF m 260 (own_l142 p0 p1 p2 p3 p4 p5 pf0 pl0 pf1 pl1 pq pn bld ac415) []))) ?_ ?_
      · intro t k
        refine XS.ifNo X418.here hx rfl (hb hby at_257) rfl ((if0 _ _).trans (feq hc419).1) ?_
        exact k
      refine own_pre (A := (T418.setTop (mkF m 271 (own_l144 p0 p1 p2 p3 p4 p5 pf0 pl0 pf1 pl1 pq pn bld ac415) [(.int pq), (.ref ac415)]))) ?_ ?_
      · intro t k
        refine XS.iconst X418.here hx rfl (hb hby at_260) ?_
        refine XS.goto X418.here hx rfl (pc0 := 261) (pc' := 265) rfl (hb hby at_261) (by decide) (by decide) ?_
        refine XS.istore X418.here hx rfl (hb hby at_265) rfl (l' := (own_l144 p0 p1 p2 p3 p4 p5 pf0 pl0 pf1 pl1 pq pn bld ac415)) rfl ?_
        refine XS.aload X418.here hx rfl (hb hby at_267) rfl rfl ?_
        refine XS.iload X418.here hx rfl (hb hby at_269) rfl ?_
        exact k
      obtain ⟨cq421, kq421, q421a, q421b, q421c⟩ := isOf hZ eq418 Eq415
      obtain ⟨_, _, ⟨T421, L421, k421, n421⟩, -, X421, ⟨Lc421, hQ421, l421, y421, z421⟩, st421⟩ := X418.virtualBack hx (y := (⟨"com/example/otito/otito/chain/CodePointSet", "contains", "(I)Z"⟩ : MethodName)) (z := (⟨"com/example/otito/otito/chain/CodePointSet", "contains", "(I)Z"⟩ : MethodName)) hown (mvT hZ (own_w hw 76 rfl)) (mvT hZ (own_w hw 77 rfl)) (notFace_of_selects (args := #[]) (mvT hZ (own_w hw 79 rfl))) (mvT hZ (own_w hw 79 rfl)) (mvT hZ (own_w hw 78 rfl)) (by decide) (backOf (W := 0) (rm16_2 l Z a0 hw [] ac415 pq ab415 kq415 pf0 (own_max pl0 pl1) T415.heap n0 Zs415 Fq415 Vq415) hZ (own_w hw 80 rfl) (own_w hw 63 rfl) (by decide) (by decide)) q421a q421c (g := (mkF m 271 (own_l144 p0 p1 p2 p3 p4 p5 pf0 pl0 pf1 pl1 pq pn bld ac415) [(.int pq), (.ref ac415)])) rfl (by rw [hml]; rfl) (Steps.refl _) (argsL := [(.int pq)]) (rest := []) (lenOf own_pd9 rfl) rfl (by show 2 * 0 + _ ≤ _; exact Nat.le_of_eq rfl) (hb hby at_271) (fun _ _ => ⟨rfl, eq418, (Nat.le_trans (Nat.add_le_add_right (Nat.add_le_add_right (Nat.add_le_add_right (Nat.add_le_add_right hcl _) _) _) _) (by decide)), (Nat.le_trans (Nat.add_le_add_right (Nat.add_le_add_right (Nat.add_le_add_right (Nat.add_le_add_right hsl _) _) _) _) (by decide))⟩)
      dsimp only [Pt.U, Pt.locs, Pt.cells, Pt.slots] at X421 l421 y421 z421 st421 hQ421
      subst y421 z421
      obtain ⟨rfl, Nq421, eq421⟩ := hQ421
      have N421 := own_frl l421 N418 Nq421
      refine own_pre (fun t k => st421.trans k) ?_
      refine own_pre (A := (T421.setTop (mkF m 276 (own_l144 p0 p1 p2 p3 p4 p5 pf0 pl0 pf1 pl1 pq pn bld ac415) [(.int (1 : Int32)), (.int (own_ct2 pq pf0 (own_max pl0 pl1)))]))) ?_ ?_
      · intro t k
        refine XS.iload X421.here hx rfl (hb hby at_274) rfl ?_
        exact k
      have hz : (own_ct2 pq pf0 (own_max pl0 pl1)) = (1 : Int32) := (own_finO pq pf0 pl0 pf1 pl1 hA hB ho hv).trans (if_neg fun z => hc419 z.2)
      refine own_pre (A := (T421.setTop (mkF m 284 (own_l144 p0 p1 p2 p3 p4 p5 pf0 pl0 pf1 pl1 pq pn bld ac415) [(.int (1 : Int32))]))) ?_ ?_
      · intro t k
        refine XS.icmpNo X421.here hx rfl (hb hby at_276) rfl (teq hz).2 ?_
        refine XS.iconst X421.here hx rfl (hb hby at_279) ?_
        refine XS.goto X421.here hx rfl (pc0 := 280) (pc' := 284) rfl (hb hby at_280) (by decide) (by decide) ?_
        exact k
      exact K _ _ _ _ _ (X421.more (Nat.le_trans (Nat.add_le_add_right (Nat.add_le_add_right (Nat.add_le_add_right (Nat.add_le_add_right hcl _) _) _) _) (by decide)) (Nat.le_trans (Nat.add_le_add_right (Nat.add_le_add_right (Nat.add_le_add_right (Nat.add_le_add_right hsl _) _) _) _) (by decide))) eq421 N421
  · skip
    refine own_pre (A := (T416.setTop (mkF m 260 (own_l142 p0 p1 p2 p3 p4 p5 pf0 pl0 pf1 pl1 pq pn bld ac415) []))) ?_ ?_
    · intro t k
      refine XS.ifYes X416.here hx rfl (pc0 := 239) (pc' := 260) rfl (hb hby at_239) rfl ((if0 _ _).trans (feq hc417).2) (by decide) (by decide) ?_
      exact k
    refine own_pre (A := (T416.setTop (mkF m 271 (own_l144 p0 p1 p2 p3 p4 p5 pf0 pl0 pf1 pl1 pq pn bld ac415) [(.int pq), (.ref ac415)]))) ?_ ?_
    · intro t k
      refine XS.iconst X416.here hx rfl (hb hby at_260) ?_
      refine XS.goto X416.here hx rfl (pc0 := 261) (pc' := 265) rfl (hb hby at_261) (by decide) (by decide) ?_
      refine XS.istore X416.here hx rfl (hb hby at_265) rfl (l' := (own_l144 p0 p1 p2 p3 p4 p5 pf0 pl0 pf1 pl1 pq pn bld ac415)) rfl ?_
      refine XS.aload X416.here hx rfl (hb hby at_267) rfl rfl ?_
      refine XS.iload X416.here hx rfl (hb hby at_269) rfl ?_
      exact k
    obtain ⟨cq422, kq422, q422a, q422b, q422c⟩ := isOf hZ eq416 Eq415
    obtain ⟨_, _, ⟨T422, L422, k422, n422⟩, -, X422, ⟨Lc422, hQ422, l422, y422, z422⟩, st422⟩ := X416.virtualBack hx (y := (⟨"com/example/otito/otito/chain/CodePointSet", "contains", "(I)Z"⟩ : MethodName)) (z := (⟨"com/example/otito/otito/chain/CodePointSet", "contains", "(I)Z"⟩ : MethodName)) hown (mvT hZ (own_w hw 76 rfl)) (mvT hZ (own_w hw 77 rfl)) (notFace_of_selects (args := #[]) (mvT hZ (own_w hw 79 rfl))) (mvT hZ (own_w hw 79 rfl)) (mvT hZ (own_w hw 78 rfl)) (by decide) (backOf (W := 0) (rm16_2 l Z a0 hw [] ac415 pq ab415 kq415 pf0 (own_max pl0 pl1) T415.heap n0 Zs415 Fq415 Vq415) hZ (own_w hw 80 rfl) (own_w hw 63 rfl) (by decide) (by decide)) q422a q422c (g := (mkF m 271 (own_l144 p0 p1 p2 p3 p4 p5 pf0 pl0 pf1 pl1 pq pn bld ac415) [(.int pq), (.ref ac415)])) rfl (by rw [hml]; rfl) (Steps.refl _) (argsL := [(.int pq)]) (rest := []) (lenOf own_pd9 rfl) rfl (by show 2 * 0 + _ ≤ _; exact Nat.le_of_eq rfl) (hb hby at_271) (fun _ _ => ⟨rfl, eq416, (Nat.le_trans (Nat.add_le_add_right (Nat.add_le_add_right (Nat.add_le_add_right hcl _) _) _) (by decide)), (Nat.le_trans (Nat.add_le_add_right (Nat.add_le_add_right (Nat.add_le_add_right hsl _) _) _) (by decide))⟩)
    dsimp only [Pt.U, Pt.locs, Pt.cells, Pt.slots] at X422 l422 y422 z422 st422 hQ422
    subst y422 z422
    obtain ⟨rfl, Nq422, eq422⟩ := hQ422
    have N422 := own_frl l422 N416 Nq422
    refine own_pre (fun t k => st422.trans k) ?_
    refine own_pre (A := (T422.setTop (mkF m 276 (own_l144 p0 p1 p2 p3 p4 p5 pf0 pl0 pf1 pl1 pq pn bld ac415) [(.int (1 : Int32)), (.int (own_ct2 pq pf0 (own_max pl0 pl1)))]))) ?_ ?_
    · intro t k
      refine XS.iload X422.here hx rfl (hb hby at_274) rfl ?_
      exact k
    have hz : (own_ct2 pq pf0 (own_max pl0 pl1)) = (1 : Int32) := (own_finO pq pf0 pl0 pf1 pl1 hA hB ho hv).trans (if_neg fun z => hc417 z.1)
    refine own_pre (A := (T422.setTop (mkF m 284 (own_l144 p0 p1 p2 p3 p4 p5 pf0 pl0 pf1 pl1 pq pn bld ac415) [(.int (1 : Int32))]))) ?_ ?_
    · intro t k
      refine XS.icmpNo X422.here hx rfl (hb hby at_276) rfl (teq hz).2 ?_
      refine XS.iconst X422.here hx rfl (hb hby at_279) ?_
      refine XS.goto X422.here hx rfl (pc0 := 280) (pc' := 284) rfl (hb hby at_280) (by decide) (by decide) ?_
      exact k
    exact K _ _ _ _ _ (X422.more (Nat.le_trans (Nat.add_le_add_right (Nat.add_le_add_right (Nat.add_le_add_right hcl _) _) _) (by decide)) (Nat.le_trans (Nat.add_le_add_right (Nat.add_le_add_right (Nat.add_le_add_right hsl _) _) _) (by decide))) eq422 N422
set_option maxRecDepth 65536 in
set_option maxHeartbeats 40000000 in
theorem own_su_ltD {p : Program} {l : Launch} {e : Env} {s : State} {m : MethodId} {args : Array Value} {below : List Frame} {meth : Method} {c : Code} {T0 : State} {locs : List Loc} {Z : State} {n0 : Nat} {h0 : Heap} {C : State → Outcome → Prop} {a0 : Array Value} {cells slots : Nat} {bld ar : Addr} {kr : ClassId} {pw pn pq p0 p1 p2 p3 p4 p5 pf0 pl0 pf1 pl1 : Int32} {wl vs : List Value} {nn np : Nat} {qx qy : Int64} (hw : ∀ d ∈ tables_1, d.before a0 Z = true) (X0 : Stand p l e room_1 s m args below meth c T0 locs cells slots) (hx : p.tables.exec = Jvm.exec) (hZ : Z.Warmed39 s.vm) (hown : s.vm.findClass "com/example/otito/otito/chain/CodePointSetAddPinLaw" = some m.cls) (hml : c.maxLocals = 15) (hby : c.code = code) (e0 : T0.heap = h0) (N0 : Fr n0 locs) (Z0 : n0 ≤ h0.size) (hcl : cells ≤ 20) (hsl : slots ≤ 130) (Ea : Exa Z h0 bld "com/example/otito/otito/chain/CodePointSet$Builder") (Fr_ : Fld Z h0 bld "com/example/otito/otito/chain/CodePointSet$Builder" "ranges" "[J" (.ref ar)) (Fc : Fld Z h0 bld "com/example/otito/otito/chain/CodePointSet$Builder" "count" "I" (.int pn)) (Vr : Arv Z h0 ar kr .long pw wl (.long (0 : Int64))) (Er : Exa Z h0 ar "[J") (hpn : pn = Int32.ofNat nn) (hnn : nn ≤ 9) (hzn : ¬ pw < pn) (HS : own_HS l Z n0 pn wl vs) (hn1 : ¬ pn < (1 : Int32)) (hn2 : ¬ pn < (2 : Int32)) (h1p : 1 ≤ np) (hpl : np < nn) (hvl : ∀ x, x < np → vs.getD x (.long (0 : Int64)) = .long qx) (hvh : ∀ x, np ≤ x → x < nn → vs.getD x (.long (0 : Int64)) = .long qy) (hux : (((qx.toUInt64 >>> ((32 : Int32) &&& 0x3f).toInt64.toUInt64).toInt64).toInt32) = pf0) (hlx : (qx.toInt32) = pl0) (huy : (((qy.toUInt64 >>> ((32 : Int32) &&& 0x3f).toInt64.toUInt64).toInt64).toInt32) = pf1) (hly : (qy.toInt32) = pl1) (hA : 0 ≤ pf0.toInt ∧ pf0.toInt ≤ pl0.toInt ∧ pl0.toInt < 1114112) (hB : 0 ≤ pf1.toInt ∧ pf1.toInt ≤ pl1.toInt ∧ pl1.toInt < 1114112) (ho : pf0.toInt ≤ pf1.toInt) (hv : (pl0 + (1 : Int32)) < pf1)
    (K : ∀ (T' : State) (h' : Heap) (locs' : List Loc) (ac' : Addr) (ex' : Int32), Stand p l e room_1 s m args below meth c T' locs' 24 192 → T'.heap = h' → Fr n0 locs' → ∃ s₂ o, Steps p.tables e below (T'.setTop (mkF m 284 #[.val (.int p0), .val (.int p1), .val (.int p2), .val (.int p3), .val (.int p4), .val (.int p5), .val (.int pf0), .val (.int pl0), .val (.int pf1), .val (.int pl1), .val (.int pq), .val (.int pn), .val (.ref bld), .val (.ref ac'), .val (.int ex')] [(.int (1 : Int32))])) s₂ ∧ C s₂ o) :
    ∃ s₂ o, Steps p.tables e below (T0.setTop (mkF m 217 (own_l141 p0 p1 p2 p3 p4 p5 pf0 pl0 pf1 pl1 pq pn bld) [])) s₂ ∧ C s₂ o := by
  refine own_pre (A := (T0.setTop (mkF m 219 (own_l141 p0 p1 p2 p3 p4 p5 pf0 pl0 pf1 pl1 pq pn bld) [(.ref bld)]))) ?_ ?_
  · intro t k
    refine XS.aload X0.here hx rfl (hb hby at_217) rfl rfl ?_
    exact k
  obtain ⟨cq423, kq423, q423a, q423b, q423c⟩ := isOf hZ e0 Ea
  obtain ⟨_, _, ⟨T423, L423, k423, n423⟩, -, X423, ⟨Lc423, hQ423, l423, y423, z423⟩, st423⟩ := X0.virtualBack hx (y := (⟨"com/example/otito/otito/chain/CodePointSet$Builder", "build", "()Lcom/example/otito/otito/chain/CodePointSet;"⟩ : MethodName)) (z := (⟨"com/example/otito/otito/chain/CodePointSet$Builder", "build", "()Lcom/example/otito/otito/chain/CodePointSet;"⟩ : MethodName)) hown (mvT hZ (own_w hw 32 rfl)) (mvT hZ (own_w hw 33 rfl)) (notFace_of_selects (args := #[]) (mvT hZ (own_w hw 35 rfl))) (mvT hZ (own_w hw 35 rfl)) (mvT hZ (own_w hw 34 rfl)) (by decide) (backOf (W := 0) (rm7_D l Z a0 hw [] bld ar kr pw wl pn vs nn np qx pf0 pl0 qy pf1 pl1 h0 n0 Z0 Ea Fr_ Fc Vr Er hpn hnn hzn HS h1p hpl hvl hvh hux hlx huy hly (own_nlt1 _ _ hA) hv (own_nlt1 _ _ hB)) hZ (own_w hw 36 rfl) (own_w hw 15 rfl) (by decide) (by decide)) q423a q423c (g := (mkF m 219 (own_l141 p0 p1 p2 p3 p4 p5 pf0 pl0 pf1 pl1 pq pn bld) [(.ref bld)])) rfl (by rw [hml]; rfl) (Steps.refl _) (argsL := []) (rest := []) (lenOf own_pd8 rfl) rfl (by show 2 * 0 + _ ≤ _; exact Nat.le_of_eq rfl) (hb hby at_219) (fun _ _ => ⟨rfl, e0, (Nat.le_trans (Nat.add_le_add_right hcl _) (by decide)), (Nat.le_trans (Nat.add_le_add_right hsl _) (by decide))⟩)
  dsimp only [Pt.U, Pt.locs, Pt.cells, Pt.slots] at X423 l423 y423 z423 st423 hQ423
  subst y423 z423
  obtain ⟨Nq423, ac423, ab423, kq423, rfl, Fq423, Vq423, Eq423, Kq423⟩ := hQ423
  have N423 := own_frl l423 N0 Nq423
  refine own_pre (fun t k => st423.trans k) ?_
  have Zs423 : n0 ≤ T423.heap.size := Nat.le_trans Z0 Kq423.1
  have Kc423 : Keep h0 T423.heap [] := (Keep.refl h0 []).trans Kq423 all0
  refine own_pre (A := (T423.setTop (mkF m 236 (own_l142 p0 p1 p2 p3 p4 p5 pf0 pl0 pf1 pl1 pq pn bld ac423) [(.int pl0), (.int pf0), (.int pq)]))) ?_ ?_
  · intro t k
    refine XS.astore X423.here hx rfl (hb hby at_222) rfl rfl (l' := (own_l142 p0 p1 p2 p3 p4 p5 pf0 pl0 pf1 pl1 pq pn bld ac423)) rfl ?_
    refine XS.iload X423.here hx rfl (hb hby at_224) rfl ?_
    refine XS.iconst X423.here hx rfl (hb hby at_226) ?_
    refine XS.icmpNo X423.here hx rfl (hb hby at_227) rfl (flt hn1).1 ?_
    refine XS.iload X423.here hx rfl (hb hby at_230) rfl ?_
    refine XS.iload X423.here hx rfl (hb hby at_232) rfl ?_
    refine XS.iload X423.here hx rfl (hb hby at_234) rfl ?_
    exact k
  obtain ⟨_, _, ⟨T424, L424, k424, n424⟩, -, X424, ⟨Lc424, hQ424, l424, y424, z424⟩, st424⟩ := Jvm.LawKit.callS X423 hx (y := (⟨"com/example/otito/otito/chain/CodePointSetAddPinLaw", "in", "(III)Z"⟩ : MethodName)) hown (mvT hZ (own_w hw 73 rfl)) (mvT hZ (own_w hw 74 rfl)) (mvT hZ (own_w hw 2 rfl)) (mvT hZ (own_w hw 75 rfl)) (by decide) (backOf (W := 0) (rm15 l Z a0 hw [] pq pf0 pl0 T423.heap n0 Zs423) hZ (own_w hw 75 rfl) (own_w hw 2 rfl) (by decide) (by decide)) (g := (mkF m 236 (own_l142 p0 p1 p2 p3 p4 p5 pf0 pl0 pf1 pl1 pq pn bld ac423) [(.int pl0), (.int pf0), (.int pq)])) rfl (by rw [hml]; rfl) (argsL := [(.int pq), (.int pf0), (.int pl0)]) (rest := []) (lenOf own_pd10 rfl) rfl (by show 2 * 0 + _ ≤ _; exact Nat.le_of_eq rfl) (hb hby at_236) (fun _ _ => ⟨rfl, rfl, (Nat.le_trans (Nat.add_le_add_right (Nat.add_le_add_right hcl _) _) (by decide)), (Nat.le_trans (Nat.add_le_add_right (Nat.add_le_add_right hsl _) _) (by decide))⟩)
  dsimp only [Pt.U, Pt.locs, Pt.cells, Pt.slots] at X424 l424 y424 z424 st424 hQ424
  subst y424 z424
  obtain ⟨rfl, Nq424, eq424⟩ := hQ424
  have N424 := own_frl l424 N423 Nq424
  refine own_pre (fun t k => st424 t k) ?_
  by_cases hc425 : (own_inn pq pf0 pl0) = (0 : Int32)
  · skip
    refine own_pre (A := (T424.setTop (mkF m 242 (own_l142 p0 p1 p2 p3 p4 p5 pf0 pl0 pf1 pl1 pq pn bld ac423) []))) ?_ ?_
    · intro t k
      refine XS.ifNo X424.here hx rfl (hb hby at_239) rfl ((if0 _ _).trans (teq hc425).2) ?_
      exact k
    refine own_pre (A := (T424.setTop (mkF m 254 (own_l142 p0 p1 p2 p3 p4 p5 pf0 pl0 pf1 pl1 pq pn bld ac423) [(.int pl1), (.int pf1), (.int pq)]))) ?_ ?_
    · intro t k
      refine XS.iload X424.here hx rfl (hb hby at_242) rfl ?_
      refine XS.iconst X424.here hx rfl (hb hby at_244) ?_
      refine XS.icmpNo X424.here hx rfl (hb hby at_245) rfl (flt hn2).1 ?_
      refine XS.iload X424.here hx rfl (hb hby at_248) rfl ?_
      refine XS.iload X424.here hx rfl (hb hby at_250) rfl ?_
      refine XS.iload X424.here hx rfl (hb hby at_252) rfl ?_
      exact k
    obtain ⟨_, _, ⟨T426, L426, k426, n426⟩, -, X426, ⟨Lc426, hQ426, l426, y426, z426⟩, st426⟩ := Jvm.LawKit.callS X424 hx (y := (⟨"com/example/otito/otito/chain/CodePointSetAddPinLaw", "in", "(III)Z"⟩ : MethodName)) hown (mvT hZ (own_w hw 73 rfl)) (mvT hZ (own_w hw 74 rfl)) (mvT hZ (own_w hw 2 rfl)) (mvT hZ (own_w hw 75 rfl)) (by decide) (backOf (W := 0) (rm15 l Z a0 hw [] pq pf1 pl1 T423.heap n0 Zs423) hZ (own_w hw 75 rfl) (own_w hw 2 rfl) (by decide) (by decide)) (g := (mkF m 254 (own_l142 p0 p1 p2 p3 p4 p5 pf0 pl0 pf1 pl1 pq pn bld ac423) [(.int pl1), (.int pf1), (.int pq)])) rfl (by rw [hml]; rfl) (argsL := [(.int pq), (.int pf1), (.int pl1)]) (rest := []) (lenOf own_pd10 rfl) rfl (by show 2 * 0 + _ ≤ _; exact Nat.le_of_eq rfl) (hb hby at_254) (fun _ _ => ⟨rfl, eq424, (Nat.le_trans (Nat.add_le_add_right (Nat.add_le_add_right (Nat.add_le_add_right hcl _) _) _) (by decide)), (Nat.le_trans (Nat.add_le_add_right (Nat.add_le_add_right (Nat.add_le_add_right hsl _) _) _) (by decide))⟩)
    dsimp only [Pt.U, Pt.locs, Pt.cells, Pt.slots] at X426 l426 y426 z426 st426 hQ426
    subst y426 z426
    obtain ⟨rfl, Nq426, eq426⟩ := hQ426
    have N426 := own_frl l426 N424 Nq426
    refine own_pre (fun t k => st426 t k) ?_
    by_cases hc427 : (own_inn pq pf1 pl1) = (0 : Int32)
    · skip
      refine own_pre (A := (T426.setTop (mkF m 264 (own_l142 p0 p1 p2 p3 p4 p5 pf0 pl0 pf1 pl1 pq pn bld ac423) []))) ?_ ?_
      · intro t k
        refine XS.ifYes X426.here hx rfl (pc0 := 257) (pc' := 264) rfl (hb hby at_257) rfl ((if0 _ _).trans (teq hc427).1) (by decide) (by decide) ?_
        exact k
      refine own_pre (A := (T426.setTop (mkF m 271 (own_l143 p0 p1 p2 p3 p4 p5 pf0 pl0 pf1 pl1 pq pn bld ac423) [(.int pq), (.ref ac423)]))) ?_ ?_
      · intro t k
        refine XS.iconst X426.here hx rfl (hb hby at_264) ?_
        refine XS.istore X426.here hx rfl (hb hby at_265) rfl (l' := (own_l143 p0 p1 p2 p3 p4 p5 pf0 pl0 pf1 pl1 pq pn bld ac423)) rfl ?_
        refine XS.aload X426.here hx rfl (hb hby at_267) rfl rfl ?_
        refine XS.iload X426.here hx rfl (hb hby at_269) rfl ?_
        exact k
      obtain ⟨cq428, kq428, q428a, q428b, q428c⟩ := isOf hZ eq426 Eq423
      obtain ⟨_, _, ⟨T428, L428, k428, n428⟩, -, X428, ⟨Lc428, hQ428, l428, y428, z428⟩, st428⟩ := X426.virtualBack hx (y := (⟨"com/example/otito/otito/chain/CodePointSet", "contains", "(I)Z"⟩ : MethodName)) (z := (⟨"com/example/otito/otito/chain/CodePointSet", "contains", "(I)Z"⟩ : MethodName)) hown (mvT hZ (own_w hw 76 rfl)) (mvT hZ (own_w hw 77 rfl)) (notFace_of_selects (args := #[]) (mvT hZ (own_w hw 79 rfl))) (mvT hZ (own_w hw 79 rfl)) (mvT hZ (own_w hw 78 rfl)) (by decide) (backOf (W := 0) (rm16_4 l Z a0 hw [] ac423 pq ab423 kq423 pf0 pl0 pf1 pl1 T423.heap n0 Zs423 Fq423 Vq423) hZ (own_w hw 80 rfl) (own_w hw 63 rfl) (by decide) (by decide)) q428a q428c (g := (mkF m 271 (own_l143 p0 p1 p2 p3 p4 p5 pf0 pl0 pf1 pl1 pq pn bld ac423) [(.int pq), (.ref ac423)])) rfl (by rw [hml]; rfl) (Steps.refl _) (argsL := [(.int pq)]) (rest := []) (lenOf own_pd9 rfl) rfl (by show 2 * 0 + _ ≤ _; exact Nat.le_of_eq rfl) (hb hby at_271) (fun _ _ => ⟨rfl, eq426, (Nat.le_trans (Nat.add_le_add_right (Nat.add_le_add_right (Nat.add_le_add_right (Nat.add_le_add_right hcl _) _) _) _) (by decide)), (Nat.le_trans (Nat.add_le_add_right (Nat.add_le_add_right (Nat.add_le_add_right (Nat.add_le_add_right hsl _) _) _) _) (by decide))⟩)
      dsimp only [Pt.U, Pt.locs, Pt.cells, Pt.slots] at X428 l428 y428 z428 st428 hQ428
      subst y428 z428
      obtain ⟨rfl, Nq428, eq428⟩ := hQ428
      have N428 := own_frl l428 N426 Nq428
      refine own_pre (fun t k => st428.trans k) ?_
      refine own_pre (A := (T428.setTop (mkF m 276 (own_l143 p0 p1 p2 p3 p4 p5 pf0 pl0 pf1 pl1 pq pn bld ac423) [(.int (0 : Int32)), (.int (own_ct4 pq pf0 pl0 pf1 pl1))]))) ?_ ?_
      · intro t k
        refine XS.iload X428.here hx rfl (hb hby at_274) rfl ?_
        exact k
      have hz : (own_ct4 pq pf0 pl0 pf1 pl1) = (0 : Int32) := (own_finD pq pf0 pl0 pf1 pl1 hA hB hv).trans (if_pos ⟨hc425, hc427⟩)
      refine own_pre (A := (T428.setTop (mkF m 284 (own_l143 p0 p1 p2 p3 p4 p5 pf0 pl0 pf1 pl1 pq pn bld ac423) [(.int (1 : Int32))]))) ?_ ?_
      · intro t k
        refine XS.icmpNo X428.here hx rfl (hb hby at_276) rfl (teq hz).2 ?_
        refine XS.iconst X428.here hx rfl (hb hby at_279) ?_
        refine XS.goto X428.here hx rfl (pc0 := 280) (pc' := 284) rfl (hb hby at_280) (by decide) (by decide) ?_
        exact k
      exact K _ _ _ _ _ (X428.more (Nat.le_trans (Nat.add_le_add_right (Nat.add_le_add_right (Nat.add_le_add_right (Nat.add_le_add_right hcl _) _) _) _) (by decide)) (Nat.le_trans (Nat.add_le_add_right (Nat.add_le_add_right (Nat.add_le_add_right (Nat.add_le_add_right hsl _) _) _) _) (by decide))) eq428 N428
    · skip
      refine own_pre (A := (T426.setTop (mkF m 260 (own_l142 p0 p1 p2 p3 p4 p5 pf0 pl0 pf1 pl1 pq pn bld ac423) []))) ?_ ?_
      · intro t k
        refine XS.ifNo X426.here hx rfl (hb hby at_257) rfl ((if0 _ _).trans (feq hc427).1) ?_
        exact k
      refine own_pre (A := (T426.setTop (mkF m 271 (own_l144 p0 p1 p2 p3 p4 p5 pf0 pl0 pf1 pl1 pq pn bld ac423) [(.int pq), (.ref ac423)]))) ?_ ?_
      · intro t k
        refine XS.iconst X426.here hx rfl (hb hby at_260) ?_
        refine XS.goto X426.here hx rfl (pc0 := 261) (pc' := 265) rfl (hb hby at_261) (by decide) (by decide) ?_
        refine XS.istore X426.here hx rfl (hb hby at_265) rfl (l' := (own_l144 p0 p1 p2 p3 p4 p5 pf0 pl0 pf1 pl1 pq pn bld ac423)) rfl ?_
        refine XS.aload X426.here hx rfl (hb hby at_267) rfl rfl ?_
        refine XS.iload X426.here hx rfl (hb hby at_269) rfl ?_
        exact k
      obtain ⟨cq429, kq429, q429a, q429b, q429c⟩ := isOf hZ eq426 Eq423
      obtain ⟨_, _, ⟨T429, L429, k429, n429⟩, -, X429, ⟨Lc429, hQ429, l429, y429, z429⟩, st429⟩ := X426.virtualBack hx (y := (⟨"com/example/otito/otito/chain/CodePointSet", "contains", "(I)Z"⟩ : MethodName)) (z := (⟨"com/example/otito/otito/chain/CodePointSet", "contains", "(I)Z"⟩ : MethodName)) hown (mvT hZ (own_w hw 76 rfl)) (mvT hZ (own_w hw 77 rfl)) (notFace_of_selects (args := #[]) (mvT hZ (own_w hw 79 rfl))) (mvT hZ (own_w hw 79 rfl)) (mvT hZ (own_w hw 78 rfl)) (by decide) (backOf (W := 0) (rm16_4 l Z a0 hw [] ac423 pq ab423 kq423 pf0 pl0 pf1 pl1 T423.heap n0 Zs423 Fq423 Vq423) hZ (own_w hw 80 rfl) (own_w hw 63 rfl) (by decide) (by decide)) q429a q429c (g := (mkF m 271 (own_l144 p0 p1 p2 p3 p4 p5 pf0 pl0 pf1 pl1 pq pn bld ac423) [(.int pq), (.ref ac423)])) rfl (by rw [hml]; rfl) (Steps.refl _) (argsL := [(.int pq)]) (rest := []) (lenOf own_pd9 rfl) rfl (by show 2 * 0 + _ ≤ _; exact Nat.le_of_eq rfl) (hb hby at_271) (fun _ _ => ⟨rfl, eq426, (Nat.le_trans (Nat.add_le_add_right (Nat.add_le_add_right (Nat.add_le_add_right (Nat.add_le_add_right hcl _) _) _) _) (by decide)), (Nat.le_trans (Nat.add_le_add_right (Nat.add_le_add_right (Nat.add_le_add_right (Nat.add_le_add_right hsl _) _) _) _) (by decide))⟩)
      dsimp only [Pt.U, Pt.locs, Pt.cells, Pt.slots] at X429 l429 y429 z429 st429 hQ429
      subst y429 z429
      obtain ⟨rfl, Nq429, eq429⟩ := hQ429
      have N429 := own_frl l429 N426 Nq429
      refine own_pre (fun t k => st429.trans k) ?_
      refine own_pre (A := (T429.setTop (mkF m 276 (own_l144 p0 p1 p2 p3 p4 p5 pf0 pl0 pf1 pl1 pq pn bld ac423) [(.int (1 : Int32)), (.int (own_ct4 pq pf0 pl0 pf1 pl1))]))) ?_ ?_
      · intro t k
        refine XS.iload X429.here hx rfl (hb hby at_274) rfl ?_
        exact k
      have hz : (own_ct4 pq pf0 pl0 pf1 pl1) = (1 : Int32) := (own_finD pq pf0 pl0 pf1 pl1 hA hB hv).trans (if_neg fun z => hc427 z.2)
      refine own_pre (A := (T429.setTop (mkF m 284 (own_l144 p0 p1 p2 p3 p4 p5 pf0 pl0 pf1 pl1 pq pn bld ac423) [(.int (1 : Int32))]))) ?_ ?_
      · intro t k
        refine XS.icmpNo X429.here hx rfl (hb hby at_276) rfl (teq hz).2 ?_
        refine XS.iconst X429.here hx rfl (hb hby at_279) ?_
        refine XS.goto X429.here hx rfl (pc0 := 280) (pc' := 284) rfl (hb hby at_280) (by decide) (by decide) ?_
        exact k
      exact K _ _ _ _ _ (X429.more (Nat.le_trans (Nat.add_le_add_right (Nat.add_le_add_right (Nat.add_le_add_right (Nat.add_le_add_right hcl _) _) _) _) (by decide)) (Nat.le_trans (Nat.add_le_add_right (Nat.add_le_add_right (Nat.add_le_add_right (Nat.add_le_add_right hsl _) _) _) _) (by decide))) eq429 N429
  · skip
    refine own_pre (A := (T424.setTop (mkF m 260 (own_l142 p0 p1 p2 p3 p4 p5 pf0 pl0 pf1 pl1 pq pn bld ac423) []))) ?_ ?_
    · intro t k
      refine XS.ifYes X424.here hx rfl (pc0 := 239) (pc' := 260) rfl (hb hby at_239) rfl ((if0 _ _).trans (feq hc425).2) (by decide) (by decide) ?_
      exact k
    refine own_pre (A := (T424.setTop (mkF m 271 (own_l144 p0 p1 p2 p3 p4 p5 pf0 pl0 pf1 pl1 pq pn bld ac423) [(.int pq), (.ref ac423)]))) ?_ ?_
    · intro t k
      refine XS.iconst X424.here hx rfl (hb hby at_260) ?_
      refine XS.goto X424.here hx rfl (pc0 := 261) (pc' := 265) rfl (hb hby at_261) (by decide) (by decide) ?_
      refine XS.istore X424.here hx rfl (hb hby at_265) rfl (l' := (own_l144 p0 p1 p2 p3 p4 p5 pf0 pl0 pf1 pl1 pq pn bld ac423)) rfl ?_
      refine XS.aload X424.here hx rfl (hb hby at_267) rfl rfl ?_
      refine XS.iload X424.here hx rfl (hb hby at_269) rfl ?_
      exact k
    obtain ⟨cq430, kq430, q430a, q430b, q430c⟩ := isOf hZ eq424 Eq423
    obtain ⟨_, _, ⟨T430, L430, k430, n430⟩, -, X430, ⟨Lc430, hQ430, l430, y430, z430⟩, st430⟩ := X424.virtualBack hx (y := (⟨"com/example/otito/otito/chain/CodePointSet", "contains", "(I)Z"⟩ : MethodName)) (z := (⟨"com/example/otito/otito/chain/CodePointSet", "contains", "(I)Z"⟩ : MethodName)) hown (mvT hZ (own_w hw 76 rfl)) (mvT hZ (own_w hw 77 rfl)) (notFace_of_selects (args := #[]) (mvT hZ (own_w hw 79 rfl))) (mvT hZ (own_w hw 79 rfl)) (mvT hZ (own_w hw 78 rfl)) (by decide) (backOf (W := 0) (rm16_4 l Z a0 hw [] ac423 pq ab423 kq423 pf0 pl0 pf1 pl1 T423.heap n0 Zs423 Fq423 Vq423) hZ (own_w hw 80 rfl) (own_w hw 63 rfl) (by decide) (by decide)) q430a q430c (g := (mkF m 271 (own_l144 p0 p1 p2 p3 p4 p5 pf0 pl0 pf1 pl1 pq pn bld ac423) [(.int pq), (.ref ac423)])) rfl (by rw [hml]; rfl) (Steps.refl _) (argsL := [(.int pq)]) (rest := []) (lenOf own_pd9 rfl) rfl (by show 2 * 0 + _ ≤ _; exact Nat.le_of_eq rfl) (hb hby at_271) (fun _ _ => ⟨rfl, eq424, (Nat.le_trans (Nat.add_le_add_right (Nat.add_le_add_right (Nat.add_le_add_right hcl _) _) _) (by decide)), (Nat.le_trans (Nat.add_le_add_right (Nat.add_le_add_right (Nat.add_le_add_right hsl _) _) _) (by decide))⟩)
    dsimp only [Pt.U, Pt.locs, Pt.cells, Pt.slots] at X430 l430 y430 z430 st430 hQ430
    subst y430 z430
    obtain ⟨rfl, Nq430, eq430⟩ := hQ430
    have N430 := own_frl l430 N424 Nq430
    refine own_pre (fun t k => st430.trans k) ?_
    refine own_pre (A := (T430.setTop (mkF m 276 (own_l144 p0 p1 p2 p3 p4 p5 pf0 pl0 pf1 pl1 pq pn bld ac423) [(.int (1 : Int32)), (.int (own_ct4 pq pf0 pl0 pf1 pl1))]))) ?_ ?_
    · intro t k
      refine XS.iload X430.here hx rfl (hb hby at_274) rfl ?_
      exact k
    have hz : (own_ct4 pq pf0 pl0 pf1 pl1) = (1 : Int32) := (own_finD pq pf0 pl0 pf1 pl1 hA hB hv).trans (if_neg fun z => hc425 z.1)
    refine own_pre (A := (T430.setTop (mkF m 284 (own_l144 p0 p1 p2 p3 p4 p5 pf0 pl0 pf1 pl1 pq pn bld ac423) [(.int (1 : Int32))]))) ?_ ?_
    · intro t k
      refine XS.icmpNo X430.here hx rfl (hb hby at_276) rfl (teq hz).2 ?_
      refine XS.iconst X430.here hx rfl (hb hby at_279) ?_
      refine XS.goto X430.here hx rfl (pc0 := 280) (pc' := 284) rfl (hb hby at_280) (by decide) (by decide) ?_
      exact k
    exact K _ _ _ _ _ (X430.more (Nat.le_trans (Nat.add_le_add_right (Nat.add_le_add_right (Nat.add_le_add_right hcl _) _) _) (by decide)) (Nat.le_trans (Nat.add_le_add_right (Nat.add_le_add_right (Nat.add_le_add_right hsl _) _) _) (by decide))) eq430 N430
set_option maxRecDepth 65536 in
set_option maxHeartbeats 40000000 in
theorem own_su_gtO {p : Program} {l : Launch} {e : Env} {s : State} {m : MethodId} {args : Array Value} {below : List Frame} {meth : Method} {c : Code} {T0 : State} {locs : List Loc} {Z : State} {n0 : Nat} {h0 : Heap} {C : State → Outcome → Prop} {a0 : Array Value} {cells slots : Nat} {bld ar : Addr} {kr : ClassId} {pw pn pq p0 p1 p2 p3 p4 p5 pf0 pl0 pf1 pl1 : Int32} {wl vs : List Value} {nn np : Nat} {qx qy : Int64} (hw : ∀ d ∈ tables_1, d.before a0 Z = true) (X0 : Stand p l e room_1 s m args below meth c T0 locs cells slots) (hx : p.tables.exec = Jvm.exec) (hZ : Z.Warmed39 s.vm) (hown : s.vm.findClass "com/example/otito/otito/chain/CodePointSetAddPinLaw" = some m.cls) (hml : c.maxLocals = 15) (hby : c.code = code) (e0 : T0.heap = h0) (N0 : Fr n0 locs) (Z0 : n0 ≤ h0.size) (hcl : cells ≤ 20) (hsl : slots ≤ 130) (Ea : Exa Z h0 bld "com/example/otito/otito/chain/CodePointSet$Builder") (Fr_ : Fld Z h0 bld "com/example/otito/otito/chain/CodePointSet$Builder" "ranges" "[J" (.ref ar)) (Fc : Fld Z h0 bld "com/example/otito/otito/chain/CodePointSet$Builder" "count" "I" (.int pn)) (Vr : Arv Z h0 ar kr .long pw wl (.long (0 : Int64))) (Er : Exa Z h0 ar "[J") (hpn : pn = Int32.ofNat nn) (hnn : nn ≤ 9) (hzn : ¬ pw < pn) (HS : own_HS l Z n0 pn wl vs) (hn1 : ¬ pn < (1 : Int32)) (hn2 : ¬ pn < (2 : Int32)) (h1p : 1 ≤ np) (hpl : np < nn) (hvl : ∀ x, x < np → vs.getD x (.long (0 : Int64)) = .long qy) (hvh : ∀ x, np ≤ x → x < nn → vs.getD x (.long (0 : Int64)) = .long qx) (hux : (((qx.toUInt64 >>> ((32 : Int32) &&& 0x3f).toInt64.toUInt64).toInt64).toInt32) = pf0) (hlx : (qx.toInt32) = pl0) (huy : (((qy.toUInt64 >>> ((32 : Int32) &&& 0x3f).toInt64.toUInt64).toInt64).toInt32) = pf1) (hly : (qy.toInt32) = pl1) (hA : 0 ≤ pf0.toInt ∧ pf0.toInt ≤ pl0.toInt ∧ pl0.toInt < 1114112) (hB : 0 ≤ pf1.toInt ∧ pf1.toInt ≤ pl1.toInt ∧ pl1.toInt < 1114112) (ho : pf1.toInt ≤ pf0.toInt) (hv : ¬ (pl1 + (1 : Int32)) < pf0)
    (K : ∀ (T' : State) (h' : Heap) (locs' : List Loc) (ac' : Addr) (ex' : Int32), Stand p l e room_1 s m args below meth c T' locs' 24 192 → T'.heap = h' → Fr n0 locs' → ∃ s₂ o, Steps p.tables e below (T'.setTop (mkF m 284 #[.val (.int p0), .val (.int p1), .val (.int p2), .val (.int p3), .val (.int p4), .val (.int p5), .val (.int pf0), .val (.int pl0), .val (.int pf1), .val (.int pl1), .val (.int pq), .val (.int pn), .val (.ref bld), .val (.ref ac'), .val (.int ex')] [(.int (1 : Int32))])) s₂ ∧ C s₂ o) :
    ∃ s₂ o, Steps p.tables e below (T0.setTop (mkF m 217 (own_l141 p0 p1 p2 p3 p4 p5 pf0 pl0 pf1 pl1 pq pn bld) [])) s₂ ∧ C s₂ o := by
  refine own_pre (A := (T0.setTop (mkF m 219 (own_l141 p0 p1 p2 p3 p4 p5 pf0 pl0 pf1 pl1 pq pn bld) [(.ref bld)]))) ?_ ?_
  · intro t k
    refine XS.aload X0.here hx rfl (hb hby at_217) rfl rfl ?_
    exact k
  obtain ⟨cq431, kq431, q431a, q431b, q431c⟩ := isOf hZ e0 Ea
  obtain ⟨_, _, ⟨T431, L431, k431, n431⟩, -, X431, ⟨Lc431, hQ431, l431, y431, z431⟩, st431⟩ := X0.virtualBack hx (y := (⟨"com/example/otito/otito/chain/CodePointSet$Builder", "build", "()Lcom/example/otito/otito/chain/CodePointSet;"⟩ : MethodName)) (z := (⟨"com/example/otito/otito/chain/CodePointSet$Builder", "build", "()Lcom/example/otito/otito/chain/CodePointSet;"⟩ : MethodName)) hown (mvT hZ (own_w hw 32 rfl)) (mvT hZ (own_w hw 33 rfl)) (notFace_of_selects (args := #[]) (mvT hZ (own_w hw 35 rfl))) (mvT hZ (own_w hw 35 rfl)) (mvT hZ (own_w hw 34 rfl)) (by decide) (backOf (W := 0) (rm7_O l Z a0 hw [] bld ar kr pw wl pn vs nn np qy pf1 pl1 qx pf0 pl0 h0 n0 Z0 Ea Fr_ Fc Vr Er hpn hnn hzn HS h1p hpl hvl hvh huy hly hux hlx (own_nlt1 _ _ hB) hv (own_nlt2 _ _ _ ⟨by omega, by omega⟩ hA)) hZ (own_w hw 36 rfl) (own_w hw 15 rfl) (by decide) (by decide)) q431a q431c (g := (mkF m 219 (own_l141 p0 p1 p2 p3 p4 p5 pf0 pl0 pf1 pl1 pq pn bld) [(.ref bld)])) rfl (by rw [hml]; rfl) (Steps.refl _) (argsL := []) (rest := []) (lenOf own_pd8 rfl) rfl (by show 2 * 0 + _ ≤ _; exact Nat.le_of_eq rfl) (hb hby at_219) (fun _ _ => ⟨rfl, e0, (Nat.le_trans (Nat.add_le_add_right hcl _) (by decide)), (Nat.le_trans (Nat.add_le_add_right hsl _) (by decide))⟩)
  dsimp only [Pt.U, Pt.locs, Pt.cells, Pt.slots] at X431 l431 y431 z431 st431 hQ431
  subst y431 z431
  obtain ⟨Nq431, ac431, ab431, kq431, rfl, Fq431, Vq431, Eq431, Kq431⟩ := hQ431
  have N431 := own_frl l431 N0 Nq431
  refine own_pre (fun t k => st431.trans k) ?_
  have Zs431 : n0 ≤ T431.heap.size := Nat.le_trans Z0 Kq431.1
  have Kc431 : Keep h0 T431.heap [] := (Keep.refl h0 []).trans Kq431 all0
  refine own_pre (A := (T431.setTop (mkF m 236 (own_l142 p0 p1 p2 p3 p4 p5 pf0 pl0 pf1 pl1 pq pn bld ac431) [(.int pl0), (.int pf0), (.int pq)]))) ?_ ?_
  · intro t k
    refine XS.astore X431.here hx rfl (hb hby at_222) rfl rfl (l' := (own_l142 p0 p1 p2 p3 p4 p5 pf0 pl0 pf1 pl1 pq pn bld ac431)) rfl ?_
    refine XS.iload X431.here hx rfl (hb hby at_224) rfl ?_
    refine XS.iconst X431.here hx rfl (hb hby at_226) ?_
    refine XS.icmpNo X431.here hx rfl (hb hby at_227) rfl (flt hn1).1 ?_
    refine XS.iload X431.here hx rfl (hb hby at_230) rfl ?_
    refine XS.iload X431.here hx rfl (hb hby at_232) rfl ?_
    refine XS.iload X431.here hx rfl (hb hby at_234) rfl ?_
    exact k
  obtain ⟨_, _, ⟨T432, L432, k432, n432⟩, -, X432, ⟨Lc432, hQ432, l432, y432, z432⟩, st432⟩ := Jvm.LawKit.callS X431 hx (y := (⟨"com/example/otito/otito/chain/CodePointSetAddPinLaw", "in", "(III)Z"⟩ : MethodName)) hown (mvT hZ (own_w hw 73 rfl)) (mvT hZ (own_w hw 74 rfl)) (mvT hZ (own_w hw 2 rfl)) (mvT hZ (own_w hw 75 rfl)) (by decide) (backOf (W := 0) (rm15 l Z a0 hw [] pq pf0 pl0 T431.heap n0 Zs431) hZ (own_w hw 75 rfl) (own_w hw 2 rfl) (by decide) (by decide)) (g := (mkF m 236 (own_l142 p0 p1 p2 p3 p4 p5 pf0 pl0 pf1 pl1 pq pn bld ac431) [(.int pl0), (.int pf0), (.int pq)])) rfl (by rw [hml]; rfl) (argsL := [(.int pq), (.int pf0), (.int pl0)]) (rest := []) (lenOf own_pd10 rfl) rfl (by show 2 * 0 + _ ≤ _; exact Nat.le_of_eq rfl) (hb hby at_236) (fun _ _ => ⟨rfl, rfl, (Nat.le_trans (Nat.add_le_add_right (Nat.add_le_add_right hcl _) _) (by decide)), (Nat.le_trans (Nat.add_le_add_right (Nat.add_le_add_right hsl _) _) (by decide))⟩)
  dsimp only [Pt.U, Pt.locs, Pt.cells, Pt.slots] at X432 l432 y432 z432 st432 hQ432
  subst y432 z432
  obtain ⟨rfl, Nq432, eq432⟩ := hQ432
  have N432 := own_frl l432 N431 Nq432
  refine own_pre (fun t k => st432 t k) ?_
  by_cases hc433 : (own_inn pq pf0 pl0) = (0 : Int32)
  · skip
    refine own_pre (A := (T432.setTop (mkF m 242 (own_l142 p0 p1 p2 p3 p4 p5 pf0 pl0 pf1 pl1 pq pn bld ac431) []))) ?_ ?_
    · intro t k
      refine XS.ifNo X432.here hx rfl (hb hby at_239) rfl ((if0 _ _).trans (teq hc433).2) ?_
      exact k
    refine own_pre (A := (T432.setTop (mkF m 254 (own_l142 p0 p1 p2 p3 p4 p5 pf0 pl0 pf1 pl1 pq pn bld ac431) [(.int pl1), (.int pf1), (.int pq)]))) ?_ ?_
    · intro t k
      refine XS.iload X432.here hx rfl (hb hby at_242) rfl ?_
      refine XS.iconst X432.here hx rfl (hb hby at_244) ?_
      refine XS.icmpNo X432.here hx rfl (hb hby at_245) rfl (flt hn2).1 ?_
      refine XS.iload X432.here hx rfl (hb hby at_248) rfl ?_
      refine XS.iload X432.here hx rfl (hb hby at_250) rfl ?_
      refine XS.iload X432.here hx rfl (hb hby at_252) rfl ?_
      exact k
    obtain ⟨_, _, ⟨T434, L434, k434, n434⟩, -, X434, ⟨Lc434, hQ434, l434, y434, z434⟩, st434⟩ := Jvm.LawKit.callS X432 hx (y := (⟨"com/example/otito/otito/chain/CodePointSetAddPinLaw", "in", "(III)Z"⟩ : MethodName)) hown (mvT hZ (own_w hw 73 rfl)) (mvT hZ (own_w hw 74 rfl)) (mvT hZ (own_w hw 2 rfl)) (mvT hZ (own_w hw 75 rfl)) (by decide) (backOf (W := 0) (rm15 l Z a0 hw [] pq pf1 pl1 T431.heap n0 Zs431) hZ (own_w hw 75 rfl) (own_w hw 2 rfl) (by decide) (by decide)) (g := (mkF m 254 (own_l142 p0 p1 p2 p3 p4 p5 pf0 pl0 pf1 pl1 pq pn bld ac431) [(.int pl1), (.int pf1), (.int pq)])) rfl (by rw [hml]; rfl) (argsL := [(.int pq), (.int pf1), (.int pl1)]) (rest := []) (lenOf own_pd10 rfl) rfl (by show 2 * 0 + _ ≤ _; exact Nat.le_of_eq rfl) (hb hby at_254) (fun _ _ => ⟨rfl, eq432, (Nat.le_trans (Nat.add_le_add_right (Nat.add_le_add_right (Nat.add_le_add_right hcl _) _) _) (by decide)), (Nat.le_trans (Nat.add_le_add_right (Nat.add_le_add_right (Nat.add_le_add_right hsl _) _) _) (by decide))⟩)
    dsimp only [Pt.U, Pt.locs, Pt.cells, Pt.slots] at X434 l434 y434 z434 st434 hQ434
    subst y434 z434
    obtain ⟨rfl, Nq434, eq434⟩ := hQ434
    have N434 := own_frl l434 N432 Nq434
    refine own_pre (fun t k => st434 t k) ?_
    by_cases hc435 : (own_inn pq pf1 pl1) = (0 : Int32)
    · skip
      refine own_pre (A := (T434.setTop (mkF m 264 (own_l142 p0 p1 p2 p3 p4 p5 pf0 pl0 pf1 pl1 pq pn bld ac431) []))) ?_ ?_
      · intro t k
        refine XS.ifYes X434.here hx rfl (pc0 := 257) (pc' := 264) rfl (hb hby at_257) rfl ((if0 _ _).trans (teq hc435).1) (by decide) (by decide) ?_
        exact k
      refine own_pre (A := (T434.setTop (mkF m 271 (own_l143 p0 p1 p2 p3 p4 p5 pf0 pl0 pf1 pl1 pq pn bld ac431) [(.int pq), (.ref ac431)]))) ?_ ?_
      · intro t k
        refine XS.iconst X434.here hx rfl (hb hby at_264) ?_
        refine XS.istore X434.here hx rfl (hb hby at_265) rfl (l' := (own_l143 p0 p1 p2 p3 p4 p5 pf0 pl0 pf1 pl1 pq pn bld ac431)) rfl ?_
        refine XS.aload X434.here hx rfl (hb hby at_267) rfl rfl ?_
        refine XS.iload X434.here hx rfl (hb hby at_269) rfl ?_
        exact k
      obtain ⟨cq436, kq436, q436a, q436b, q436c⟩ := isOf hZ eq434 Eq431
      obtain ⟨_, _, ⟨T436, L436, k436, n436⟩, -, X436, ⟨Lc436, hQ436, l436, y436, z436⟩, st436⟩ := X434.virtualBack hx (y := (⟨"com/example/otito/otito/chain/CodePointSet", "contains", "(I)Z"⟩ : MethodName)) (z := (⟨"com/example/otito/otito/chain/CodePointSet", "contains", "(I)Z"⟩ : MethodName)) hown (mvT hZ (own_w hw 76 rfl)) (mvT hZ (own_w hw 77 rfl)) (notFace_of_selects (args := #[]) (mvT hZ (own_w hw 79 rfl))) (mvT hZ (own_w hw 79 rfl)) (mvT hZ (own_w hw 78 rfl)) (by decide) (backOf (W := 0) (rm16_2 l Z a0 hw [] ac431 pq ab431 kq431 pf1 (own_max pl1 pl0) T431.heap n0 Zs431 Fq431 Vq431) hZ (own_w hw 80 rfl) (own_w hw 63 rfl) (by decide) (by decide)) q436a q436c (g := (mkF m 271 (own_l143 p0 p1 p2 p3 p4 p5 pf0 pl0 pf1 pl1 pq pn bld ac431) [(.int pq), (.ref ac431)])) rfl (by rw [hml]; rfl) (Steps.refl _) (argsL := [(.int pq)]) (rest := []) (lenOf own_pd9 rfl) rfl (by show 2 * 0 + _ ≤ _; exact Nat.le_of_eq rfl) (hb hby at_271) (fun _ _ => ⟨rfl, eq434, (Nat.le_trans (Nat.add_le_add_right (Nat.add_le_add_right (Nat.add_le_add_right (Nat.add_le_add_right hcl _) _) _) _) (by decide)), (Nat.le_trans (Nat.add_le_add_right (Nat.add_le_add_right (Nat.add_le_add_right (Nat.add_le_add_right hsl _) _) _) _) (by decide))⟩)
      dsimp only [Pt.U, Pt.locs, Pt.cells, Pt.slots] at X436 l436 y436 z436 st436 hQ436
      subst y436 z436
      obtain ⟨rfl, Nq436, eq436⟩ := hQ436
      have N436 := own_frl l436 N434 Nq436
      refine own_pre (fun t k => st436.trans k) ?_
      refine own_pre (A := (T436.setTop (mkF m 276 (own_l143 p0 p1 p2 p3 p4 p5 pf0 pl0 pf1 pl1 pq pn bld ac431) [(.int (0 : Int32)), (.int (own_ct2 pq pf1 (own_max pl1 pl0)))]))) ?_ ?_
      · intro t k
        refine XS.iload X436.here hx rfl (hb hby at_274) rfl ?_
        exact k
      have hz : (own_ct2 pq pf1 (own_max pl1 pl0)) = (0 : Int32) := (own_finO pq pf1 pl1 pf0 pl0 hB hA ho hv).trans (if_pos ⟨hc435, hc433⟩)
      refine own_pre (A := (T436.setTop (mkF m 284 (own_l143 p0 p1 p2 p3 p4 p5 pf0 pl0 pf1 pl1 pq pn bld ac431) [(.int (1 : Int32))]))) ?_ ?_
      · intro t k
        refine XS.icmpNo X436.here hx rfl (hb hby at_276) rfl (teq hz).2 ?_
        refine XS.iconst X436.here hx rfl (hb hby at_279) ?_
        refine XS.goto X436.here hx rfl (pc0 := 280) (pc' := 284) rfl (hb hby at_280) (by decide) (by decide) ?_
        exact k
      exact K _ _ _ _ _ (X436.more (Nat.le_trans (Nat.add_le_add_right (Nat.add_le_add_right (Nat.add_le_add_right (Nat.add_le_add_right hcl _) _) _) _) (by decide)) (Nat.le_trans (Nat.add_le_add_right (Nat.add_le_add_right (Nat.add_le_add_right (Nat.add_le_add_right hsl _) _) _) _) (by decide))) eq436 N436
    · skip
      refine own_pre (A := (T434.setTop (mkF m 260 (own_l142 p0 p1 p2 p3 p4 p5 pf0 pl0 pf1 pl1 pq pn bld ac431) []))) ?_ ?_
      · intro t k
        refine XS.ifNo X434.here hx rfl (hb hby at_257) rfl ((if0 _ _).trans (feq hc435).1) ?_
        exact k
      refine own_pre (A := (T434.setTop (mkF m 271 (own_l144 p0 p1 p2 p3 p4 p5 pf0 pl0 pf1 pl1 pq pn bld ac431) [(.int pq), (.ref ac431)]))) ?_ ?_
      · intro t k
        refine XS.iconst X434.here hx rfl (hb hby at_260) ?_
        refine XS.goto X434.here hx rfl (pc0 := 261) (pc' := 265) rfl (hb hby at_261) (by decide) (by decide) ?_
        refine XS.istore X434.here hx rfl (hb hby at_265) rfl (l' := (own_l144 p0 p1 p2 p3 p4 p5 pf0 pl0 pf1 pl1 pq pn bld ac431)) rfl ?_
        refine XS.aload X434.here hx rfl (hb hby at_267) rfl rfl ?_
        refine XS.iload X434.here hx rfl (hb hby at_269) rfl ?_
        exact k
      obtain ⟨cq437, kq437, q437a, q437b, q437c⟩ := isOf hZ eq434 Eq431
      obtain ⟨_, _, ⟨T437, L437, k437, n437⟩, -, X437, ⟨Lc437, hQ437, l437, y437, z437⟩, st437⟩ := X434.virtualBack hx (y := (⟨"com/example/otito/otito/chain/CodePointSet", "contains", "(I)Z"⟩ : MethodName)) (z := (⟨"com/example/otito/otito/chain/CodePointSet", "contains", "(I)Z"⟩ : MethodName)) hown (mvT hZ (own_w hw 76 rfl)) (mvT hZ (own_w hw 77 rfl)) (notFace_of_selects (args := #[]) (mvT hZ (own_w hw 79 rfl))) (mvT hZ (own_w hw 79 rfl)) (mvT hZ (own_w hw 78 rfl)) (by decide) (backOf (W := 0) (rm16_2 l Z a0 hw [] ac431 pq ab431 kq431 pf1 (own_max pl1 pl0) T431.heap n0 Zs431 Fq431 Vq431) hZ (own_w hw 80 rfl) (own_w hw 63 rfl) (by decide) (by decide)) q437a q437c (g := (mkF m 271 (own_l144 p0 p1 p2 p3 p4 p5 pf0 pl0 pf1 pl1 pq pn bld ac431) [(.int pq), (.ref ac431)])) rfl (by rw [hml]; rfl) (Steps.refl _) (argsL := [(.int pq)]) (rest := []) (lenOf own_pd9 rfl) rfl (by show 2 * 0 + _ ≤ _; exact Nat.le_of_eq rfl) (hb hby at_271) (fun _ _ => ⟨rfl, eq434, (Nat.le_trans (Nat.add_le_add_right (Nat.add_le_add_right (Nat.add_le_add_right (Nat.add_le_add_right hcl _) _) _) _) (by decide)), (Nat.le_trans (Nat.add_le_add_right (Nat.add_le_add_right (Nat.add_le_add_right (Nat.add_le_add_right hsl _) _) _) _) (by decide))⟩)
      dsimp only [Pt.U, Pt.locs, Pt.cells, Pt.slots] at X437 l437 y437 z437 st437 hQ437
      subst y437 z437
      obtain ⟨rfl, Nq437, eq437⟩ := hQ437
      have N437 := own_frl l437 N434 Nq437
      refine own_pre (fun t k => st437.trans k) ?_
      refine own_pre (A := (T437.setTop (mkF m 276 (own_l144 p0 p1 p2 p3 p4 p5 pf0 pl0 pf1 pl1 pq pn bld ac431) [(.int (1 : Int32)), (.int (own_ct2 pq pf1 (own_max pl1 pl0)))]))) ?_ ?_
      · intro t k
        refine XS.iload X437.here hx rfl (hb hby at_274) rfl ?_
        exact k
      have hz : (own_ct2 pq pf1 (own_max pl1 pl0)) = (1 : Int32) := (own_finO pq pf1 pl1 pf0 pl0 hB hA ho hv).trans (if_neg fun z => hc435 z.1)
      refine own_pre (A := (T437.setTop (mkF m 284 (own_l144 p0 p1 p2 p3 p4 p5 pf0 pl0 pf1 pl1 pq pn bld ac431) [(.int (1 : Int32))]))) ?_ ?_
      · intro t k
        refine XS.icmpNo X437.here hx rfl (hb hby at_276) rfl (teq hz).2 ?_
        refine XS.iconst X437.here hx rfl (hb hby at_279) ?_
        refine XS.goto X437.here hx rfl (pc0 := 280) (pc' := 284) rfl (hb hby at_280) (by decide) (by decide) ?_
        exact k
      exact K _ _ _ _ _ (X437.more (Nat.le_trans (Nat.add_le_add_right (Nat.add_le_add_right (Nat.add_le_add_right (Nat.add_le_add_right hcl _) _) _) _) (by decide)) (Nat.le_trans (Nat.add_le_add_right (Nat.add_le_add_right (Nat.add_le_add_right (Nat.add_le_add_right hsl _) _) _) _) (by decide))) eq437 N437
  · skip
    refine own_pre (A := (T432.setTop (mkF m 260 (own_l142 p0 p1 p2 p3 p4 p5 pf0 pl0 pf1 pl1 pq pn bld ac431) []))) ?_ ?_
    · intro t k
      refine XS.ifYes X432.here hx rfl (pc0 := 239) (pc' := 260) rfl (hb hby at_239) rfl ((if0 _ _).trans (feq hc433).2) (by decide) (by decide) ?_
      exact k
    refine own_pre (A := (T432.setTop (mkF m 271 (own_l144 p0 p1 p2 p3 p4 p5 pf0 pl0 pf1 pl1 pq pn bld ac431) [(.int pq), (.ref ac431)]))) ?_ ?_
    · intro t k
      refine XS.iconst X432.here hx rfl (hb hby at_260) ?_
      refine XS.goto X432.here hx rfl (pc0 := 261) (pc' := 265) rfl (hb hby at_261) (by decide) (by decide) ?_
      refine XS.istore X432.here hx rfl (hb hby at_265) rfl (l' := (own_l144 p0 p1 p2 p3 p4 p5 pf0 pl0 pf1 pl1 pq pn bld ac431)) rfl ?_
      refine XS.aload X432.here hx rfl (hb hby at_267) rfl rfl ?_
      refine XS.iload X432.here hx rfl (hb hby at_269) rfl ?_
      exact k
    obtain ⟨cq438, kq438, q438a, q438b, q438c⟩ := isOf hZ eq432 Eq431
    obtain ⟨_, _, ⟨T438, L438, k438, n438⟩, -, X438, ⟨Lc438, hQ438, l438, y438, z438⟩, st438⟩ := X432.virtualBack hx (y := (⟨"com/example/otito/otito/chain/CodePointSet", "contains", "(I)Z"⟩ : MethodName)) (z := (⟨"com/example/otito/otito/chain/CodePointSet", "contains", "(I)Z"⟩ : MethodName)) hown (mvT hZ (own_w hw 76 rfl)) (mvT hZ (own_w hw 77 rfl)) (notFace_of_selects (args := #[]) (mvT hZ (own_w hw 79 rfl))) (mvT hZ (own_w hw 79 rfl)) (mvT hZ (own_w hw 78 rfl)) (by decide) (backOf (W := 0) (rm16_2 l Z a0 hw [] ac431 pq ab431 kq431 pf1 (own_max pl1 pl0) T431.heap n0 Zs431 Fq431 Vq431) hZ (own_w hw 80 rfl) (own_w hw 63 rfl) (by decide) (by decide)) q438a q438c (g := (mkF m 271 (own_l144 p0 p1 p2 p3 p4 p5 pf0 pl0 pf1 pl1 pq pn bld ac431) [(.int pq), (.ref ac431)])) rfl (by rw [hml]; rfl) (Steps.refl _) (argsL := [(.int pq)]) (rest := []) (lenOf own_pd9 rfl) rfl (by show 2 * 0 + _ ≤ _; exact Nat.le_of_eq rfl) (hb hby at_271) (fun _ _ => ⟨rfl, eq432, (Nat.le_trans (Nat.add_le_add_right (Nat.add_le_add_right (Nat.add_le_add_right hcl _) _) _) (by decide)), (Nat.le_trans (Nat.add_le_add_right (Nat.add_le_add_right (Nat.add_le_add_right hsl _) _) _) (by decide))⟩)
    dsimp only [Pt.U, Pt.locs, Pt.cells, Pt.slots] at X438 l438 y438 z438 st438 hQ438
    subst y438 z438
    obtain ⟨rfl, Nq438, eq438⟩ := hQ438
    have N438 := own_frl l438 N432 Nq438
    refine own_pre (fun t k => st438.trans k) ?_
    refine own_pre (A := (T438.setTop (mkF m 276 (own_l144 p0 p1 p2 p3 p4 p5 pf0 pl0 pf1 pl1 pq pn bld ac431) [(.int (1 : Int32)), (.int (own_ct2 pq pf1 (own_max pl1 pl0)))]))) ?_ ?_
    · intro t k
      refine XS.iload X438.here hx rfl (hb hby at_274) rfl ?_
      exact k
    have hz : (own_ct2 pq pf1 (own_max pl1 pl0)) = (1 : Int32) := (own_finO pq pf1 pl1 pf0 pl0 hB hA ho hv).trans (if_neg fun z => hc433 z.2)
    refine own_pre (A := (T438.setTop (mkF m 284 (own_l144 p0 p1 p2 p3 p4 p5 pf0 pl0 pf1 pl1 pq pn bld ac431) [(.int (1 : Int32))]))) ?_ ?_
    · intro t k
      refine XS.icmpNo X438.here hx rfl (hb hby at_276) rfl (teq hz).2 ?_
      refine XS.iconst X438.here hx rfl (hb hby at_279) ?_
      refine XS.goto X438.here hx rfl (pc0 := 280) (pc' := 284) rfl (hb hby at_280) (by decide) (by decide) ?_
      exact k
    exact K _ _ _ _ _ (X438.more (Nat.le_trans (Nat.add_le_add_right (Nat.add_le_add_right (Nat.add_le_add_right hcl _) _) _) (by decide)) (Nat.le_trans (Nat.add_le_add_right (Nat.add_le_add_right (Nat.add_le_add_right hsl _) _) _) (by decide))) eq438 N438
set_option maxRecDepth 65536 in
set_option maxHeartbeats 40000000 in
theorem own_su_gtD {p : Program} {l : Launch} {e : Env} {s : State} {m : MethodId} {args : Array Value} {below : List Frame} {meth : Method} {c : Code} {T0 : State} {locs : List Loc} {Z : State} {n0 : Nat} {h0 : Heap} {C : State → Outcome → Prop} {a0 : Array Value} {cells slots : Nat} {bld ar : Addr} {kr : ClassId} {pw pn pq p0 p1 p2 p3 p4 p5 pf0 pl0 pf1 pl1 : Int32} {wl vs : List Value} {nn np : Nat} {qx qy : Int64} (hw : ∀ d ∈ tables_1, d.before a0 Z = true) (X0 : Stand p l e room_1 s m args below meth c T0 locs cells slots) (hx : p.tables.exec = Jvm.exec) (hZ : Z.Warmed39 s.vm) (hown : s.vm.findClass "com/example/otito/otito/chain/CodePointSetAddPinLaw" = some m.cls) (hml : c.maxLocals = 15) (hby : c.code = code) (e0 : T0.heap = h0) (N0 : Fr n0 locs) (Z0 : n0 ≤ h0.size) (hcl : cells ≤ 20) (hsl : slots ≤ 130) (Ea : Exa Z h0 bld "com/example/otito/otito/chain/CodePointSet$Builder") (Fr_ : Fld Z h0 bld "com/example/otito/otito/chain/CodePointSet$Builder" "ranges" "[J" (.ref ar)) (Fc : Fld Z h0 bld "com/example/otito/otito/chain/CodePointSet$Builder" "count" "I" (.int pn)) (Vr : Arv Z h0 ar kr .long pw wl (.long (0 : Int64))) (Er : Exa Z h0 ar "[J") (hpn : pn = Int32.ofNat nn) (hnn : nn ≤ 9) (hzn : ¬ pw < pn) (HS : own_HS l Z n0 pn wl vs) (hn1 : ¬ pn < (1 : Int32)) (hn2 : ¬ pn < (2 : Int32)) (h1p : 1 ≤ np) (hpl : np < nn) (hvl : ∀ x, x < np → vs.getD x (.long (0 : Int64)) = .long qy) (hvh : ∀ x, np ≤ x → x < nn → vs.getD x (.long (0 : Int64)) = .long qx) (hux : (((qx.toUInt64 >>> ((32 : Int32) &&& 0x3f).toInt64.toUInt64).toInt64).toInt32) = pf0) (hlx : (qx.toInt32) = pl0) (huy : (((qy.toUInt64 >>> ((32 : Int32) &&& 0x3f).toInt64.toUInt64).toInt64).toInt32) = pf1) (hly : (qy.toInt32) = pl1) (hA : 0 ≤ pf0.toInt ∧ pf0.toInt ≤ pl0.toInt ∧ pl0.toInt < 1114112) (hB : 0 ≤ pf1.toInt ∧ pf1.toInt ≤ pl1.toInt ∧ pl1.toInt < 1114112) (ho : pf1.toInt ≤ pf0.toInt) (hv : (pl1 + (1 : Int32)) < pf0)
    (K : ∀ (T' : State) (h' : Heap) (locs' : List Loc) (ac' : Addr) (ex' : Int32), Stand p l e room_1 s m args below meth c T' locs' 24 192 → T'.heap = h' → Fr n0 locs' → ∃ s₂ o, Steps p.tables e below (T'.setTop (mkF m 284 #[.val (.int p0), .val (.int p1), .val (.int p2), .val (.int p3), .val (.int p4), .val (.int p5), .val (.int pf0), .val (.int pl0), .val (.int pf1), .val (.int pl1), .val (.int pq), .val (.int pn), .val (.ref bld), .val (.ref ac'), .val (.int ex')] [(.int (1 : Int32))])) s₂ ∧ C s₂ o) :
    ∃ s₂ o, Steps p.tables e below (T0.setTop (mkF m 217 (own_l141 p0 p1 p2 p3 p4 p5 pf0 pl0 pf1 pl1 pq pn bld) [])) s₂ ∧ C s₂ o := by
  refine own_pre (A := (T0.setTop (mkF m 219 (own_l141 p0 p1 p2 p3 p4 p5 pf0 pl0 pf1 pl1 pq pn bld) [(.ref bld)]))) ?_ ?_
  · intro t k
    refine XS.aload X0.here hx rfl (hb hby at_217) rfl rfl ?_
    exact k
  obtain ⟨cq439, kq439, q439a, q439b, q439c⟩ := isOf hZ e0 Ea
  obtain ⟨_, _, ⟨T439, L439, k439, n439⟩, -, X439, ⟨Lc439, hQ439, l439, y439, z439⟩, st439⟩ := X0.virtualBack hx (y := (⟨"com/example/otito/otito/chain/CodePointSet$Builder", "build", "()Lcom/example/otito/otito/chain/CodePointSet;"⟩ : MethodName)) (z := (⟨"com/example/otito/otito/chain/CodePointSet$Builder", "build", "()Lcom/example/otito/otito/chain/CodePointSet;"⟩ : MethodName)) hown (mvT hZ (own_w hw 32 rfl)) (mvT hZ (own_w hw 33 rfl)) (notFace_of_selects (args := #[]) (mvT hZ (own_w hw 35 rfl))) (mvT hZ (own_w hw 35 rfl)) (mvT hZ (own_w hw 34 rfl)) (by decide) (backOf (W := 0) (rm7_D l Z a0 hw [] bld ar kr pw wl pn vs nn np qy pf1 pl1 qx pf0 pl0 h0 n0 Z0 Ea Fr_ Fc Vr Er hpn hnn hzn HS h1p hpl hvl hvh huy hly hux hlx (own_nlt1 _ _ hB) hv (own_nlt1 _ _ hA)) hZ (own_w hw 36 rfl) (own_w hw 15 rfl) (by decide) (by decide)) q439a q439c (g := (mkF m 219 (own_l141 p0 p1 p2 p3 p4 p5 pf0 pl0 pf1 pl1 pq pn bld) [(.ref bld)])) rfl (by rw [hml]; rfl) (Steps.refl _) (argsL := []) (rest := []) (lenOf own_pd8 rfl) rfl (by show 2 * 0 + _ ≤ _; exact Nat.le_of_eq rfl) (hb hby at_219) (fun _ _ => ⟨rfl, e0, (Nat.le_trans (Nat.add_le_add_right hcl _) (by decide)), (Nat.le_trans (Nat.add_le_add_right hsl _) (by decide))⟩)
  dsimp only [Pt.U, Pt.locs, Pt.cells, Pt.slots] at X439 l439 y439 z439 st439 hQ439
  subst y439 z439
  obtain ⟨Nq439, ac439, ab439, kq439, rfl, Fq439, Vq439, Eq439, Kq439⟩ := hQ439
  have N439 := own_frl l439 N0 Nq439
  refine own_pre (fun t k => st439.trans k) ?_
  have Zs439 : n0 ≤ T439.heap.size := Nat.le_trans Z0 Kq439.1
  have Kc439 : Keep h0 T439.heap [] := (Keep.refl h0 []).trans Kq439 all0
  refine own_pre (A := (T439.setTop (mkF m 236 (own_l142 p0 p1 p2 p3 p4 p5 pf0 pl0 pf1 pl1 pq pn bld ac439) [(.int pl0), (.int pf0), (.int pq)]))) ?_ ?_
  · intro t k
    refine XS.astore X439.here hx rfl (hb hby at_222) rfl rfl (l' := (own_l142 p0 p1 p2 p3 p4 p5 pf0 pl0 pf1 pl1 pq pn bld ac439)) rfl ?_
    refine XS.iload X439.here hx rfl (hb hby at_224) rfl ?_
    refine XS.iconst X439.here hx rfl (hb hby at_226) ?_
    refine XS.icmpNo X439.here hx rfl (hb hby at_227) rfl (flt hn1).1 ?_
    refine XS.iload X439.here hx rfl (hb hby at_230) rfl ?_
    refine XS.iload X439.here hx rfl (hb hby at_232) rfl ?_
    refine XS.iload X439.here hx rfl (hb hby at_234) rfl ?_
    exact k
  obtain ⟨_, _, ⟨T440, L440, k440, n440⟩, -, X440, ⟨Lc440, hQ440, l440, y440, z440⟩, st440⟩ := Jvm.LawKit.callS X439 hx (y := (⟨"com/example/otito/otito/chain/CodePointSetAddPinLaw", "in", "(III)Z"⟩ : MethodName)) hown (mvT hZ (own_w hw 73 rfl)) (mvT hZ (own_w hw 74 rfl)) (mvT hZ (own_w hw 2 rfl)) (mvT hZ (own_w hw 75 rfl)) (by decide) (backOf (W := 0) (rm15 l Z a0 hw [] pq pf0 pl0 T439.heap n0 Zs439) hZ (own_w hw 75 rfl) (own_w hw 2 rfl) (by decide) (by decide)) (g := (mkF m 236 (own_l142 p0 p1 p2 p3 p4 p5 pf0 pl0 pf1 pl1 pq pn bld ac439) [(.int pl0), (.int pf0), (.int pq)])) rfl (by rw [hml]; rfl) (argsL := [(.int pq), (.int pf0), (.int pl0)]) (rest := []) (lenOf own_pd10 rfl) rfl (by show 2 * 0 + _ ≤ _; exact Nat.le_of_eq rfl) (hb hby at_236) (fun _ _ => ⟨rfl, rfl, (Nat.le_trans (Nat.add_le_add_right (Nat.add_le_add_right hcl _) _) (by decide)), (Nat.le_trans (Nat.add_le_add_right (Nat.add_le_add_right hsl _) _) (by decide))⟩)
  dsimp only [Pt.U, Pt.locs, Pt.cells, Pt.slots] at X440 l440 y440 z440 st440 hQ440
  subst y440 z440
  obtain ⟨rfl, Nq440, eq440⟩ := hQ440
  have N440 := own_frl l440 N439 Nq440
  refine own_pre (fun t k => st440 t k) ?_
  by_cases hc441 : (own_inn pq pf0 pl0) = (0 : Int32)
  · skip
    refine own_pre (A := (T440.setTop (mkF m 242 (own_l142 p0 p1 p2 p3 p4 p5 pf0 pl0 pf1 pl1 pq pn bld ac439) []))) ?_ ?_
    · intro t k
      refine XS.ifNo X440.here hx rfl (hb hby at_239) rfl ((if0 _ _).trans (teq hc441).2) ?_
      exact k
    refine own_pre (A := (T440.setTop (mkF m 254 (own_l142 p0 p1 p2 p3 p4 p5 pf0 pl0 pf1 pl1 pq pn bld ac439) [(.int pl1), (.int pf1), (.int pq)]))) ?_ ?_
    · intro t k
      refine XS.iload X440.here hx rfl (hb hby at_242) rfl ?_
      refine XS.iconst X440.here hx rfl (hb hby at_244) ?_
      refine XS.icmpNo X440.here hx rfl (hb hby at_245) rfl (flt hn2).1 ?_
      refine XS.iload X440.here hx rfl (hb hby at_248) rfl ?_
      refine XS.iload X440.here hx rfl (hb hby at_250) rfl ?_
      refine XS.iload X440.here hx rfl (hb hby at_252) rfl ?_
      exact k
    obtain ⟨_, _, ⟨T442, L442, k442, n442⟩, -, X442, ⟨Lc442, hQ442, l442, y442, z442⟩, st442⟩ := Jvm.LawKit.callS X440 hx (y := (⟨"com/example/otito/otito/chain/CodePointSetAddPinLaw", "in", "(III)Z"⟩ : MethodName)) hown (mvT hZ (own_w hw 73 rfl)) (mvT hZ (own_w hw 74 rfl)) (mvT hZ (own_w hw 2 rfl)) (mvT hZ (own_w hw 75 rfl)) (by decide) (backOf (W := 0) (rm15 l Z a0 hw [] pq pf1 pl1 T439.heap n0 Zs439) hZ (own_w hw 75 rfl) (own_w hw 2 rfl) (by decide) (by decide)) (g := (mkF m 254 (own_l142 p0 p1 p2 p3 p4 p5 pf0 pl0 pf1 pl1 pq pn bld ac439) [(.int pl1), (.int pf1), (.int pq)])) rfl (by rw [hml]; rfl) (argsL := [(.int pq), (.int pf1), (.int pl1)]) (rest := []) (lenOf own_pd10 rfl) rfl (by show 2 * 0 + _ ≤ _; exact Nat.le_of_eq rfl) (hb hby at_254) (fun _ _ => ⟨rfl, eq440, (Nat.le_trans (Nat.add_le_add_right (Nat.add_le_add_right (Nat.add_le_add_right hcl _) _) _) (by decide)), (Nat.le_trans (Nat.add_le_add_right (Nat.add_le_add_right (Nat.add_le_add_right hsl _) _) _) (by decide))⟩)
    dsimp only [Pt.U, Pt.locs, Pt.cells, Pt.slots] at X442 l442 y442 z442 st442 hQ442
    subst y442 z442
    obtain ⟨rfl, Nq442, eq442⟩ := hQ442
    have N442 := own_frl l442 N440 Nq442
    refine own_pre (fun t k => st442 t k) ?_
    by_cases hc443 : (own_inn pq pf1 pl1) = (0 : Int32)
    · skip
      refine own_pre (A := (T442.setTop (mkF m 264 (own_l142 p0 p1 p2 p3 p4 p5 pf0 pl0 pf1 pl1 pq pn bld ac439) []))) ?_ ?_
      · intro t k
        refine XS.ifYes X442.here hx rfl (pc0 := 257) (pc' := 264) rfl (hb hby at_257) rfl ((if0 _ _).trans (teq hc443).1) (by decide) (by decide) ?_
        exact k
      refine own_pre (A := (T442.setTop (mkF m 271 (own_l143 p0 p1 p2 p3 p4 p5 pf0 pl0 pf1 pl1 pq pn bld ac439) [(.int pq), (.ref ac439)]))) ?_ ?_
      · intro t k
        refine XS.iconst X442.here hx rfl (hb hby at_264) ?_
        refine XS.istore X442.here hx rfl (hb hby at_265) rfl (l' := (own_l143 p0 p1 p2 p3 p4 p5 pf0 pl0 pf1 pl1 pq pn bld ac439)) rfl ?_
        refine XS.aload X442.here hx rfl (hb hby at_267) rfl rfl ?_
        refine XS.iload X442.here hx rfl (hb hby at_269) rfl ?_
        exact k
      obtain ⟨cq444, kq444, q444a, q444b, q444c⟩ := isOf hZ eq442 Eq439
      obtain ⟨_, _, ⟨T444, L444, k444, n444⟩, -, X444, ⟨Lc444, hQ444, l444, y444, z444⟩, st444⟩ := X442.virtualBack hx (y := (⟨"com/example/otito/otito/chain/CodePointSet", "contains", "(I)Z"⟩ : MethodName)) (z := (⟨"com/example/otito/otito/chain/CodePointSet", "contains", "(I)Z"⟩ : MethodName)) hown (mvT hZ (own_w hw 76 rfl)) (mvT hZ (own_w hw 77 rfl)) (notFace_of_selects (args := #[]) (mvT hZ (own_w hw 79 rfl))) (mvT hZ (own_w hw 79 rfl)) (mvT hZ (own_w hw 78 rfl)) (by decide) (backOf (W := 0) (rm16_4 l Z a0 hw [] ac439 pq ab439 kq439 pf1 pl1 pf0 pl0 T439.heap n0 Zs439 Fq439 Vq439) hZ (own_w hw 80 rfl) (own_w hw 63 rfl) (by decide) (by decide)) q444a q444c (g := (mkF m 271 (own_l143 p0 p1 p2 p3 p4 p5 pf0 pl0 pf1 pl1 pq pn bld ac439) [(.int pq), (.ref ac439)])) rfl (by rw [hml]; rfl) (Steps.refl _) (argsL := [(.int pq)]) (rest := []) (lenOf own_pd9 rfl) rfl (by show 2 * 0 + _ ≤ _; exact Nat.le_of_eq rfl) (hb hby at_271) (fun _ _ => ⟨rfl, eq442, (Nat.le_trans (Nat.add_le_add_right (Nat.add_le_add_right (Nat.add_le_add_right (Nat.add_le_add_right hcl _) _) _) _) (by decide)), (Nat.le_trans (Nat.add_le_add_right (Nat.add_le_add_right (Nat.add_le_add_right (Nat.add_le_add_right hsl _) _) _) _) (by decide))⟩)
      dsimp only [Pt.U, Pt.locs, Pt.cells, Pt.slots] at X444 l444 y444 z444 st444 hQ444
      subst y444 z444
      obtain ⟨rfl, Nq444, eq444⟩ := hQ444
      have N444 := own_frl l444 N442 Nq444
      refine own_pre (fun t k => st444.trans k) ?_
      refine own_pre (A := (T444.setTop (mkF m 276 (own_l143 p0 p1 p2 p3 p4 p5 pf0 pl0 pf1 pl1 pq pn bld ac439) [(.int (0 : Int32)), (.int (own_ct4 pq pf1 pl1 pf0 pl0))]))) ?_ ?_
      · intro t k
        refine XS.iload X444.here hx rfl (hb hby at_274) rfl ?_
        exact k
      have hz : (own_ct4 pq pf1 pl1 pf0 pl0) = (0 : Int32) := (own_finD pq pf1 pl1 pf0 pl0 hB hA hv).trans (if_pos ⟨hc443, hc441⟩)
      refine own_pre (A := (T444.setTop (mkF m 284 (own_l143 p0 p1 p2 p3 p4 p5 pf0 pl0 pf1 pl1 pq pn bld ac439) [(.int (1 : Int32))]))) ?_ ?_
      · intro t k
        refine XS.icmpNo X444.here hx rfl (hb hby at_276) rfl (teq hz).2 ?_
        refine XS.iconst X444.here hx rfl (hb hby at_279) ?_
        refine XS.goto X444.here hx rfl (pc0 := 280) (pc' := 284) rfl (hb hby at_280) (by decide) (by decide) ?_
        exact k
      exact K _ _ _ _ _ (X444.more (Nat.le_trans (Nat.add_le_add_right (Nat.add_le_add_right (Nat.add_le_add_right (Nat.add_le_add_right hcl _) _) _) _) (by decide)) (Nat.le_trans (Nat.add_le_add_right (Nat.add_le_add_right (Nat.add_le_add_right (Nat.add_le_add_right hsl _) _) _) _) (by decide))) eq444 N444
    · skip
      refine own_pre (A := (T442.setTop (mkF m 260 (own_l142 p0 p1 p2 p3 p4 p5 pf0 pl0 pf1 pl1 pq pn bld ac439) []))) ?_ ?_
      · intro t k
        refine XS.ifNo X442.here hx rfl (hb hby at_257) rfl ((if0 _ _).trans (feq hc443).1) ?_
        exact k
      refine own_pre (A := (T442.setTop (mkF m 271 (own_l144 p0 p1 p2 p3 p4 p5 pf0 pl0 pf1 pl1 pq pn bld ac439) [(.int pq), (.ref ac439)]))) ?_ ?_
      · intro t k
        refine XS.iconst X442.here hx rfl (hb hby at_260) ?_
        refine XS.goto X442.here hx rfl (pc0 := 261) (pc' := 265) rfl (hb hby at_261) (by decide) (by decide) ?_
        refine XS.istore X442.here hx rfl (hb hby at_265) rfl (l' := (own_l144 p0 p1 p2 p3 p4 p5 pf0 pl0 pf1 pl1 pq pn bld ac439)) rfl ?_
        refine XS.aload X442.here hx rfl (hb hby at_267) rfl rfl ?_
        refine XS.iload X442.here hx rfl (hb hby at_269) rfl ?_
        exact k
      obtain ⟨cq445, kq445, q445a, q445b, q445c⟩ := isOf hZ eq442 Eq439
      obtain ⟨_, _, ⟨T445, L445, k445, n445⟩, -, X445, ⟨Lc445, hQ445, l445, y445, z445⟩, st445⟩ := X442.virtualBack hx (y := (⟨"com/example/otito/otito/chain/CodePointSet", "contains", "(I)Z"⟩ : MethodName)) (z := (⟨"com/example/otito/otito/chain/CodePointSet", "contains", "(I)Z"⟩ : MethodName)) hown (mvT hZ (own_w hw 76 rfl)) (mvT hZ (own_w hw 77 rfl)) (notFace_of_selects (args := #[]) (mvT hZ (own_w hw 79 rfl))) (mvT hZ (own_w hw 79 rfl)) (mvT hZ (own_w hw 78 rfl)) (by decide) (backOf (W := 0) (rm16_4 l Z a0 hw [] ac439 pq ab439 kq439 pf1 pl1 pf0 pl0 T439.heap n0 Zs439 Fq439 Vq439) hZ (own_w hw 80 rfl) (own_w hw 63 rfl) (by decide) (by decide)) q445a q445c (g := (mkF m 271 (own_l144 p0 p1 p2 p3 p4 p5 pf0 pl0 pf1 pl1 pq pn bld ac439) [(.int pq), (.ref ac439)])) rfl (by rw [hml]; rfl) (Steps.refl _) (argsL := [(.int pq)]) (rest := []) (lenOf own_pd9 rfl) rfl (by show 2 * 0 + _ ≤ _; exact Nat.le_of_eq rfl) (hb hby at_271) (fun _ _ => ⟨rfl, eq442, (Nat.le_trans (Nat.add_le_add_right (Nat.add_le_add_right (Nat.add_le_add_right (Nat.add_le_add_right hcl _) _) _) _) (by decide)), (Nat.le_trans (Nat.add_le_add_right (Nat.add_le_add_right (Nat.add_le_add_right (Nat.add_le_add_right hsl _) _) _) _) (by decide))⟩)
      dsimp only [Pt.U, Pt.locs, Pt.cells, Pt.slots] at X445 l445 y445 z445 st445 hQ445
      subst y445 z445
      obtain ⟨rfl, Nq445, eq445⟩ := hQ445
      have N445 := own_frl l445 N442 Nq445
      refine own_pre (fun t k => st445.trans k) ?_
      refine own_pre (A := (T445.setTop (mkF m 276 (own_l144 p0 p1 p2 p3 p4 p5 pf0 pl0 pf1 pl1 pq pn bld ac439) [(.int (1 : Int32)), (.int (own_ct4 pq pf1 pl1 pf0 pl0))]))) ?_ ?_
      · intro t k
        refine XS.iload X445.here hx rfl (hb hby at_274) rfl ?_
        exact k
      have hz : (own_ct4 pq pf1 pl1 pf0 pl0) = (1 : Int32) := (own_finD pq pf1 pl1 pf0 pl0 hB hA hv).trans (if_neg fun z => hc443 z.1)
      refine own_pre (A := (T445.setTop (mkF m 284 (own_l144 p0 p1 p2 p3 p4 p5 pf0 pl0 pf1 pl1 pq pn bld ac439) [(.int (1 : Int32))]))) ?_ ?_
      · intro t k
        refine XS.icmpNo X445.here hx rfl (hb hby at_276) rfl (teq hz).2 ?_
        refine XS.iconst X445.here hx rfl (hb hby at_279) ?_
        refine XS.goto X445.here hx rfl (pc0 := 280) (pc' := 284) rfl (hb hby at_280) (by decide) (by decide) ?_
        exact k
      exact K _ _ _ _ _ (X445.more (Nat.le_trans (Nat.add_le_add_right (Nat.add_le_add_right (Nat.add_le_add_right (Nat.add_le_add_right hcl _) _) _) _) (by decide)) (Nat.le_trans (Nat.add_le_add_right (Nat.add_le_add_right (Nat.add_le_add_right (Nat.add_le_add_right hsl _) _) _) _) (by decide))) eq445 N445
  · skip
    refine own_pre (A := (T440.setTop (mkF m 260 (own_l142 p0 p1 p2 p3 p4 p5 pf0 pl0 pf1 pl1 pq pn bld ac439) []))) ?_ ?_
    · intro t k
      refine XS.ifYes X440.here hx rfl (pc0 := 239) (pc' := 260) rfl (hb hby at_239) rfl ((if0 _ _).trans (feq hc441).2) (by decide) (by decide) ?_
      exact k
    refine own_pre (A := (T440.setTop (mkF m 271 (own_l144 p0 p1 p2 p3 p4 p5 pf0 pl0 pf1 pl1 pq pn bld ac439) [(.int pq), (.ref ac439)]))) ?_ ?_
    · intro t k
      refine XS.iconst X440.here hx rfl (hb hby at_260) ?_
      refine XS.goto X440.here hx rfl (pc0 := 261) (pc' := 265) rfl (hb hby at_261) (by decide) (by decide) ?_
      refine XS.istore X440.here hx rfl (hb hby at_265) rfl (l' := (own_l144 p0 p1 p2 p3 p4 p5 pf0 pl0 pf1 pl1 pq pn bld ac439)) rfl ?_
      refine XS.aload X440.here hx rfl (hb hby at_267) rfl rfl ?_
      refine XS.iload X440.here hx rfl (hb hby at_269) rfl ?_
      exact k
    obtain ⟨cq446, kq446, q446a, q446b, q446c⟩ := isOf hZ eq440 Eq439
    obtain ⟨_, _, ⟨T446, L446, k446, n446⟩, -, X446, ⟨Lc446, hQ446, l446, y446, z446⟩, st446⟩ := X440.virtualBack hx (y := (⟨"com/example/otito/otito/chain/CodePointSet", "contains", "(I)Z"⟩ : MethodName)) (z := (⟨"com/example/otito/otito/chain/CodePointSet", "contains", "(I)Z"⟩ : MethodName)) hown (mvT hZ (own_w hw 76 rfl)) (mvT hZ (own_w hw 77 rfl)) (notFace_of_selects (args := #[]) (mvT hZ (own_w hw 79 rfl))) (mvT hZ (own_w hw 79 rfl)) (mvT hZ (own_w hw 78 rfl)) (by decide) (backOf (W := 0) (rm16_4 l Z a0 hw [] ac439 pq ab439 kq439 pf1 pl1 pf0 pl0 T439.heap n0 Zs439 Fq439 Vq439) hZ (own_w hw 80 rfl) (own_w hw 63 rfl) (by decide) (by decide)) q446a q446c (g := (mkF m 271 (own_l144 p0 p1 p2 p3 p4 p5 pf0 pl0 pf1 pl1 pq pn bld ac439) [(.int pq), (.ref ac439)])) rfl (by rw [hml]; rfl) (Steps.refl _) (argsL := [(.int pq)]) (rest := []) (lenOf own_pd9 rfl) rfl (by show 2 * 0 + _ ≤ _; exact Nat.le_of_eq rfl) (hb hby at_271) (fun _ _ => ⟨rfl, eq440, (Nat.le_trans (Nat.add_le_add_right (Nat.add_le_add_right (Nat.add_le_add_right hcl _) _) _) (by decide)), (Nat.le_trans (Nat.add_le_add_right (Nat.add_le_add_right (Nat.add_le_add_right hsl _) _) _) (by decide))⟩)
    dsimp only [Pt.U, Pt.locs, Pt.cells, Pt.slots] at X446 l446 y446 z446 st446 hQ446
    subst y446 z446
    obtain ⟨rfl, Nq446, eq446⟩ := hQ446
    have N446 := own_frl l446 N440 Nq446
    refine own_pre (fun t k => st446.trans k) ?_
    refine own_pre (A := (T446.setTop (mkF m 276 (own_l144 p0 p1 p2 p3 p4 p5 pf0 pl0 pf1 pl1 pq pn bld ac439) [(.int (1 : Int32)), (.int (own_ct4 pq pf1 pl1 pf0 pl0))]))) ?_ ?_
    · intro t k
      refine XS.iload X446.here hx rfl (hb hby at_274) rfl ?_
      exact k
    have hz : (own_ct4 pq pf1 pl1 pf0 pl0) = (1 : Int32) := (own_finD pq pf1 pl1 pf0 pl0 hB hA hv).trans (if_neg fun z => hc441 z.2)
    refine own_pre (A := (T446.setTop (mkF m 284 (own_l144 p0 p1 p2 p3 p4 p5 pf0 pl0 pf1 pl1 pq pn bld ac439) [(.int (1 : Int32))]))) ?_ ?_
    · intro t k
      refine XS.icmpNo X446.here hx rfl (hb hby at_276) rfl (teq hz).2 ?_
      refine XS.iconst X446.here hx rfl (hb hby at_279) ?_
      refine XS.goto X446.here hx rfl (pc0 := 280) (pc' := 284) rfl (hb hby at_280) (by decide) (by decide) ?_
      exact k
    exact K _ _ _ _ _ (X446.more (Nat.le_trans (Nat.add_le_add_right (Nat.add_le_add_right (Nat.add_le_add_right hcl _) _) _) (by decide)) (Nat.le_trans (Nat.add_le_add_right (Nat.add_le_add_right (Nat.add_le_add_right hsl _) _) _) (by decide))) eq446 N446
theorem own_Al_of {Z : State} {h : Heap} {a : Addr} {k : ClassId} {ty : FieldType} {n : Int32} {vs : List Value} {dv : Value} (F : Arv Z h a k ty n vs dv) : own_Al Z h a ty n := by
  obtain ⟨c, A, -, r2, r3, -, -⟩ := F
  exact ⟨c, A, r2, r3⟩
theorem own_g1 (n : Nat) (a d : Value) : ∀ x, x < n → (List.replicate n a).getD x d = a := fun x h => by simp [List.getD, List.getElem?_replicate, h]
theorem own_gl (n k : Nat) (a b d : Value) : ∀ x, x < n → (List.replicate n a ++ List.replicate k b).getD x d = a := fun x h => by
  simp [List.getD, List.getElem?_append, List.getElem?_replicate, h]
theorem own_gh (n k u : Nat) (a b d : Value) (hu : n + k = u) : ∀ x, n ≤ x → x < u → (List.replicate n a ++ List.replicate k b).getD x d = b := fun x h1 h2 => by
  have h3 : ¬ x < n := by omega
  have h4 : x - n < k := by omega
  simp [List.getD, List.getElem?_append, List.getElem?_replicate, h3, h4]
theorem own_hs_0_eq (l : Launch) (Z : State) (a0 : Array Value) (hw : ∀ d ∈ tables_1, d.before a0 Z = true) (n0 : Nat) (qx qy : Int64) : own_HS l Z n0 (0 : Int32) [(.long (0 : Int64)), (.long (0 : Int64)), (.long (0 : Int64)), (.long (0 : Int64)), (.long (0 : Int64)), (.long (0 : Int64)), (.long (0 : Int64)), (.long (0 : Int64))] (List.replicate 0 (.long qx)) := fun h ad kd Zq Vq ga =>
  own_sS l Z a0 hw [] ad (fun h' L => Fr n0 L ∧ Keep h h' [ad] ∧ Arv Z h' ad kd .long (0 : Int32) (List.replicate 0 (Value.long qx)) (.long (0 : Int64))) (0 : Int32) h n0 Zq (own_s4 l Z a0 hw [] ad (0 : Int32) _ h n0 Zq (own_s5 l Z a0 hw [] ad (0 : Int32) _ h n0 Zq (rm12_0_eq l Z a0 hw [] ad kd qx qy h n0 Zq (show Arv Z h ad kd .long (0 : Int32) [] (.long (0 : Int64)) from Vq) ga) (by decide) (by decide))) (own_Al_of Vq)
theorem own_hs_1_eq (l : Launch) (Z : State) (a0 : Array Value) (hw : ∀ d ∈ tables_1, d.before a0 Z = true) (n0 : Nat) (qx qy : Int64) : own_HS l Z n0 (1 : Int32) [(.long qx), (.long (0 : Int64)), (.long (0 : Int64)), (.long (0 : Int64)), (.long (0 : Int64)), (.long (0 : Int64)), (.long (0 : Int64)), (.long (0 : Int64))] (List.replicate 1 (.long qx)) := fun h ad kd Zq Vq ga =>
  own_sS l Z a0 hw [] ad (fun h' L => Fr n0 L ∧ Keep h h' [ad] ∧ Arv Z h' ad kd .long (1 : Int32) (List.replicate 1 (Value.long qx)) (.long (0 : Int64))) (1 : Int32) h n0 Zq (own_s4 l Z a0 hw [] ad (1 : Int32) _ h n0 Zq (own_s5 l Z a0 hw [] ad (1 : Int32) _ h n0 Zq (rm12_1_eq l Z a0 hw [] ad kd qx qy h n0 Zq (show Arv Z h ad kd .long (1 : Int32) [(.long qx)] (.long (0 : Int64)) from Vq) ga) (by decide) (by decide))) (own_Al_of Vq)
theorem own_hs_2_lt (l : Launch) (Z : State) (a0 : Array Value) (hw : ∀ d ∈ tables_1, d.before a0 Z = true) (n0 : Nat) (qx qy : Int64) (hxy : qx < qy) : own_HS l Z n0 (2 : Int32) [(.long qx), (.long qy), (.long (0 : Int64)), (.long (0 : Int64)), (.long (0 : Int64)), (.long (0 : Int64)), (.long (0 : Int64)), (.long (0 : Int64))] (List.replicate 1 (.long qx) ++ List.replicate 1 (.long qy)) := fun h ad kd Zq Vq ga =>
  own_sS l Z a0 hw [] ad (fun h' L => Fr n0 L ∧ Keep h h' [ad] ∧ Arv Z h' ad kd .long (2 : Int32) (List.replicate 1 (Value.long qx) ++ List.replicate 1 (Value.long qy)) (.long (0 : Int64))) (2 : Int32) h n0 Zq (own_s4 l Z a0 hw [] ad (2 : Int32) _ h n0 Zq (own_s5 l Z a0 hw [] ad (2 : Int32) _ h n0 Zq (rm12_2_lt l Z a0 hw [] ad kd qx qy h n0 Zq (show Arv Z h ad kd .long (2 : Int32) [(.long qx), (.long qy)] (.long (0 : Int64)) from Vq) ga hxy) (by decide) (by decide))) (own_Al_of Vq)
theorem own_hs_2_gt (l : Launch) (Z : State) (a0 : Array Value) (hw : ∀ d ∈ tables_1, d.before a0 Z = true) (n0 : Nat) (qx qy : Int64) (hxy : qy < qx) : own_HS l Z n0 (2 : Int32) [(.long qx), (.long qy), (.long (0 : Int64)), (.long (0 : Int64)), (.long (0 : Int64)), (.long (0 : Int64)), (.long (0 : Int64)), (.long (0 : Int64))] (List.replicate 1 (.long qy) ++ List.replicate 1 (.long qx)) := fun h ad kd Zq Vq ga =>
  own_sS l Z a0 hw [] ad (fun h' L => Fr n0 L ∧ Keep h h' [ad] ∧ Arv Z h' ad kd .long (2 : Int32) (List.replicate 1 (Value.long qy) ++ List.replicate 1 (Value.long qx)) (.long (0 : Int64))) (2 : Int32) h n0 Zq (own_s4 l Z a0 hw [] ad (2 : Int32) _ h n0 Zq (own_s5 l Z a0 hw [] ad (2 : Int32) _ h n0 Zq (rm12_2_gt l Z a0 hw [] ad kd qx qy h n0 Zq (show Arv Z h ad kd .long (2 : Int32) [(.long qx), (.long qy)] (.long (0 : Int64)) from Vq) ga hxy) (by decide) (by decide))) (own_Al_of Vq)
theorem own_hs_2_eq (l : Launch) (Z : State) (a0 : Array Value) (hw : ∀ d ∈ tables_1, d.before a0 Z = true) (n0 : Nat) (qx qy : Int64) : own_HS l Z n0 (2 : Int32) [(.long qx), (.long qx), (.long (0 : Int64)), (.long (0 : Int64)), (.long (0 : Int64)), (.long (0 : Int64)), (.long (0 : Int64)), (.long (0 : Int64))] (List.replicate 2 (.long qx)) := fun h ad kd Zq Vq ga =>
  own_sS l Z a0 hw [] ad (fun h' L => Fr n0 L ∧ Keep h h' [ad] ∧ Arv Z h' ad kd .long (2 : Int32) (List.replicate 2 (Value.long qx)) (.long (0 : Int64))) (2 : Int32) h n0 Zq (own_s4 l Z a0 hw [] ad (2 : Int32) _ h n0 Zq (own_s5 l Z a0 hw [] ad (2 : Int32) _ h n0 Zq (rm12_2_eq l Z a0 hw [] ad kd qx qy h n0 Zq (show Arv Z h ad kd .long (2 : Int32) [(.long qx), (.long qx)] (.long (0 : Int64)) from Vq) ga) (by decide) (by decide))) (own_Al_of Vq)
theorem own_hs_3_lt (l : Launch) (Z : State) (a0 : Array Value) (hw : ∀ d ∈ tables_1, d.before a0 Z = true) (n0 : Nat) (qx qy : Int64) (hxy : qx < qy) : own_HS l Z n0 (3 : Int32) [(.long qx), (.long qy), (.long qx), (.long (0 : Int64)), (.long (0 : Int64)), (.long (0 : Int64)), (.long (0 : Int64)), (.long (0 : Int64))] (List.replicate 2 (.long qx) ++ List.replicate 1 (.long qy)) := fun h ad kd Zq Vq ga =>
  own_sS l Z a0 hw [] ad (fun h' L => Fr n0 L ∧ Keep h h' [ad] ∧ Arv Z h' ad kd .long (3 : Int32) (List.replicate 2 (Value.long qx) ++ List.replicate 1 (Value.long qy)) (.long (0 : Int64))) (3 : Int32) h n0 Zq (own_s4 l Z a0 hw [] ad (3 : Int32) _ h n0 Zq (own_s5 l Z a0 hw [] ad (3 : Int32) _ h n0 Zq (rm12_3_lt l Z a0 hw [] ad kd qx qy h n0 Zq (show Arv Z h ad kd .long (3 : Int32) [(.long qx), (.long qy), (.long qx)] (.long (0 : Int64)) from Vq) ga hxy) (by decide) (by decide))) (own_Al_of Vq)
theorem own_hs_3_gt (l : Launch) (Z : State) (a0 : Array Value) (hw : ∀ d ∈ tables_1, d.before a0 Z = true) (n0 : Nat) (qx qy : Int64) (hxy : qy < qx) : own_HS l Z n0 (3 : Int32) [(.long qx), (.long qy), (.long qx), (.long (0 : Int64)), (.long (0 : Int64)), (.long (0 : Int64)), (.long (0 : Int64)), (.long (0 : Int64))] (List.replicate 1 (.long qy) ++ List.replicate 2 (.long qx)) := fun h ad kd Zq Vq ga =>
  own_sS l Z a0 hw [] ad (fun h' L => Fr n0 L ∧ Keep h h' [ad] ∧ Arv Z h' ad kd .long (3 : Int32) (List.replicate 1 (Value.long qy) ++ List.replicate 2 (Value.long qx)) (.long (0 : Int64))) (3 : Int32) h n0 Zq (own_s4 l Z a0 hw [] ad (3 : Int32) _ h n0 Zq (own_s5 l Z a0 hw [] ad (3 : Int32) _ h n0 Zq (rm12_3_gt l Z a0 hw [] ad kd qx qy h n0 Zq (show Arv Z h ad kd .long (3 : Int32) [(.long qx), (.long qy), (.long qx)] (.long (0 : Int64)) from Vq) ga hxy) (by decide) (by decide))) (own_Al_of Vq)
theorem own_hs_3_eq (l : Launch) (Z : State) (a0 : Array Value) (hw : ∀ d ∈ tables_1, d.before a0 Z = true) (n0 : Nat) (qx qy : Int64) : own_HS l Z n0 (3 : Int32) [(.long qx), (.long qx), (.long qx), (.long (0 : Int64)), (.long (0 : Int64)), (.long (0 : Int64)), (.long (0 : Int64)), (.long (0 : Int64))] (List.replicate 3 (.long qx)) := fun h ad kd Zq Vq ga =>
  own_sS l Z a0 hw [] ad (fun h' L => Fr n0 L ∧ Keep h h' [ad] ∧ Arv Z h' ad kd .long (3 : Int32) (List.replicate 3 (Value.long qx)) (.long (0 : Int64))) (3 : Int32) h n0 Zq (own_s4 l Z a0 hw [] ad (3 : Int32) _ h n0 Zq (own_s5 l Z a0 hw [] ad (3 : Int32) _ h n0 Zq (rm12_3_eq l Z a0 hw [] ad kd qx qy h n0 Zq (show Arv Z h ad kd .long (3 : Int32) [(.long qx), (.long qx), (.long qx)] (.long (0 : Int64)) from Vq) ga) (by decide) (by decide))) (own_Al_of Vq)
theorem own_hs_4_lt (l : Launch) (Z : State) (a0 : Array Value) (hw : ∀ d ∈ tables_1, d.before a0 Z = true) (n0 : Nat) (qx qy : Int64) (hxy : qx < qy) : own_HS l Z n0 (4 : Int32) [(.long qx), (.long qy), (.long qx), (.long qy), (.long (0 : Int64)), (.long (0 : Int64)), (.long (0 : Int64)), (.long (0 : Int64))] (List.replicate 2 (.long qx) ++ List.replicate 2 (.long qy)) := fun h ad kd Zq Vq ga =>
  own_sS l Z a0 hw [] ad (fun h' L => Fr n0 L ∧ Keep h h' [ad] ∧ Arv Z h' ad kd .long (4 : Int32) (List.replicate 2 (Value.long qx) ++ List.replicate 2 (Value.long qy)) (.long (0 : Int64))) (4 : Int32) h n0 Zq (own_s4 l Z a0 hw [] ad (4 : Int32) _ h n0 Zq (own_s5 l Z a0 hw [] ad (4 : Int32) _ h n0 Zq (rm12_4_lt l Z a0 hw [] ad kd qx qy h n0 Zq (show Arv Z h ad kd .long (4 : Int32) [(.long qx), (.long qy), (.long qx), (.long qy)] (.long (0 : Int64)) from Vq) ga hxy) (by decide) (by decide))) (own_Al_of Vq)
theorem own_hs_4_gt (l : Launch) (Z : State) (a0 : Array Value) (hw : ∀ d ∈ tables_1, d.before a0 Z = true) (n0 : Nat) (qx qy : Int64) (hxy : qy < qx) : own_HS l Z n0 (4 : Int32) [(.long qx), (.long qy), (.long qx), (.long qy), (.long (0 : Int64)), (.long (0 : Int64)), (.long (0 : Int64)), (.long (0 : Int64))] (List.replicate 2 (.long qy) ++ List.replicate 2 (.long qx)) := fun h ad kd Zq Vq ga =>
  own_sS l Z a0 hw [] ad (fun h' L => Fr n0 L ∧ Keep h h' [ad] ∧ Arv Z h' ad kd .long (4 : Int32) (List.replicate 2 (Value.long qy) ++ List.replicate 2 (Value.long qx)) (.long (0 : Int64))) (4 : Int32) h n0 Zq (own_s4 l Z a0 hw [] ad (4 : Int32) _ h n0 Zq (own_s5 l Z a0 hw [] ad (4 : Int32) _ h n0 Zq (rm12_4_gt l Z a0 hw [] ad kd qx qy h n0 Zq (show Arv Z h ad kd .long (4 : Int32) [(.long qx), (.long qy), (.long qx), (.long qy)] (.long (0 : Int64)) from Vq) ga hxy) (by decide) (by decide))) (own_Al_of Vq)
theorem own_hs_4_eq (l : Launch) (Z : State) (a0 : Array Value) (hw : ∀ d ∈ tables_1, d.before a0 Z = true) (n0 : Nat) (qx qy : Int64) : own_HS l Z n0 (4 : Int32) [(.long qx), (.long qx), (.long qx), (.long qx), (.long (0 : Int64)), (.long (0 : Int64)), (.long (0 : Int64)), (.long (0 : Int64))] (List.replicate 4 (.long qx)) := fun h ad kd Zq Vq ga =>
  own_sS l Z a0 hw [] ad (fun h' L => Fr n0 L ∧ Keep h h' [ad] ∧ Arv Z h' ad kd .long (4 : Int32) (List.replicate 4 (Value.long qx)) (.long (0 : Int64))) (4 : Int32) h n0 Zq (own_s4 l Z a0 hw [] ad (4 : Int32) _ h n0 Zq (own_s5 l Z a0 hw [] ad (4 : Int32) _ h n0 Zq (rm12_4_eq l Z a0 hw [] ad kd qx qy h n0 Zq (show Arv Z h ad kd .long (4 : Int32) [(.long qx), (.long qx), (.long qx), (.long qx)] (.long (0 : Int64)) from Vq) ga) (by decide) (by decide))) (own_Al_of Vq)
theorem own_hs_5_lt (l : Launch) (Z : State) (a0 : Array Value) (hw : ∀ d ∈ tables_1, d.before a0 Z = true) (n0 : Nat) (qx qy : Int64) (hxy : qx < qy) : own_HS l Z n0 (5 : Int32) [(.long qx), (.long qy), (.long qx), (.long qy), (.long qx), (.long (0 : Int64)), (.long (0 : Int64)), (.long (0 : Int64))] (List.replicate 3 (.long qx) ++ List.replicate 2 (.long qy)) := fun h ad kd Zq Vq ga =>
  own_sS l Z a0 hw [] ad (fun h' L => Fr n0 L ∧ Keep h h' [ad] ∧ Arv Z h' ad kd .long (5 : Int32) (List.replicate 3 (Value.long qx) ++ List.replicate 2 (Value.long qy)) (.long (0 : Int64))) (5 : Int32) h n0 Zq (own_s4 l Z a0 hw [] ad (5 : Int32) _ h n0 Zq (own_s5 l Z a0 hw [] ad (5 : Int32) _ h n0 Zq (rm12_5_lt l Z a0 hw [] ad kd qx qy h n0 Zq (show Arv Z h ad kd .long (5 : Int32) [(.long qx), (.long qy), (.long qx), (.long qy), (.long qx)] (.long (0 : Int64)) from Vq) ga hxy) (by decide) (by decide))) (own_Al_of Vq)
theorem own_hs_5_gt (l : Launch) (Z : State) (a0 : Array Value) (hw : ∀ d ∈ tables_1, d.before a0 Z = true) (n0 : Nat) (qx qy : Int64) (hxy : qy < qx) : own_HS l Z n0 (5 : Int32) [(.long qx), (.long qy), (.long qx), (.long qy), (.long qx), (.long (0 : Int64)), (.long (0 : Int64)), (.long (0 : Int64))] (List.replicate 2 (.long qy) ++ List.replicate 3 (.long qx)) := fun h ad kd Zq Vq ga =>
  own_sS l Z a0 hw [] ad (fun h' L => Fr n0 L ∧ Keep h h' [ad] ∧ Arv Z h' ad kd .long (5 : Int32) (List.replicate 2 (Value.long qy) ++ List.replicate 3 (Value.long qx)) (.long (0 : Int64))) (5 : Int32) h n0 Zq (own_s4 l Z a0 hw [] ad (5 : Int32) _ h n0 Zq (own_s5 l Z a0 hw [] ad (5 : Int32) _ h n0 Zq (rm12_5_gt l Z a0 hw [] ad kd qx qy h n0 Zq (show Arv Z h ad kd .long (5 : Int32) [(.long qx), (.long qy), (.long qx), (.long qy), (.long qx)] (.long (0 : Int64)) from Vq) ga hxy) (by decide) (by decide))) (own_Al_of Vq)
theorem own_hs_5_eq (l : Launch) (Z : State) (a0 : Array Value) (hw : ∀ d ∈ tables_1, d.before a0 Z = true) (n0 : Nat) (qx qy : Int64) : own_HS l Z n0 (5 : Int32) [(.long qx), (.long qx), (.long qx), (.long qx), (.long qx), (.long (0 : Int64)), (.long (0 : Int64)), (.long (0 : Int64))] (List.replicate 5 (.long qx)) := fun h ad kd Zq Vq ga =>
  own_sS l Z a0 hw [] ad (fun h' L => Fr n0 L ∧ Keep h h' [ad] ∧ Arv Z h' ad kd .long (5 : Int32) (List.replicate 5 (Value.long qx)) (.long (0 : Int64))) (5 : Int32) h n0 Zq (own_s4 l Z a0 hw [] ad (5 : Int32) _ h n0 Zq (own_s5 l Z a0 hw [] ad (5 : Int32) _ h n0 Zq (rm12_5_eq l Z a0 hw [] ad kd qx qy h n0 Zq (show Arv Z h ad kd .long (5 : Int32) [(.long qx), (.long qx), (.long qx), (.long qx), (.long qx)] (.long (0 : Int64)) from Vq) ga) (by decide) (by decide))) (own_Al_of Vq)
theorem own_hs_6_lt (l : Launch) (Z : State) (a0 : Array Value) (hw : ∀ d ∈ tables_1, d.before a0 Z = true) (n0 : Nat) (qx qy : Int64) (hxy : qx < qy) : own_HS l Z n0 (6 : Int32) [(.long qx), (.long qy), (.long qx), (.long qy), (.long qx), (.long qy), (.long (0 : Int64)), (.long (0 : Int64))] (List.replicate 3 (.long qx) ++ List.replicate 3 (.long qy)) := fun h ad kd Zq Vq ga =>
  own_sS l Z a0 hw [] ad (fun h' L => Fr n0 L ∧ Keep h h' [ad] ∧ Arv Z h' ad kd .long (6 : Int32) (List.replicate 3 (Value.long qx) ++ List.replicate 3 (Value.long qy)) (.long (0 : Int64))) (6 : Int32) h n0 Zq (own_s4 l Z a0 hw [] ad (6 : Int32) _ h n0 Zq (own_s5 l Z a0 hw [] ad (6 : Int32) _ h n0 Zq (rm12_6_lt l Z a0 hw [] ad kd qx qy h n0 Zq (show Arv Z h ad kd .long (6 : Int32) [(.long qx), (.long qy), (.long qx), (.long qy), (.long qx), (.long qy)] (.long (0 : Int64)) from Vq) ga hxy) (by decide) (by decide))) (own_Al_of Vq)
theorem own_hs_6_gt (l : Launch) (Z : State) (a0 : Array Value) (hw : ∀ d ∈ tables_1, d.before a0 Z = true) (n0 : Nat) (qx qy : Int64) (hxy : qy < qx) : own_HS l Z n0 (6 : Int32) [(.long qx), (.long qy), (.long qx), (.long qy), (.long qx), (.long qy), (.long (0 : Int64)), (.long (0 : Int64))] (List.replicate 3 (.long qy) ++ List.replicate 3 (.long qx)) := fun h ad kd Zq Vq ga =>
  own_sS l Z a0 hw [] ad (fun h' L => Fr n0 L ∧ Keep h h' [ad] ∧ Arv Z h' ad kd .long (6 : Int32) (List.replicate 3 (Value.long qy) ++ List.replicate 3 (Value.long qx)) (.long (0 : Int64))) (6 : Int32) h n0 Zq (own_s4 l Z a0 hw [] ad (6 : Int32) _ h n0 Zq (own_s5 l Z a0 hw [] ad (6 : Int32) _ h n0 Zq (rm12_6_gt l Z a0 hw [] ad kd qx qy h n0 Zq (show Arv Z h ad kd .long (6 : Int32) [(.long qx), (.long qy), (.long qx), (.long qy), (.long qx), (.long qy)] (.long (0 : Int64)) from Vq) ga hxy) (by decide) (by decide))) (own_Al_of Vq)
theorem own_hs_6_eq (l : Launch) (Z : State) (a0 : Array Value) (hw : ∀ d ∈ tables_1, d.before a0 Z = true) (n0 : Nat) (qx qy : Int64) : own_HS l Z n0 (6 : Int32) [(.long qx), (.long qx), (.long qx), (.long qx), (.long qx), (.long qx), (.long (0 : Int64)), (.long (0 : Int64))] (List.replicate 6 (.long qx)) := fun h ad kd Zq Vq ga =>
  own_sS l Z a0 hw [] ad (fun h' L => Fr n0 L ∧ Keep h h' [ad] ∧ Arv Z h' ad kd .long (6 : Int32) (List.replicate 6 (Value.long qx)) (.long (0 : Int64))) (6 : Int32) h n0 Zq (own_s4 l Z a0 hw [] ad (6 : Int32) _ h n0 Zq (own_s5 l Z a0 hw [] ad (6 : Int32) _ h n0 Zq (rm12_6_eq l Z a0 hw [] ad kd qx qy h n0 Zq (show Arv Z h ad kd .long (6 : Int32) [(.long qx), (.long qx), (.long qx), (.long qx), (.long qx), (.long qx)] (.long (0 : Int64)) from Vq) ga) (by decide) (by decide))) (own_Al_of Vq)
theorem own_hs_7_lt (l : Launch) (Z : State) (a0 : Array Value) (hw : ∀ d ∈ tables_1, d.before a0 Z = true) (n0 : Nat) (qx qy : Int64) (hxy : qx < qy) : own_HS l Z n0 (7 : Int32) [(.long qx), (.long qy), (.long qx), (.long qy), (.long qx), (.long qy), (.long qx), (.long (0 : Int64))] (List.replicate 4 (.long qx) ++ List.replicate 3 (.long qy)) := fun h ad kd Zq Vq ga =>
  own_sS l Z a0 hw [] ad (fun h' L => Fr n0 L ∧ Keep h h' [ad] ∧ Arv Z h' ad kd .long (7 : Int32) (List.replicate 4 (Value.long qx) ++ List.replicate 3 (Value.long qy)) (.long (0 : Int64))) (7 : Int32) h n0 Zq (own_s4 l Z a0 hw [] ad (7 : Int32) _ h n0 Zq (own_s5 l Z a0 hw [] ad (7 : Int32) _ h n0 Zq (rm12_7_lt l Z a0 hw [] ad kd qx qy h n0 Zq (show Arv Z h ad kd .long (7 : Int32) [(.long qx), (.long qy), (.long qx), (.long qy), (.long qx), (.long qy), (.long qx)] (.long (0 : Int64)) from Vq) ga hxy) (by decide) (by decide))) (own_Al_of Vq)
theorem own_hs_7_gt (l : Launch) (Z : State) (a0 : Array Value) (hw : ∀ d ∈ tables_1, d.before a0 Z = true) (n0 : Nat) (qx qy : Int64) (hxy : qy < qx) : own_HS l Z n0 (7 : Int32) [(.long qx), (.long qy), (.long qx), (.long qy), (.long qx), (.long qy), (.long qx), (.long (0 : Int64))] (List.replicate 3 (.long qy) ++ List.replicate 4 (.long qx)) := fun h ad kd Zq Vq ga =>
  own_sS l Z a0 hw [] ad (fun h' L => Fr n0 L ∧ Keep h h' [ad] ∧ Arv Z h' ad kd .long (7 : Int32) (List.replicate 3 (Value.long qy) ++ List.replicate 4 (Value.long qx)) (.long (0 : Int64))) (7 : Int32) h n0 Zq (own_s4 l Z a0 hw [] ad (7 : Int32) _ h n0 Zq (own_s5 l Z a0 hw [] ad (7 : Int32) _ h n0 Zq (rm12_7_gt l Z a0 hw [] ad kd qx qy h n0 Zq (show Arv Z h ad kd .long (7 : Int32) [(.long qx), (.long qy), (.long qx), (.long qy), (.long qx), (.long qy), (.long qx)] (.long (0 : Int64)) from Vq) ga hxy) (by decide) (by decide))) (own_Al_of Vq)
theorem own_hs_7_eq (l : Launch) (Z : State) (a0 : Array Value) (hw : ∀ d ∈ tables_1, d.before a0 Z = true) (n0 : Nat) (qx qy : Int64) : own_HS l Z n0 (7 : Int32) [(.long qx), (.long qx), (.long qx), (.long qx), (.long qx), (.long qx), (.long qx), (.long (0 : Int64))] (List.replicate 7 (.long qx)) := fun h ad kd Zq Vq ga =>
  own_sS l Z a0 hw [] ad (fun h' L => Fr n0 L ∧ Keep h h' [ad] ∧ Arv Z h' ad kd .long (7 : Int32) (List.replicate 7 (Value.long qx)) (.long (0 : Int64))) (7 : Int32) h n0 Zq (own_s4 l Z a0 hw [] ad (7 : Int32) _ h n0 Zq (own_s5 l Z a0 hw [] ad (7 : Int32) _ h n0 Zq (rm12_7_eq l Z a0 hw [] ad kd qx qy h n0 Zq (show Arv Z h ad kd .long (7 : Int32) [(.long qx), (.long qx), (.long qx), (.long qx), (.long qx), (.long qx), (.long qx)] (.long (0 : Int64)) from Vq) ga) (by decide) (by decide))) (own_Al_of Vq)
theorem own_hs_8_lt (l : Launch) (Z : State) (a0 : Array Value) (hw : ∀ d ∈ tables_1, d.before a0 Z = true) (n0 : Nat) (qx qy : Int64) (hxy : qx < qy) : own_HS l Z n0 (8 : Int32) [(.long qx), (.long qy), (.long qx), (.long qy), (.long qx), (.long qy), (.long qx), (.long qy)] (List.replicate 4 (.long qx) ++ List.replicate 4 (.long qy)) := fun h ad kd Zq Vq ga =>
  own_sS l Z a0 hw [] ad (fun h' L => Fr n0 L ∧ Keep h h' [ad] ∧ Arv Z h' ad kd .long (8 : Int32) (List.replicate 4 (Value.long qx) ++ List.replicate 4 (Value.long qy)) (.long (0 : Int64))) (8 : Int32) h n0 Zq (own_s4 l Z a0 hw [] ad (8 : Int32) _ h n0 Zq (own_s5 l Z a0 hw [] ad (8 : Int32) _ h n0 Zq (rm12_8_lt l Z a0 hw [] ad kd qx qy h n0 Zq (show Arv Z h ad kd .long (8 : Int32) [(.long qx), (.long qy), (.long qx), (.long qy), (.long qx), (.long qy), (.long qx), (.long qy)] (.long (0 : Int64)) from Vq) ga hxy) (by decide) (by decide))) (own_Al_of Vq)
theorem own_hs_8_gt (l : Launch) (Z : State) (a0 : Array Value) (hw : ∀ d ∈ tables_1, d.before a0 Z = true) (n0 : Nat) (qx qy : Int64) (hxy : qy < qx) : own_HS l Z n0 (8 : Int32) [(.long qx), (.long qy), (.long qx), (.long qy), (.long qx), (.long qy), (.long qx), (.long qy)] (List.replicate 4 (.long qy) ++ List.replicate 4 (.long qx)) := fun h ad kd Zq Vq ga =>
  own_sS l Z a0 hw [] ad (fun h' L => Fr n0 L ∧ Keep h h' [ad] ∧ Arv Z h' ad kd .long (8 : Int32) (List.replicate 4 (Value.long qy) ++ List.replicate 4 (Value.long qx)) (.long (0 : Int64))) (8 : Int32) h n0 Zq (own_s4 l Z a0 hw [] ad (8 : Int32) _ h n0 Zq (own_s5 l Z a0 hw [] ad (8 : Int32) _ h n0 Zq (rm12_8_gt l Z a0 hw [] ad kd qx qy h n0 Zq (show Arv Z h ad kd .long (8 : Int32) [(.long qx), (.long qy), (.long qx), (.long qy), (.long qx), (.long qy), (.long qx), (.long qy)] (.long (0 : Int64)) from Vq) ga hxy) (by decide) (by decide))) (own_Al_of Vq)
theorem own_hs_8_eq (l : Launch) (Z : State) (a0 : Array Value) (hw : ∀ d ∈ tables_1, d.before a0 Z = true) (n0 : Nat) (qx qy : Int64) : own_HS l Z n0 (8 : Int32) [(.long qx), (.long qx), (.long qx), (.long qx), (.long qx), (.long qx), (.long qx), (.long qx)] (List.replicate 8 (.long qx)) := fun h ad kd Zq Vq ga =>
  own_sS l Z a0 hw [] ad (fun h' L => Fr n0 L ∧ Keep h h' [ad] ∧ Arv Z h' ad kd .long (8 : Int32) (List.replicate 8 (Value.long qx)) (.long (0 : Int64))) (8 : Int32) h n0 Zq (own_s4 l Z a0 hw [] ad (8 : Int32) _ h n0 Zq (own_s5 l Z a0 hw [] ad (8 : Int32) _ h n0 Zq (rm12_8_eq l Z a0 hw [] ad kd qx qy h n0 Zq (show Arv Z h ad kd .long (8 : Int32) [(.long qx), (.long qx), (.long qx), (.long qx), (.long qx), (.long qx), (.long qx), (.long qx)] (.long (0 : Int64)) from Vq) ga) (by decide) (by decide))) (own_Al_of Vq)
theorem own_hs_9_lt (l : Launch) (Z : State) (a0 : Array Value) (hw : ∀ d ∈ tables_1, d.before a0 Z = true) (n0 : Nat) (qx qy : Int64) (hxy : qx < qy) : own_HS l Z n0 (9 : Int32) [(.long qx), (.long qy), (.long qx), (.long qy), (.long qx), (.long qy), (.long qx), (.long qy), (.long qx), (.long (0 : Int64)), (.long (0 : Int64)), (.long (0 : Int64)), (.long (0 : Int64)), (.long (0 : Int64)), (.long (0 : Int64)), (.long (0 : Int64))] (List.replicate 5 (.long qx) ++ List.replicate 4 (.long qy)) := fun h ad kd Zq Vq ga =>
  own_sS l Z a0 hw [] ad (fun h' L => Fr n0 L ∧ Keep h h' [ad] ∧ Arv Z h' ad kd .long (9 : Int32) (List.replicate 5 (Value.long qx) ++ List.replicate 4 (Value.long qy)) (.long (0 : Int64))) (9 : Int32) h n0 Zq (own_s4 l Z a0 hw [] ad (9 : Int32) _ h n0 Zq (own_s5 l Z a0 hw [] ad (9 : Int32) _ h n0 Zq (rm12_9_lt l Z a0 hw [] ad kd qx qy h n0 Zq (show Arv Z h ad kd .long (9 : Int32) [(.long qx), (.long qy), (.long qx), (.long qy), (.long qx), (.long qy), (.long qx), (.long qy), (.long qx)] (.long (0 : Int64)) from Vq) ga hxy) (by decide) (by decide))) (own_Al_of Vq)
theorem own_hs_9_gt (l : Launch) (Z : State) (a0 : Array Value) (hw : ∀ d ∈ tables_1, d.before a0 Z = true) (n0 : Nat) (qx qy : Int64) (hxy : qy < qx) : own_HS l Z n0 (9 : Int32) [(.long qx), (.long qy), (.long qx), (.long qy), (.long qx), (.long qy), (.long qx), (.long qy), (.long qx), (.long (0 : Int64)), (.long (0 : Int64)), (.long (0 : Int64)), (.long (0 : Int64)), (.long (0 : Int64)), (.long (0 : Int64)), (.long (0 : Int64))] (List.replicate 4 (.long qy) ++ List.replicate 5 (.long qx)) := fun h ad kd Zq Vq ga =>
  own_sS l Z a0 hw [] ad (fun h' L => Fr n0 L ∧ Keep h h' [ad] ∧ Arv Z h' ad kd .long (9 : Int32) (List.replicate 4 (Value.long qy) ++ List.replicate 5 (Value.long qx)) (.long (0 : Int64))) (9 : Int32) h n0 Zq (own_s4 l Z a0 hw [] ad (9 : Int32) _ h n0 Zq (own_s5 l Z a0 hw [] ad (9 : Int32) _ h n0 Zq (rm12_9_gt l Z a0 hw [] ad kd qx qy h n0 Zq (show Arv Z h ad kd .long (9 : Int32) [(.long qx), (.long qy), (.long qx), (.long qy), (.long qx), (.long qy), (.long qx), (.long qy), (.long qx)] (.long (0 : Int64)) from Vq) ga hxy) (by decide) (by decide))) (own_Al_of Vq)
theorem own_hs_9_eq (l : Launch) (Z : State) (a0 : Array Value) (hw : ∀ d ∈ tables_1, d.before a0 Z = true) (n0 : Nat) (qx qy : Int64) : own_HS l Z n0 (9 : Int32) [(.long qx), (.long qx), (.long qx), (.long qx), (.long qx), (.long qx), (.long qx), (.long qx), (.long qx), (.long (0 : Int64)), (.long (0 : Int64)), (.long (0 : Int64)), (.long (0 : Int64)), (.long (0 : Int64)), (.long (0 : Int64)), (.long (0 : Int64))] (List.replicate 9 (.long qx)) := fun h ad kd Zq Vq ga =>
  own_sS l Z a0 hw [] ad (fun h' L => Fr n0 L ∧ Keep h h' [ad] ∧ Arv Z h' ad kd .long (9 : Int32) (List.replicate 9 (Value.long qx)) (.long (0 : Int64))) (9 : Int32) h n0 Zq (own_s4 l Z a0 hw [] ad (9 : Int32) _ h n0 Zq (own_s5 l Z a0 hw [] ad (9 : Int32) _ h n0 Zq (rm12_9_eq l Z a0 hw [] ad kd qx qy h n0 Zq (show Arv Z h ad kd .long (9 : Int32) [(.long qx), (.long qx), (.long qx), (.long qx), (.long qx), (.long qx), (.long qx), (.long qx), (.long qx)] (.long (0 : Int64)) from Vq) ga) (by decide) (by decide))) (own_Al_of Vq)
theorem own_ord {qx qy : Int64} {f0 l0 f1 l1 : Int32} (h : qx < qy) (hx : qx = (((f0.toInt64) <<< ((32 : Int32) &&& 0x3f).toInt64) ||| (l0.toInt64))) (hy : qy = (((f1.toInt64) <<< ((32 : Int32) &&& 0x3f).toInt64) ||| (l1.toInt64))) (hA : 0 ≤ f0.toInt ∧ f0.toInt ≤ l0.toInt ∧ l0.toInt < 1114112) (hB : 0 ≤ f1.toInt ∧ f1.toInt ≤ l1.toInt ∧ l1.toInt < 1114112) : f0.toInt ≤ f1.toInt := by
  rw [Int64.lt_iff_toInt_lt, hx, hy, own_pk f0 l0 hA.1 (by omega) (by omega), own_pk f1 l1 hB.1 (by omega) (by omega)] at h
  omega
abbrev own_l145 (x0 : Int32) (x1 : Int32) (x2 : Int32) (x3 : Int32) (x4 : Int32) (x5 : Int32) : Array Slot := #[.val (.int x0), .val (.int x1), .val (.int x2), .val (.int x3), .val (.int x4), .val (.int x5), .unset, .unset, .unset, .unset, .unset, .unset, .unset, .unset, .unset]
abbrev own_l146 (x0 : Int32) (x1 : Int32) (x2 : Int32) (x3 : Int32) (x4 : Int32) (x5 : Int32) : Array Slot := #[.val (.int x0), .val (.int x1), .val (.int x2), .val (.int x3), .val (.int x4), .val (.int x5), .val (.int (own_min (own_cp x0) (own_cp x1))), .unset, .unset, .unset, .unset, .unset, .unset, .unset, .unset]
abbrev own_l147 (x0 : Int32) (x1 : Int32) (x2 : Int32) (x3 : Int32) (x4 : Int32) (x5 : Int32) : Array Slot := #[.val (.int x0), .val (.int x1), .val (.int x2), .val (.int x3), .val (.int x4), .val (.int x5), .val (.int (own_min (own_cp x0) (own_cp x1))), .val (.int (own_max (own_cp x0) (own_cp x1))), .unset, .unset, .unset, .unset, .unset, .unset, .unset]
abbrev own_l148 (x0 : Int32) (x1 : Int32) (x2 : Int32) (x3 : Int32) (x4 : Int32) (x5 : Int32) : Array Slot := #[.val (.int x0), .val (.int x1), .val (.int x2), .val (.int x3), .val (.int x4), .val (.int x5), .val (.int (own_min (own_cp x0) (own_cp x1))), .val (.int (own_max (own_cp x0) (own_cp x1))), .val (.int (own_min (own_cp x2) (own_cp x3))), .unset, .unset, .unset, .unset, .unset, .unset]
abbrev own_l149 (x0 : Int32) (x1 : Int32) (x2 : Int32) (x3 : Int32) (x4 : Int32) (x5 : Int32) : Array Slot := #[.val (.int x0), .val (.int x1), .val (.int x2), .val (.int x3), .val (.int x4), .val (.int x5), .val (.int (own_min (own_cp x0) (own_cp x1))), .val (.int (own_max (own_cp x0) (own_cp x1))), .val (.int (own_min (own_cp x2) (own_cp x3))), .val (.int (own_max (own_cp x2) (own_cp x3))), .unset, .unset, .unset, .unset, .unset]
abbrev own_l150 (x0 : Int32) (x1 : Int32) (x2 : Int32) (x3 : Int32) (x4 : Int32) (x5 : Int32) : Array Slot := #[.val (.int x0), .val (.int x1), .val (.int x2), .val (.int x3), .val (.int x4), .val (.int x5), .val (.int (own_min (own_cp x0) (own_cp x1))), .val (.int (own_max (own_cp x0) (own_cp x1))), .val (.int (own_min (own_cp x2) (own_cp x3))), .val (.int (own_max (own_cp x2) (own_cp x3))), .val (.int (own_cp x4)), .unset, .unset, .unset, .unset]
abbrev own_l151 (x0 : Int32) (x1 : Int32) (x2 : Int32) (x3 : Int32) (x4 : Int32) (x5 : Int32) : Array Slot := #[.val (.int x0), .val (.int x1), .val (.int x2), .val (.int x3), .val (.int x4), .val (.int x5), .val (.int (own_min (own_cp x0) (own_cp x1))), .val (.int (own_max (own_cp x0) (own_cp x1))), .val (.int (own_min (own_cp x2) (own_cp x3))), .val (.int (own_max (own_cp x2) (own_cp x3))), .val (.int (own_cp x4)), .val (.int ((x5 &&& (2147483647 : Int32)) % (10 : Int32))), .unset, .unset, .unset]
abbrev own_l152 (x0 : Int32) (x1 : Int32) (x2 : Int32) (x3 : Int32) (x4 : Int32) (x5 : Int32) (x6 : Addr) : Array Slot := #[.val (.int x0), .val (.int x1), .val (.int x2), .val (.int x3), .val (.int x4), .val (.int x5), .val (.int (own_min (own_cp x0) (own_cp x1))), .val (.int (own_max (own_cp x0) (own_cp x1))), .val (.int (own_min (own_cp x2) (own_cp x3))), .val (.int (own_max (own_cp x2) (own_cp x3))), .val (.int (own_cp x4)), .val (.int ((x5 &&& (2147483647 : Int32)) % (10 : Int32))), .val (.ref x6), .unset, .unset]
abbrev own_l153 (x0 : Int32) (x1 : Int32) (x2 : Int32) (x3 : Int32) (x4 : Int32) (x5 : Int32) (x6 : Int32) (x7 : Addr) : Array Slot := #[.val (.int x0), .val (.int x1), .val (.int x2), .val (.int x3), .val (.int x4), .val (.int x5), .val (.int x6), .val (.int (own_max (own_cp x0) (own_cp x1))), .val (.int (own_min (own_cp x2) (own_cp x3))), .val (.int (own_max (own_cp x2) (own_cp x3))), .val (.int (own_cp x4)), .val (.int ((x5 &&& (2147483647 : Int32)) % (10 : Int32))), .val (.ref x7), .unset, .unset]
abbrev own_l154 (x0 : Int32) (x1 : Int32) (x2 : Int32) (x3 : Int32) (x4 : Int32) (x5 : Int32) (x6 : Int32) (x7 : Int32) (x8 : Addr) : Array Slot := #[.val (.int x0), .val (.int x1), .val (.int x2), .val (.int x3), .val (.int x4), .val (.int x5), .val (.int x6), .val (.int x7), .val (.int (own_min (own_cp x2) (own_cp x3))), .val (.int (own_max (own_cp x2) (own_cp x3))), .val (.int (own_cp x4)), .val (.int ((x5 &&& (2147483647 : Int32)) % (10 : Int32))), .val (.ref x8), .unset, .unset]
abbrev own_l155 (x0 : Int32) (x1 : Int32) (x2 : Int32) (x3 : Int32) (x4 : Int32) (x5 : Int32) (x6 : Int32) (x7 : Int32) (x8 : Int32) (x9 : Addr) : Array Slot := #[.val (.int x0), .val (.int x1), .val (.int x2), .val (.int x3), .val (.int x4), .val (.int x5), .val (.int x6), .val (.int x7), .val (.int x8), .val (.int (own_max (own_cp x2) (own_cp x3))), .val (.int (own_cp x4)), .val (.int ((x5 &&& (2147483647 : Int32)) % (10 : Int32))), .val (.ref x9), .unset, .unset]
abbrev own_l156 (x0 : Int32) (x1 : Int32) (x2 : Int32) (x3 : Int32) (x4 : Int32) (x5 : Int32) (x6 : Int32) (x7 : Int32) (x8 : Int32) (x9 : Int32) (x10 : Addr) : Array Slot := #[.val (.int x0), .val (.int x1), .val (.int x2), .val (.int x3), .val (.int x4), .val (.int x5), .val (.int x6), .val (.int x7), .val (.int x8), .val (.int x9), .val (.int (own_cp x4)), .val (.int ((x5 &&& (2147483647 : Int32)) % (10 : Int32))), .val (.ref x10), .unset, .unset]
abbrev own_l157 (x0 : Int32) (x1 : Int32) (x2 : Int32) (x3 : Int32) (x4 : Int32) (x5 : Int32) (x6 : Int32) (x7 : Int32) (x8 : Int32) (x9 : Int32) (x10 : Int32) (x11 : Addr) : Array Slot := #[.val (.int x0), .val (.int x1), .val (.int x2), .val (.int x3), .val (.int x4), .val (.int x5), .val (.int x6), .val (.int x7), .val (.int x8), .val (.int x9), .val (.int x10), .val (.int ((x5 &&& (2147483647 : Int32)) % (10 : Int32))), .val (.ref x11), .unset, .unset]
abbrev own_l158 (x0 : Int32) (x1 : Int32) (x2 : Int32) (x3 : Int32) (x4 : Int32) (x5 : Int32) (x6 : Int32) (x7 : Int32) (x8 : Int32) (x9 : Int32) (x10 : Int32) (x11 : Addr) : Array Slot := #[.val (.int x0), .val (.int x1), .val (.int x2), .val (.int x3), .val (.int x4), .val (.int x5), .val (.int x6), .val (.int x7), .val (.int x8), .val (.int x9), .val (.int x10), .val (.int (0 : Int32)), .val (.ref x11), .unset, .unset]
abbrev own_l159 (x0 : Int32) (x1 : Int32) (x2 : Int32) (x3 : Int32) (x4 : Int32) (x5 : Int32) (x6 : Int32) (x7 : Int32) (x8 : Int32) (x9 : Int32) (x10 : Int32) (x11 : Addr) : Array Slot := #[.val (.int x0), .val (.int x1), .val (.int x2), .val (.int x3), .val (.int x4), .val (.int x5), .val (.int x6), .val (.int x7), .val (.int x8), .val (.int x9), .val (.int x10), .val (.int (1 : Int32)), .val (.ref x11), .unset, .unset]
abbrev own_l160 (x0 : Int32) (x1 : Int32) (x2 : Int32) (x3 : Int32) (x4 : Int32) (x5 : Int32) (x6 : Int32) (x7 : Int32) (x8 : Int32) (x9 : Int32) (x10 : Int32) (x11 : Addr) : Array Slot := #[.val (.int x0), .val (.int x1), .val (.int x2), .val (.int x3), .val (.int x4), .val (.int x5), .val (.int x6), .val (.int x7), .val (.int x8), .val (.int x9), .val (.int x10), .val (.int (2 : Int32)), .val (.ref x11), .unset, .unset]
abbrev own_l161 (x0 : Int32) (x1 : Int32) (x2 : Int32) (x3 : Int32) (x4 : Int32) (x5 : Int32) (x6 : Int32) (x7 : Int32) (x8 : Int32) (x9 : Int32) (x10 : Int32) (x11 : Addr) : Array Slot := #[.val (.int x0), .val (.int x1), .val (.int x2), .val (.int x3), .val (.int x4), .val (.int x5), .val (.int x6), .val (.int x7), .val (.int x8), .val (.int x9), .val (.int x10), .val (.int (3 : Int32)), .val (.ref x11), .unset, .unset]
abbrev own_l162 (x0 : Int32) (x1 : Int32) (x2 : Int32) (x3 : Int32) (x4 : Int32) (x5 : Int32) (x6 : Int32) (x7 : Int32) (x8 : Int32) (x9 : Int32) (x10 : Int32) (x11 : Addr) : Array Slot := #[.val (.int x0), .val (.int x1), .val (.int x2), .val (.int x3), .val (.int x4), .val (.int x5), .val (.int x6), .val (.int x7), .val (.int x8), .val (.int x9), .val (.int x10), .val (.int (4 : Int32)), .val (.ref x11), .unset, .unset]
abbrev own_l163 (x0 : Int32) (x1 : Int32) (x2 : Int32) (x3 : Int32) (x4 : Int32) (x5 : Int32) (x6 : Int32) (x7 : Int32) (x8 : Int32) (x9 : Int32) (x10 : Int32) (x11 : Addr) : Array Slot := #[.val (.int x0), .val (.int x1), .val (.int x2), .val (.int x3), .val (.int x4), .val (.int x5), .val (.int x6), .val (.int x7), .val (.int x8), .val (.int x9), .val (.int x10), .val (.int (5 : Int32)), .val (.ref x11), .unset, .unset]
abbrev own_l164 (x0 : Int32) (x1 : Int32) (x2 : Int32) (x3 : Int32) (x4 : Int32) (x5 : Int32) (x6 : Int32) (x7 : Int32) (x8 : Int32) (x9 : Int32) (x10 : Int32) (x11 : Addr) : Array Slot := #[.val (.int x0), .val (.int x1), .val (.int x2), .val (.int x3), .val (.int x4), .val (.int x5), .val (.int x6), .val (.int x7), .val (.int x8), .val (.int x9), .val (.int x10), .val (.int (6 : Int32)), .val (.ref x11), .unset, .unset]
abbrev own_l165 (x0 : Int32) (x1 : Int32) (x2 : Int32) (x3 : Int32) (x4 : Int32) (x5 : Int32) (x6 : Int32) (x7 : Int32) (x8 : Int32) (x9 : Int32) (x10 : Int32) (x11 : Addr) : Array Slot := #[.val (.int x0), .val (.int x1), .val (.int x2), .val (.int x3), .val (.int x4), .val (.int x5), .val (.int x6), .val (.int x7), .val (.int x8), .val (.int x9), .val (.int x10), .val (.int (7 : Int32)), .val (.ref x11), .unset, .unset]
abbrev own_l166 (x0 : Int32) (x1 : Int32) (x2 : Int32) (x3 : Int32) (x4 : Int32) (x5 : Int32) (x6 : Int32) (x7 : Int32) (x8 : Int32) (x9 : Int32) (x10 : Int32) (x11 : Addr) : Array Slot := #[.val (.int x0), .val (.int x1), .val (.int x2), .val (.int x3), .val (.int x4), .val (.int x5), .val (.int x6), .val (.int x7), .val (.int x8), .val (.int x9), .val (.int x10), .val (.int (8 : Int32)), .val (.ref x11), .unset, .unset]
abbrev own_l167 (x0 : Int32) (x1 : Int32) (x2 : Int32) (x3 : Int32) (x4 : Int32) (x5 : Int32) (x6 : Int32) (x7 : Int32) (x8 : Int32) (x9 : Int32) (x10 : Int32) (x11 : Addr) : Array Slot := #[.val (.int x0), .val (.int x1), .val (.int x2), .val (.int x3), .val (.int x4), .val (.int x5), .val (.int x6), .val (.int x7), .val (.int x8), .val (.int x9), .val (.int x10), .val (.int (9 : Int32)), .val (.ref x11), .unset, .unset]
def own_Q0 (h0 : Heap) (n0 : Nat) (v : Option Value) (h : Heap) (L : List Loc) : Prop := v = some (.int (1 : Int32)) ∧ Fr n0 L
set_option maxRecDepth 65536 in
set_option maxHeartbeats 40000000 in
theorem rm0 (l : Launch) (Z : State) (a0 : Array Value) (hw : ∀ d ∈ tables_1, d.before a0 Z = true) (ws : List Jvm.Cond) (p0 : Int32) (p1 : Int32) (p2 : Int32) (p3 : Int32) (p4 : Int32) (p5 : Int32) (h0 : Heap) (n0 : Nat) (Z0 : n0 ≤ h0.size) :
    MetFree l x (head1 (Jvm.Cond.code x code maxLocals ret :: ws) room_1) (fun a U => a = #[(.int p0), (.int p1), (.int p2), (.int p3), (.int p4), (.int p5)] ∧ Z.Warmed39 U.vm ∧ U.heap = h0) (fun _ _ _ _ _ => True) (fun _ U o U' => ∃ v L, o = .returned v ∧ own_Q0  h0 n0 v U'.heap L ∧ FrameEnd U o U' L room_1.cells room_1.slots) := by
  refine MetFree.of_bodySF (plainFor_of_name own_pn0) hisR ?_
  intro p e s m args below meth c s₁ Bd hml0 hP hK
  obtain ⟨rfl, hZ, hh⟩ := hP
  have hx := Bd.exec
  have hby := Bd.bytes
  have hml : c.maxLocals = 15 := hml0
  have hown : s.vm.findClass "com/example/otito/otito/chain/CodePointSetAddPinLaw" = some m.cls := findClass_of_methodNamed Bd.named
  have hnm := (name_of_methodNamed Bd.named Bd.method).1
  have X0 : Stand p l e room_1 s m #[(.int p0), (.int p1), (.int p2), (.int p3), (.int p4), (.int p5)] below meth c s₁ [] 0 0 := Stand.of_body Bd
  have e0 : s₁.heap = h0 := by rw [← hh, Bd.state]; rfl
  have N0 := Fr.nil n0
  refine own_pre (A := (s₁.setTop (mkF m 0 (own_l145 p0 p1 p2 p3 p4 p5) []))) (fun t k => castTop (own_ef0 m p0 p1 p2 p3 p4 p5) k) ?_
  refine own_pre (A := (s₁.setTop (mkF m 1 (own_l145 p0 p1 p2 p3 p4 p5) [(.int p0)]))) ?_ ?_
  · intro t k
    refine XS.iloadN X0.here hx rfl (hb hby at_0) rfl ?_
    exact k
  obtain ⟨_, _, ⟨T447, L447, k447, n447⟩, -, X447, ⟨Lc447, hQ447, l447, y447, z447⟩, st447⟩ := Jvm.LawKit.callS X0 hx (y := (⟨"com/example/otito/otito/chain/CodePointSetAddPinLaw", "cp", "(I)I"⟩ : MethodName)) hown (mvT hZ (own_w hw 0 rfl)) (mvT hZ (own_w hw 1 rfl)) (mvT hZ (own_w hw 2 rfl)) (mvT hZ (own_w hw 3 rfl)) (by decide) (backOf (W := 0) (rm1 l Z a0 hw [] p0 h0 n0 Z0) hZ (own_w hw 3 rfl) (own_w hw 2 rfl) (by decide) (by decide)) (g := (mkF m 1 (own_l145 p0 p1 p2 p3 p4 p5) [(.int p0)])) rfl (by rw [hml]; rfl) (argsL := [(.int p0)]) (rest := []) (lenOf own_pd11 rfl) rfl (by show 2 * 0 + _ ≤ _; exact Nat.le_of_eq rfl) (hb hby at_1) (fun _ _ => ⟨rfl, e0, (by decide : 0 + 0 ≤ _), (by decide : 0 + 0 ≤ _)⟩)
  dsimp only [Pt.U, Pt.locs, Pt.cells, Pt.slots] at X447 l447 y447 z447 st447 hQ447
  replace y447 : _ = 0 := y447
  replace z447 : _ = 0 := z447
  subst y447 z447
  obtain ⟨rfl, Nq447, eq447⟩ := hQ447
  have N447 := own_frl l447 N0 Nq447
  refine own_pre (fun t k => st447 t k) ?_
  refine own_pre (A := (T447.setTop (mkF m 5 (own_l145 p0 p1 p2 p3 p4 p5) [(.int p1), (.int (own_cp p0))]))) ?_ ?_
  · intro t k
    refine XS.iloadN X447.here hx rfl (hb hby at_4) rfl ?_
    exact k
  obtain ⟨_, _, ⟨T448, L448, k448, n448⟩, -, X448, ⟨Lc448, hQ448, l448, y448, z448⟩, st448⟩ := Jvm.LawKit.callS X447 hx (y := (⟨"com/example/otito/otito/chain/CodePointSetAddPinLaw", "cp", "(I)I"⟩ : MethodName)) hown (mvT hZ (own_w hw 0 rfl)) (mvT hZ (own_w hw 1 rfl)) (mvT hZ (own_w hw 2 rfl)) (mvT hZ (own_w hw 3 rfl)) (by decide) (backOf (W := 1) (rm1 l Z a0 hw [] p1 h0 n0 Z0) hZ (own_w hw 3 rfl) (own_w hw 2 rfl) (by decide) (by decide)) (g := (mkF m 5 (own_l145 p0 p1 p2 p3 p4 p5) [(.int p1), (.int (own_cp p0))])) rfl (by rw [hml]; rfl) (argsL := [(.int p1)]) (rest := [(.int (own_cp p0))]) (lenOf own_pd11 rfl) rfl (by show 2 * 0 + _ ≤ _; exact Nat.le_of_eq rfl) (hb hby at_5) (fun _ _ => ⟨rfl, eq447, (by decide : 0 + 0 ≤ _), (by decide : 0 + 0 ≤ _)⟩)
  dsimp only [Pt.U, Pt.locs, Pt.cells, Pt.slots] at X448 l448 y448 z448 st448 hQ448
  replace y448 : _ = 0 := y448
  replace z448 : _ = 0 := z448
  subst y448 z448
  obtain ⟨rfl, Nq448, eq448⟩ := hQ448
  have N448 := own_frl l448 N447 Nq448
  refine own_pre (fun t k => st448 t k) ?_
  obtain ⟨_, _, ⟨T449, L449, k449, n449⟩, -, X449, ⟨Lc449, hQ449, l449, y449, z449⟩, st449⟩ := Jvm.LawKit.callS X448 hx (y := (⟨"java/lang/Math", "min", "(II)I"⟩ : MethodName)) hown (mvT hZ (own_w hw 6 rfl)) (mvT hZ (own_w hw 7 rfl)) (mvT hZ (own_w hw 8 rfl)) (mvT hZ (own_w hw 9 rfl)) (by decide) (backOf (W := 0) (rm2 l Z a0 hw [] (own_cp p0) (own_cp p1) h0 n0 Z0) hZ (own_w hw 9 rfl) (own_w hw 8 rfl) (by decide) (by decide)) (g := (mkF m 8 (own_l145 p0 p1 p2 p3 p4 p5) [(.int (own_cp p1)), (.int (own_cp p0))])) rfl (by rw [hml]; rfl) (argsL := [(.int (own_cp p0)), (.int (own_cp p1))]) (rest := []) (lenOf own_pd0 rfl) rfl (by show 2 * 0 + _ ≤ _; exact Nat.le_of_eq rfl) (hb hby at_8) (fun _ _ => ⟨rfl, eq448, (by decide : 0 + 0 ≤ _), (by decide : 0 + 0 ≤ _)⟩)
  dsimp only [Pt.U, Pt.locs, Pt.cells, Pt.slots] at X449 l449 y449 z449 st449 hQ449
  replace y449 : _ = 0 := y449
  replace z449 : _ = 0 := z449
  subst y449 z449
  obtain ⟨rfl, Nq449, eq449⟩ := hQ449
  have N449 := own_frl l449 N448 Nq449
  refine own_pre (fun t k => st449 t k) ?_
  refine own_pre (A := (T449.setTop (mkF m 14 (own_l146 p0 p1 p2 p3 p4 p5) [(.int p0)]))) ?_ ?_
  · intro t k
    refine XS.istore X449.here hx rfl (hb hby at_11) rfl (l' := (own_l146 p0 p1 p2 p3 p4 p5)) rfl ?_
    refine XS.iloadN X449.here hx rfl (hb hby at_13) rfl ?_
    exact k
  obtain ⟨_, _, ⟨T450, L450, k450, n450⟩, -, X450, ⟨Lc450, hQ450, l450, y450, z450⟩, st450⟩ := Jvm.LawKit.callS X449 hx (y := (⟨"com/example/otito/otito/chain/CodePointSetAddPinLaw", "cp", "(I)I"⟩ : MethodName)) hown (mvT hZ (own_w hw 0 rfl)) (mvT hZ (own_w hw 1 rfl)) (mvT hZ (own_w hw 2 rfl)) (mvT hZ (own_w hw 3 rfl)) (by decide) (backOf (W := 0) (rm1 l Z a0 hw [] p0 h0 n0 Z0) hZ (own_w hw 3 rfl) (own_w hw 2 rfl) (by decide) (by decide)) (g := (mkF m 14 (own_l146 p0 p1 p2 p3 p4 p5) [(.int p0)])) rfl (by rw [hml]; rfl) (argsL := [(.int p0)]) (rest := []) (lenOf own_pd11 rfl) rfl (by show 2 * 0 + _ ≤ _; exact Nat.le_of_eq rfl) (hb hby at_14) (fun _ _ => ⟨rfl, eq449, (by decide : 0 + 0 ≤ _), (by decide : 0 + 0 ≤ _)⟩)
  dsimp only [Pt.U, Pt.locs, Pt.cells, Pt.slots] at X450 l450 y450 z450 st450 hQ450
  replace y450 : _ = 0 := y450
  replace z450 : _ = 0 := z450
  subst y450 z450
  obtain ⟨rfl, Nq450, eq450⟩ := hQ450
  have N450 := own_frl l450 N449 Nq450
  refine own_pre (fun t k => st450 t k) ?_
  refine own_pre (A := (T450.setTop (mkF m 18 (own_l146 p0 p1 p2 p3 p4 p5) [(.int p1), (.int (own_cp p0))]))) ?_ ?_
  · intro t k
    refine XS.iloadN X450.here hx rfl (hb hby at_17) rfl ?_
    exact k
  obtain ⟨_, _, ⟨T451, L451, k451, n451⟩, -, X451, ⟨Lc451, hQ451, l451, y451, z451⟩, st451⟩ := Jvm.LawKit.callS X450 hx (y := (⟨"com/example/otito/otito/chain/CodePointSetAddPinLaw", "cp", "(I)I"⟩ : MethodName)) hown (mvT hZ (own_w hw 0 rfl)) (mvT hZ (own_w hw 1 rfl)) (mvT hZ (own_w hw 2 rfl)) (mvT hZ (own_w hw 3 rfl)) (by decide) (backOf (W := 1) (rm1 l Z a0 hw [] p1 h0 n0 Z0) hZ (own_w hw 3 rfl) (own_w hw 2 rfl) (by decide) (by decide)) (g := (mkF m 18 (own_l146 p0 p1 p2 p3 p4 p5) [(.int p1), (.int (own_cp p0))])) rfl (by rw [hml]; rfl) (argsL := [(.int p1)]) (rest := [(.int (own_cp p0))]) (lenOf own_pd11 rfl) rfl (by show 2 * 0 + _ ≤ _; exact Nat.le_of_eq rfl) (hb hby at_18) (fun _ _ => ⟨rfl, eq450, (by decide : 0 + 0 ≤ _), (by decide : 0 + 0 ≤ _)⟩)
  dsimp only [Pt.U, Pt.locs, Pt.cells, Pt.slots] at X451 l451 y451 z451 st451 hQ451
  replace y451 : _ = 0 := y451
  replace z451 : _ = 0 := z451
  subst y451 z451
  obtain ⟨rfl, Nq451, eq451⟩ := hQ451
  have N451 := own_frl l451 N450 Nq451
  refine own_pre (fun t k => st451 t k) ?_
  obtain ⟨_, _, ⟨T452, L452, k452, n452⟩, -, X452, ⟨Lc452, hQ452, l452, y452, z452⟩, st452⟩ := Jvm.LawKit.callS X451 hx (y := (⟨"java/lang/Math", "max", "(II)I"⟩ : MethodName)) hown (mvT hZ (own_w hw 10 rfl)) (mvT hZ (own_w hw 11 rfl)) (mvT hZ (own_w hw 8 rfl)) (mvT hZ (own_w hw 12 rfl)) (by decide) (backOf (W := 0) (rm3 l Z a0 hw [] (own_cp p0) (own_cp p1) h0 n0 Z0) hZ (own_w hw 12 rfl) (own_w hw 8 rfl) (by decide) (by decide)) (g := (mkF m 21 (own_l146 p0 p1 p2 p3 p4 p5) [(.int (own_cp p1)), (.int (own_cp p0))])) rfl (by rw [hml]; rfl) (argsL := [(.int (own_cp p0)), (.int (own_cp p1))]) (rest := []) (lenOf own_pd0 rfl) rfl (by show 2 * 0 + _ ≤ _; exact Nat.le_of_eq rfl) (hb hby at_21) (fun _ _ => ⟨rfl, eq451, (by decide : 0 + 0 ≤ _), (by decide : 0 + 0 ≤ _)⟩)
  dsimp only [Pt.U, Pt.locs, Pt.cells, Pt.slots] at X452 l452 y452 z452 st452 hQ452
  replace y452 : _ = 0 := y452
  replace z452 : _ = 0 := z452
  subst y452 z452
  obtain ⟨rfl, Nq452, eq452⟩ := hQ452
  have N452 := own_frl l452 N451 Nq452
  refine own_pre (fun t k => st452 t k) ?_
  refine own_pre (A := (T452.setTop (mkF m 27 (own_l147 p0 p1 p2 p3 p4 p5) [(.int p2)]))) ?_ ?_
  · intro t k
    refine XS.istore X452.here hx rfl (hb hby at_24) rfl (l' := (own_l147 p0 p1 p2 p3 p4 p5)) rfl ?_
    refine XS.iloadN X452.here hx rfl (hb hby at_26) rfl ?_
    exact k
  obtain ⟨_, _, ⟨T453, L453, k453, n453⟩, -, X453, ⟨Lc453, hQ453, l453, y453, z453⟩, st453⟩ := Jvm.LawKit.callS X452 hx (y := (⟨"com/example/otito/otito/chain/CodePointSetAddPinLaw", "cp", "(I)I"⟩ : MethodName)) hown (mvT hZ (own_w hw 0 rfl)) (mvT hZ (own_w hw 1 rfl)) (mvT hZ (own_w hw 2 rfl)) (mvT hZ (own_w hw 3 rfl)) (by decide) (backOf (W := 0) (rm1 l Z a0 hw [] p2 h0 n0 Z0) hZ (own_w hw 3 rfl) (own_w hw 2 rfl) (by decide) (by decide)) (g := (mkF m 27 (own_l147 p0 p1 p2 p3 p4 p5) [(.int p2)])) rfl (by rw [hml]; rfl) (argsL := [(.int p2)]) (rest := []) (lenOf own_pd11 rfl) rfl (by show 2 * 0 + _ ≤ _; exact Nat.le_of_eq rfl) (hb hby at_27) (fun _ _ => ⟨rfl, eq452, (by decide : 0 + 0 ≤ _), (by decide : 0 + 0 ≤ _)⟩)
  dsimp only [Pt.U, Pt.locs, Pt.cells, Pt.slots] at X453 l453 y453 z453 st453 hQ453
  replace y453 : _ = 0 := y453
  replace z453 : _ = 0 := z453
  subst y453 z453
  obtain ⟨rfl, Nq453, eq453⟩ := hQ453
  have N453 := own_frl l453 N452 Nq453
  refine own_pre (fun t k => st453 t k) ?_
  refine own_pre (A := (T453.setTop (mkF m 31 (own_l147 p0 p1 p2 p3 p4 p5) [(.int p3), (.int (own_cp p2))]))) ?_ ?_
  · intro t k
    refine XS.iloadN X453.here hx rfl (hb hby at_30) rfl ?_
    exact k
  obtain ⟨_, _, ⟨T454, L454, k454, n454⟩, -, X454, ⟨Lc454, hQ454, l454, y454, z454⟩, st454⟩ := Jvm.LawKit.callS X453 hx (y := (⟨"com/example/otito/otito/chain/CodePointSetAddPinLaw", "cp", "(I)I"⟩ : MethodName)) hown (mvT hZ (own_w hw 0 rfl)) (mvT hZ (own_w hw 1 rfl)) (mvT hZ (own_w hw 2 rfl)) (mvT hZ (own_w hw 3 rfl)) (by decide) (backOf (W := 1) (rm1 l Z a0 hw [] p3 h0 n0 Z0) hZ (own_w hw 3 rfl) (own_w hw 2 rfl) (by decide) (by decide)) (g := (mkF m 31 (own_l147 p0 p1 p2 p3 p4 p5) [(.int p3), (.int (own_cp p2))])) rfl (by rw [hml]; rfl) (argsL := [(.int p3)]) (rest := [(.int (own_cp p2))]) (lenOf own_pd11 rfl) rfl (by show 2 * 0 + _ ≤ _; exact Nat.le_of_eq rfl) (hb hby at_31) (fun _ _ => ⟨rfl, eq453, (by decide : 0 + 0 ≤ _), (by decide : 0 + 0 ≤ _)⟩)
  dsimp only [Pt.U, Pt.locs, Pt.cells, Pt.slots] at X454 l454 y454 z454 st454 hQ454
  replace y454 : _ = 0 := y454
  replace z454 : _ = 0 := z454
  subst y454 z454
  obtain ⟨rfl, Nq454, eq454⟩ := hQ454
  have N454 := own_frl l454 N453 Nq454
  refine own_pre (fun t k => st454 t k) ?_
  obtain ⟨_, _, ⟨T455, L455, k455, n455⟩, -, X455, ⟨Lc455, hQ455, l455, y455, z455⟩, st455⟩ := Jvm.LawKit.callS X454 hx (y := (⟨"java/lang/Math", "min", "(II)I"⟩ : MethodName)) hown (mvT hZ (own_w hw 6 rfl)) (mvT hZ (own_w hw 7 rfl)) (mvT hZ (own_w hw 8 rfl)) (mvT hZ (own_w hw 9 rfl)) (by decide) (backOf (W := 0) (rm2 l Z a0 hw [] (own_cp p2) (own_cp p3) h0 n0 Z0) hZ (own_w hw 9 rfl) (own_w hw 8 rfl) (by decide) (by decide)) (g := (mkF m 34 (own_l147 p0 p1 p2 p3 p4 p5) [(.int (own_cp p3)), (.int (own_cp p2))])) rfl (by rw [hml]; rfl) (argsL := [(.int (own_cp p2)), (.int (own_cp p3))]) (rest := []) (lenOf own_pd0 rfl) rfl (by show 2 * 0 + _ ≤ _; exact Nat.le_of_eq rfl) (hb hby at_34) (fun _ _ => ⟨rfl, eq454, (by decide : 0 + 0 ≤ _), (by decide : 0 + 0 ≤ _)⟩)
  dsimp only [Pt.U, Pt.locs, Pt.cells, Pt.slots] at X455 l455 y455 z455 st455 hQ455
  replace y455 : _ = 0 := y455
  replace z455 : _ = 0 := z455
  subst y455 z455
  obtain ⟨rfl, Nq455, eq455⟩ := hQ455
  have N455 := own_frl l455 N454 Nq455
  refine own_pre (fun t k => st455 t k) ?_
  refine own_pre (A := (T455.setTop (mkF m 40 (own_l148 p0 p1 p2 p3 p4 p5) [(.int p2)]))) ?_ ?_
  · intro t k
    refine XS.istore X455.here hx rfl (hb hby at_37) rfl (l' := (own_l148 p0 p1 p2 p3 p4 p5)) rfl ?_
    refine XS.iloadN X455.here hx rfl (hb hby at_39) rfl ?_
    exact k
  obtain ⟨_, _, ⟨T456, L456, k456, n456⟩, -, X456, ⟨Lc456, hQ456, l456, y456, z456⟩, st456⟩ := Jvm.LawKit.callS X455 hx (y := (⟨"com/example/otito/otito/chain/CodePointSetAddPinLaw", "cp", "(I)I"⟩ : MethodName)) hown (mvT hZ (own_w hw 0 rfl)) (mvT hZ (own_w hw 1 rfl)) (mvT hZ (own_w hw 2 rfl)) (mvT hZ (own_w hw 3 rfl)) (by decide) (backOf (W := 0) (rm1 l Z a0 hw [] p2 h0 n0 Z0) hZ (own_w hw 3 rfl) (own_w hw 2 rfl) (by decide) (by decide)) (g := (mkF m 40 (own_l148 p0 p1 p2 p3 p4 p5) [(.int p2)])) rfl (by rw [hml]; rfl) (argsL := [(.int p2)]) (rest := []) (lenOf own_pd11 rfl) rfl (by show 2 * 0 + _ ≤ _; exact Nat.le_of_eq rfl) (hb hby at_40) (fun _ _ => ⟨rfl, eq455, (by decide : 0 + 0 ≤ _), (by decide : 0 + 0 ≤ _)⟩)
  dsimp only [Pt.U, Pt.locs, Pt.cells, Pt.slots] at X456 l456 y456 z456 st456 hQ456
  replace y456 : _ = 0 := y456
  replace z456 : _ = 0 := z456
  subst y456 z456
  obtain ⟨rfl, Nq456, eq456⟩ := hQ456
  have N456 := own_frl l456 N455 Nq456
  refine own_pre (fun t k => st456 t k) ?_
  refine own_pre (A := (T456.setTop (mkF m 44 (own_l148 p0 p1 p2 p3 p4 p5) [(.int p3), (.int (own_cp p2))]))) ?_ ?_
  · intro t k
    refine XS.iloadN X456.here hx rfl (hb hby at_43) rfl ?_
    exact k
  obtain ⟨_, _, ⟨T457, L457, k457, n457⟩, -, X457, ⟨Lc457, hQ457, l457, y457, z457⟩, st457⟩ := Jvm.LawKit.callS X456 hx (y := (⟨"com/example/otito/otito/chain/CodePointSetAddPinLaw", "cp", "(I)I"⟩ : MethodName)) hown (mvT hZ (own_w hw 0 rfl)) (mvT hZ (own_w hw 1 rfl)) (mvT hZ (own_w hw 2 rfl)) (mvT hZ (own_w hw 3 rfl)) (by decide) (backOf (W := 1) (rm1 l Z a0 hw [] p3 h0 n0 Z0) hZ (own_w hw 3 rfl) (own_w hw 2 rfl) (by decide) (by decide)) (g := (mkF m 44 (own_l148 p0 p1 p2 p3 p4 p5) [(.int p3), (.int (own_cp p2))])) rfl (by rw [hml]; rfl) (argsL := [(.int p3)]) (rest := [(.int (own_cp p2))]) (lenOf own_pd11 rfl) rfl (by show 2 * 0 + _ ≤ _; exact Nat.le_of_eq rfl) (hb hby at_44) (fun _ _ => ⟨rfl, eq456, (by decide : 0 + 0 ≤ _), (by decide : 0 + 0 ≤ _)⟩)
  dsimp only [Pt.U, Pt.locs, Pt.cells, Pt.slots] at X457 l457 y457 z457 st457 hQ457
  replace y457 : _ = 0 := y457
  replace z457 : _ = 0 := z457
  subst y457 z457
  obtain ⟨rfl, Nq457, eq457⟩ := hQ457
  have N457 := own_frl l457 N456 Nq457
  refine own_pre (fun t k => st457 t k) ?_
  obtain ⟨_, _, ⟨T458, L458, k458, n458⟩, -, X458, ⟨Lc458, hQ458, l458, y458, z458⟩, st458⟩ := Jvm.LawKit.callS X457 hx (y := (⟨"java/lang/Math", "max", "(II)I"⟩ : MethodName)) hown (mvT hZ (own_w hw 10 rfl)) (mvT hZ (own_w hw 11 rfl)) (mvT hZ (own_w hw 8 rfl)) (mvT hZ (own_w hw 12 rfl)) (by decide) (backOf (W := 0) (rm3 l Z a0 hw [] (own_cp p2) (own_cp p3) h0 n0 Z0) hZ (own_w hw 12 rfl) (own_w hw 8 rfl) (by decide) (by decide)) (g := (mkF m 47 (own_l148 p0 p1 p2 p3 p4 p5) [(.int (own_cp p3)), (.int (own_cp p2))])) rfl (by rw [hml]; rfl) (argsL := [(.int (own_cp p2)), (.int (own_cp p3))]) (rest := []) (lenOf own_pd0 rfl) rfl (by show 2 * 0 + _ ≤ _; exact Nat.le_of_eq rfl) (hb hby at_47) (fun _ _ => ⟨rfl, eq457, (by decide : 0 + 0 ≤ _), (by decide : 0 + 0 ≤ _)⟩)
  dsimp only [Pt.U, Pt.locs, Pt.cells, Pt.slots] at X458 l458 y458 z458 st458 hQ458
  replace y458 : _ = 0 := y458
  replace z458 : _ = 0 := z458
  subst y458 z458
  obtain ⟨rfl, Nq458, eq458⟩ := hQ458
  have N458 := own_frl l458 N457 Nq458
  refine own_pre (fun t k => st458 t k) ?_
  refine own_pre (A := (T458.setTop (mkF m 54 (own_l149 p0 p1 p2 p3 p4 p5) [(.int p4)]))) ?_ ?_
  · intro t k
    refine XS.istore X458.here hx rfl (hb hby at_50) rfl (l' := (own_l149 p0 p1 p2 p3 p4 p5)) rfl ?_
    refine XS.iload X458.here hx rfl (hb hby at_52) rfl ?_
    exact k
  obtain ⟨_, _, ⟨T459, L459, k459, n459⟩, -, X459, ⟨Lc459, hQ459, l459, y459, z459⟩, st459⟩ := Jvm.LawKit.callS X458 hx (y := (⟨"com/example/otito/otito/chain/CodePointSetAddPinLaw", "cp", "(I)I"⟩ : MethodName)) hown (mvT hZ (own_w hw 0 rfl)) (mvT hZ (own_w hw 1 rfl)) (mvT hZ (own_w hw 2 rfl)) (mvT hZ (own_w hw 3 rfl)) (by decide) (backOf (W := 0) (rm1 l Z a0 hw [] p4 h0 n0 Z0) hZ (own_w hw 3 rfl) (own_w hw 2 rfl) (by decide) (by decide)) (g := (mkF m 54 (own_l149 p0 p1 p2 p3 p4 p5) [(.int p4)])) rfl (by rw [hml]; rfl) (argsL := [(.int p4)]) (rest := []) (lenOf own_pd11 rfl) rfl (by show 2 * 0 + _ ≤ _; exact Nat.le_of_eq rfl) (hb hby at_54) (fun _ _ => ⟨rfl, eq458, (by decide : 0 + 0 ≤ _), (by decide : 0 + 0 ≤ _)⟩)
  dsimp only [Pt.U, Pt.locs, Pt.cells, Pt.slots] at X459 l459 y459 z459 st459 hQ459
  replace y459 : _ = 0 := y459
  replace z459 : _ = 0 := z459
  subst y459 z459
  obtain ⟨rfl, Nq459, eq459⟩ := hQ459
  have N459 := own_frl l459 N458 Nq459
  refine own_pre (fun t k => st459 t k) ?_
  refine own_pre (A := (T459.setTop (mkF m 69 (own_l151 p0 p1 p2 p3 p4 p5) []))) ?_ ?_
  · intro t k
    refine XS.istore X459.here hx rfl (hb hby at_57) rfl (l' := (own_l150 p0 p1 p2 p3 p4 p5)) rfl ?_
    refine XS.iload X459.here hx rfl (hb hby at_59) rfl ?_
    show Steps p.tables e below (T459.setTop (mkF m 61 (own_l150 p0 p1 p2 p3 p4 p5) [(.int p5)])) _
    refine X459.ldcInt hx hown (mvT hZ (own_w hw 4 rfl)) (g := (mkF m 61 (own_l150 p0 p1 p2 p3 p4 p5) [(.int p5)])) rfl (hb hby at_61) _ ?_
    refine XS.iand X459.here hx rfl (hb hby at_63) rfl ?_
    refine XS.bipush X459.here hx rfl (hb hby at_64) ?_
    show Steps p.tables e below (T459.setTop (mkF m 66 (own_l150 p0 p1 p2 p3 p4 p5) [(.int (10 : Int32)), (.int (p5 &&& (2147483647 : Int32)))])) _
    refine iremM X459 hx rfl (hb hby at_66) rfl (by decide) ?_
    show Steps p.tables e below (T459.setTop (mkF m 67 (own_l150 p0 p1 p2 p3 p4 p5) [(.int ((p5 &&& (2147483647 : Int32)) % (10 : Int32)))])) _
    refine XS.istore X459.here hx rfl (hb hby at_67) rfl (l' := (own_l151 p0 p1 p2 p3 p4 p5)) rfl ?_
    exact k
  obtain ⟨T460, h460, X460, e460, E460, A460, D460, -, st460⟩ := newO X459 hx hZ hown (own_w hw 13 rfl) (own_w hw 14 rfl) (own_w hw 15 rfl) eq459 (g := (mkF m 69 (own_l151 p0 p1 p2 p3 p4 p5) [])) rfl (hb hby at_69) (by decide) (by decide)
  obtain ⟨b460, g460⟩ : ∃ z, z = h0.size := ⟨_, rfl⟩
  rw [← g460] at A460 D460 st460
  have gn_b460 : n0 ≤ b460 := Nat.le_trans Z0 (Nat.le_of_eq g460.symm)
  have Zs460 : n0 ≤ h460.size := Nat.le_trans Z0 E460.1
  have Kc460 : Keep h0 h460 [] := (Keep.refl h0 []).ext E460
  have F460_ranges : Fld Z h460 b460 "com/example/otito/otito/chain/CodePointSet$Builder" "ranges" "[J" .null := D460 (Or.inl (own_w hw 24 rfl)) (ty := (.array .long)) (by decide)
  have F460_count : Fld Z h460 b460 "com/example/otito/otito/chain/CodePointSet$Builder" "count" "I" (.int (0 : Int32)) := D460 (Or.inl (own_w hw 31 rfl)) (ty := .int) (by decide)
  refine own_pre (fun t k => st460 t k) ?_
  refine own_pre (A := (T460.setTop (mkF m 73 (own_l151 p0 p1 p2 p3 p4 p5) [(.ref b460), (.ref b460)]))) ?_ ?_
  · intro t k
    refine XS.dup X460.here hx rfl (hb hby at_72) rfl rfl ?_
    exact k
  obtain ⟨_, _, ⟨T461, L461, k461, n461⟩, -, X461, ⟨Lc461, hQ461, l461, y461, z461⟩, st461⟩ := X460.specialBack hx (y := (⟨"com/example/otito/otito/chain/CodePointSet$Builder", "<init>", "()V"⟩ : MethodName)) rfl hown (mvT hZ (own_w hw 16 rfl)) (mvT hZ (own_w hw 17 rfl)) (mvT hZ (own_w hw 18 rfl)) (by decide) (backOf (W := 1) (rm4 l Z a0 hw [] b460 h460 n0 Zs460 A460 F460_ranges F460_count gn_b460) hZ (own_w hw 18 rfl) (own_w hw 15 rfl) (by decide) (by decide)) (g := (mkF m 73 (own_l151 p0 p1 p2 p3 p4 p5) [(.ref b460), (.ref b460)])) rfl (by rw [hml]; rfl) (Steps.refl _) (a := b460) (argsL := []) (rest := [(.ref b460)]) (lenOf own_pd12 rfl) rfl (by show 2 * 0 + _ ≤ _; exact Nat.le_of_eq rfl) (hb hby at_73) (fun _ _ => ⟨rfl, e460, (by decide : 1 + 1 ≤ _), (by decide : 2 + 8 ≤ _)⟩)
  dsimp only [Pt.U, Pt.locs, Pt.cells, Pt.slots] at X461 l461 y461 z461 st461 hQ461
  replace y461 : _ = 2 := y461
  replace z461 : _ = 10 := z461
  subst y461 z461
  obtain ⟨rfl, Nq461, Kq461, ar461, kr461, gq461, zz461, Fr461, Fc461, Vr461, Er461, nq461⟩ := hQ461
  have N461 := own_frl l461 N459 Nq461
  refine own_pre (fun t k => st461.trans k) ?_
  have A460_461 := A460.keep Kq461
  have Zs461 : n0 ≤ T461.heap.size := Nat.le_trans Zs460 Kq461.1
  refine own_pre (A := (T461.setTop (mkF m 78 (own_l152 p0 p1 p2 p3 p4 p5 b460) []))) ?_ ?_
  · intro t k
    refine XS.astore X461.here hx rfl (hb hby at_76) rfl rfl (l' := (own_l152 p0 p1 p2 p3 p4 p5 b460)) rfl ?_
    exact k
  obtain ⟨pf0, hpf0⟩ : ∃ z : Int32, z = (own_min (own_cp p0) (own_cp p1)) := ⟨_, rfl⟩
  show ∃ s₂ o, Steps p.tables e below (T461.setTop (mkF m 78 #[.val (.int p0), .val (.int p1), .val (.int p2), .val (.int p3), .val (.int p4), .val (.int p5), .val (.int (own_min (own_cp p0) (own_cp p1))), .val (.int (own_max (own_cp p0) (own_cp p1))), .val (.int (own_min (own_cp p2) (own_cp p3))), .val (.int (own_max (own_cp p2) (own_cp p3))), .val (.int (own_cp p4)), .val (.int ((p5 &&& (2147483647 : Int32)) % (10 : Int32))), .val (.ref b460), .unset, .unset] [])) s₂ ∧ _
  rw [← hpf0]
  obtain ⟨pl0, hpl0⟩ : ∃ z : Int32, z = (own_max (own_cp p0) (own_cp p1)) := ⟨_, rfl⟩
  show ∃ s₂ o, Steps p.tables e below (T461.setTop (mkF m 78 #[.val (.int p0), .val (.int p1), .val (.int p2), .val (.int p3), .val (.int p4), .val (.int p5), .val (.int pf0), .val (.int (own_max (own_cp p0) (own_cp p1))), .val (.int (own_min (own_cp p2) (own_cp p3))), .val (.int (own_max (own_cp p2) (own_cp p3))), .val (.int (own_cp p4)), .val (.int ((p5 &&& (2147483647 : Int32)) % (10 : Int32))), .val (.ref b460), .unset, .unset] [])) s₂ ∧ _
  rw [← hpl0]
  obtain ⟨pf1, hpf1⟩ : ∃ z : Int32, z = (own_min (own_cp p2) (own_cp p3)) := ⟨_, rfl⟩
  show ∃ s₂ o, Steps p.tables e below (T461.setTop (mkF m 78 #[.val (.int p0), .val (.int p1), .val (.int p2), .val (.int p3), .val (.int p4), .val (.int p5), .val (.int pf0), .val (.int pl0), .val (.int (own_min (own_cp p2) (own_cp p3))), .val (.int (own_max (own_cp p2) (own_cp p3))), .val (.int (own_cp p4)), .val (.int ((p5 &&& (2147483647 : Int32)) % (10 : Int32))), .val (.ref b460), .unset, .unset] [])) s₂ ∧ _
  rw [← hpf1]
  obtain ⟨pl1, hpl1⟩ : ∃ z : Int32, z = (own_max (own_cp p2) (own_cp p3)) := ⟨_, rfl⟩
  show ∃ s₂ o, Steps p.tables e below (T461.setTop (mkF m 78 #[.val (.int p0), .val (.int p1), .val (.int p2), .val (.int p3), .val (.int p4), .val (.int p5), .val (.int pf0), .val (.int pl0), .val (.int pf1), .val (.int (own_max (own_cp p2) (own_cp p3))), .val (.int (own_cp p4)), .val (.int ((p5 &&& (2147483647 : Int32)) % (10 : Int32))), .val (.ref b460), .unset, .unset] [])) s₂ ∧ _
  rw [← hpl1]
  obtain ⟨pq, hpq⟩ : ∃ z : Int32, z = (own_cp p4) := ⟨_, rfl⟩
  show ∃ s₂ o, Steps p.tables e below (T461.setTop (mkF m 78 #[.val (.int p0), .val (.int p1), .val (.int p2), .val (.int p3), .val (.int p4), .val (.int p5), .val (.int pf0), .val (.int pl0), .val (.int pf1), .val (.int pl1), .val (.int (own_cp p4)), .val (.int ((p5 &&& (2147483647 : Int32)) % (10 : Int32))), .val (.ref b460), .unset, .unset] [])) s₂ ∧ _
  rw [← hpq]
  obtain ⟨pn, hpn⟩ : ∃ z : Int32, z = ((p5 &&& (2147483647 : Int32)) % (10 : Int32)) := ⟨_, rfl⟩
  show ∃ s₂ o, Steps p.tables e below (T461.setTop (mkF m 78 #[.val (.int p0), .val (.int p1), .val (.int p2), .val (.int p3), .val (.int p4), .val (.int p5), .val (.int pf0), .val (.int pl0), .val (.int pf1), .val (.int pl1), .val (.int pq), .val (.int ((p5 &&& (2147483647 : Int32)) % (10 : Int32))), .val (.ref b460), .unset, .unset] [])) s₂ ∧ _
  rw [← hpn]
  have hA : 0 ≤ pf0.toInt ∧ pf0.toInt ≤ pl0.toInt ∧ pl0.toInt < 1114112 := by rw [hpf0, hpl0]; exact own_mm _ _ (own_cp_r _) (own_cp_r _)
  have hB : 0 ≤ pf1.toInt ∧ pf1.toInt ≤ pl1.toInt ∧ pl1.toInt < 1114112 := by rw [hpf1, hpl1]; exact own_mm _ _ (own_cp_r _) (own_cp_r _)
  obtain ⟨qx, hqx⟩ : ∃ z : Int64, z = (((pf0.toInt64) <<< ((32 : Int32) &&& 0x3f).toInt64) ||| (pl0.toInt64)) := ⟨_, rfl⟩
  obtain ⟨qy, hqy⟩ : ∃ z : Int64, z = (((pf1.toInt64) <<< ((32 : Int32) &&& 0x3f).toInt64) ||| (pl1.toInt64)) := ⟨_, rfl⟩
  have hux := own_pku pf0 pl0 hA.1 (Int.le_trans hA.1 hA.2.1) (by omega) _ hqx
  have hlx := own_pkl pf0 pl0 hA.1 (Int.le_trans hA.1 hA.2.1) (by omega) _ hqx
  have huy := own_pku pf1 pl1 hB.1 (Int.le_trans hB.1 hB.2.1) (by omega) _ hqy
  have hly := own_pkl pf1 pl1 hB.1 (Int.le_trans hB.1 hB.2.1) (by omega) _ hqy
  have KF : ∀ (pn : Int32) (bld : Addr) (T' : State) (h' : Heap) (locs' : List Loc) (ac' : Addr) (ex' : Int32), Stand p l e room_1 s m #[(.int p0), (.int p1), (.int p2), (.int p3), (.int p4), (.int p5)] below meth c T' locs' 24 192 → T'.heap = h' → Fr n0 locs' → ∃ s₂ o, Steps p.tables e below (T'.setTop (mkF m 284 #[.val (.int p0), .val (.int p1), .val (.int p2), .val (.int p3), .val (.int p4), .val (.int p5), .val (.int pf0), .val (.int pl0), .val (.int pf1), .val (.int pl1), .val (.int pq), .val (.int pn), .val (.ref bld), .val (.ref ac'), .val (.int ex')] [(.int (1 : Int32))])) s₂ ∧ s₂.status = .running ∧ Ended s₂ below o ∧ ∃ v L, o = .returned v ∧ own_Q0 h0 n0 v s₂.heap L ∧ FrameEnd s o s₂ L room_1.cells room_1.slots := by
    intro pn bld T' h' locs' ac' ex' X' e' N'
    obtain ⟨fs, hr, hrun, hended, hW, hsame⟩ := X'.leave (hlocks := BodyLoose.notSynchronized Bd) (v := some (.int (1 : Int32))) (fun h => by rw [Bd.returns] at h; cases h)
    refine ⟨_, _, retOut X' hx Bd.returns rfl (Or.inl ⟨rfl, Or.inr (Or.inl rfl), _, rfl⟩) (hb hby at_284) hr, hrun, hended, _, _, rfl, ?_, ⟨_, rfl⟩, hW, hsame.mono (by decide) (by decide)⟩
    show own_Q0 h0 n0 _ T'.heap _
    rw [e']
    exact ⟨rfl, N'⟩
  have hm : pn = (0 : Int32) ∨ pn = (1 : Int32) ∨ pn = (2 : Int32) ∨ pn = (3 : Int32) ∨ pn = (4 : Int32) ∨ pn = (5 : Int32) ∨ pn = (6 : Int32) ∨ pn = (7 : Int32) ∨ pn = (8 : Int32) ∨ pn = (9 : Int32) := by rw [hpn]; exact own_n _
  clear hpn
  rcases hm with rfl | hm
  · skip
    refine own_pre (A := (T461.setTop (mkF m 93 (own_l158 p0 p1 p2 p3 p4 p5 pf0 pl0 pf1 pl1 pq b460) []))) ?_ ?_
    · intro t k
      refine XS.iload X461.here hx rfl (hb hby at_78) rfl ?_
      refine XS.iconst X461.here hx rfl (hb hby at_80) ?_
      refine XS.icmpYes X461.here hx rfl (pc0 := 81) (pc' := 93) rfl (hb hby at_81) rfl (tlt (by decide : (0 : Int32) < (1 : Int32))).1 (by decide) (by decide) ?_
      exact k
    refine own_pre (A := (T461.setTop (mkF m 108 (own_l158 p0 p1 p2 p3 p4 p5 pf0 pl0 pf1 pl1 pq b460) []))) ?_ ?_
    · intro t k
      refine XS.iload X461.here hx rfl (hb hby at_93) rfl ?_
      refine XS.iconst X461.here hx rfl (hb hby at_95) ?_
      refine XS.icmpYes X461.here hx rfl (pc0 := 96) (pc' := 108) rfl (hb hby at_96) rfl (tlt (by decide : (0 : Int32) < (2 : Int32))).1 (by decide) (by decide) ?_
      exact k
    refine own_pre (A := (T461.setTop (mkF m 123 (own_l158 p0 p1 p2 p3 p4 p5 pf0 pl0 pf1 pl1 pq b460) []))) ?_ ?_
    · intro t k
      refine XS.iload X461.here hx rfl (hb hby at_108) rfl ?_
      refine XS.iconst X461.here hx rfl (hb hby at_110) ?_
      refine XS.icmpYes X461.here hx rfl (pc0 := 111) (pc' := 123) rfl (hb hby at_111) rfl (tlt (by decide : (0 : Int32) < (3 : Int32))).1 (by decide) (by decide) ?_
      exact k
    refine own_pre (A := (T461.setTop (mkF m 138 (own_l158 p0 p1 p2 p3 p4 p5 pf0 pl0 pf1 pl1 pq b460) []))) ?_ ?_
    · intro t k
      refine XS.iload X461.here hx rfl (hb hby at_123) rfl ?_
      refine XS.iconst X461.here hx rfl (hb hby at_125) ?_
      refine XS.icmpYes X461.here hx rfl (pc0 := 126) (pc' := 138) rfl (hb hby at_126) rfl (tlt (by decide : (0 : Int32) < (4 : Int32))).1 (by decide) (by decide) ?_
      exact k
    refine own_pre (A := (T461.setTop (mkF m 153 (own_l158 p0 p1 p2 p3 p4 p5 pf0 pl0 pf1 pl1 pq b460) []))) ?_ ?_
    · intro t k
      refine XS.iload X461.here hx rfl (hb hby at_138) rfl ?_
      refine XS.iconst X461.here hx rfl (hb hby at_140) ?_
      refine XS.icmpYes X461.here hx rfl (pc0 := 141) (pc' := 153) rfl (hb hby at_141) rfl (tlt (by decide : (0 : Int32) < (5 : Int32))).1 (by decide) (by decide) ?_
      exact k
    refine own_pre (A := (T461.setTop (mkF m 169 (own_l158 p0 p1 p2 p3 p4 p5 pf0 pl0 pf1 pl1 pq b460) []))) ?_ ?_
    · intro t k
      refine XS.iload X461.here hx rfl (hb hby at_153) rfl ?_
      refine XS.bipush X461.here hx rfl (hb hby at_155) ?_
      refine XS.icmpYes X461.here hx rfl (pc0 := 157) (pc' := 169) rfl (hb hby at_157) rfl (tlt (by decide : (0 : Int32) < (6 : Int32))).1 (by decide) (by decide) ?_
      exact k
    refine own_pre (A := (T461.setTop (mkF m 185 (own_l158 p0 p1 p2 p3 p4 p5 pf0 pl0 pf1 pl1 pq b460) []))) ?_ ?_
    · intro t k
      refine XS.iload X461.here hx rfl (hb hby at_169) rfl ?_
      refine XS.bipush X461.here hx rfl (hb hby at_171) ?_
      refine XS.icmpYes X461.here hx rfl (pc0 := 173) (pc' := 185) rfl (hb hby at_173) rfl (tlt (by decide : (0 : Int32) < (7 : Int32))).1 (by decide) (by decide) ?_
      exact k
    refine own_pre (A := (T461.setTop (mkF m 201 (own_l158 p0 p1 p2 p3 p4 p5 pf0 pl0 pf1 pl1 pq b460) []))) ?_ ?_
    · intro t k
      refine XS.iload X461.here hx rfl (hb hby at_185) rfl ?_
      refine XS.bipush X461.here hx rfl (hb hby at_187) ?_
      refine XS.icmpYes X461.here hx rfl (pc0 := 189) (pc' := 201) rfl (hb hby at_189) rfl (tlt (by decide : (0 : Int32) < (8 : Int32))).1 (by decide) (by decide) ?_
      exact k
    refine own_pre (A := (T461.setTop (mkF m 217 (own_l158 p0 p1 p2 p3 p4 p5 pf0 pl0 pf1 pl1 pq b460) []))) ?_ ?_
    · intro t k
      refine XS.iload X461.here hx rfl (hb hby at_201) rfl ?_
      refine XS.bipush X461.here hx rfl (hb hby at_203) ?_
      refine XS.icmpYes X461.here hx rfl (pc0 := 205) (pc' := 217) rfl (hb hby at_205) rfl (tlt (by decide : (0 : Int32) < (9 : Int32))).1 (by decide) (by decide) ?_
      exact k
    refine own_su_z (qx := qx) (qy := qy) (np := 0) hw X461 hx hZ hown hml hby rfl N461 Zs461 (by decide) (by decide) A460_461 Fr461 Fc461 Vr461 Er461 (nn := 0) rfl (by decide) (by decide) (own_hs_0_eq l Z a0 hw n0 qx qy) (by decide) (by decide) rfl ?_
    exact KF _ _
  · skip
    have hk1 : ¬ pn < (1 : Int32) := by rcases hm with rfl | rfl | rfl | rfl | rfl | rfl | rfl | rfl | rfl <;> decide
    refine own_pre (A := (T461.setTop (mkF m 90 (own_l141 p0 p1 p2 p3 p4 p5 pf0 pl0 pf1 pl1 pq pn b460) [(.int pl0), (.int pf0), (.ref b460)]))) ?_ ?_
    · intro t k
      refine XS.iload X461.here hx rfl (hb hby at_78) rfl ?_
      refine XS.iconst X461.here hx rfl (hb hby at_80) ?_
      refine XS.icmpNo X461.here hx rfl (hb hby at_81) rfl (flt hk1).1 ?_
      refine XS.aload X461.here hx rfl (hb hby at_84) rfl rfl ?_
      refine XS.iload X461.here hx rfl (hb hby at_86) rfl ?_
      refine XS.iload X461.here hx rfl (hb hby at_88) rfl ?_
      exact k
    obtain ⟨cq462, kq462, q462a, q462b, q462c⟩ := isOf hZ rfl A460_461
    obtain ⟨_, _, ⟨T462, L462, k462, n462⟩, -, X462, ⟨Lc462, hQ462, l462, y462, z462⟩, st462⟩ := X461.virtualBack hx (y := (⟨"com/example/otito/otito/chain/CodePointSet$Builder", "add", "(II)V"⟩ : MethodName)) (z := (⟨"com/example/otito/otito/chain/CodePointSet$Builder", "add", "(II)V"⟩ : MethodName)) hown (mvT hZ (own_w hw 25 rfl)) (mvT hZ (own_w hw 26 rfl)) (notFace_of_selects (args := #[]) (mvT hZ (own_w hw 28 rfl))) (mvT hZ (own_w hw 28 rfl)) (mvT hZ (own_w hw 27 rfl)) (by decide) (backOf (W := 0) (rm6_0 l Z a0 hw [] b460 pf0 pl0 ar461 kr461 (0 : Int64) (0 : Int64) (0 : Int64) (0 : Int64) (0 : Int64) (0 : Int64) (0 : Int64) (0 : Int64) qx T461.heap n0 Zs461 A460_461 Fr461 Fc461 Vr461 Er461 nq461 gn_b460 gq461 hqx) hZ (own_w hw 29 rfl) (own_w hw 15 rfl) (by decide) (by decide)) q462a q462c (g := (mkF m 90 (own_l141 p0 p1 p2 p3 p4 p5 pf0 pl0 pf1 pl1 pq pn b460) [(.int pl0), (.int pf0), (.ref b460)])) rfl (by rw [hml]; rfl) (Steps.refl _) (argsL := [(.int pf0), (.int pl0)]) (rest := []) (lenOf own_pd13 rfl) rfl (by show 2 * 0 + _ ≤ _; exact Nat.le_of_eq rfl) (hb hby at_90) (fun _ _ => ⟨rfl, rfl, (by decide : 2 + 0 ≤ _), (by decide : 10 + 0 ≤ _)⟩)
    dsimp only [Pt.U, Pt.locs, Pt.cells, Pt.slots] at X462 l462 y462 z462 st462 hQ462
    replace y462 : _ = 2 := y462
    replace z462 : _ = 10 := z462
    subst y462 z462
    obtain ⟨rfl, Nq462, Kq462, Fr462, Fc462, Vr462⟩ := hQ462
    have N462 := own_frl l462 N461 Nq462
    refine own_pre (fun t k => st462.trans k) ?_
    have A460_462 := A460_461.keep Kq462
    have Er461_462 := Er461.keep Kq462
    have Zs462 : n0 ≤ T462.heap.size := Nat.le_trans Zs461 Kq462.1
    rcases hm with rfl | hm
    · skip
      refine own_pre (A := (T462.setTop (mkF m 108 (own_l159 p0 p1 p2 p3 p4 p5 pf0 pl0 pf1 pl1 pq b460) []))) ?_ ?_
      · intro t k
        refine XS.iload X462.here hx rfl (hb hby at_93) rfl ?_
        refine XS.iconst X462.here hx rfl (hb hby at_95) ?_
        refine XS.icmpYes X462.here hx rfl (pc0 := 96) (pc' := 108) rfl (hb hby at_96) rfl (tlt (by decide : (1 : Int32) < (2 : Int32))).1 (by decide) (by decide) ?_
        exact k
      refine own_pre (A := (T462.setTop (mkF m 123 (own_l159 p0 p1 p2 p3 p4 p5 pf0 pl0 pf1 pl1 pq b460) []))) ?_ ?_
      · intro t k
        refine XS.iload X462.here hx rfl (hb hby at_108) rfl ?_
        refine XS.iconst X462.here hx rfl (hb hby at_110) ?_
        refine XS.icmpYes X462.here hx rfl (pc0 := 111) (pc' := 123) rfl (hb hby at_111) rfl (tlt (by decide : (1 : Int32) < (3 : Int32))).1 (by decide) (by decide) ?_
        exact k
      refine own_pre (A := (T462.setTop (mkF m 138 (own_l159 p0 p1 p2 p3 p4 p5 pf0 pl0 pf1 pl1 pq b460) []))) ?_ ?_
      · intro t k
        refine XS.iload X462.here hx rfl (hb hby at_123) rfl ?_
        refine XS.iconst X462.here hx rfl (hb hby at_125) ?_
        refine XS.icmpYes X462.here hx rfl (pc0 := 126) (pc' := 138) rfl (hb hby at_126) rfl (tlt (by decide : (1 : Int32) < (4 : Int32))).1 (by decide) (by decide) ?_
        exact k
      refine own_pre (A := (T462.setTop (mkF m 153 (own_l159 p0 p1 p2 p3 p4 p5 pf0 pl0 pf1 pl1 pq b460) []))) ?_ ?_
      · intro t k
        refine XS.iload X462.here hx rfl (hb hby at_138) rfl ?_
        refine XS.iconst X462.here hx rfl (hb hby at_140) ?_
        refine XS.icmpYes X462.here hx rfl (pc0 := 141) (pc' := 153) rfl (hb hby at_141) rfl (tlt (by decide : (1 : Int32) < (5 : Int32))).1 (by decide) (by decide) ?_
        exact k
      refine own_pre (A := (T462.setTop (mkF m 169 (own_l159 p0 p1 p2 p3 p4 p5 pf0 pl0 pf1 pl1 pq b460) []))) ?_ ?_
      · intro t k
        refine XS.iload X462.here hx rfl (hb hby at_153) rfl ?_
        refine XS.bipush X462.here hx rfl (hb hby at_155) ?_
        refine XS.icmpYes X462.here hx rfl (pc0 := 157) (pc' := 169) rfl (hb hby at_157) rfl (tlt (by decide : (1 : Int32) < (6 : Int32))).1 (by decide) (by decide) ?_
        exact k
      refine own_pre (A := (T462.setTop (mkF m 185 (own_l159 p0 p1 p2 p3 p4 p5 pf0 pl0 pf1 pl1 pq b460) []))) ?_ ?_
      · intro t k
        refine XS.iload X462.here hx rfl (hb hby at_169) rfl ?_
        refine XS.bipush X462.here hx rfl (hb hby at_171) ?_
        refine XS.icmpYes X462.here hx rfl (pc0 := 173) (pc' := 185) rfl (hb hby at_173) rfl (tlt (by decide : (1 : Int32) < (7 : Int32))).1 (by decide) (by decide) ?_
        exact k
      refine own_pre (A := (T462.setTop (mkF m 201 (own_l159 p0 p1 p2 p3 p4 p5 pf0 pl0 pf1 pl1 pq b460) []))) ?_ ?_
      · intro t k
        refine XS.iload X462.here hx rfl (hb hby at_185) rfl ?_
        refine XS.bipush X462.here hx rfl (hb hby at_187) ?_
        refine XS.icmpYes X462.here hx rfl (pc0 := 189) (pc' := 201) rfl (hb hby at_189) rfl (tlt (by decide : (1 : Int32) < (8 : Int32))).1 (by decide) (by decide) ?_
        exact k
      refine own_pre (A := (T462.setTop (mkF m 217 (own_l159 p0 p1 p2 p3 p4 p5 pf0 pl0 pf1 pl1 pq b460) []))) ?_ ?_
      · intro t k
        refine XS.iload X462.here hx rfl (hb hby at_201) rfl ?_
        refine XS.bipush X462.here hx rfl (hb hby at_203) ?_
        refine XS.icmpYes X462.here hx rfl (pc0 := 205) (pc' := 217) rfl (hb hby at_205) rfl (tlt (by decide : (1 : Int32) < (9 : Int32))).1 (by decide) (by decide) ?_
        exact k
      refine own_su_1 (qx := qx) (qy := qy) (np := 0) hw X462 hx hZ hown hml hby rfl N462 Zs462 (by decide) (by decide) A460_462 Fr462 Fc462 Vr462 Er461_462 (nn := 1) rfl (by decide) (by decide) (own_hs_1_eq l Z a0 hw n0 qx qy) (by decide) (by decide) (by decide) (own_g1 _ _ _) hux hlx hA ?_
      exact KF _ _
    · skip
      have hk2 : ¬ pn < (2 : Int32) := by rcases hm with rfl | rfl | rfl | rfl | rfl | rfl | rfl | rfl <;> decide
      refine own_pre (A := (T462.setTop (mkF m 105 (own_l141 p0 p1 p2 p3 p4 p5 pf0 pl0 pf1 pl1 pq pn b460) [(.int pl1), (.int pf1), (.ref b460)]))) ?_ ?_
      · intro t k
        refine XS.iload X462.here hx rfl (hb hby at_93) rfl ?_
        refine XS.iconst X462.here hx rfl (hb hby at_95) ?_
        refine XS.icmpNo X462.here hx rfl (hb hby at_96) rfl (flt hk2).1 ?_
        refine XS.aload X462.here hx rfl (hb hby at_99) rfl rfl ?_
        refine XS.iload X462.here hx rfl (hb hby at_101) rfl ?_
        refine XS.iload X462.here hx rfl (hb hby at_103) rfl ?_
        exact k
      obtain ⟨cq463, kq463, q463a, q463b, q463c⟩ := isOf hZ rfl A460_462
      obtain ⟨_, _, ⟨T463, L463, k463, n463⟩, -, X463, ⟨Lc463, hQ463, l463, y463, z463⟩, st463⟩ := X462.virtualBack hx (y := (⟨"com/example/otito/otito/chain/CodePointSet$Builder", "add", "(II)V"⟩ : MethodName)) (z := (⟨"com/example/otito/otito/chain/CodePointSet$Builder", "add", "(II)V"⟩ : MethodName)) hown (mvT hZ (own_w hw 25 rfl)) (mvT hZ (own_w hw 26 rfl)) (notFace_of_selects (args := #[]) (mvT hZ (own_w hw 28 rfl))) (mvT hZ (own_w hw 28 rfl)) (mvT hZ (own_w hw 27 rfl)) (by decide) (backOf (W := 0) (rm6_1 l Z a0 hw [] b460 pf1 pl1 ar461 kr461 qx (0 : Int64) (0 : Int64) (0 : Int64) (0 : Int64) (0 : Int64) (0 : Int64) (0 : Int64) qy T462.heap n0 Zs462 A460_462 Fr462 Fc462 Vr462 Er461_462 nq461 gn_b460 gq461 hqy) hZ (own_w hw 29 rfl) (own_w hw 15 rfl) (by decide) (by decide)) q463a q463c (g := (mkF m 105 (own_l141 p0 p1 p2 p3 p4 p5 pf0 pl0 pf1 pl1 pq pn b460) [(.int pl1), (.int pf1), (.ref b460)])) rfl (by rw [hml]; rfl) (Steps.refl _) (argsL := [(.int pf1), (.int pl1)]) (rest := []) (lenOf own_pd13 rfl) rfl (by show 2 * 0 + _ ≤ _; exact Nat.le_of_eq rfl) (hb hby at_105) (fun _ _ => ⟨rfl, rfl, (by decide : 2 + 0 ≤ _), (by decide : 10 + 0 ≤ _)⟩)
      dsimp only [Pt.U, Pt.locs, Pt.cells, Pt.slots] at X463 l463 y463 z463 st463 hQ463
      replace y463 : _ = 2 := y463
      replace z463 : _ = 10 := z463
      subst y463 z463
      obtain ⟨rfl, Nq463, Kq463, Fr463, Fc463, Vr463⟩ := hQ463
      have N463 := own_frl l463 N462 Nq463
      refine own_pre (fun t k => st463.trans k) ?_
      have A460_463 := A460_462.keep Kq463
      have Er461_463 := Er461_462.keep Kq463
      have Zs463 : n0 ≤ T463.heap.size := Nat.le_trans Zs462 Kq463.1
      rcases hm with rfl | hm
      · skip
        refine own_pre (A := (T463.setTop (mkF m 123 (own_l160 p0 p1 p2 p3 p4 p5 pf0 pl0 pf1 pl1 pq b460) []))) ?_ ?_
        · intro t k
          refine XS.iload X463.here hx rfl (hb hby at_108) rfl ?_
          refine XS.iconst X463.here hx rfl (hb hby at_110) ?_
          refine XS.icmpYes X463.here hx rfl (pc0 := 111) (pc' := 123) rfl (hb hby at_111) rfl (tlt (by decide : (2 : Int32) < (3 : Int32))).1 (by decide) (by decide) ?_
          exact k
        refine own_pre (A := (T463.setTop (mkF m 138 (own_l160 p0 p1 p2 p3 p4 p5 pf0 pl0 pf1 pl1 pq b460) []))) ?_ ?_
        · intro t k
          refine XS.iload X463.here hx rfl (hb hby at_123) rfl ?_
          refine XS.iconst X463.here hx rfl (hb hby at_125) ?_
          refine XS.icmpYes X463.here hx rfl (pc0 := 126) (pc' := 138) rfl (hb hby at_126) rfl (tlt (by decide : (2 : Int32) < (4 : Int32))).1 (by decide) (by decide) ?_
          exact k
        refine own_pre (A := (T463.setTop (mkF m 153 (own_l160 p0 p1 p2 p3 p4 p5 pf0 pl0 pf1 pl1 pq b460) []))) ?_ ?_
        · intro t k
          refine XS.iload X463.here hx rfl (hb hby at_138) rfl ?_
          refine XS.iconst X463.here hx rfl (hb hby at_140) ?_
          refine XS.icmpYes X463.here hx rfl (pc0 := 141) (pc' := 153) rfl (hb hby at_141) rfl (tlt (by decide : (2 : Int32) < (5 : Int32))).1 (by decide) (by decide) ?_
          exact k
        refine own_pre (A := (T463.setTop (mkF m 169 (own_l160 p0 p1 p2 p3 p4 p5 pf0 pl0 pf1 pl1 pq b460) []))) ?_ ?_
        · intro t k
          refine XS.iload X463.here hx rfl (hb hby at_153) rfl ?_
          refine XS.bipush X463.here hx rfl (hb hby at_155) ?_
          refine XS.icmpYes X463.here hx rfl (pc0 := 157) (pc' := 169) rfl (hb hby at_157) rfl (tlt (by decide : (2 : Int32) < (6 : Int32))).1 (by decide) (by decide) ?_
          exact k
        refine own_pre (A := (T463.setTop (mkF m 185 (own_l160 p0 p1 p2 p3 p4 p5 pf0 pl0 pf1 pl1 pq b460) []))) ?_ ?_
        · intro t k
          refine XS.iload X463.here hx rfl (hb hby at_169) rfl ?_
          refine XS.bipush X463.here hx rfl (hb hby at_171) ?_
          refine XS.icmpYes X463.here hx rfl (pc0 := 173) (pc' := 185) rfl (hb hby at_173) rfl (tlt (by decide : (2 : Int32) < (7 : Int32))).1 (by decide) (by decide) ?_
          exact k
        refine own_pre (A := (T463.setTop (mkF m 201 (own_l160 p0 p1 p2 p3 p4 p5 pf0 pl0 pf1 pl1 pq b460) []))) ?_ ?_
        · intro t k
          refine XS.iload X463.here hx rfl (hb hby at_185) rfl ?_
          refine XS.bipush X463.here hx rfl (hb hby at_187) ?_
          refine XS.icmpYes X463.here hx rfl (pc0 := 189) (pc' := 201) rfl (hb hby at_189) rfl (tlt (by decide : (2 : Int32) < (8 : Int32))).1 (by decide) (by decide) ?_
          exact k
        refine own_pre (A := (T463.setTop (mkF m 217 (own_l160 p0 p1 p2 p3 p4 p5 pf0 pl0 pf1 pl1 pq b460) []))) ?_ ?_
        · intro t k
          refine XS.iload X463.here hx rfl (hb hby at_201) rfl ?_
          refine XS.bipush X463.here hx rfl (hb hby at_203) ?_
          refine XS.icmpYes X463.here hx rfl (pc0 := 205) (pc' := 217) rfl (hb hby at_205) rfl (tlt (by decide : (2 : Int32) < (9 : Int32))).1 (by decide) (by decide) ?_
          exact k
        rcases own_tri qx qy with hxy | hxy | hxy
        · skip
          have ho : pf0.toInt ≤ pf1.toInt := own_ord hxy hqx hqy hA hB
          by_cases hv : (pl0 + (1 : Int32)) < pf1
          · skip
            refine own_su_ltD (qx := qx) (qy := qy) hw X463 hx hZ hown hml hby rfl N463 Zs463 (by decide) (by decide) A460_463 Fr463 Fc463 Vr463 Er461_463 (nn := 2) rfl (by decide) (by decide) (own_hs_2_lt l Z a0 hw n0 qx qy hxy) (by decide) (by decide) (np := 1) (by decide) (by decide) (own_gl _ _ _ _ _) (own_gh _ _ _ _ _ _ rfl) hux hlx huy hly hA hB ho hv ?_
            exact KF _ _
          · skip
            refine own_su_ltO (qx := qx) (qy := qy) hw X463 hx hZ hown hml hby rfl N463 Zs463 (by decide) (by decide) A460_463 Fr463 Fc463 Vr463 Er461_463 (nn := 2) rfl (by decide) (by decide) (own_hs_2_lt l Z a0 hw n0 qx qy hxy) (by decide) (by decide) (np := 1) (by decide) (by decide) (own_gl _ _ _ _ _) (own_gh _ _ _ _ _ _ rfl) hux hlx huy hly hA hB ho hv ?_
            exact KF _ _
        · skip
          have he1 : pf1 = pf0 := by rw [← hux, ← huy, hxy]
          have he2 : pl1 = pl0 := by rw [← hlx, ← hly, hxy]
          subst hxy
          refine own_su_S (qx := qx) (qy := qx) (np := 0) hw X463 hx hZ hown hml hby rfl N463 Zs463 (by decide) (by decide) A460_463 Fr463 Fc463 Vr463 Er461_463 (nn := 2) rfl (by decide) (by decide) (own_hs_2_eq l Z a0 hw n0 qx qx) (by decide) (by decide) (by decide) (own_g1 _ _ _) hux hlx hA he1 he2 ?_
          exact KF _ _
        · skip
          have ho : pf1.toInt ≤ pf0.toInt := own_ord hxy hqy hqx hB hA
          by_cases hv : (pl1 + (1 : Int32)) < pf0
          · skip
            refine own_su_gtD (qx := qx) (qy := qy) hw X463 hx hZ hown hml hby rfl N463 Zs463 (by decide) (by decide) A460_463 Fr463 Fc463 Vr463 Er461_463 (nn := 2) rfl (by decide) (by decide) (own_hs_2_gt l Z a0 hw n0 qx qy hxy) (by decide) (by decide) (np := 1) (by decide) (by decide) (own_gl _ _ _ _ _) (own_gh _ _ _ _ _ _ rfl) hux hlx huy hly hA hB ho hv ?_
            exact KF _ _
          · skip
            refine own_su_gtO (qx := qx) (qy := qy) hw X463 hx hZ hown hml hby rfl N463 Zs463 (by decide) (by decide) A460_463 Fr463 Fc463 Vr463 Er461_463 (nn := 2) rfl (by decide) (by decide) (own_hs_2_gt l Z a0 hw n0 qx qy hxy) (by decide) (by decide) (np := 1) (by decide) (by decide) (own_gl _ _ _ _ _) (own_gh _ _ _ _ _ _ rfl) hux hlx huy hly hA hB ho hv ?_
            exact KF _ _
      · skip
        have hk3 : ¬ pn < (3 : Int32) := by rcases hm with rfl | rfl | rfl | rfl | rfl | rfl | rfl <;> decide
        refine own_pre (A := (T463.setTop (mkF m 120 (own_l141 p0 p1 p2 p3 p4 p5 pf0 pl0 pf1 pl1 pq pn b460) [(.int pl0), (.int pf0), (.ref b460)]))) ?_ ?_
        · intro t k
          refine XS.iload X463.here hx rfl (hb hby at_108) rfl ?_
          refine XS.iconst X463.here hx rfl (hb hby at_110) ?_
          refine XS.icmpNo X463.here hx rfl (hb hby at_111) rfl (flt hk3).1 ?_
          refine XS.aload X463.here hx rfl (hb hby at_114) rfl rfl ?_
          refine XS.iload X463.here hx rfl (hb hby at_116) rfl ?_
          refine XS.iload X463.here hx rfl (hb hby at_118) rfl ?_
          exact k
        obtain ⟨cq464, kq464, q464a, q464b, q464c⟩ := isOf hZ rfl A460_463
        obtain ⟨_, _, ⟨T464, L464, k464, n464⟩, -, X464, ⟨Lc464, hQ464, l464, y464, z464⟩, st464⟩ := X463.virtualBack hx (y := (⟨"com/example/otito/otito/chain/CodePointSet$Builder", "add", "(II)V"⟩ : MethodName)) (z := (⟨"com/example/otito/otito/chain/CodePointSet$Builder", "add", "(II)V"⟩ : MethodName)) hown (mvT hZ (own_w hw 25 rfl)) (mvT hZ (own_w hw 26 rfl)) (notFace_of_selects (args := #[]) (mvT hZ (own_w hw 28 rfl))) (mvT hZ (own_w hw 28 rfl)) (mvT hZ (own_w hw 27 rfl)) (by decide) (backOf (W := 0) (rm6_2 l Z a0 hw [] b460 pf0 pl0 ar461 kr461 qx qy (0 : Int64) (0 : Int64) (0 : Int64) (0 : Int64) (0 : Int64) (0 : Int64) qx T463.heap n0 Zs463 A460_463 Fr463 Fc463 Vr463 Er461_463 nq461 gn_b460 gq461 hqx) hZ (own_w hw 29 rfl) (own_w hw 15 rfl) (by decide) (by decide)) q464a q464c (g := (mkF m 120 (own_l141 p0 p1 p2 p3 p4 p5 pf0 pl0 pf1 pl1 pq pn b460) [(.int pl0), (.int pf0), (.ref b460)])) rfl (by rw [hml]; rfl) (Steps.refl _) (argsL := [(.int pf0), (.int pl0)]) (rest := []) (lenOf own_pd13 rfl) rfl (by show 2 * 0 + _ ≤ _; exact Nat.le_of_eq rfl) (hb hby at_120) (fun _ _ => ⟨rfl, rfl, (by decide : 2 + 0 ≤ _), (by decide : 10 + 0 ≤ _)⟩)
        dsimp only [Pt.U, Pt.locs, Pt.cells, Pt.slots] at X464 l464 y464 z464 st464 hQ464
        replace y464 : _ = 2 := y464
        replace z464 : _ = 10 := z464
        subst y464 z464
        obtain ⟨rfl, Nq464, Kq464, Fr464, Fc464, Vr464⟩ := hQ464
        have N464 := own_frl l464 N463 Nq464
        refine own_pre (fun t k => st464.trans k) ?_
        have A460_464 := A460_463.keep Kq464
        have Er461_464 := Er461_463.keep Kq464
        have Zs464 : n0 ≤ T464.heap.size := Nat.le_trans Zs463 Kq464.1
        rcases hm with rfl | hm
        · skip
          refine own_pre (A := (T464.setTop (mkF m 138 (own_l161 p0 p1 p2 p3 p4 p5 pf0 pl0 pf1 pl1 pq b460) []))) ?_ ?_
          · intro t k
            refine XS.iload X464.here hx rfl (hb hby at_123) rfl ?_
            refine XS.iconst X464.here hx rfl (hb hby at_125) ?_
            refine XS.icmpYes X464.here hx rfl (pc0 := 126) (pc' := 138) rfl (hb hby at_126) rfl (tlt (by decide : (3 : Int32) < (4 : Int32))).1 (by decide) (by decide) ?_
            exact k
          refine own_pre (A := (T464.setTop (mkF m 153 (own_l161 p0 p1 p2 p3 p4 p5 pf0 pl0 pf1 pl1 pq b460) []))) ?_ ?_
          · intro t k
            refine XS.iload X464.here hx rfl (hb hby at_138) rfl ?_
            refine XS.iconst X464.here hx rfl (hb hby at_140) ?_
            refine XS.icmpYes X464.here hx rfl (pc0 := 141) (pc' := 153) rfl (hb hby at_141) rfl (tlt (by decide : (3 : Int32) < (5 : Int32))).1 (by decide) (by decide) ?_
            exact k
          refine own_pre (A := (T464.setTop (mkF m 169 (own_l161 p0 p1 p2 p3 p4 p5 pf0 pl0 pf1 pl1 pq b460) []))) ?_ ?_
          · intro t k
            refine XS.iload X464.here hx rfl (hb hby at_153) rfl ?_
            refine XS.bipush X464.here hx rfl (hb hby at_155) ?_
            refine XS.icmpYes X464.here hx rfl (pc0 := 157) (pc' := 169) rfl (hb hby at_157) rfl (tlt (by decide : (3 : Int32) < (6 : Int32))).1 (by decide) (by decide) ?_
            exact k
          refine own_pre (A := (T464.setTop (mkF m 185 (own_l161 p0 p1 p2 p3 p4 p5 pf0 pl0 pf1 pl1 pq b460) []))) ?_ ?_
          · intro t k
            refine XS.iload X464.here hx rfl (hb hby at_169) rfl ?_
            refine XS.bipush X464.here hx rfl (hb hby at_171) ?_
            refine XS.icmpYes X464.here hx rfl (pc0 := 173) (pc' := 185) rfl (hb hby at_173) rfl (tlt (by decide : (3 : Int32) < (7 : Int32))).1 (by decide) (by decide) ?_
            exact k
          refine own_pre (A := (T464.setTop (mkF m 201 (own_l161 p0 p1 p2 p3 p4 p5 pf0 pl0 pf1 pl1 pq b460) []))) ?_ ?_
          · intro t k
            refine XS.iload X464.here hx rfl (hb hby at_185) rfl ?_
            refine XS.bipush X464.here hx rfl (hb hby at_187) ?_
            refine XS.icmpYes X464.here hx rfl (pc0 := 189) (pc' := 201) rfl (hb hby at_189) rfl (tlt (by decide : (3 : Int32) < (8 : Int32))).1 (by decide) (by decide) ?_
            exact k
          refine own_pre (A := (T464.setTop (mkF m 217 (own_l161 p0 p1 p2 p3 p4 p5 pf0 pl0 pf1 pl1 pq b460) []))) ?_ ?_
          · intro t k
            refine XS.iload X464.here hx rfl (hb hby at_201) rfl ?_
            refine XS.bipush X464.here hx rfl (hb hby at_203) ?_
            refine XS.icmpYes X464.here hx rfl (pc0 := 205) (pc' := 217) rfl (hb hby at_205) rfl (tlt (by decide : (3 : Int32) < (9 : Int32))).1 (by decide) (by decide) ?_
            exact k
          rcases own_tri qx qy with hxy | hxy | hxy
          · skip
            have ho : pf0.toInt ≤ pf1.toInt := own_ord hxy hqx hqy hA hB
            by_cases hv : (pl0 + (1 : Int32)) < pf1
            · skip
              refine own_su_ltD (qx := qx) (qy := qy) hw X464 hx hZ hown hml hby rfl N464 Zs464 (by decide) (by decide) A460_464 Fr464 Fc464 Vr464 Er461_464 (nn := 3) rfl (by decide) (by decide) (own_hs_3_lt l Z a0 hw n0 qx qy hxy) (by decide) (by decide) (np := 2) (by decide) (by decide) (own_gl _ _ _ _ _) (own_gh _ _ _ _ _ _ rfl) hux hlx huy hly hA hB ho hv ?_
              exact KF _ _
            · skip
              refine own_su_ltO (qx := qx) (qy := qy) hw X464 hx hZ hown hml hby rfl N464 Zs464 (by decide) (by decide) A460_464 Fr464 Fc464 Vr464 Er461_464 (nn := 3) rfl (by decide) (by decide) (own_hs_3_lt l Z a0 hw n0 qx qy hxy) (by decide) (by decide) (np := 2) (by decide) (by decide) (own_gl _ _ _ _ _) (own_gh _ _ _ _ _ _ rfl) hux hlx huy hly hA hB ho hv ?_
              exact KF _ _
          · skip
            have he1 : pf1 = pf0 := by rw [← hux, ← huy, hxy]
            have he2 : pl1 = pl0 := by rw [← hlx, ← hly, hxy]
            subst hxy
            refine own_su_S (qx := qx) (qy := qx) (np := 0) hw X464 hx hZ hown hml hby rfl N464 Zs464 (by decide) (by decide) A460_464 Fr464 Fc464 Vr464 Er461_464 (nn := 3) rfl (by decide) (by decide) (own_hs_3_eq l Z a0 hw n0 qx qx) (by decide) (by decide) (by decide) (own_g1 _ _ _) hux hlx hA he1 he2 ?_
            exact KF _ _
          · skip
            have ho : pf1.toInt ≤ pf0.toInt := own_ord hxy hqy hqx hB hA
            by_cases hv : (pl1 + (1 : Int32)) < pf0
            · skip
              refine own_su_gtD (qx := qx) (qy := qy) hw X464 hx hZ hown hml hby rfl N464 Zs464 (by decide) (by decide) A460_464 Fr464 Fc464 Vr464 Er461_464 (nn := 3) rfl (by decide) (by decide) (own_hs_3_gt l Z a0 hw n0 qx qy hxy) (by decide) (by decide) (np := 1) (by decide) (by decide) (own_gl _ _ _ _ _) (own_gh _ _ _ _ _ _ rfl) hux hlx huy hly hA hB ho hv ?_
              exact KF _ _
            · skip
              refine own_su_gtO (qx := qx) (qy := qy) hw X464 hx hZ hown hml hby rfl N464 Zs464 (by decide) (by decide) A460_464 Fr464 Fc464 Vr464 Er461_464 (nn := 3) rfl (by decide) (by decide) (own_hs_3_gt l Z a0 hw n0 qx qy hxy) (by decide) (by decide) (np := 1) (by decide) (by decide) (own_gl _ _ _ _ _) (own_gh _ _ _ _ _ _ rfl) hux hlx huy hly hA hB ho hv ?_
              exact KF _ _
        · skip
          have hk4 : ¬ pn < (4 : Int32) := by rcases hm with rfl | rfl | rfl | rfl | rfl | rfl <;> decide
          refine own_pre (A := (T464.setTop (mkF m 135 (own_l141 p0 p1 p2 p3 p4 p5 pf0 pl0 pf1 pl1 pq pn b460) [(.int pl1), (.int pf1), (.ref b460)]))) ?_ ?_
          · intro t k
            refine XS.iload X464.here hx rfl (hb hby at_123) rfl ?_
            refine XS.iconst X464.here hx rfl (hb hby at_125) ?_
            refine XS.icmpNo X464.here hx rfl (hb hby at_126) rfl (flt hk4).1 ?_
            refine XS.aload X464.here hx rfl (hb hby at_129) rfl rfl ?_
            refine XS.iload X464.here hx rfl (hb hby at_131) rfl ?_
            refine XS.iload X464.here hx rfl (hb hby at_133) rfl ?_
            exact k
          obtain ⟨cq465, kq465, q465a, q465b, q465c⟩ := isOf hZ rfl A460_464
          obtain ⟨_, _, ⟨T465, L465, k465, n465⟩, -, X465, ⟨Lc465, hQ465, l465, y465, z465⟩, st465⟩ := X464.virtualBack hx (y := (⟨"com/example/otito/otito/chain/CodePointSet$Builder", "add", "(II)V"⟩ : MethodName)) (z := (⟨"com/example/otito/otito/chain/CodePointSet$Builder", "add", "(II)V"⟩ : MethodName)) hown (mvT hZ (own_w hw 25 rfl)) (mvT hZ (own_w hw 26 rfl)) (notFace_of_selects (args := #[]) (mvT hZ (own_w hw 28 rfl))) (mvT hZ (own_w hw 28 rfl)) (mvT hZ (own_w hw 27 rfl)) (by decide) (backOf (W := 0) (rm6_3 l Z a0 hw [] b460 pf1 pl1 ar461 kr461 qx qy qx (0 : Int64) (0 : Int64) (0 : Int64) (0 : Int64) (0 : Int64) qy T464.heap n0 Zs464 A460_464 Fr464 Fc464 Vr464 Er461_464 nq461 gn_b460 gq461 hqy) hZ (own_w hw 29 rfl) (own_w hw 15 rfl) (by decide) (by decide)) q465a q465c (g := (mkF m 135 (own_l141 p0 p1 p2 p3 p4 p5 pf0 pl0 pf1 pl1 pq pn b460) [(.int pl1), (.int pf1), (.ref b460)])) rfl (by rw [hml]; rfl) (Steps.refl _) (argsL := [(.int pf1), (.int pl1)]) (rest := []) (lenOf own_pd13 rfl) rfl (by show 2 * 0 + _ ≤ _; exact Nat.le_of_eq rfl) (hb hby at_135) (fun _ _ => ⟨rfl, rfl, (by decide : 2 + 0 ≤ _), (by decide : 10 + 0 ≤ _)⟩)
          dsimp only [Pt.U, Pt.locs, Pt.cells, Pt.slots] at X465 l465 y465 z465 st465 hQ465
          replace y465 : _ = 2 := y465
          replace z465 : _ = 10 := z465
          subst y465 z465
          obtain ⟨rfl, Nq465, Kq465, Fr465, Fc465, Vr465⟩ := hQ465
          have N465 := own_frl l465 N464 Nq465
          refine own_pre (fun t k => st465.trans k) ?_
          have A460_465 := A460_464.keep Kq465
          have Er461_465 := Er461_464.keep Kq465
          have Zs465 : n0 ≤ T465.heap.size := Nat.le_trans Zs464 Kq465.1
          rcases hm with rfl | hm
          · skip
            refine own_pre (A := (T465.setTop (mkF m 153 (own_l162 p0 p1 p2 p3 p4 p5 pf0 pl0 pf1 pl1 pq b460) []))) ?_ ?_
            · intro t k
              refine XS.iload X465.here hx rfl (hb hby at_138) rfl ?_
              refine XS.iconst X465.here hx rfl (hb hby at_140) ?_
              refine XS.icmpYes X465.here hx rfl (pc0 := 141) (pc' := 153) rfl (hb hby at_141) rfl (tlt (by decide : (4 : Int32) < (5 : Int32))).1 (by decide) (by decide) ?_
              exact k
            refine own_pre (A := (T465.setTop (mkF m 169 (own_l162 p0 p1 p2 p3 p4 p5 pf0 pl0 pf1 pl1 pq b460) []))) ?_ ?_
            · intro t k
              refine XS.iload X465.here hx rfl (hb hby at_153) rfl ?_
              refine XS.bipush X465.here hx rfl (hb hby at_155) ?_
              refine XS.icmpYes X465.here hx rfl (pc0 := 157) (pc' := 169) rfl (hb hby at_157) rfl (tlt (by decide : (4 : Int32) < (6 : Int32))).1 (by decide) (by decide) ?_
              exact k
            refine own_pre (A := (T465.setTop (mkF m 185 (own_l162 p0 p1 p2 p3 p4 p5 pf0 pl0 pf1 pl1 pq b460) []))) ?_ ?_
            · intro t k
              refine XS.iload X465.here hx rfl (hb hby at_169) rfl ?_
              refine XS.bipush X465.here hx rfl (hb hby at_171) ?_
              refine XS.icmpYes X465.here hx rfl (pc0 := 173) (pc' := 185) rfl (hb hby at_173) rfl (tlt (by decide : (4 : Int32) < (7 : Int32))).1 (by decide) (by decide) ?_
              exact k
            refine own_pre (A := (T465.setTop (mkF m 201 (own_l162 p0 p1 p2 p3 p4 p5 pf0 pl0 pf1 pl1 pq b460) []))) ?_ ?_
            · intro t k
              refine XS.iload X465.here hx rfl (hb hby at_185) rfl ?_
              refine XS.bipush X465.here hx rfl (hb hby at_187) ?_
              refine XS.icmpYes X465.here hx rfl (pc0 := 189) (pc' := 201) rfl (hb hby at_189) rfl (tlt (by decide : (4 : Int32) < (8 : Int32))).1 (by decide) (by decide) ?_
              exact k
            refine own_pre (A := (T465.setTop (mkF m 217 (own_l162 p0 p1 p2 p3 p4 p5 pf0 pl0 pf1 pl1 pq b460) []))) ?_ ?_
            · intro t k
              refine XS.iload X465.here hx rfl (hb hby at_201) rfl ?_
              refine XS.bipush X465.here hx rfl (hb hby at_203) ?_
              refine XS.icmpYes X465.here hx rfl (pc0 := 205) (pc' := 217) rfl (hb hby at_205) rfl (tlt (by decide : (4 : Int32) < (9 : Int32))).1 (by decide) (by decide) ?_
              exact k
            rcases own_tri qx qy with hxy | hxy | hxy
            · skip
              have ho : pf0.toInt ≤ pf1.toInt := own_ord hxy hqx hqy hA hB
              by_cases hv : (pl0 + (1 : Int32)) < pf1
              · skip
                refine own_su_ltD (qx := qx) (qy := qy) hw X465 hx hZ hown hml hby rfl N465 Zs465 (by decide) (by decide) A460_465 Fr465 Fc465 Vr465 Er461_465 (nn := 4) rfl (by decide) (by decide) (own_hs_4_lt l Z a0 hw n0 qx qy hxy) (by decide) (by decide) (np := 2) (by decide) (by decide) (own_gl _ _ _ _ _) (own_gh _ _ _ _ _ _ rfl) hux hlx huy hly hA hB ho hv ?_
                exact KF _ _
              · skip
                refine own_su_ltO (qx := qx) (qy := qy) hw X465 hx hZ hown hml hby rfl N465 Zs465 (by decide) (by decide) A460_465 Fr465 Fc465 Vr465 Er461_465 (nn := 4) rfl (by decide) (by decide) (own_hs_4_lt l Z a0 hw n0 qx qy hxy) (by decide) (by decide) (np := 2) (by decide) (by decide) (own_gl _ _ _ _ _) (own_gh _ _ _ _ _ _ rfl) hux hlx huy hly hA hB ho hv ?_
                exact KF _ _
            · skip
              have he1 : pf1 = pf0 := by rw [← hux, ← huy, hxy]
              have he2 : pl1 = pl0 := by rw [← hlx, ← hly, hxy]
              subst hxy
              refine own_su_S (qx := qx) (qy := qx) (np := 0) hw X465 hx hZ hown hml hby rfl N465 Zs465 (by decide) (by decide) A460_465 Fr465 Fc465 Vr465 Er461_465 (nn := 4) rfl (by decide) (by decide) (own_hs_4_eq l Z a0 hw n0 qx qx) (by decide) (by decide) (by decide) (own_g1 _ _ _) hux hlx hA he1 he2 ?_
              exact KF _ _
            · skip
              have ho : pf1.toInt ≤ pf0.toInt := own_ord hxy hqy hqx hB hA
              by_cases hv : (pl1 + (1 : Int32)) < pf0
              · skip
                refine own_su_gtD (qx := qx) (qy := qy) hw X465 hx hZ hown hml hby rfl N465 Zs465 (by decide) (by decide) A460_465 Fr465 Fc465 Vr465 Er461_465 (nn := 4) rfl (by decide) (by decide) (own_hs_4_gt l Z a0 hw n0 qx qy hxy) (by decide) (by decide) (np := 2) (by decide) (by decide) (own_gl _ _ _ _ _) (own_gh _ _ _ _ _ _ rfl) hux hlx huy hly hA hB ho hv ?_
                exact KF _ _
              · skip
                refine own_su_gtO (qx := qx) (qy := qy) hw X465 hx hZ hown hml hby rfl N465 Zs465 (by decide) (by decide) A460_465 Fr465 Fc465 Vr465 Er461_465 (nn := 4) rfl (by decide) (by decide) (own_hs_4_gt l Z a0 hw n0 qx qy hxy) (by decide) (by decide) (np := 2) (by decide) (by decide) (own_gl _ _ _ _ _) (own_gh _ _ _ _ _ _ rfl) hux hlx huy hly hA hB ho hv ?_
                exact KF _ _
          · skip
            have hk5 : ¬ pn < (5 : Int32) := by rcases hm with rfl | rfl | rfl | rfl | rfl <;> decide
            refine own_pre (A := (T465.setTop (mkF m 150 (own_l141 p0 p1 p2 p3 p4 p5 pf0 pl0 pf1 pl1 pq pn b460) [(.int pl0), (.int pf0), (.ref b460)]))) ?_ ?_
            · intro t k
              refine XS.iload X465.here hx rfl (hb hby at_138) rfl ?_
              refine XS.iconst X465.here hx rfl (hb hby at_140) ?_
              refine XS.icmpNo X465.here hx rfl (hb hby at_141) rfl (flt hk5).1 ?_
              refine XS.aload X465.here hx rfl (hb hby at_144) rfl rfl ?_
              refine XS.iload X465.here hx rfl (hb hby at_146) rfl ?_
              refine XS.iload X465.here hx rfl (hb hby at_148) rfl ?_
              exact k
            obtain ⟨cq466, kq466, q466a, q466b, q466c⟩ := isOf hZ rfl A460_465
            obtain ⟨_, _, ⟨T466, L466, k466, n466⟩, -, X466, ⟨Lc466, hQ466, l466, y466, z466⟩, st466⟩ := X465.virtualBack hx (y := (⟨"com/example/otito/otito/chain/CodePointSet$Builder", "add", "(II)V"⟩ : MethodName)) (z := (⟨"com/example/otito/otito/chain/CodePointSet$Builder", "add", "(II)V"⟩ : MethodName)) hown (mvT hZ (own_w hw 25 rfl)) (mvT hZ (own_w hw 26 rfl)) (notFace_of_selects (args := #[]) (mvT hZ (own_w hw 28 rfl))) (mvT hZ (own_w hw 28 rfl)) (mvT hZ (own_w hw 27 rfl)) (by decide) (backOf (W := 0) (rm6_4 l Z a0 hw [] b460 pf0 pl0 ar461 kr461 qx qy qx qy (0 : Int64) (0 : Int64) (0 : Int64) (0 : Int64) qx T465.heap n0 Zs465 A460_465 Fr465 Fc465 Vr465 Er461_465 nq461 gn_b460 gq461 hqx) hZ (own_w hw 29 rfl) (own_w hw 15 rfl) (by decide) (by decide)) q466a q466c (g := (mkF m 150 (own_l141 p0 p1 p2 p3 p4 p5 pf0 pl0 pf1 pl1 pq pn b460) [(.int pl0), (.int pf0), (.ref b460)])) rfl (by rw [hml]; rfl) (Steps.refl _) (argsL := [(.int pf0), (.int pl0)]) (rest := []) (lenOf own_pd13 rfl) rfl (by show 2 * 0 + _ ≤ _; exact Nat.le_of_eq rfl) (hb hby at_150) (fun _ _ => ⟨rfl, rfl, (by decide : 2 + 0 ≤ _), (by decide : 10 + 0 ≤ _)⟩)
            dsimp only [Pt.U, Pt.locs, Pt.cells, Pt.slots] at X466 l466 y466 z466 st466 hQ466
            replace y466 : _ = 2 := y466
            replace z466 : _ = 10 := z466
            subst y466 z466
            obtain ⟨rfl, Nq466, Kq466, Fr466, Fc466, Vr466⟩ := hQ466
            have N466 := own_frl l466 N465 Nq466
            refine own_pre (fun t k => st466.trans k) ?_
            have A460_466 := A460_465.keep Kq466
            have Er461_466 := Er461_465.keep Kq466
            have Zs466 : n0 ≤ T466.heap.size := Nat.le_trans Zs465 Kq466.1
            rcases hm with rfl | hm
            · skip
              refine own_pre (A := (T466.setTop (mkF m 169 (own_l163 p0 p1 p2 p3 p4 p5 pf0 pl0 pf1 pl1 pq b460) []))) ?_ ?_
              · intro t k
                refine XS.iload X466.here hx rfl (hb hby at_153) rfl ?_
                refine XS.bipush X466.here hx rfl (hb hby at_155) ?_
                refine XS.icmpYes X466.here hx rfl (pc0 := 157) (pc' := 169) rfl (hb hby at_157) rfl (tlt (by decide : (5 : Int32) < (6 : Int32))).1 (by decide) (by decide) ?_
                exact k
              refine own_pre (A := (T466.setTop (mkF m 185 (own_l163 p0 p1 p2 p3 p4 p5 pf0 pl0 pf1 pl1 pq b460) []))) ?_ ?_
              · intro t k
                refine XS.iload X466.here hx rfl (hb hby at_169) rfl ?_
                refine XS.bipush X466.here hx rfl (hb hby at_171) ?_
                refine XS.icmpYes X466.here hx rfl (pc0 := 173) (pc' := 185) rfl (hb hby at_173) rfl (tlt (by decide : (5 : Int32) < (7 : Int32))).1 (by decide) (by decide) ?_
                exact k
              refine own_pre (A := (T466.setTop (mkF m 201 (own_l163 p0 p1 p2 p3 p4 p5 pf0 pl0 pf1 pl1 pq b460) []))) ?_ ?_
              · intro t k
                refine XS.iload X466.here hx rfl (hb hby at_185) rfl ?_
                refine XS.bipush X466.here hx rfl (hb hby at_187) ?_
                refine XS.icmpYes X466.here hx rfl (pc0 := 189) (pc' := 201) rfl (hb hby at_189) rfl (tlt (by decide : (5 : Int32) < (8 : Int32))).1 (by decide) (by decide) ?_
                exact k
              refine own_pre (A := (T466.setTop (mkF m 217 (own_l163 p0 p1 p2 p3 p4 p5 pf0 pl0 pf1 pl1 pq b460) []))) ?_ ?_
              · intro t k
                refine XS.iload X466.here hx rfl (hb hby at_201) rfl ?_
                refine XS.bipush X466.here hx rfl (hb hby at_203) ?_
                refine XS.icmpYes X466.here hx rfl (pc0 := 205) (pc' := 217) rfl (hb hby at_205) rfl (tlt (by decide : (5 : Int32) < (9 : Int32))).1 (by decide) (by decide) ?_
                exact k
              rcases own_tri qx qy with hxy | hxy | hxy
              · skip
                have ho : pf0.toInt ≤ pf1.toInt := own_ord hxy hqx hqy hA hB
                by_cases hv : (pl0 + (1 : Int32)) < pf1
                · skip
                  refine own_su_ltD (qx := qx) (qy := qy) hw X466 hx hZ hown hml hby rfl N466 Zs466 (by decide) (by decide) A460_466 Fr466 Fc466 Vr466 Er461_466 (nn := 5) rfl (by decide) (by decide) (own_hs_5_lt l Z a0 hw n0 qx qy hxy) (by decide) (by decide) (np := 3) (by decide) (by decide) (own_gl _ _ _ _ _) (own_gh _ _ _ _ _ _ rfl) hux hlx huy hly hA hB ho hv ?_
                  exact KF _ _
                · skip
                  refine own_su_ltO (qx := qx) (qy := qy) hw X466 hx hZ hown hml hby rfl N466 Zs466 (by decide) (by decide) A460_466 Fr466 Fc466 Vr466 Er461_466 (nn := 5) rfl (by decide) (by decide) (own_hs_5_lt l Z a0 hw n0 qx qy hxy) (by decide) (by decide) (np := 3) (by decide) (by decide) (own_gl _ _ _ _ _) (own_gh _ _ _ _ _ _ rfl) hux hlx huy hly hA hB ho hv ?_
                  exact KF _ _
              · skip
                have he1 : pf1 = pf0 := by rw [← hux, ← huy, hxy]
                have he2 : pl1 = pl0 := by rw [← hlx, ← hly, hxy]
                subst hxy
                refine own_su_S (qx := qx) (qy := qx) (np := 0) hw X466 hx hZ hown hml hby rfl N466 Zs466 (by decide) (by decide) A460_466 Fr466 Fc466 Vr466 Er461_466 (nn := 5) rfl (by decide) (by decide) (own_hs_5_eq l Z a0 hw n0 qx qx) (by decide) (by decide) (by decide) (own_g1 _ _ _) hux hlx hA he1 he2 ?_
                exact KF _ _
              · skip
                have ho : pf1.toInt ≤ pf0.toInt := own_ord hxy hqy hqx hB hA
                by_cases hv : (pl1 + (1 : Int32)) < pf0
                · skip
                  refine own_su_gtD (qx := qx) (qy := qy) hw X466 hx hZ hown hml hby rfl N466 Zs466 (by decide) (by decide) A460_466 Fr466 Fc466 Vr466 Er461_466 (nn := 5) rfl (by decide) (by decide) (own_hs_5_gt l Z a0 hw n0 qx qy hxy) (by decide) (by decide) (np := 2) (by decide) (by decide) (own_gl _ _ _ _ _) (own_gh _ _ _ _ _ _ rfl) hux hlx huy hly hA hB ho hv ?_
                  exact KF _ _
                · skip
                  refine own_su_gtO (qx := qx) (qy := qy) hw X466 hx hZ hown hml hby rfl N466 Zs466 (by decide) (by decide) A460_466 Fr466 Fc466 Vr466 Er461_466 (nn := 5) rfl (by decide) (by decide) (own_hs_5_gt l Z a0 hw n0 qx qy hxy) (by decide) (by decide) (np := 2) (by decide) (by decide) (own_gl _ _ _ _ _) (own_gh _ _ _ _ _ _ rfl) hux hlx huy hly hA hB ho hv ?_
                  exact KF _ _
            · skip
              have hk6 : ¬ pn < (6 : Int32) := by rcases hm with rfl | rfl | rfl | rfl <;> decide
              refine own_pre (A := (T466.setTop (mkF m 166 (own_l141 p0 p1 p2 p3 p4 p5 pf0 pl0 pf1 pl1 pq pn b460) [(.int pl1), (.int pf1), (.ref b460)]))) ?_ ?_
              · intro t k
                refine XS.iload X466.here hx rfl (hb hby at_153) rfl ?_
                refine XS.bipush X466.here hx rfl (hb hby at_155) ?_
                refine XS.icmpNo X466.here hx rfl (hb hby at_157) rfl (flt hk6).1 ?_
                refine XS.aload X466.here hx rfl (hb hby at_160) rfl rfl ?_
                refine XS.iload X466.here hx rfl (hb hby at_162) rfl ?_
                refine XS.iload X466.here hx rfl (hb hby at_164) rfl ?_
                exact k
              obtain ⟨cq467, kq467, q467a, q467b, q467c⟩ := isOf hZ rfl A460_466
              obtain ⟨_, _, ⟨T467, L467, k467, n467⟩, -, X467, ⟨Lc467, hQ467, l467, y467, z467⟩, st467⟩ := X466.virtualBack hx (y := (⟨"com/example/otito/otito/chain/CodePointSet$Builder", "add", "(II)V"⟩ : MethodName)) (z := (⟨"com/example/otito/otito/chain/CodePointSet$Builder", "add", "(II)V"⟩ : MethodName)) hown (mvT hZ (own_w hw 25 rfl)) (mvT hZ (own_w hw 26 rfl)) (notFace_of_selects (args := #[]) (mvT hZ (own_w hw 28 rfl))) (mvT hZ (own_w hw 28 rfl)) (mvT hZ (own_w hw 27 rfl)) (by decide) (backOf (W := 0) (rm6_5 l Z a0 hw [] b460 pf1 pl1 ar461 kr461 qx qy qx qy qx (0 : Int64) (0 : Int64) (0 : Int64) qy T466.heap n0 Zs466 A460_466 Fr466 Fc466 Vr466 Er461_466 nq461 gn_b460 gq461 hqy) hZ (own_w hw 29 rfl) (own_w hw 15 rfl) (by decide) (by decide)) q467a q467c (g := (mkF m 166 (own_l141 p0 p1 p2 p3 p4 p5 pf0 pl0 pf1 pl1 pq pn b460) [(.int pl1), (.int pf1), (.ref b460)])) rfl (by rw [hml]; rfl) (Steps.refl _) (argsL := [(.int pf1), (.int pl1)]) (rest := []) (lenOf own_pd13 rfl) rfl (by show 2 * 0 + _ ≤ _; exact Nat.le_of_eq rfl) (hb hby at_166) (fun _ _ => ⟨rfl, rfl, (by decide : 2 + 0 ≤ _), (by decide : 10 + 0 ≤ _)⟩)
              dsimp only [Pt.U, Pt.locs, Pt.cells, Pt.slots] at X467 l467 y467 z467 st467 hQ467
              replace y467 : _ = 2 := y467
              replace z467 : _ = 10 := z467
              subst y467 z467
              obtain ⟨rfl, Nq467, Kq467, Fr467, Fc467, Vr467⟩ := hQ467
              have N467 := own_frl l467 N466 Nq467
              refine own_pre (fun t k => st467.trans k) ?_
              have A460_467 := A460_466.keep Kq467
              have Er461_467 := Er461_466.keep Kq467
              have Zs467 : n0 ≤ T467.heap.size := Nat.le_trans Zs466 Kq467.1
              rcases hm with rfl | hm
              · skip
                refine own_pre (A := (T467.setTop (mkF m 185 (own_l164 p0 p1 p2 p3 p4 p5 pf0 pl0 pf1 pl1 pq b460) []))) ?_ ?_
                · intro t k
                  refine XS.iload X467.here hx rfl (hb hby at_169) rfl ?_
                  refine XS.bipush X467.here hx rfl (hb hby at_171) ?_
                  refine XS.icmpYes X467.here hx rfl (pc0 := 173) (pc' := 185) rfl (hb hby at_173) rfl (tlt (by decide : (6 : Int32) < (7 : Int32))).1 (by decide) (by decide) ?_
                  exact k
                refine own_pre (A := (T467.setTop (mkF m 201 (own_l164 p0 p1 p2 p3 p4 p5 pf0 pl0 pf1 pl1 pq b460) []))) ?_ ?_
                · intro t k
                  refine XS.iload X467.here hx rfl (hb hby at_185) rfl ?_
                  refine XS.bipush X467.here hx rfl (hb hby at_187) ?_
                  refine XS.icmpYes X467.here hx rfl (pc0 := 189) (pc' := 201) rfl (hb hby at_189) rfl (tlt (by decide : (6 : Int32) < (8 : Int32))).1 (by decide) (by decide) ?_
                  exact k
                refine own_pre (A := (T467.setTop (mkF m 217 (own_l164 p0 p1 p2 p3 p4 p5 pf0 pl0 pf1 pl1 pq b460) []))) ?_ ?_
                · intro t k
                  refine XS.iload X467.here hx rfl (hb hby at_201) rfl ?_
                  refine XS.bipush X467.here hx rfl (hb hby at_203) ?_
                  refine XS.icmpYes X467.here hx rfl (pc0 := 205) (pc' := 217) rfl (hb hby at_205) rfl (tlt (by decide : (6 : Int32) < (9 : Int32))).1 (by decide) (by decide) ?_
                  exact k
                rcases own_tri qx qy with hxy | hxy | hxy
                · skip
                  have ho : pf0.toInt ≤ pf1.toInt := own_ord hxy hqx hqy hA hB
                  by_cases hv : (pl0 + (1 : Int32)) < pf1
                  · skip
                    refine own_su_ltD (qx := qx) (qy := qy) hw X467 hx hZ hown hml hby rfl N467 Zs467 (by decide) (by decide) A460_467 Fr467 Fc467 Vr467 Er461_467 (nn := 6) rfl (by decide) (by decide) (own_hs_6_lt l Z a0 hw n0 qx qy hxy) (by decide) (by decide) (np := 3) (by decide) (by decide) (own_gl _ _ _ _ _) (own_gh _ _ _ _ _ _ rfl) hux hlx huy hly hA hB ho hv ?_
                    exact KF _ _
                  · skip
                    refine own_su_ltO (qx := qx) (qy := qy) hw X467 hx hZ hown hml hby rfl N467 Zs467 (by decide) (by decide) A460_467 Fr467 Fc467 Vr467 Er461_467 (nn := 6) rfl (by decide) (by decide) (own_hs_6_lt l Z a0 hw n0 qx qy hxy) (by decide) (by decide) (np := 3) (by decide) (by decide) (own_gl _ _ _ _ _) (own_gh _ _ _ _ _ _ rfl) hux hlx huy hly hA hB ho hv ?_
                    exact KF _ _
                · skip
                  have he1 : pf1 = pf0 := by rw [← hux, ← huy, hxy]
                  have he2 : pl1 = pl0 := by rw [← hlx, ← hly, hxy]
                  subst hxy
                  refine own_su_S (qx := qx) (qy := qx) (np := 0) hw X467 hx hZ hown hml hby rfl N467 Zs467 (by decide) (by decide) A460_467 Fr467 Fc467 Vr467 Er461_467 (nn := 6) rfl (by decide) (by decide) (own_hs_6_eq l Z a0 hw n0 qx qx) (by decide) (by decide) (by decide) (own_g1 _ _ _) hux hlx hA he1 he2 ?_
                  exact KF _ _
                · skip
                  have ho : pf1.toInt ≤ pf0.toInt := own_ord hxy hqy hqx hB hA
                  by_cases hv : (pl1 + (1 : Int32)) < pf0
                  · skip
                    refine own_su_gtD (qx := qx) (qy := qy) hw X467 hx hZ hown hml hby rfl N467 Zs467 (by decide) (by decide) A460_467 Fr467 Fc467 Vr467 Er461_467 (nn := 6) rfl (by decide) (by decide) (own_hs_6_gt l Z a0 hw n0 qx qy hxy) (by decide) (by decide) (np := 3) (by decide) (by decide) (own_gl _ _ _ _ _) (own_gh _ _ _ _ _ _ rfl) hux hlx huy hly hA hB ho hv ?_
                    exact KF _ _
                  · skip
                    refine own_su_gtO (qx := qx) (qy := qy) hw X467 hx hZ hown hml hby rfl N467 Zs467 (by decide) (by decide) A460_467 Fr467 Fc467 Vr467 Er461_467 (nn := 6) rfl (by decide) (by decide) (own_hs_6_gt l Z a0 hw n0 qx qy hxy) (by decide) (by decide) (np := 3) (by decide) (by decide) (own_gl _ _ _ _ _) (own_gh _ _ _ _ _ _ rfl) hux hlx huy hly hA hB ho hv ?_
                    exact KF _ _
              · skip
                have hk7 : ¬ pn < (7 : Int32) := by rcases hm with rfl | rfl | rfl <;> decide
                refine own_pre (A := (T467.setTop (mkF m 182 (own_l141 p0 p1 p2 p3 p4 p5 pf0 pl0 pf1 pl1 pq pn b460) [(.int pl0), (.int pf0), (.ref b460)]))) ?_ ?_
                · intro t k
                  refine XS.iload X467.here hx rfl (hb hby at_169) rfl ?_
                  refine XS.bipush X467.here hx rfl (hb hby at_171) ?_
                  refine XS.icmpNo X467.here hx rfl (hb hby at_173) rfl (flt hk7).1 ?_
                  refine XS.aload X467.here hx rfl (hb hby at_176) rfl rfl ?_
                  refine XS.iload X467.here hx rfl (hb hby at_178) rfl ?_
                  refine XS.iload X467.here hx rfl (hb hby at_180) rfl ?_
                  exact k
                obtain ⟨cq468, kq468, q468a, q468b, q468c⟩ := isOf hZ rfl A460_467
                obtain ⟨_, _, ⟨T468, L468, k468, n468⟩, -, X468, ⟨Lc468, hQ468, l468, y468, z468⟩, st468⟩ := X467.virtualBack hx (y := (⟨"com/example/otito/otito/chain/CodePointSet$Builder", "add", "(II)V"⟩ : MethodName)) (z := (⟨"com/example/otito/otito/chain/CodePointSet$Builder", "add", "(II)V"⟩ : MethodName)) hown (mvT hZ (own_w hw 25 rfl)) (mvT hZ (own_w hw 26 rfl)) (notFace_of_selects (args := #[]) (mvT hZ (own_w hw 28 rfl))) (mvT hZ (own_w hw 28 rfl)) (mvT hZ (own_w hw 27 rfl)) (by decide) (backOf (W := 0) (rm6_6 l Z a0 hw [] b460 pf0 pl0 ar461 kr461 qx qy qx qy qx qy (0 : Int64) (0 : Int64) qx T467.heap n0 Zs467 A460_467 Fr467 Fc467 Vr467 Er461_467 nq461 gn_b460 gq461 hqx) hZ (own_w hw 29 rfl) (own_w hw 15 rfl) (by decide) (by decide)) q468a q468c (g := (mkF m 182 (own_l141 p0 p1 p2 p3 p4 p5 pf0 pl0 pf1 pl1 pq pn b460) [(.int pl0), (.int pf0), (.ref b460)])) rfl (by rw [hml]; rfl) (Steps.refl _) (argsL := [(.int pf0), (.int pl0)]) (rest := []) (lenOf own_pd13 rfl) rfl (by show 2 * 0 + _ ≤ _; exact Nat.le_of_eq rfl) (hb hby at_182) (fun _ _ => ⟨rfl, rfl, (by decide : 2 + 0 ≤ _), (by decide : 10 + 0 ≤ _)⟩)
                dsimp only [Pt.U, Pt.locs, Pt.cells, Pt.slots] at X468 l468 y468 z468 st468 hQ468
                replace y468 : _ = 2 := y468
                replace z468 : _ = 10 := z468
                subst y468 z468
                obtain ⟨rfl, Nq468, Kq468, Fr468, Fc468, Vr468⟩ := hQ468
                have N468 := own_frl l468 N467 Nq468
                refine own_pre (fun t k => st468.trans k) ?_
                have A460_468 := A460_467.keep Kq468
                have Er461_468 := Er461_467.keep Kq468
                have Zs468 : n0 ≤ T468.heap.size := Nat.le_trans Zs467 Kq468.1
                rcases hm with rfl | hm
                · skip
                  refine own_pre (A := (T468.setTop (mkF m 201 (own_l165 p0 p1 p2 p3 p4 p5 pf0 pl0 pf1 pl1 pq b460) []))) ?_ ?_
                  · intro t k
                    refine XS.iload X468.here hx rfl (hb hby at_185) rfl ?_
                    refine XS.bipush X468.here hx rfl (hb hby at_187) ?_
                    refine XS.icmpYes X468.here hx rfl (pc0 := 189) (pc' := 201) rfl (hb hby at_189) rfl (tlt (by decide : (7 : Int32) < (8 : Int32))).1 (by decide) (by decide) ?_
                    exact k
                  refine own_pre (A := (T468.setTop (mkF m 217 (own_l165 p0 p1 p2 p3 p4 p5 pf0 pl0 pf1 pl1 pq b460) []))) ?_ ?_
                  · intro t k
                    refine XS.iload X468.here hx rfl (hb hby at_201) rfl ?_
                    refine XS.bipush X468.here hx rfl (hb hby at_203) ?_
                    refine XS.icmpYes X468.here hx rfl (pc0 := 205) (pc' := 217) rfl (hb hby at_205) rfl (tlt (by decide : (7 : Int32) < (9 : Int32))).1 (by decide) (by decide) ?_
                    exact k
                  rcases own_tri qx qy with hxy | hxy | hxy
                  · skip
                    have ho : pf0.toInt ≤ pf1.toInt := own_ord hxy hqx hqy hA hB
                    by_cases hv : (pl0 + (1 : Int32)) < pf1
                    · skip
                      refine own_su_ltD (qx := qx) (qy := qy) hw X468 hx hZ hown hml hby rfl N468 Zs468 (by decide) (by decide) A460_468 Fr468 Fc468 Vr468 Er461_468 (nn := 7) rfl (by decide) (by decide) (own_hs_7_lt l Z a0 hw n0 qx qy hxy) (by decide) (by decide) (np := 4) (by decide) (by decide) (own_gl _ _ _ _ _) (own_gh _ _ _ _ _ _ rfl) hux hlx huy hly hA hB ho hv ?_
                      exact KF _ _
                    · skip
                      refine own_su_ltO (qx := qx) (qy := qy) hw X468 hx hZ hown hml hby rfl N468 Zs468 (by decide) (by decide) A460_468 Fr468 Fc468 Vr468 Er461_468 (nn := 7) rfl (by decide) (by decide) (own_hs_7_lt l Z a0 hw n0 qx qy hxy) (by decide) (by decide) (np := 4) (by decide) (by decide) (own_gl _ _ _ _ _) (own_gh _ _ _ _ _ _ rfl) hux hlx huy hly hA hB ho hv ?_
                      exact KF _ _
                  · skip
                    have he1 : pf1 = pf0 := by rw [← hux, ← huy, hxy]
                    have he2 : pl1 = pl0 := by rw [← hlx, ← hly, hxy]
                    subst hxy
                    refine own_su_S (qx := qx) (qy := qx) (np := 0) hw X468 hx hZ hown hml hby rfl N468 Zs468 (by decide) (by decide) A460_468 Fr468 Fc468 Vr468 Er461_468 (nn := 7) rfl (by decide) (by decide) (own_hs_7_eq l Z a0 hw n0 qx qx) (by decide) (by decide) (by decide) (own_g1 _ _ _) hux hlx hA he1 he2 ?_
                    exact KF _ _
                  · skip
                    have ho : pf1.toInt ≤ pf0.toInt := own_ord hxy hqy hqx hB hA
                    by_cases hv : (pl1 + (1 : Int32)) < pf0
                    · skip
                      refine own_su_gtD (qx := qx) (qy := qy) hw X468 hx hZ hown hml hby rfl N468 Zs468 (by decide) (by decide) A460_468 Fr468 Fc468 Vr468 Er461_468 (nn := 7) rfl (by decide) (by decide) (own_hs_7_gt l Z a0 hw n0 qx qy hxy) (by decide) (by decide) (np := 3) (by decide) (by decide) (own_gl _ _ _ _ _) (own_gh _ _ _ _ _ _ rfl) hux hlx huy hly hA hB ho hv ?_
                      exact KF _ _
                    · skip
                      refine own_su_gtO (qx := qx) (qy := qy) hw X468 hx hZ hown hml hby rfl N468 Zs468 (by decide) (by decide) A460_468 Fr468 Fc468 Vr468 Er461_468 (nn := 7) rfl (by decide) (by decide) (own_hs_7_gt l Z a0 hw n0 qx qy hxy) (by decide) (by decide) (np := 3) (by decide) (by decide) (own_gl _ _ _ _ _) (own_gh _ _ _ _ _ _ rfl) hux hlx huy hly hA hB ho hv ?_
                      exact KF _ _
                · skip
                  have hk8 : ¬ pn < (8 : Int32) := by rcases hm with rfl | rfl <;> decide
                  refine own_pre (A := (T468.setTop (mkF m 198 (own_l141 p0 p1 p2 p3 p4 p5 pf0 pl0 pf1 pl1 pq pn b460) [(.int pl1), (.int pf1), (.ref b460)]))) ?_ ?_
                  · intro t k
                    refine XS.iload X468.here hx rfl (hb hby at_185) rfl ?_
                    refine XS.bipush X468.here hx rfl (hb hby at_187) ?_
                    refine XS.icmpNo X468.here hx rfl (hb hby at_189) rfl (flt hk8).1 ?_
                    refine XS.aload X468.here hx rfl (hb hby at_192) rfl rfl ?_
                    refine XS.iload X468.here hx rfl (hb hby at_194) rfl ?_
                    refine XS.iload X468.here hx rfl (hb hby at_196) rfl ?_
                    exact k
                  obtain ⟨cq469, kq469, q469a, q469b, q469c⟩ := isOf hZ rfl A460_468
                  obtain ⟨_, _, ⟨T469, L469, k469, n469⟩, -, X469, ⟨Lc469, hQ469, l469, y469, z469⟩, st469⟩ := X468.virtualBack hx (y := (⟨"com/example/otito/otito/chain/CodePointSet$Builder", "add", "(II)V"⟩ : MethodName)) (z := (⟨"com/example/otito/otito/chain/CodePointSet$Builder", "add", "(II)V"⟩ : MethodName)) hown (mvT hZ (own_w hw 25 rfl)) (mvT hZ (own_w hw 26 rfl)) (notFace_of_selects (args := #[]) (mvT hZ (own_w hw 28 rfl))) (mvT hZ (own_w hw 28 rfl)) (mvT hZ (own_w hw 27 rfl)) (by decide) (backOf (W := 0) (rm6_7 l Z a0 hw [] b460 pf1 pl1 ar461 kr461 qx qy qx qy qx qy qx (0 : Int64) qy T468.heap n0 Zs468 A460_468 Fr468 Fc468 Vr468 Er461_468 nq461 gn_b460 gq461 hqy) hZ (own_w hw 29 rfl) (own_w hw 15 rfl) (by decide) (by decide)) q469a q469c (g := (mkF m 198 (own_l141 p0 p1 p2 p3 p4 p5 pf0 pl0 pf1 pl1 pq pn b460) [(.int pl1), (.int pf1), (.ref b460)])) rfl (by rw [hml]; rfl) (Steps.refl _) (argsL := [(.int pf1), (.int pl1)]) (rest := []) (lenOf own_pd13 rfl) rfl (by show 2 * 0 + _ ≤ _; exact Nat.le_of_eq rfl) (hb hby at_198) (fun _ _ => ⟨rfl, rfl, (by decide : 2 + 0 ≤ _), (by decide : 10 + 0 ≤ _)⟩)
                  dsimp only [Pt.U, Pt.locs, Pt.cells, Pt.slots] at X469 l469 y469 z469 st469 hQ469
                  replace y469 : _ = 2 := y469
                  replace z469 : _ = 10 := z469
                  subst y469 z469
                  obtain ⟨rfl, Nq469, Kq469, Fr469, Fc469, Vr469⟩ := hQ469
                  have N469 := own_frl l469 N468 Nq469
                  refine own_pre (fun t k => st469.trans k) ?_
                  have A460_469 := A460_468.keep Kq469
                  have Er461_469 := Er461_468.keep Kq469
                  have Zs469 : n0 ≤ T469.heap.size := Nat.le_trans Zs468 Kq469.1
                  rcases hm with rfl | rfl
                  · skip
                    refine own_pre (A := (T469.setTop (mkF m 217 (own_l166 p0 p1 p2 p3 p4 p5 pf0 pl0 pf1 pl1 pq b460) []))) ?_ ?_
                    · intro t k
                      refine XS.iload X469.here hx rfl (hb hby at_201) rfl ?_
                      refine XS.bipush X469.here hx rfl (hb hby at_203) ?_
                      refine XS.icmpYes X469.here hx rfl (pc0 := 205) (pc' := 217) rfl (hb hby at_205) rfl (tlt (by decide : (8 : Int32) < (9 : Int32))).1 (by decide) (by decide) ?_
                      exact k
                    rcases own_tri qx qy with hxy | hxy | hxy
                    · skip
                      have ho : pf0.toInt ≤ pf1.toInt := own_ord hxy hqx hqy hA hB
                      by_cases hv : (pl0 + (1 : Int32)) < pf1
                      · skip
                        refine own_su_ltD (qx := qx) (qy := qy) hw X469 hx hZ hown hml hby rfl N469 Zs469 (by decide) (by decide) A460_469 Fr469 Fc469 Vr469 Er461_469 (nn := 8) rfl (by decide) (by decide) (own_hs_8_lt l Z a0 hw n0 qx qy hxy) (by decide) (by decide) (np := 4) (by decide) (by decide) (own_gl _ _ _ _ _) (own_gh _ _ _ _ _ _ rfl) hux hlx huy hly hA hB ho hv ?_
                        exact KF _ _
                      · skip
                        refine own_su_ltO (qx := qx) (qy := qy) hw X469 hx hZ hown hml hby rfl N469 Zs469 (by decide) (by decide) A460_469 Fr469 Fc469 Vr469 Er461_469 (nn := 8) rfl (by decide) (by decide) (own_hs_8_lt l Z a0 hw n0 qx qy hxy) (by decide) (by decide) (np := 4) (by decide) (by decide) (own_gl _ _ _ _ _) (own_gh _ _ _ _ _ _ rfl) hux hlx huy hly hA hB ho hv ?_
                        exact KF _ _
                    · skip
                      have he1 : pf1 = pf0 := by rw [← hux, ← huy, hxy]
                      have he2 : pl1 = pl0 := by rw [← hlx, ← hly, hxy]
                      subst hxy
                      refine own_su_S (qx := qx) (qy := qx) (np := 0) hw X469 hx hZ hown hml hby rfl N469 Zs469 (by decide) (by decide) A460_469 Fr469 Fc469 Vr469 Er461_469 (nn := 8) rfl (by decide) (by decide) (own_hs_8_eq l Z a0 hw n0 qx qx) (by decide) (by decide) (by decide) (own_g1 _ _ _) hux hlx hA he1 he2 ?_
                      exact KF _ _
                    · skip
                      have ho : pf1.toInt ≤ pf0.toInt := own_ord hxy hqy hqx hB hA
                      by_cases hv : (pl1 + (1 : Int32)) < pf0
                      · skip
                        refine own_su_gtD (qx := qx) (qy := qy) hw X469 hx hZ hown hml hby rfl N469 Zs469 (by decide) (by decide) A460_469 Fr469 Fc469 Vr469 Er461_469 (nn := 8) rfl (by decide) (by decide) (own_hs_8_gt l Z a0 hw n0 qx qy hxy) (by decide) (by decide) (np := 4) (by decide) (by decide) (own_gl _ _ _ _ _) (own_gh _ _ _ _ _ _ rfl) hux hlx huy hly hA hB ho hv ?_
                        exact KF _ _
                      · skip
                        refine own_su_gtO (qx := qx) (qy := qy) hw X469 hx hZ hown hml hby rfl N469 Zs469 (by decide) (by decide) A460_469 Fr469 Fc469 Vr469 Er461_469 (nn := 8) rfl (by decide) (by decide) (own_hs_8_gt l Z a0 hw n0 qx qy hxy) (by decide) (by decide) (np := 4) (by decide) (by decide) (own_gl _ _ _ _ _) (own_gh _ _ _ _ _ _ rfl) hux hlx huy hly hA hB ho hv ?_
                        exact KF _ _
                  · skip
                    refine own_pre (A := (T469.setTop (mkF m 214 (own_l167 p0 p1 p2 p3 p4 p5 pf0 pl0 pf1 pl1 pq b460) [(.int pl0), (.int pf0), (.ref b460)]))) ?_ ?_
                    · intro t k
                      refine XS.iload X469.here hx rfl (hb hby at_201) rfl ?_
                      refine XS.bipush X469.here hx rfl (hb hby at_203) ?_
                      refine XS.icmpNo X469.here hx rfl (hb hby at_205) rfl (flt (by decide : ¬ ((9 : Int32) < (9 : Int32)))).1 ?_
                      refine XS.aload X469.here hx rfl (hb hby at_208) rfl rfl ?_
                      refine XS.iload X469.here hx rfl (hb hby at_210) rfl ?_
                      refine XS.iload X469.here hx rfl (hb hby at_212) rfl ?_
                      exact k
                    obtain ⟨cq470, kq470, q470a, q470b, q470c⟩ := isOf hZ rfl A460_469
                    obtain ⟨_, _, ⟨T470, L470, k470, n470⟩, -, X470, ⟨Lc470, hQ470, l470, y470, z470⟩, st470⟩ := X469.virtualBack hx (y := (⟨"com/example/otito/otito/chain/CodePointSet$Builder", "add", "(II)V"⟩ : MethodName)) (z := (⟨"com/example/otito/otito/chain/CodePointSet$Builder", "add", "(II)V"⟩ : MethodName)) hown (mvT hZ (own_w hw 25 rfl)) (mvT hZ (own_w hw 26 rfl)) (notFace_of_selects (args := #[]) (mvT hZ (own_w hw 28 rfl))) (mvT hZ (own_w hw 28 rfl)) (mvT hZ (own_w hw 27 rfl)) (by decide) (backOf (W := 0) (rm6_8 l Z a0 hw [] b460 pf0 pl0 ar461 kr461 qx qy qx qy qx qy qx qy qx T469.heap n0 Zs469 A460_469 Fr469 Fc469 Vr469 Er461_469 nq461 gn_b460 gq461 hqx) hZ (own_w hw 29 rfl) (own_w hw 15 rfl) (by decide) (by decide)) q470a q470c (g := (mkF m 214 (own_l167 p0 p1 p2 p3 p4 p5 pf0 pl0 pf1 pl1 pq b460) [(.int pl0), (.int pf0), (.ref b460)])) rfl (by rw [hml]; rfl) (Steps.refl _) (argsL := [(.int pf0), (.int pl0)]) (rest := []) (lenOf own_pd13 rfl) rfl (by show 2 * 0 + _ ≤ _; exact Nat.le_of_eq rfl) (hb hby at_214) (fun _ _ => ⟨rfl, rfl, (by decide : 2 + 1 ≤ _), (by decide : 10 + 16 ≤ _)⟩)
                    dsimp only [Pt.U, Pt.locs, Pt.cells, Pt.slots] at X470 l470 y470 z470 st470 hQ470
                    replace y470 : _ = 3 := y470
                    replace z470 : _ = 26 := z470
                    subst y470 z470
                    obtain ⟨rfl, Nq470, Kq470, ad470, kd470, gq470, zz470, nq470, Fr470, Fc470, Vr470, Er470⟩ := hQ470
                    have N470 := own_frl l470 N469 Nq470
                    refine own_pre (fun t k => st470.trans k) ?_
                    have A460_470 := A460_469.keep Kq470
                    have Zs470 : n0 ≤ T470.heap.size := Nat.le_trans Zs469 Kq470.1
                    rcases own_tri qx qy with hxy | hxy | hxy
                    · skip
                      have ho : pf0.toInt ≤ pf1.toInt := own_ord hxy hqx hqy hA hB
                      by_cases hv : (pl0 + (1 : Int32)) < pf1
                      · skip
                        refine own_su_ltD (qx := qx) (qy := qy) hw X470 hx hZ hown hml hby rfl N470 Zs470 (by decide) (by decide) A460_470 Fr470 Fc470 Vr470 Er470 (nn := 9) rfl (by decide) (by decide) (own_hs_9_lt l Z a0 hw n0 qx qy hxy) (by decide) (by decide) (np := 5) (by decide) (by decide) (own_gl _ _ _ _ _) (own_gh _ _ _ _ _ _ rfl) hux hlx huy hly hA hB ho hv ?_
                        exact KF _ _
                      · skip
                        refine own_su_ltO (qx := qx) (qy := qy) hw X470 hx hZ hown hml hby rfl N470 Zs470 (by decide) (by decide) A460_470 Fr470 Fc470 Vr470 Er470 (nn := 9) rfl (by decide) (by decide) (own_hs_9_lt l Z a0 hw n0 qx qy hxy) (by decide) (by decide) (np := 5) (by decide) (by decide) (own_gl _ _ _ _ _) (own_gh _ _ _ _ _ _ rfl) hux hlx huy hly hA hB ho hv ?_
                        exact KF _ _
                    · skip
                      have he1 : pf1 = pf0 := by rw [← hux, ← huy, hxy]
                      have he2 : pl1 = pl0 := by rw [← hlx, ← hly, hxy]
                      subst hxy
                      refine own_su_S (qx := qx) (qy := qx) (np := 0) hw X470 hx hZ hown hml hby rfl N470 Zs470 (by decide) (by decide) A460_470 Fr470 Fc470 Vr470 Er470 (nn := 9) rfl (by decide) (by decide) (own_hs_9_eq l Z a0 hw n0 qx qx) (by decide) (by decide) (by decide) (own_g1 _ _ _) hux hlx hA he1 he2 ?_
                      exact KF _ _
                    · skip
                      have ho : pf1.toInt ≤ pf0.toInt := own_ord hxy hqy hqx hB hA
                      by_cases hv : (pl1 + (1 : Int32)) < pf0
                      · skip
                        refine own_su_gtD (qx := qx) (qy := qy) hw X470 hx hZ hown hml hby rfl N470 Zs470 (by decide) (by decide) A460_470 Fr470 Fc470 Vr470 Er470 (nn := 9) rfl (by decide) (by decide) (own_hs_9_gt l Z a0 hw n0 qx qy hxy) (by decide) (by decide) (np := 4) (by decide) (by decide) (own_gl _ _ _ _ _) (own_gh _ _ _ _ _ _ rfl) hux hlx huy hly hA hB ho hv ?_
                        exact KF _ _
                      · skip
                        refine own_su_gtO (qx := qx) (qy := qy) hw X470 hx hZ hown hml hby rfl N470 Zs470 (by decide) (by decide) A460_470 Fr470 Fc470 Vr470 Er470 (nn := 9) rfl (by decide) (by decide) (own_hs_9_gt l Z a0 hw n0 qx qy hxy) (by decide) (by decide) (np := 4) (by decide) (by decide) (own_gl _ _ _ _ _) (own_gh _ _ _ _ _ _ rfl) hux hlx huy hly hA hB ho hv ?_
                        exact KF _ _
set_option maxRecDepth 65536 in
set_option maxHeartbeats 40000000 in
theorem comes_1 {Post : Tables → Env → Array Value → State → Outcome → State → Prop} (hpost : ∀ tb e args s v u, (limb_1_1.after args s (.returned v) u = true ∧ limb_1_2.after args s (.returned v) u = true ∧ True) → FrameEnd s (.returned v) u (Jvm.fieldLocs frame_1_writes args s ++ Jvm.arrayLocs frame_1_arrays args s ++ Jvm.staticLocs frame_1_statics s) 24 192 → Post tb e args s (.returned v) u) :
    ArmFor flags0 classFile x code maxLocals ret World_1 tables_1 room_1 Calls_1 rest_1 Pre_1 Post := by
  intro l hfl _ _ p e ha hc hk s m args below hf hA hF happ hP
  obtain ⟨hcalls, hrest, hpre⟩ := hP
  obtain ⟨-, -, -, hnamed, -, -, -, hat⟩ := (Spec.applies_iff hf).mp happ
  obtain ⟨hg, hn⟩ := and_e (Cond.before_iff.mp (show (Jvm.Cond.and given_1 narrow_1).before args s = true from hpre))
  obtain ⟨gg1, gg2⟩ := and_e hg
  obtain ⟨gg3, gg4⟩ := and_e gg2
  obtain ⟨gg5, gg6⟩ := and_e gg4
  obtain ⟨gg7, gg8⟩ := and_e gg6
  obtain ⟨gg9, gg10⟩ := and_e gg8
  obtain ⟨gg11, gg12⟩ := and_e gg10
  obtain ⟨w0, w1, w2, w3, w4, w5, rfl⟩ : ∃ w0 w1 w2 w3 w4 w5 : Value, args = #[w0, w1, w2, w3, w4, w5] := by
    have hs : args.size = 6 := by simpa [Cond.value, given_1] using gg1
    obtain ⟨L⟩ := args
    match L, hs with
    | [w0, w1, w2, w3, w4, w5], _ => exact ⟨w0, w1, w2, w3, w4, w5, rfl⟩
  have hw := fun d (hd : d ∈ tables_1) => atoms_spec (ws := Jvm.Cond.code x code maxLocals ret :: tables_1) hat d (List.mem_cons_of_mem _ hd)
  obtain ⟨i0, ei0⟩ := is_v gg3
  obtain rfl : w0 = (.int i0) := Option.some.inj ei0
  obtain ⟨i1, ei1⟩ := is_v gg5
  obtain rfl : w1 = (.int i1) := Option.some.inj ei1
  obtain ⟨i2, ei2⟩ := is_v gg7
  obtain rfl : w2 = (.int i2) := Option.some.inj ei2
  obtain ⟨i3, ei3⟩ := is_v gg9
  obtain rfl : w3 = (.int i3) := Option.some.inj ei3
  obtain ⟨i4, ei4⟩ := is_v gg11
  obtain rfl : w4 = (.int i4) := Option.some.inj ei4
  obtain ⟨i5, ei5⟩ := is_v gg12
  obtain rfl : w5 = (.int i5) := Option.some.inj ei5
  obtain ⟨n, o, h1, h2, h3, _, L, rfl, ⟨rfl, N⟩, hq⟩ := rm0 l s _ hw tables_1 i0 i1 i2 i3 i4 i5 s.heap s.heap.size (Nat.le_refl _) p e ha hc hk s m _ below hf ((Spec.applies_iff_loose hf).mp happ).1 ⟨rfl, State.Warmed39.refl s, rfl⟩ trivial
  refine ⟨n, _, h1, h2, h3, hpost _ _ _ _ _ _ ⟨Cond.after_iff.mpr rfl, Cond.after_iff.mpr (eq_i res_at (Term.int_eval (1)) rfl), trivial⟩ ⟨hq.1, hq.2.1, (hq.2.2.sift fun y hy => Or.inr (N y hy)).mono (by decide) (by decide)⟩⟩
theorem main_1_1 : Claimed_1_1 := comes_1 fun _ _ _ _ _ _ h hF => ⟨h.1, hF⟩
theorem main_1_2 : Claimed_1_2 := comes_1 fun _ _ _ _ _ _ h hF => ⟨h.2.1, hF⟩
end Jvm.Pilot.@@N@@
namespace Jvm.Pilot.@@N@@
open Jvm Jvm.ClassFile Sem Op Lib Jvm.Free Jvm.Stand Jvm.Pilot.@@N@@.Jvm.D
/-! MADE BY PROGRAM (witnessworld.py) out of the Statement's table words and the real class files: 16 classes; the members and pool entries that the words name. The judged class is class 1, her method 3. -/
namespace start1
open Jvm.ClassFile
def u (s : String) : CpInfo := .utf8 (stringToUtf16 s)
/-- a pool by its gaps: so many unusable entries, then the entry; so many at the end -/
def gap : Nat → List CpInfo → List CpInfo
  | 0, r => r
  | n + 1, r => .unusable :: gap n r
def poolList (es : List (Nat × CpInfo)) (last : Nat) : List CpInfo := es.foldr (fun e r => gap e.1 (e.2 :: r)) (gap last [])
def pool (es : List (Nat × CpInfo)) (last : Nat) : Array CpInfo := ⟨poolList es last⟩
def fileOf (pool : Array CpInfo) (this : Nat) (attrs : Array Attribute := #[]) (ms : Array MethodInfo := #[]) (fl : Nat := 33) (sup : Nat := 0) (ifs : Array Nat := #[]) (fds : Array FieldInfo := #[]) : ClassFile where
  minorVersion := 0
  majorVersion := 65
  constantPool := pool
  accessFlags := fl
  thisClass := this
  superClass := sup
  interfaces := ifs
  fields := fds
  methods := ms
  attributes := attrs
def plain (name : String) (sup : Option ClassId) : Class where
  name := name
  kind := .ordinary
  loader := none
  accessFlags := 33
  super := sup
  interfaces := #[]
  cf := none
  fields := #[]
  methods := #[]
  instanceTypes := #[]
  staticTypes := #[]
  resolved := #[]
  callSites := []
  init := .initialized
  statics := none
  mirror := none

def pool0 : Array CpInfo := pool [(5, u "<init>"), (0, u "()V"), (1, .class_ 10), (1, u "java/lang/Object"), (85, u "clone"), (0, u "()Ljava/lang/Object;")] 26

def k0c0 : Code := { maxStack := 0, maxLocals := 1, code := object_method_1_code, exceptionTable := #[], attributes := #[] }
def k0m0 : Method := { name := "<init>", desc := "()V", sig := { parameters := [], returnType := none }, accessFlags := 1, code := some k0c0 }
def k0m1 : Method := { name := "clone", desc := "()Ljava/lang/Object;", sig := { parameters := [], returnType := some (.object "java/lang/Object") }, accessFlags := 260, code := none }
/-- java/lang/Object -/
def k0 : Class := { plain "java/lang/Object" none with
  accessFlags := 33
  interfaces := #[]
  cf := some (fileOf pool0 8 #[] #[{ accessFlags := 1, nameIndex := 5, descriptorIndex := 6, attributes := #[] }, { accessFlags := 260, nameIndex := 96, descriptorIndex := 97, attributes := #[] }] 33 0 #[] #[])
  fields := #[]
  methods := #[k0m0, k0m1]
  instanceTypes := #[]
  staticTypes := #[]
  resolved := Array.replicate 124 none
  statics := none }

def pool1 : Array CpInfo := pool [(2, .class_ 4), (0, .nameAndType 5 6), (0, u "java/lang/Object"), (0, u "<init>"), (0, u "()V"), (0, .integer 2147483647), (0, .integer 1114112), (0, .methodref 10 11), (0, .class_ 12), (0, .nameAndType 13 14), (0, u "com/example/otito/otito/chain/CodePointSetAddPinLaw"), (0, u "cp"), (0, u "(I)I"), (0, .methodref 16 17), (0, .class_ 18), (0, .nameAndType 19 20), (0, u "java/lang/Math"), (0, u "min"), (0, u "(II)I"), (0, .methodref 16 22), (0, .nameAndType 23 20), (0, u "max"), (0, .class_ 25), (0, u "com/example/otito/otito/chain/CodePointSet$Builder"), (0, .methodref 24 3), (0, .methodref 24 28), (0, .nameAndType 29 30), (0, u "add"), (0, u "(II)V"), (0, .methodref 24 32), (0, .nameAndType 33 34), (0, u "build"), (0, u "()Lcom/example/otito/otito/chain/CodePointSet;"), (0, .methodref 10 36), (0, .nameAndType 37 38), (0, u "in"), (0, u "(III)Z"), (0, .methodref 40 41), (0, .class_ 42), (0, .nameAndType 43 44), (0, u "com/example/otito/otito/chain/CodePointSet"), (0, u "contains"), (0, u "(I)Z"), (3, u "law"), (0, u "(IIIIII)Z")] 4

def k1m0 : Method := { name := "<init>", desc := "()V", sig := { parameters := [], returnType := none }, accessFlags := 1, code := none }
def k1c1 : Code := { maxStack := 2, maxLocals := 1, code := method_2_code, exceptionTable := #[], attributes := #[] }
def k1m1 : Method := { name := "cp", desc := "(I)I", sig := { parameters := [.int], returnType := some .int }, accessFlags := 10, code := some k1c1 }
def k1c2 : Code := { maxStack := 2, maxLocals := 3, code := method_3_code, exceptionTable := #[], attributes := #[] }
def k1m2 : Method := { name := "in", desc := "(III)Z", sig := { parameters := [.int, .int, .int], returnType := some .boolean }, accessFlags := 10, code := some k1c2 }
def k1c3 : Code := { maxStack := 3, maxLocals := 15, code := code, exceptionTable := #[], attributes := #[] }
def k1m3 : Method := { name := "law", desc := "(IIIIII)Z", sig := { parameters := [.int, .int, .int, .int, .int, .int], returnType := some .boolean }, accessFlags := 9, code := some k1c3 }
/-- com/example/otito/otito/chain/CodePointSetAddPinLaw -/
def k1 : Class := { plain "com/example/otito/otito/chain/CodePointSetAddPinLaw" (some 0) with
  accessFlags := 49
  interfaces := #[]
  cf := some (fileOf pool1 10 #[] #[{ accessFlags := 1, nameIndex := 5, descriptorIndex := 6, attributes := #[] }, { accessFlags := 10, nameIndex := 13, descriptorIndex := 14, attributes := #[] }, { accessFlags := 10, nameIndex := 37, descriptorIndex := 38, attributes := #[] }, { accessFlags := 9, nameIndex := 48, descriptorIndex := 49, attributes := #[] }] 49 2 #[] #[])
  fields := #[]
  methods := #[k1m0, k1m1, k1m2, k1m3]
  instanceTypes := #[]
  staticTypes := #[]
  resolved := Array.replicate 54 none
  statics := none }

def pool2 : Array CpInfo := pool [(1, .class_ 2), (0, u "java/lang/Math"), (1, .class_ 6), (1, u "java/lang/Object"), (0, u "<init>"), (0, u "()V"), (89, .class_ 100), (1, u "java/lang/Math$RandomNumberGeneratorHolder"), (71, u "negativeZeroFloatBits"), (0, u "J"), (2, u "negativeZeroDoubleBits"), (21, u "max"), (2, u "min"), (43, u "$assertionsDisabled"), (0, u "Z"), (88, u "(II)I"), (2, u "twoToTheDoubleScaleDown"), (0, u "D"), (4, u "twoToTheDoubleScaleUp"), (9, u "E"), (3, u "PI"), (2, u "TAU"), (2, u "DEGREES_TO_RADIANS"), (0, u "RADIANS_TO_DEGREES")] 94

def k2m0 : Method := { name := "<init>", desc := "()V", sig := { parameters := [], returnType := none }, accessFlags := 2, code := none }
def k2c1 : Code := { maxStack := 2, maxLocals := 2, code := jdk_29_method_65_code, exceptionTable := #[], attributes := #[] }
def k2m1 : Method := { name := "max", desc := "(II)I", sig := { parameters := [.int, .int], returnType := some .int }, accessFlags := 9, code := some k2c1 }
def k2c2 : Code := { maxStack := 2, maxLocals := 2, code := jdk_29_method_69_code, exceptionTable := #[], attributes := #[] }
def k2m2 : Method := { name := "min", desc := "(II)I", sig := { parameters := [.int, .int], returnType := some .int }, accessFlags := 9, code := some k2c2 }
/-- java/lang/Math -/
def k2 : Class := { plain "java/lang/Math" (some 0) with
  accessFlags := 49
  interfaces := #[]
  cf := some (fileOf pool2 1 #[.nestMembers #[98]] #[{ accessFlags := 2, nameIndex := 7, descriptorIndex := 8, attributes := #[] }, { accessFlags := 9, nameIndex := 198, descriptorIndex := 335, attributes := #[] }, { accessFlags := 9, nameIndex := 201, descriptorIndex := 335, attributes := #[] }] 49 4 #[] #[{ accessFlags := 25, nameIndex := 354, descriptorIndex := 339, attributes := #[] }, { accessFlags := 25, nameIndex := 358, descriptorIndex := 339, attributes := #[] }, { accessFlags := 25, nameIndex := 361, descriptorIndex := 339, attributes := #[] }, { accessFlags := 26, nameIndex := 364, descriptorIndex := 339, attributes := #[] }, { accessFlags := 26, nameIndex := 365, descriptorIndex := 339, attributes := #[] }, { accessFlags := 26, nameIndex := 172, descriptorIndex := 173, attributes := #[] }, { accessFlags := 26, nameIndex := 176, descriptorIndex := 173, attributes := #[] }, { accessFlags := 8, nameIndex := 344, descriptorIndex := 339, attributes := #[] }, { accessFlags := 8, nameIndex := 338, descriptorIndex := 339, attributes := #[] }, { accessFlags := 4120, nameIndex := 245, descriptorIndex := 246, attributes := #[] }])
  fields := #[{ name := "E", type := .double, accessFlags := 25, slot := 0, constantValue := 0 }, { name := "PI", type := .double, accessFlags := 25, slot := 1, constantValue := 0 }, { name := "TAU", type := .double, accessFlags := 25, slot := 2, constantValue := 0 }, { name := "DEGREES_TO_RADIANS", type := .double, accessFlags := 26, slot := 3, constantValue := 0 }, { name := "RADIANS_TO_DEGREES", type := .double, accessFlags := 26, slot := 4, constantValue := 0 }, { name := "negativeZeroFloatBits", type := .long, accessFlags := 26, slot := 5, constantValue := 0 }, { name := "negativeZeroDoubleBits", type := .long, accessFlags := 26, slot := 6, constantValue := 0 }, { name := "twoToTheDoubleScaleUp", type := .double, accessFlags := 8, slot := 7, constantValue := 0 }, { name := "twoToTheDoubleScaleDown", type := .double, accessFlags := 8, slot := 8, constantValue := 0 }, { name := "$assertionsDisabled", type := .boolean, accessFlags := 4120, slot := 9, constantValue := 0 }]
  methods := #[k2m0, k2m1, k2m2]
  instanceTypes := #[]
  staticTypes := #[.double, .double, .double, .double, .double, .long, .long, .double, .double, .boolean]
  resolved := Array.replicate 460 none
  statics := none }

def pool3 : Array CpInfo := pool [(1, .methodref 2 3), (0, .class_ 4), (0, .nameAndType 5 6), (0, u "java/lang/Object"), (0, u "<init>"), (0, u "()V"), (0, .fieldref 8 9), (0, .class_ 10), (0, .nameAndType 11 12), (0, u "com/example/otito/otito/chain/CodePointSet$Builder"), (0, u "ranges"), (0, u "[J"), (0, .fieldref 8 14), (0, .nameAndType 15 16), (0, u "count"), (0, u "I"), (0, .methodref 18 19), (0, .class_ 20), (0, .nameAndType 21 22), (0, u "java/util/Arrays"), (0, u "copyOf"), (0, u "([JI)[J"), (1, .class_ 26), (1, u "com/example/otito/otito/chain/CodePointSet"), (4, u "add"), (0, u "(II)V"), (0, .methodref 18 34), (0, .nameAndType 35 36), (0, u "sort"), (0, u "([J)V"), (0, .methodref 38 39), (0, .class_ 40), (0, .nameAndType 41 42), (0, u "java/lang/Math"), (0, u "max"), (0, u "(II)I"), (0, .methodref 18 44), (0, .nameAndType 21 45), (0, u "([II)[I"), (0, .methodref 24 47), (0, .nameAndType 5 48), (0, u "([I)V"), (4, u "build"), (0, u "()Lcom/example/otito/otito/chain/CodePointSet;")] 7

def k3c0 : Code := { maxStack := 2, maxLocals := 1, code := prog_6_method_1_code, exceptionTable := #[], attributes := #[] }
def k3m0 : Method := { name := "<init>", desc := "()V", sig := { parameters := [], returnType := none }, accessFlags := 0, code := some k3c0 }
def k3c1 : Code := { maxStack := 6, maxLocals := 3, code := prog_6_method_2_code, exceptionTable := #[], attributes := #[] }
def k3m1 : Method := { name := "add", desc := "(II)V", sig := { parameters := [.int, .int], returnType := none }, accessFlags := 0, code := some k3c1 }
def k3c2 : Code := { maxStack := 5, maxLocals := 11, code := prog_6_method_4_code, exceptionTable := #[], attributes := #[] }
def k3m2 : Method := { name := "build", desc := "()Lcom/example/otito/otito/chain/CodePointSet;", sig := { parameters := [], returnType := some (.object "com/example/otito/otito/chain/CodePointSet") }, accessFlags := 0, code := some k3c2 }
/-- com/example/otito/otito/chain/CodePointSet$Builder -/
def k3 : Class := { plain "com/example/otito/otito/chain/CodePointSet$Builder" (some 0) with
  accessFlags := 48
  interfaces := #[]
  cf := some (fileOf pool3 8 #[.nestHost 24] #[{ accessFlags := 0, nameIndex := 5, descriptorIndex := 6, attributes := #[] }, { accessFlags := 0, nameIndex := 31, descriptorIndex := 32, attributes := #[] }, { accessFlags := 0, nameIndex := 53, descriptorIndex := 54, attributes := #[] }] 48 2 #[] #[{ accessFlags := 2, nameIndex := 11, descriptorIndex := 12, attributes := #[] }, { accessFlags := 2, nameIndex := 15, descriptorIndex := 16, attributes := #[] }])
  fields := #[{ name := "ranges", type := (.array .long), accessFlags := 2, slot := 0, constantValue := 0 }, { name := "count", type := .int, accessFlags := 2, slot := 1, constantValue := 0 }]
  methods := #[k3m0, k3m1, k3m2]
  instanceTypes := #[(.array .long), .int]
  staticTypes := #[]
  resolved := Array.replicate 62 none
  statics := none }

def pool4 : Array CpInfo := pool [(2, .class_ 4), (1, u "java/lang/Object"), (0, u "<init>"), (0, u "()V"), (1, .class_ 10), (1, u "java/util/DualPivotQuicksort"), (0, u "sort"), (2, .class_ 16), (1, u "java/util/Arrays"), (2, .methodref 8 20), (0, .nameAndType 11 21), (0, u "([JIII)V"), (52, .class_ 76), (1, u "java/util/Arrays$NaturalOrder"), (32, u "()Ljava/lang/Object;"), (3, .class_ 115), (1, u "java/util/Arrays$LegacyMergeSort"), (1, u "Z"), (10, .nameAndType 129 109), (0, u "clone"), (20, .methodref 151 152), (0, .class_ 153), (0, .nameAndType 154 155), (0, u "java/lang/System"), (0, u "arraycopy"), (0, u "(Ljava/lang/Object;ILjava/lang/Object;II)V"), (146, u "copyOf"), (1, .methodref 305 306), (0, .class_ 307), (0, .nameAndType 308 309), (0, u "java/lang/Math"), (0, u "min"), (0, u "(II)I"), (6, .methodref 317 128), (0, .class_ 318), (0, u "[I"), (0, .methodref 320 128), (0, .class_ 321), (0, u "[J"), (53, .class_ 376), (0, u "java/util/Arrays$ArrayList"), (68, u "$assertionsDisabled"), (269, u "MIN_ARRAY_SORT_GRAN"), (0, u "I"), (2, u "INSERTIONSORT_THRESHOLD"), (11, u "([J)V"), (139, u "([II)[I"), (0, u "([JI)[J"), (102, .class_ 976), (0, u "java/util/Arrays$ArrayItr")] 52

def k4m0 : Method := { name := "<init>", desc := "()V", sig := { parameters := [], returnType := none }, accessFlags := 2, code := none }
def k4c1 : Code := { maxStack := 4, maxLocals := 1, code := jdk_65_method_4_code, exceptionTable := #[], attributes := #[] }
def k4m1 : Method := { name := "sort", desc := "([J)V", sig := { parameters := [(.array .long)], returnType := none }, accessFlags := 9, code := some k4c1 }
def k4c2 : Code := { maxStack := 6, maxLocals := 3, code := jdk_65_method_123_code, exceptionTable := #[], attributes := #[] }
def k4m2 : Method := { name := "copyOf", desc := "([II)[I", sig := { parameters := [(.array .int), .int], returnType := some (.array .int) }, accessFlags := 9, code := some k4c2 }
def k4c3 : Code := { maxStack := 6, maxLocals := 3, code := jdk_65_method_124_code, exceptionTable := #[], attributes := #[] }
def k4m3 : Method := { name := "copyOf", desc := "([JI)[J", sig := { parameters := [(.array .long), .int], returnType := some (.array .long) }, accessFlags := 9, code := some k4c3 }
/-- java/util/Arrays -/
def k4 : Class := { plain "java/util/Arrays" (some 0) with
  accessFlags := 49
  interfaces := #[]
  cf := some (fileOf pool4 14 #[.nestMembers #[975, 375, 113, 74]] #[{ accessFlags := 2, nameIndex := 5, descriptorIndex := 6, attributes := #[] }, { accessFlags := 9, nameIndex := 11, descriptorIndex := 731, attributes := #[] }, { accessFlags := 9, nameIndex := 302, descriptorIndex := 871, attributes := #[] }, { accessFlags := 9, nameIndex := 302, descriptorIndex := 872, attributes := #[] }] 49 2 #[] #[{ accessFlags := 26, nameIndex := 715, descriptorIndex := 716, attributes := #[] }, { accessFlags := 26, nameIndex := 719, descriptorIndex := 716, attributes := #[] }, { accessFlags := 4120, nameIndex := 445, descriptorIndex := 117, attributes := #[] }])
  fields := #[{ name := "MIN_ARRAY_SORT_GRAN", type := .int, accessFlags := 26, slot := 0, constantValue := 0 }, { name := "INSERTIONSORT_THRESHOLD", type := .int, accessFlags := 26, slot := 1, constantValue := 0 }, { name := "$assertionsDisabled", type := .boolean, accessFlags := 4120, slot := 2, constantValue := 0 }]
  methods := #[k4m0, k4m1, k4m2, k4m3]
  instanceTypes := #[]
  staticTypes := #[.int, .int, .boolean]
  resolved := Array.replicate 1029 none
  statics := none }

def pool5 : Array CpInfo := pool [(2, .class_ 4), (1, u "java/lang/Object"), (0, u "<init>"), (0, u "()V"), (1, .class_ 10), (1, u "java/lang/System"), (0, u "allowSecurityManager"), (0, u "I"), (16, u "cons"), (0, u "Ljava/io/Console;"), (77, .class_ 110), (1, u "java/lang/System$CallersHolder"), (43, u "initialErrStream"), (0, u "Ljava/io/PrintStream;"), (19, u "security"), (0, u "Ljava/lang/SecurityManager;"), (31, .class_ 209), (0, u "java/lang/System$1"), (7, u "props"), (0, u "Ljava/util/Properties;"), (2, u "lineSeparator"), (0, u "Ljava/lang/String;"), (96, .class_ 321), (1, u "java/lang/System$LoggerFinder"), (5, .class_ 328), (0, u "java/lang/System$Logger"), (67, u "err"), (2, u "out"), (91, u "notSupportedJnuEncoding"), (15, u "in"), (17, u "initialIn"), (0, u "Ljava/io/InputStream;"), (35, u "bootLayer"), (0, u "Ljava/lang/ModuleLayer;"), (99, .class_ 664), (0, u "java/lang/System$2"), (9, u "NEVER"), (2, u "MAYBE"), (49, u "arraycopy"), (0, u "(Ljava/lang/Object;ILjava/lang/Object;II)V"), (72, .class_ 802), (0, u "java/lang/System$Logger$Level")] 31

def k5m0 : Method := { name := "<init>", desc := "()V", sig := { parameters := [], returnType := none }, accessFlags := 2, code := none }
def k5m1 : Method := { name := "arraycopy", desc := "(Ljava/lang/Object;ILjava/lang/Object;II)V", sig := { parameters := [(.object "java/lang/Object"), .int, (.object "java/lang/Object"), .int, .int], returnType := none }, accessFlags := 265, code := none }
/-- java/lang/System -/
def k5 : Class := { plain "java/lang/System" (some 0) with
  accessFlags := 49
  interfaces := #[]
  cf := some (fileOf pool5 8 #[.nestMembers #[319, 327, 801, 108, 663, 208]] #[{ accessFlags := 2, nameIndex := 5, descriptorIndex := 6, attributes := #[] }, { accessFlags := 265, nameIndex := 727, descriptorIndex := 728, attributes := #[] }] 49 2 #[] #[{ accessFlags := 25, nameIndex := 507, descriptorIndex := 526, attributes := #[] }, { accessFlags := 25, nameIndex := 399, descriptorIndex := 155, attributes := #[] }, { accessFlags := 25, nameIndex := 396, descriptorIndex := 155, attributes := #[] }, { accessFlags := 10, nameIndex := 525, descriptorIndex := 526, attributes := #[] }, { accessFlags := 26, nameIndex := 674, descriptorIndex := 12, attributes := #[] }, { accessFlags := 26, nameIndex := 677, descriptorIndex := 12, attributes := #[] }, { accessFlags := 10, nameIndex := 11, descriptorIndex := 12, attributes := #[] }, { accessFlags := 74, nameIndex := 175, descriptorIndex := 176, attributes := #[] }, { accessFlags := 10, nameIndex := 491, descriptorIndex := 222, attributes := #[] }, { accessFlags := 74, nameIndex := 29, descriptorIndex := 30, attributes := #[] }, { accessFlags := 74, nameIndex := 154, descriptorIndex := 155, attributes := #[] }, { accessFlags := 10, nameIndex := 217, descriptorIndex := 218, attributes := #[] }, { accessFlags := 10, nameIndex := 221, descriptorIndex := 222, attributes := #[] }, { accessFlags := 8, nameIndex := 562, descriptorIndex := 563, attributes := #[] }])
  fields := #[{ name := "in", type := (.object "java/io/InputStream"), accessFlags := 25, slot := 0, constantValue := 0 }, { name := "out", type := (.object "java/io/PrintStream"), accessFlags := 25, slot := 1, constantValue := 0 }, { name := "err", type := (.object "java/io/PrintStream"), accessFlags := 25, slot := 2, constantValue := 0 }, { name := "initialIn", type := (.object "java/io/InputStream"), accessFlags := 10, slot := 3, constantValue := 0 }, { name := "NEVER", type := .int, accessFlags := 26, slot := 4, constantValue := 0 }, { name := "MAYBE", type := .int, accessFlags := 26, slot := 5, constantValue := 0 }, { name := "allowSecurityManager", type := .int, accessFlags := 10, slot := 6, constantValue := 0 }, { name := "security", type := (.object "java/lang/SecurityManager"), accessFlags := 74, slot := 7, constantValue := 0 }, { name := "notSupportedJnuEncoding", type := (.object "java/lang/String"), accessFlags := 10, slot := 8, constantValue := 0 }, { name := "cons", type := (.object "java/io/Console"), accessFlags := 74, slot := 9, constantValue := 0 }, { name := "initialErrStream", type := (.object "java/io/PrintStream"), accessFlags := 74, slot := 10, constantValue := 0 }, { name := "props", type := (.object "java/util/Properties"), accessFlags := 10, slot := 11, constantValue := 0 }, { name := "lineSeparator", type := (.object "java/lang/String"), accessFlags := 10, slot := 12, constantValue := 0 }, { name := "bootLayer", type := (.object "java/lang/ModuleLayer"), accessFlags := 8, slot := 13, constantValue := 0 }]
  methods := #[k5m0, k5m1]
  instanceTypes := #[]
  staticTypes := #[(.object "java/io/InputStream"), (.object "java/io/PrintStream"), (.object "java/io/PrintStream"), (.object "java/io/InputStream"), .int, .int, .int, (.object "java/lang/SecurityManager"), (.object "java/lang/String"), (.object "java/io/Console"), (.object "java/io/PrintStream"), (.object "java/util/Properties"), (.object "java/lang/String"), (.object "java/lang/ModuleLayer")]
  resolved := Array.replicate 834 none
  statics := none }

def pool6 : Array CpInfo := pool [(1, .class_ 2), (0, u "java/util/DualPivotQuicksort"), (5, .class_ 10), (1, u "java/lang/Object"), (0, u "<init>"), (0, u "()V"), (4, .class_ 18), (0, u "java/util/DualPivotQuicksort$Sorter"), (9, u "sort"), (7, u "insertionSort"), (31, u "I"), (4, .class_ 74), (0, u "java/util/DualPivotQuicksort$RunMerger"), (10, .class_ 86), (0, u "java/util/DualPivotQuicksort$Merger"), (12, .methodref 1 100), (0, .nameAndType 28 101), (0, u "(Ljava/util/DualPivotQuicksort$Sorter;[JIII)V"), (2, u "([JIII)V"), (0, .methodref 1 106), (0, .nameAndType 36 107), (0, u "([JII)V"), (106, u "MAX_MIXED_INSERTION_SORT_SIZE"), (2, u "MAX_INSERTION_SORT_SIZE"), (1, u "MIN_PARALLEL_SORT_SIZE"), (1, u "MIN_TRY_MERGE_SIZE"), (0, u "MIN_FIRST_RUN_SIZE"), (1, u "MIN_FIRST_RUNS_FACTOR"), (1, u "MAX_RUN_CAPACITY"), (1, u "MIN_RUN_COUNT"), (1, u "MIN_PARALLEL_MERGE_PARTS_SIZE"), (0, u "MIN_BYTE_COUNTING_SORT_SIZE"), (1, u "MIN_SHORT_OR_CHAR_COUNTING_SORT_SIZE"), (1, u "DELTA"), (1, u "MAX_RECURSION_DEPTH"), (1, u "NUM_BYTE_VALUES"), (1, u "MAX_BYTE_INDEX"), (0, u "NUM_CHAR_VALUES"), (0, u "NUM_SHORT_VALUES"), (0, u "MAX_SHORT_INDEX")] 86

def k6m0 : Method := { name := "<init>", desc := "()V", sig := { parameters := [], returnType := none }, accessFlags := 2, code := none }
def k6c1 : Code := { maxStack := 9, maxLocals := 7, code := jdk_2529_method_12_code, exceptionTable := #[], attributes := #[] }
def k6m1 : Method := { name := "sort", desc := "([JIII)V", sig := { parameters := [(.array .long), .int, .int, .int], returnType := none }, accessFlags := 8, code := some k6c1 }
def k6c2 : Code := { maxStack := 6, maxLocals := 25, code := jdk_2529_method_13_code, exceptionTable := #[], attributes := #[] }
def k6m2 : Method := { name := "sort", desc := "(Ljava/util/DualPivotQuicksort$Sorter;[JIII)V", sig := { parameters := [(.object "java/util/DualPivotQuicksort$Sorter"), (.array .long), .int, .int, .int], returnType := none }, accessFlags := 8, code := some k6c2 }
def k6c3 : Code := { maxStack := 5, maxLocals := 7, code := jdk_2529_method_15_code, exceptionTable := #[], attributes := #[] }
def k6m3 : Method := { name := "insertionSort", desc := "([JII)V", sig := { parameters := [(.array .long), .int, .int], returnType := none }, accessFlags := 10, code := some k6c3 }
/-- java/util/DualPivotQuicksort -/
def k6 : Class := { plain "java/util/DualPivotQuicksort" (some 0) with
  accessFlags := 48
  interfaces := #[]
  cf := some (fileOf pool6 1 #[.nestMembers #[73, 85, 17]] #[{ accessFlags := 2, nameIndex := 11, descriptorIndex := 12, attributes := #[] }, { accessFlags := 8, nameIndex := 28, descriptorIndex := 104, attributes := #[] }, { accessFlags := 8, nameIndex := 28, descriptorIndex := 101, attributes := #[] }, { accessFlags := 10, nameIndex := 36, descriptorIndex := 107, attributes := #[] }] 48 8 #[] #[{ accessFlags := 26, nameIndex := 214, descriptorIndex := 68, attributes := #[] }, { accessFlags := 26, nameIndex := 217, descriptorIndex := 68, attributes := #[] }, { accessFlags := 26, nameIndex := 219, descriptorIndex := 68, attributes := #[] }, { accessFlags := 26, nameIndex := 221, descriptorIndex := 68, attributes := #[] }, { accessFlags := 26, nameIndex := 222, descriptorIndex := 68, attributes := #[] }, { accessFlags := 26, nameIndex := 224, descriptorIndex := 68, attributes := #[] }, { accessFlags := 26, nameIndex := 226, descriptorIndex := 68, attributes := #[] }, { accessFlags := 26, nameIndex := 228, descriptorIndex := 68, attributes := #[] }, { accessFlags := 26, nameIndex := 230, descriptorIndex := 68, attributes := #[] }, { accessFlags := 26, nameIndex := 231, descriptorIndex := 68, attributes := #[] }, { accessFlags := 26, nameIndex := 233, descriptorIndex := 68, attributes := #[] }, { accessFlags := 26, nameIndex := 235, descriptorIndex := 68, attributes := #[] }, { accessFlags := 26, nameIndex := 237, descriptorIndex := 68, attributes := #[] }, { accessFlags := 26, nameIndex := 239, descriptorIndex := 68, attributes := #[] }, { accessFlags := 26, nameIndex := 241, descriptorIndex := 68, attributes := #[] }, { accessFlags := 26, nameIndex := 242, descriptorIndex := 68, attributes := #[] }, { accessFlags := 26, nameIndex := 243, descriptorIndex := 68, attributes := #[] }, { accessFlags := 26, nameIndex := 244, descriptorIndex := 68, attributes := #[] }])
  fields := #[{ name := "MAX_MIXED_INSERTION_SORT_SIZE", type := .int, accessFlags := 26, slot := 0, constantValue := 0 }, { name := "MAX_INSERTION_SORT_SIZE", type := .int, accessFlags := 26, slot := 1, constantValue := 0 }, { name := "MIN_PARALLEL_SORT_SIZE", type := .int, accessFlags := 26, slot := 2, constantValue := 0 }, { name := "MIN_TRY_MERGE_SIZE", type := .int, accessFlags := 26, slot := 3, constantValue := 0 }, { name := "MIN_FIRST_RUN_SIZE", type := .int, accessFlags := 26, slot := 4, constantValue := 0 }, { name := "MIN_FIRST_RUNS_FACTOR", type := .int, accessFlags := 26, slot := 5, constantValue := 0 }, { name := "MAX_RUN_CAPACITY", type := .int, accessFlags := 26, slot := 6, constantValue := 0 }, { name := "MIN_RUN_COUNT", type := .int, accessFlags := 26, slot := 7, constantValue := 0 }, { name := "MIN_PARALLEL_MERGE_PARTS_SIZE", type := .int, accessFlags := 26, slot := 8, constantValue := 0 }, { name := "MIN_BYTE_COUNTING_SORT_SIZE", type := .int, accessFlags := 26, slot := 9, constantValue := 0 }, { name := "MIN_SHORT_OR_CHAR_COUNTING_SORT_SIZE", type := .int, accessFlags := 26, slot := 10, constantValue := 0 }, { name := "DELTA", type := .int, accessFlags := 26, slot := 11, constantValue := 0 }, { name := "MAX_RECURSION_DEPTH", type := .int, accessFlags := 26, slot := 12, constantValue := 0 }, { name := "NUM_BYTE_VALUES", type := .int, accessFlags := 26, slot := 13, constantValue := 0 }, { name := "MAX_BYTE_INDEX", type := .int, accessFlags := 26, slot := 14, constantValue := 0 }, { name := "NUM_CHAR_VALUES", type := .int, accessFlags := 26, slot := 15, constantValue := 0 }, { name := "NUM_SHORT_VALUES", type := .int, accessFlags := 26, slot := 16, constantValue := 0 }, { name := "MAX_SHORT_INDEX", type := .int, accessFlags := 26, slot := 17, constantValue := 0 }]
  methods := #[k6m0, k6m1, k6m2, k6m3]
  instanceTypes := #[]
  staticTypes := #[.int, .int, .int, .int, .int, .int, .int, .int, .int, .int, .int, .int, .int, .int, .int, .int, .int, .int]
  resolved := Array.replicate 331 none
  statics := none }

def pool7 : Array CpInfo := pool [(1, .methodref 2 3), (0, .class_ 4), (0, .nameAndType 5 6), (0, u "java/lang/Object"), (0, u "<init>"), (0, u "()V"), (0, .fieldref 8 9), (0, .class_ 10), (0, .nameAndType 11 12), (0, u "com/example/otito/otito/chain/CodePointSet"), (0, u "bounds"), (0, u "[I"), (6, u "([I)V"), (0, .class_ 21), (0, u "com/example/otito/otito/chain/CodePointSet$Builder"), (29, .class_ 53), (1, u "com/example/otito/otito/chain/CodePointSet$Spaces"), (1, u "Lcom/example/otito/otito/chain/CodePointSet;"), (2, u "DIGITS"), (13, u "WORD"), (2, u "LINE_TERMINATORS"), (5, u "DOT"), (10, u "contains"), (0, u "(I)Z")] 27

def k7c0 : Code := { maxStack := 2, maxLocals := 2, code := prog_5_method_1_code, exceptionTable := #[], attributes := #[] }
def k7m0 : Method := { name := "<init>", desc := "([I)V", sig := { parameters := [(.array .int)], returnType := none }, accessFlags := 2, code := some k7c0 }
def k7c1 : Code := { maxStack := 4, maxLocals := 5, code := prog_5_method_9_code, exceptionTable := #[], attributes := #[] }
def k7m1 : Method := { name := "contains", desc := "(I)Z", sig := { parameters := [.int], returnType := some .boolean }, accessFlags := 0, code := some k7c1 }
/-- com/example/otito/otito/chain/CodePointSet -/
def k7 : Class := { plain "com/example/otito/otito/chain/CodePointSet" (some 0) with
  accessFlags := 48
  interfaces := #[]
  cf := some (fileOf pool7 8 #[.nestMembers #[20, 51]] #[{ accessFlags := 2, nameIndex := 5, descriptorIndex := 19, attributes := #[] }, { accessFlags := 0, nameIndex := 92, descriptorIndex := 93, attributes := #[] }] 48 2 #[] #[{ accessFlags := 24, nameIndex := 58, descriptorIndex := 55, attributes := #[] }, { accessFlags := 24, nameIndex := 72, descriptorIndex := 55, attributes := #[] }, { accessFlags := 24, nameIndex := 75, descriptorIndex := 55, attributes := #[] }, { accessFlags := 24, nameIndex := 81, descriptorIndex := 55, attributes := #[] }, { accessFlags := 18, nameIndex := 11, descriptorIndex := 12, attributes := #[] }])
  fields := #[{ name := "DIGITS", type := (.object "com/example/otito/otito/chain/CodePointSet"), accessFlags := 24, slot := 0, constantValue := 0 }, { name := "WORD", type := (.object "com/example/otito/otito/chain/CodePointSet"), accessFlags := 24, slot := 1, constantValue := 0 }, { name := "LINE_TERMINATORS", type := (.object "com/example/otito/otito/chain/CodePointSet"), accessFlags := 24, slot := 2, constantValue := 0 }, { name := "DOT", type := (.object "com/example/otito/otito/chain/CodePointSet"), accessFlags := 24, slot := 3, constantValue := 0 }, { name := "bounds", type := (.array .int), accessFlags := 18, slot := 0, constantValue := 0 }]
  methods := #[k7m0, k7m1]
  instanceTypes := #[(.array .int)]
  staticTypes := #[(.object "com/example/otito/otito/chain/CodePointSet"), (.object "com/example/otito/otito/chain/CodePointSet"), (.object "com/example/otito/otito/chain/CodePointSet"), (.object "com/example/otito/otito/chain/CodePointSet")]
  resolved := Array.replicate 121 none
  statics := none }

def pool8 : Array CpInfo := pool [(1, .class_ 2), (0, u "java/lang/Cloneable"), (0, .class_ 4), (0, u "java/lang/Object")] 2

/-- java/lang/Cloneable -/
def k8 : Class := { plain "java/lang/Cloneable" (some 0) with
  accessFlags := 1537
  interfaces := #[]
  cf := some (fileOf pool8 1 #[] #[] 1537 3 #[] #[])
  fields := #[]
  methods := #[]
  instanceTypes := #[]
  staticTypes := #[]
  resolved := Array.replicate 7 none
  statics := none }

def pool9 : Array CpInfo := pool [(1, u "java/io/Serializable"), (0, .class_ 1), (0, u "java/lang/Object"), (0, .class_ 3)] 3

/-- java/io/Serializable -/
def k9 : Class := { plain "java/io/Serializable" (some 0) with
  accessFlags := 1537
  interfaces := #[]
  cf := some (fileOf pool9 2 #[] #[] 1537 4 #[] #[])
  fields := #[]
  methods := #[]
  instanceTypes := #[]
  staticTypes := #[]
  resolved := Array.replicate 8 none
  statics := none }

/-- the primitive byte -/
def k10 : Class := { plain "byte" none with kind := .primitive 'B', accessFlags := 0x411 }
/-- [B -/
def k11 : Class := { plain "[B" (some 0) with kind := .array 10 .byte, interfaces := #[8, 9], accessFlags := 1041 }

/-- the primitive int -/
def k12 : Class := { plain "int" none with kind := .primitive 'I', accessFlags := 0x411 }
/-- [I -/
def k13 : Class := { plain "[I" (some 0) with kind := .array 12 .int, interfaces := #[8, 9], accessFlags := 1041 }

/-- the primitive long -/
def k14 : Class := { plain "long" none with kind := .primitive 'J', accessFlags := 0x411 }
/-- [J -/
def k15 : Class := { plain "[J" (some 0) with kind := .array 14 .long, interfaces := #[8, 9], accessFlags := 1041 }

def heap : Heap := #[]
def classes : Array Class := #[k0, k1, k2, k3, k4, k5, k6, k7, k8, k9, k10, k11, k12, k13, k14, k15]
def interned : List (Array UInt16 × Addr) := []
def slotsUsed : Nat := 0
def theMethod : MethodId := ⟨1, 3⟩
def args0 : Array Value := #[.int 5, .int 7, .int 9, .int 3, .int 4, .int 6]
def aboutOver (below : List Frame) : State where
  vm := { classes := classes, interned := interned.toArray }
  heap := heap
  slotsUsed := slotsUsed
  threads := #[{ frames := .invoking theMethod args0 :: below }]
def below0 : List Frame := [.native { method := ⟨0, 0⟩, args := #[] }]
def about1 : State := aboutOver below0
def p0 : Program := .bare "" "" ""
def e0 : Env := launch0.env 0 0 0
theorem w_frames : about1.frames = Frame.invoking theMethod args0 :: below0 := rfl
set_option maxRecDepth 65536 in
theorem w_args : argsFit about1.vm theMethod args0 = true := by decide +kernel
set_option maxRecDepth 65536 in
theorem w_heap : heapFits about1 = true := by decide +kernel
set_option maxRecDepth 65536 in
theorem w_runnable : about1.curStatus? = some .runnable := by decide +kernel
set_option maxRecDepth 65536 in
theorem w_alone : about1.alone = true := by decide +kernel
set_option maxRecDepth 65536 in
theorem w_named : about1.methodNamed? x = some theMethod := by decide +kernel
set_option maxRecDepth 65536 in
theorem w_hears : about1.hears theMethod below0 = true := by decide +kernel
set_option maxRecDepth 65536 in
theorem w_ripe : about1.ripe theMethod args0 below0 = true := by decide +kernel
theorem w_running : about1.status = .running := rfl
set_option maxRecDepth 65536 in
theorem w_room : about1.hasRoom e0.platform room_1 = true :=
  launch0.hasRoom_least _ room_1 (by decide +kernel) (by decide +kernel) (by decide +kernel) (by decide +kernel) (by decide +kernel) (by decide +kernel)
theorem allAtoms_all (ts : List Jvm.Cond) (a : Array Jvm.Value) (st : Jvm.State) : (allAtoms ts).before a st = ts.all (fun c => c.before a st) := by
  induction ts with
  | nil => rfl
  | cons c t ih =>
    show (Jvm.Cond.and c (allAtoms t)).before a st = _
    rw [Jvm.Cond.before_and, ih, List.all_cons]
def words1 : List Jvm.Cond := Jvm.Cond.code x code maxLocals ret :: tables_1
/-- a 'code' word, met by the world's own term for the bytes: nothing is compared byte by byte -/
theorem code_word {y : MethodName} {bytes : ByteArray} {mx : Nat} {rt : Option FieldType} {a : Array Value} {s : State} {m : MethodId} {meth : Method} {c : Code} (h1 : s.methodNamed? y = some m) (h2 : s.vm.method? m = some meth) (h3 : meth.code = some c) (h4 : c.code = bytes)
    (h5 : (c.maxLocals == mx && c.exceptionTable.isEmpty && decide (c.maxStack ≤ mostOperands) && decide (meth.sig.returnType = rt) && !meth.locks && decide (parseMethodDescriptor y.desc = some meth.sig)) = true) : (Jvm.Cond.code y bytes mx rt).before a s = true := by
  simp only [Bool.and_eq_true, beq_iff_eq, Bool.not_eq_true', decide_eq_true_eq] at h5
  obtain ⟨⟨⟨⟨⟨g1, g2⟩, g3⟩, g4⟩, g5⟩, g6⟩ := h5
  simp [Cond.before, Cond.holds, Cond.value, h1, h2, h3, h4, g1, g2, g3, g4, g5, g6]
def isCode : Jvm.Cond → Bool
  | .code _ _ _ _ => true
  | _ => false
theorem all_split {L : List Jvm.Cond} {P : Jvm.Cond → Bool} (h1 : L.all (fun c => isCode c || P c) = true) (h2 : ∀ c ∈ L.filter isCode, P c = true) : L.all P = true := by
  refine List.all_eq_true.mpr fun c hc => ?_
  have h := List.all_eq_true.mp h1 c hc
  rcases Bool.eq_false_or_eq_true (isCode c) with hi | hi
  · exact h2 c (List.mem_filter.mpr ⟨hc, hi⟩)
  · simpa [hi] using h
set_option maxRecDepth 65536 in
theorem w_c0 : (Jvm.Cond.code x code maxLocals ret).before args0 about1 = true := code_word (m := ⟨1, 3⟩) (meth := k1m3) (c := k1c3) (by decide +kernel) rfl rfl rfl (by decide +kernel)
set_option maxRecDepth 65536 in
theorem w_c1 : (Jvm.Cond.code ({ cls := "com/example/otito/otito/chain/CodePointSetAddPinLaw", name := "cp", desc := "(I)I" } : Jvm.MethodName) method_2_code (1 : Nat) (Option.some Jvm.ClassFile.FieldType.int)).before args0 about1 = true := code_word (m := ⟨1, 1⟩) (meth := k1m1) (c := k1c1) (by decide +kernel) rfl rfl rfl (by decide +kernel)
set_option maxRecDepth 65536 in
theorem w_c2 : (Jvm.Cond.code ({ cls := "java/lang/Math", name := "min", desc := "(II)I" } : Jvm.MethodName) jdk_29_method_69_code (2 : Nat) (Option.some Jvm.ClassFile.FieldType.int)).before args0 about1 = true := code_word (m := ⟨2, 2⟩) (meth := k2m2) (c := k2c2) (by decide +kernel) rfl rfl rfl (by decide +kernel)
set_option maxRecDepth 65536 in
theorem w_c3 : (Jvm.Cond.code ({ cls := "java/lang/Math", name := "max", desc := "(II)I" } : Jvm.MethodName) jdk_29_method_65_code (2 : Nat) (Option.some Jvm.ClassFile.FieldType.int)).before args0 about1 = true := code_word (m := ⟨2, 1⟩) (meth := k2m1) (c := k2c1) (by decide +kernel) rfl rfl rfl (by decide +kernel)
set_option maxRecDepth 65536 in
theorem w_c4 : (Jvm.Cond.code ({ cls := "com/example/otito/otito/chain/CodePointSet$Builder", name := "<init>", desc := "()V" } : Jvm.MethodName) prog_6_method_1_code (1 : Nat) (Option.none : Option Jvm.ClassFile.FieldType)).before args0 about1 = true := code_word (m := ⟨3, 0⟩) (meth := k3m0) (c := k3c0) (by decide +kernel) rfl rfl rfl (by decide +kernel)
set_option maxRecDepth 65536 in
theorem w_c5 : (Jvm.Cond.code ({ cls := "java/lang/Object", name := "<init>", desc := "()V" } : Jvm.MethodName) object_method_1_code (1 : Nat) (Option.none : Option Jvm.ClassFile.FieldType)).before args0 about1 = true := code_word (m := ⟨0, 0⟩) (meth := k0m0) (c := k0c0) (by decide +kernel) rfl rfl rfl (by decide +kernel)
set_option maxRecDepth 65536 in
theorem w_c6 : (Jvm.Cond.code ({ cls := "com/example/otito/otito/chain/CodePointSet$Builder", name := "add", desc := "(II)V" } : Jvm.MethodName) prog_6_method_2_code (3 : Nat) (Option.none : Option Jvm.ClassFile.FieldType)).before args0 about1 = true := code_word (m := ⟨3, 1⟩) (meth := k3m1) (c := k3c1) (by decide +kernel) rfl rfl rfl (by decide +kernel)
set_option maxRecDepth 65536 in
theorem w_c7 : (Jvm.Cond.code ({ cls := "com/example/otito/otito/chain/CodePointSet$Builder", name := "build", desc := "()Lcom/example/otito/otito/chain/CodePointSet;" } : Jvm.MethodName) prog_6_method_4_code (11 : Nat) (Option.some (Jvm.ClassFile.FieldType.object "com/example/otito/otito/chain/CodePointSet"))).before args0 about1 = true := code_word (m := ⟨3, 2⟩) (meth := k3m2) (c := k3c2) (by decide +kernel) rfl rfl rfl (by decide +kernel)
set_option maxRecDepth 65536 in
theorem w_c8 : (Jvm.Cond.code ({ cls := "java/util/Arrays", name := "copyOf", desc := "([JI)[J" } : Jvm.MethodName) jdk_65_method_124_code (3 : Nat) (Option.some (Jvm.ClassFile.FieldType.array Jvm.ClassFile.FieldType.long))).before args0 about1 = true := code_word (m := ⟨4, 3⟩) (meth := k4m3) (c := k4c3) (by decide +kernel) rfl rfl rfl (by decide +kernel)
set_option maxRecDepth 65536 in
theorem w_c9 : (Jvm.Cond.code ({ cls := "java/util/Arrays", name := "sort", desc := "([J)V" } : Jvm.MethodName) jdk_65_method_4_code (1 : Nat) (Option.none : Option Jvm.ClassFile.FieldType)).before args0 about1 = true := code_word (m := ⟨4, 1⟩) (meth := k4m1) (c := k4c1) (by decide +kernel) rfl rfl rfl (by decide +kernel)
set_option maxRecDepth 65536 in
theorem w_c10 : (Jvm.Cond.code ({ cls := "java/util/DualPivotQuicksort", name := "sort", desc := "([JIII)V" } : Jvm.MethodName) jdk_2529_method_12_code (7 : Nat) (Option.none : Option Jvm.ClassFile.FieldType)).before args0 about1 = true := code_word (m := ⟨6, 1⟩) (meth := k6m1) (c := k6c1) (by decide +kernel) rfl rfl rfl (by decide +kernel)
set_option maxRecDepth 65536 in
theorem w_c11 : (Jvm.Cond.code ({ cls := "java/util/DualPivotQuicksort", name := "sort", desc := "(Ljava/util/DualPivotQuicksort$Sorter;[JIII)V" } : Jvm.MethodName) jdk_2529_method_13_code (25 : Nat) (Option.none : Option Jvm.ClassFile.FieldType)).before args0 about1 = true := code_word (m := ⟨6, 2⟩) (meth := k6m2) (c := k6c2) (by decide +kernel) rfl rfl rfl (by decide +kernel)
set_option maxRecDepth 65536 in
theorem w_c12 : (Jvm.Cond.code ({ cls := "java/util/DualPivotQuicksort", name := "insertionSort", desc := "([JII)V" } : Jvm.MethodName) jdk_2529_method_15_code (7 : Nat) (Option.none : Option Jvm.ClassFile.FieldType)).before args0 about1 = true := code_word (m := ⟨6, 3⟩) (meth := k6m3) (c := k6c3) (by decide +kernel) rfl rfl rfl (by decide +kernel)
set_option maxRecDepth 65536 in
theorem w_c13 : (Jvm.Cond.code ({ cls := "java/util/Arrays", name := "copyOf", desc := "([II)[I" } : Jvm.MethodName) jdk_65_method_123_code (3 : Nat) (Option.some (Jvm.ClassFile.FieldType.array Jvm.ClassFile.FieldType.int))).before args0 about1 = true := code_word (m := ⟨4, 2⟩) (meth := k4m2) (c := k4c2) (by decide +kernel) rfl rfl rfl (by decide +kernel)
set_option maxRecDepth 65536 in
theorem w_c14 : (Jvm.Cond.code ({ cls := "com/example/otito/otito/chain/CodePointSet", name := "<init>", desc := "([I)V" } : Jvm.MethodName) prog_5_method_1_code (2 : Nat) (Option.none : Option Jvm.ClassFile.FieldType)).before args0 about1 = true := code_word (m := ⟨7, 0⟩) (meth := k7m0) (c := k7c0) (by decide +kernel) rfl rfl rfl (by decide +kernel)
set_option maxRecDepth 65536 in
theorem w_c15 : (Jvm.Cond.code ({ cls := "com/example/otito/otito/chain/CodePointSetAddPinLaw", name := "in", desc := "(III)Z" } : Jvm.MethodName) method_3_code (3 : Nat) (Option.some Jvm.ClassFile.FieldType.boolean)).before args0 about1 = true := code_word (m := ⟨1, 2⟩) (meth := k1m2) (c := k1c2) (by decide +kernel) rfl rfl rfl (by decide +kernel)
set_option maxRecDepth 65536 in
theorem w_c16 : (Jvm.Cond.code ({ cls := "com/example/otito/otito/chain/CodePointSet", name := "contains", desc := "(I)Z" } : Jvm.MethodName) prog_5_method_9_code (5 : Nat) (Option.some Jvm.ClassFile.FieldType.boolean)).before args0 about1 = true := code_word (m := ⟨7, 1⟩) (meth := k7m1) (c := k7c1) (by decide +kernel) rfl rfl rfl (by decide +kernel)
def codes1 : List Jvm.Cond := [Jvm.Cond.code x code maxLocals ret, Jvm.Cond.code ({ cls := "com/example/otito/otito/chain/CodePointSetAddPinLaw", name := "cp", desc := "(I)I" } : Jvm.MethodName) method_2_code (1 : Nat) (Option.some Jvm.ClassFile.FieldType.int), Jvm.Cond.code ({ cls := "java/lang/Math", name := "min", desc := "(II)I" } : Jvm.MethodName) jdk_29_method_69_code (2 : Nat) (Option.some Jvm.ClassFile.FieldType.int), Jvm.Cond.code ({ cls := "java/lang/Math", name := "max", desc := "(II)I" } : Jvm.MethodName) jdk_29_method_65_code (2 : Nat) (Option.some Jvm.ClassFile.FieldType.int), Jvm.Cond.code ({ cls := "com/example/otito/otito/chain/CodePointSet$Builder", name := "<init>", desc := "()V" } : Jvm.MethodName) prog_6_method_1_code (1 : Nat) (Option.none : Option Jvm.ClassFile.FieldType), Jvm.Cond.code ({ cls := "java/lang/Object", name := "<init>", desc := "()V" } : Jvm.MethodName) object_method_1_code (1 : Nat) (Option.none : Option Jvm.ClassFile.FieldType), Jvm.Cond.code ({ cls := "com/example/otito/otito/chain/CodePointSet$Builder", name := "add", desc := "(II)V" } : Jvm.MethodName) prog_6_method_2_code (3 : Nat) (Option.none : Option Jvm.ClassFile.FieldType), Jvm.Cond.code ({ cls := "com/example/otito/otito/chain/CodePointSet$Builder", name := "build", desc := "()Lcom/example/otito/otito/chain/CodePointSet;" } : Jvm.MethodName) prog_6_method_4_code (11 : Nat) (Option.some (Jvm.ClassFile.FieldType.object "com/example/otito/otito/chain/CodePointSet")), Jvm.Cond.code ({ cls := "java/util/Arrays", name := "copyOf", desc := "([JI)[J" } : Jvm.MethodName) jdk_65_method_124_code (3 : Nat) (Option.some (Jvm.ClassFile.FieldType.array Jvm.ClassFile.FieldType.long)), Jvm.Cond.code ({ cls := "java/util/Arrays", name := "sort", desc := "([J)V" } : Jvm.MethodName) jdk_65_method_4_code (1 : Nat) (Option.none : Option Jvm.ClassFile.FieldType), Jvm.Cond.code ({ cls := "java/util/DualPivotQuicksort", name := "sort", desc := "([JIII)V" } : Jvm.MethodName) jdk_2529_method_12_code (7 : Nat) (Option.none : Option Jvm.ClassFile.FieldType), Jvm.Cond.code ({ cls := "java/util/DualPivotQuicksort", name := "sort", desc := "(Ljava/util/DualPivotQuicksort$Sorter;[JIII)V" } : Jvm.MethodName) jdk_2529_method_13_code (25 : Nat) (Option.none : Option Jvm.ClassFile.FieldType), Jvm.Cond.code ({ cls := "java/util/DualPivotQuicksort", name := "insertionSort", desc := "([JII)V" } : Jvm.MethodName) jdk_2529_method_15_code (7 : Nat) (Option.none : Option Jvm.ClassFile.FieldType), Jvm.Cond.code ({ cls := "java/util/Arrays", name := "copyOf", desc := "([II)[I" } : Jvm.MethodName) jdk_65_method_123_code (3 : Nat) (Option.some (Jvm.ClassFile.FieldType.array Jvm.ClassFile.FieldType.int)), Jvm.Cond.code ({ cls := "com/example/otito/otito/chain/CodePointSet", name := "<init>", desc := "([I)V" } : Jvm.MethodName) prog_5_method_1_code (2 : Nat) (Option.none : Option Jvm.ClassFile.FieldType), Jvm.Cond.code ({ cls := "com/example/otito/otito/chain/CodePointSetAddPinLaw", name := "in", desc := "(III)Z" } : Jvm.MethodName) method_3_code (3 : Nat) (Option.some Jvm.ClassFile.FieldType.boolean), Jvm.Cond.code ({ cls := "com/example/otito/otito/chain/CodePointSet", name := "contains", desc := "(I)Z" } : Jvm.MethodName) prog_5_method_9_code (5 : Nat) (Option.some Jvm.ClassFile.FieldType.boolean)]
set_option maxRecDepth 65536 in
theorem codes_eq : words1.filter isCode = codes1 := rfl
theorem w_codes : ∀ c ∈ words1.filter isCode, c.before args0 about1 = true := by
  rw [codes_eq]
  intro c hc
  simp only [codes1, List.mem_cons, List.not_mem_nil, or_false] at hc
  rcases hc with rfl | rfl | rfl | rfl | rfl | rfl | rfl | rfl | rfl | rfl | rfl | rfl | rfl | rfl | rfl | rfl | rfl
  · exact w_c0
  · exact w_c1
  · exact w_c2
  · exact w_c3
  · exact w_c4
  · exact w_c5
  · exact w_c6
  · exact w_c7
  · exact w_c8
  · exact w_c9
  · exact w_c10
  · exact w_c11
  · exact w_c12
  · exact w_c13
  · exact w_c14
  · exact w_c15
  · exact w_c16
set_option maxRecDepth 65536 in
theorem w_t1 : (words1.take 24).all (fun c => isCode c || c.before args0 about1) = true := by decide +kernel
set_option maxRecDepth 65536 in
theorem w_t2 : ((words1.drop 24).take 24).all (fun c => isCode c || c.before args0 about1) = true := by decide +kernel
set_option maxRecDepth 65536 in
theorem w_t3 : (((words1.drop 24).drop 24).take 24).all (fun c => isCode c || c.before args0 about1) = true := by decide +kernel
set_option maxRecDepth 65536 in
theorem w_t4 : ((((words1.drop 24).drop 24).drop 24).take 24).all (fun c => isCode c || c.before args0 about1) = true := by decide +kernel
set_option maxRecDepth 65536 in
theorem w_t5 : ((((words1.drop 24).drop 24).drop 24).drop 24).all (fun c => isCode c || c.before args0 about1) = true := by decide +kernel
theorem w_tables : (allAtoms (Jvm.Cond.code x code maxLocals ret :: tables_1)).before args0 about1 = true := by
  rw [allAtoms_all]
  show words1.all (fun c => c.before args0 about1) = true
  refine all_split ?_ w_codes
  rw [← List.take_append_drop 24 words1, List.all_append, w_t1, ← List.take_append_drop 24 (words1.drop 24), List.all_append, w_t2, ← List.take_append_drop 24 ((words1.drop 24).drop 24), List.all_append, w_t3, ← List.take_append_drop 24 (((words1.drop 24).drop 24).drop 24), List.all_append, w_t4, w_t5]
  rfl
set_option maxRecDepth 65536 in
theorem w_case : (Jvm.Cond.and given_1 narrow_1).before args0 about1 = true := by decide +kernel
theorem w_applies : (headSpec (Jvm.Cond.code x code maxLocals ret :: tables_1) room_1).applies x e0.platform about1 = true :=
  (Spec.applies_iff w_frames).mpr ⟨w_running, w_runnable, w_alone, w_named, w_hears, w_ripe, w_room, w_tables⟩
theorem atStart : AtStart classFile x code maxLocals ret World_1 tables_1 room_1 Calls_1 rest_1 Pre_1 launch0 p0 e0 about1 theMethod args0 below0 :=
  ⟨lists_1, trivial, launch0.admits_env _ _ _, launch0.least_env, fairChoices_fair.cas, fairChoices_fair.clock, w_frames, w_args, w_heap, w_applies, trivial, trivial, w_case⟩
end start1
theorem witness_1 : WitnessClaimed_1 := ⟨start1.p0, start1.e0, start1.about1, start1.theMethod, start1.args0, start1.below0, start1.atStart⟩
end Jvm.Pilot.@@N@@
