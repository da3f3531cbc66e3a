import JvmDerived
import JvmDerived.Pilot.@@N@@Statement
import JvmDerived.Pilot.@@N@@Code
set_option linter.unusedVariables false
set_option linter.unusedSimpArgs false

namespace Jvm.Pilot.@@N@@
open Jvm Jvm.ClassFile Sem Op Lib Jvm.Free Jvm.Stand Jvm.LawKit Jvm.RoadKit Bundle Jvm.Pilot.@@N@@.Jvm.D
theorem own_pre {tb : Tables} {e : Env} {below : List Frame} {A B : State} {C : State → Outcome → Prop} (k : ∀ t, Steps tb e below A t → Steps tb e below B t) (h : ∃ s₂ o, Steps tb e below A s₂ ∧ C s₂ o) : ∃ s₂ o, Steps tb e below B s₂ ∧ C s₂ o := by
  obtain ⟨s2, o, h1, h2⟩ := h
  exact ⟨s2, o, k _ h1, h2⟩
theorem own_lrem {p : Program} {l : Launch} {e : Env} {R : Room} {s : State} {m : MethodId} {args : Array Value} {below : List Frame} {meth : Method} {c : Code} {T : State} {locs : List Loc} {cells slots : Nat} {g : JFrame} {target : State} (X : Stand p l e R s m args below meth c T locs cells slots) (hx : p.tables.exec = Jvm.exec) (hg : g.method = m) {x y : Int64} {rest : List Value} (hd : decode c.code g.pc = .ok (.lrem, 1)) (hs : g.stack = .long y :: .long x :: rest) (hy : y ≠ 0)
    (hr : Steps p.tables e below (T.setTop { g with pc := g.pc + 1, stack := .long (x % y) :: rest }) target) : Steps p.tables e below (T.setTop g) target :=
  XS.lrem X.here hx hg hd hs hy (by rw [lrem_mod]; exact hr)
theorem own_w {wl : List Jvm.Cond} {a0 : Array Value} {Z : State} (h : ∀ d ∈ wl, d.before a0 Z = true) (i : Nat) {d : Jvm.Cond} (g : wl[i]? = some d) : d.before a0 Z = true := h d (List.mem_of_getElem? g)

theorem own_pd0 : parseMethodDescriptor "([B)V" = some ⟨[(.array .byte)], none⟩ := by decide +kernel
theorem own_pd1 : parseMethodDescriptor "()Z" = some ⟨[], some .boolean⟩ := by decide +kernel
theorem own_pd2 : parseMethodDescriptor "()I" = some ⟨[], some .int⟩ := by decide +kernel
def own_Al (Z : State) (h : Heap) (a : Addr) (ty : FieldType) (n : Int32) : Prop := ∃ c : Cell, Arr Z h a c ty ∧ c.slots.size = n.toNatClampNeg ∧ ¬ n < 0
theorem own_Al.lt {Z : State} {h : Heap} {a : Addr} {ty : FieldType} {n : Int32} (F : own_Al Z h a ty n) : a < h.size := by obtain ⟨c, A, -⟩ := F; exact A.lt
theorem own_Al.ext {Z : State} {h h' : Heap} {a : Addr} {ty : FieldType} {n : Int32} (F : own_Al Z h a ty n) (E : Ext h h') : own_Al Z h' a ty n := by obtain ⟨c, A, r⟩ := F; exact ⟨c, A.ext E, r⟩
theorem own_Al.other {Z : State} {h h' : Heap} {a b : Addr} {ty : FieldType} {n : Int32} {sl : Nat} {v : Value} (F : own_Al Z h b ty n) (W : Wr h h' a sl v) (q : b ≠ a) : own_Al Z h' b ty n := by obtain ⟨c, A, r⟩ := F; exact ⟨c, A.other W q, r⟩
theorem own_Al.keep {Z : State} {h h' : Heap} {a : Addr} {ty : FieldType} {n : Int32} {ws : List Addr} (F : own_Al Z h a ty n) (K : Keep h h' ws) (q : a ∉ ws) : own_Al Z h' a ty n := by obtain ⟨c, A, r⟩ := F; exact ⟨c, ⟨K.2.1 a c A.1 q, A.2⟩, r⟩
theorem d1_0 : decode prog_36_method_1_code 0 = .ok (.aload_n 0, 1) := by decide +kernel
theorem d1_1 : decode prog_36_method_1_code 1 = .ok (.invokespecial 1, 3) := by decide +kernel
theorem d1_4 : decode prog_36_method_1_code 4 = .ok (.aload_n 0, 1) := by decide +kernel
theorem d1_5 : decode prog_36_method_1_code 5 = .ok (.aload_n 1, 1) := by decide +kernel
theorem d1_6 : decode prog_36_method_1_code 6 = .ok (.putfield 7, 3) := by decide +kernel
theorem d1_9 : decode prog_36_method_1_code 9 = .ok (.return_, 1) := by decide +kernel
theorem own_pn1 : plainName "com/example/otito/otito/measure/LogReader" = true := by first | (simp [plainName, overriddenIn]; done) | decide +kernel
theorem own_ef1 (m : MethodId) (x0 : Addr) (x1 : Addr) : entryFrame m #[(.ref x0), (.ref x1)] 2 = mkF m 0 #[.val (.ref x0), .val (.ref x1)] [] := by first | (simp [entryFrame, mkF, argsToLocals, Value.category]; done) | rfl
def own_Q1 (Z : State) (ax : Addr) (ab : Addr) (h0 : Heap) (n0 : Nat) (v : Option Value) (h : Heap) (L : List Loc) : Prop := v = none ∧ Fr n0 L ∧ Keep h0 h [ax] ∧ Fld Z h ax "com/example/otito/otito/measure/LogReader" "bytes" "[B" (.ref ab) ∧ Fld Z h ax "com/example/otito/otito/measure/LogReader" "length" "I" (.int (0 : Int32))
set_option maxRecDepth 65536 in
set_option maxHeartbeats 40000000 in
theorem rm1 (l : Launch) (Z : State) (a0 : Array Value) (hw : ∀ d ∈ tables_1, d.before a0 Z = true) (ws : List Jvm.Cond) (ax : Addr) (ab : Addr) (h0 : Heap) (n0 : Nat) (Z0 : n0 ≤ h0.size) (Ea : Exa Z h0 ax "com/example/otito/otito/measure/LogReader") (Fb : Fld Z h0 ax "com/example/otito/otito/measure/LogReader" "bytes" "[B" .null) (Fl : Fld Z h0 ax "com/example/otito/otito/measure/LogReader" "length" "I" (.int (0 : Int32))) (ga : n0 ≤ ax) :
    MetFree l (⟨"com/example/otito/otito/measure/LogReader", "<init>", "([B)V"⟩ : MethodName) (head1 (Jvm.Cond.code (⟨"com/example/otito/otito/measure/LogReader", "<init>", "([B)V"⟩ : MethodName) prog_36_method_1_code 2 none :: ws) ({ frames := 1, cells := 0, slots := 0, locals := 12 } : Room)) (fun a U => a = #[(.ref ax), (.ref ab)] ∧ Z.Warmed39 U.vm ∧ U.heap = h0) (fun _ _ _ _ _ => True) (fun _ U o U' => ∃ v L, o = .returned v ∧ own_Q1 Z ax ab h0 n0 v U'.heap L ∧ FrameEnd U o U' L ({ frames := 1, cells := 0, slots := 0, locals := 12 } : Room).cells ({ frames := 1, cells := 0, slots := 0, locals := 12 } : Room).slots) := by
  refine MetFree.of_bodySF (plainFor_of_name own_pn1) hisR ?_
  intro p e s m args below meth c s₁ Bd hml0 hP hK
  obtain ⟨rfl, hZ, hh⟩ := hP
  have hx := Bd.exec
  have hby := Bd.bytes
  have hml : c.maxLocals = 2 := hml0
  have hown : s.vm.findClass "com/example/otito/otito/measure/LogReader" = some m.cls := findClass_of_methodNamed Bd.named
  have hnm := (name_of_methodNamed Bd.named Bd.method).1
  have X0 : Stand p l e ({ frames := 1, cells := 0, slots := 0, locals := 12 } : Room) s m #[(.ref ax), (.ref ab)] below meth c s₁ [] 0 0 := Stand.of_body Bd
  have e0 : s₁.heap = h0 := by rw [← hh, Bd.state]; rfl
  have N0 := Fr.nil n0
  refine own_pre (A := (s₁.setTop (mkF m 0 #[.val (.ref ax), .val (.ref ab)] []))) (fun t k => castTop (own_ef1 m ax ab) k) ?_
  refine own_pre (A := (s₁.setTop (mkF m 1 #[.val (.ref ax), .val (.ref ab)] [(.ref ax)]))) ?_ ?_
  · intro t k
    show Steps p.tables e below (s₁.setTop (mkF m 0 #[.val (.ref ax), .val (.ref ab)] [])) _
    refine XS.aloadN X0.here hx rfl (hb hby d1_0) rfl rfl ?_
    exact k
  obtain ⟨T1, X1, e1, st1⟩ := initO X0 hx hZ hown (own_w hw 7 rfl) (own_w hw 8 rfl) (own_w hw 9 rfl) e0 (g := (mkF m 1 #[.val (.ref ax), .val (.ref ab)] [(.ref ax)])) rfl (by rw [hml]; rfl) rfl (hb hby d1_1) (by decide) (W := 0) (by show 2 * 0 + _ ≤ _; exact Nat.le_of_eq rfl) (by decide)
  refine own_pre (fun t k => st1 t k) ?_
  refine own_pre (A := (T1.setTop (mkF m 6 #[.val (.ref ax), .val (.ref ab)] [(.ref ab), (.ref ax)]))) ?_ ?_
  · intro t k
    show Steps p.tables e below (T1.setTop (mkF m 4 #[.val (.ref ax), .val (.ref ab)] [])) _
    refine XS.aloadN X1.here hx rfl (hb hby d1_4) rfl rfl ?_
    show Steps p.tables e below (T1.setTop (mkF m 5 #[.val (.ref ax), .val (.ref ab)] [(.ref ax)])) _
    refine XS.aloadN X1.here hx rfl (hb hby d1_5) rfl rfl ?_
    exact k
  obtain ⟨T2, h2, X2, e2, W2, st2⟩ := putF X1 hx hZ hown (host := "") (Or.inl (own_w hw 10 rfl)) Via.refl e1 Fb Ea (Or.inr ⟨(own_w hw 11 rfl), rfl, hnm⟩) (own_w hw 2 rfl) (ty := (.array .byte)) (by decide) rfl rfl (g := (mkF m 6 #[.val (.ref ax), .val (.ref ab)] [(.ref ab), (.ref ax)])) rfl rfl (hb hby d1_6)
  have Fl_2 := Fl.other W2 (Or.inr (slot_ne (Or.inl (own_w hw 18 rfl)) (Or.inr (own_w hw 11 rfl)) (by decide) (t := .int) (t' := (.array .byte)) (by decide) (by decide)))
  have Kc2 : Keep h0 h2 [ax] := (Keep.refl h0 [ax]).wr W2 (Or.inl (List.mem_of_getElem? (i := 0) rfl))
  have N2 := Fr.snoc X2 N0 ga
  have Fw2 := Fb.same W2
  refine own_pre (fun t k => st2 t k) ?_
  obtain ⟨fs, hr, hrun, hended, hW, hsame⟩ := X2.leave (v := none) (fun _ => rfl)
  refine ⟨_, _, X2.returnOut hx Bd.returns (hb hby d1_9) hr, hrun, hended, _, _, rfl, ?_, ⟨_, rfl⟩, hW, hsame.mono (by decide) (by decide)⟩
  show own_Q1 Z ax ab h0 n0 _ T2.heap _
  rw [e2]
  exact ⟨rfl, N2, Kc2, Fw2, Fl_2⟩
theorem d3_0 : decode prog_36_method_2_code 0 = .ok (.aload_n 0, 1) := by decide +kernel
theorem d3_1 : decode prog_36_method_2_code 1 = .ok (.getfield 13, 3) := by decide +kernel
theorem d3_4 : decode prog_36_method_2_code 4 = .ok (.aload_n 0, 1) := by decide +kernel
theorem d3_5 : decode prog_36_method_2_code 5 = .ok (.getfield 7, 3) := by decide +kernel
theorem d3_8 : decode prog_36_method_2_code 8 = .ok (.arraylength, 1) := by decide +kernel
theorem d3_9 : decode prog_36_method_2_code 9 = .ok (.if_icmp .ge 7, 3) := by decide +kernel
theorem d3_12 : decode prog_36_method_2_code 12 = .ok (.iconst 1, 1) := by decide +kernel
theorem d3_13 : decode prog_36_method_2_code 13 = .ok (.goto 4, 3) := by decide +kernel
theorem d3_16 : decode prog_36_method_2_code 16 = .ok (.iconst 0, 1) := by decide +kernel
theorem d3_17 : decode prog_36_method_2_code 17 = .ok (.ireturn, 1) := by decide +kernel
theorem own_pn3 : plainName "com/example/otito/otito/measure/LogReader" = true := by first | (simp [plainName, overriddenIn]; done) | decide +kernel
theorem own_ef3 (m : MethodId) (x0 : Addr) : entryFrame m #[(.ref x0)] 1 = mkF m 0 #[.val (.ref x0)] [] := by first | (simp [entryFrame, mkF, argsToLocals, Value.category]; done) | rfl
def own_hm (pl : Int32) (pn : Int32) : Int32 := (if pl < pn then (1 : Int32) else (0 : Int32))
def own_Q3 (Z : State) (ax : Addr) (ab : Addr) (pl : Int32) (pn : Int32) (h0 : Heap) (n0 : Nat) (v : Option Value) (h : Heap) (L : List Loc) : Prop := v = some (.int (own_hm pl pn)) ∧ Fr n0 L ∧ h = h0
set_option maxRecDepth 65536 in
set_option maxHeartbeats 40000000 in
theorem rm3 (l : Launch) (Z : State) (a0 : Array Value) (hw : ∀ d ∈ tables_1, d.before a0 Z = true) (ws : List Jvm.Cond) (ax : Addr) (ab : Addr) (pl : Int32) (pn : Int32) (h0 : Heap) (n0 : Nat) (Z0 : n0 ≤ h0.size) (Fb : Fld Z h0 ax "com/example/otito/otito/measure/LogReader" "bytes" "[B" (.ref ab)) (Fl : Fld Z h0 ax "com/example/otito/otito/measure/LogReader" "length" "I" (.int pl)) (Va : own_Al Z h0 ab .byte pn) :
    MetFree l (⟨"com/example/otito/otito/measure/LogReader", "hasMore", "()Z"⟩ : MethodName) (head1 (Jvm.Cond.code (⟨"com/example/otito/otito/measure/LogReader", "hasMore", "()Z"⟩ : MethodName) prog_36_method_2_code 1 (some .boolean) :: ws) ({ frames := 0, cells := 0, slots := 0, locals := 0 } : Room)) (fun a U => a = #[(.ref ax)] ∧ Z.Warmed39 U.vm ∧ U.heap = h0) (fun _ _ _ _ _ => True) (fun _ U o U' => ∃ v L, o = .returned v ∧ own_Q3 Z ax ab pl pn h0 n0 v U'.heap L ∧ FrameEnd U o U' L ({ frames := 0, cells := 0, slots := 0, locals := 0 } : Room).cells ({ frames := 0, cells := 0, slots := 0, locals := 0 } : Room).slots) := by
  refine MetFree.of_bodySF (plainFor_of_name own_pn3) hisR ?_
  intro p e s m args below meth c s₁ Bd hml0 hP hK
  obtain ⟨rfl, hZ, hh⟩ := hP
  have hx := Bd.exec
  have hby := Bd.bytes
  have hml : c.maxLocals = 1 := hml0
  have hown : s.vm.findClass "com/example/otito/otito/measure/LogReader" = some m.cls := findClass_of_methodNamed Bd.named
  have hnm := (name_of_methodNamed Bd.named Bd.method).1
  have X0 : Stand p l e ({ frames := 0, cells := 0, slots := 0, locals := 0 } : Room) s m #[(.ref ax)] below meth c s₁ [] 0 0 := Stand.of_body Bd
  have e0 : s₁.heap = h0 := by rw [← hh, Bd.state]; rfl
  have N0 := Fr.nil n0
  refine own_pre (A := (s₁.setTop (mkF m 0 #[.val (.ref ax)] []))) (fun t k => castTop (own_ef3 m ax) k) ?_
  refine own_pre (A := (s₁.setTop (mkF m 1 #[.val (.ref ax)] [(.ref ax)]))) ?_ ?_
  · intro t k
    show Steps p.tables e below (s₁.setTop (mkF m 0 #[.val (.ref ax)] [])) _
    refine XS.aloadN X0.here hx rfl (hb hby d3_0) rfl rfl ?_
    exact k
  obtain ⟨T3, X3, e3, st3⟩ := getF X0 hx hZ hown (host := "") (Or.inl (own_w hw 17 rfl)) Via.refl e0 Fl (g := (mkF m 1 #[.val (.ref ax)] [(.ref ax)])) rfl rfl (hb hby d3_1)
  refine own_pre (fun t k => st3 t k) ?_
  refine own_pre (A := (T3.setTop (mkF m 5 #[.val (.ref ax)] [(.ref ax), (.int pl)]))) ?_ ?_
  · intro t k
    show Steps p.tables e below (T3.setTop (mkF m 4 #[.val (.ref ax)] [(.int pl)])) _
    refine XS.aloadN X3.here hx rfl (hb hby d3_4) rfl rfl ?_
    exact k
  obtain ⟨T4, X4, e4, st4⟩ := getF X3 hx hZ hown (host := "") (Or.inl (own_w hw 10 rfl)) Via.refl e3 Fb (g := (mkF m 5 #[.val (.ref ax)] [(.ref ax), (.int pl)])) rfl rfl (hb hby d3_5)
  refine own_pre (fun t k => st4 t k) ?_
  refine own_pre (A := (T4.setTop (mkF m 9 #[.val (.ref ax)] [(.int pn), (.int pl)]))) ?_ ?_
  · intro t k
    show Steps p.tables e below (T4.setTop (mkF m 8 #[.val (.ref ax)] [(.ref ab), (.int pl)])) _
    obtain ⟨cl5, Ar5, S5, N5⟩ := Va
    refine X4.arraylength hx (by rw [e4]; exact Ar5.1) (State.isArrayOf_alike hZ.alike Ar5.2.1) (g := (mkF m 8 #[.val (.ref ax)] [(.ref ab), (.int pl)])) rfl rfl (hb hby d3_8) _ ?_
    rw [len_of S5 N5]
    exact k
  by_cases hc6 : pl < pn
  · skip
    refine own_pre (A := (T4.setTop (mkF m 12 #[.val (.ref ax)] []))) ?_ ?_
    · intro t k
      refine XS.icmpNo X4.here hx rfl (hb hby d3_9) rfl (tlt hc6).2.1 ?_
      exact k
    refine own_pre (A := (T4.setTop (mkF m 17 #[.val (.ref ax)] [(.int (1 : Int32))]))) ?_ ?_
    · intro t k
      show Steps p.tables e below (T4.setTop (mkF m 12 #[.val (.ref ax)] [])) _
      refine XS.iconst X4.here hx rfl (hb hby d3_12) ?_
      show Steps p.tables e below (T4.setTop (mkF m 13 #[.val (.ref ax)] [(.int (1 : Int32))])) _
      refine XS.goto X4.here hx rfl (pc0 := 13) (pc' := 17) rfl (hb hby d3_13) (by decide) (by decide) ?_
      exact k
    have hz : own_hm pl pn = (1 : Int32) := by simp only [own_hm, if_pos hc6]
    obtain ⟨fs, hr, hrun, hended, hW, hsame⟩ := X4.leave (v := some (.int (1 : Int32))) (fun h => by rw [Bd.returns] at h; cases h)
    refine ⟨_, _, retOut X4 hx Bd.returns rfl (Or.inl ⟨rfl, Or.inr (Or.inl rfl), _, rfl⟩) (hb hby d3_17) hr, hrun, hended, _, _, rfl, ?_, ⟨_, rfl⟩, hW, hsame.mono (by decide) (by decide)⟩
    show own_Q3 Z ax ab pl pn h0 n0 _ T4.heap _
    rw [e4]
    exact ⟨by rw [hz], N0, rfl⟩
  · skip
    refine own_pre (A := (T4.setTop (mkF m 16 #[.val (.ref ax)] []))) ?_ ?_
    · intro t k
      refine XS.icmpYes X4.here hx rfl (pc0 := 9) (pc' := 16) rfl (hb hby d3_9) rfl (flt hc6).2.1 (by decide) (by decide) ?_
      exact k
    refine own_pre (A := (T4.setTop (mkF m 17 #[.val (.ref ax)] [(.int (0 : Int32))]))) ?_ ?_
    · intro t k
      show Steps p.tables e below (T4.setTop (mkF m 16 #[.val (.ref ax)] [])) _
      refine XS.iconst X4.here hx rfl (hb hby d3_16) ?_
      exact k
    have hz : own_hm pl pn = (0 : Int32) := by simp only [own_hm, if_neg hc6]
    obtain ⟨fs, hr, hrun, hended, hW, hsame⟩ := X4.leave (v := some (.int (0 : Int32))) (fun h => by rw [Bd.returns] at h; cases h)
    refine ⟨_, _, retOut X4 hx Bd.returns rfl (Or.inl ⟨rfl, Or.inr (Or.inl rfl), _, rfl⟩) (hb hby d3_17) hr, hrun, hended, _, _, rfl, ?_, ⟨_, rfl⟩, hW, hsame.mono (by decide) (by decide)⟩
    show own_Q3 Z ax ab pl pn h0 n0 _ T4.heap _
    rw [e4]
    exact ⟨by rw [hz], N0, rfl⟩
theorem d4_0 : decode prog_36_method_4_code 0 = .ok (.aload_n 0, 1) := by decide +kernel
theorem d4_1 : decode prog_36_method_4_code 1 = .ok (.getfield 13, 3) := by decide +kernel
theorem d4_4 : decode prog_36_method_4_code 4 = .ok (.ireturn, 1) := by decide +kernel
theorem own_pn4 : plainName "com/example/otito/otito/measure/LogReader" = true := by first | (simp [plainName, overriddenIn]; done) | decide +kernel
theorem own_ef4 (m : MethodId) (x0 : Addr) : entryFrame m #[(.ref x0)] 1 = mkF m 0 #[.val (.ref x0)] [] := by first | (simp [entryFrame, mkF, argsToLocals, Value.category]; done) | rfl
def own_Q4 (Z : State) (ax : Addr) (pl : Int32) (h0 : Heap) (n0 : Nat) (v : Option Value) (h : Heap) (L : List Loc) : Prop := Fr n0 L ∧ v = some (.int pl) ∧ h = h0
set_option maxRecDepth 65536 in
set_option maxHeartbeats 40000000 in
theorem rm4 (l : Launch) (Z : State) (a0 : Array Value) (hw : ∀ d ∈ tables_1, d.before a0 Z = true) (ws : List Jvm.Cond) (ax : Addr) (pl : Int32) (h0 : Heap) (n0 : Nat) (Z0 : n0 ≤ h0.size) (Fl : Fld Z h0 ax "com/example/otito/otito/measure/LogReader" "length" "I" (.int pl)) :
    MetFree l (⟨"com/example/otito/otito/measure/LogReader", "length", "()I"⟩ : MethodName) (head1 (Jvm.Cond.code (⟨"com/example/otito/otito/measure/LogReader", "length", "()I"⟩ : MethodName) prog_36_method_4_code 1 (some .int) :: ws) ({ frames := 0, cells := 0, slots := 0, locals := 0 } : Room)) (fun a U => a = #[(.ref ax)] ∧ Z.Warmed39 U.vm ∧ U.heap = h0) (fun _ _ _ _ _ => True) (fun _ U o U' => ∃ v L, o = .returned v ∧ own_Q4 Z ax pl h0 n0 v U'.heap L ∧ FrameEnd U o U' L ({ frames := 0, cells := 0, slots := 0, locals := 0 } : Room).cells ({ frames := 0, cells := 0, slots := 0, locals := 0 } : Room).slots) := by
  refine MetFree.of_bodySF (plainFor_of_name own_pn4) hisR ?_
  intro p e s m args below meth c s₁ Bd hml0 hP hK
  obtain ⟨rfl, hZ, hh⟩ := hP
  have hx := Bd.exec
  have hby := Bd.bytes
  have hml : c.maxLocals = 1 := hml0
  have hown : s.vm.findClass "com/example/otito/otito/measure/LogReader" = some m.cls := findClass_of_methodNamed Bd.named
  have hnm := (name_of_methodNamed Bd.named Bd.method).1
  have X0 : Stand p l e ({ frames := 0, cells := 0, slots := 0, locals := 0 } : Room) s m #[(.ref ax)] below meth c s₁ [] 0 0 := Stand.of_body Bd
  have e0 : s₁.heap = h0 := by rw [← hh, Bd.state]; rfl
  have N0 := Fr.nil n0
  refine own_pre (A := (s₁.setTop (mkF m 0 #[.val (.ref ax)] []))) (fun t k => castTop (own_ef4 m ax) k) ?_
  refine own_pre (A := (s₁.setTop (mkF m 1 #[.val (.ref ax)] [(.ref ax)]))) ?_ ?_
  · intro t k
    show Steps p.tables e below (s₁.setTop (mkF m 0 #[.val (.ref ax)] [])) _
    refine XS.aloadN X0.here hx rfl (hb hby d4_0) rfl rfl ?_
    exact k
  obtain ⟨T7, X7, e7, st7⟩ := getF X0 hx hZ hown (host := "") (Or.inl (own_w hw 17 rfl)) Via.refl e0 Fl (g := (mkF m 1 #[.val (.ref ax)] [(.ref ax)])) rfl rfl (hb hby d4_1)
  refine own_pre (fun t k => st7 t k) ?_
  obtain ⟨fs, hr, hrun, hended, hW, hsame⟩ := X7.leave (v := some (.int pl)) (fun h => by rw [Bd.returns] at h; cases h)
  refine ⟨_, _, retOut X7 hx Bd.returns rfl (Or.inl ⟨rfl, Or.inl rfl, _, rfl⟩) (hb hby d4_4) hr, hrun, hended, _, _, rfl, ?_, ⟨_, rfl⟩, hW, hsame.mono (by decide) (by decide)⟩
  show own_Q4 Z ax pl h0 n0 _ T7.heap _
  rw [e7]
  exact ⟨N0, rfl, rfl⟩
theorem own_15 (x : Int32) : 0 ≤ (x &&& (15 : Int32)).toInt ∧ (x &&& (15 : Int32)).toInt ≤ 15 := c_and x (15 : Int32) (by decide)
theorem own_nn (x : Int32) : ¬ (x &&& (15 : Int32)) < 0 := by
  have := own_15 x
  rw [Int32.lt_iff_toInt_lt]; have z : (0 : Int32).toInt = 0 := by decide
  omega
theorem own_cap (x : Int32) : (x &&& (15 : Int32)).toNatClampNeg ≤ 15 := by
  have := own_15 x
  show (x &&& (15 : Int32)).toInt.toNat ≤ 15
  omega
theorem own_last (n : Int32) (h : (1 : Int32) < n) : ¬ (n - (1 : Int32)) < 0 ∧ (n - (1 : Int32)) < n := by
  have h1 := c_isub n (1 : Int32)
  have r1 := rng32 n
  have r2 := rng32 (n - (1 : Int32))
  have z : (0 : Int32).toInt = 0 := by decide
  have o : (1 : Int32).toInt = 1 := by decide
  rw [Int32.lt_iff_toInt_lt] at h
  simp only [Int32.lt_iff_toInt_lt, z]
  rw [o] at h h1
  omega
theorem own_pn0 : plainName "com/example/otito/otito/measure/LogReaderHasMorePinLaw" = true := by first | (simp [plainName, overriddenIn]; done) | decide +kernel
theorem own_ef0 (m : MethodId) (x0 : Int32) (x1 : Int32) (x2 : Int32) : entryFrame m #[(.int x0), (.int x1), (.int x2)] maxLocals = mkF m 0 #[.val (.int x0), .val (.int x1), .val (.int x2), .unset, .unset, .unset, .unset, .unset] [] := by first | (simp [entryFrame, mkF, argsToLocals, Value.category, maxLocals]; done) | rfl
def own_Q0 (h0 : Heap) (n0 : Nat) (v : Option Value) (h : Heap) (L : List Loc) : Prop := v = some (.int (1 : Int32)) ∧ Fr n0 L
set_option maxRecDepth 65536 in
set_option maxHeartbeats 40000000 in
theorem rm0 (l : Launch) (Z : State) (a0 : Array Value) (hw : ∀ d ∈ tables_1, d.before a0 Z = true) (ws : List Jvm.Cond) (p0 : Int32) (p1 : Int32) (p2 : Int32) (h0 : Heap) (n0 : Nat) (Z0 : n0 ≤ h0.size) :
    MetFree l x (head1 (Jvm.Cond.code x code maxLocals ret :: ws) room_1) (fun a U => a = #[(.int p0), (.int p1), (.int p2)] ∧ Z.Warmed39 U.vm ∧ U.heap = h0) (fun _ _ _ _ _ => True) (fun _ U o U' => ∃ v L, o = .returned v ∧ own_Q0  h0 n0 v U'.heap L ∧ FrameEnd U o U' L room_1.cells room_1.slots) := by
  refine MetFree.of_bodySF (plainFor_of_name own_pn0) hisR ?_
  intro p e s m args below meth c s₁ Bd hml0 hP hK
  obtain ⟨rfl, hZ, hh⟩ := hP
  have hx := Bd.exec
  have hby := Bd.bytes
  have hml : c.maxLocals = 8 := hml0
  have hown : s.vm.findClass "com/example/otito/otito/measure/LogReaderHasMorePinLaw" = some m.cls := findClass_of_methodNamed Bd.named
  have hnm := (name_of_methodNamed Bd.named Bd.method).1
  have X0 : Stand p l e room_1 s m #[(.int p0), (.int p1), (.int p2)] below meth c s₁ [] 0 0 := Stand.of_body Bd
  have e0 : s₁.heap = h0 := by rw [← hh, Bd.state]; rfl
  have N0 := Fr.nil n0
  refine own_pre (A := (s₁.setTop (mkF m 0 #[.val (.int p0), .val (.int p1), .val (.int p2), .unset, .unset, .unset, .unset, .unset] []))) (fun t k => castTop (own_ef0 m p0 p1 p2) k) ?_
  refine own_pre (A := (s₁.setTop (mkF m 5 #[.val (.int p0), .val (.int p1), .val (.int p2), .val (.int (p0 &&& (15 : Int32))), .unset, .unset, .unset, .unset] []))) ?_ ?_
  · intro t k
    show Steps p.tables e below (s₁.setTop (mkF m 0 #[.val (.int p0), .val (.int p1), .val (.int p2), .unset, .unset, .unset, .unset, .unset] [])) _
    refine XS.iloadN X0.here hx rfl (hb hby at_0) rfl ?_
    show Steps p.tables e below (s₁.setTop (mkF m 1 #[.val (.int p0), .val (.int p1), .val (.int p2), .unset, .unset, .unset, .unset, .unset] [(.int p0)])) _
    refine XS.bipush X0.here hx rfl (hb hby at_1) ?_
    show Steps p.tables e below (s₁.setTop (mkF m 3 #[.val (.int p0), .val (.int p1), .val (.int p2), .unset, .unset, .unset, .unset, .unset] [(.int (15 : Int32)), (.int p0)])) _
    refine XS.iand X0.here hx rfl (hb hby at_3) rfl ?_
    show Steps p.tables e below (s₁.setTop (mkF m 4 #[.val (.int p0), .val (.int p1), .val (.int p2), .unset, .unset, .unset, .unset, .unset] [(.int (p0 &&& (15 : Int32)))])) _
    refine XS.istoreN X0.here hx rfl (hb hby at_4) rfl (l' := #[.val (.int p0), .val (.int p1), .val (.int p2), .val (.int (p0 &&& (15 : Int32))), .unset, .unset, .unset, .unset]) rfl ?_
    exact k
  obtain ⟨pn, hpn⟩ : ∃ z : Int32, z = (p0 &&& (15 : Int32)) := ⟨_, rfl⟩
  rw [← hpn]
  have nn : ¬ pn < 0 := by rw [hpn]; exact own_nn _
  have nc : pn.toNatClampNeg ≤ 15 := by rw [hpn]; exact own_cap _
  refine own_pre (A := (s₁.setTop (mkF m 6 #[.val (.int p0), .val (.int p1), .val (.int p2), .val (.int pn), .unset, .unset, .unset, .unset] [(.int pn)]))) ?_ ?_
  · intro t k
    show Steps p.tables e below (s₁.setTop (mkF m 5 #[.val (.int p0), .val (.int p1), .val (.int p2), .val (.int pn), .unset, .unset, .unset, .unset] [])) _
    refine XS.iloadN X0.here hx rfl (hb hby at_5) rfl ?_
    exact k
  obtain ⟨T8, h8, k8, X8, e8, E8, A8, st8⟩ := newP X0 hx hZ (own_w hw 0 rfl) e0 (g := (mkF m 6 #[.val (.int p0), .val (.int p1), .val (.int p2), .val (.int pn), .unset, .unset, .unset, .unset] [(.int pn)])) rfl (hb hby at_6) rfl nn (cap := 15) nc (by decide) (by decide) (by decide)
  obtain ⟨b8, g8⟩ : ∃ z, z = h0.size := ⟨_, rfl⟩
  rw [← g8] at A8 st8
  have gn_b8 : n0 ≤ b8 := Nat.le_trans Z0 (Nat.le_of_eq g8.symm)
  have Zs8 : n0 ≤ h8.size := Nat.le_trans Z0 E8.1
  have Kc8 : Keep h0 h8 [] := (Keep.refl h0 []).ext E8
  have V8 : own_Al Z h8 b8 .byte pn := ⟨_, A8, sz_new _ _ _, nn⟩
  refine own_pre (fun t k => st8 t k) ?_
  refine own_pre (A := (T8.setTop (mkF m 11 #[.val (.int p0), .val (.int p1), .val (.int p2), .val (.int pn), .val (.ref b8), .unset, .unset, .unset] [(.int pn)]))) ?_ ?_
  · intro t k
    show Steps p.tables e below (T8.setTop (mkF m 8 #[.val (.int p0), .val (.int p1), .val (.int p2), .val (.int pn), .unset, .unset, .unset, .unset] [(.ref b8)])) _
    refine XS.astore X8.here hx rfl (hb hby at_8) rfl rfl (l' := #[.val (.int p0), .val (.int p1), .val (.int p2), .val (.int pn), .val (.ref b8), .unset, .unset, .unset]) rfl ?_
    show Steps p.tables e below (T8.setTop (mkF m 10 #[.val (.int p0), .val (.int p1), .val (.int p2), .val (.int pn), .val (.ref b8), .unset, .unset, .unset] [])) _
    refine XS.iloadN X8.here hx rfl (hb hby at_10) rfl ?_
    exact k
  by_cases hc9 : (0 : Int32) < pn
  · skip
    refine own_pre (A := (T8.setTop (mkF m 14 #[.val (.int p0), .val (.int p1), .val (.int p2), .val (.int pn), .val (.ref b8), .unset, .unset, .unset] []))) ?_ ?_
    · intro t k
      refine XS.ifNo X8.here hx rfl (hb hby at_11) rfl ((if0 _ _).trans (tlt hc9).2.2.2) ?_
      exact k
    refine own_pre (A := (T8.setTop (mkF m 19 #[.val (.int p0), .val (.int p1), .val (.int p2), .val (.int pn), .val (.ref b8), .unset, .unset, .unset] [(.int (p1.toInt8.toInt32)), (.int (0 : Int32)), (.ref b8)]))) ?_ ?_
    · intro t k
      show Steps p.tables e below (T8.setTop (mkF m 14 #[.val (.int p0), .val (.int p1), .val (.int p2), .val (.int pn), .val (.ref b8), .unset, .unset, .unset] [])) _
      refine XS.aload X8.here hx rfl (hb hby at_14) rfl rfl ?_
      show Steps p.tables e below (T8.setTop (mkF m 16 #[.val (.int p0), .val (.int p1), .val (.int p2), .val (.int pn), .val (.ref b8), .unset, .unset, .unset] [(.ref b8)])) _
      refine XS.iconst X8.here hx rfl (hb hby at_16) ?_
      show Steps p.tables e below (T8.setTop (mkF m 17 #[.val (.int p0), .val (.int p1), .val (.int p2), .val (.int pn), .val (.ref b8), .unset, .unset, .unset] [(.int (0 : Int32)), (.ref b8)])) _
      refine XS.iloadN X8.here hx rfl (hb hby at_17) rfl ?_
      show Steps p.tables e below (T8.setTop (mkF m 18 #[.val (.int p0), .val (.int p1), .val (.int p2), .val (.int pn), .val (.ref b8), .unset, .unset, .unset] [(.int p1), (.int (0 : Int32)), (.ref b8)])) _
      refine XS.i2b X8.here hx rfl (hb hby at_18) rfl ?_
      exact k
    obtain ⟨cl10, Ar10, S10, N10⟩ := V8
    have hin10 : ¬ ((0 : Int32) < 0 ∨ cl10.slots.size ≤ ((0 : Int32)).toNatClampNeg) := inb_of S10 ⟨by decide, hc9⟩
    obtain ⟨T10, h10, X10, e10, W10, st10⟩ := stB X8 hx hZ e8 Ar10 (j := (0 : Int32)) hin10 (g := (mkF m 19 #[.val (.int p0), .val (.int p1), .val (.int p2), .val (.int pn), .val (.ref b8), .unset, .unset, .unset] [(.int (p1.toInt8.toInt32)), (.int (0 : Int32)), (.ref b8)])) rfl rfl (hb hby at_19)
    have V10 : own_Al Z h10 b8 .byte pn := ⟨_, Ar10.same W10, (sz_set _ _ _).trans S10, N10⟩
    have Zs10 : n0 ≤ h10.size := Nat.le_trans Zs8 (Keep.of_wr W10).1
    have N10 := Fr.snoc X10 N0 gn_b8
    refine own_pre (fun t k => st10 t k) ?_
    refine own_pre (A := (T10.setTop (mkF m 22 #[.val (.int p0), .val (.int p1), .val (.int p2), .val (.int pn), .val (.ref b8), .unset, .unset, .unset] [(.int (1 : Int32)), (.int pn)]))) ?_ ?_
    · intro t k
      show Steps p.tables e below (T10.setTop (mkF m 20 #[.val (.int p0), .val (.int p1), .val (.int p2), .val (.int pn), .val (.ref b8), .unset, .unset, .unset] [])) _
      refine XS.iloadN X10.here hx rfl (hb hby at_20) rfl ?_
      show Steps p.tables e below (T10.setTop (mkF m 21 #[.val (.int p0), .val (.int p1), .val (.int p2), .val (.int pn), .val (.ref b8), .unset, .unset, .unset] [(.int pn)])) _
      refine XS.iconst X10.here hx rfl (hb hby at_21) ?_
      exact k
    by_cases hc11 : (1 : Int32) < pn
    · skip
      refine own_pre (A := (T10.setTop (mkF m 25 #[.val (.int p0), .val (.int p1), .val (.int p2), .val (.int pn), .val (.ref b8), .unset, .unset, .unset] []))) ?_ ?_
      · intro t k
        refine XS.icmpNo X10.here hx rfl (hb hby at_22) rfl (tlt hc11).2.2.2 ?_
        exact k
      refine own_pre (A := (T10.setTop (mkF m 32 #[.val (.int p0), .val (.int p1), .val (.int p2), .val (.int pn), .val (.ref b8), .unset, .unset, .unset] [(.int (p2.toInt8.toInt32)), (.int (pn - (1 : Int32))), (.ref b8)]))) ?_ ?_
      · intro t k
        show Steps p.tables e below (T10.setTop (mkF m 25 #[.val (.int p0), .val (.int p1), .val (.int p2), .val (.int pn), .val (.ref b8), .unset, .unset, .unset] [])) _
        refine XS.aload X10.here hx rfl (hb hby at_25) rfl rfl ?_
        show Steps p.tables e below (T10.setTop (mkF m 27 #[.val (.int p0), .val (.int p1), .val (.int p2), .val (.int pn), .val (.ref b8), .unset, .unset, .unset] [(.ref b8)])) _
        refine XS.iloadN X10.here hx rfl (hb hby at_27) rfl ?_
        show Steps p.tables e below (T10.setTop (mkF m 28 #[.val (.int p0), .val (.int p1), .val (.int p2), .val (.int pn), .val (.ref b8), .unset, .unset, .unset] [(.int pn), (.ref b8)])) _
        refine XS.iconst X10.here hx rfl (hb hby at_28) ?_
        show Steps p.tables e below (T10.setTop (mkF m 29 #[.val (.int p0), .val (.int p1), .val (.int p2), .val (.int pn), .val (.ref b8), .unset, .unset, .unset] [(.int (1 : Int32)), (.int pn), (.ref b8)])) _
        refine XS.isub X10.here hx rfl (hb hby at_29) rfl ?_
        show Steps p.tables e below (T10.setTop (mkF m 30 #[.val (.int p0), .val (.int p1), .val (.int p2), .val (.int pn), .val (.ref b8), .unset, .unset, .unset] [(.int (pn - (1 : Int32))), (.ref b8)])) _
        refine XS.iloadN X10.here hx rfl (hb hby at_30) rfl ?_
        show Steps p.tables e below (T10.setTop (mkF m 31 #[.val (.int p0), .val (.int p1), .val (.int p2), .val (.int pn), .val (.ref b8), .unset, .unset, .unset] [(.int p2), (.int (pn - (1 : Int32))), (.ref b8)])) _
        refine XS.i2b X10.here hx rfl (hb hby at_31) rfl ?_
        exact k
      obtain ⟨cl12, Ar12, S12, N12⟩ := V10
      have hin12 : ¬ ((pn - (1 : Int32)) < 0 ∨ cl12.slots.size ≤ ((pn - (1 : Int32))).toNatClampNeg) := inb_of S12 (own_last pn hc11)
      obtain ⟨T12, h12, X12, e12, W12, st12⟩ := stB X10 hx hZ e10 Ar12 (j := (pn - (1 : Int32))) hin12 (g := (mkF m 32 #[.val (.int p0), .val (.int p1), .val (.int p2), .val (.int pn), .val (.ref b8), .unset, .unset, .unset] [(.int (p2.toInt8.toInt32)), (.int (pn - (1 : Int32))), (.ref b8)])) rfl rfl (hb hby at_32)
      have V12 : own_Al Z h12 b8 .byte pn := ⟨_, Ar12.same W12, (sz_set _ _ _).trans S12, N12⟩
      have Zs12 : n0 ≤ h12.size := Nat.le_trans Zs10 (Keep.of_wr W12).1
      have N12 := Fr.snoc X12 N10 gn_b8
      refine own_pre (fun t k => st12 t k) ?_
      obtain ⟨T13, h13, X13, e13, E13, A13, D13, -, st13⟩ := newO X12 hx hZ hown (own_w hw 1 rfl) (own_w hw 2 rfl) (own_w hw 3 rfl) e12 (g := (mkF m 33 #[.val (.int p0), .val (.int p1), .val (.int p2), .val (.int pn), .val (.ref b8), .unset, .unset, .unset] [])) rfl (hb hby at_33) (by decide) (by decide)
      obtain ⟨b13, g13⟩ : ∃ z, z = h12.size := ⟨_, rfl⟩
      rw [← g13] at A13 D13 st13
      have ne_b8_b13 : b8 ≠ b13 := Nat.ne_of_lt (Nat.lt_of_lt_of_le V12.lt (Nat.le_of_eq g13.symm))
      have gn_b13 : n0 ≤ b13 := Nat.le_trans Zs12 (Nat.le_of_eq g13.symm)
      have V12_13 := V12.ext E13
      have Zs13 : n0 ≤ h13.size := Nat.le_trans Zs12 E13.1
      have F13_bytes : Fld Z h13 b13 "com/example/otito/otito/measure/LogReader" "bytes" "[B" .null := D13 (Or.inr (own_w hw 11 rfl)) (ty := (.array .byte)) (by decide)
      have F13_length : Fld Z h13 b13 "com/example/otito/otito/measure/LogReader" "length" "I" (.int (0 : Int32)) := D13 (Or.inl (own_w hw 18 rfl)) (ty := .int) (by decide)
      refine own_pre (fun t k => st13 t k) ?_
      refine own_pre (A := (T13.setTop (mkF m 39 #[.val (.int p0), .val (.int p1), .val (.int p2), .val (.int pn), .val (.ref b8), .unset, .unset, .unset] [(.ref b8), (.ref b13), (.ref b13)]))) ?_ ?_
      · intro t k
        show Steps p.tables e below (T13.setTop (mkF m 36 #[.val (.int p0), .val (.int p1), .val (.int p2), .val (.int pn), .val (.ref b8), .unset, .unset, .unset] [(.ref b13)])) _
        refine XS.dup X13.here hx rfl (hb hby at_36) rfl rfl ?_
        show Steps p.tables e below (T13.setTop (mkF m 37 #[.val (.int p0), .val (.int p1), .val (.int p2), .val (.int pn), .val (.ref b8), .unset, .unset, .unset] [(.ref b13), (.ref b13)])) _
        refine XS.aload X13.here hx rfl (hb hby at_37) rfl rfl ?_
        exact k
      obtain ⟨_, _, ⟨T14, L14, k14, n14⟩, -, X14, ⟨Lc14, hQ14, l14, y14, z14⟩, st14⟩ := X13.specialBack hx (y := (⟨"com/example/otito/otito/measure/LogReader", "<init>", "([B)V"⟩ : MethodName)) rfl hown (mvT hZ (own_w hw 4 rfl)) (mvT hZ (own_w hw 5 rfl)) (mvT hZ (own_w hw 6 rfl)) (by decide) (backOf (W := 1) (rm1 l Z a0 hw [] b13 b8 h13 n0 Zs13 A13 F13_bytes F13_length gn_b13) hZ (own_w hw 6 rfl) (own_w hw 3 rfl) (by decide) (by decide)) (g := (mkF m 39 #[.val (.int p0), .val (.int p1), .val (.int p2), .val (.int pn), .val (.ref b8), .unset, .unset, .unset] [(.ref b8), (.ref b13), (.ref b13)])) rfl (by rw [hml]; rfl) (Steps.refl _) (a := b13) (argsL := [(.ref b8)]) (rest := [(.ref b13)]) (lenOf own_pd0 rfl) rfl (by show 2 * 0 + _ ≤ _; exact Nat.le_of_eq rfl) (hb hby at_39) (fun _ _ => ⟨rfl, e13, (by decide : 2 + 0 ≤ _), (by decide : 17 + 0 ≤ _)⟩)
      dsimp only [Pt.U, Pt.locs, Pt.cells, Pt.slots] at X14 l14 y14 z14 st14 hQ14
      subst l14 y14 z14
      obtain ⟨rfl, Nq14, Kq14, Fb14, Fl14⟩ := hQ14
      have N14 := Fr.app N12 Nq14
      refine own_pre (fun t k => st14.trans k) ?_
      have V12_14 := V12_13.keep Kq14 (ninS ne_b8_b13 nin0)
      have A13_14 := A13.keep Kq14
      have Zs14 : n0 ≤ T14.heap.size := Nat.le_trans Zs13 Kq14.1
      refine own_pre (A := (T14.setTop (mkF m 46 #[.val (.int p0), .val (.int p1), .val (.int p2), .val (.int pn), .val (.ref b8), .val (.ref b13), .unset, .unset] [(.ref b13)]))) ?_ ?_
      · intro t k
        show Steps p.tables e below (T14.setTop (mkF m 42 #[.val (.int p0), .val (.int p1), .val (.int p2), .val (.int pn), .val (.ref b8), .unset, .unset, .unset] [(.ref b13)])) _
        refine XS.astore X14.here hx rfl (hb hby at_42) rfl rfl (l' := #[.val (.int p0), .val (.int p1), .val (.int p2), .val (.int pn), .val (.ref b8), .val (.ref b13), .unset, .unset]) rfl ?_
        show Steps p.tables e below (T14.setTop (mkF m 44 #[.val (.int p0), .val (.int p1), .val (.int p2), .val (.int pn), .val (.ref b8), .val (.ref b13), .unset, .unset] [])) _
        refine XS.aload X14.here hx rfl (hb hby at_44) rfl rfl ?_
        exact k
      obtain ⟨cq15, kq15, q15a, q15b, q15c⟩ := isOf hZ rfl A13_14
      obtain ⟨_, _, ⟨T15, L15, k15, n15⟩, -, X15, ⟨Lc15, hQ15, l15, y15, z15⟩, st15⟩ := X14.virtualBack hx (y := (⟨"com/example/otito/otito/measure/LogReader", "hasMore", "()Z"⟩ : MethodName)) (z := (⟨"com/example/otito/otito/measure/LogReader", "hasMore", "()Z"⟩ : MethodName)) hown (mvT hZ (own_w hw 12 rfl)) (mvT hZ (own_w hw 13 rfl)) (notFace_of_selects (args := #[]) (mvT hZ (own_w hw 15 rfl))) (mvT hZ (own_w hw 15 rfl)) (mvT hZ (own_w hw 14 rfl)) (by decide) (backOf (W := 0) (rm3 l Z a0 hw [] b13 b8 (0 : Int32) pn T14.heap n0 Zs14 Fb14 Fl14 V12_14) hZ (own_w hw 16 rfl) (own_w hw 3 rfl) (by decide) (by decide)) q15a q15c (g := (mkF m 46 #[.val (.int p0), .val (.int p1), .val (.int p2), .val (.int pn), .val (.ref b8), .val (.ref b13), .unset, .unset] [(.ref b13)])) rfl (by rw [hml]; rfl) (Steps.refl _) (argsL := []) (rest := []) (lenOf own_pd1 rfl) rfl (by show 2 * 0 + _ ≤ _; exact Nat.le_of_eq rfl) (hb hby at_46) (fun _ _ => ⟨rfl, rfl, (by decide : 2 + 0 ≤ _), (by decide : 17 + 0 ≤ _)⟩)
      dsimp only [Pt.U, Pt.locs, Pt.cells, Pt.slots] at X15 l15 y15 z15 st15 hQ15
      subst l15 y15 z15
      obtain ⟨rfl, Nq15, eq15⟩ := hQ15
      have N15 := Fr.app N14 Nq15
      refine own_pre (fun t k => st15.trans k) ?_
      refine own_pre (A := (T15.setTop (mkF m 53 #[.val (.int p0), .val (.int p1), .val (.int p2), .val (.int pn), .val (.ref b8), .val (.ref b13), .val (.int (own_hm (0 : Int32) pn)), .unset] [(.ref b13)]))) ?_ ?_
      · intro t k
        show Steps p.tables e below (T15.setTop (mkF m 49 #[.val (.int p0), .val (.int p1), .val (.int p2), .val (.int pn), .val (.ref b8), .val (.ref b13), .unset, .unset] [(.int (own_hm (0 : Int32) pn))])) _
        refine XS.istore X15.here hx rfl (hb hby at_49) rfl (l' := #[.val (.int p0), .val (.int p1), .val (.int p2), .val (.int pn), .val (.ref b8), .val (.ref b13), .val (.int (own_hm (0 : Int32) pn)), .unset]) rfl ?_
        show Steps p.tables e below (T15.setTop (mkF m 51 #[.val (.int p0), .val (.int p1), .val (.int p2), .val (.int pn), .val (.ref b8), .val (.ref b13), .val (.int (own_hm (0 : Int32) pn)), .unset] [])) _
        refine XS.aload X15.here hx rfl (hb hby at_51) rfl rfl ?_
        exact k
      obtain ⟨cq16, kq16, q16a, q16b, q16c⟩ := isOf hZ eq15 A13_14
      obtain ⟨_, _, ⟨T16, L16, k16, n16⟩, -, X16, ⟨Lc16, hQ16, l16, y16, z16⟩, st16⟩ := X15.virtualBack hx (y := (⟨"com/example/otito/otito/measure/LogReader", "hasMore", "()Z"⟩ : MethodName)) (z := (⟨"com/example/otito/otito/measure/LogReader", "hasMore", "()Z"⟩ : MethodName)) hown (mvT hZ (own_w hw 12 rfl)) (mvT hZ (own_w hw 13 rfl)) (notFace_of_selects (args := #[]) (mvT hZ (own_w hw 15 rfl))) (mvT hZ (own_w hw 15 rfl)) (mvT hZ (own_w hw 14 rfl)) (by decide) (backOf (W := 0) (rm3 l Z a0 hw [] b13 b8 (0 : Int32) pn T14.heap n0 Zs14 Fb14 Fl14 V12_14) hZ (own_w hw 16 rfl) (own_w hw 3 rfl) (by decide) (by decide)) q16a q16c (g := (mkF m 53 #[.val (.int p0), .val (.int p1), .val (.int p2), .val (.int pn), .val (.ref b8), .val (.ref b13), .val (.int (own_hm (0 : Int32) pn)), .unset] [(.ref b13)])) rfl (by rw [hml]; rfl) (Steps.refl _) (argsL := []) (rest := []) (lenOf own_pd1 rfl) rfl (by show 2 * 0 + _ ≤ _; exact Nat.le_of_eq rfl) (hb hby at_53) (fun _ _ => ⟨rfl, eq15, (by decide : 2 + 0 ≤ _), (by decide : 17 + 0 ≤ _)⟩)
      dsimp only [Pt.U, Pt.locs, Pt.cells, Pt.slots] at X16 l16 y16 z16 st16 hQ16
      subst l16 y16 z16
      obtain ⟨rfl, Nq16, eq16⟩ := hQ16
      have N16 := Fr.app N15 Nq16
      refine own_pre (fun t k => st16.trans k) ?_
      refine own_pre (A := (T16.setTop (mkF m 81 #[.val (.int p0), .val (.int p1), .val (.int p2), .val (.int pn), .val (.ref b8), .val (.ref b13), .val (.int (own_hm (0 : Int32) pn)), .val (.int (own_hm (0 : Int32) pn))] [(.ref b13)]))) ?_ ?_
      · intro t k
        show Steps p.tables e below (T16.setTop (mkF m 56 #[.val (.int p0), .val (.int p1), .val (.int p2), .val (.int pn), .val (.ref b8), .val (.ref b13), .val (.int (own_hm (0 : Int32) pn)), .unset] [(.int (own_hm (0 : Int32) pn))])) _
        refine XS.istore X16.here hx rfl (hb hby at_56) rfl (l' := #[.val (.int p0), .val (.int p1), .val (.int p2), .val (.int pn), .val (.ref b8), .val (.ref b13), .val (.int (own_hm (0 : Int32) pn)), .val (.int (own_hm (0 : Int32) pn))]) rfl ?_
        show Steps p.tables e below (T16.setTop (mkF m 58 #[.val (.int p0), .val (.int p1), .val (.int p2), .val (.int pn), .val (.ref b8), .val (.ref b13), .val (.int (own_hm (0 : Int32) pn)), .val (.int (own_hm (0 : Int32) pn))] [])) _
        refine XS.iload X16.here hx rfl (hb hby at_58) rfl ?_
        show Steps p.tables e below (T16.setTop (mkF m 60 #[.val (.int p0), .val (.int p1), .val (.int p2), .val (.int pn), .val (.ref b8), .val (.ref b13), .val (.int (own_hm (0 : Int32) pn)), .val (.int (own_hm (0 : Int32) pn))] [(.int (own_hm (0 : Int32) pn))])) _
        refine XS.iloadN X16.here hx rfl (hb hby at_60) rfl ?_
        show Steps p.tables e below (T16.setTop (mkF m 61 #[.val (.int p0), .val (.int p1), .val (.int p2), .val (.int pn), .val (.ref b8), .val (.ref b13), .val (.int (own_hm (0 : Int32) pn)), .val (.int (own_hm (0 : Int32) pn))] [(.int pn), (.int (own_hm (0 : Int32) pn))])) _
        refine XS.ifNo X16.here hx rfl (hb hby at_61) rfl ((if0 _ _).trans (tlt hc9).2.2.2) ?_
        show Steps p.tables e below (T16.setTop (mkF m 64 #[.val (.int p0), .val (.int p1), .val (.int p2), .val (.int pn), .val (.ref b8), .val (.ref b13), .val (.int (own_hm (0 : Int32) pn)), .val (.int (own_hm (0 : Int32) pn))] [(.int (own_hm (0 : Int32) pn))])) _
        refine XS.iconst X16.here hx rfl (hb hby at_64) ?_
        show Steps p.tables e below (T16.setTop (mkF m 65 #[.val (.int p0), .val (.int p1), .val (.int p2), .val (.int pn), .val (.ref b8), .val (.ref b13), .val (.int (own_hm (0 : Int32) pn)), .val (.int (own_hm (0 : Int32) pn))] [(.int (1 : Int32)), (.int (own_hm (0 : Int32) pn))])) _
        refine XS.goto X16.here hx rfl (pc0 := 65) (pc' := 69) rfl (hb hby at_65) (by decide) (by decide) ?_
        show Steps p.tables e below (T16.setTop (mkF m 69 #[.val (.int p0), .val (.int p1), .val (.int p2), .val (.int pn), .val (.ref b8), .val (.ref b13), .val (.int (own_hm (0 : Int32) pn)), .val (.int (own_hm (0 : Int32) pn))] [(.int (1 : Int32)), (.int (own_hm (0 : Int32) pn))])) _
        refine XS.icmpNo X16.here hx rfl (hb hby at_69) rfl (teq (if_pos hc9 : (own_hm (0 : Int32) pn) = (1 : Int32))).2 ?_
        show Steps p.tables e below (T16.setTop (mkF m 72 #[.val (.int p0), .val (.int p1), .val (.int p2), .val (.int pn), .val (.ref b8), .val (.ref b13), .val (.int (own_hm (0 : Int32) pn)), .val (.int (own_hm (0 : Int32) pn))] [])) _
        refine XS.iload X16.here hx rfl (hb hby at_72) rfl ?_
        show Steps p.tables e below (T16.setTop (mkF m 74 #[.val (.int p0), .val (.int p1), .val (.int p2), .val (.int pn), .val (.ref b8), .val (.ref b13), .val (.int (own_hm (0 : Int32) pn)), .val (.int (own_hm (0 : Int32) pn))] [(.int (own_hm (0 : Int32) pn))])) _
        refine XS.iload X16.here hx rfl (hb hby at_74) rfl ?_
        show Steps p.tables e below (T16.setTop (mkF m 76 #[.val (.int p0), .val (.int p1), .val (.int p2), .val (.int pn), .val (.ref b8), .val (.ref b13), .val (.int (own_hm (0 : Int32) pn)), .val (.int (own_hm (0 : Int32) pn))] [(.int (own_hm (0 : Int32) pn)), (.int (own_hm (0 : Int32) pn))])) _
        refine XS.icmpNo X16.here hx rfl (hb hby at_76) rfl (teq (rfl : (own_hm (0 : Int32) pn) = (own_hm (0 : Int32) pn))).2 ?_
        show Steps p.tables e below (T16.setTop (mkF m 79 #[.val (.int p0), .val (.int p1), .val (.int p2), .val (.int pn), .val (.ref b8), .val (.ref b13), .val (.int (own_hm (0 : Int32) pn)), .val (.int (own_hm (0 : Int32) pn))] [])) _
        refine XS.aload X16.here hx rfl (hb hby at_79) rfl rfl ?_
        exact k
      obtain ⟨cq17, kq17, q17a, q17b, q17c⟩ := isOf hZ eq16 A13_14
      obtain ⟨_, _, ⟨T17, L17, k17, n17⟩, -, X17, ⟨Lc17, hQ17, l17, y17, z17⟩, st17⟩ := X16.virtualBack hx (y := (⟨"com/example/otito/otito/measure/LogReader", "length", "()I"⟩ : MethodName)) (z := (⟨"com/example/otito/otito/measure/LogReader", "length", "()I"⟩ : MethodName)) hown (mvT hZ (own_w hw 19 rfl)) (mvT hZ (own_w hw 20 rfl)) (notFace_of_selects (args := #[]) (mvT hZ (own_w hw 22 rfl))) (mvT hZ (own_w hw 22 rfl)) (mvT hZ (own_w hw 21 rfl)) (by decide) (backOf (W := 0) (rm4 l Z a0 hw [] b13 (0 : Int32) T14.heap n0 Zs14 Fl14) hZ (own_w hw 23 rfl) (own_w hw 3 rfl) (by decide) (by decide)) q17a q17c (g := (mkF m 81 #[.val (.int p0), .val (.int p1), .val (.int p2), .val (.int pn), .val (.ref b8), .val (.ref b13), .val (.int (own_hm (0 : Int32) pn)), .val (.int (own_hm (0 : Int32) pn))] [(.ref b13)])) rfl (by rw [hml]; rfl) (Steps.refl _) (argsL := []) (rest := []) (lenOf own_pd2 rfl) rfl (by show 2 * 0 + _ ≤ _; exact Nat.le_of_eq rfl) (hb hby at_81) (fun _ _ => ⟨rfl, eq16, (by decide : 2 + 0 ≤ _), (by decide : 17 + 0 ≤ _)⟩)
      dsimp only [Pt.U, Pt.locs, Pt.cells, Pt.slots] at X17 l17 y17 z17 st17 hQ17
      subst l17 y17 z17
      obtain ⟨Nq17, rfl, eq17⟩ := hQ17
      have N17 := Fr.app N16 Nq17
      refine own_pre (fun t k => st17.trans k) ?_
      refine own_pre (A := (T17.setTop (mkF m 92 #[.val (.int p0), .val (.int p1), .val (.int p2), .val (.int pn), .val (.ref b8), .val (.ref b13), .val (.int (own_hm (0 : Int32) pn)), .val (.int (own_hm (0 : Int32) pn))] [(.int (1 : Int32))]))) ?_ ?_
      · intro t k
        show Steps p.tables e below (T17.setTop (mkF m 84 #[.val (.int p0), .val (.int p1), .val (.int p2), .val (.int pn), .val (.ref b8), .val (.ref b13), .val (.int (own_hm (0 : Int32) pn)), .val (.int (own_hm (0 : Int32) pn))] [(.int (0 : Int32))])) _
        refine XS.ifNo X17.here hx rfl (hb hby at_84) rfl ((if0 _ _).trans (teq (by decide : (0 : Int32) = (0 : Int32))).2) ?_
        show Steps p.tables e below (T17.setTop (mkF m 87 #[.val (.int p0), .val (.int p1), .val (.int p2), .val (.int pn), .val (.ref b8), .val (.ref b13), .val (.int (own_hm (0 : Int32) pn)), .val (.int (own_hm (0 : Int32) pn))] [])) _
        refine XS.iconst X17.here hx rfl (hb hby at_87) ?_
        show Steps p.tables e below (T17.setTop (mkF m 88 #[.val (.int p0), .val (.int p1), .val (.int p2), .val (.int pn), .val (.ref b8), .val (.ref b13), .val (.int (own_hm (0 : Int32) pn)), .val (.int (own_hm (0 : Int32) pn))] [(.int (1 : Int32))])) _
        refine XS.goto X17.here hx rfl (pc0 := 88) (pc' := 92) rfl (hb hby at_88) (by decide) (by decide) ?_
        exact k
      obtain ⟨fs, hr, hrun, hended, hW, hsame⟩ := X17.leave (v := some (.int (1 : Int32))) (fun h => by rw [Bd.returns] at h; cases h)
      refine ⟨_, _, retOut X17 hx Bd.returns rfl (Or.inl ⟨rfl, Or.inr (Or.inl rfl), _, rfl⟩) (hb hby at_92) hr, hrun, hended, _, _, rfl, ?_, ⟨_, rfl⟩, hW, hsame.mono (by decide) (by decide)⟩
      show own_Q0 h0 n0 _ T17.heap _
      rw [eq17]
      exact ⟨rfl, N17⟩
    · skip
      refine own_pre (A := (T10.setTop (mkF m 33 #[.val (.int p0), .val (.int p1), .val (.int p2), .val (.int pn), .val (.ref b8), .unset, .unset, .unset] []))) ?_ ?_
      · intro t k
        refine XS.icmpYes X10.here hx rfl (pc0 := 22) (pc' := 33) rfl (hb hby at_22) rfl (flt hc11).2.2.2 (by decide) (by decide) ?_
        exact k
      obtain ⟨T18, h18, X18, e18, E18, A18, D18, -, st18⟩ := newO X10 hx hZ hown (own_w hw 1 rfl) (own_w hw 2 rfl) (own_w hw 3 rfl) e10 (g := (mkF m 33 #[.val (.int p0), .val (.int p1), .val (.int p2), .val (.int pn), .val (.ref b8), .unset, .unset, .unset] [])) rfl (hb hby at_33) (by decide) (by decide)
      obtain ⟨b18, g18⟩ : ∃ z, z = h10.size := ⟨_, rfl⟩
      rw [← g18] at A18 D18 st18
      have ne_b8_b18 : b8 ≠ b18 := Nat.ne_of_lt (Nat.lt_of_lt_of_le V10.lt (Nat.le_of_eq g18.symm))
      have gn_b18 : n0 ≤ b18 := Nat.le_trans Zs10 (Nat.le_of_eq g18.symm)
      have V10_18 := V10.ext E18
      have Zs18 : n0 ≤ h18.size := Nat.le_trans Zs10 E18.1
      have F18_bytes : Fld Z h18 b18 "com/example/otito/otito/measure/LogReader" "bytes" "[B" .null := D18 (Or.inr (own_w hw 11 rfl)) (ty := (.array .byte)) (by decide)
      have F18_length : Fld Z h18 b18 "com/example/otito/otito/measure/LogReader" "length" "I" (.int (0 : Int32)) := D18 (Or.inl (own_w hw 18 rfl)) (ty := .int) (by decide)
      refine own_pre (fun t k => st18 t k) ?_
      refine own_pre (A := (T18.setTop (mkF m 39 #[.val (.int p0), .val (.int p1), .val (.int p2), .val (.int pn), .val (.ref b8), .unset, .unset, .unset] [(.ref b8), (.ref b18), (.ref b18)]))) ?_ ?_
      · intro t k
        show Steps p.tables e below (T18.setTop (mkF m 36 #[.val (.int p0), .val (.int p1), .val (.int p2), .val (.int pn), .val (.ref b8), .unset, .unset, .unset] [(.ref b18)])) _
        refine XS.dup X18.here hx rfl (hb hby at_36) rfl rfl ?_
        show Steps p.tables e below (T18.setTop (mkF m 37 #[.val (.int p0), .val (.int p1), .val (.int p2), .val (.int pn), .val (.ref b8), .unset, .unset, .unset] [(.ref b18), (.ref b18)])) _
        refine XS.aload X18.here hx rfl (hb hby at_37) rfl rfl ?_
        exact k
      obtain ⟨_, _, ⟨T19, L19, k19, n19⟩, -, X19, ⟨Lc19, hQ19, l19, y19, z19⟩, st19⟩ := X18.specialBack hx (y := (⟨"com/example/otito/otito/measure/LogReader", "<init>", "([B)V"⟩ : MethodName)) rfl hown (mvT hZ (own_w hw 4 rfl)) (mvT hZ (own_w hw 5 rfl)) (mvT hZ (own_w hw 6 rfl)) (by decide) (backOf (W := 1) (rm1 l Z a0 hw [] b18 b8 h18 n0 Zs18 A18 F18_bytes F18_length gn_b18) hZ (own_w hw 6 rfl) (own_w hw 3 rfl) (by decide) (by decide)) (g := (mkF m 39 #[.val (.int p0), .val (.int p1), .val (.int p2), .val (.int pn), .val (.ref b8), .unset, .unset, .unset] [(.ref b8), (.ref b18), (.ref b18)])) rfl (by rw [hml]; rfl) (Steps.refl _) (a := b18) (argsL := [(.ref b8)]) (rest := [(.ref b18)]) (lenOf own_pd0 rfl) rfl (by show 2 * 0 + _ ≤ _; exact Nat.le_of_eq rfl) (hb hby at_39) (fun _ _ => ⟨rfl, e18, (by decide : 2 + 0 ≤ _), (by decide : 17 + 0 ≤ _)⟩)
      dsimp only [Pt.U, Pt.locs, Pt.cells, Pt.slots] at X19 l19 y19 z19 st19 hQ19
      subst l19 y19 z19
      obtain ⟨rfl, Nq19, Kq19, Fb19, Fl19⟩ := hQ19
      have N19 := Fr.app N10 Nq19
      refine own_pre (fun t k => st19.trans k) ?_
      have V10_19 := V10_18.keep Kq19 (ninS ne_b8_b18 nin0)
      have A18_19 := A18.keep Kq19
      have Zs19 : n0 ≤ T19.heap.size := Nat.le_trans Zs18 Kq19.1
      refine own_pre (A := (T19.setTop (mkF m 46 #[.val (.int p0), .val (.int p1), .val (.int p2), .val (.int pn), .val (.ref b8), .val (.ref b18), .unset, .unset] [(.ref b18)]))) ?_ ?_
      · intro t k
        show Steps p.tables e below (T19.setTop (mkF m 42 #[.val (.int p0), .val (.int p1), .val (.int p2), .val (.int pn), .val (.ref b8), .unset, .unset, .unset] [(.ref b18)])) _
        refine XS.astore X19.here hx rfl (hb hby at_42) rfl rfl (l' := #[.val (.int p0), .val (.int p1), .val (.int p2), .val (.int pn), .val (.ref b8), .val (.ref b18), .unset, .unset]) rfl ?_
        show Steps p.tables e below (T19.setTop (mkF m 44 #[.val (.int p0), .val (.int p1), .val (.int p2), .val (.int pn), .val (.ref b8), .val (.ref b18), .unset, .unset] [])) _
        refine XS.aload X19.here hx rfl (hb hby at_44) rfl rfl ?_
        exact k
      obtain ⟨cq20, kq20, q20a, q20b, q20c⟩ := isOf hZ rfl A18_19
      obtain ⟨_, _, ⟨T20, L20, k20, n20⟩, -, X20, ⟨Lc20, hQ20, l20, y20, z20⟩, st20⟩ := X19.virtualBack hx (y := (⟨"com/example/otito/otito/measure/LogReader", "hasMore", "()Z"⟩ : MethodName)) (z := (⟨"com/example/otito/otito/measure/LogReader", "hasMore", "()Z"⟩ : MethodName)) hown (mvT hZ (own_w hw 12 rfl)) (mvT hZ (own_w hw 13 rfl)) (notFace_of_selects (args := #[]) (mvT hZ (own_w hw 15 rfl))) (mvT hZ (own_w hw 15 rfl)) (mvT hZ (own_w hw 14 rfl)) (by decide) (backOf (W := 0) (rm3 l Z a0 hw [] b18 b8 (0 : Int32) pn T19.heap n0 Zs19 Fb19 Fl19 V10_19) hZ (own_w hw 16 rfl) (own_w hw 3 rfl) (by decide) (by decide)) q20a q20c (g := (mkF m 46 #[.val (.int p0), .val (.int p1), .val (.int p2), .val (.int pn), .val (.ref b8), .val (.ref b18), .unset, .unset] [(.ref b18)])) rfl (by rw [hml]; rfl) (Steps.refl _) (argsL := []) (rest := []) (lenOf own_pd1 rfl) rfl (by show 2 * 0 + _ ≤ _; exact Nat.le_of_eq rfl) (hb hby at_46) (fun _ _ => ⟨rfl, rfl, (by decide : 2 + 0 ≤ _), (by decide : 17 + 0 ≤ _)⟩)
      dsimp only [Pt.U, Pt.locs, Pt.cells, Pt.slots] at X20 l20 y20 z20 st20 hQ20
      subst l20 y20 z20
      obtain ⟨rfl, Nq20, eq20⟩ := hQ20
      have N20 := Fr.app N19 Nq20
      refine own_pre (fun t k => st20.trans k) ?_
      refine own_pre (A := (T20.setTop (mkF m 53 #[.val (.int p0), .val (.int p1), .val (.int p2), .val (.int pn), .val (.ref b8), .val (.ref b18), .val (.int (own_hm (0 : Int32) pn)), .unset] [(.ref b18)]))) ?_ ?_
      · intro t k
        show Steps p.tables e below (T20.setTop (mkF m 49 #[.val (.int p0), .val (.int p1), .val (.int p2), .val (.int pn), .val (.ref b8), .val (.ref b18), .unset, .unset] [(.int (own_hm (0 : Int32) pn))])) _
        refine XS.istore X20.here hx rfl (hb hby at_49) rfl (l' := #[.val (.int p0), .val (.int p1), .val (.int p2), .val (.int pn), .val (.ref b8), .val (.ref b18), .val (.int (own_hm (0 : Int32) pn)), .unset]) rfl ?_
        show Steps p.tables e below (T20.setTop (mkF m 51 #[.val (.int p0), .val (.int p1), .val (.int p2), .val (.int pn), .val (.ref b8), .val (.ref b18), .val (.int (own_hm (0 : Int32) pn)), .unset] [])) _
        refine XS.aload X20.here hx rfl (hb hby at_51) rfl rfl ?_
        exact k
      obtain ⟨cq21, kq21, q21a, q21b, q21c⟩ := isOf hZ eq20 A18_19
      obtain ⟨_, _, ⟨T21, L21, k21, n21⟩, -, X21, ⟨Lc21, hQ21, l21, y21, z21⟩, st21⟩ := X20.virtualBack hx (y := (⟨"com/example/otito/otito/measure/LogReader", "hasMore", "()Z"⟩ : MethodName)) (z := (⟨"com/example/otito/otito/measure/LogReader", "hasMore", "()Z"⟩ : MethodName)) hown (mvT hZ (own_w hw 12 rfl)) (mvT hZ (own_w hw 13 rfl)) (notFace_of_selects (args := #[]) (mvT hZ (own_w hw 15 rfl))) (mvT hZ (own_w hw 15 rfl)) (mvT hZ (own_w hw 14 rfl)) (by decide) (backOf (W := 0) (rm3 l Z a0 hw [] b18 b8 (0 : Int32) pn T19.heap n0 Zs19 Fb19 Fl19 V10_19) hZ (own_w hw 16 rfl) (own_w hw 3 rfl) (by decide) (by decide)) q21a q21c (g := (mkF m 53 #[.val (.int p0), .val (.int p1), .val (.int p2), .val (.int pn), .val (.ref b8), .val (.ref b18), .val (.int (own_hm (0 : Int32) pn)), .unset] [(.ref b18)])) rfl (by rw [hml]; rfl) (Steps.refl _) (argsL := []) (rest := []) (lenOf own_pd1 rfl) rfl (by show 2 * 0 + _ ≤ _; exact Nat.le_of_eq rfl) (hb hby at_53) (fun _ _ => ⟨rfl, eq20, (by decide : 2 + 0 ≤ _), (by decide : 17 + 0 ≤ _)⟩)
      dsimp only [Pt.U, Pt.locs, Pt.cells, Pt.slots] at X21 l21 y21 z21 st21 hQ21
      subst l21 y21 z21
      obtain ⟨rfl, Nq21, eq21⟩ := hQ21
      have N21 := Fr.app N20 Nq21
      refine own_pre (fun t k => st21.trans k) ?_
      refine own_pre (A := (T21.setTop (mkF m 81 #[.val (.int p0), .val (.int p1), .val (.int p2), .val (.int pn), .val (.ref b8), .val (.ref b18), .val (.int (own_hm (0 : Int32) pn)), .val (.int (own_hm (0 : Int32) pn))] [(.ref b18)]))) ?_ ?_
      · intro t k
        show Steps p.tables e below (T21.setTop (mkF m 56 #[.val (.int p0), .val (.int p1), .val (.int p2), .val (.int pn), .val (.ref b8), .val (.ref b18), .val (.int (own_hm (0 : Int32) pn)), .unset] [(.int (own_hm (0 : Int32) pn))])) _
        refine XS.istore X21.here hx rfl (hb hby at_56) rfl (l' := #[.val (.int p0), .val (.int p1), .val (.int p2), .val (.int pn), .val (.ref b8), .val (.ref b18), .val (.int (own_hm (0 : Int32) pn)), .val (.int (own_hm (0 : Int32) pn))]) rfl ?_
        show Steps p.tables e below (T21.setTop (mkF m 58 #[.val (.int p0), .val (.int p1), .val (.int p2), .val (.int pn), .val (.ref b8), .val (.ref b18), .val (.int (own_hm (0 : Int32) pn)), .val (.int (own_hm (0 : Int32) pn))] [])) _
        refine XS.iload X21.here hx rfl (hb hby at_58) rfl ?_
        show Steps p.tables e below (T21.setTop (mkF m 60 #[.val (.int p0), .val (.int p1), .val (.int p2), .val (.int pn), .val (.ref b8), .val (.ref b18), .val (.int (own_hm (0 : Int32) pn)), .val (.int (own_hm (0 : Int32) pn))] [(.int (own_hm (0 : Int32) pn))])) _
        refine XS.iloadN X21.here hx rfl (hb hby at_60) rfl ?_
        show Steps p.tables e below (T21.setTop (mkF m 61 #[.val (.int p0), .val (.int p1), .val (.int p2), .val (.int pn), .val (.ref b8), .val (.ref b18), .val (.int (own_hm (0 : Int32) pn)), .val (.int (own_hm (0 : Int32) pn))] [(.int pn), (.int (own_hm (0 : Int32) pn))])) _
        refine XS.ifNo X21.here hx rfl (hb hby at_61) rfl ((if0 _ _).trans (tlt hc9).2.2.2) ?_
        show Steps p.tables e below (T21.setTop (mkF m 64 #[.val (.int p0), .val (.int p1), .val (.int p2), .val (.int pn), .val (.ref b8), .val (.ref b18), .val (.int (own_hm (0 : Int32) pn)), .val (.int (own_hm (0 : Int32) pn))] [(.int (own_hm (0 : Int32) pn))])) _
        refine XS.iconst X21.here hx rfl (hb hby at_64) ?_
        show Steps p.tables e below (T21.setTop (mkF m 65 #[.val (.int p0), .val (.int p1), .val (.int p2), .val (.int pn), .val (.ref b8), .val (.ref b18), .val (.int (own_hm (0 : Int32) pn)), .val (.int (own_hm (0 : Int32) pn))] [(.int (1 : Int32)), (.int (own_hm (0 : Int32) pn))])) _
        refine XS.goto X21.here hx rfl (pc0 := 65) (pc' := 69) rfl (hb hby at_65) (by decide) (by decide) ?_
        show Steps p.tables e below (T21.setTop (mkF m 69 #[.val (.int p0), .val (.int p1), .val (.int p2), .val (.int pn), .val (.ref b8), .val (.ref b18), .val (.int (own_hm (0 : Int32) pn)), .val (.int (own_hm (0 : Int32) pn))] [(.int (1 : Int32)), (.int (own_hm (0 : Int32) pn))])) _
        refine XS.icmpNo X21.here hx rfl (hb hby at_69) rfl (teq (if_pos hc9 : (own_hm (0 : Int32) pn) = (1 : Int32))).2 ?_
        show Steps p.tables e below (T21.setTop (mkF m 72 #[.val (.int p0), .val (.int p1), .val (.int p2), .val (.int pn), .val (.ref b8), .val (.ref b18), .val (.int (own_hm (0 : Int32) pn)), .val (.int (own_hm (0 : Int32) pn))] [])) _
        refine XS.iload X21.here hx rfl (hb hby at_72) rfl ?_
        show Steps p.tables e below (T21.setTop (mkF m 74 #[.val (.int p0), .val (.int p1), .val (.int p2), .val (.int pn), .val (.ref b8), .val (.ref b18), .val (.int (own_hm (0 : Int32) pn)), .val (.int (own_hm (0 : Int32) pn))] [(.int (own_hm (0 : Int32) pn))])) _
        refine XS.iload X21.here hx rfl (hb hby at_74) rfl ?_
        show Steps p.tables e below (T21.setTop (mkF m 76 #[.val (.int p0), .val (.int p1), .val (.int p2), .val (.int pn), .val (.ref b8), .val (.ref b18), .val (.int (own_hm (0 : Int32) pn)), .val (.int (own_hm (0 : Int32) pn))] [(.int (own_hm (0 : Int32) pn)), (.int (own_hm (0 : Int32) pn))])) _
        refine XS.icmpNo X21.here hx rfl (hb hby at_76) rfl (teq (rfl : (own_hm (0 : Int32) pn) = (own_hm (0 : Int32) pn))).2 ?_
        show Steps p.tables e below (T21.setTop (mkF m 79 #[.val (.int p0), .val (.int p1), .val (.int p2), .val (.int pn), .val (.ref b8), .val (.ref b18), .val (.int (own_hm (0 : Int32) pn)), .val (.int (own_hm (0 : Int32) pn))] [])) _
        refine XS.aload X21.here hx rfl (hb hby at_79) rfl rfl ?_
        exact k
      obtain ⟨cq22, kq22, q22a, q22b, q22c⟩ := isOf hZ eq21 A18_19
      obtain ⟨_, _, ⟨T22, L22, k22, n22⟩, -, X22, ⟨Lc22, hQ22, l22, y22, z22⟩, st22⟩ := X21.virtualBack hx (y := (⟨"com/example/otito/otito/measure/LogReader", "length", "()I"⟩ : MethodName)) (z := (⟨"com/example/otito/otito/measure/LogReader", "length", "()I"⟩ : MethodName)) hown (mvT hZ (own_w hw 19 rfl)) (mvT hZ (own_w hw 20 rfl)) (notFace_of_selects (args := #[]) (mvT hZ (own_w hw 22 rfl))) (mvT hZ (own_w hw 22 rfl)) (mvT hZ (own_w hw 21 rfl)) (by decide) (backOf (W := 0) (rm4 l Z a0 hw [] b18 (0 : Int32) T19.heap n0 Zs19 Fl19) hZ (own_w hw 23 rfl) (own_w hw 3 rfl) (by decide) (by decide)) q22a q22c (g := (mkF m 81 #[.val (.int p0), .val (.int p1), .val (.int p2), .val (.int pn), .val (.ref b8), .val (.ref b18), .val (.int (own_hm (0 : Int32) pn)), .val (.int (own_hm (0 : Int32) pn))] [(.ref b18)])) rfl (by rw [hml]; rfl) (Steps.refl _) (argsL := []) (rest := []) (lenOf own_pd2 rfl) rfl (by show 2 * 0 + _ ≤ _; exact Nat.le_of_eq rfl) (hb hby at_81) (fun _ _ => ⟨rfl, eq21, (by decide : 2 + 0 ≤ _), (by decide : 17 + 0 ≤ _)⟩)
      dsimp only [Pt.U, Pt.locs, Pt.cells, Pt.slots] at X22 l22 y22 z22 st22 hQ22
      subst l22 y22 z22
      obtain ⟨Nq22, rfl, eq22⟩ := hQ22
      have N22 := Fr.app N21 Nq22
      refine own_pre (fun t k => st22.trans k) ?_
      refine own_pre (A := (T22.setTop (mkF m 92 #[.val (.int p0), .val (.int p1), .val (.int p2), .val (.int pn), .val (.ref b8), .val (.ref b18), .val (.int (own_hm (0 : Int32) pn)), .val (.int (own_hm (0 : Int32) pn))] [(.int (1 : Int32))]))) ?_ ?_
      · intro t k
        show Steps p.tables e below (T22.setTop (mkF m 84 #[.val (.int p0), .val (.int p1), .val (.int p2), .val (.int pn), .val (.ref b8), .val (.ref b18), .val (.int (own_hm (0 : Int32) pn)), .val (.int (own_hm (0 : Int32) pn))] [(.int (0 : Int32))])) _
        refine XS.ifNo X22.here hx rfl (hb hby at_84) rfl ((if0 _ _).trans (teq (by decide : (0 : Int32) = (0 : Int32))).2) ?_
        show Steps p.tables e below (T22.setTop (mkF m 87 #[.val (.int p0), .val (.int p1), .val (.int p2), .val (.int pn), .val (.ref b8), .val (.ref b18), .val (.int (own_hm (0 : Int32) pn)), .val (.int (own_hm (0 : Int32) pn))] [])) _
        refine XS.iconst X22.here hx rfl (hb hby at_87) ?_
        show Steps p.tables e below (T22.setTop (mkF m 88 #[.val (.int p0), .val (.int p1), .val (.int p2), .val (.int pn), .val (.ref b8), .val (.ref b18), .val (.int (own_hm (0 : Int32) pn)), .val (.int (own_hm (0 : Int32) pn))] [(.int (1 : Int32))])) _
        refine XS.goto X22.here hx rfl (pc0 := 88) (pc' := 92) rfl (hb hby at_88) (by decide) (by decide) ?_
        exact k
      obtain ⟨fs, hr, hrun, hended, hW, hsame⟩ := X22.leave (v := some (.int (1 : Int32))) (fun h => by rw [Bd.returns] at h; cases h)
      refine ⟨_, _, retOut X22 hx Bd.returns rfl (Or.inl ⟨rfl, Or.inr (Or.inl rfl), _, rfl⟩) (hb hby at_92) hr, hrun, hended, _, _, rfl, ?_, ⟨_, rfl⟩, hW, hsame.mono (by decide) (by decide)⟩
      show own_Q0 h0 n0 _ T22.heap _
      rw [eq22]
      exact ⟨rfl, N22⟩
  · skip
    refine own_pre (A := (T8.setTop (mkF m 20 #[.val (.int p0), .val (.int p1), .val (.int p2), .val (.int pn), .val (.ref b8), .unset, .unset, .unset] []))) ?_ ?_
    · intro t k
      refine XS.ifYes X8.here hx rfl (pc0 := 11) (pc' := 20) rfl (hb hby at_11) rfl ((if0 _ _).trans (flt hc9).2.2.2) (by decide) (by decide) ?_
      exact k
    refine own_pre (A := (T8.setTop (mkF m 22 #[.val (.int p0), .val (.int p1), .val (.int p2), .val (.int pn), .val (.ref b8), .unset, .unset, .unset] [(.int (1 : Int32)), (.int pn)]))) ?_ ?_
    · intro t k
      show Steps p.tables e below (T8.setTop (mkF m 20 #[.val (.int p0), .val (.int p1), .val (.int p2), .val (.int pn), .val (.ref b8), .unset, .unset, .unset] [])) _
      refine XS.iloadN X8.here hx rfl (hb hby at_20) rfl ?_
      show Steps p.tables e below (T8.setTop (mkF m 21 #[.val (.int p0), .val (.int p1), .val (.int p2), .val (.int pn), .val (.ref b8), .unset, .unset, .unset] [(.int pn)])) _
      refine XS.iconst X8.here hx rfl (hb hby at_21) ?_
      exact k
    by_cases hc23 : (1 : Int32) < pn
    · skip
      refine own_pre (A := (T8.setTop (mkF m 25 #[.val (.int p0), .val (.int p1), .val (.int p2), .val (.int pn), .val (.ref b8), .unset, .unset, .unset] []))) ?_ ?_
      · intro t k
        refine XS.icmpNo X8.here hx rfl (hb hby at_22) rfl (tlt hc23).2.2.2 ?_
        exact k
      refine own_pre (A := (T8.setTop (mkF m 32 #[.val (.int p0), .val (.int p1), .val (.int p2), .val (.int pn), .val (.ref b8), .unset, .unset, .unset] [(.int (p2.toInt8.toInt32)), (.int (pn - (1 : Int32))), (.ref b8)]))) ?_ ?_
      · intro t k
        show Steps p.tables e below (T8.setTop (mkF m 25 #[.val (.int p0), .val (.int p1), .val (.int p2), .val (.int pn), .val (.ref b8), .unset, .unset, .unset] [])) _
        refine XS.aload X8.here hx rfl (hb hby at_25) rfl rfl ?_
        show Steps p.tables e below (T8.setTop (mkF m 27 #[.val (.int p0), .val (.int p1), .val (.int p2), .val (.int pn), .val (.ref b8), .unset, .unset, .unset] [(.ref b8)])) _
        refine XS.iloadN X8.here hx rfl (hb hby at_27) rfl ?_
        show Steps p.tables e below (T8.setTop (mkF m 28 #[.val (.int p0), .val (.int p1), .val (.int p2), .val (.int pn), .val (.ref b8), .unset, .unset, .unset] [(.int pn), (.ref b8)])) _
        refine XS.iconst X8.here hx rfl (hb hby at_28) ?_
        show Steps p.tables e below (T8.setTop (mkF m 29 #[.val (.int p0), .val (.int p1), .val (.int p2), .val (.int pn), .val (.ref b8), .unset, .unset, .unset] [(.int (1 : Int32)), (.int pn), (.ref b8)])) _
        refine XS.isub X8.here hx rfl (hb hby at_29) rfl ?_
        show Steps p.tables e below (T8.setTop (mkF m 30 #[.val (.int p0), .val (.int p1), .val (.int p2), .val (.int pn), .val (.ref b8), .unset, .unset, .unset] [(.int (pn - (1 : Int32))), (.ref b8)])) _
        refine XS.iloadN X8.here hx rfl (hb hby at_30) rfl ?_
        show Steps p.tables e below (T8.setTop (mkF m 31 #[.val (.int p0), .val (.int p1), .val (.int p2), .val (.int pn), .val (.ref b8), .unset, .unset, .unset] [(.int p2), (.int (pn - (1 : Int32))), (.ref b8)])) _
        refine XS.i2b X8.here hx rfl (hb hby at_31) rfl ?_
        exact k
      obtain ⟨cl24, Ar24, S24, N24⟩ := V8
      have hin24 : ¬ ((pn - (1 : Int32)) < 0 ∨ cl24.slots.size ≤ ((pn - (1 : Int32))).toNatClampNeg) := inb_of S24 (own_last pn hc23)
      obtain ⟨T24, h24, X24, e24, W24, st24⟩ := stB X8 hx hZ e8 Ar24 (j := (pn - (1 : Int32))) hin24 (g := (mkF m 32 #[.val (.int p0), .val (.int p1), .val (.int p2), .val (.int pn), .val (.ref b8), .unset, .unset, .unset] [(.int (p2.toInt8.toInt32)), (.int (pn - (1 : Int32))), (.ref b8)])) rfl rfl (hb hby at_32)
      have V24 : own_Al Z h24 b8 .byte pn := ⟨_, Ar24.same W24, (sz_set _ _ _).trans S24, N24⟩
      have Zs24 : n0 ≤ h24.size := Nat.le_trans Zs8 (Keep.of_wr W24).1
      have N24 := Fr.snoc X24 N0 gn_b8
      refine own_pre (fun t k => st24 t k) ?_
      obtain ⟨T25, h25, X25, e25, E25, A25, D25, -, st25⟩ := newO X24 hx hZ hown (own_w hw 1 rfl) (own_w hw 2 rfl) (own_w hw 3 rfl) e24 (g := (mkF m 33 #[.val (.int p0), .val (.int p1), .val (.int p2), .val (.int pn), .val (.ref b8), .unset, .unset, .unset] [])) rfl (hb hby at_33) (by decide) (by decide)
      obtain ⟨b25, g25⟩ : ∃ z, z = h24.size := ⟨_, rfl⟩
      rw [← g25] at A25 D25 st25
      have ne_b8_b25 : b8 ≠ b25 := Nat.ne_of_lt (Nat.lt_of_lt_of_le V24.lt (Nat.le_of_eq g25.symm))
      have gn_b25 : n0 ≤ b25 := Nat.le_trans Zs24 (Nat.le_of_eq g25.symm)
      have V24_25 := V24.ext E25
      have Zs25 : n0 ≤ h25.size := Nat.le_trans Zs24 E25.1
      have F25_bytes : Fld Z h25 b25 "com/example/otito/otito/measure/LogReader" "bytes" "[B" .null := D25 (Or.inr (own_w hw 11 rfl)) (ty := (.array .byte)) (by decide)
      have F25_length : Fld Z h25 b25 "com/example/otito/otito/measure/LogReader" "length" "I" (.int (0 : Int32)) := D25 (Or.inl (own_w hw 18 rfl)) (ty := .int) (by decide)
      refine own_pre (fun t k => st25 t k) ?_
      refine own_pre (A := (T25.setTop (mkF m 39 #[.val (.int p0), .val (.int p1), .val (.int p2), .val (.int pn), .val (.ref b8), .unset, .unset, .unset] [(.ref b8), (.ref b25), (.ref b25)]))) ?_ ?_
      · intro t k
        show Steps p.tables e below (T25.setTop (mkF m 36 #[.val (.int p0), .val (.int p1), .val (.int p2), .val (.int pn), .val (.ref b8), .unset, .unset, .unset] [(.ref b25)])) _
        refine XS.dup X25.here hx rfl (hb hby at_36) rfl rfl ?_
        show Steps p.tables e below (T25.setTop (mkF m 37 #[.val (.int p0), .val (.int p1), .val (.int p2), .val (.int pn), .val (.ref b8), .unset, .unset, .unset] [(.ref b25), (.ref b25)])) _
        refine XS.aload X25.here hx rfl (hb hby at_37) rfl rfl ?_
        exact k
      obtain ⟨_, _, ⟨T26, L26, k26, n26⟩, -, X26, ⟨Lc26, hQ26, l26, y26, z26⟩, st26⟩ := X25.specialBack hx (y := (⟨"com/example/otito/otito/measure/LogReader", "<init>", "([B)V"⟩ : MethodName)) rfl hown (mvT hZ (own_w hw 4 rfl)) (mvT hZ (own_w hw 5 rfl)) (mvT hZ (own_w hw 6 rfl)) (by decide) (backOf (W := 1) (rm1 l Z a0 hw [] b25 b8 h25 n0 Zs25 A25 F25_bytes F25_length gn_b25) hZ (own_w hw 6 rfl) (own_w hw 3 rfl) (by decide) (by decide)) (g := (mkF m 39 #[.val (.int p0), .val (.int p1), .val (.int p2), .val (.int pn), .val (.ref b8), .unset, .unset, .unset] [(.ref b8), (.ref b25), (.ref b25)])) rfl (by rw [hml]; rfl) (Steps.refl _) (a := b25) (argsL := [(.ref b8)]) (rest := [(.ref b25)]) (lenOf own_pd0 rfl) rfl (by show 2 * 0 + _ ≤ _; exact Nat.le_of_eq rfl) (hb hby at_39) (fun _ _ => ⟨rfl, e25, (by decide : 2 + 0 ≤ _), (by decide : 17 + 0 ≤ _)⟩)
      dsimp only [Pt.U, Pt.locs, Pt.cells, Pt.slots] at X26 l26 y26 z26 st26 hQ26
      subst l26 y26 z26
      obtain ⟨rfl, Nq26, Kq26, Fb26, Fl26⟩ := hQ26
      have N26 := Fr.app N24 Nq26
      refine own_pre (fun t k => st26.trans k) ?_
      have V24_26 := V24_25.keep Kq26 (ninS ne_b8_b25 nin0)
      have A25_26 := A25.keep Kq26
      have Zs26 : n0 ≤ T26.heap.size := Nat.le_trans Zs25 Kq26.1
      refine own_pre (A := (T26.setTop (mkF m 46 #[.val (.int p0), .val (.int p1), .val (.int p2), .val (.int pn), .val (.ref b8), .val (.ref b25), .unset, .unset] [(.ref b25)]))) ?_ ?_
      · intro t k
        show Steps p.tables e below (T26.setTop (mkF m 42 #[.val (.int p0), .val (.int p1), .val (.int p2), .val (.int pn), .val (.ref b8), .unset, .unset, .unset] [(.ref b25)])) _
        refine XS.astore X26.here hx rfl (hb hby at_42) rfl rfl (l' := #[.val (.int p0), .val (.int p1), .val (.int p2), .val (.int pn), .val (.ref b8), .val (.ref b25), .unset, .unset]) rfl ?_
        show Steps p.tables e below (T26.setTop (mkF m 44 #[.val (.int p0), .val (.int p1), .val (.int p2), .val (.int pn), .val (.ref b8), .val (.ref b25), .unset, .unset] [])) _
        refine XS.aload X26.here hx rfl (hb hby at_44) rfl rfl ?_
        exact k
      obtain ⟨cq27, kq27, q27a, q27b, q27c⟩ := isOf hZ rfl A25_26
      obtain ⟨_, _, ⟨T27, L27, k27, n27⟩, -, X27, ⟨Lc27, hQ27, l27, y27, z27⟩, st27⟩ := X26.virtualBack hx (y := (⟨"com/example/otito/otito/measure/LogReader", "hasMore", "()Z"⟩ : MethodName)) (z := (⟨"com/example/otito/otito/measure/LogReader", "hasMore", "()Z"⟩ : MethodName)) hown (mvT hZ (own_w hw 12 rfl)) (mvT hZ (own_w hw 13 rfl)) (notFace_of_selects (args := #[]) (mvT hZ (own_w hw 15 rfl))) (mvT hZ (own_w hw 15 rfl)) (mvT hZ (own_w hw 14 rfl)) (by decide) (backOf (W := 0) (rm3 l Z a0 hw [] b25 b8 (0 : Int32) pn T26.heap n0 Zs26 Fb26 Fl26 V24_26) hZ (own_w hw 16 rfl) (own_w hw 3 rfl) (by decide) (by decide)) q27a q27c (g := (mkF m 46 #[.val (.int p0), .val (.int p1), .val (.int p2), .val (.int pn), .val (.ref b8), .val (.ref b25), .unset, .unset] [(.ref b25)])) rfl (by rw [hml]; rfl) (Steps.refl _) (argsL := []) (rest := []) (lenOf own_pd1 rfl) rfl (by show 2 * 0 + _ ≤ _; exact Nat.le_of_eq rfl) (hb hby at_46) (fun _ _ => ⟨rfl, rfl, (by decide : 2 + 0 ≤ _), (by decide : 17 + 0 ≤ _)⟩)
      dsimp only [Pt.U, Pt.locs, Pt.cells, Pt.slots] at X27 l27 y27 z27 st27 hQ27
      subst l27 y27 z27
      obtain ⟨rfl, Nq27, eq27⟩ := hQ27
      have N27 := Fr.app N26 Nq27
      refine own_pre (fun t k => st27.trans k) ?_
      refine own_pre (A := (T27.setTop (mkF m 53 #[.val (.int p0), .val (.int p1), .val (.int p2), .val (.int pn), .val (.ref b8), .val (.ref b25), .val (.int (own_hm (0 : Int32) pn)), .unset] [(.ref b25)]))) ?_ ?_
      · intro t k
        show Steps p.tables e below (T27.setTop (mkF m 49 #[.val (.int p0), .val (.int p1), .val (.int p2), .val (.int pn), .val (.ref b8), .val (.ref b25), .unset, .unset] [(.int (own_hm (0 : Int32) pn))])) _
        refine XS.istore X27.here hx rfl (hb hby at_49) rfl (l' := #[.val (.int p0), .val (.int p1), .val (.int p2), .val (.int pn), .val (.ref b8), .val (.ref b25), .val (.int (own_hm (0 : Int32) pn)), .unset]) rfl ?_
        show Steps p.tables e below (T27.setTop (mkF m 51 #[.val (.int p0), .val (.int p1), .val (.int p2), .val (.int pn), .val (.ref b8), .val (.ref b25), .val (.int (own_hm (0 : Int32) pn)), .unset] [])) _
        refine XS.aload X27.here hx rfl (hb hby at_51) rfl rfl ?_
        exact k
      obtain ⟨cq28, kq28, q28a, q28b, q28c⟩ := isOf hZ eq27 A25_26
      obtain ⟨_, _, ⟨T28, L28, k28, n28⟩, -, X28, ⟨Lc28, hQ28, l28, y28, z28⟩, st28⟩ := X27.virtualBack hx (y := (⟨"com/example/otito/otito/measure/LogReader", "hasMore", "()Z"⟩ : MethodName)) (z := (⟨"com/example/otito/otito/measure/LogReader", "hasMore", "()Z"⟩ : MethodName)) hown (mvT hZ (own_w hw 12 rfl)) (mvT hZ (own_w hw 13 rfl)) (notFace_of_selects (args := #[]) (mvT hZ (own_w hw 15 rfl))) (mvT hZ (own_w hw 15 rfl)) (mvT hZ (own_w hw 14 rfl)) (by decide) (backOf (W := 0) (rm3 l Z a0 hw [] b25 b8 (0 : Int32) pn T26.heap n0 Zs26 Fb26 Fl26 V24_26) hZ (own_w hw 16 rfl) (own_w hw 3 rfl) (by decide) (by decide)) q28a q28c (g := (mkF m 53 #[.val (.int p0), .val (.int p1), .val (.int p2), .val (.int pn), .val (.ref b8), .val (.ref b25), .val (.int (own_hm (0 : Int32) pn)), .unset] [(.ref b25)])) rfl (by rw [hml]; rfl) (Steps.refl _) (argsL := []) (rest := []) (lenOf own_pd1 rfl) rfl (by show 2 * 0 + _ ≤ _; exact Nat.le_of_eq rfl) (hb hby at_53) (fun _ _ => ⟨rfl, eq27, (by decide : 2 + 0 ≤ _), (by decide : 17 + 0 ≤ _)⟩)
      dsimp only [Pt.U, Pt.locs, Pt.cells, Pt.slots] at X28 l28 y28 z28 st28 hQ28
      subst l28 y28 z28
      obtain ⟨rfl, Nq28, eq28⟩ := hQ28
      have N28 := Fr.app N27 Nq28
      refine own_pre (fun t k => st28.trans k) ?_
      refine own_pre (A := (T28.setTop (mkF m 81 #[.val (.int p0), .val (.int p1), .val (.int p2), .val (.int pn), .val (.ref b8), .val (.ref b25), .val (.int (own_hm (0 : Int32) pn)), .val (.int (own_hm (0 : Int32) pn))] [(.ref b25)]))) ?_ ?_
      · intro t k
        show Steps p.tables e below (T28.setTop (mkF m 56 #[.val (.int p0), .val (.int p1), .val (.int p2), .val (.int pn), .val (.ref b8), .val (.ref b25), .val (.int (own_hm (0 : Int32) pn)), .unset] [(.int (own_hm (0 : Int32) pn))])) _
        refine XS.istore X28.here hx rfl (hb hby at_56) rfl (l' := #[.val (.int p0), .val (.int p1), .val (.int p2), .val (.int pn), .val (.ref b8), .val (.ref b25), .val (.int (own_hm (0 : Int32) pn)), .val (.int (own_hm (0 : Int32) pn))]) rfl ?_
        show Steps p.tables e below (T28.setTop (mkF m 58 #[.val (.int p0), .val (.int p1), .val (.int p2), .val (.int pn), .val (.ref b8), .val (.ref b25), .val (.int (own_hm (0 : Int32) pn)), .val (.int (own_hm (0 : Int32) pn))] [])) _
        refine XS.iload X28.here hx rfl (hb hby at_58) rfl ?_
        show Steps p.tables e below (T28.setTop (mkF m 60 #[.val (.int p0), .val (.int p1), .val (.int p2), .val (.int pn), .val (.ref b8), .val (.ref b25), .val (.int (own_hm (0 : Int32) pn)), .val (.int (own_hm (0 : Int32) pn))] [(.int (own_hm (0 : Int32) pn))])) _
        refine XS.iloadN X28.here hx rfl (hb hby at_60) rfl ?_
        show Steps p.tables e below (T28.setTop (mkF m 61 #[.val (.int p0), .val (.int p1), .val (.int p2), .val (.int pn), .val (.ref b8), .val (.ref b25), .val (.int (own_hm (0 : Int32) pn)), .val (.int (own_hm (0 : Int32) pn))] [(.int pn), (.int (own_hm (0 : Int32) pn))])) _
        refine XS.ifYes X28.here hx rfl (pc0 := 61) (pc' := 68) rfl (hb hby at_61) rfl ((if0 _ _).trans (flt hc9).2.2.2) (by decide) (by decide) ?_
        show Steps p.tables e below (T28.setTop (mkF m 68 #[.val (.int p0), .val (.int p1), .val (.int p2), .val (.int pn), .val (.ref b8), .val (.ref b25), .val (.int (own_hm (0 : Int32) pn)), .val (.int (own_hm (0 : Int32) pn))] [(.int (own_hm (0 : Int32) pn))])) _
        refine XS.iconst X28.here hx rfl (hb hby at_68) ?_
        show Steps p.tables e below (T28.setTop (mkF m 69 #[.val (.int p0), .val (.int p1), .val (.int p2), .val (.int pn), .val (.ref b8), .val (.ref b25), .val (.int (own_hm (0 : Int32) pn)), .val (.int (own_hm (0 : Int32) pn))] [(.int (0 : Int32)), (.int (own_hm (0 : Int32) pn))])) _
        refine XS.icmpNo X28.here hx rfl (hb hby at_69) rfl (teq (if_neg hc9 : (own_hm (0 : Int32) pn) = (0 : Int32))).2 ?_
        show Steps p.tables e below (T28.setTop (mkF m 72 #[.val (.int p0), .val (.int p1), .val (.int p2), .val (.int pn), .val (.ref b8), .val (.ref b25), .val (.int (own_hm (0 : Int32) pn)), .val (.int (own_hm (0 : Int32) pn))] [])) _
        refine XS.iload X28.here hx rfl (hb hby at_72) rfl ?_
        show Steps p.tables e below (T28.setTop (mkF m 74 #[.val (.int p0), .val (.int p1), .val (.int p2), .val (.int pn), .val (.ref b8), .val (.ref b25), .val (.int (own_hm (0 : Int32) pn)), .val (.int (own_hm (0 : Int32) pn))] [(.int (own_hm (0 : Int32) pn))])) _
        refine XS.iload X28.here hx rfl (hb hby at_74) rfl ?_
        show Steps p.tables e below (T28.setTop (mkF m 76 #[.val (.int p0), .val (.int p1), .val (.int p2), .val (.int pn), .val (.ref b8), .val (.ref b25), .val (.int (own_hm (0 : Int32) pn)), .val (.int (own_hm (0 : Int32) pn))] [(.int (own_hm (0 : Int32) pn)), (.int (own_hm (0 : Int32) pn))])) _
        refine XS.icmpNo X28.here hx rfl (hb hby at_76) rfl (teq (rfl : (own_hm (0 : Int32) pn) = (own_hm (0 : Int32) pn))).2 ?_
        show Steps p.tables e below (T28.setTop (mkF m 79 #[.val (.int p0), .val (.int p1), .val (.int p2), .val (.int pn), .val (.ref b8), .val (.ref b25), .val (.int (own_hm (0 : Int32) pn)), .val (.int (own_hm (0 : Int32) pn))] [])) _
        refine XS.aload X28.here hx rfl (hb hby at_79) rfl rfl ?_
        exact k
      obtain ⟨cq29, kq29, q29a, q29b, q29c⟩ := isOf hZ eq28 A25_26
      obtain ⟨_, _, ⟨T29, L29, k29, n29⟩, -, X29, ⟨Lc29, hQ29, l29, y29, z29⟩, st29⟩ := X28.virtualBack hx (y := (⟨"com/example/otito/otito/measure/LogReader", "length", "()I"⟩ : MethodName)) (z := (⟨"com/example/otito/otito/measure/LogReader", "length", "()I"⟩ : MethodName)) hown (mvT hZ (own_w hw 19 rfl)) (mvT hZ (own_w hw 20 rfl)) (notFace_of_selects (args := #[]) (mvT hZ (own_w hw 22 rfl))) (mvT hZ (own_w hw 22 rfl)) (mvT hZ (own_w hw 21 rfl)) (by decide) (backOf (W := 0) (rm4 l Z a0 hw [] b25 (0 : Int32) T26.heap n0 Zs26 Fl26) hZ (own_w hw 23 rfl) (own_w hw 3 rfl) (by decide) (by decide)) q29a q29c (g := (mkF m 81 #[.val (.int p0), .val (.int p1), .val (.int p2), .val (.int pn), .val (.ref b8), .val (.ref b25), .val (.int (own_hm (0 : Int32) pn)), .val (.int (own_hm (0 : Int32) pn))] [(.ref b25)])) rfl (by rw [hml]; rfl) (Steps.refl _) (argsL := []) (rest := []) (lenOf own_pd2 rfl) rfl (by show 2 * 0 + _ ≤ _; exact Nat.le_of_eq rfl) (hb hby at_81) (fun _ _ => ⟨rfl, eq28, (by decide : 2 + 0 ≤ _), (by decide : 17 + 0 ≤ _)⟩)
      dsimp only [Pt.U, Pt.locs, Pt.cells, Pt.slots] at X29 l29 y29 z29 st29 hQ29
      subst l29 y29 z29
      obtain ⟨Nq29, rfl, eq29⟩ := hQ29
      have N29 := Fr.app N28 Nq29
      refine own_pre (fun t k => st29.trans k) ?_
      refine own_pre (A := (T29.setTop (mkF m 92 #[.val (.int p0), .val (.int p1), .val (.int p2), .val (.int pn), .val (.ref b8), .val (.ref b25), .val (.int (own_hm (0 : Int32) pn)), .val (.int (own_hm (0 : Int32) pn))] [(.int (1 : Int32))]))) ?_ ?_
      · intro t k
        show Steps p.tables e below (T29.setTop (mkF m 84 #[.val (.int p0), .val (.int p1), .val (.int p2), .val (.int pn), .val (.ref b8), .val (.ref b25), .val (.int (own_hm (0 : Int32) pn)), .val (.int (own_hm (0 : Int32) pn))] [(.int (0 : Int32))])) _
        refine XS.ifNo X29.here hx rfl (hb hby at_84) rfl ((if0 _ _).trans (teq (by decide : (0 : Int32) = (0 : Int32))).2) ?_
        show Steps p.tables e below (T29.setTop (mkF m 87 #[.val (.int p0), .val (.int p1), .val (.int p2), .val (.int pn), .val (.ref b8), .val (.ref b25), .val (.int (own_hm (0 : Int32) pn)), .val (.int (own_hm (0 : Int32) pn))] [])) _
        refine XS.iconst X29.here hx rfl (hb hby at_87) ?_
        show Steps p.tables e below (T29.setTop (mkF m 88 #[.val (.int p0), .val (.int p1), .val (.int p2), .val (.int pn), .val (.ref b8), .val (.ref b25), .val (.int (own_hm (0 : Int32) pn)), .val (.int (own_hm (0 : Int32) pn))] [(.int (1 : Int32))])) _
        refine XS.goto X29.here hx rfl (pc0 := 88) (pc' := 92) rfl (hb hby at_88) (by decide) (by decide) ?_
        exact k
      obtain ⟨fs, hr, hrun, hended, hW, hsame⟩ := X29.leave (v := some (.int (1 : Int32))) (fun h => by rw [Bd.returns] at h; cases h)
      refine ⟨_, _, retOut X29 hx Bd.returns rfl (Or.inl ⟨rfl, Or.inr (Or.inl rfl), _, rfl⟩) (hb hby at_92) hr, hrun, hended, _, _, rfl, ?_, ⟨_, rfl⟩, hW, hsame.mono (by decide) (by decide)⟩
      show own_Q0 h0 n0 _ T29.heap _
      rw [eq29]
      exact ⟨rfl, N29⟩
    · skip
      refine own_pre (A := (T8.setTop (mkF m 33 #[.val (.int p0), .val (.int p1), .val (.int p2), .val (.int pn), .val (.ref b8), .unset, .unset, .unset] []))) ?_ ?_
      · intro t k
        refine XS.icmpYes X8.here hx rfl (pc0 := 22) (pc' := 33) rfl (hb hby at_22) rfl (flt hc23).2.2.2 (by decide) (by decide) ?_
        exact k
      obtain ⟨T30, h30, X30, e30, E30, A30, D30, -, st30⟩ := newO X8 hx hZ hown (own_w hw 1 rfl) (own_w hw 2 rfl) (own_w hw 3 rfl) e8 (g := (mkF m 33 #[.val (.int p0), .val (.int p1), .val (.int p2), .val (.int pn), .val (.ref b8), .unset, .unset, .unset] [])) rfl (hb hby at_33) (by decide) (by decide)
      obtain ⟨b30, g30⟩ : ∃ z, z = h8.size := ⟨_, rfl⟩
      rw [← g30] at A30 D30 st30
      have ne_b8_b30 : b8 ≠ b30 := Nat.ne_of_lt (Nat.lt_of_lt_of_le V8.lt (Nat.le_of_eq g30.symm))
      have gn_b30 : n0 ≤ b30 := Nat.le_trans Zs8 (Nat.le_of_eq g30.symm)
      have V8_30 := V8.ext E30
      have Zs30 : n0 ≤ h30.size := Nat.le_trans Zs8 E30.1
      have F30_bytes : Fld Z h30 b30 "com/example/otito/otito/measure/LogReader" "bytes" "[B" .null := D30 (Or.inr (own_w hw 11 rfl)) (ty := (.array .byte)) (by decide)
      have F30_length : Fld Z h30 b30 "com/example/otito/otito/measure/LogReader" "length" "I" (.int (0 : Int32)) := D30 (Or.inl (own_w hw 18 rfl)) (ty := .int) (by decide)
      refine own_pre (fun t k => st30 t k) ?_
      refine own_pre (A := (T30.setTop (mkF m 39 #[.val (.int p0), .val (.int p1), .val (.int p2), .val (.int pn), .val (.ref b8), .unset, .unset, .unset] [(.ref b8), (.ref b30), (.ref b30)]))) ?_ ?_
      · intro t k
        show Steps p.tables e below (T30.setTop (mkF m 36 #[.val (.int p0), .val (.int p1), .val (.int p2), .val (.int pn), .val (.ref b8), .unset, .unset, .unset] [(.ref b30)])) _
        refine XS.dup X30.here hx rfl (hb hby at_36) rfl rfl ?_
        show Steps p.tables e below (T30.setTop (mkF m 37 #[.val (.int p0), .val (.int p1), .val (.int p2), .val (.int pn), .val (.ref b8), .unset, .unset, .unset] [(.ref b30), (.ref b30)])) _
        refine XS.aload X30.here hx rfl (hb hby at_37) rfl rfl ?_
        exact k
      obtain ⟨_, _, ⟨T31, L31, k31, n31⟩, -, X31, ⟨Lc31, hQ31, l31, y31, z31⟩, st31⟩ := X30.specialBack hx (y := (⟨"com/example/otito/otito/measure/LogReader", "<init>", "([B)V"⟩ : MethodName)) rfl hown (mvT hZ (own_w hw 4 rfl)) (mvT hZ (own_w hw 5 rfl)) (mvT hZ (own_w hw 6 rfl)) (by decide) (backOf (W := 1) (rm1 l Z a0 hw [] b30 b8 h30 n0 Zs30 A30 F30_bytes F30_length gn_b30) hZ (own_w hw 6 rfl) (own_w hw 3 rfl) (by decide) (by decide)) (g := (mkF m 39 #[.val (.int p0), .val (.int p1), .val (.int p2), .val (.int pn), .val (.ref b8), .unset, .unset, .unset] [(.ref b8), (.ref b30), (.ref b30)])) rfl (by rw [hml]; rfl) (Steps.refl _) (a := b30) (argsL := [(.ref b8)]) (rest := [(.ref b30)]) (lenOf own_pd0 rfl) rfl (by show 2 * 0 + _ ≤ _; exact Nat.le_of_eq rfl) (hb hby at_39) (fun _ _ => ⟨rfl, e30, (by decide : 2 + 0 ≤ _), (by decide : 17 + 0 ≤ _)⟩)
      dsimp only [Pt.U, Pt.locs, Pt.cells, Pt.slots] at X31 l31 y31 z31 st31 hQ31
      subst l31 y31 z31
      obtain ⟨rfl, Nq31, Kq31, Fb31, Fl31⟩ := hQ31
      have N31 := Fr.app N0 Nq31
      refine own_pre (fun t k => st31.trans k) ?_
      have V8_31 := V8_30.keep Kq31 (ninS ne_b8_b30 nin0)
      have A30_31 := A30.keep Kq31
      have Zs31 : n0 ≤ T31.heap.size := Nat.le_trans Zs30 Kq31.1
      refine own_pre (A := (T31.setTop (mkF m 46 #[.val (.int p0), .val (.int p1), .val (.int p2), .val (.int pn), .val (.ref b8), .val (.ref b30), .unset, .unset] [(.ref b30)]))) ?_ ?_
      · intro t k
        show Steps p.tables e below (T31.setTop (mkF m 42 #[.val (.int p0), .val (.int p1), .val (.int p2), .val (.int pn), .val (.ref b8), .unset, .unset, .unset] [(.ref b30)])) _
        refine XS.astore X31.here hx rfl (hb hby at_42) rfl rfl (l' := #[.val (.int p0), .val (.int p1), .val (.int p2), .val (.int pn), .val (.ref b8), .val (.ref b30), .unset, .unset]) rfl ?_
        show Steps p.tables e below (T31.setTop (mkF m 44 #[.val (.int p0), .val (.int p1), .val (.int p2), .val (.int pn), .val (.ref b8), .val (.ref b30), .unset, .unset] [])) _
        refine XS.aload X31.here hx rfl (hb hby at_44) rfl rfl ?_
        exact k
      obtain ⟨cq32, kq32, q32a, q32b, q32c⟩ := isOf hZ rfl A30_31
      obtain ⟨_, _, ⟨T32, L32, k32, n32⟩, -, X32, ⟨Lc32, hQ32, l32, y32, z32⟩, st32⟩ := X31.virtualBack hx (y := (⟨"com/example/otito/otito/measure/LogReader", "hasMore", "()Z"⟩ : MethodName)) (z := (⟨"com/example/otito/otito/measure/LogReader", "hasMore", "()Z"⟩ : MethodName)) hown (mvT hZ (own_w hw 12 rfl)) (mvT hZ (own_w hw 13 rfl)) (notFace_of_selects (args := #[]) (mvT hZ (own_w hw 15 rfl))) (mvT hZ (own_w hw 15 rfl)) (mvT hZ (own_w hw 14 rfl)) (by decide) (backOf (W := 0) (rm3 l Z a0 hw [] b30 b8 (0 : Int32) pn T31.heap n0 Zs31 Fb31 Fl31 V8_31) hZ (own_w hw 16 rfl) (own_w hw 3 rfl) (by decide) (by decide)) q32a q32c (g := (mkF m 46 #[.val (.int p0), .val (.int p1), .val (.int p2), .val (.int pn), .val (.ref b8), .val (.ref b30), .unset, .unset] [(.ref b30)])) rfl (by rw [hml]; rfl) (Steps.refl _) (argsL := []) (rest := []) (lenOf own_pd1 rfl) rfl (by show 2 * 0 + _ ≤ _; exact Nat.le_of_eq rfl) (hb hby at_46) (fun _ _ => ⟨rfl, rfl, (by decide : 2 + 0 ≤ _), (by decide : 17 + 0 ≤ _)⟩)
      dsimp only [Pt.U, Pt.locs, Pt.cells, Pt.slots] at X32 l32 y32 z32 st32 hQ32
      subst l32 y32 z32
      obtain ⟨rfl, Nq32, eq32⟩ := hQ32
      have N32 := Fr.app N31 Nq32
      refine own_pre (fun t k => st32.trans k) ?_
      refine own_pre (A := (T32.setTop (mkF m 53 #[.val (.int p0), .val (.int p1), .val (.int p2), .val (.int pn), .val (.ref b8), .val (.ref b30), .val (.int (own_hm (0 : Int32) pn)), .unset] [(.ref b30)]))) ?_ ?_
      · intro t k
        show Steps p.tables e below (T32.setTop (mkF m 49 #[.val (.int p0), .val (.int p1), .val (.int p2), .val (.int pn), .val (.ref b8), .val (.ref b30), .unset, .unset] [(.int (own_hm (0 : Int32) pn))])) _
        refine XS.istore X32.here hx rfl (hb hby at_49) rfl (l' := #[.val (.int p0), .val (.int p1), .val (.int p2), .val (.int pn), .val (.ref b8), .val (.ref b30), .val (.int (own_hm (0 : Int32) pn)), .unset]) rfl ?_
        show Steps p.tables e below (T32.setTop (mkF m 51 #[.val (.int p0), .val (.int p1), .val (.int p2), .val (.int pn), .val (.ref b8), .val (.ref b30), .val (.int (own_hm (0 : Int32) pn)), .unset] [])) _
        refine XS.aload X32.here hx rfl (hb hby at_51) rfl rfl ?_
        exact k
      obtain ⟨cq33, kq33, q33a, q33b, q33c⟩ := isOf hZ eq32 A30_31
      obtain ⟨_, _, ⟨T33, L33, k33, n33⟩, -, X33, ⟨Lc33, hQ33, l33, y33, z33⟩, st33⟩ := X32.virtualBack hx (y := (⟨"com/example/otito/otito/measure/LogReader", "hasMore", "()Z"⟩ : MethodName)) (z := (⟨"com/example/otito/otito/measure/LogReader", "hasMore", "()Z"⟩ : MethodName)) hown (mvT hZ (own_w hw 12 rfl)) (mvT hZ (own_w hw 13 rfl)) (notFace_of_selects (args := #[]) (mvT hZ (own_w hw 15 rfl))) (mvT hZ (own_w hw 15 rfl)) (mvT hZ (own_w hw 14 rfl)) (by decide) (backOf (W := 0) (rm3 l Z a0 hw [] b30 b8 (0 : Int32) pn T31.heap n0 Zs31 Fb31 Fl31 V8_31) hZ (own_w hw 16 rfl) (own_w hw 3 rfl) (by decide) (by decide)) q33a q33c (g := (mkF m 53 #[.val (.int p0), .val (.int p1), .val (.int p2), .val (.int pn), .val (.ref b8), .val (.ref b30), .val (.int (own_hm (0 : Int32) pn)), .unset] [(.ref b30)])) rfl (by rw [hml]; rfl) (Steps.refl _) (argsL := []) (rest := []) (lenOf own_pd1 rfl) rfl (by show 2 * 0 + _ ≤ _; exact Nat.le_of_eq rfl) (hb hby at_53) (fun _ _ => ⟨rfl, eq32, (by decide : 2 + 0 ≤ _), (by decide : 17 + 0 ≤ _)⟩)
      dsimp only [Pt.U, Pt.locs, Pt.cells, Pt.slots] at X33 l33 y33 z33 st33 hQ33
      subst l33 y33 z33
      obtain ⟨rfl, Nq33, eq33⟩ := hQ33
      have N33 := Fr.app N32 Nq33
      refine own_pre (fun t k => st33.trans k) ?_
      refine own_pre (A := (T33.setTop (mkF m 81 #[.val (.int p0), .val (.int p1), .val (.int p2), .val (.int pn), .val (.ref b8), .val (.ref b30), .val (.int (own_hm (0 : Int32) pn)), .val (.int (own_hm (0 : Int32) pn))] [(.ref b30)]))) ?_ ?_
      · intro t k
        show Steps p.tables e below (T33.setTop (mkF m 56 #[.val (.int p0), .val (.int p1), .val (.int p2), .val (.int pn), .val (.ref b8), .val (.ref b30), .val (.int (own_hm (0 : Int32) pn)), .unset] [(.int (own_hm (0 : Int32) pn))])) _
        refine XS.istore X33.here hx rfl (hb hby at_56) rfl (l' := #[.val (.int p0), .val (.int p1), .val (.int p2), .val (.int pn), .val (.ref b8), .val (.ref b30), .val (.int (own_hm (0 : Int32) pn)), .val (.int (own_hm (0 : Int32) pn))]) rfl ?_
        show Steps p.tables e below (T33.setTop (mkF m 58 #[.val (.int p0), .val (.int p1), .val (.int p2), .val (.int pn), .val (.ref b8), .val (.ref b30), .val (.int (own_hm (0 : Int32) pn)), .val (.int (own_hm (0 : Int32) pn))] [])) _
        refine XS.iload X33.here hx rfl (hb hby at_58) rfl ?_
        show Steps p.tables e below (T33.setTop (mkF m 60 #[.val (.int p0), .val (.int p1), .val (.int p2), .val (.int pn), .val (.ref b8), .val (.ref b30), .val (.int (own_hm (0 : Int32) pn)), .val (.int (own_hm (0 : Int32) pn))] [(.int (own_hm (0 : Int32) pn))])) _
        refine XS.iloadN X33.here hx rfl (hb hby at_60) rfl ?_
        show Steps p.tables e below (T33.setTop (mkF m 61 #[.val (.int p0), .val (.int p1), .val (.int p2), .val (.int pn), .val (.ref b8), .val (.ref b30), .val (.int (own_hm (0 : Int32) pn)), .val (.int (own_hm (0 : Int32) pn))] [(.int pn), (.int (own_hm (0 : Int32) pn))])) _
        refine XS.ifYes X33.here hx rfl (pc0 := 61) (pc' := 68) rfl (hb hby at_61) rfl ((if0 _ _).trans (flt hc9).2.2.2) (by decide) (by decide) ?_
        show Steps p.tables e below (T33.setTop (mkF m 68 #[.val (.int p0), .val (.int p1), .val (.int p2), .val (.int pn), .val (.ref b8), .val (.ref b30), .val (.int (own_hm (0 : Int32) pn)), .val (.int (own_hm (0 : Int32) pn))] [(.int (own_hm (0 : Int32) pn))])) _
        refine XS.iconst X33.here hx rfl (hb hby at_68) ?_
        show Steps p.tables e below (T33.setTop (mkF m 69 #[.val (.int p0), .val (.int p1), .val (.int p2), .val (.int pn), .val (.ref b8), .val (.ref b30), .val (.int (own_hm (0 : Int32) pn)), .val (.int (own_hm (0 : Int32) pn))] [(.int (0 : Int32)), (.int (own_hm (0 : Int32) pn))])) _
        refine XS.icmpNo X33.here hx rfl (hb hby at_69) rfl (teq (if_neg hc9 : (own_hm (0 : Int32) pn) = (0 : Int32))).2 ?_
        show Steps p.tables e below (T33.setTop (mkF m 72 #[.val (.int p0), .val (.int p1), .val (.int p2), .val (.int pn), .val (.ref b8), .val (.ref b30), .val (.int (own_hm (0 : Int32) pn)), .val (.int (own_hm (0 : Int32) pn))] [])) _
        refine XS.iload X33.here hx rfl (hb hby at_72) rfl ?_
        show Steps p.tables e below (T33.setTop (mkF m 74 #[.val (.int p0), .val (.int p1), .val (.int p2), .val (.int pn), .val (.ref b8), .val (.ref b30), .val (.int (own_hm (0 : Int32) pn)), .val (.int (own_hm (0 : Int32) pn))] [(.int (own_hm (0 : Int32) pn))])) _
        refine XS.iload X33.here hx rfl (hb hby at_74) rfl ?_
        show Steps p.tables e below (T33.setTop (mkF m 76 #[.val (.int p0), .val (.int p1), .val (.int p2), .val (.int pn), .val (.ref b8), .val (.ref b30), .val (.int (own_hm (0 : Int32) pn)), .val (.int (own_hm (0 : Int32) pn))] [(.int (own_hm (0 : Int32) pn)), (.int (own_hm (0 : Int32) pn))])) _
        refine XS.icmpNo X33.here hx rfl (hb hby at_76) rfl (teq (rfl : (own_hm (0 : Int32) pn) = (own_hm (0 : Int32) pn))).2 ?_
        show Steps p.tables e below (T33.setTop (mkF m 79 #[.val (.int p0), .val (.int p1), .val (.int p2), .val (.int pn), .val (.ref b8), .val (.ref b30), .val (.int (own_hm (0 : Int32) pn)), .val (.int (own_hm (0 : Int32) pn))] [])) _
        refine XS.aload X33.here hx rfl (hb hby at_79) rfl rfl ?_
        exact k
      obtain ⟨cq34, kq34, q34a, q34b, q34c⟩ := isOf hZ eq33 A30_31
      obtain ⟨_, _, ⟨T34, L34, k34, n34⟩, -, X34, ⟨Lc34, hQ34, l34, y34, z34⟩, st34⟩ := X33.virtualBack hx (y := (⟨"com/example/otito/otito/measure/LogReader", "length", "()I"⟩ : MethodName)) (z := (⟨"com/example/otito/otito/measure/LogReader", "length", "()I"⟩ : MethodName)) hown (mvT hZ (own_w hw 19 rfl)) (mvT hZ (own_w hw 20 rfl)) (notFace_of_selects (args := #[]) (mvT hZ (own_w hw 22 rfl))) (mvT hZ (own_w hw 22 rfl)) (mvT hZ (own_w hw 21 rfl)) (by decide) (backOf (W := 0) (rm4 l Z a0 hw [] b30 (0 : Int32) T31.heap n0 Zs31 Fl31) hZ (own_w hw 23 rfl) (own_w hw 3 rfl) (by decide) (by decide)) q34a q34c (g := (mkF m 81 #[.val (.int p0), .val (.int p1), .val (.int p2), .val (.int pn), .val (.ref b8), .val (.ref b30), .val (.int (own_hm (0 : Int32) pn)), .val (.int (own_hm (0 : Int32) pn))] [(.ref b30)])) rfl (by rw [hml]; rfl) (Steps.refl _) (argsL := []) (rest := []) (lenOf own_pd2 rfl) rfl (by show 2 * 0 + _ ≤ _; exact Nat.le_of_eq rfl) (hb hby at_81) (fun _ _ => ⟨rfl, eq33, (by decide : 2 + 0 ≤ _), (by decide : 17 + 0 ≤ _)⟩)
      dsimp only [Pt.U, Pt.locs, Pt.cells, Pt.slots] at X34 l34 y34 z34 st34 hQ34
      subst l34 y34 z34
      obtain ⟨Nq34, rfl, eq34⟩ := hQ34
      have N34 := Fr.app N33 Nq34
      refine own_pre (fun t k => st34.trans k) ?_
      refine own_pre (A := (T34.setTop (mkF m 92 #[.val (.int p0), .val (.int p1), .val (.int p2), .val (.int pn), .val (.ref b8), .val (.ref b30), .val (.int (own_hm (0 : Int32) pn)), .val (.int (own_hm (0 : Int32) pn))] [(.int (1 : Int32))]))) ?_ ?_
      · intro t k
        show Steps p.tables e below (T34.setTop (mkF m 84 #[.val (.int p0), .val (.int p1), .val (.int p2), .val (.int pn), .val (.ref b8), .val (.ref b30), .val (.int (own_hm (0 : Int32) pn)), .val (.int (own_hm (0 : Int32) pn))] [(.int (0 : Int32))])) _
        refine XS.ifNo X34.here hx rfl (hb hby at_84) rfl ((if0 _ _).trans (teq (by decide : (0 : Int32) = (0 : Int32))).2) ?_
        show Steps p.tables e below (T34.setTop (mkF m 87 #[.val (.int p0), .val (.int p1), .val (.int p2), .val (.int pn), .val (.ref b8), .val (.ref b30), .val (.int (own_hm (0 : Int32) pn)), .val (.int (own_hm (0 : Int32) pn))] [])) _
        refine XS.iconst X34.here hx rfl (hb hby at_87) ?_
        show Steps p.tables e below (T34.setTop (mkF m 88 #[.val (.int p0), .val (.int p1), .val (.int p2), .val (.int pn), .val (.ref b8), .val (.ref b30), .val (.int (own_hm (0 : Int32) pn)), .val (.int (own_hm (0 : Int32) pn))] [(.int (1 : Int32))])) _
        refine XS.goto X34.here hx rfl (pc0 := 88) (pc' := 92) rfl (hb hby at_88) (by decide) (by decide) ?_
        exact k
      obtain ⟨fs, hr, hrun, hended, hW, hsame⟩ := X34.leave (v := some (.int (1 : Int32))) (fun h => by rw [Bd.returns] at h; cases h)
      refine ⟨_, _, retOut X34 hx Bd.returns rfl (Or.inl ⟨rfl, Or.inr (Or.inl rfl), _, rfl⟩) (hb hby at_92) hr, hrun, hended, _, _, rfl, ?_, ⟨_, rfl⟩, hW, hsame.mono (by decide) (by decide)⟩
      show own_Q0 h0 n0 _ T34.heap _
      rw [eq34]
      exact ⟨rfl, N34⟩
set_option maxRecDepth 65536 in
set_option maxHeartbeats 40000000 in
theorem comes_1 {Post : Tables → Env → Array Value → State → Outcome → State → Prop} (hpost : ∀ tb e args s v u, (limb_1_1.after args s (.returned v) u = true ∧ limb_1_2.after args s (.returned v) u = true ∧ True) → FrameEnd s (.returned v) u (Jvm.fieldLocs frame_1_writes args s ++ Jvm.arrayLocs frame_1_arrays args s ++ Jvm.staticLocs frame_1_statics s) 16 128 → Post tb e args s (.returned v) u) :
    ArmFor flags0 classFile x code maxLocals ret World_1 tables_1 room_1 Calls_1 rest_1 Pre_1 Post := by
  intro l hfl _ _ p e ha hc hk s m args below hf hA hF happ hP
  obtain ⟨hcalls, hrest, hpre⟩ := hP
  obtain ⟨-, -, -, hnamed, -, -, -, hat⟩ := (Spec.applies_iff hf).mp happ
  obtain ⟨hg, hn⟩ := and_e (Cond.before_iff.mp (show (Jvm.Cond.and given_1 narrow_1).before args s = true from hpre))
  obtain ⟨gg1, gg2⟩ := and_e hg
  obtain ⟨gg3, gg4⟩ := and_e gg2
  obtain ⟨gg5, gg6⟩ := and_e gg4
  obtain ⟨w0, w1, w2, rfl⟩ : ∃ w0 w1 w2 : Value, args = #[w0, w1, w2] := by
    have hs : args.size = 3 := by simpa [Cond.value, given_1] using gg1
    obtain ⟨L⟩ := args
    match L, hs with
    | [w0, w1, w2], _ => exact ⟨w0, w1, w2, rfl⟩
  have hw := fun d (hd : d ∈ tables_1) => atoms_spec (ws := Jvm.Cond.code x code maxLocals ret :: tables_1) hat d (List.mem_cons_of_mem _ hd)
  obtain ⟨i0, ei0⟩ := is_v gg3
  obtain rfl : w0 = (.int i0) := Option.some.inj ei0
  obtain ⟨i1, ei1⟩ := is_v gg5
  obtain rfl : w1 = (.int i1) := Option.some.inj ei1
  obtain ⟨i2, ei2⟩ := is_v gg6
  obtain rfl : w2 = (.int i2) := Option.some.inj ei2
  obtain ⟨n, o, h1, h2, h3, _, L, rfl, ⟨rfl, N⟩, hq⟩ := rm0 l s _ hw tables_1 i0 i1 i2 s.heap s.heap.size (Nat.le_refl _) p e ha hc hk s m _ below hf ((Spec.applies_iff_loose hf).mp happ).1 ⟨rfl, State.Warmed39.refl s, rfl⟩ trivial
  refine ⟨n, _, h1, h2, h3, hpost _ _ _ _ _ _ ⟨Cond.after_iff.mpr rfl, Cond.after_iff.mpr (eq_i res_at (Term.int_eval (1)) rfl), trivial⟩ ⟨hq.1, hq.2.1, (hq.2.2.sift fun y hy => Or.inr (N y hy)).mono (by decide) (by decide)⟩⟩
theorem main_1_1 : Claimed_1_1 := comes_1 fun _ _ _ _ _ _ h hF => ⟨h.1, hF⟩
theorem main_1_2 : Claimed_1_2 := comes_1 fun _ _ _ _ _ _ h hF => ⟨h.2.1, hF⟩
end Jvm.Pilot.@@N@@
namespace Jvm.Pilot.@@N@@
open Jvm Jvm.ClassFile Sem Op Lib Jvm.Free Jvm.Stand Jvm.Pilot.@@N@@.Jvm.D
/-! MADE BY PROGRAM (witnessworld.py) out of the Statement's table words and the real class files: 9 classes; the members and pool entries that the words name. The judged class is class 1, her method 1. -/
namespace start1
open Jvm.ClassFile
def u (s : String) : CpInfo := .utf8 (stringToUtf16 s)
/-- a pool by its gaps: so many unusable entries, then the entry; so many at the end -/
def gap : Nat → List CpInfo → List CpInfo
  | 0, r => r
  | n + 1, r => .unusable :: gap n r
def poolList (es : List (Nat × CpInfo)) (last : Nat) : List CpInfo := es.foldr (fun e r => gap e.1 (e.2 :: r)) (gap last [])
def pool (es : List (Nat × CpInfo)) (last : Nat) : Array CpInfo := ⟨poolList es last⟩
def fileOf (pool : Array CpInfo) (this : Nat) (attrs : Array Attribute := #[]) (ms : Array MethodInfo := #[]) (fl : Nat := 33) (sup : Nat := 0) (ifs : Array Nat := #[]) (fds : Array FieldInfo := #[]) : ClassFile where
  minorVersion := 0
  majorVersion := 65
  constantPool := pool
  accessFlags := fl
  thisClass := this
  superClass := sup
  interfaces := ifs
  fields := fds
  methods := ms
  attributes := attrs
def plain (name : String) (sup : Option ClassId) : Class where
  name := name
  kind := .ordinary
  loader := none
  accessFlags := 33
  super := sup
  interfaces := #[]
  cf := none
  fields := #[]
  methods := #[]
  instanceTypes := #[]
  staticTypes := #[]
  resolved := #[]
  callSites := []
  init := .initialized
  statics := none
  mirror := none

def pool0 : Array CpInfo := pool [(5, u "<init>"), (0, u "()V"), (1, .class_ 10), (1, u "java/lang/Object")] 113

def k0c0 : Code := { maxStack := 0, maxLocals := 1, code := object_method_1_code, exceptionTable := #[], attributes := #[] }
def k0m0 : Method := { name := "<init>", desc := "()V", sig := { parameters := [], returnType := none }, accessFlags := 1, code := some k0c0 }
/-- java/lang/Object -/
def k0 : Class := { plain "java/lang/Object" none with
  accessFlags := 33
  interfaces := #[]
  cf := some (fileOf pool0 8 #[] #[{ accessFlags := 1, nameIndex := 5, descriptorIndex := 6, attributes := #[] }] 33 0 #[] #[])
  fields := #[]
  methods := #[k0m0]
  instanceTypes := #[]
  staticTypes := #[]
  resolved := Array.replicate 124 none
  statics := none }

def pool1 : Array CpInfo := pool [(2, .class_ 4), (1, u "java/lang/Object"), (0, u "<init>"), (0, u "()V"), (0, .class_ 8), (0, u "com/example/otito/otito/measure/LogReader"), (0, .methodref 7 10), (0, .nameAndType 5 11), (0, u "([B)V"), (0, .methodref 7 13), (0, .nameAndType 14 15), (0, u "hasMore"), (0, u "()Z"), (0, .methodref 7 17), (0, .nameAndType 18 19), (0, u "length"), (0, u "()I"), (0, .class_ 21), (0, u "com/example/otito/otito/measure/LogReaderHasMorePinLaw"), (2, u "law"), (0, u "(III)Z")] 5

def k1m0 : Method := { name := "<init>", desc := "()V", sig := { parameters := [], returnType := none }, accessFlags := 2, code := none }
def k1c1 : Code := { maxStack := 3, maxLocals := 8, code := code, exceptionTable := #[], attributes := #[] }
def k1m1 : Method := { name := "law", desc := "(III)Z", sig := { parameters := [.int, .int, .int], returnType := some .boolean }, accessFlags := 9, code := some k1c1 }
/-- com/example/otito/otito/measure/LogReaderHasMorePinLaw -/
def k1 : Class := { plain "com/example/otito/otito/measure/LogReaderHasMorePinLaw" (some 0) with
  accessFlags := 49
  interfaces := #[]
  cf := some (fileOf pool1 20 #[] #[{ accessFlags := 2, nameIndex := 5, descriptorIndex := 6, attributes := #[] }, { accessFlags := 9, nameIndex := 24, descriptorIndex := 25, attributes := #[] }] 49 2 #[] #[])
  fields := #[]
  methods := #[k1m0, k1m1]
  instanceTypes := #[]
  staticTypes := #[]
  resolved := Array.replicate 31 none
  statics := none }

def pool2 : Array CpInfo := pool [(1, .methodref 2 3), (0, .class_ 4), (0, .nameAndType 5 6), (0, u "java/lang/Object"), (0, u "<init>"), (0, u "()V"), (0, .fieldref 8 9), (0, .class_ 10), (0, .nameAndType 11 12), (0, u "com/example/otito/otito/measure/LogReader"), (0, u "bytes"), (0, u "[B"), (0, .fieldref 8 14), (0, .nameAndType 15 16), (0, u "length"), (0, u "I"), (42, u "([B)V"), (2, u "hasMore"), (0, u "()Z"), (8, u "()I")] 2

def k2c0 : Code := { maxStack := 2, maxLocals := 2, code := prog_36_method_1_code, exceptionTable := #[], attributes := #[] }
def k2m0 : Method := { name := "<init>", desc := "([B)V", sig := { parameters := [(.array .byte)], returnType := none }, accessFlags := 0, code := some k2c0 }
def k2c1 : Code := { maxStack := 2, maxLocals := 1, code := prog_36_method_2_code, exceptionTable := #[], attributes := #[] }
def k2m1 : Method := { name := "hasMore", desc := "()Z", sig := { parameters := [], returnType := some .boolean }, accessFlags := 0, code := some k2c1 }
def k2c2 : Code := { maxStack := 1, maxLocals := 1, code := prog_36_method_4_code, exceptionTable := #[], attributes := #[] }
def k2m2 : Method := { name := "length", desc := "()I", sig := { parameters := [], returnType := some .int }, accessFlags := 0, code := some k2c2 }
/-- com/example/otito/otito/measure/LogReader -/
def k2 : Class := { plain "com/example/otito/otito/measure/LogReader" (some 0) with
  accessFlags := 48
  interfaces := #[]
  cf := some (fileOf pool2 8 #[] #[{ accessFlags := 0, nameIndex := 5, descriptorIndex := 59, attributes := #[] }, { accessFlags := 0, nameIndex := 62, descriptorIndex := 63, attributes := #[] }, { accessFlags := 0, nameIndex := 15, descriptorIndex := 72, attributes := #[] }] 48 2 #[] #[{ accessFlags := 18, nameIndex := 11, descriptorIndex := 12, attributes := #[] }, { accessFlags := 2, nameIndex := 15, descriptorIndex := 16, attributes := #[] }])
  fields := #[{ name := "bytes", type := (.array .byte), accessFlags := 18, slot := 0, constantValue := 0 }, { name := "length", type := .int, accessFlags := 2, slot := 1, constantValue := 0 }]
  methods := #[k2m0, k2m1, k2m2]
  instanceTypes := #[(.array .byte), .int]
  staticTypes := #[]
  resolved := Array.replicate 75 none
  statics := none }

def pool3 : Array CpInfo := pool [(1, u "java/lang/Cloneable"), (0, .class_ 1), (0, u "java/lang/Object"), (0, .class_ 3)] 3

/-- java/lang/Cloneable -/
def k3 : Class := { plain "java/lang/Cloneable" (some 0) with
  accessFlags := 1537
  interfaces := #[]
  cf := some (fileOf pool3 2 #[] #[] 1537 4 #[] #[])
  fields := #[]
  methods := #[]
  instanceTypes := #[]
  staticTypes := #[]
  resolved := Array.replicate 8 none
  statics := none }

def pool4 : Array CpInfo := pool [(1, u "java/io/Serializable"), (0, .class_ 1), (0, u "java/lang/Object"), (0, .class_ 3)] 3

/-- java/io/Serializable -/
def k4 : Class := { plain "java/io/Serializable" (some 0) with
  accessFlags := 1537
  interfaces := #[]
  cf := some (fileOf pool4 2 #[] #[] 1537 4 #[] #[])
  fields := #[]
  methods := #[]
  instanceTypes := #[]
  staticTypes := #[]
  resolved := Array.replicate 8 none
  statics := none }

/-- the primitive byte -/
def k5 : Class := { plain "byte" none with kind := .primitive 'B', accessFlags := 0x411 }
/-- [B -/
def k6 : Class := { plain "[B" (some 0) with kind := .array 5 .byte, interfaces := #[3, 4], accessFlags := 1041 }

/-- the primitive int -/
def k7 : Class := { plain "int" none with kind := .primitive 'I', accessFlags := 0x411 }
/-- [I -/
def k8 : Class := { plain "[I" (some 0) with kind := .array 7 .int, interfaces := #[3, 4], accessFlags := 1041 }

def heap : Heap := #[]
def classes : Array Class := #[k0, k1, k2, k3, k4, k5, k6, k7, k8]
def interned : List (Array UInt16 × Addr) := []
def slotsUsed : Nat := 0
def theMethod : MethodId := ⟨1, 1⟩
def args0 : Array Value := #[.int 5, .int 7, .int 9]
def aboutOver (below : List Frame) : State where
  vm := { classes := classes, interned := interned.toArray }
  heap := heap
  slotsUsed := slotsUsed
  threads := #[{ frames := .invoking theMethod args0 :: below }]
def below0 : List Frame := [.native { method := ⟨0, 0⟩, args := #[] }]
def about1 : State := aboutOver below0
def p0 : Program := .bare "" "" ""
def e0 : Env := launch0.env 0 0 0
theorem w_frames : about1.frames = Frame.invoking theMethod args0 :: below0 := rfl
set_option maxRecDepth 65536 in
theorem w_args : argsFit about1.vm theMethod args0 = true := by decide +kernel
set_option maxRecDepth 65536 in
theorem w_heap : heapFits about1 = true := by decide +kernel
set_option maxRecDepth 65536 in
theorem w_runnable : about1.curStatus? = some .runnable := by decide +kernel
set_option maxRecDepth 65536 in
theorem w_alone : about1.alone = true := by decide +kernel
set_option maxRecDepth 65536 in
theorem w_named : about1.methodNamed? x = some theMethod := by decide +kernel
set_option maxRecDepth 65536 in
theorem w_hears : about1.hears theMethod below0 = true := by decide +kernel
set_option maxRecDepth 65536 in
theorem w_ripe : about1.ripe theMethod args0 below0 = true := by decide +kernel
theorem w_running : about1.status = .running := rfl
set_option maxRecDepth 65536 in
theorem w_room : about1.hasRoom e0.platform room_1 = true :=
  launch0.hasRoom_least _ room_1 (by decide +kernel) (by decide +kernel) (by decide +kernel) (by decide +kernel) (by decide +kernel) (by decide +kernel)
theorem allAtoms_all (ts : List Jvm.Cond) (a : Array Jvm.Value) (st : Jvm.State) : (allAtoms ts).before a st = ts.all (fun c => c.before a st) := by
  induction ts with
  | nil => rfl
  | cons c t ih =>
    show (Jvm.Cond.and c (allAtoms t)).before a st = _
    rw [Jvm.Cond.before_and, ih, List.all_cons]
def words1 : List Jvm.Cond := Jvm.Cond.code x code maxLocals ret :: tables_1
/-- a 'code' word, met by the world's own term for the bytes: nothing is compared byte by byte -/
theorem code_word {y : MethodName} {bytes : ByteArray} {mx : Nat} {rt : Option FieldType} {a : Array Value} {s : State} {m : MethodId} {meth : Method} {c : Code} (h1 : s.methodNamed? y = some m) (h2 : s.vm.method? m = some meth) (h3 : meth.code = some c) (h4 : c.code = bytes)
    (h5 : (c.maxLocals == mx && c.exceptionTable.isEmpty && decide (c.maxStack ≤ mostOperands) && decide (meth.sig.returnType = rt) && !meth.locks && decide (parseMethodDescriptor y.desc = some meth.sig)) = true) : (Jvm.Cond.code y bytes mx rt).before a s = true := by
  simp only [Bool.and_eq_true, beq_iff_eq, Bool.not_eq_true', decide_eq_true_eq] at h5
  obtain ⟨⟨⟨⟨⟨g1, g2⟩, g3⟩, g4⟩, g5⟩, g6⟩ := h5
  simp [Cond.before, Cond.holds, Cond.value, h1, h2, h3, h4, g1, g2, g3, g4, g5, g6]
def isCode : Jvm.Cond → Bool
  | .code _ _ _ _ => true
  | _ => false
theorem all_split {L : List Jvm.Cond} {P : Jvm.Cond → Bool} (h1 : L.all (fun c => isCode c || P c) = true) (h2 : ∀ c ∈ L.filter isCode, P c = true) : L.all P = true := by
  refine List.all_eq_true.mpr fun c hc => ?_
  have h := List.all_eq_true.mp h1 c hc
  rcases Bool.eq_false_or_eq_true (isCode c) with hi | hi
  · exact h2 c (List.mem_filter.mpr ⟨hc, hi⟩)
  · simpa [hi] using h
set_option maxRecDepth 65536 in
theorem w_c0 : (Jvm.Cond.code x code maxLocals ret).before args0 about1 = true := code_word (m := ⟨1, 1⟩) (meth := k1m1) (c := k1c1) (by decide +kernel) rfl rfl rfl (by decide +kernel)
set_option maxRecDepth 65536 in
theorem w_c1 : (Jvm.Cond.code ({ cls := "com/example/otito/otito/measure/LogReader", name := "<init>", desc := "([B)V" } : Jvm.MethodName) prog_36_method_1_code (2 : Nat) (Option.none : Option Jvm.ClassFile.FieldType)).before args0 about1 = true := code_word (m := ⟨2, 0⟩) (meth := k2m0) (c := k2c0) (by decide +kernel) rfl rfl rfl (by decide +kernel)
set_option maxRecDepth 65536 in
theorem w_c2 : (Jvm.Cond.code ({ cls := "java/lang/Object", name := "<init>", desc := "()V" } : Jvm.MethodName) object_method_1_code (1 : Nat) (Option.none : Option Jvm.ClassFile.FieldType)).before args0 about1 = true := code_word (m := ⟨0, 0⟩) (meth := k0m0) (c := k0c0) (by decide +kernel) rfl rfl rfl (by decide +kernel)
set_option maxRecDepth 65536 in
theorem w_c3 : (Jvm.Cond.code ({ cls := "com/example/otito/otito/measure/LogReader", name := "hasMore", desc := "()Z" } : Jvm.MethodName) prog_36_method_2_code (1 : Nat) (Option.some Jvm.ClassFile.FieldType.boolean)).before args0 about1 = true := code_word (m := ⟨2, 1⟩) (meth := k2m1) (c := k2c1) (by decide +kernel) rfl rfl rfl (by decide +kernel)
set_option maxRecDepth 65536 in
theorem w_c4 : (Jvm.Cond.code ({ cls := "com/example/otito/otito/measure/LogReader", name := "length", desc := "()I" } : Jvm.MethodName) prog_36_method_4_code (1 : Nat) (Option.some Jvm.ClassFile.FieldType.int)).before args0 about1 = true := code_word (m := ⟨2, 2⟩) (meth := k2m2) (c := k2c2) (by decide +kernel) rfl rfl rfl (by decide +kernel)
def codes1 : List Jvm.Cond := [Jvm.Cond.code x code maxLocals ret, Jvm.Cond.code ({ cls := "com/example/otito/otito/measure/LogReader", name := "<init>", desc := "([B)V" } : Jvm.MethodName) prog_36_method_1_code (2 : Nat) (Option.none : Option Jvm.ClassFile.FieldType), Jvm.Cond.code ({ cls := "java/lang/Object", name := "<init>", desc := "()V" } : Jvm.MethodName) object_method_1_code (1 : Nat) (Option.none : Option Jvm.ClassFile.FieldType), Jvm.Cond.code ({ cls := "com/example/otito/otito/measure/LogReader", name := "hasMore", desc := "()Z" } : Jvm.MethodName) prog_36_method_2_code (1 : Nat) (Option.some Jvm.ClassFile.FieldType.boolean), Jvm.Cond.code ({ cls := "com/example/otito/otito/measure/LogReader", name := "length", desc := "()I" } : Jvm.MethodName) prog_36_method_4_code (1 : Nat) (Option.some Jvm.ClassFile.FieldType.int)]
set_option maxRecDepth 65536 in
theorem codes_eq : words1.filter isCode = codes1 := rfl
theorem w_codes : ∀ c ∈ words1.filter isCode, c.before args0 about1 = true := by
  rw [codes_eq]
  intro c hc
  simp only [codes1, List.mem_cons, List.not_mem_nil, or_false] at hc
  rcases hc with rfl | rfl | rfl | rfl | rfl
  · exact w_c0
  · exact w_c1
  · exact w_c2
  · exact w_c3
  · exact w_c4
set_option maxRecDepth 65536 in
theorem w_t1 : (words1.take 24).all (fun c => isCode c || c.before args0 about1) = true := by decide +kernel
set_option maxRecDepth 65536 in
theorem w_t2 : (words1.drop 24).all (fun c => isCode c || c.before args0 about1) = true := by decide +kernel
theorem w_tables : (allAtoms (Jvm.Cond.code x code maxLocals ret :: tables_1)).before args0 about1 = true := by
  rw [allAtoms_all]
  show words1.all (fun c => c.before args0 about1) = true
  refine all_split ?_ w_codes
  rw [← List.take_append_drop 24 words1, List.all_append, w_t1, w_t2]
  rfl
set_option maxRecDepth 65536 in
theorem w_case : (Jvm.Cond.and given_1 narrow_1).before args0 about1 = true := by decide +kernel
theorem w_applies : (headSpec (Jvm.Cond.code x code maxLocals ret :: tables_1) room_1).applies x e0.platform about1 = true :=
  (Spec.applies_iff w_frames).mpr ⟨w_running, w_runnable, w_alone, w_named, w_hears, w_ripe, w_room, w_tables⟩
theorem atStart : AtStart classFile x code maxLocals ret World_1 tables_1 room_1 Calls_1 rest_1 Pre_1 launch0 p0 e0 about1 theMethod args0 below0 :=
  ⟨lists_1, trivial, launch0.admits_env _ _ _, launch0.least_env, fairChoices_fair.cas, fairChoices_fair.clock, w_frames, w_args, w_heap, w_applies, trivial, trivial, w_case⟩
end start1
theorem witness_1 : WitnessClaimed_1 := ⟨start1.p0, start1.e0, start1.about1, start1.theMethod, start1.args0, start1.below0, start1.atStart⟩
end Jvm.Pilot.@@N@@
