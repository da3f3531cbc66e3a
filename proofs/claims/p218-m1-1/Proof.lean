import JvmDerived
import JvmDerived.Pilot.@@N@@Statement
import JvmDerived.Pilot.@@N@@Code
set_option linter.unusedVariables false
set_option linter.unusedSimpArgs false

namespace Jvm.Pilot.@@N@@
open Jvm Jvm.ClassFile Sem Op Lib Jvm.Free Jvm.Stand Jvm.LawKit Jvm.RoadKit Bundle Jvm.Pilot.@@N@@.Jvm.D
theorem own_pre {tb : Tables} {e : Env} {below : List Frame} {A B : State} {C : State → Outcome → Prop} (k : ∀ t, Steps tb e below A t → Steps tb e below B t) (h : ∃ s₂ o, Steps tb e below A s₂ ∧ C s₂ o) : ∃ s₂ o, Steps tb e below B s₂ ∧ C s₂ o := by
  obtain ⟨s2, o, h1, h2⟩ := h
  exact ⟨s2, o, k _ h1, h2⟩
theorem own_frl {k : Nat} {L A B : List Loc} (l : L = A ++ B) (N : Fr k A) (M : Fr k B) : Fr k L := by rw [l]; exact Fr.app N M
theorem own_lrem {p : Program} {l : Launch} {e : Env} {R : Room} {s : State} {m : MethodId} {args : Array Value} {below : List Frame} {meth : Method} {c : Code} {T : State} {locs : List Loc} {cells slots : Nat} {g : JFrame} {target : State} (X : Stand p l e R s m args below meth c T locs cells slots) (hx : p.tables.exec = Jvm.exec) (hg : g.method = m) {x y : Int64} {rest : List Value} (hd : decode c.code g.pc = .ok (.lrem, 1)) (hs : g.stack = .long y :: .long x :: rest) (hy : y ≠ 0)
    (hr : Steps p.tables e below (T.setTop { g with pc := g.pc + 1, stack := .long (x % y) :: rest }) target) : Steps p.tables e below (T.setTop g) target :=
  XS.lrem X.here hx hg hd hs hy (by rw [lrem_mod]; exact hr)
theorem own_w {wl : List Jvm.Cond} {a0 : Array Value} {Z : State} (h : ∀ d ∈ wl, d.before a0 Z = true) (i : Nat) {d : Jvm.Cond} (g : wl[i]? = some d) : d.before a0 Z = true := h d (List.mem_of_getElem? g)

theorem own_pd0 : parseMethodDescriptor "(I)J" = some ⟨[.int], some .long⟩ := by decide +kernel
theorem own_pd1 : parseMethodDescriptor "(J)V" = some ⟨[.long], none⟩ := by decide +kernel
theorem own_pd2 : parseMethodDescriptor "(JJ)V" = some ⟨[.long, .long], none⟩ := by decide +kernel
def own_Al (Z : State) (h : Heap) (a : Addr) (ty : FieldType) (n : Int32) : Prop := ∃ c : Cell, Arr Z h a c ty ∧ c.slots.size = n.toNatClampNeg ∧ ¬ n < 0
theorem own_Al.lt {Z : State} {h : Heap} {a : Addr} {ty : FieldType} {n : Int32} (F : own_Al Z h a ty n) : a < h.size := by obtain ⟨c, A, -⟩ := F; exact A.lt
theorem own_Al.ext {Z : State} {h h' : Heap} {a : Addr} {ty : FieldType} {n : Int32} (F : own_Al Z h a ty n) (E : Ext h h') : own_Al Z h' a ty n := by obtain ⟨c, A, r⟩ := F; exact ⟨c, A.ext E, r⟩
theorem own_Al.other {Z : State} {h h' : Heap} {a b : Addr} {ty : FieldType} {n : Int32} {sl : Nat} {v : Value} (F : own_Al Z h b ty n) (W : Wr h h' a sl v) (q : b ≠ a) : own_Al Z h' b ty n := by obtain ⟨c, A, r⟩ := F; exact ⟨c, A.other W q, r⟩
theorem own_Al.keep {Z : State} {h h' : Heap} {a : Addr} {ty : FieldType} {n : Int32} {ws : List Addr} (F : own_Al Z h a ty n) (K : Keep h h' ws) (q : a ∉ ws) : own_Al Z h' a ty n := by obtain ⟨c, A, r⟩ := F; exact ⟨c, ⟨K.2.1 a c A.1 q, A.2⟩, r⟩
def own_SI (Z : State) (h : Heap) (n0 : Nat) (a ap ar at' : Addr) (kp ks : ClassId) (en ct : Int32) (qe ql : Int64) (p0 p1 p2 p3 : Int32) (s0 s1 s2 s3 : Int64) : Prop :=
  Exa Z h a "com/example/coho/coho/eventlog/SegmentIndex" ∧ Fld Z h a "com/example/coho/coho/eventlog/SegmentIndex" "places" "[I" (.ref ap) ∧ Fld Z h a "com/example/coho/coho/eventlog/SegmentIndex" "starts" "[J" (.ref ar) ∧ Fld Z h a "com/example/coho/coho/eventlog/SegmentIndex" "times" "[J" (.ref at') ∧ Fld Z h a "com/example/coho/coho/eventlog/SegmentIndex" "entries" "I" (.int en) ∧ Fld Z h a "com/example/coho/coho/eventlog/SegmentIndex" "count" "I" (.int ct) ∧ Fld Z h a "com/example/coho/coho/eventlog/SegmentIndex" "end" "J" (.long qe) ∧ Fld Z h a "com/example/coho/coho/eventlog/SegmentIndex" "lastTime" "J" (.long ql) ∧
  Arv Z h ap kp .int (4 : Int32) [(.int p0), (.int p1), (.int p2), (.int p3)] (.int (0 : Int32)) ∧ Arv Z h ar ks .long (4 : Int32) [(.long s0), (.long s1), (.long s2), (.long s3)] (.long (0 : Int64)) ∧ own_Al Z h at' .long (4 : Int32) ∧
  a ≠ ap ∧ a ≠ ar ∧ a ≠ at' ∧ ap ≠ ar ∧ ap ≠ at' ∧ ar ≠ at' ∧ n0 ≤ a ∧ n0 ≤ ap ∧ n0 ≤ ar ∧ n0 ≤ at'
theorem d1_0 : decode prog_34_method_1_code 0 = .ok (.aload_n 0, 1) := by decide +kernel
theorem d1_1 : decode prog_34_method_1_code 1 = .ok (.invokespecial 1, 3) := by decide +kernel
theorem d1_4 : decode prog_34_method_1_code 4 = .ok (.aload_n 0, 1) := by decide +kernel
theorem d1_5 : decode prog_34_method_1_code 5 = .ok (.iconst 4, 1) := by decide +kernel
theorem d1_6 : decode prog_34_method_1_code 6 = .ok (.newarray .int, 2) := by decide +kernel
theorem d1_8 : decode prog_34_method_1_code 8 = .ok (.putfield 7, 3) := by decide +kernel
theorem d1_11 : decode prog_34_method_1_code 11 = .ok (.aload_n 0, 1) := by decide +kernel
theorem d1_12 : decode prog_34_method_1_code 12 = .ok (.iconst 4, 1) := by decide +kernel
theorem d1_13 : decode prog_34_method_1_code 13 = .ok (.newarray .long, 2) := by decide +kernel
theorem d1_15 : decode prog_34_method_1_code 15 = .ok (.putfield 13, 3) := by decide +kernel
theorem d1_18 : decode prog_34_method_1_code 18 = .ok (.aload_n 0, 1) := by decide +kernel
theorem d1_19 : decode prog_34_method_1_code 19 = .ok (.iconst 4, 1) := by decide +kernel
theorem d1_20 : decode prog_34_method_1_code 20 = .ok (.newarray .long, 2) := by decide +kernel
theorem d1_22 : decode prog_34_method_1_code 22 = .ok (.putfield 17, 3) := by decide +kernel
theorem d1_25 : decode prog_34_method_1_code 25 = .ok (.aload_n 0, 1) := by decide +kernel
theorem d1_26 : decode prog_34_method_1_code 26 = .ok (.ldc2_w 22, 3) := by decide +kernel
theorem d1_29 : decode prog_34_method_1_code 29 = .ok (.putfield 24, 3) := by decide +kernel
theorem d1_32 : decode prog_34_method_1_code 32 = .ok (.aload_n 0, 1) := by decide +kernel
theorem d1_33 : decode prog_34_method_1_code 33 = .ok (.lload_n 1, 1) := by decide +kernel
theorem d1_34 : decode prog_34_method_1_code 34 = .ok (.putfield 28, 3) := by decide +kernel
theorem d1_37 : decode prog_34_method_1_code 37 = .ok (.return_, 1) := by decide +kernel
theorem own_pn1 : plainName "com/example/coho/coho/eventlog/SegmentIndex" = true := by first | (simp [plainName, overriddenIn]; done) | decide +kernel
theorem own_ef1 (m : MethodId) (x0 : Addr) (x1 : Int64) : entryFrame m #[(.ref x0), (.long x1)] 3 = mkF m 0 #[.val (.ref x0), .val (.long x1), .second] [] := by first | (simp [entryFrame, mkF, argsToLocals, Value.category]; done) | rfl
def own_Q1 (Z : State) (ax : Addr) (qs : Int64) (h0 : Heap) (n0 : Nat) (v : Option Value) (h : Heap) (L : List Loc) : Prop := v = none ∧ Fr n0 L ∧ ∃ (ap ar at' : Addr) (kp ks : ClassId), Keep h0 h [ax] ∧ h0.size ≤ ap ∧ h0.size ≤ ar ∧ h0.size ≤ at' ∧ own_SI Z h n0 ax ap ar at' kp ks (0 : Int32) (0 : Int32) qs (-9223372036854775808 : Int64) (0 : Int32) (0 : Int32) (0 : Int32) (0 : Int32) (0 : Int64) (0 : Int64) (0 : Int64) (0 : Int64)
set_option maxRecDepth 65536 in
set_option maxHeartbeats 40000000 in
theorem rm1 (l : Launch) (Z : State) (a0 : Array Value) (hw : ∀ d ∈ tables_1, d.before a0 Z = true) (ws : List Jvm.Cond) (ax : Addr) (qs : Int64) (h0 : Heap) (n0 : Nat) (Z0 : n0 ≤ h0.size) (Ea : Exa Z h0 ax "com/example/coho/coho/eventlog/SegmentIndex") (Fplaces : Fld Z h0 ax "com/example/coho/coho/eventlog/SegmentIndex" "places" "[I" .null) (Fstarts : Fld Z h0 ax "com/example/coho/coho/eventlog/SegmentIndex" "starts" "[J" .null) (Ftimes : Fld Z h0 ax "com/example/coho/coho/eventlog/SegmentIndex" "times" "[J" .null) (Fentries : Fld Z h0 ax "com/example/coho/coho/eventlog/SegmentIndex" "entries" "I" (.int (0 : Int32))) (Fcount : Fld Z h0 ax "com/example/coho/coho/eventlog/SegmentIndex" "count" "I" (.int (0 : Int32))) (Fend : Fld Z h0 ax "com/example/coho/coho/eventlog/SegmentIndex" "end" "J" (.long (0 : Int64))) (FlastTime : Fld Z h0 ax "com/example/coho/coho/eventlog/SegmentIndex" "lastTime" "J" (.long (0 : Int64))) (ga : n0 ≤ ax) :
    MetFree l (⟨"com/example/coho/coho/eventlog/SegmentIndex", "<init>", "(J)V"⟩ : MethodName) (head1 (Jvm.Cond.code (⟨"com/example/coho/coho/eventlog/SegmentIndex", "<init>", "(J)V"⟩ : MethodName) prog_34_method_1_code 3 none :: ws) ({ frames := 1, cells := 3, slots := 12, locals := 12 } : Room)) (fun a U => a = #[(.ref ax), (.long qs)] ∧ Z.Warmed39 U.vm ∧ U.heap = h0) (fun _ _ _ _ _ => True) (fun _ U o U' => ∃ v L, o = .returned v ∧ own_Q1 Z ax qs h0 n0 v U'.heap L ∧ FrameEnd U o U' L ({ frames := 1, cells := 3, slots := 12, locals := 12 } : Room).cells ({ frames := 1, cells := 3, slots := 12, locals := 12 } : Room).slots) := by
  refine MetFree.of_bodySF (plainFor_of_name own_pn1) hisR ?_
  intro p e s m args below meth c s₁ Bd hml0 hP hK
  obtain ⟨rfl, hZ, hh⟩ := hP
  have hx := Bd.exec
  have hby := Bd.bytes
  have hml : c.maxLocals = 3 := hml0
  have hown : s.vm.findClass "com/example/coho/coho/eventlog/SegmentIndex" = some m.cls := findClass_of_methodNamed Bd.named
  have hnm := (name_of_methodNamed Bd.named Bd.method).1
  have X0 : Stand p l e ({ frames := 1, cells := 3, slots := 12, locals := 12 } : Room) s m #[(.ref ax), (.long qs)] below meth c s₁ [] 0 0 := Stand.of_body Bd
  have e0 : s₁.heap = h0 := by rw [← hh, Bd.state]; rfl
  have N0 := Fr.nil n0
  refine own_pre (A := (s₁.setTop (mkF m 0 #[.val (.ref ax), .val (.long qs), .second] []))) (fun t k => castTop (own_ef1 m ax qs) k) ?_
  refine own_pre (A := (s₁.setTop (mkF m 1 #[.val (.ref ax), .val (.long qs), .second] [(.ref ax)]))) ?_ ?_
  · intro t k
    refine XS.aloadN X0.here hx rfl (hb hby d1_0) rfl rfl ?_
    exact k
  obtain ⟨T1, X1, e1, st1⟩ := initO X0 hx hZ hown (own_w hw 9 rfl) (own_w hw 10 rfl) (own_w hw 11 rfl) e0 (g := (mkF m 1 #[.val (.ref ax), .val (.long qs), .second] [(.ref ax)])) rfl (by rw [hml]; rfl) rfl (hb hby d1_1) (by decide) (W := 0) (by show 2 * 0 + _ ≤ _; exact Nat.le_of_eq rfl) (by decide)
  refine own_pre (fun t k => st1 t k) ?_
  refine own_pre (A := (T1.setTop (mkF m 6 #[.val (.ref ax), .val (.long qs), .second] [(.int (4 : Int32)), (.ref ax)]))) ?_ ?_
  · intro t k
    refine XS.aloadN X1.here hx rfl (hb hby d1_4) rfl rfl ?_
    refine XS.iconst X1.here hx rfl (hb hby d1_5) ?_
    exact k
  obtain ⟨T2, h2, k2, X2, e2, E2, A2, st2⟩ := newP X1 hx hZ (own_w hw 2 rfl) e1 (g := (mkF m 6 #[.val (.ref ax), .val (.long qs), .second] [(.int (4 : Int32)), (.ref ax)])) rfl (hb hby d1_6) rfl (by decide) (cap := 4) (by decide) (by decide) (by decide) (by decide)
  obtain ⟨b2, g2⟩ : ∃ z, z = h0.size := ⟨_, rfl⟩
  rw [← g2] at A2 st2
  have ne_ax_b2 : ax ≠ b2 := Nat.ne_of_lt (Nat.lt_of_lt_of_le Ea.lt (Nat.le_of_eq g2.symm))
  have gn_b2 : n0 ≤ b2 := Nat.le_trans Z0 (Nat.le_of_eq g2.symm)
  have sz_b2 : h0.size ≤ b2 := Nat.le_trans (Keep.refl h0 [ax]).1 (Nat.le_of_eq g2.symm)
  have Ea_2 := Ea.ext E2
  have Fplaces_2 := Fplaces.ext E2
  have Fstarts_2 := Fstarts.ext E2
  have Ftimes_2 := Ftimes.ext E2
  have Fentries_2 := Fentries.ext E2
  have Fcount_2 := Fcount.ext E2
  have Fend_2 := Fend.ext E2
  have FlastTime_2 := FlastTime.ext E2
  have Zs2 : n0 ≤ h2.size := Nat.le_trans Z0 E2.1
  have Kc2 : Keep h0 h2 [ax] := (Keep.refl h0 [ax]).ext E2
  have V2 : Arv Z h2 b2 k2 .int (4 : Int32) [(.int (0 : Int32)), (.int (0 : Int32)), (.int (0 : Int32)), (.int (0 : Int32))] (.int (0 : Int32)) := (Arv.new A2 (by decide)).pad (pad_rep [] (.int (0 : Int32)) 4)
  refine own_pre (fun t k => st2 t k) ?_
  obtain ⟨T3, h3, X3, e3, W3, st3⟩ := putF X2 hx hZ hown (host := "") (Or.inl (own_w hw 12 rfl)) Via.refl e2 Fplaces_2 Ea_2 (Or.inl (own_w hw 13 rfl)) (own_w hw 4 rfl) (ty := (.array .int)) (by decide) rfl rfl (g := (mkF m 8 #[.val (.ref ax), .val (.long qs), .second] [(.ref b2), (.ref ax)])) rfl rfl (hb hby d1_8)
  have Ea_3 := Ea_2.wr W3
  have Fstarts_3 := Fstarts_2.other W3 (Or.inr (slot_ne (Or.inl (own_w hw 16 rfl)) (Or.inl (own_w hw 13 rfl)) (by decide) (t := (.array .long)) (t' := (.array .int)) (by decide) (by decide)))
  have Ftimes_3 := Ftimes_2.other W3 (Or.inr (slot_ne (Or.inl (own_w hw 18 rfl)) (Or.inl (own_w hw 13 rfl)) (by decide) (t := (.array .long)) (t' := (.array .int)) (by decide) (by decide)))
  have Fentries_3 := Fentries_2.other W3 (Or.inr (slot_ne (Or.inl (own_w hw 30 rfl)) (Or.inl (own_w hw 13 rfl)) (by decide) (t := .int) (t' := (.array .int)) (by decide) (by decide)))
  have Fcount_3 := Fcount_2.other W3 (Or.inr (slot_ne (Or.inl (own_w hw 32 rfl)) (Or.inl (own_w hw 13 rfl)) (by decide) (t := .int) (t' := (.array .int)) (by decide) (by decide)))
  have Fend_3 := Fend_2.other W3 (Or.inr (slot_ne (Or.inl (own_w hw 23 rfl)) (Or.inl (own_w hw 13 rfl)) (by decide) (t := .long) (t' := (.array .int)) (by decide) (by decide)))
  have FlastTime_3 := FlastTime_2.other W3 (Or.inr (slot_ne (Or.inl (own_w hw 21 rfl)) (Or.inl (own_w hw 13 rfl)) (by decide) (t := .long) (t' := (.array .int)) (by decide) (by decide)))
  have V2_3 := V2.other W3 ne_ax_b2.symm
  have Zs3 : n0 ≤ h3.size := Nat.le_trans Zs2 (Keep.of_wr W3).1
  have Kc3 : Keep h0 h3 [ax] := Kc2.wr W3 (Or.inl (List.mem_of_getElem? (i := 0) rfl))
  have N3 := Fr.snoc X3 N0 ga
  have Fw3 := Fplaces_2.same W3
  refine own_pre (fun t k => st3 t k) ?_
  refine own_pre (A := (T3.setTop (mkF m 13 #[.val (.ref ax), .val (.long qs), .second] [(.int (4 : Int32)), (.ref ax)]))) ?_ ?_
  · intro t k
    refine XS.aloadN X3.here hx rfl (hb hby d1_11) rfl rfl ?_
    refine XS.iconst X3.here hx rfl (hb hby d1_12) ?_
    exact k
  obtain ⟨T4, h4, k4, X4, e4, E4, A4, st4⟩ := newP X3 hx hZ (own_w hw 14 rfl) e3 (g := (mkF m 13 #[.val (.ref ax), .val (.long qs), .second] [(.int (4 : Int32)), (.ref ax)])) rfl (hb hby d1_13) rfl (by decide) (cap := 4) (by decide) (by decide) (by decide) (by decide)
  obtain ⟨b4, g4⟩ : ∃ z, z = h3.size := ⟨_, rfl⟩
  rw [← g4] at A4 st4
  have ne_ax_b4 : ax ≠ b4 := Nat.ne_of_lt (Nat.lt_of_lt_of_le Ea_3.lt (Nat.le_of_eq g4.symm))
  have ne_b2_b4 : b2 ≠ b4 := Nat.ne_of_lt (Nat.lt_of_lt_of_le V2_3.lt (Nat.le_of_eq g4.symm))
  have gn_b4 : n0 ≤ b4 := Nat.le_trans Zs3 (Nat.le_of_eq g4.symm)
  have sz_b4 : h0.size ≤ b4 := Nat.le_trans Kc3.1 (Nat.le_of_eq g4.symm)
  have Ea_4 := Ea_3.ext E4
  have Fw3_4 := Fw3.ext E4
  have Fstarts_4 := Fstarts_3.ext E4
  have Ftimes_4 := Ftimes_3.ext E4
  have Fentries_4 := Fentries_3.ext E4
  have Fcount_4 := Fcount_3.ext E4
  have Fend_4 := Fend_3.ext E4
  have FlastTime_4 := FlastTime_3.ext E4
  have V2_4 := V2_3.ext E4
  have Zs4 : n0 ≤ h4.size := Nat.le_trans Zs3 E4.1
  have Kc4 : Keep h0 h4 [ax] := Kc3.ext E4
  have V4 : Arv Z h4 b4 k4 .long (4 : Int32) [(.long (0 : Int64)), (.long (0 : Int64)), (.long (0 : Int64)), (.long (0 : Int64))] (.long (0 : Int64)) := (Arv.new A4 (by decide)).pad (pad_rep [] (.long (0 : Int64)) 4)
  refine own_pre (fun t k => st4 t k) ?_
  obtain ⟨T5, h5, X5, e5, W5, st5⟩ := putF X4 hx hZ hown (host := "") (Or.inl (own_w hw 15 rfl)) Via.refl e4 Fstarts_4 Ea_4 (Or.inl (own_w hw 16 rfl)) (own_w hw 4 rfl) (ty := (.array .long)) (by decide) rfl rfl (g := (mkF m 15 #[.val (.ref ax), .val (.long qs), .second] [(.ref b4), (.ref ax)])) rfl rfl (hb hby d1_15)
  have Ea_5 := Ea_4.wr W5
  have Fw3_5 := Fw3_4.other W5 (Or.inr (slot_ne (Or.inl (own_w hw 13 rfl)) (Or.inl (own_w hw 16 rfl)) (by decide) (t := (.array .int)) (t' := (.array .long)) (by decide) (by decide)))
  have Ftimes_5 := Ftimes_4.other W5 (Or.inr (slot_ne (Or.inl (own_w hw 18 rfl)) (Or.inl (own_w hw 16 rfl)) (by decide) (t := (.array .long)) (t' := (.array .long)) (by decide) (by decide)))
  have Fentries_5 := Fentries_4.other W5 (Or.inr (slot_ne (Or.inl (own_w hw 30 rfl)) (Or.inl (own_w hw 16 rfl)) (by decide) (t := .int) (t' := (.array .long)) (by decide) (by decide)))
  have Fcount_5 := Fcount_4.other W5 (Or.inr (slot_ne (Or.inl (own_w hw 32 rfl)) (Or.inl (own_w hw 16 rfl)) (by decide) (t := .int) (t' := (.array .long)) (by decide) (by decide)))
  have Fend_5 := Fend_4.other W5 (Or.inr (slot_ne (Or.inl (own_w hw 23 rfl)) (Or.inl (own_w hw 16 rfl)) (by decide) (t := .long) (t' := (.array .long)) (by decide) (by decide)))
  have FlastTime_5 := FlastTime_4.other W5 (Or.inr (slot_ne (Or.inl (own_w hw 21 rfl)) (Or.inl (own_w hw 16 rfl)) (by decide) (t := .long) (t' := (.array .long)) (by decide) (by decide)))
  have V2_5 := V2_4.other W5 ne_ax_b2.symm
  have V4_5 := V4.other W5 ne_ax_b4.symm
  have Zs5 : n0 ≤ h5.size := Nat.le_trans Zs4 (Keep.of_wr W5).1
  have Kc5 : Keep h0 h5 [ax] := Kc4.wr W5 (Or.inl (List.mem_of_getElem? (i := 0) rfl))
  have N5 := Fr.snoc X5 N3 ga
  have Fw5 := Fstarts_4.same W5
  refine own_pre (fun t k => st5 t k) ?_
  refine own_pre (A := (T5.setTop (mkF m 20 #[.val (.ref ax), .val (.long qs), .second] [(.int (4 : Int32)), (.ref ax)]))) ?_ ?_
  · intro t k
    refine XS.aloadN X5.here hx rfl (hb hby d1_18) rfl rfl ?_
    refine XS.iconst X5.here hx rfl (hb hby d1_19) ?_
    exact k
  obtain ⟨T6, h6, k6, X6, e6, E6, A6, st6⟩ := newP X5 hx hZ (own_w hw 14 rfl) e5 (g := (mkF m 20 #[.val (.ref ax), .val (.long qs), .second] [(.int (4 : Int32)), (.ref ax)])) rfl (hb hby d1_20) rfl (by decide) (cap := 4) (by decide) (by decide) (by decide) (by decide)
  obtain ⟨b6, g6⟩ : ∃ z, z = h5.size := ⟨_, rfl⟩
  rw [← g6] at A6 st6
  have ne_ax_b6 : ax ≠ b6 := Nat.ne_of_lt (Nat.lt_of_lt_of_le Ea_5.lt (Nat.le_of_eq g6.symm))
  have ne_b2_b6 : b2 ≠ b6 := Nat.ne_of_lt (Nat.lt_of_lt_of_le V2_5.lt (Nat.le_of_eq g6.symm))
  have ne_b4_b6 : b4 ≠ b6 := Nat.ne_of_lt (Nat.lt_of_lt_of_le V4_5.lt (Nat.le_of_eq g6.symm))
  have gn_b6 : n0 ≤ b6 := Nat.le_trans Zs5 (Nat.le_of_eq g6.symm)
  have sz_b6 : h0.size ≤ b6 := Nat.le_trans Kc5.1 (Nat.le_of_eq g6.symm)
  have Ea_6 := Ea_5.ext E6
  have Fw3_6 := Fw3_5.ext E6
  have Fw5_6 := Fw5.ext E6
  have Ftimes_6 := Ftimes_5.ext E6
  have Fentries_6 := Fentries_5.ext E6
  have Fcount_6 := Fcount_5.ext E6
  have Fend_6 := Fend_5.ext E6
  have FlastTime_6 := FlastTime_5.ext E6
  have V2_6 := V2_5.ext E6
  have V4_6 := V4_5.ext E6
  have Kc6 : Keep h0 h6 [ax] := Kc5.ext E6
  have V6 : own_Al Z h6 b6 .long (4 : Int32) := ⟨_, A6, sz_new _ _ _, (by decide)⟩
  refine own_pre (fun t k => st6 t k) ?_
  obtain ⟨T7, h7, X7, e7, W7, st7⟩ := putF X6 hx hZ hown (host := "") (Or.inl (own_w hw 17 rfl)) Via.refl e6 Ftimes_6 Ea_6 (Or.inl (own_w hw 18 rfl)) (own_w hw 4 rfl) (ty := (.array .long)) (by decide) rfl rfl (g := (mkF m 22 #[.val (.ref ax), .val (.long qs), .second] [(.ref b6), (.ref ax)])) rfl rfl (hb hby d1_22)
  have Ea_7 := Ea_6.wr W7
  have Fw3_7 := Fw3_6.other W7 (Or.inr (slot_ne (Or.inl (own_w hw 13 rfl)) (Or.inl (own_w hw 18 rfl)) (by decide) (t := (.array .int)) (t' := (.array .long)) (by decide) (by decide)))
  have Fw5_7 := Fw5_6.other W7 (Or.inr (slot_ne (Or.inl (own_w hw 16 rfl)) (Or.inl (own_w hw 18 rfl)) (by decide) (t := (.array .long)) (t' := (.array .long)) (by decide) (by decide)))
  have Fentries_7 := Fentries_6.other W7 (Or.inr (slot_ne (Or.inl (own_w hw 30 rfl)) (Or.inl (own_w hw 18 rfl)) (by decide) (t := .int) (t' := (.array .long)) (by decide) (by decide)))
  have Fcount_7 := Fcount_6.other W7 (Or.inr (slot_ne (Or.inl (own_w hw 32 rfl)) (Or.inl (own_w hw 18 rfl)) (by decide) (t := .int) (t' := (.array .long)) (by decide) (by decide)))
  have Fend_7 := Fend_6.other W7 (Or.inr (slot_ne (Or.inl (own_w hw 23 rfl)) (Or.inl (own_w hw 18 rfl)) (by decide) (t := .long) (t' := (.array .long)) (by decide) (by decide)))
  have FlastTime_7 := FlastTime_6.other W7 (Or.inr (slot_ne (Or.inl (own_w hw 21 rfl)) (Or.inl (own_w hw 18 rfl)) (by decide) (t := .long) (t' := (.array .long)) (by decide) (by decide)))
  have V2_7 := V2_6.other W7 ne_ax_b2.symm
  have V4_7 := V4_6.other W7 ne_ax_b4.symm
  have V6_7 := V6.other W7 ne_ax_b6.symm
  have Kc7 : Keep h0 h7 [ax] := Kc6.wr W7 (Or.inl (List.mem_of_getElem? (i := 0) rfl))
  have N7 := Fr.snoc X7 N5 ga
  have Fw7 := Ftimes_6.same W7
  refine own_pre (fun t k => st7 t k) ?_
  refine own_pre (A := (T7.setTop (mkF m 29 #[.val (.ref ax), .val (.long qs), .second] [(.long (-9223372036854775808 : Int64)), (.ref ax)]))) ?_ ?_
  · intro t k
    refine XS.aloadN X7.here hx rfl (hb hby d1_25) rfl rfl ?_
    show Steps p.tables e below (T7.setTop (mkF m 26 #[.val (.ref ax), .val (.long qs), .second] [(.ref ax)])) _
    refine X7.ldc2Long hx hown (mvT hZ (own_w hw 19 rfl)) (g := (mkF m 26 #[.val (.ref ax), .val (.long qs), .second] [(.ref ax)])) rfl (hb hby d1_26) _ ?_
    exact k
  obtain ⟨T8, h8, X8, e8, W8, st8⟩ := putF X7 hx hZ hown (host := "") (Or.inl (own_w hw 20 rfl)) Via.refl e7 FlastTime_7 Ea_7 (Or.inl (own_w hw 21 rfl)) (own_w hw 4 rfl) (ty := .long) (by decide) rfl rfl (g := (mkF m 29 #[.val (.ref ax), .val (.long qs), .second] [(.long (-9223372036854775808 : Int64)), (.ref ax)])) rfl rfl (hb hby d1_29)
  have Ea_8 := Ea_7.wr W8
  have Fw3_8 := Fw3_7.other W8 (Or.inr (slot_ne (Or.inl (own_w hw 13 rfl)) (Or.inl (own_w hw 21 rfl)) (by decide) (t := (.array .int)) (t' := .long) (by decide) (by decide)))
  have Fw5_8 := Fw5_7.other W8 (Or.inr (slot_ne (Or.inl (own_w hw 16 rfl)) (Or.inl (own_w hw 21 rfl)) (by decide) (t := (.array .long)) (t' := .long) (by decide) (by decide)))
  have Fw7_8 := Fw7.other W8 (Or.inr (slot_ne (Or.inl (own_w hw 18 rfl)) (Or.inl (own_w hw 21 rfl)) (by decide) (t := (.array .long)) (t' := .long) (by decide) (by decide)))
  have Fentries_8 := Fentries_7.other W8 (Or.inr (slot_ne (Or.inl (own_w hw 30 rfl)) (Or.inl (own_w hw 21 rfl)) (by decide) (t := .int) (t' := .long) (by decide) (by decide)))
  have Fcount_8 := Fcount_7.other W8 (Or.inr (slot_ne (Or.inl (own_w hw 32 rfl)) (Or.inl (own_w hw 21 rfl)) (by decide) (t := .int) (t' := .long) (by decide) (by decide)))
  have Fend_8 := Fend_7.other W8 (Or.inr (slot_ne (Or.inl (own_w hw 23 rfl)) (Or.inl (own_w hw 21 rfl)) (by decide) (t := .long) (t' := .long) (by decide) (by decide)))
  have V2_8 := V2_7.other W8 ne_ax_b2.symm
  have V4_8 := V4_7.other W8 ne_ax_b4.symm
  have V6_8 := V6_7.other W8 ne_ax_b6.symm
  have Kc8 : Keep h0 h8 [ax] := Kc7.wr W8 (Or.inl (List.mem_of_getElem? (i := 0) rfl))
  have N8 := Fr.snoc X8 N7 ga
  have Fw8 := FlastTime_7.same W8
  refine own_pre (fun t k => st8 t k) ?_
  refine own_pre (A := (T8.setTop (mkF m 34 #[.val (.ref ax), .val (.long qs), .second] [(.long qs), (.ref ax)]))) ?_ ?_
  · intro t k
    refine XS.aloadN X8.here hx rfl (hb hby d1_32) rfl rfl ?_
    refine XS.lloadN X8.here hx rfl (hb hby d1_33) rfl ?_
    exact k
  obtain ⟨T9, h9, X9, e9, W9, st9⟩ := putF X8 hx hZ hown (host := "") (Or.inl (own_w hw 22 rfl)) Via.refl e8 Fend_8 Ea_8 (Or.inl (own_w hw 23 rfl)) (own_w hw 4 rfl) (ty := .long) (by decide) rfl rfl (g := (mkF m 34 #[.val (.ref ax), .val (.long qs), .second] [(.long qs), (.ref ax)])) rfl rfl (hb hby d1_34)
  have Ea_9 := Ea_8.wr W9
  have Fw3_9 := Fw3_8.other W9 (Or.inr (slot_ne (Or.inl (own_w hw 13 rfl)) (Or.inl (own_w hw 23 rfl)) (by decide) (t := (.array .int)) (t' := .long) (by decide) (by decide)))
  have Fw5_9 := Fw5_8.other W9 (Or.inr (slot_ne (Or.inl (own_w hw 16 rfl)) (Or.inl (own_w hw 23 rfl)) (by decide) (t := (.array .long)) (t' := .long) (by decide) (by decide)))
  have Fw7_9 := Fw7_8.other W9 (Or.inr (slot_ne (Or.inl (own_w hw 18 rfl)) (Or.inl (own_w hw 23 rfl)) (by decide) (t := (.array .long)) (t' := .long) (by decide) (by decide)))
  have Fentries_9 := Fentries_8.other W9 (Or.inr (slot_ne (Or.inl (own_w hw 30 rfl)) (Or.inl (own_w hw 23 rfl)) (by decide) (t := .int) (t' := .long) (by decide) (by decide)))
  have Fcount_9 := Fcount_8.other W9 (Or.inr (slot_ne (Or.inl (own_w hw 32 rfl)) (Or.inl (own_w hw 23 rfl)) (by decide) (t := .int) (t' := .long) (by decide) (by decide)))
  have Fw8_9 := Fw8.other W9 (Or.inr (slot_ne (Or.inl (own_w hw 21 rfl)) (Or.inl (own_w hw 23 rfl)) (by decide) (t := .long) (t' := .long) (by decide) (by decide)))
  have V2_9 := V2_8.other W9 ne_ax_b2.symm
  have V4_9 := V4_8.other W9 ne_ax_b4.symm
  have V6_9 := V6_8.other W9 ne_ax_b6.symm
  have Kc9 : Keep h0 h9 [ax] := Kc8.wr W9 (Or.inl (List.mem_of_getElem? (i := 0) rfl))
  have N9 := Fr.snoc X9 N8 ga
  have Fw9 := Fend_8.same W9
  refine own_pre (fun t k => st9 t k) ?_
  obtain ⟨fs, hr, hrun, hended, hW, hsame⟩ := X9.leave (hlocks := BodyLoose.notSynchronized Bd) (v := none) (fun _ => rfl)
  refine ⟨_, _, X9.returnOut hx Bd.returns (hb hby d1_37) hr, hrun, hended, _, _, rfl, ?_, ⟨_, rfl⟩, hW, hsame.mono (by decide) (by decide)⟩
  show own_Q1 Z ax qs h0 n0 _ T9.heap _
  rw [e9]
  exact ⟨rfl, N9, b2, b4, b6, k2, k4, Kc9, sz_b2, sz_b4, sz_b6, ⟨Ea_9, Fw3_9, Fw5_9, Fw7_9, Fentries_9, Fcount_9, Fw9, Fw8_9, V2_9, V4_9, V6_9, ne_ax_b2, ne_ax_b4, ne_ax_b6, ne_b2_b4, ne_b2_b6, ne_b4_b6, ga, gn_b2, gn_b4, gn_b6⟩⟩
theorem own_n4 (x : Int32) : ((1 : Int32) + (x &&& (3 : Int32))) = (1 : Int32) ∨ ((1 : Int32) + (x &&& (3 : Int32))) = (2 : Int32) ∨ ((1 : Int32) + (x &&& (3 : Int32))) = (3 : Int32) ∨ ((1 : Int32) + (x &&& (3 : Int32))) = (4 : Int32) := by
  have h1 := c_and x (3 : Int32) (by decide)
  have h2 := c_iadd (1 : Int32) (x &&& (3 : Int32))
  have r := rng32 ((1 : Int32) + (x &&& (3 : Int32)))
  have o : (1 : Int32).toInt = 1 := by decide
  have w : (2 : Int32).toInt = 2 := by decide
  have t : (3 : Int32).toInt = 3 := by decide
  have f : (4 : Int32).toInt = 4 := by decide
  rw [o] at h2
  rw [t] at h1
  simp only [← Int32.toInt_inj, o, w, t, f]
  omega
theorem own_e (x m : Int32) (hm : 0 < m.toInt) : 0 ≤ ((x &&& (3 : Int32)) % m).toInt ∧ ((x &&& (3 : Int32)) % m).toInt < m.toInt := by
  have h1 := (c_and x (3 : Int32) (by decide)).1
  have h := (c_irem (x &&& (3 : Int32)) m m.toInt rfl).1 h1
  rw [h]
  exact ⟨Int.emod_nonneg _ (by omega), Int.emod_lt_of_pos _ hm⟩
theorem own_e1 (x : Int32) : ((x &&& (3 : Int32)) % (1 : Int32)) = (0 : Int32) := by
  have h := own_e x (1 : Int32) (by decide)
  have o : (1 : Int32).toInt = 1 := by decide
  have z : (0 : Int32).toInt = 0 := by decide
  rw [← Int32.toInt_inj, z]; omega
theorem own_e2 (x : Int32) : ((x &&& (3 : Int32)) % (2 : Int32)) = (0 : Int32) ∨ ((x &&& (3 : Int32)) % (2 : Int32)) = (1 : Int32) := by
  have h := own_e x (2 : Int32) (by decide)
  have o : (1 : Int32).toInt = 1 := by decide
  have z : (0 : Int32).toInt = 0 := by decide
  have w : (2 : Int32).toInt = 2 := by decide
  simp only [← Int32.toInt_inj, z, o]; omega
theorem own_e3 (x : Int32) : ((x &&& (3 : Int32)) % (3 : Int32)) = (0 : Int32) ∨ ((x &&& (3 : Int32)) % (3 : Int32)) = (1 : Int32) ∨ ((x &&& (3 : Int32)) % (3 : Int32)) = (2 : Int32) := by
  have h := own_e x (3 : Int32) (by decide)
  have o : (1 : Int32).toInt = 1 := by decide
  have z : (0 : Int32).toInt = 0 := by decide
  have w : (2 : Int32).toInt = 2 := by decide
  have t : (3 : Int32).toInt = 3 := by decide
  simp only [← Int32.toInt_inj, z, o, w]; omega
theorem own_e4 (x : Int32) : ((x &&& (3 : Int32)) % (4 : Int32)) = (0 : Int32) ∨ ((x &&& (3 : Int32)) % (4 : Int32)) = (1 : Int32) ∨ ((x &&& (3 : Int32)) % (4 : Int32)) = (2 : Int32) ∨ ((x &&& (3 : Int32)) % (4 : Int32)) = (3 : Int32) := by
  have h := own_e x (4 : Int32) (by decide)
  have o : (1 : Int32).toInt = 1 := by decide
  have z : (0 : Int32).toInt = 0 := by decide
  have w : (2 : Int32).toInt = 2 := by decide
  have t : (3 : Int32).toInt = 3 := by decide
  have f : (4 : Int32).toInt = 4 := by decide
  simp only [← Int32.toInt_inj, z, o, w, t]; omega
theorem own_sub (s a l : Int64) : (s + a) - (s + l) = a - l := by
  apply Int64.toInt_inj.mp
  have h1 := c_ladd s a
  have h2 := c_ladd s l
  have h3 := c_lsub (s + a) (s + l)
  have h4 := c_lsub a l
  have r1 := rng64 ((s + a) - (s + l))
  have r2 := rng64 (a - l)
  omega
theorem own_sub0 (s a : Int64) : (s + a) - s = a - (0 : Int64) := by
  apply Int64.toInt_inj.mp
  have h1 := c_ladd s a
  have h3 := c_lsub (s + a) s
  have h4 := c_lsub a (0 : Int64)
  have r1 := rng64 ((s + a) - s)
  have r2 := rng64 (a - (0 : Int64))
  have z : (0 : Int64).toInt = 0 := by decide
  omega
def own_Q0 (h0 : Heap) (n0 : Nat) (v : Option Value) (h : Heap) (L : List Loc) : Prop := v = some (.int (1 : Int32)) ∧ Fr n0 L
abbrev own_l0 (x0 : Slot) (x1 : Slot) (x2 : Int32) (x3 : Slot) (x4 : Slot) (x5 : Slot) (x6 : Int32) (x7 : Slot) (x8 : Slot) (x9 : Slot) (x10 : Slot) (x11 : Slot) (x12 : Slot) (x13 : Slot) (x14 : Slot) (x15 : Addr) (x16 : Addr) (x17 : Slot) (x18 : Slot) (x19 : Slot) (x20 : Slot) (x21 : Slot) (x22 : Slot) (x23 : Slot) (x24 : Slot) : Array Slot := #[x0, x1, .val (.int x2), x3, x4, x5, .val (.int x6), x7, x8, x9, x10, x11, x12, x13, x14, .val (.ref x15), .val (.ref x16), x17, x18, x19, x20, x21, x22, x23, x24, .val (.int (0 : Int32)), .val (.int (0 : Int32)), .val (.int (0 : Int32)), .unset, .unset, .unset, .unset, .unset]
abbrev own_l1 (x0 : Slot) (x1 : Slot) (x2 : Int32) (x3 : Slot) (x4 : Slot) (x5 : Slot) (x6 : Int32) (x7 : Slot) (x8 : Slot) (x9 : Slot) (x10 : Slot) (x11 : Slot) (x12 : Slot) (x13 : Slot) (x14 : Slot) (x15 : Addr) (x16 : Addr) (x17 : Slot) (x18 : Slot) (x19 : Slot) (x20 : Slot) (x21 : Slot) (x22 : Slot) (x23 : Slot) (x24 : Slot) : Array Slot := #[x0, x1, .val (.int x2), x3, x4, x5, .val (.int x6), x7, x8, x9, x10, x11, x12, x13, x14, .val (.ref x15), .val (.ref x16), x17, x18, x19, x20, x21, x22, x23, x24, .val (.int (0 : Int32)), .val (.int (0 : Int32)), .val (.int (0 : Int32)), .val (.int (0 : Int32)), .unset, .unset, .unset, .unset]
abbrev own_l2 (x0 : Slot) (x1 : Slot) (x2 : Int32) (x3 : Slot) (x4 : Slot) (x5 : Slot) (x6 : Int32) (x7 : Slot) (x8 : Slot) (x9 : Slot) (x10 : Slot) (x11 : Slot) (x12 : Slot) (x13 : Slot) (x14 : Slot) (x15 : Addr) (x16 : Addr) (x17 : Slot) (x18 : Slot) (x19 : Slot) (x20 : Slot) (x21 : Slot) (x22 : Slot) (x23 : Slot) (x24 : Slot) : Array Slot := #[x0, x1, .val (.int x2), x3, x4, x5, .val (.int x6), x7, x8, x9, x10, x11, x12, x13, x14, .val (.ref x15), .val (.ref x16), x17, x18, x19, x20, x21, x22, x23, x24, .val (.int (0 : Int32)), .val (.int (0 : Int32)), .val (.int (0 : Int32)), .val (.int ((0 : Int32) + (1 : Int32))), .unset, .unset, .unset, .unset]
abbrev own_l3 (x0 : Slot) (x1 : Slot) (x2 : Int32) (x3 : Slot) (x4 : Slot) (x5 : Slot) (x6 : Int32) (x7 : Slot) (x8 : Slot) (x9 : Slot) (x10 : Slot) (x11 : Slot) (x12 : Slot) (x13 : Slot) (x14 : Slot) (x15 : Addr) (x16 : Addr) (x17 : Slot) (x18 : Slot) (x19 : Slot) (x20 : Slot) (x21 : Slot) (x22 : Slot) (x23 : Slot) (x24 : Slot) : Array Slot := #[x0, x1, .val (.int x2), x3, x4, x5, .val (.int x6), x7, x8, x9, x10, x11, x12, x13, x14, .val (.ref x15), .val (.ref x16), x17, x18, x19, x20, x21, x22, x23, x24, .val (.int (0 : Int32)), .val (.int (0 : Int32)), .val (.int (0 : Int32)), .val (.int (1 : Int32)), .unset, .unset, .unset, .unset]
abbrev own_l4 (x0 : Slot) (x1 : Slot) (x2 : Int32) (x3 : Slot) (x4 : Slot) (x5 : Slot) (x6 : Int32) (x7 : Slot) (x8 : Slot) (x9 : Slot) (x10 : Slot) (x11 : Slot) (x12 : Slot) (x13 : Slot) (x14 : Slot) (x15 : Addr) (x16 : Addr) (x17 : Slot) (x18 : Slot) (x19 : Slot) (x20 : Slot) (x21 : Slot) (x22 : Slot) (x23 : Slot) (x24 : Slot) : Array Slot := #[x0, x1, .val (.int x2), x3, x4, x5, .val (.int x6), x7, x8, x9, x10, x11, x12, x13, x14, .val (.ref x15), .val (.ref x16), x17, x18, x19, x20, x21, x22, x23, x24, .val (.int (0 : Int32)), .val (.int (0 : Int32)), .val (.int (0 : Int32)), .val (.int (1 : Int32)), .val (.int ((((x2.toUInt32 >>> ((2 : Int32) &&& 31).toUInt32).toInt32) &&& (3 : Int32)) % (1 : Int32))), .unset, .unset, .unset]
abbrev own_l5 (x0 : Slot) (x1 : Slot) (x2 : Int32) (x3 : Slot) (x4 : Slot) (x5 : Slot) (x6 : Int32) (x7 : Slot) (x8 : Slot) (x9 : Slot) (x10 : Slot) (x11 : Slot) (x12 : Slot) (x13 : Slot) (x14 : Slot) (x15 : Addr) (x16 : Addr) (x17 : Slot) (x18 : Slot) (x19 : Slot) (x20 : Slot) (x21 : Slot) (x22 : Slot) (x23 : Slot) (x24 : Slot) : Array Slot := #[x0, x1, .val (.int x2), x3, x4, x5, .val (.int x6), x7, x8, x9, x10, x11, x12, x13, x14, .val (.ref x15), .val (.ref x16), x17, x18, x19, x20, x21, x22, x23, x24, .val (.int (0 : Int32)), .val (.int (0 : Int32)), .val (.int (0 : Int32)), .val (.int (1 : Int32)), .val (.int (0 : Int32)), .unset, .unset, .unset]
abbrev own_l6 (x0 : Slot) (x1 : Slot) (x2 : Int32) (x3 : Slot) (x4 : Slot) (x5 : Slot) (x6 : Int32) (x7 : Slot) (x8 : Slot) (x9 : Slot) (x10 : Slot) (x11 : Slot) (x12 : Slot) (x13 : Slot) (x14 : Slot) (x15 : Addr) (x16 : Addr) (x17 : Slot) (x18 : Slot) (x19 : Slot) (x20 : Slot) (x21 : Slot) (x22 : Slot) (x23 : Slot) (x24 : Slot) : Array Slot := #[x0, x1, .val (.int x2), x3, x4, x5, .val (.int x6), x7, x8, x9, x10, x11, x12, x13, x14, .val (.ref x15), .val (.ref x16), x17, x18, x19, x20, x21, x22, x23, x24, .val (.int (0 : Int32)), .val (.int (0 : Int32)), .val (.int (0 : Int32)), .val (.int (1 : Int32)), .val (.int (0 : Int32)), .val (.int (0 : Int32)), .unset, .unset]
abbrev own_l7 (x0 : Slot) (x1 : Slot) (x2 : Int32) (x3 : Slot) (x4 : Slot) (x5 : Slot) (x6 : Int32) (x7 : Slot) (x8 : Slot) (x9 : Slot) (x10 : Slot) (x11 : Slot) (x12 : Slot) (x13 : Slot) (x14 : Slot) (x15 : Addr) (x16 : Addr) (x17 : Slot) (x18 : Slot) (x19 : Slot) (x20 : Slot) (x21 : Slot) (x22 : Slot) (x23 : Slot) (x24 : Slot) : Array Slot := #[x0, x1, .val (.int x2), x3, x4, x5, .val (.int x6), x7, x8, x9, x10, x11, x12, x13, x14, .val (.ref x15), .val (.ref x16), x17, x18, x19, x20, x21, x22, x23, x24, .val (.int (0 : Int32)), .val (.int (0 : Int32)), .val (.int (0 : Int32)), .val (.int (1 : Int32)), .val (.int (0 : Int32)), .val (.int (0 : Int32)), .val (.long (x6.toInt64)), .second]
theorem d4_0 : decode prog_34_method_9_code 0 = .ok (.iload_n 1, 1) := by decide +kernel
theorem d4_1 : decode prog_34_method_9_code 1 = .ok (.iconst 1, 1) := by decide +kernel
theorem d4_2 : decode prog_34_method_9_code 2 = .ok (.iadd, 1) := by decide +kernel
theorem d4_3 : decode prog_34_method_9_code 3 = .ok (.aload_n 0, 1) := by decide +kernel
theorem d4_4 : decode prog_34_method_9_code 4 = .ok (.getfield 31, 3) := by decide +kernel
theorem d4_7 : decode prog_34_method_9_code 7 = .ok (.if_icmp .ge 15, 3) := by decide +kernel
theorem d4_10 : decode prog_34_method_9_code 10 = .ok (.aload_n 0, 1) := by decide +kernel
theorem d4_11 : decode prog_34_method_9_code 11 = .ok (.getfield 7, 3) := by decide +kernel
theorem d4_14 : decode prog_34_method_9_code 14 = .ok (.iload_n 1, 1) := by decide +kernel
theorem d4_15 : decode prog_34_method_9_code 15 = .ok (.iconst 1, 1) := by decide +kernel
theorem d4_16 : decode prog_34_method_9_code 16 = .ok (.iadd, 1) := by decide +kernel
theorem d4_17 : decode prog_34_method_9_code 17 = .ok (.iaload, 1) := by decide +kernel
theorem d4_18 : decode prog_34_method_9_code 18 = .ok (.i2l, 1) := by decide +kernel
theorem d4_19 : decode prog_34_method_9_code 19 = .ok (.goto 8, 3) := by decide +kernel
theorem d4_22 : decode prog_34_method_9_code 22 = .ok (.aload_n 0, 1) := by decide +kernel
theorem d4_23 : decode prog_34_method_9_code 23 = .ok (.getfield 41, 3) := by decide +kernel
theorem d4_26 : decode prog_34_method_9_code 26 = .ok (.i2l, 1) := by decide +kernel
theorem d4_27 : decode prog_34_method_9_code 27 = .ok (.lreturn, 1) := by decide +kernel
theorem own_pn4 : plainName "com/example/coho/coho/eventlog/SegmentIndex" = true := by first | (simp [plainName, overriddenIn]; done) | decide +kernel
theorem own_ef4 (m : MethodId) (x0 : Addr) (x1 : Int32) : entryFrame m #[(.ref x0), (.int x1)] 2 = mkF m 0 #[.val (.ref x0), .val (.int x1)] [] := by first | (simp [entryFrame, mkF, argsToLocals, Value.category]; done) | rfl
def own_Q4_0_1 (Z : State) (ax : Addr) (ap : Addr) (kp : ClassId) (ct : Int32) (qe : Int64) (uu0 : Int32) (uu1 : Int32) (uu2 : Int32) (uu3 : Int32) (h0 : Heap) (n0 : Nat) (v : Option Value) (h : Heap) (L : List Loc) : Prop := Fr n0 L ∧ v = some (.long (ct.toInt64)) ∧ h = h0
set_option maxRecDepth 65536 in
set_option maxHeartbeats 40000000 in
theorem rm4_0_1 (l : Launch) (Z : State) (a0 : Array Value) (hw : ∀ d ∈ tables_1, d.before a0 Z = true) (ws : List Jvm.Cond) (ax : Addr) (ap : Addr) (kp : ClassId) (ct : Int32) (qe : Int64) (uu0 : Int32) (uu1 : Int32) (uu2 : Int32) (uu3 : Int32) (h0 : Heap) (n0 : Nat) (Z0 : n0 ≤ h0.size) (Fe : Fld Z h0 ax "com/example/coho/coho/eventlog/SegmentIndex" "entries" "I" (.int (1 : Int32))) (Fc : Fld Z h0 ax "com/example/coho/coho/eventlog/SegmentIndex" "count" "I" (.int ct)) (Fq : Fld Z h0 ax "com/example/coho/coho/eventlog/SegmentIndex" "end" "J" (.long qe)) (Fa : Fld Z h0 ax "com/example/coho/coho/eventlog/SegmentIndex" "places" "[I" (.ref ap)) (Va : Arv Z h0 ap kp .int (4 : Int32) [(.int uu0), (.int uu1), (.int uu2), (.int uu3)] (.int (0 : Int32))) :
    MetFree l (⟨"com/example/coho/coho/eventlog/SegmentIndex", "placeAfter", "(I)J"⟩ : MethodName) (head1 (Jvm.Cond.code (⟨"com/example/coho/coho/eventlog/SegmentIndex", "placeAfter", "(I)J"⟩ : MethodName) prog_34_method_9_code 2 (some .long) :: ws) ({ frames := 0, cells := 0, slots := 0, locals := 0 } : Room)) (fun a U => a = #[(.ref ax), (.int (0 : Int32))] ∧ Z.Warmed39 U.vm ∧ U.heap = h0) (fun _ _ _ _ _ => True) (fun _ U o U' => ∃ v L, o = .returned v ∧ own_Q4_0_1 Z ax ap kp ct qe uu0 uu1 uu2 uu3 h0 n0 v U'.heap L ∧ FrameEnd U o U' L ({ frames := 0, cells := 0, slots := 0, locals := 0 } : Room).cells ({ frames := 0, cells := 0, slots := 0, locals := 0 } : Room).slots) := by
  refine MetFree.of_bodySF (plainFor_of_name own_pn4) hisR ?_
  intro p e s m args below meth c s₁ Bd hml0 hP hK
  obtain ⟨rfl, hZ, hh⟩ := hP
  have hx := Bd.exec
  have hby := Bd.bytes
  have hml : c.maxLocals = 2 := hml0
  have hown : s.vm.findClass "com/example/coho/coho/eventlog/SegmentIndex" = some m.cls := findClass_of_methodNamed Bd.named
  have hnm := (name_of_methodNamed Bd.named Bd.method).1
  have X0 : Stand p l e ({ frames := 0, cells := 0, slots := 0, locals := 0 } : Room) s m #[(.ref ax), (.int (0 : Int32))] below meth c s₁ [] 0 0 := Stand.of_body Bd
  have e0 : s₁.heap = h0 := by rw [← hh, Bd.state]; rfl
  have N0 := Fr.nil n0
  refine own_pre (A := (s₁.setTop (mkF m 0 #[.val (.ref ax), .val (.int (0 : Int32))] []))) (fun t k => castTop (own_ef4 m ax (0 : Int32)) k) ?_
  refine own_pre (A := (s₁.setTop (mkF m 4 #[.val (.ref ax), .val (.int (0 : Int32))] [(.ref ax), (.int (1 : Int32))]))) ?_ ?_
  · intro t k
    refine XS.iloadN X0.here hx rfl (hb hby d4_0) rfl ?_
    refine XS.iconst X0.here hx rfl (hb hby d4_1) ?_
    refine XS.iadd X0.here hx rfl (hb hby d4_2) rfl ?_
    show Steps p.tables e below (s₁.setTop (mkF m 3 #[.val (.ref ax), .val (.int (0 : Int32))] [(.int ((0 : Int32) + (1 : Int32)))])) _
    rw [show ((0 : Int32) + (1 : Int32)) = (1 : Int32) from by decide]
    refine XS.aloadN X0.here hx rfl (hb hby d4_3) rfl rfl ?_
    exact k
  obtain ⟨T13, X13, e13, st13⟩ := getF X0 hx hZ hown (host := "") (Or.inl (own_w hw 29 rfl)) Via.refl e0 Fe (g := (mkF m 4 #[.val (.ref ax), .val (.int (0 : Int32))] [(.ref ax), (.int (1 : Int32))])) rfl rfl (hb hby d4_4)
  refine own_pre (fun t k => st13 t k) ?_
  refine own_pre (A := (T13.setTop (mkF m 23 #[.val (.ref ax), .val (.int (0 : Int32))] [(.ref ax)]))) ?_ ?_
  · intro t k
    refine XS.icmpYes X13.here hx rfl (pc0 := 7) (pc' := 22) rfl (hb hby d4_7) rfl (flt (by decide : ¬ ((1 : Int32) < (1 : Int32)))).2.1 (by decide) (by decide) ?_
    refine XS.aloadN X13.here hx rfl (hb hby d4_22) rfl rfl ?_
    exact k
  obtain ⟨T14, X14, e14, st14⟩ := getF X13 hx hZ hown (host := "") (Or.inl (own_w hw 31 rfl)) Via.refl e13 Fc (g := (mkF m 23 #[.val (.ref ax), .val (.int (0 : Int32))] [(.ref ax)])) rfl rfl (hb hby d4_23)
  refine own_pre (fun t k => st14 t k) ?_
  refine own_pre (A := (T14.setTop (mkF m 27 #[.val (.ref ax), .val (.int (0 : Int32))] [(.long (ct.toInt64))]))) ?_ ?_
  · intro t k
    refine XS.i2l X14.here hx rfl (hb hby d4_26) rfl ?_
    exact k
  obtain ⟨fs, hr, hrun, hended, hW, hsame⟩ := X14.leave (hlocks := BodyLoose.notSynchronized Bd) (v := some (.long (ct.toInt64))) (fun h => by rw [Bd.returns] at h; cases h)
  refine ⟨_, _, retOut X14 hx Bd.returns rfl (Or.inr (Or.inl ⟨rfl, rfl, _, rfl⟩)) (hb hby d4_27) hr, hrun, hended, _, _, rfl, ?_, ⟨_, rfl⟩, hW, hsame.mono (by decide) (by decide)⟩
  show own_Q4_0_1 Z ax ap kp ct qe uu0 uu1 uu2 uu3 h0 n0 _ T14.heap _
  rw [e14]
  exact ⟨N0, rfl, rfl⟩
set_option maxRecDepth 65536 in
set_option maxHeartbeats 40000000 in
theorem own_suf_000 {p : Program} {l : Launch} {e : Env} {s : State} {m : MethodId} {args : Array Value} {below : List Frame} {meth : Method} {c : Code} {T0 : State} {locs : List Loc} {Z : State} {a0 : Array Value} {h0 h1 : Heap} {n0 : Nat} {p2 pn : Int32} {qe : Int64} {apl aix app : Addr} {kpl kpp : ClassId} {sl0 sl1 sl3 sl4 sl5 sl7 sl8 sl9 sl10 sl11 sl12 sl13 sl14 sl17 sl18 sl19 sl20 sl21 sl22 sl23 sl24 : Slot} (X0 : Stand p l e room_1 s m args below meth c T0 locs 5 23) (hx : p.tables.exec = Jvm.exec) (hZ : Z.Warmed39 s.vm) (hw : ∀ d ∈ tables_1, d.before a0 Z = true) (hby : c.code = code) (hml : c.maxLocals = 33) (hown : s.vm.findClass "com/example/coho/coho/eventlog/SegmentIndexPlaceAfterPinLaw" = some m.cls) (hret : meth.sig.returnType = some .boolean) (hlk : meth.locks = false) (e0 : T0.heap = h1) (N0 : Fr n0 locs) (Zs0 : n0 ≤ h1.size) (K0 : Keep h0 h1 []) (Ex : Exa Z h1 aix "com/example/coho/coho/eventlog/SegmentIndex") (Fentries : Fld Z h1 aix "com/example/coho/coho/eventlog/SegmentIndex" "entries" "I" (.int (1 : Int32))) (Fcount : Fld Z h1 aix "com/example/coho/coho/eventlog/SegmentIndex" "count" "I" (.int pn)) (Fend : Fld Z h1 aix "com/example/coho/coho/eventlog/SegmentIndex" "end" "J" (.long qe)) (Fplaces : Fld Z h1 aix "com/example/coho/coho/eventlog/SegmentIndex" "places" "[I" (.ref app)) (Vpp : Arv Z h1 app kpp .int (4 : Int32) [(.int (0 : Int32)), (.int (0 : Int32)), (.int (0 : Int32)), (.int (0 : Int32))] (.int (0 : Int32))) (Vpl : Arv Z h1 apl kpl .int (4 : Int32) [(.int (0 : Int32)), (.int (0 : Int32)), (.int (0 : Int32)), (.int (0 : Int32))] (.int (0 : Int32))) (nix : aix ≠ apl) (npp : app ≠ apl) (gpl : n0 ≤ apl) (spl : h0.size ≤ apl) :
    ∃ s₂ o, Steps p.tables e below (T0.setTop (mkF m 218 (own_l0 sl0 sl1 p2 sl3 sl4 sl5 pn sl7 sl8 sl9 sl10 sl11 sl12 sl13 sl14 apl aix sl17 sl18 sl19 sl20 sl21 sl22 sl23 sl24) [])) s₂ ∧ s₂.status = .running ∧ Ended s₂ below o ∧ (∃ v L, o = .returned v ∧ own_Q0 h0 n0 v s₂.heap L ∧ FrameEnd s o s₂ L room_1.cells room_1.slots) := by
  refine own_pre (A := (T0.setTop (mkF m 226 (own_l1 sl0 sl1 p2 sl3 sl4 sl5 pn sl7 sl8 sl9 sl10 sl11 sl12 sl13 sl14 apl aix sl17 sl18 sl19 sl20 sl21 sl22 sl23 sl24) [(.int (0 : Int32)), (.int (0 : Int32)), (.ref apl)]))) ?_ ?_
  · intro t k
    refine XS.iconst X0.here hx rfl (hb hby at_218) ?_
    refine XS.istore X0.here hx rfl (hb hby at_219) rfl (l' := (own_l1 sl0 sl1 p2 sl3 sl4 sl5 pn sl7 sl8 sl9 sl10 sl11 sl12 sl13 sl14 apl aix sl17 sl18 sl19 sl20 sl21 sl22 sl23 sl24)) rfl ?_
    refine XS.aload X0.here hx rfl (hb hby at_221) rfl rfl ?_
    refine XS.iload X0.here hx rfl (hb hby at_223) rfl ?_
    refine XS.iconst X0.here hx rfl (hb hby at_225) ?_
    exact k
  obtain ⟨cl10, Ar10, q10, S10, N10, H10, G10⟩ := Vpl
  have hin10 : ¬ ((0 : Int32) < 0 ∨ cl10.slots.size ≤ ((0 : Int32)).toNatClampNeg) := inb_of S10 ⟨by decide, by decide⟩
  obtain ⟨T10, h10, X10, e10, W10, st10⟩ := stI X0 hx hZ e0 Ar10 (j := (0 : Int32)) hin10 (g := (mkF m 226 (own_l1 sl0 sl1 p2 sl3 sl4 sl5 pn sl7 sl8 sl9 sl10 sl11 sl12 sl13 sl14 apl aix sl17 sl18 sl19 sl20 sl21 sl22 sl23 sl24) [(.int (0 : Int32)), (.int (0 : Int32)), (.ref apl)])) rfl rfl (hb hby at_226)
  have V10 : Arv Z h10 apl kpl .int (4 : Int32) [(.int (0 : Int32)), (.int (0 : Int32)), (.int (0 : Int32)), (.int (0 : Int32))] (.int (0 : Int32)) := Arv.set Ar10 q10 S10 N10 H10 G10 rfl W10 0 rfl (Nat.le_of_ble_eq_true rfl)
  have Ex_10 := Ex.wr W10
  have Fentries_10 := Fentries.other W10 (Or.inl nix)
  have Fcount_10 := Fcount.other W10 (Or.inl nix)
  have Fend_10 := Fend.other W10 (Or.inl nix)
  have Fplaces_10 := Fplaces.other W10 (Or.inl nix)
  have Vpp_10 := Vpp.other W10 npp
  have Zs10 : n0 ≤ h10.size := Nat.le_trans Zs0 (Keep.of_wr W10).1
  have N10 := Fr.snoc X10 N0 gpl
  refine own_pre (fun t k => st10 t k) ?_
  refine own_pre (A := (T10.setTop (mkF m 282 (own_l4 sl0 sl1 p2 sl3 sl4 sl5 pn sl7 sl8 sl9 sl10 sl11 sl12 sl13 sl14 apl aix sl17 sl18 sl19 sl20 sl21 sl22 sl23 sl24) []))) ?_ ?_
  · intro t k
    refine XS.iinc X10.here hx rfl (hb hby at_227) rfl (l' := (own_l2 sl0 sl1 p2 sl3 sl4 sl5 pn sl7 sl8 sl9 sl10 sl11 sl12 sl13 sl14 apl aix sl17 sl18 sl19 sl20 sl21 sl22 sl23 sl24)) rfl ?_
    show Steps  p.tables e below (T10.setTop (mkF m 230 #[sl0, sl1, .val (.int p2), sl3, sl4, sl5, .val (.int pn), sl7, sl8, sl9, sl10, sl11, sl12, sl13, sl14, .val (.ref apl), .val (.ref aix), sl17, sl18, sl19, sl20, sl21, sl22, sl23, sl24, .val (.int (0 : Int32)), .val (.int (0 : Int32)), .val (.int (0 : Int32)), .val (.int ((0 : Int32) + (1 : Int32))), .unset, .unset, .unset, .unset] [])) _
    rw [show ((0 : Int32) + (1 : Int32)) = (1 : Int32) from by decide]
    refine XS.iload X10.here hx rfl (hb hby at_230) rfl ?_
    refine XS.ifYes X10.here hx rfl (pc0 := 232) (pc' := 244) rfl (hb hby at_232) rfl ((if0 _ _).trans (teq (by decide : (0 : Int32) = (0 : Int32))).1) (by decide) (by decide) ?_
    refine XS.iload X10.here hx rfl (hb hby at_244) rfl ?_
    refine XS.ifYes X10.here hx rfl (pc0 := 246) (pc' := 258) rfl (hb hby at_246) rfl ((if0 _ _).trans (teq (by decide : (0 : Int32) = (0 : Int32))).1) (by decide) (by decide) ?_
    refine XS.iload X10.here hx rfl (hb hby at_258) rfl ?_
    refine XS.ifYes X10.here hx rfl (pc0 := 260) (pc' := 272) rfl (hb hby at_260) rfl ((if0 _ _).trans (teq (by decide : (0 : Int32) = (0 : Int32))).1) (by decide) (by decide) ?_
    refine XS.iloadN X10.here hx rfl (hb hby at_272) rfl ?_
    refine XS.iconst X10.here hx rfl (hb hby at_273) ?_
    refine XS.iushr X10.here hx rfl (hb hby at_274) rfl ?_
    refine XS.iconst X10.here hx rfl (hb hby at_275) ?_
    refine XS.iand X10.here hx rfl (hb hby at_276) rfl ?_
    refine XS.iload X10.here hx rfl (hb hby at_277) rfl ?_
    show Steps p.tables e below (T10.setTop (mkF m 279 (own_l3 sl0 sl1 p2 sl3 sl4 sl5 pn sl7 sl8 sl9 sl10 sl11 sl12 sl13 sl14 apl aix sl17 sl18 sl19 sl20 sl21 sl22 sl23 sl24) [(.int (1 : Int32)), (.int (((p2.toUInt32 >>> ((2 : Int32) &&& 31).toUInt32).toInt32) &&& (3 : Int32)))])) _
    refine iremM X10 hx rfl (hb hby at_279) rfl (by decide) ?_
    show Steps p.tables e below (T10.setTop (mkF m 280 (own_l3 sl0 sl1 p2 sl3 sl4 sl5 pn sl7 sl8 sl9 sl10 sl11 sl12 sl13 sl14 apl aix sl17 sl18 sl19 sl20 sl21 sl22 sl23 sl24) [(.int ((((p2.toUInt32 >>> ((2 : Int32) &&& 31).toUInt32).toInt32) &&& (3 : Int32)) % (1 : Int32)))])) _
    refine XS.istore X10.here hx rfl (hb hby at_280) rfl (l' := (own_l4 sl0 sl1 p2 sl3 sl4 sl5 pn sl7 sl8 sl9 sl10 sl11 sl12 sl13 sl14 apl aix sl17 sl18 sl19 sl20 sl21 sl22 sl23 sl24)) rfl ?_
    exact k
  obtain ⟨pe, hpe⟩ : ∃ z : Int32, z = ((((p2.toUInt32 >>> ((2 : Int32) &&& 31).toUInt32).toInt32) &&& (3 : Int32)) % (1 : Int32)) := ⟨_, rfl⟩
  show ∃ s₂ o, Steps p.tables e below (T10.setTop (mkF m 282 #[sl0, sl1, .val (.int p2), sl3, sl4, sl5, .val (.int pn), sl7, sl8, sl9, sl10, sl11, sl12, sl13, sl14, .val (.ref apl), .val (.ref aix), sl17, sl18, sl19, sl20, sl21, sl22, sl23, sl24, .val (.int (0 : Int32)), .val (.int (0 : Int32)), .val (.int (0 : Int32)), .val (.int (1 : Int32)), .val (.int ((((p2.toUInt32 >>> ((2 : Int32) &&& 31).toUInt32).toInt32) &&& (3 : Int32)) % (1 : Int32))), .unset, .unset, .unset] [])) s₂ ∧ _
  rw [← hpe]
  have he : pe = (0 : Int32) := by rw [hpe]; exact own_e1 _
  clear hpe
  subst he
  refine own_pre (A := (T10.setTop (mkF m 353 (own_l7 sl0 sl1 p2 sl3 sl4 sl5 pn sl7 sl8 sl9 sl10 sl11 sl12 sl13 sl14 apl aix sl17 sl18 sl19 sl20 sl21 sl22 sl23 sl24) [(.int (0 : Int32)), (.ref aix)]))) ?_ ?_
  · intro t k
    refine XS.aload X10.here hx rfl (hb hby at_282) rfl rfl ?_
    refine XS.iload X10.here hx rfl (hb hby at_284) rfl ?_
    show Steps p.tables e below (T10.setTop (mkF m 286 (own_l5 sl0 sl1 p2 sl3 sl4 sl5 pn sl7 sl8 sl9 sl10 sl11 sl12 sl13 sl14 apl aix sl17 sl18 sl19 sl20 sl21 sl22 sl23 sl24) [(.int (0 : Int32)), (.ref apl)])) _
    obtain ⟨cl11, Ar11, q11, S11, N11, H11, G11⟩ := id V10
    have hin11 : ¬ ((0 : Int32) < 0 ∨ cl11.slots.size ≤ ((0 : Int32)).toNatClampNeg) := inb_of S11 ⟨by decide, by decide⟩
    refine X10.iaload hx (j := (0 : Int32)) (v := (.int (0 : Int32))) (by rw [e10]; exact Ar11.1) (State.isArrayOf_alike hZ.alike Ar11.2.1) Ar11.2.2 hin11 (H11.at hin11 rfl) (g := (mkF m 286 (own_l5 sl0 sl1 p2 sl3 sl4 sl5 pn sl7 sl8 sl9 sl10 sl11 sl12 sl13 sl14 apl aix sl17 sl18 sl19 sl20 sl21 sl22 sl23 sl24) [(.int (0 : Int32)), (.ref apl)])) rfl rfl (hb hby at_286) _ ?_
    refine XS.istore X10.here hx rfl (hb hby at_287) rfl (l' := (own_l6 sl0 sl1 p2 sl3 sl4 sl5 pn sl7 sl8 sl9 sl10 sl11 sl12 sl13 sl14 apl aix sl17 sl18 sl19 sl20 sl21 sl22 sl23 sl24)) rfl ?_
    refine XS.iload X10.here hx rfl (hb hby at_289) rfl ?_
    refine XS.iconst X10.here hx rfl (hb hby at_291) ?_
    refine XS.icmpNo X10.here hx rfl (hb hby at_292) rfl (tlt (by decide : (0 : Int32) < (1 : Int32))).2.1 ?_
    refine XS.iload X10.here hx rfl (hb hby at_295) rfl ?_
    refine XS.ifYes X10.here hx rfl (pc0 := 297) (pc' := 306) rfl (hb hby at_297) rfl ((if0 _ _).trans (teq (by decide : (0 : Int32) = (0 : Int32))).1) (by decide) (by decide) ?_
    refine XS.iload X10.here hx rfl (hb hby at_306) rfl ?_
    refine XS.iconst X10.here hx rfl (hb hby at_308) ?_
    refine XS.icmpNo X10.here hx rfl (hb hby at_309) rfl (tlt (by decide : (0 : Int32) < (2 : Int32))).2.1 ?_
    refine XS.iload X10.here hx rfl (hb hby at_312) rfl ?_
    refine XS.ifYes X10.here hx rfl (pc0 := 314) (pc' := 325) rfl (hb hby at_314) rfl ((if0 _ _).trans (teq (by decide : (0 : Int32) = (0 : Int32))).1) (by decide) (by decide) ?_
    refine XS.iload X10.here hx rfl (hb hby at_325) rfl ?_
    refine XS.iconst X10.here hx rfl (hb hby at_327) ?_
    refine XS.icmpNo X10.here hx rfl (hb hby at_328) rfl (tlt (by decide : (0 : Int32) < (3 : Int32))).2.1 ?_
    refine XS.iload X10.here hx rfl (hb hby at_331) rfl ?_
    refine XS.ifYes X10.here hx rfl (pc0 := 333) (pc' := 344) rfl (hb hby at_333) rfl ((if0 _ _).trans (teq (by decide : (0 : Int32) = (0 : Int32))).1) (by decide) (by decide) ?_
    refine XS.iload X10.here hx rfl (hb hby at_344) rfl ?_
    refine XS.i2l X10.here hx rfl (hb hby at_346) rfl ?_
    refine XS.lstore X10.here hx rfl (hb hby at_347) rfl (l' := (own_l7 sl0 sl1 p2 sl3 sl4 sl5 pn sl7 sl8 sl9 sl10 sl11 sl12 sl13 sl14 apl aix sl17 sl18 sl19 sl20 sl21 sl22 sl23 sl24)) rfl ?_
    refine XS.aload X10.here hx rfl (hb hby at_349) rfl rfl ?_
    refine XS.iload X10.here hx rfl (hb hby at_351) rfl ?_
    exact k
  obtain ⟨cq12, kq12, q12a, q12b, q12c⟩ := isOf hZ e10 Ex_10
  obtain ⟨_, _, ⟨T12, L12, k12, n12⟩, -, X12, ⟨Lc12, hQ12, l12, y12, z12⟩, st12⟩ := X10.virtualBack hx (y := (⟨"com/example/coho/coho/eventlog/SegmentIndex", "placeAfter", "(I)J"⟩ : MethodName)) (z := (⟨"com/example/coho/coho/eventlog/SegmentIndex", "placeAfter", "(I)J"⟩ : MethodName)) hown (mvT hZ (own_w hw 35 rfl)) (mvT hZ (own_w hw 36 rfl)) (notFace_of_selects (args := #[]) (mvT hZ (own_w hw 38 rfl))) (mvT hZ (own_w hw 38 rfl)) (mvT hZ (own_w hw 37 rfl)) (by decide) (backOf (W := 0) (rm4_0_1 l Z a0 hw [] aix app kpp pn qe (0 : Int32) (0 : Int32) (0 : Int32) (0 : Int32) h10 n0 Zs10 Fentries_10 Fcount_10 Fend_10 Fplaces_10 Vpp_10) hZ (own_w hw 39 rfl) (own_w hw 5 rfl) (by decide) (by decide)) q12a q12c (g := (mkF m 353 (own_l7 sl0 sl1 p2 sl3 sl4 sl5 pn sl7 sl8 sl9 sl10 sl11 sl12 sl13 sl14 apl aix sl17 sl18 sl19 sl20 sl21 sl22 sl23 sl24) [(.int (0 : Int32)), (.ref aix)])) rfl (by rw [hml]; rfl) (Steps.refl _) (argsL := [(.int (0 : Int32))]) (rest := []) (lenOf own_pd0 rfl) rfl (by show 2 * 0 + _ ≤ _; exact Nat.le_of_eq rfl) (hb hby at_353) (fun _ _ => ⟨rfl, e10, (by decide : 5 + 0 ≤ _), (by decide : 23 + 0 ≤ _)⟩)
  dsimp only [Pt.U, Pt.locs, Pt.cells, Pt.slots] at X12 l12 y12 z12 st12 hQ12
  replace y12 : _ = 5 := y12
  replace z12 : _ = 23 := z12
  subst y12 z12
  obtain ⟨Nq12, rfl, eq12⟩ := hQ12
  have N12 := own_frl l12 N10 Nq12
  refine own_pre (fun t k => st12.trans k) ?_
  refine own_pre (A := (T12.setTop (mkF m 367 (own_l7 sl0 sl1 p2 sl3 sl4 sl5 pn sl7 sl8 sl9 sl10 sl11 sl12 sl13 sl14 apl aix sl17 sl18 sl19 sl20 sl21 sl22 sl23 sl24) [(.int (1 : Int32))]))) ?_ ?_
  · intro t k
    refine XS.lload X12.here hx rfl (hb hby at_356) rfl ?_
    refine XS.lcmp X12.here hx rfl (hb hby at_358) rfl ?_
    refine XS.ifNo X12.here hx rfl (hb hby at_359) rfl ((if0 _ _).trans (teq ((lw_eq (pn.toInt64) (pn.toInt64)).mpr (rfl : (pn.toInt64) = (pn.toInt64)))).2) ?_
    refine XS.iconst X12.here hx rfl (hb hby at_362) ?_
    refine XS.goto X12.here hx rfl (pc0 := 363) (pc' := 367) rfl (hb hby at_363) (by decide) (by decide) ?_
    exact k
  obtain ⟨fs, hr, hrun, hended, hW, hsame⟩ := X12.leave (hlocks := hlk) (v := some (.int (1 : Int32))) (fun h => by rw [hret] at h; cases h)
  refine ⟨_, _, retOut X12 hx hret rfl (Or.inl ⟨rfl, Or.inr (Or.inl rfl), _, rfl⟩) (hb hby at_367) hr, hrun, hended, _, _, rfl, ?_, ⟨_, rfl⟩, hW, hsame.mono (by decide) (by decide)⟩
  show own_Q0 h0 n0 _ T12.heap _
  rw [eq12]
  exact ⟨rfl, N12⟩
abbrev own_l8 (x0 : Slot) (x1 : Slot) (x2 : Int32) (x3 : Slot) (x4 : Slot) (x5 : Slot) (x6 : Int32) (x7 : Slot) (x8 : Slot) (x9 : Slot) (x10 : Slot) (x11 : Slot) (x12 : Slot) (x13 : Slot) (x14 : Slot) (x15 : Addr) (x16 : Addr) (x17 : Slot) (x18 : Slot) (x19 : Slot) (x20 : Slot) (x21 : Slot) (x22 : Slot) (x23 : Slot) (x24 : Slot) : Array Slot := #[x0, x1, .val (.int x2), x3, x4, x5, .val (.int x6), x7, x8, x9, x10, x11, x12, x13, x14, .val (.ref x15), .val (.ref x16), x17, x18, x19, x20, x21, x22, x23, x24, .val (.int (0 : Int32)), .val (.int (0 : Int32)), .val (.int (1 : Int32)), .unset, .unset, .unset, .unset, .unset]
abbrev own_l9 (x0 : Slot) (x1 : Slot) (x2 : Int32) (x3 : Slot) (x4 : Slot) (x5 : Slot) (x6 : Int32) (x7 : Slot) (x8 : Slot) (x9 : Slot) (x10 : Slot) (x11 : Slot) (x12 : Slot) (x13 : Slot) (x14 : Slot) (x15 : Addr) (x16 : Addr) (x17 : Slot) (x18 : Slot) (x19 : Slot) (x20 : Slot) (x21 : Slot) (x22 : Slot) (x23 : Slot) (x24 : Slot) : Array Slot := #[x0, x1, .val (.int x2), x3, x4, x5, .val (.int x6), x7, x8, x9, x10, x11, x12, x13, x14, .val (.ref x15), .val (.ref x16), x17, x18, x19, x20, x21, x22, x23, x24, .val (.int (0 : Int32)), .val (.int (0 : Int32)), .val (.int (1 : Int32)), .val (.int (0 : Int32)), .unset, .unset, .unset, .unset]
abbrev own_l10 (x0 : Slot) (x1 : Slot) (x2 : Int32) (x3 : Slot) (x4 : Slot) (x5 : Slot) (x6 : Int32) (x7 : Slot) (x8 : Slot) (x9 : Slot) (x10 : Slot) (x11 : Slot) (x12 : Slot) (x13 : Slot) (x14 : Slot) (x15 : Addr) (x16 : Addr) (x17 : Slot) (x18 : Slot) (x19 : Slot) (x20 : Slot) (x21 : Slot) (x22 : Slot) (x23 : Slot) (x24 : Slot) : Array Slot := #[x0, x1, .val (.int x2), x3, x4, x5, .val (.int x6), x7, x8, x9, x10, x11, x12, x13, x14, .val (.ref x15), .val (.ref x16), x17, x18, x19, x20, x21, x22, x23, x24, .val (.int (0 : Int32)), .val (.int (0 : Int32)), .val (.int (1 : Int32)), .val (.int ((0 : Int32) + (1 : Int32))), .unset, .unset, .unset, .unset]
abbrev own_l11 (x0 : Slot) (x1 : Slot) (x2 : Int32) (x3 : Slot) (x4 : Slot) (x5 : Slot) (x6 : Int32) (x7 : Slot) (x8 : Slot) (x9 : Slot) (x10 : Slot) (x11 : Slot) (x12 : Slot) (x13 : Slot) (x14 : Slot) (x15 : Addr) (x16 : Addr) (x17 : Slot) (x18 : Slot) (x19 : Slot) (x20 : Slot) (x21 : Slot) (x22 : Slot) (x23 : Slot) (x24 : Slot) : Array Slot := #[x0, x1, .val (.int x2), x3, x4, x5, .val (.int x6), x7, x8, x9, x10, x11, x12, x13, x14, .val (.ref x15), .val (.ref x16), x17, x18, x19, x20, x21, x22, x23, x24, .val (.int (0 : Int32)), .val (.int (0 : Int32)), .val (.int (1 : Int32)), .val (.int (1 : Int32)), .unset, .unset, .unset, .unset]
abbrev own_l12 (x0 : Slot) (x1 : Slot) (x2 : Int32) (x3 : Slot) (x4 : Slot) (x5 : Slot) (x6 : Int32) (x7 : Slot) (x8 : Slot) (x9 : Slot) (x10 : Slot) (x11 : Slot) (x12 : Slot) (x13 : Slot) (x14 : Slot) (x15 : Addr) (x16 : Addr) (x17 : Slot) (x18 : Slot) (x19 : Slot) (x20 : Slot) (x21 : Slot) (x22 : Slot) (x23 : Slot) (x24 : Slot) : Array Slot := #[x0, x1, .val (.int x2), x3, x4, x5, .val (.int x6), x7, x8, x9, x10, x11, x12, x13, x14, .val (.ref x15), .val (.ref x16), x17, x18, x19, x20, x21, x22, x23, x24, .val (.int (0 : Int32)), .val (.int (0 : Int32)), .val (.int (1 : Int32)), .val (.int ((1 : Int32) + (1 : Int32))), .unset, .unset, .unset, .unset]
abbrev own_l13 (x0 : Slot) (x1 : Slot) (x2 : Int32) (x3 : Slot) (x4 : Slot) (x5 : Slot) (x6 : Int32) (x7 : Slot) (x8 : Slot) (x9 : Slot) (x10 : Slot) (x11 : Slot) (x12 : Slot) (x13 : Slot) (x14 : Slot) (x15 : Addr) (x16 : Addr) (x17 : Slot) (x18 : Slot) (x19 : Slot) (x20 : Slot) (x21 : Slot) (x22 : Slot) (x23 : Slot) (x24 : Slot) : Array Slot := #[x0, x1, .val (.int x2), x3, x4, x5, .val (.int x6), x7, x8, x9, x10, x11, x12, x13, x14, .val (.ref x15), .val (.ref x16), x17, x18, x19, x20, x21, x22, x23, x24, .val (.int (0 : Int32)), .val (.int (0 : Int32)), .val (.int (1 : Int32)), .val (.int (2 : Int32)), .unset, .unset, .unset, .unset]
abbrev own_l14 (x0 : Slot) (x1 : Slot) (x2 : Int32) (x3 : Slot) (x4 : Slot) (x5 : Slot) (x6 : Int32) (x7 : Slot) (x8 : Slot) (x9 : Slot) (x10 : Slot) (x11 : Slot) (x12 : Slot) (x13 : Slot) (x14 : Slot) (x15 : Addr) (x16 : Addr) (x17 : Slot) (x18 : Slot) (x19 : Slot) (x20 : Slot) (x21 : Slot) (x22 : Slot) (x23 : Slot) (x24 : Slot) : Array Slot := #[x0, x1, .val (.int x2), x3, x4, x5, .val (.int x6), x7, x8, x9, x10, x11, x12, x13, x14, .val (.ref x15), .val (.ref x16), x17, x18, x19, x20, x21, x22, x23, x24, .val (.int (0 : Int32)), .val (.int (0 : Int32)), .val (.int (1 : Int32)), .val (.int (2 : Int32)), .val (.int ((((x2.toUInt32 >>> ((2 : Int32) &&& 31).toUInt32).toInt32) &&& (3 : Int32)) % (2 : Int32))), .unset, .unset, .unset]
abbrev own_l15 (x0 : Slot) (x1 : Slot) (x2 : Int32) (x3 : Slot) (x4 : Slot) (x5 : Slot) (x6 : Int32) (x7 : Slot) (x8 : Slot) (x9 : Slot) (x10 : Slot) (x11 : Slot) (x12 : Slot) (x13 : Slot) (x14 : Slot) (x15 : Addr) (x16 : Addr) (x17 : Slot) (x18 : Slot) (x19 : Slot) (x20 : Slot) (x21 : Slot) (x22 : Slot) (x23 : Slot) (x24 : Slot) : Array Slot := #[x0, x1, .val (.int x2), x3, x4, x5, .val (.int x6), x7, x8, x9, x10, x11, x12, x13, x14, .val (.ref x15), .val (.ref x16), x17, x18, x19, x20, x21, x22, x23, x24, .val (.int (0 : Int32)), .val (.int (0 : Int32)), .val (.int (1 : Int32)), .val (.int (2 : Int32)), .val (.int (0 : Int32)), .unset, .unset, .unset]
abbrev own_l16 (x0 : Slot) (x1 : Slot) (x2 : Int32) (x3 : Slot) (x4 : Slot) (x5 : Slot) (x6 : Int32) (x7 : Slot) (x8 : Slot) (x9 : Slot) (x10 : Slot) (x11 : Slot) (x12 : Slot) (x13 : Slot) (x14 : Slot) (x15 : Addr) (x16 : Addr) (x17 : Slot) (x18 : Slot) (x19 : Slot) (x20 : Slot) (x21 : Slot) (x22 : Slot) (x23 : Slot) (x24 : Slot) : Array Slot := #[x0, x1, .val (.int x2), x3, x4, x5, .val (.int x6), x7, x8, x9, x10, x11, x12, x13, x14, .val (.ref x15), .val (.ref x16), x17, x18, x19, x20, x21, x22, x23, x24, .val (.int (0 : Int32)), .val (.int (0 : Int32)), .val (.int (1 : Int32)), .val (.int (2 : Int32)), .val (.int (0 : Int32)), .val (.int (0 : Int32)), .unset, .unset]
abbrev own_l17 (x0 : Slot) (x1 : Slot) (x2 : Int32) (x3 : Slot) (x4 : Slot) (x5 : Slot) (x6 : Int32) (x7 : Slot) (x8 : Slot) (x9 : Slot) (x10 : Slot) (x11 : Slot) (x12 : Slot) (x13 : Slot) (x14 : Slot) (x15 : Addr) (x16 : Addr) (x17 : Slot) (x18 : Slot) (x19 : Slot) (x20 : Slot) (x21 : Slot) (x22 : Slot) (x23 : Slot) (x24 : Slot) : Array Slot := #[x0, x1, .val (.int x2), x3, x4, x5, .val (.int x6), x7, x8, x9, x10, x11, x12, x13, x14, .val (.ref x15), .val (.ref x16), x17, x18, x19, x20, x21, x22, x23, x24, .val (.int (0 : Int32)), .val (.int (0 : Int32)), .val (.int (1 : Int32)), .val (.int (2 : Int32)), .val (.int (0 : Int32)), .val (.int (0 : Int32)), .val (.long (3 : Int64)), .second]
def own_Q4_0_2 (Z : State) (ax : Addr) (ap : Addr) (kp : ClassId) (ct : Int32) (qe : Int64) (uu0 : Int32) (uu1 : Int32) (uu2 : Int32) (uu3 : Int32) (h0 : Heap) (n0 : Nat) (v : Option Value) (h : Heap) (L : List Loc) : Prop := Fr n0 L ∧ v = some (.long (uu1.toInt64)) ∧ h = h0
set_option maxRecDepth 65536 in
set_option maxHeartbeats 40000000 in
theorem rm4_0_2 (l : Launch) (Z : State) (a0 : Array Value) (hw : ∀ d ∈ tables_1, d.before a0 Z = true) (ws : List Jvm.Cond) (ax : Addr) (ap : Addr) (kp : ClassId) (ct : Int32) (qe : Int64) (uu0 : Int32) (uu1 : Int32) (uu2 : Int32) (uu3 : Int32) (h0 : Heap) (n0 : Nat) (Z0 : n0 ≤ h0.size) (Fe : Fld Z h0 ax "com/example/coho/coho/eventlog/SegmentIndex" "entries" "I" (.int (2 : Int32))) (Fc : Fld Z h0 ax "com/example/coho/coho/eventlog/SegmentIndex" "count" "I" (.int ct)) (Fq : Fld Z h0 ax "com/example/coho/coho/eventlog/SegmentIndex" "end" "J" (.long qe)) (Fa : Fld Z h0 ax "com/example/coho/coho/eventlog/SegmentIndex" "places" "[I" (.ref ap)) (Va : Arv Z h0 ap kp .int (4 : Int32) [(.int uu0), (.int uu1), (.int uu2), (.int uu3)] (.int (0 : Int32))) :
    MetFree l (⟨"com/example/coho/coho/eventlog/SegmentIndex", "placeAfter", "(I)J"⟩ : MethodName) (head1 (Jvm.Cond.code (⟨"com/example/coho/coho/eventlog/SegmentIndex", "placeAfter", "(I)J"⟩ : MethodName) prog_34_method_9_code 2 (some .long) :: ws) ({ frames := 0, cells := 0, slots := 0, locals := 0 } : Room)) (fun a U => a = #[(.ref ax), (.int (0 : Int32))] ∧ Z.Warmed39 U.vm ∧ U.heap = h0) (fun _ _ _ _ _ => True) (fun _ U o U' => ∃ v L, o = .returned v ∧ own_Q4_0_2 Z ax ap kp ct qe uu0 uu1 uu2 uu3 h0 n0 v U'.heap L ∧ FrameEnd U o U' L ({ frames := 0, cells := 0, slots := 0, locals := 0 } : Room).cells ({ frames := 0, cells := 0, slots := 0, locals := 0 } : Room).slots) := by
  refine MetFree.of_bodySF (plainFor_of_name own_pn4) hisR ?_
  intro p e s m args below meth c s₁ Bd hml0 hP hK
  obtain ⟨rfl, hZ, hh⟩ := hP
  have hx := Bd.exec
  have hby := Bd.bytes
  have hml : c.maxLocals = 2 := hml0
  have hown : s.vm.findClass "com/example/coho/coho/eventlog/SegmentIndex" = some m.cls := findClass_of_methodNamed Bd.named
  have hnm := (name_of_methodNamed Bd.named Bd.method).1
  have X0 : Stand p l e ({ frames := 0, cells := 0, slots := 0, locals := 0 } : Room) s m #[(.ref ax), (.int (0 : Int32))] below meth c s₁ [] 0 0 := Stand.of_body Bd
  have e0 : s₁.heap = h0 := by rw [← hh, Bd.state]; rfl
  have N0 := Fr.nil n0
  refine own_pre (A := (s₁.setTop (mkF m 0 #[.val (.ref ax), .val (.int (0 : Int32))] []))) (fun t k => castTop (own_ef4 m ax (0 : Int32)) k) ?_
  refine own_pre (A := (s₁.setTop (mkF m 4 #[.val (.ref ax), .val (.int (0 : Int32))] [(.ref ax), (.int (1 : Int32))]))) ?_ ?_
  · intro t k
    refine XS.iloadN X0.here hx rfl (hb hby d4_0) rfl ?_
    refine XS.iconst X0.here hx rfl (hb hby d4_1) ?_
    refine XS.iadd X0.here hx rfl (hb hby d4_2) rfl ?_
    show Steps p.tables e below (s₁.setTop (mkF m 3 #[.val (.ref ax), .val (.int (0 : Int32))] [(.int ((0 : Int32) + (1 : Int32)))])) _
    rw [show ((0 : Int32) + (1 : Int32)) = (1 : Int32) from by decide]
    refine XS.aloadN X0.here hx rfl (hb hby d4_3) rfl rfl ?_
    exact k
  obtain ⟨T19, X19, e19, st19⟩ := getF X0 hx hZ hown (host := "") (Or.inl (own_w hw 29 rfl)) Via.refl e0 Fe (g := (mkF m 4 #[.val (.ref ax), .val (.int (0 : Int32))] [(.ref ax), (.int (1 : Int32))])) rfl rfl (hb hby d4_4)
  refine own_pre (fun t k => st19 t k) ?_
  refine own_pre (A := (T19.setTop (mkF m 11 #[.val (.ref ax), .val (.int (0 : Int32))] [(.ref ax)]))) ?_ ?_
  · intro t k
    refine XS.icmpNo X19.here hx rfl (hb hby d4_7) rfl (tlt (by decide : (1 : Int32) < (2 : Int32))).2.1 ?_
    refine XS.aloadN X19.here hx rfl (hb hby d4_10) rfl rfl ?_
    exact k
  obtain ⟨T20, X20, e20, st20⟩ := getF X19 hx hZ hown (host := "") (Or.inl (own_w hw 12 rfl)) Via.refl e19 Fa (g := (mkF m 11 #[.val (.ref ax), .val (.int (0 : Int32))] [(.ref ax)])) rfl rfl (hb hby d4_11)
  refine own_pre (fun t k => st20 t k) ?_
  refine own_pre (A := (T20.setTop (mkF m 27 #[.val (.ref ax), .val (.int (0 : Int32))] [(.long (uu1.toInt64))]))) ?_ ?_
  · intro t k
    refine XS.iloadN X20.here hx rfl (hb hby d4_14) rfl ?_
    refine XS.iconst X20.here hx rfl (hb hby d4_15) ?_
    refine XS.iadd X20.here hx rfl (hb hby d4_16) rfl ?_
    show Steps p.tables e below (T20.setTop (mkF m 17 #[.val (.ref ax), .val (.int (0 : Int32))] [(.int ((0 : Int32) + (1 : Int32))), (.ref ap)])) _
    rw [show ((0 : Int32) + (1 : Int32)) = (1 : Int32) from by decide]
    show Steps p.tables e below (T20.setTop (mkF m 17 #[.val (.ref ax), .val (.int (0 : Int32))] [(.int (1 : Int32)), (.ref ap)])) _
    obtain ⟨cl21, Ar21, q21, S21, N21, H21, G21⟩ := id Va
    have hin21 : ¬ ((1 : Int32) < 0 ∨ cl21.slots.size ≤ ((1 : Int32)).toNatClampNeg) := inb_of S21 ⟨by decide, by decide⟩
    refine X20.iaload hx (j := (1 : Int32)) (v := (.int uu1)) (by rw [e20]; exact Ar21.1) (State.isArrayOf_alike hZ.alike Ar21.2.1) Ar21.2.2 hin21 (H21.at hin21 rfl) (g := (mkF m 17 #[.val (.ref ax), .val (.int (0 : Int32))] [(.int (1 : Int32)), (.ref ap)])) rfl rfl (hb hby d4_17) _ ?_
    refine XS.i2l X20.here hx rfl (hb hby d4_18) rfl ?_
    refine XS.goto X20.here hx rfl (pc0 := 19) (pc' := 27) rfl (hb hby d4_19) (by decide) (by decide) ?_
    exact k
  obtain ⟨fs, hr, hrun, hended, hW, hsame⟩ := X20.leave (hlocks := BodyLoose.notSynchronized Bd) (v := some (.long (uu1.toInt64))) (fun h => by rw [Bd.returns] at h; cases h)
  refine ⟨_, _, retOut X20 hx Bd.returns rfl (Or.inr (Or.inl ⟨rfl, rfl, _, rfl⟩)) (hb hby d4_27) hr, hrun, hended, _, _, rfl, ?_, ⟨_, rfl⟩, hW, hsame.mono (by decide) (by decide)⟩
  show own_Q4_0_2 Z ax ap kp ct qe uu0 uu1 uu2 uu3 h0 n0 _ T20.heap _
  rw [e20]
  exact ⟨N0, rfl, rfl⟩
abbrev own_l18 (x0 : Slot) (x1 : Slot) (x2 : Int32) (x3 : Slot) (x4 : Slot) (x5 : Slot) (x6 : Int32) (x7 : Slot) (x8 : Slot) (x9 : Slot) (x10 : Slot) (x11 : Slot) (x12 : Slot) (x13 : Slot) (x14 : Slot) (x15 : Addr) (x16 : Addr) (x17 : Slot) (x18 : Slot) (x19 : Slot) (x20 : Slot) (x21 : Slot) (x22 : Slot) (x23 : Slot) (x24 : Slot) : Array Slot := #[x0, x1, .val (.int x2), x3, x4, x5, .val (.int x6), x7, x8, x9, x10, x11, x12, x13, x14, .val (.ref x15), .val (.ref x16), x17, x18, x19, x20, x21, x22, x23, x24, .val (.int (0 : Int32)), .val (.int (0 : Int32)), .val (.int (1 : Int32)), .val (.int (2 : Int32)), .val (.int (1 : Int32)), .unset, .unset, .unset]
abbrev own_l19 (x0 : Slot) (x1 : Slot) (x2 : Int32) (x3 : Slot) (x4 : Slot) (x5 : Slot) (x6 : Int32) (x7 : Slot) (x8 : Slot) (x9 : Slot) (x10 : Slot) (x11 : Slot) (x12 : Slot) (x13 : Slot) (x14 : Slot) (x15 : Addr) (x16 : Addr) (x17 : Slot) (x18 : Slot) (x19 : Slot) (x20 : Slot) (x21 : Slot) (x22 : Slot) (x23 : Slot) (x24 : Slot) : Array Slot := #[x0, x1, .val (.int x2), x3, x4, x5, .val (.int x6), x7, x8, x9, x10, x11, x12, x13, x14, .val (.ref x15), .val (.ref x16), x17, x18, x19, x20, x21, x22, x23, x24, .val (.int (0 : Int32)), .val (.int (0 : Int32)), .val (.int (1 : Int32)), .val (.int (2 : Int32)), .val (.int (1 : Int32)), .val (.int (3 : Int32)), .unset, .unset]
abbrev own_l20 (x0 : Slot) (x1 : Slot) (x2 : Int32) (x3 : Slot) (x4 : Slot) (x5 : Slot) (x6 : Int32) (x7 : Slot) (x8 : Slot) (x9 : Slot) (x10 : Slot) (x11 : Slot) (x12 : Slot) (x13 : Slot) (x14 : Slot) (x15 : Addr) (x16 : Addr) (x17 : Slot) (x18 : Slot) (x19 : Slot) (x20 : Slot) (x21 : Slot) (x22 : Slot) (x23 : Slot) (x24 : Slot) : Array Slot := #[x0, x1, .val (.int x2), x3, x4, x5, .val (.int x6), x7, x8, x9, x10, x11, x12, x13, x14, .val (.ref x15), .val (.ref x16), x17, x18, x19, x20, x21, x22, x23, x24, .val (.int (0 : Int32)), .val (.int (0 : Int32)), .val (.int (1 : Int32)), .val (.int (2 : Int32)), .val (.int (1 : Int32)), .val (.int (3 : Int32)), .val (.long (x6.toInt64)), .second]
def own_Q4_1_2 (Z : State) (ax : Addr) (ap : Addr) (kp : ClassId) (ct : Int32) (qe : Int64) (uu0 : Int32) (uu1 : Int32) (uu2 : Int32) (uu3 : Int32) (h0 : Heap) (n0 : Nat) (v : Option Value) (h : Heap) (L : List Loc) : Prop := Fr n0 L ∧ v = some (.long (ct.toInt64)) ∧ h = h0
set_option maxRecDepth 65536 in
set_option maxHeartbeats 40000000 in
theorem rm4_1_2 (l : Launch) (Z : State) (a0 : Array Value) (hw : ∀ d ∈ tables_1, d.before a0 Z = true) (ws : List Jvm.Cond) (ax : Addr) (ap : Addr) (kp : ClassId) (ct : Int32) (qe : Int64) (uu0 : Int32) (uu1 : Int32) (uu2 : Int32) (uu3 : Int32) (h0 : Heap) (n0 : Nat) (Z0 : n0 ≤ h0.size) (Fe : Fld Z h0 ax "com/example/coho/coho/eventlog/SegmentIndex" "entries" "I" (.int (2 : Int32))) (Fc : Fld Z h0 ax "com/example/coho/coho/eventlog/SegmentIndex" "count" "I" (.int ct)) (Fq : Fld Z h0 ax "com/example/coho/coho/eventlog/SegmentIndex" "end" "J" (.long qe)) (Fa : Fld Z h0 ax "com/example/coho/coho/eventlog/SegmentIndex" "places" "[I" (.ref ap)) (Va : Arv Z h0 ap kp .int (4 : Int32) [(.int uu0), (.int uu1), (.int uu2), (.int uu3)] (.int (0 : Int32))) :
    MetFree l (⟨"com/example/coho/coho/eventlog/SegmentIndex", "placeAfter", "(I)J"⟩ : MethodName) (head1 (Jvm.Cond.code (⟨"com/example/coho/coho/eventlog/SegmentIndex", "placeAfter", "(I)J"⟩ : MethodName) prog_34_method_9_code 2 (some .long) :: ws) ({ frames := 0, cells := 0, slots := 0, locals := 0 } : Room)) (fun a U => a = #[(.ref ax), (.int (1 : Int32))] ∧ Z.Warmed39 U.vm ∧ U.heap = h0) (fun _ _ _ _ _ => True) (fun _ U o U' => ∃ v L, o = .returned v ∧ own_Q4_1_2 Z ax ap kp ct qe uu0 uu1 uu2 uu3 h0 n0 v U'.heap L ∧ FrameEnd U o U' L ({ frames := 0, cells := 0, slots := 0, locals := 0 } : Room).cells ({ frames := 0, cells := 0, slots := 0, locals := 0 } : Room).slots) := by
  refine MetFree.of_bodySF (plainFor_of_name own_pn4) hisR ?_
  intro p e s m args below meth c s₁ Bd hml0 hP hK
  obtain ⟨rfl, hZ, hh⟩ := hP
  have hx := Bd.exec
  have hby := Bd.bytes
  have hml : c.maxLocals = 2 := hml0
  have hown : s.vm.findClass "com/example/coho/coho/eventlog/SegmentIndex" = some m.cls := findClass_of_methodNamed Bd.named
  have hnm := (name_of_methodNamed Bd.named Bd.method).1
  have X0 : Stand p l e ({ frames := 0, cells := 0, slots := 0, locals := 0 } : Room) s m #[(.ref ax), (.int (1 : Int32))] below meth c s₁ [] 0 0 := Stand.of_body Bd
  have e0 : s₁.heap = h0 := by rw [← hh, Bd.state]; rfl
  have N0 := Fr.nil n0
  refine own_pre (A := (s₁.setTop (mkF m 0 #[.val (.ref ax), .val (.int (1 : Int32))] []))) (fun t k => castTop (own_ef4 m ax (1 : Int32)) k) ?_
  refine own_pre (A := (s₁.setTop (mkF m 4 #[.val (.ref ax), .val (.int (1 : Int32))] [(.ref ax), (.int (2 : Int32))]))) ?_ ?_
  · intro t k
    refine XS.iloadN X0.here hx rfl (hb hby d4_0) rfl ?_
    refine XS.iconst X0.here hx rfl (hb hby d4_1) ?_
    refine XS.iadd X0.here hx rfl (hb hby d4_2) rfl ?_
    show Steps p.tables e below (s₁.setTop (mkF m 3 #[.val (.ref ax), .val (.int (1 : Int32))] [(.int ((1 : Int32) + (1 : Int32)))])) _
    rw [show ((1 : Int32) + (1 : Int32)) = (2 : Int32) from by decide]
    refine XS.aloadN X0.here hx rfl (hb hby d4_3) rfl rfl ?_
    exact k
  obtain ⟨T24, X24, e24, st24⟩ := getF X0 hx hZ hown (host := "") (Or.inl (own_w hw 29 rfl)) Via.refl e0 Fe (g := (mkF m 4 #[.val (.ref ax), .val (.int (1 : Int32))] [(.ref ax), (.int (2 : Int32))])) rfl rfl (hb hby d4_4)
  refine own_pre (fun t k => st24 t k) ?_
  refine own_pre (A := (T24.setTop (mkF m 23 #[.val (.ref ax), .val (.int (1 : Int32))] [(.ref ax)]))) ?_ ?_
  · intro t k
    refine XS.icmpYes X24.here hx rfl (pc0 := 7) (pc' := 22) rfl (hb hby d4_7) rfl (flt (by decide : ¬ ((2 : Int32) < (2 : Int32)))).2.1 (by decide) (by decide) ?_
    refine XS.aloadN X24.here hx rfl (hb hby d4_22) rfl rfl ?_
    exact k
  obtain ⟨T25, X25, e25, st25⟩ := getF X24 hx hZ hown (host := "") (Or.inl (own_w hw 31 rfl)) Via.refl e24 Fc (g := (mkF m 23 #[.val (.ref ax), .val (.int (1 : Int32))] [(.ref ax)])) rfl rfl (hb hby d4_23)
  refine own_pre (fun t k => st25 t k) ?_
  refine own_pre (A := (T25.setTop (mkF m 27 #[.val (.ref ax), .val (.int (1 : Int32))] [(.long (ct.toInt64))]))) ?_ ?_
  · intro t k
    refine XS.i2l X25.here hx rfl (hb hby d4_26) rfl ?_
    exact k
  obtain ⟨fs, hr, hrun, hended, hW, hsame⟩ := X25.leave (hlocks := BodyLoose.notSynchronized Bd) (v := some (.long (ct.toInt64))) (fun h => by rw [Bd.returns] at h; cases h)
  refine ⟨_, _, retOut X25 hx Bd.returns rfl (Or.inr (Or.inl ⟨rfl, rfl, _, rfl⟩)) (hb hby d4_27) hr, hrun, hended, _, _, rfl, ?_, ⟨_, rfl⟩, hW, hsame.mono (by decide) (by decide)⟩
  show own_Q4_1_2 Z ax ap kp ct qe uu0 uu1 uu2 uu3 h0 n0 _ T25.heap _
  rw [e25]
  exact ⟨N0, rfl, rfl⟩
set_option maxRecDepth 65536 in
set_option maxHeartbeats 40000000 in
theorem own_suf_001 {p : Program} {l : Launch} {e : Env} {s : State} {m : MethodId} {args : Array Value} {below : List Frame} {meth : Method} {c : Code} {T0 : State} {locs : List Loc} {Z : State} {a0 : Array Value} {h0 h1 : Heap} {n0 : Nat} {p2 pn : Int32} {qe : Int64} {apl aix app : Addr} {kpl kpp : ClassId} {sl0 sl1 sl3 sl4 sl5 sl7 sl8 sl9 sl10 sl11 sl12 sl13 sl14 sl17 sl18 sl19 sl20 sl21 sl22 sl23 sl24 : Slot} (X0 : Stand p l e room_1 s m args below meth c T0 locs 5 23) (hx : p.tables.exec = Jvm.exec) (hZ : Z.Warmed39 s.vm) (hw : ∀ d ∈ tables_1, d.before a0 Z = true) (hby : c.code = code) (hml : c.maxLocals = 33) (hown : s.vm.findClass "com/example/coho/coho/eventlog/SegmentIndexPlaceAfterPinLaw" = some m.cls) (hret : meth.sig.returnType = some .boolean) (hlk : meth.locks = false) (e0 : T0.heap = h1) (N0 : Fr n0 locs) (Zs0 : n0 ≤ h1.size) (K0 : Keep h0 h1 []) (Ex : Exa Z h1 aix "com/example/coho/coho/eventlog/SegmentIndex") (Fentries : Fld Z h1 aix "com/example/coho/coho/eventlog/SegmentIndex" "entries" "I" (.int (2 : Int32))) (Fcount : Fld Z h1 aix "com/example/coho/coho/eventlog/SegmentIndex" "count" "I" (.int pn)) (Fend : Fld Z h1 aix "com/example/coho/coho/eventlog/SegmentIndex" "end" "J" (.long qe)) (Fplaces : Fld Z h1 aix "com/example/coho/coho/eventlog/SegmentIndex" "places" "[I" (.ref app)) (Vpp : Arv Z h1 app kpp .int (4 : Int32) [(.int (0 : Int32)), (.int (3 : Int32)), (.int (0 : Int32)), (.int (0 : Int32))] (.int (0 : Int32))) (Vpl : Arv Z h1 apl kpl .int (4 : Int32) [(.int (0 : Int32)), (.int (0 : Int32)), (.int (0 : Int32)), (.int (0 : Int32))] (.int (0 : Int32))) (nix : aix ≠ apl) (npp : app ≠ apl) (gpl : n0 ≤ apl) (spl : h0.size ≤ apl) :
    ∃ s₂ o, Steps p.tables e below (T0.setTop (mkF m 218 (own_l8 sl0 sl1 p2 sl3 sl4 sl5 pn sl7 sl8 sl9 sl10 sl11 sl12 sl13 sl14 apl aix sl17 sl18 sl19 sl20 sl21 sl22 sl23 sl24) [])) s₂ ∧ s₂.status = .running ∧ Ended s₂ below o ∧ (∃ v L, o = .returned v ∧ own_Q0 h0 n0 v s₂.heap L ∧ FrameEnd s o s₂ L room_1.cells room_1.slots) := by
  refine own_pre (A := (T0.setTop (mkF m 226 (own_l9 sl0 sl1 p2 sl3 sl4 sl5 pn sl7 sl8 sl9 sl10 sl11 sl12 sl13 sl14 apl aix sl17 sl18 sl19 sl20 sl21 sl22 sl23 sl24) [(.int (0 : Int32)), (.int (0 : Int32)), (.ref apl)]))) ?_ ?_
  · intro t k
    refine XS.iconst X0.here hx rfl (hb hby at_218) ?_
    refine XS.istore X0.here hx rfl (hb hby at_219) rfl (l' := (own_l9 sl0 sl1 p2 sl3 sl4 sl5 pn sl7 sl8 sl9 sl10 sl11 sl12 sl13 sl14 apl aix sl17 sl18 sl19 sl20 sl21 sl22 sl23 sl24)) rfl ?_
    refine XS.aload X0.here hx rfl (hb hby at_221) rfl rfl ?_
    refine XS.iload X0.here hx rfl (hb hby at_223) rfl ?_
    refine XS.iconst X0.here hx rfl (hb hby at_225) ?_
    exact k
  obtain ⟨cl15, Ar15, q15, S15, N15, H15, G15⟩ := Vpl
  have hin15 : ¬ ((0 : Int32) < 0 ∨ cl15.slots.size ≤ ((0 : Int32)).toNatClampNeg) := inb_of S15 ⟨by decide, by decide⟩
  obtain ⟨T15, h15, X15, e15, W15, st15⟩ := stI X0 hx hZ e0 Ar15 (j := (0 : Int32)) hin15 (g := (mkF m 226 (own_l9 sl0 sl1 p2 sl3 sl4 sl5 pn sl7 sl8 sl9 sl10 sl11 sl12 sl13 sl14 apl aix sl17 sl18 sl19 sl20 sl21 sl22 sl23 sl24) [(.int (0 : Int32)), (.int (0 : Int32)), (.ref apl)])) rfl rfl (hb hby at_226)
  have V15 : Arv Z h15 apl kpl .int (4 : Int32) [(.int (0 : Int32)), (.int (0 : Int32)), (.int (0 : Int32)), (.int (0 : Int32))] (.int (0 : Int32)) := Arv.set Ar15 q15 S15 N15 H15 G15 rfl W15 0 rfl (Nat.le_of_ble_eq_true rfl)
  have Ex_15 := Ex.wr W15
  have Fentries_15 := Fentries.other W15 (Or.inl nix)
  have Fcount_15 := Fcount.other W15 (Or.inl nix)
  have Fend_15 := Fend.other W15 (Or.inl nix)
  have Fplaces_15 := Fplaces.other W15 (Or.inl nix)
  have Vpp_15 := Vpp.other W15 npp
  have Zs15 : n0 ≤ h15.size := Nat.le_trans Zs0 (Keep.of_wr W15).1
  have N15 := Fr.snoc X15 N0 gpl
  refine own_pre (fun t k => st15 t k) ?_
  refine own_pre (A := (T15.setTop (mkF m 268 (own_l11 sl0 sl1 p2 sl3 sl4 sl5 pn sl7 sl8 sl9 sl10 sl11 sl12 sl13 sl14 apl aix sl17 sl18 sl19 sl20 sl21 sl22 sl23 sl24) [(.int (3 : Int32)), (.int (1 : Int32)), (.ref apl)]))) ?_ ?_
  · intro t k
    refine XS.iinc X15.here hx rfl (hb hby at_227) rfl (l' := (own_l10 sl0 sl1 p2 sl3 sl4 sl5 pn sl7 sl8 sl9 sl10 sl11 sl12 sl13 sl14 apl aix sl17 sl18 sl19 sl20 sl21 sl22 sl23 sl24)) rfl ?_
    show Steps  p.tables e below (T15.setTop (mkF m 230 #[sl0, sl1, .val (.int p2), sl3, sl4, sl5, .val (.int pn), sl7, sl8, sl9, sl10, sl11, sl12, sl13, sl14, .val (.ref apl), .val (.ref aix), sl17, sl18, sl19, sl20, sl21, sl22, sl23, sl24, .val (.int (0 : Int32)), .val (.int (0 : Int32)), .val (.int (1 : Int32)), .val (.int ((0 : Int32) + (1 : Int32))), .unset, .unset, .unset, .unset] [])) _
    rw [show ((0 : Int32) + (1 : Int32)) = (1 : Int32) from by decide]
    refine XS.iload X15.here hx rfl (hb hby at_230) rfl ?_
    refine XS.ifYes X15.here hx rfl (pc0 := 232) (pc' := 244) rfl (hb hby at_232) rfl ((if0 _ _).trans (teq (by decide : (0 : Int32) = (0 : Int32))).1) (by decide) (by decide) ?_
    refine XS.iload X15.here hx rfl (hb hby at_244) rfl ?_
    refine XS.ifYes X15.here hx rfl (pc0 := 246) (pc' := 258) rfl (hb hby at_246) rfl ((if0 _ _).trans (teq (by decide : (0 : Int32) = (0 : Int32))).1) (by decide) (by decide) ?_
    refine XS.iload X15.here hx rfl (hb hby at_258) rfl ?_
    refine XS.ifNo X15.here hx rfl (hb hby at_260) rfl ((if0 _ _).trans (feq (by decide : ¬ ((1 : Int32) = (0 : Int32)))).1) ?_
    refine XS.aload X15.here hx rfl (hb hby at_263) rfl rfl ?_
    refine XS.iload X15.here hx rfl (hb hby at_265) rfl ?_
    refine XS.iconst X15.here hx rfl (hb hby at_267) ?_
    exact k
  obtain ⟨cl16, Ar16, q16, S16, N16, H16, G16⟩ := V15
  have hin16 : ¬ ((1 : Int32) < 0 ∨ cl16.slots.size ≤ ((1 : Int32)).toNatClampNeg) := inb_of S16 ⟨by decide, by decide⟩
  obtain ⟨T16, h16, X16, e16, W16, st16⟩ := stI X15 hx hZ e15 Ar16 (j := (1 : Int32)) hin16 (g := (mkF m 268 (own_l11 sl0 sl1 p2 sl3 sl4 sl5 pn sl7 sl8 sl9 sl10 sl11 sl12 sl13 sl14 apl aix sl17 sl18 sl19 sl20 sl21 sl22 sl23 sl24) [(.int (3 : Int32)), (.int (1 : Int32)), (.ref apl)])) rfl rfl (hb hby at_268)
  have V16 : Arv Z h16 apl kpl .int (4 : Int32) [(.int (0 : Int32)), (.int (3 : Int32)), (.int (0 : Int32)), (.int (0 : Int32))] (.int (0 : Int32)) := Arv.set Ar16 q16 S16 N16 H16 G16 rfl W16 1 rfl (Nat.le_of_ble_eq_true rfl)
  have Ex_16 := Ex_15.wr W16
  have Fentries_16 := Fentries_15.other W16 (Or.inl nix)
  have Fcount_16 := Fcount_15.other W16 (Or.inl nix)
  have Fend_16 := Fend_15.other W16 (Or.inl nix)
  have Fplaces_16 := Fplaces_15.other W16 (Or.inl nix)
  have Vpp_16 := Vpp_15.other W16 npp
  have Zs16 : n0 ≤ h16.size := Nat.le_trans Zs15 (Keep.of_wr W16).1
  have N16 := Fr.snoc X16 N15 gpl
  refine own_pre (fun t k => st16 t k) ?_
  refine own_pre (A := (T16.setTop (mkF m 282 (own_l14 sl0 sl1 p2 sl3 sl4 sl5 pn sl7 sl8 sl9 sl10 sl11 sl12 sl13 sl14 apl aix sl17 sl18 sl19 sl20 sl21 sl22 sl23 sl24) []))) ?_ ?_
  · intro t k
    refine XS.iinc X16.here hx rfl (hb hby at_269) rfl (l' := (own_l12 sl0 sl1 p2 sl3 sl4 sl5 pn sl7 sl8 sl9 sl10 sl11 sl12 sl13 sl14 apl aix sl17 sl18 sl19 sl20 sl21 sl22 sl23 sl24)) rfl ?_
    show Steps  p.tables e below (T16.setTop (mkF m 272 #[sl0, sl1, .val (.int p2), sl3, sl4, sl5, .val (.int pn), sl7, sl8, sl9, sl10, sl11, sl12, sl13, sl14, .val (.ref apl), .val (.ref aix), sl17, sl18, sl19, sl20, sl21, sl22, sl23, sl24, .val (.int (0 : Int32)), .val (.int (0 : Int32)), .val (.int (1 : Int32)), .val (.int ((1 : Int32) + (1 : Int32))), .unset, .unset, .unset, .unset] [])) _
    rw [show ((1 : Int32) + (1 : Int32)) = (2 : Int32) from by decide]
    refine XS.iloadN X16.here hx rfl (hb hby at_272) rfl ?_
    refine XS.iconst X16.here hx rfl (hb hby at_273) ?_
    refine XS.iushr X16.here hx rfl (hb hby at_274) rfl ?_
    refine XS.iconst X16.here hx rfl (hb hby at_275) ?_
    refine XS.iand X16.here hx rfl (hb hby at_276) rfl ?_
    refine XS.iload X16.here hx rfl (hb hby at_277) rfl ?_
    show Steps p.tables e below (T16.setTop (mkF m 279 (own_l13 sl0 sl1 p2 sl3 sl4 sl5 pn sl7 sl8 sl9 sl10 sl11 sl12 sl13 sl14 apl aix sl17 sl18 sl19 sl20 sl21 sl22 sl23 sl24) [(.int (2 : Int32)), (.int (((p2.toUInt32 >>> ((2 : Int32) &&& 31).toUInt32).toInt32) &&& (3 : Int32)))])) _
    refine iremM X16 hx rfl (hb hby at_279) rfl (by decide) ?_
    show Steps p.tables e below (T16.setTop (mkF m 280 (own_l13 sl0 sl1 p2 sl3 sl4 sl5 pn sl7 sl8 sl9 sl10 sl11 sl12 sl13 sl14 apl aix sl17 sl18 sl19 sl20 sl21 sl22 sl23 sl24) [(.int ((((p2.toUInt32 >>> ((2 : Int32) &&& 31).toUInt32).toInt32) &&& (3 : Int32)) % (2 : Int32)))])) _
    refine XS.istore X16.here hx rfl (hb hby at_280) rfl (l' := (own_l14 sl0 sl1 p2 sl3 sl4 sl5 pn sl7 sl8 sl9 sl10 sl11 sl12 sl13 sl14 apl aix sl17 sl18 sl19 sl20 sl21 sl22 sl23 sl24)) rfl ?_
    exact k
  obtain ⟨pe, hpe⟩ : ∃ z : Int32, z = ((((p2.toUInt32 >>> ((2 : Int32) &&& 31).toUInt32).toInt32) &&& (3 : Int32)) % (2 : Int32)) := ⟨_, rfl⟩
  show ∃ s₂ o, Steps p.tables e below (T16.setTop (mkF m 282 #[sl0, sl1, .val (.int p2), sl3, sl4, sl5, .val (.int pn), sl7, sl8, sl9, sl10, sl11, sl12, sl13, sl14, .val (.ref apl), .val (.ref aix), sl17, sl18, sl19, sl20, sl21, sl22, sl23, sl24, .val (.int (0 : Int32)), .val (.int (0 : Int32)), .val (.int (1 : Int32)), .val (.int (2 : Int32)), .val (.int ((((p2.toUInt32 >>> ((2 : Int32) &&& 31).toUInt32).toInt32) &&& (3 : Int32)) % (2 : Int32))), .unset, .unset, .unset] [])) s₂ ∧ _
  rw [← hpe]
  have he : pe = (0 : Int32) ∨ pe = (1 : Int32) := by rw [hpe]; exact own_e2 _
  clear hpe
  rcases he with rfl | rfl
  · skip
    refine own_pre (A := (T16.setTop (mkF m 353 (own_l17 sl0 sl1 p2 sl3 sl4 sl5 pn sl7 sl8 sl9 sl10 sl11 sl12 sl13 sl14 apl aix sl17 sl18 sl19 sl20 sl21 sl22 sl23 sl24) [(.int (0 : Int32)), (.ref aix)]))) ?_ ?_
    · intro t k
      refine XS.aload X16.here hx rfl (hb hby at_282) rfl rfl ?_
      refine XS.iload X16.here hx rfl (hb hby at_284) rfl ?_
      show Steps p.tables e below (T16.setTop (mkF m 286 (own_l15 sl0 sl1 p2 sl3 sl4 sl5 pn sl7 sl8 sl9 sl10 sl11 sl12 sl13 sl14 apl aix sl17 sl18 sl19 sl20 sl21 sl22 sl23 sl24) [(.int (0 : Int32)), (.ref apl)])) _
      obtain ⟨cl17, Ar17, q17, S17, N17, H17, G17⟩ := id V16
      have hin17 : ¬ ((0 : Int32) < 0 ∨ cl17.slots.size ≤ ((0 : Int32)).toNatClampNeg) := inb_of S17 ⟨by decide, by decide⟩
      refine X16.iaload hx (j := (0 : Int32)) (v := (.int (0 : Int32))) (by rw [e16]; exact Ar17.1) (State.isArrayOf_alike hZ.alike Ar17.2.1) Ar17.2.2 hin17 (H17.at hin17 rfl) (g := (mkF m 286 (own_l15 sl0 sl1 p2 sl3 sl4 sl5 pn sl7 sl8 sl9 sl10 sl11 sl12 sl13 sl14 apl aix sl17 sl18 sl19 sl20 sl21 sl22 sl23 sl24) [(.int (0 : Int32)), (.ref apl)])) rfl rfl (hb hby at_286) _ ?_
      refine XS.istore X16.here hx rfl (hb hby at_287) rfl (l' := (own_l16 sl0 sl1 p2 sl3 sl4 sl5 pn sl7 sl8 sl9 sl10 sl11 sl12 sl13 sl14 apl aix sl17 sl18 sl19 sl20 sl21 sl22 sl23 sl24)) rfl ?_
      refine XS.iload X16.here hx rfl (hb hby at_289) rfl ?_
      refine XS.iconst X16.here hx rfl (hb hby at_291) ?_
      refine XS.icmpNo X16.here hx rfl (hb hby at_292) rfl (tlt (by decide : (0 : Int32) < (1 : Int32))).2.1 ?_
      refine XS.iload X16.here hx rfl (hb hby at_295) rfl ?_
      refine XS.ifYes X16.here hx rfl (pc0 := 297) (pc' := 306) rfl (hb hby at_297) rfl ((if0 _ _).trans (teq (by decide : (0 : Int32) = (0 : Int32))).1) (by decide) (by decide) ?_
      refine XS.iload X16.here hx rfl (hb hby at_306) rfl ?_
      refine XS.iconst X16.here hx rfl (hb hby at_308) ?_
      refine XS.icmpNo X16.here hx rfl (hb hby at_309) rfl (tlt (by decide : (0 : Int32) < (2 : Int32))).2.1 ?_
      refine XS.iload X16.here hx rfl (hb hby at_312) rfl ?_
      refine XS.ifYes X16.here hx rfl (pc0 := 314) (pc' := 325) rfl (hb hby at_314) rfl ((if0 _ _).trans (teq (by decide : (0 : Int32) = (0 : Int32))).1) (by decide) (by decide) ?_
      refine XS.iload X16.here hx rfl (hb hby at_325) rfl ?_
      refine XS.iconst X16.here hx rfl (hb hby at_327) ?_
      refine XS.icmpNo X16.here hx rfl (hb hby at_328) rfl (tlt (by decide : (0 : Int32) < (3 : Int32))).2.1 ?_
      refine XS.iload X16.here hx rfl (hb hby at_331) rfl ?_
      refine XS.ifNo X16.here hx rfl (hb hby at_333) rfl ((if0 _ _).trans (feq (by decide : ¬ ((1 : Int32) = (0 : Int32)))).1) ?_
      show Steps p.tables e below (T16.setTop (mkF m 336 (own_l16 sl0 sl1 p2 sl3 sl4 sl5 pn sl7 sl8 sl9 sl10 sl11 sl12 sl13 sl14 apl aix sl17 sl18 sl19 sl20 sl21 sl22 sl23 sl24) [])) _
      refine X16.ldc2Long hx hown (mvT hZ (own_w hw 40 rfl)) (g := (mkF m 336 (own_l16 sl0 sl1 p2 sl3 sl4 sl5 pn sl7 sl8 sl9 sl10 sl11 sl12 sl13 sl14 apl aix sl17 sl18 sl19 sl20 sl21 sl22 sl23 sl24) [])) rfl (hb hby at_336) _ ?_
      refine XS.lstore X16.here hx rfl (hb hby at_339) rfl (l' := (own_l17 sl0 sl1 p2 sl3 sl4 sl5 pn sl7 sl8 sl9 sl10 sl11 sl12 sl13 sl14 apl aix sl17 sl18 sl19 sl20 sl21 sl22 sl23 sl24)) rfl ?_
      refine XS.goto X16.here hx rfl (pc0 := 341) (pc' := 349) rfl (hb hby at_341) (by decide) (by decide) ?_
      refine XS.aload X16.here hx rfl (hb hby at_349) rfl rfl ?_
      refine XS.iload X16.here hx rfl (hb hby at_351) rfl ?_
      exact k
    obtain ⟨cq18, kq18, q18a, q18b, q18c⟩ := isOf hZ e16 Ex_16
    obtain ⟨_, _, ⟨T18, L18, k18, n18⟩, -, X18, ⟨Lc18, hQ18, l18, y18, z18⟩, st18⟩ := X16.virtualBack hx (y := (⟨"com/example/coho/coho/eventlog/SegmentIndex", "placeAfter", "(I)J"⟩ : MethodName)) (z := (⟨"com/example/coho/coho/eventlog/SegmentIndex", "placeAfter", "(I)J"⟩ : MethodName)) hown (mvT hZ (own_w hw 35 rfl)) (mvT hZ (own_w hw 36 rfl)) (notFace_of_selects (args := #[]) (mvT hZ (own_w hw 38 rfl))) (mvT hZ (own_w hw 38 rfl)) (mvT hZ (own_w hw 37 rfl)) (by decide) (backOf (W := 0) (rm4_0_2 l Z a0 hw [] aix app kpp pn qe (0 : Int32) (3 : Int32) (0 : Int32) (0 : Int32) h16 n0 Zs16 Fentries_16 Fcount_16 Fend_16 Fplaces_16 Vpp_16) hZ (own_w hw 39 rfl) (own_w hw 5 rfl) (by decide) (by decide)) q18a q18c (g := (mkF m 353 (own_l17 sl0 sl1 p2 sl3 sl4 sl5 pn sl7 sl8 sl9 sl10 sl11 sl12 sl13 sl14 apl aix sl17 sl18 sl19 sl20 sl21 sl22 sl23 sl24) [(.int (0 : Int32)), (.ref aix)])) rfl (by rw [hml]; rfl) (Steps.refl _) (argsL := [(.int (0 : Int32))]) (rest := []) (lenOf own_pd0 rfl) rfl (by show 2 * 0 + _ ≤ _; exact Nat.le_of_eq rfl) (hb hby at_353) (fun _ _ => ⟨rfl, e16, (by decide : 5 + 0 ≤ _), (by decide : 23 + 0 ≤ _)⟩)
    dsimp only [Pt.U, Pt.locs, Pt.cells, Pt.slots] at X18 l18 y18 z18 st18 hQ18
    replace y18 : _ = 5 := y18
    replace z18 : _ = 23 := z18
    subst y18 z18
    obtain ⟨Nq18, rfl, eq18⟩ := hQ18
    have N18 := own_frl l18 N16 Nq18
    refine own_pre (fun t k => st18.trans k) ?_
    refine own_pre (A := (T18.setTop (mkF m 367 (own_l17 sl0 sl1 p2 sl3 sl4 sl5 pn sl7 sl8 sl9 sl10 sl11 sl12 sl13 sl14 apl aix sl17 sl18 sl19 sl20 sl21 sl22 sl23 sl24) [(.int (1 : Int32))]))) ?_ ?_
    · intro t k
      refine XS.lload X18.here hx rfl (hb hby at_356) rfl ?_
      refine XS.lcmp X18.here hx rfl (hb hby at_358) rfl ?_
      refine XS.ifNo X18.here hx rfl (hb hby at_359) rfl ((if0 _ _).trans (teq ((lw_eq ((3 : Int32).toInt64) (3 : Int64)).mpr (by decide : ((3 : Int32).toInt64) = (3 : Int64)))).2) ?_
      refine XS.iconst X18.here hx rfl (hb hby at_362) ?_
      refine XS.goto X18.here hx rfl (pc0 := 363) (pc' := 367) rfl (hb hby at_363) (by decide) (by decide) ?_
      exact k
    obtain ⟨fs, hr, hrun, hended, hW, hsame⟩ := X18.leave (hlocks := hlk) (v := some (.int (1 : Int32))) (fun h => by rw [hret] at h; cases h)
    refine ⟨_, _, retOut X18 hx hret rfl (Or.inl ⟨rfl, Or.inr (Or.inl rfl), _, rfl⟩) (hb hby at_367) hr, hrun, hended, _, _, rfl, ?_, ⟨_, rfl⟩, hW, hsame.mono (by decide) (by decide)⟩
    show own_Q0 h0 n0 _ T18.heap _
    rw [eq18]
    exact ⟨rfl, N18⟩
  · skip
    refine own_pre (A := (T16.setTop (mkF m 353 (own_l20 sl0 sl1 p2 sl3 sl4 sl5 pn sl7 sl8 sl9 sl10 sl11 sl12 sl13 sl14 apl aix sl17 sl18 sl19 sl20 sl21 sl22 sl23 sl24) [(.int (1 : Int32)), (.ref aix)]))) ?_ ?_
    · intro t k
      refine XS.aload X16.here hx rfl (hb hby at_282) rfl rfl ?_
      refine XS.iload X16.here hx rfl (hb hby at_284) rfl ?_
      show Steps p.tables e below (T16.setTop (mkF m 286 (own_l18 sl0 sl1 p2 sl3 sl4 sl5 pn sl7 sl8 sl9 sl10 sl11 sl12 sl13 sl14 apl aix sl17 sl18 sl19 sl20 sl21 sl22 sl23 sl24) [(.int (1 : Int32)), (.ref apl)])) _
      obtain ⟨cl22, Ar22, q22, S22, N22, H22, G22⟩ := id V16
      have hin22 : ¬ ((1 : Int32) < 0 ∨ cl22.slots.size ≤ ((1 : Int32)).toNatClampNeg) := inb_of S22 ⟨by decide, by decide⟩
      refine X16.iaload hx (j := (1 : Int32)) (v := (.int (3 : Int32))) (by rw [e16]; exact Ar22.1) (State.isArrayOf_alike hZ.alike Ar22.2.1) Ar22.2.2 hin22 (H22.at hin22 rfl) (g := (mkF m 286 (own_l18 sl0 sl1 p2 sl3 sl4 sl5 pn sl7 sl8 sl9 sl10 sl11 sl12 sl13 sl14 apl aix sl17 sl18 sl19 sl20 sl21 sl22 sl23 sl24) [(.int (1 : Int32)), (.ref apl)])) rfl rfl (hb hby at_286) _ ?_
      refine XS.istore X16.here hx rfl (hb hby at_287) rfl (l' := (own_l19 sl0 sl1 p2 sl3 sl4 sl5 pn sl7 sl8 sl9 sl10 sl11 sl12 sl13 sl14 apl aix sl17 sl18 sl19 sl20 sl21 sl22 sl23 sl24)) rfl ?_
      refine XS.iload X16.here hx rfl (hb hby at_289) rfl ?_
      refine XS.iconst X16.here hx rfl (hb hby at_291) ?_
      refine XS.icmpYes X16.here hx rfl (pc0 := 292) (pc' := 306) rfl (hb hby at_292) rfl (flt (by decide : ¬ ((3 : Int32) < (1 : Int32)))).2.1 (by decide) (by decide) ?_
      refine XS.iload X16.here hx rfl (hb hby at_306) rfl ?_
      refine XS.iconst X16.here hx rfl (hb hby at_308) ?_
      refine XS.icmpYes X16.here hx rfl (pc0 := 309) (pc' := 325) rfl (hb hby at_309) rfl (flt (by decide : ¬ ((3 : Int32) < (2 : Int32)))).2.1 (by decide) (by decide) ?_
      refine XS.iload X16.here hx rfl (hb hby at_325) rfl ?_
      refine XS.iconst X16.here hx rfl (hb hby at_327) ?_
      refine XS.icmpYes X16.here hx rfl (pc0 := 328) (pc' := 344) rfl (hb hby at_328) rfl (flt (by decide : ¬ ((3 : Int32) < (3 : Int32)))).2.1 (by decide) (by decide) ?_
      refine XS.iload X16.here hx rfl (hb hby at_344) rfl ?_
      refine XS.i2l X16.here hx rfl (hb hby at_346) rfl ?_
      refine XS.lstore X16.here hx rfl (hb hby at_347) rfl (l' := (own_l20 sl0 sl1 p2 sl3 sl4 sl5 pn sl7 sl8 sl9 sl10 sl11 sl12 sl13 sl14 apl aix sl17 sl18 sl19 sl20 sl21 sl22 sl23 sl24)) rfl ?_
      refine XS.aload X16.here hx rfl (hb hby at_349) rfl rfl ?_
      refine XS.iload X16.here hx rfl (hb hby at_351) rfl ?_
      exact k
    obtain ⟨cq23, kq23, q23a, q23b, q23c⟩ := isOf hZ e16 Ex_16
    obtain ⟨_, _, ⟨T23, L23, k23, n23⟩, -, X23, ⟨Lc23, hQ23, l23, y23, z23⟩, st23⟩ := X16.virtualBack hx (y := (⟨"com/example/coho/coho/eventlog/SegmentIndex", "placeAfter", "(I)J"⟩ : MethodName)) (z := (⟨"com/example/coho/coho/eventlog/SegmentIndex", "placeAfter", "(I)J"⟩ : MethodName)) hown (mvT hZ (own_w hw 35 rfl)) (mvT hZ (own_w hw 36 rfl)) (notFace_of_selects (args := #[]) (mvT hZ (own_w hw 38 rfl))) (mvT hZ (own_w hw 38 rfl)) (mvT hZ (own_w hw 37 rfl)) (by decide) (backOf (W := 0) (rm4_1_2 l Z a0 hw [] aix app kpp pn qe (0 : Int32) (3 : Int32) (0 : Int32) (0 : Int32) h16 n0 Zs16 Fentries_16 Fcount_16 Fend_16 Fplaces_16 Vpp_16) hZ (own_w hw 39 rfl) (own_w hw 5 rfl) (by decide) (by decide)) q23a q23c (g := (mkF m 353 (own_l20 sl0 sl1 p2 sl3 sl4 sl5 pn sl7 sl8 sl9 sl10 sl11 sl12 sl13 sl14 apl aix sl17 sl18 sl19 sl20 sl21 sl22 sl23 sl24) [(.int (1 : Int32)), (.ref aix)])) rfl (by rw [hml]; rfl) (Steps.refl _) (argsL := [(.int (1 : Int32))]) (rest := []) (lenOf own_pd0 rfl) rfl (by show 2 * 0 + _ ≤ _; exact Nat.le_of_eq rfl) (hb hby at_353) (fun _ _ => ⟨rfl, e16, (by decide : 5 + 0 ≤ _), (by decide : 23 + 0 ≤ _)⟩)
    dsimp only [Pt.U, Pt.locs, Pt.cells, Pt.slots] at X23 l23 y23 z23 st23 hQ23
    replace y23 : _ = 5 := y23
    replace z23 : _ = 23 := z23
    subst y23 z23
    obtain ⟨Nq23, rfl, eq23⟩ := hQ23
    have N23 := own_frl l23 N16 Nq23
    refine own_pre (fun t k => st23.trans k) ?_
    refine own_pre (A := (T23.setTop (mkF m 367 (own_l20 sl0 sl1 p2 sl3 sl4 sl5 pn sl7 sl8 sl9 sl10 sl11 sl12 sl13 sl14 apl aix sl17 sl18 sl19 sl20 sl21 sl22 sl23 sl24) [(.int (1 : Int32))]))) ?_ ?_
    · intro t k
      refine XS.lload X23.here hx rfl (hb hby at_356) rfl ?_
      refine XS.lcmp X23.here hx rfl (hb hby at_358) rfl ?_
      refine XS.ifNo X23.here hx rfl (hb hby at_359) rfl ((if0 _ _).trans (teq ((lw_eq (pn.toInt64) (pn.toInt64)).mpr (rfl : (pn.toInt64) = (pn.toInt64)))).2) ?_
      refine XS.iconst X23.here hx rfl (hb hby at_362) ?_
      refine XS.goto X23.here hx rfl (pc0 := 363) (pc' := 367) rfl (hb hby at_363) (by decide) (by decide) ?_
      exact k
    obtain ⟨fs, hr, hrun, hended, hW, hsame⟩ := X23.leave (hlocks := hlk) (v := some (.int (1 : Int32))) (fun h => by rw [hret] at h; cases h)
    refine ⟨_, _, retOut X23 hx hret rfl (Or.inl ⟨rfl, Or.inr (Or.inl rfl), _, rfl⟩) (hb hby at_367) hr, hrun, hended, _, _, rfl, ?_, ⟨_, rfl⟩, hW, hsame.mono (by decide) (by decide)⟩
    show own_Q0 h0 n0 _ T23.heap _
    rw [eq23]
    exact ⟨rfl, N23⟩
abbrev own_l21 (x0 : Slot) (x1 : Slot) (x2 : Int32) (x3 : Slot) (x4 : Slot) (x5 : Slot) (x6 : Int32) (x7 : Slot) (x8 : Slot) (x9 : Slot) (x10 : Slot) (x11 : Slot) (x12 : Slot) (x13 : Slot) (x14 : Slot) (x15 : Addr) (x16 : Addr) (x17 : Slot) (x18 : Slot) (x19 : Slot) (x20 : Slot) (x21 : Slot) (x22 : Slot) (x23 : Slot) (x24 : Slot) : Array Slot := #[x0, x1, .val (.int x2), x3, x4, x5, .val (.int x6), x7, x8, x9, x10, x11, x12, x13, x14, .val (.ref x15), .val (.ref x16), x17, x18, x19, x20, x21, x22, x23, x24, .val (.int (0 : Int32)), .val (.int (1 : Int32)), .val (.int (0 : Int32)), .unset, .unset, .unset, .unset, .unset]
abbrev own_l22 (x0 : Slot) (x1 : Slot) (x2 : Int32) (x3 : Slot) (x4 : Slot) (x5 : Slot) (x6 : Int32) (x7 : Slot) (x8 : Slot) (x9 : Slot) (x10 : Slot) (x11 : Slot) (x12 : Slot) (x13 : Slot) (x14 : Slot) (x15 : Addr) (x16 : Addr) (x17 : Slot) (x18 : Slot) (x19 : Slot) (x20 : Slot) (x21 : Slot) (x22 : Slot) (x23 : Slot) (x24 : Slot) : Array Slot := #[x0, x1, .val (.int x2), x3, x4, x5, .val (.int x6), x7, x8, x9, x10, x11, x12, x13, x14, .val (.ref x15), .val (.ref x16), x17, x18, x19, x20, x21, x22, x23, x24, .val (.int (0 : Int32)), .val (.int (1 : Int32)), .val (.int (0 : Int32)), .val (.int (0 : Int32)), .unset, .unset, .unset, .unset]
abbrev own_l23 (x0 : Slot) (x1 : Slot) (x2 : Int32) (x3 : Slot) (x4 : Slot) (x5 : Slot) (x6 : Int32) (x7 : Slot) (x8 : Slot) (x9 : Slot) (x10 : Slot) (x11 : Slot) (x12 : Slot) (x13 : Slot) (x14 : Slot) (x15 : Addr) (x16 : Addr) (x17 : Slot) (x18 : Slot) (x19 : Slot) (x20 : Slot) (x21 : Slot) (x22 : Slot) (x23 : Slot) (x24 : Slot) : Array Slot := #[x0, x1, .val (.int x2), x3, x4, x5, .val (.int x6), x7, x8, x9, x10, x11, x12, x13, x14, .val (.ref x15), .val (.ref x16), x17, x18, x19, x20, x21, x22, x23, x24, .val (.int (0 : Int32)), .val (.int (1 : Int32)), .val (.int (0 : Int32)), .val (.int ((0 : Int32) + (1 : Int32))), .unset, .unset, .unset, .unset]
abbrev own_l24 (x0 : Slot) (x1 : Slot) (x2 : Int32) (x3 : Slot) (x4 : Slot) (x5 : Slot) (x6 : Int32) (x7 : Slot) (x8 : Slot) (x9 : Slot) (x10 : Slot) (x11 : Slot) (x12 : Slot) (x13 : Slot) (x14 : Slot) (x15 : Addr) (x16 : Addr) (x17 : Slot) (x18 : Slot) (x19 : Slot) (x20 : Slot) (x21 : Slot) (x22 : Slot) (x23 : Slot) (x24 : Slot) : Array Slot := #[x0, x1, .val (.int x2), x3, x4, x5, .val (.int x6), x7, x8, x9, x10, x11, x12, x13, x14, .val (.ref x15), .val (.ref x16), x17, x18, x19, x20, x21, x22, x23, x24, .val (.int (0 : Int32)), .val (.int (1 : Int32)), .val (.int (0 : Int32)), .val (.int (1 : Int32)), .unset, .unset, .unset, .unset]
abbrev own_l25 (x0 : Slot) (x1 : Slot) (x2 : Int32) (x3 : Slot) (x4 : Slot) (x5 : Slot) (x6 : Int32) (x7 : Slot) (x8 : Slot) (x9 : Slot) (x10 : Slot) (x11 : Slot) (x12 : Slot) (x13 : Slot) (x14 : Slot) (x15 : Addr) (x16 : Addr) (x17 : Slot) (x18 : Slot) (x19 : Slot) (x20 : Slot) (x21 : Slot) (x22 : Slot) (x23 : Slot) (x24 : Slot) : Array Slot := #[x0, x1, .val (.int x2), x3, x4, x5, .val (.int x6), x7, x8, x9, x10, x11, x12, x13, x14, .val (.ref x15), .val (.ref x16), x17, x18, x19, x20, x21, x22, x23, x24, .val (.int (0 : Int32)), .val (.int (1 : Int32)), .val (.int (0 : Int32)), .val (.int ((1 : Int32) + (1 : Int32))), .unset, .unset, .unset, .unset]
abbrev own_l26 (x0 : Slot) (x1 : Slot) (x2 : Int32) (x3 : Slot) (x4 : Slot) (x5 : Slot) (x6 : Int32) (x7 : Slot) (x8 : Slot) (x9 : Slot) (x10 : Slot) (x11 : Slot) (x12 : Slot) (x13 : Slot) (x14 : Slot) (x15 : Addr) (x16 : Addr) (x17 : Slot) (x18 : Slot) (x19 : Slot) (x20 : Slot) (x21 : Slot) (x22 : Slot) (x23 : Slot) (x24 : Slot) : Array Slot := #[x0, x1, .val (.int x2), x3, x4, x5, .val (.int x6), x7, x8, x9, x10, x11, x12, x13, x14, .val (.ref x15), .val (.ref x16), x17, x18, x19, x20, x21, x22, x23, x24, .val (.int (0 : Int32)), .val (.int (1 : Int32)), .val (.int (0 : Int32)), .val (.int (2 : Int32)), .unset, .unset, .unset, .unset]
abbrev own_l27 (x0 : Slot) (x1 : Slot) (x2 : Int32) (x3 : Slot) (x4 : Slot) (x5 : Slot) (x6 : Int32) (x7 : Slot) (x8 : Slot) (x9 : Slot) (x10 : Slot) (x11 : Slot) (x12 : Slot) (x13 : Slot) (x14 : Slot) (x15 : Addr) (x16 : Addr) (x17 : Slot) (x18 : Slot) (x19 : Slot) (x20 : Slot) (x21 : Slot) (x22 : Slot) (x23 : Slot) (x24 : Slot) : Array Slot := #[x0, x1, .val (.int x2), x3, x4, x5, .val (.int x6), x7, x8, x9, x10, x11, x12, x13, x14, .val (.ref x15), .val (.ref x16), x17, x18, x19, x20, x21, x22, x23, x24, .val (.int (0 : Int32)), .val (.int (1 : Int32)), .val (.int (0 : Int32)), .val (.int (2 : Int32)), .val (.int ((((x2.toUInt32 >>> ((2 : Int32) &&& 31).toUInt32).toInt32) &&& (3 : Int32)) % (2 : Int32))), .unset, .unset, .unset]
abbrev own_l28 (x0 : Slot) (x1 : Slot) (x2 : Int32) (x3 : Slot) (x4 : Slot) (x5 : Slot) (x6 : Int32) (x7 : Slot) (x8 : Slot) (x9 : Slot) (x10 : Slot) (x11 : Slot) (x12 : Slot) (x13 : Slot) (x14 : Slot) (x15 : Addr) (x16 : Addr) (x17 : Slot) (x18 : Slot) (x19 : Slot) (x20 : Slot) (x21 : Slot) (x22 : Slot) (x23 : Slot) (x24 : Slot) : Array Slot := #[x0, x1, .val (.int x2), x3, x4, x5, .val (.int x6), x7, x8, x9, x10, x11, x12, x13, x14, .val (.ref x15), .val (.ref x16), x17, x18, x19, x20, x21, x22, x23, x24, .val (.int (0 : Int32)), .val (.int (1 : Int32)), .val (.int (0 : Int32)), .val (.int (2 : Int32)), .val (.int (0 : Int32)), .unset, .unset, .unset]
abbrev own_l29 (x0 : Slot) (x1 : Slot) (x2 : Int32) (x3 : Slot) (x4 : Slot) (x5 : Slot) (x6 : Int32) (x7 : Slot) (x8 : Slot) (x9 : Slot) (x10 : Slot) (x11 : Slot) (x12 : Slot) (x13 : Slot) (x14 : Slot) (x15 : Addr) (x16 : Addr) (x17 : Slot) (x18 : Slot) (x19 : Slot) (x20 : Slot) (x21 : Slot) (x22 : Slot) (x23 : Slot) (x24 : Slot) : Array Slot := #[x0, x1, .val (.int x2), x3, x4, x5, .val (.int x6), x7, x8, x9, x10, x11, x12, x13, x14, .val (.ref x15), .val (.ref x16), x17, x18, x19, x20, x21, x22, x23, x24, .val (.int (0 : Int32)), .val (.int (1 : Int32)), .val (.int (0 : Int32)), .val (.int (2 : Int32)), .val (.int (0 : Int32)), .val (.int (0 : Int32)), .unset, .unset]
abbrev own_l30 (x0 : Slot) (x1 : Slot) (x2 : Int32) (x3 : Slot) (x4 : Slot) (x5 : Slot) (x6 : Int32) (x7 : Slot) (x8 : Slot) (x9 : Slot) (x10 : Slot) (x11 : Slot) (x12 : Slot) (x13 : Slot) (x14 : Slot) (x15 : Addr) (x16 : Addr) (x17 : Slot) (x18 : Slot) (x19 : Slot) (x20 : Slot) (x21 : Slot) (x22 : Slot) (x23 : Slot) (x24 : Slot) : Array Slot := #[x0, x1, .val (.int x2), x3, x4, x5, .val (.int x6), x7, x8, x9, x10, x11, x12, x13, x14, .val (.ref x15), .val (.ref x16), x17, x18, x19, x20, x21, x22, x23, x24, .val (.int (0 : Int32)), .val (.int (1 : Int32)), .val (.int (0 : Int32)), .val (.int (2 : Int32)), .val (.int (0 : Int32)), .val (.int (0 : Int32)), .val (.long (2 : Int64)), .second]
abbrev own_l31 (x0 : Slot) (x1 : Slot) (x2 : Int32) (x3 : Slot) (x4 : Slot) (x5 : Slot) (x6 : Int32) (x7 : Slot) (x8 : Slot) (x9 : Slot) (x10 : Slot) (x11 : Slot) (x12 : Slot) (x13 : Slot) (x14 : Slot) (x15 : Addr) (x16 : Addr) (x17 : Slot) (x18 : Slot) (x19 : Slot) (x20 : Slot) (x21 : Slot) (x22 : Slot) (x23 : Slot) (x24 : Slot) : Array Slot := #[x0, x1, .val (.int x2), x3, x4, x5, .val (.int x6), x7, x8, x9, x10, x11, x12, x13, x14, .val (.ref x15), .val (.ref x16), x17, x18, x19, x20, x21, x22, x23, x24, .val (.int (0 : Int32)), .val (.int (1 : Int32)), .val (.int (0 : Int32)), .val (.int (2 : Int32)), .val (.int (1 : Int32)), .unset, .unset, .unset]
abbrev own_l32 (x0 : Slot) (x1 : Slot) (x2 : Int32) (x3 : Slot) (x4 : Slot) (x5 : Slot) (x6 : Int32) (x7 : Slot) (x8 : Slot) (x9 : Slot) (x10 : Slot) (x11 : Slot) (x12 : Slot) (x13 : Slot) (x14 : Slot) (x15 : Addr) (x16 : Addr) (x17 : Slot) (x18 : Slot) (x19 : Slot) (x20 : Slot) (x21 : Slot) (x22 : Slot) (x23 : Slot) (x24 : Slot) : Array Slot := #[x0, x1, .val (.int x2), x3, x4, x5, .val (.int x6), x7, x8, x9, x10, x11, x12, x13, x14, .val (.ref x15), .val (.ref x16), x17, x18, x19, x20, x21, x22, x23, x24, .val (.int (0 : Int32)), .val (.int (1 : Int32)), .val (.int (0 : Int32)), .val (.int (2 : Int32)), .val (.int (1 : Int32)), .val (.int (2 : Int32)), .unset, .unset]
abbrev own_l33 (x0 : Slot) (x1 : Slot) (x2 : Int32) (x3 : Slot) (x4 : Slot) (x5 : Slot) (x6 : Int32) (x7 : Slot) (x8 : Slot) (x9 : Slot) (x10 : Slot) (x11 : Slot) (x12 : Slot) (x13 : Slot) (x14 : Slot) (x15 : Addr) (x16 : Addr) (x17 : Slot) (x18 : Slot) (x19 : Slot) (x20 : Slot) (x21 : Slot) (x22 : Slot) (x23 : Slot) (x24 : Slot) : Array Slot := #[x0, x1, .val (.int x2), x3, x4, x5, .val (.int x6), x7, x8, x9, x10, x11, x12, x13, x14, .val (.ref x15), .val (.ref x16), x17, x18, x19, x20, x21, x22, x23, x24, .val (.int (0 : Int32)), .val (.int (1 : Int32)), .val (.int (0 : Int32)), .val (.int (2 : Int32)), .val (.int (1 : Int32)), .val (.int (2 : Int32)), .val (.long (x6.toInt64)), .second]
set_option maxRecDepth 65536 in
set_option maxHeartbeats 40000000 in
theorem own_suf_010 {p : Program} {l : Launch} {e : Env} {s : State} {m : MethodId} {args : Array Value} {below : List Frame} {meth : Method} {c : Code} {T0 : State} {locs : List Loc} {Z : State} {a0 : Array Value} {h0 h1 : Heap} {n0 : Nat} {p2 pn : Int32} {qe : Int64} {apl aix app : Addr} {kpl kpp : ClassId} {sl0 sl1 sl3 sl4 sl5 sl7 sl8 sl9 sl10 sl11 sl12 sl13 sl14 sl17 sl18 sl19 sl20 sl21 sl22 sl23 sl24 : Slot} (X0 : Stand p l e room_1 s m args below meth c T0 locs 5 23) (hx : p.tables.exec = Jvm.exec) (hZ : Z.Warmed39 s.vm) (hw : ∀ d ∈ tables_1, d.before a0 Z = true) (hby : c.code = code) (hml : c.maxLocals = 33) (hown : s.vm.findClass "com/example/coho/coho/eventlog/SegmentIndexPlaceAfterPinLaw" = some m.cls) (hret : meth.sig.returnType = some .boolean) (hlk : meth.locks = false) (e0 : T0.heap = h1) (N0 : Fr n0 locs) (Zs0 : n0 ≤ h1.size) (K0 : Keep h0 h1 []) (Ex : Exa Z h1 aix "com/example/coho/coho/eventlog/SegmentIndex") (Fentries : Fld Z h1 aix "com/example/coho/coho/eventlog/SegmentIndex" "entries" "I" (.int (2 : Int32))) (Fcount : Fld Z h1 aix "com/example/coho/coho/eventlog/SegmentIndex" "count" "I" (.int pn)) (Fend : Fld Z h1 aix "com/example/coho/coho/eventlog/SegmentIndex" "end" "J" (.long qe)) (Fplaces : Fld Z h1 aix "com/example/coho/coho/eventlog/SegmentIndex" "places" "[I" (.ref app)) (Vpp : Arv Z h1 app kpp .int (4 : Int32) [(.int (0 : Int32)), (.int (2 : Int32)), (.int (0 : Int32)), (.int (0 : Int32))] (.int (0 : Int32))) (Vpl : Arv Z h1 apl kpl .int (4 : Int32) [(.int (0 : Int32)), (.int (0 : Int32)), (.int (0 : Int32)), (.int (0 : Int32))] (.int (0 : Int32))) (nix : aix ≠ apl) (npp : app ≠ apl) (gpl : n0 ≤ apl) (spl : h0.size ≤ apl) :
    ∃ s₂ o, Steps p.tables e below (T0.setTop (mkF m 218 (own_l21 sl0 sl1 p2 sl3 sl4 sl5 pn sl7 sl8 sl9 sl10 sl11 sl12 sl13 sl14 apl aix sl17 sl18 sl19 sl20 sl21 sl22 sl23 sl24) [])) s₂ ∧ s₂.status = .running ∧ Ended s₂ below o ∧ (∃ v L, o = .returned v ∧ own_Q0 h0 n0 v s₂.heap L ∧ FrameEnd s o s₂ L room_1.cells room_1.slots) := by
  refine own_pre (A := (T0.setTop (mkF m 226 (own_l22 sl0 sl1 p2 sl3 sl4 sl5 pn sl7 sl8 sl9 sl10 sl11 sl12 sl13 sl14 apl aix sl17 sl18 sl19 sl20 sl21 sl22 sl23 sl24) [(.int (0 : Int32)), (.int (0 : Int32)), (.ref apl)]))) ?_ ?_
  · intro t k
    refine XS.iconst X0.here hx rfl (hb hby at_218) ?_
    refine XS.istore X0.here hx rfl (hb hby at_219) rfl (l' := (own_l22 sl0 sl1 p2 sl3 sl4 sl5 pn sl7 sl8 sl9 sl10 sl11 sl12 sl13 sl14 apl aix sl17 sl18 sl19 sl20 sl21 sl22 sl23 sl24)) rfl ?_
    refine XS.aload X0.here hx rfl (hb hby at_221) rfl rfl ?_
    refine XS.iload X0.here hx rfl (hb hby at_223) rfl ?_
    refine XS.iconst X0.here hx rfl (hb hby at_225) ?_
    exact k
  obtain ⟨cl26, Ar26, q26, S26, N26, H26, G26⟩ := Vpl
  have hin26 : ¬ ((0 : Int32) < 0 ∨ cl26.slots.size ≤ ((0 : Int32)).toNatClampNeg) := inb_of S26 ⟨by decide, by decide⟩
  obtain ⟨T26, h26, X26, e26, W26, st26⟩ := stI X0 hx hZ e0 Ar26 (j := (0 : Int32)) hin26 (g := (mkF m 226 (own_l22 sl0 sl1 p2 sl3 sl4 sl5 pn sl7 sl8 sl9 sl10 sl11 sl12 sl13 sl14 apl aix sl17 sl18 sl19 sl20 sl21 sl22 sl23 sl24) [(.int (0 : Int32)), (.int (0 : Int32)), (.ref apl)])) rfl rfl (hb hby at_226)
  have V26 : Arv Z h26 apl kpl .int (4 : Int32) [(.int (0 : Int32)), (.int (0 : Int32)), (.int (0 : Int32)), (.int (0 : Int32))] (.int (0 : Int32)) := Arv.set Ar26 q26 S26 N26 H26 G26 rfl W26 0 rfl (Nat.le_of_ble_eq_true rfl)
  have Ex_26 := Ex.wr W26
  have Fentries_26 := Fentries.other W26 (Or.inl nix)
  have Fcount_26 := Fcount.other W26 (Or.inl nix)
  have Fend_26 := Fend.other W26 (Or.inl nix)
  have Fplaces_26 := Fplaces.other W26 (Or.inl nix)
  have Vpp_26 := Vpp.other W26 npp
  have Zs26 : n0 ≤ h26.size := Nat.le_trans Zs0 (Keep.of_wr W26).1
  have N26 := Fr.snoc X26 N0 gpl
  refine own_pre (fun t k => st26 t k) ?_
  refine own_pre (A := (T26.setTop (mkF m 254 (own_l24 sl0 sl1 p2 sl3 sl4 sl5 pn sl7 sl8 sl9 sl10 sl11 sl12 sl13 sl14 apl aix sl17 sl18 sl19 sl20 sl21 sl22 sl23 sl24) [(.int (2 : Int32)), (.int (1 : Int32)), (.ref apl)]))) ?_ ?_
  · intro t k
    refine XS.iinc X26.here hx rfl (hb hby at_227) rfl (l' := (own_l23 sl0 sl1 p2 sl3 sl4 sl5 pn sl7 sl8 sl9 sl10 sl11 sl12 sl13 sl14 apl aix sl17 sl18 sl19 sl20 sl21 sl22 sl23 sl24)) rfl ?_
    show Steps  p.tables e below (T26.setTop (mkF m 230 #[sl0, sl1, .val (.int p2), sl3, sl4, sl5, .val (.int pn), sl7, sl8, sl9, sl10, sl11, sl12, sl13, sl14, .val (.ref apl), .val (.ref aix), sl17, sl18, sl19, sl20, sl21, sl22, sl23, sl24, .val (.int (0 : Int32)), .val (.int (1 : Int32)), .val (.int (0 : Int32)), .val (.int ((0 : Int32) + (1 : Int32))), .unset, .unset, .unset, .unset] [])) _
    rw [show ((0 : Int32) + (1 : Int32)) = (1 : Int32) from by decide]
    refine XS.iload X26.here hx rfl (hb hby at_230) rfl ?_
    refine XS.ifYes X26.here hx rfl (pc0 := 232) (pc' := 244) rfl (hb hby at_232) rfl ((if0 _ _).trans (teq (by decide : (0 : Int32) = (0 : Int32))).1) (by decide) (by decide) ?_
    refine XS.iload X26.here hx rfl (hb hby at_244) rfl ?_
    refine XS.ifNo X26.here hx rfl (hb hby at_246) rfl ((if0 _ _).trans (feq (by decide : ¬ ((1 : Int32) = (0 : Int32)))).1) ?_
    refine XS.aload X26.here hx rfl (hb hby at_249) rfl rfl ?_
    refine XS.iload X26.here hx rfl (hb hby at_251) rfl ?_
    refine XS.iconst X26.here hx rfl (hb hby at_253) ?_
    exact k
  obtain ⟨cl27, Ar27, q27, S27, N27, H27, G27⟩ := V26
  have hin27 : ¬ ((1 : Int32) < 0 ∨ cl27.slots.size ≤ ((1 : Int32)).toNatClampNeg) := inb_of S27 ⟨by decide, by decide⟩
  obtain ⟨T27, h27, X27, e27, W27, st27⟩ := stI X26 hx hZ e26 Ar27 (j := (1 : Int32)) hin27 (g := (mkF m 254 (own_l24 sl0 sl1 p2 sl3 sl4 sl5 pn sl7 sl8 sl9 sl10 sl11 sl12 sl13 sl14 apl aix sl17 sl18 sl19 sl20 sl21 sl22 sl23 sl24) [(.int (2 : Int32)), (.int (1 : Int32)), (.ref apl)])) rfl rfl (hb hby at_254)
  have V27 : Arv Z h27 apl kpl .int (4 : Int32) [(.int (0 : Int32)), (.int (2 : Int32)), (.int (0 : Int32)), (.int (0 : Int32))] (.int (0 : Int32)) := Arv.set Ar27 q27 S27 N27 H27 G27 rfl W27 1 rfl (Nat.le_of_ble_eq_true rfl)
  have Ex_27 := Ex_26.wr W27
  have Fentries_27 := Fentries_26.other W27 (Or.inl nix)
  have Fcount_27 := Fcount_26.other W27 (Or.inl nix)
  have Fend_27 := Fend_26.other W27 (Or.inl nix)
  have Fplaces_27 := Fplaces_26.other W27 (Or.inl nix)
  have Vpp_27 := Vpp_26.other W27 npp
  have Zs27 : n0 ≤ h27.size := Nat.le_trans Zs26 (Keep.of_wr W27).1
  have N27 := Fr.snoc X27 N26 gpl
  refine own_pre (fun t k => st27 t k) ?_
  refine own_pre (A := (T27.setTop (mkF m 282 (own_l27 sl0 sl1 p2 sl3 sl4 sl5 pn sl7 sl8 sl9 sl10 sl11 sl12 sl13 sl14 apl aix sl17 sl18 sl19 sl20 sl21 sl22 sl23 sl24) []))) ?_ ?_
  · intro t k
    refine XS.iinc X27.here hx rfl (hb hby at_255) rfl (l' := (own_l25 sl0 sl1 p2 sl3 sl4 sl5 pn sl7 sl8 sl9 sl10 sl11 sl12 sl13 sl14 apl aix sl17 sl18 sl19 sl20 sl21 sl22 sl23 sl24)) rfl ?_
    show Steps  p.tables e below (T27.setTop (mkF m 258 #[sl0, sl1, .val (.int p2), sl3, sl4, sl5, .val (.int pn), sl7, sl8, sl9, sl10, sl11, sl12, sl13, sl14, .val (.ref apl), .val (.ref aix), sl17, sl18, sl19, sl20, sl21, sl22, sl23, sl24, .val (.int (0 : Int32)), .val (.int (1 : Int32)), .val (.int (0 : Int32)), .val (.int ((1 : Int32) + (1 : Int32))), .unset, .unset, .unset, .unset] [])) _
    rw [show ((1 : Int32) + (1 : Int32)) = (2 : Int32) from by decide]
    refine XS.iload X27.here hx rfl (hb hby at_258) rfl ?_
    refine XS.ifYes X27.here hx rfl (pc0 := 260) (pc' := 272) rfl (hb hby at_260) rfl ((if0 _ _).trans (teq (by decide : (0 : Int32) = (0 : Int32))).1) (by decide) (by decide) ?_
    refine XS.iloadN X27.here hx rfl (hb hby at_272) rfl ?_
    refine XS.iconst X27.here hx rfl (hb hby at_273) ?_
    refine XS.iushr X27.here hx rfl (hb hby at_274) rfl ?_
    refine XS.iconst X27.here hx rfl (hb hby at_275) ?_
    refine XS.iand X27.here hx rfl (hb hby at_276) rfl ?_
    refine XS.iload X27.here hx rfl (hb hby at_277) rfl ?_
    show Steps p.tables e below (T27.setTop (mkF m 279 (own_l26 sl0 sl1 p2 sl3 sl4 sl5 pn sl7 sl8 sl9 sl10 sl11 sl12 sl13 sl14 apl aix sl17 sl18 sl19 sl20 sl21 sl22 sl23 sl24) [(.int (2 : Int32)), (.int (((p2.toUInt32 >>> ((2 : Int32) &&& 31).toUInt32).toInt32) &&& (3 : Int32)))])) _
    refine iremM X27 hx rfl (hb hby at_279) rfl (by decide) ?_
    show Steps p.tables e below (T27.setTop (mkF m 280 (own_l26 sl0 sl1 p2 sl3 sl4 sl5 pn sl7 sl8 sl9 sl10 sl11 sl12 sl13 sl14 apl aix sl17 sl18 sl19 sl20 sl21 sl22 sl23 sl24) [(.int ((((p2.toUInt32 >>> ((2 : Int32) &&& 31).toUInt32).toInt32) &&& (3 : Int32)) % (2 : Int32)))])) _
    refine XS.istore X27.here hx rfl (hb hby at_280) rfl (l' := (own_l27 sl0 sl1 p2 sl3 sl4 sl5 pn sl7 sl8 sl9 sl10 sl11 sl12 sl13 sl14 apl aix sl17 sl18 sl19 sl20 sl21 sl22 sl23 sl24)) rfl ?_
    exact k
  obtain ⟨pe, hpe⟩ : ∃ z : Int32, z = ((((p2.toUInt32 >>> ((2 : Int32) &&& 31).toUInt32).toInt32) &&& (3 : Int32)) % (2 : Int32)) := ⟨_, rfl⟩
  show ∃ s₂ o, Steps p.tables e below (T27.setTop (mkF m 282 #[sl0, sl1, .val (.int p2), sl3, sl4, sl5, .val (.int pn), sl7, sl8, sl9, sl10, sl11, sl12, sl13, sl14, .val (.ref apl), .val (.ref aix), sl17, sl18, sl19, sl20, sl21, sl22, sl23, sl24, .val (.int (0 : Int32)), .val (.int (1 : Int32)), .val (.int (0 : Int32)), .val (.int (2 : Int32)), .val (.int ((((p2.toUInt32 >>> ((2 : Int32) &&& 31).toUInt32).toInt32) &&& (3 : Int32)) % (2 : Int32))), .unset, .unset, .unset] [])) s₂ ∧ _
  rw [← hpe]
  have he : pe = (0 : Int32) ∨ pe = (1 : Int32) := by rw [hpe]; exact own_e2 _
  clear hpe
  rcases he with rfl | rfl
  · skip
    refine own_pre (A := (T27.setTop (mkF m 353 (own_l30 sl0 sl1 p2 sl3 sl4 sl5 pn sl7 sl8 sl9 sl10 sl11 sl12 sl13 sl14 apl aix sl17 sl18 sl19 sl20 sl21 sl22 sl23 sl24) [(.int (0 : Int32)), (.ref aix)]))) ?_ ?_
    · intro t k
      refine XS.aload X27.here hx rfl (hb hby at_282) rfl rfl ?_
      refine XS.iload X27.here hx rfl (hb hby at_284) rfl ?_
      show Steps p.tables e below (T27.setTop (mkF m 286 (own_l28 sl0 sl1 p2 sl3 sl4 sl5 pn sl7 sl8 sl9 sl10 sl11 sl12 sl13 sl14 apl aix sl17 sl18 sl19 sl20 sl21 sl22 sl23 sl24) [(.int (0 : Int32)), (.ref apl)])) _
      obtain ⟨cl28, Ar28, q28, S28, N28, H28, G28⟩ := id V27
      have hin28 : ¬ ((0 : Int32) < 0 ∨ cl28.slots.size ≤ ((0 : Int32)).toNatClampNeg) := inb_of S28 ⟨by decide, by decide⟩
      refine X27.iaload hx (j := (0 : Int32)) (v := (.int (0 : Int32))) (by rw [e27]; exact Ar28.1) (State.isArrayOf_alike hZ.alike Ar28.2.1) Ar28.2.2 hin28 (H28.at hin28 rfl) (g := (mkF m 286 (own_l28 sl0 sl1 p2 sl3 sl4 sl5 pn sl7 sl8 sl9 sl10 sl11 sl12 sl13 sl14 apl aix sl17 sl18 sl19 sl20 sl21 sl22 sl23 sl24) [(.int (0 : Int32)), (.ref apl)])) rfl rfl (hb hby at_286) _ ?_
      refine XS.istore X27.here hx rfl (hb hby at_287) rfl (l' := (own_l29 sl0 sl1 p2 sl3 sl4 sl5 pn sl7 sl8 sl9 sl10 sl11 sl12 sl13 sl14 apl aix sl17 sl18 sl19 sl20 sl21 sl22 sl23 sl24)) rfl ?_
      refine XS.iload X27.here hx rfl (hb hby at_289) rfl ?_
      refine XS.iconst X27.here hx rfl (hb hby at_291) ?_
      refine XS.icmpNo X27.here hx rfl (hb hby at_292) rfl (tlt (by decide : (0 : Int32) < (1 : Int32))).2.1 ?_
      refine XS.iload X27.here hx rfl (hb hby at_295) rfl ?_
      refine XS.ifYes X27.here hx rfl (pc0 := 297) (pc' := 306) rfl (hb hby at_297) rfl ((if0 _ _).trans (teq (by decide : (0 : Int32) = (0 : Int32))).1) (by decide) (by decide) ?_
      refine XS.iload X27.here hx rfl (hb hby at_306) rfl ?_
      refine XS.iconst X27.here hx rfl (hb hby at_308) ?_
      refine XS.icmpNo X27.here hx rfl (hb hby at_309) rfl (tlt (by decide : (0 : Int32) < (2 : Int32))).2.1 ?_
      refine XS.iload X27.here hx rfl (hb hby at_312) rfl ?_
      refine XS.ifNo X27.here hx rfl (hb hby at_314) rfl ((if0 _ _).trans (feq (by decide : ¬ ((1 : Int32) = (0 : Int32)))).1) ?_
      show Steps p.tables e below (T27.setTop (mkF m 317 (own_l29 sl0 sl1 p2 sl3 sl4 sl5 pn sl7 sl8 sl9 sl10 sl11 sl12 sl13 sl14 apl aix sl17 sl18 sl19 sl20 sl21 sl22 sl23 sl24) [])) _
      refine X27.ldc2Long hx hown (mvT hZ (own_w hw 34 rfl)) (g := (mkF m 317 (own_l29 sl0 sl1 p2 sl3 sl4 sl5 pn sl7 sl8 sl9 sl10 sl11 sl12 sl13 sl14 apl aix sl17 sl18 sl19 sl20 sl21 sl22 sl23 sl24) [])) rfl (hb hby at_317) _ ?_
      refine XS.lstore X27.here hx rfl (hb hby at_320) rfl (l' := (own_l30 sl0 sl1 p2 sl3 sl4 sl5 pn sl7 sl8 sl9 sl10 sl11 sl12 sl13 sl14 apl aix sl17 sl18 sl19 sl20 sl21 sl22 sl23 sl24)) rfl ?_
      refine XS.goto X27.here hx rfl (pc0 := 322) (pc' := 349) rfl (hb hby at_322) (by decide) (by decide) ?_
      refine XS.aload X27.here hx rfl (hb hby at_349) rfl rfl ?_
      refine XS.iload X27.here hx rfl (hb hby at_351) rfl ?_
      exact k
    obtain ⟨cq29, kq29, q29a, q29b, q29c⟩ := isOf hZ e27 Ex_27
    obtain ⟨_, _, ⟨T29, L29, k29, n29⟩, -, X29, ⟨Lc29, hQ29, l29, y29, z29⟩, st29⟩ := X27.virtualBack hx (y := (⟨"com/example/coho/coho/eventlog/SegmentIndex", "placeAfter", "(I)J"⟩ : MethodName)) (z := (⟨"com/example/coho/coho/eventlog/SegmentIndex", "placeAfter", "(I)J"⟩ : MethodName)) hown (mvT hZ (own_w hw 35 rfl)) (mvT hZ (own_w hw 36 rfl)) (notFace_of_selects (args := #[]) (mvT hZ (own_w hw 38 rfl))) (mvT hZ (own_w hw 38 rfl)) (mvT hZ (own_w hw 37 rfl)) (by decide) (backOf (W := 0) (rm4_0_2 l Z a0 hw [] aix app kpp pn qe (0 : Int32) (2 : Int32) (0 : Int32) (0 : Int32) h27 n0 Zs27 Fentries_27 Fcount_27 Fend_27 Fplaces_27 Vpp_27) hZ (own_w hw 39 rfl) (own_w hw 5 rfl) (by decide) (by decide)) q29a q29c (g := (mkF m 353 (own_l30 sl0 sl1 p2 sl3 sl4 sl5 pn sl7 sl8 sl9 sl10 sl11 sl12 sl13 sl14 apl aix sl17 sl18 sl19 sl20 sl21 sl22 sl23 sl24) [(.int (0 : Int32)), (.ref aix)])) rfl (by rw [hml]; rfl) (Steps.refl _) (argsL := [(.int (0 : Int32))]) (rest := []) (lenOf own_pd0 rfl) rfl (by show 2 * 0 + _ ≤ _; exact Nat.le_of_eq rfl) (hb hby at_353) (fun _ _ => ⟨rfl, e27, (by decide : 5 + 0 ≤ _), (by decide : 23 + 0 ≤ _)⟩)
    dsimp only [Pt.U, Pt.locs, Pt.cells, Pt.slots] at X29 l29 y29 z29 st29 hQ29
    replace y29 : _ = 5 := y29
    replace z29 : _ = 23 := z29
    subst y29 z29
    obtain ⟨Nq29, rfl, eq29⟩ := hQ29
    have N29 := own_frl l29 N27 Nq29
    refine own_pre (fun t k => st29.trans k) ?_
    refine own_pre (A := (T29.setTop (mkF m 367 (own_l30 sl0 sl1 p2 sl3 sl4 sl5 pn sl7 sl8 sl9 sl10 sl11 sl12 sl13 sl14 apl aix sl17 sl18 sl19 sl20 sl21 sl22 sl23 sl24) [(.int (1 : Int32))]))) ?_ ?_
    · intro t k
      refine XS.lload X29.here hx rfl (hb hby at_356) rfl ?_
      refine XS.lcmp X29.here hx rfl (hb hby at_358) rfl ?_
      refine XS.ifNo X29.here hx rfl (hb hby at_359) rfl ((if0 _ _).trans (teq ((lw_eq ((2 : Int32).toInt64) (2 : Int64)).mpr (by decide : ((2 : Int32).toInt64) = (2 : Int64)))).2) ?_
      refine XS.iconst X29.here hx rfl (hb hby at_362) ?_
      refine XS.goto X29.here hx rfl (pc0 := 363) (pc' := 367) rfl (hb hby at_363) (by decide) (by decide) ?_
      exact k
    obtain ⟨fs, hr, hrun, hended, hW, hsame⟩ := X29.leave (hlocks := hlk) (v := some (.int (1 : Int32))) (fun h => by rw [hret] at h; cases h)
    refine ⟨_, _, retOut X29 hx hret rfl (Or.inl ⟨rfl, Or.inr (Or.inl rfl), _, rfl⟩) (hb hby at_367) hr, hrun, hended, _, _, rfl, ?_, ⟨_, rfl⟩, hW, hsame.mono (by decide) (by decide)⟩
    show own_Q0 h0 n0 _ T29.heap _
    rw [eq29]
    exact ⟨rfl, N29⟩
  · skip
    refine own_pre (A := (T27.setTop (mkF m 353 (own_l33 sl0 sl1 p2 sl3 sl4 sl5 pn sl7 sl8 sl9 sl10 sl11 sl12 sl13 sl14 apl aix sl17 sl18 sl19 sl20 sl21 sl22 sl23 sl24) [(.int (1 : Int32)), (.ref aix)]))) ?_ ?_
    · intro t k
      refine XS.aload X27.here hx rfl (hb hby at_282) rfl rfl ?_
      refine XS.iload X27.here hx rfl (hb hby at_284) rfl ?_
      show Steps p.tables e below (T27.setTop (mkF m 286 (own_l31 sl0 sl1 p2 sl3 sl4 sl5 pn sl7 sl8 sl9 sl10 sl11 sl12 sl13 sl14 apl aix sl17 sl18 sl19 sl20 sl21 sl22 sl23 sl24) [(.int (1 : Int32)), (.ref apl)])) _
      obtain ⟨cl30, Ar30, q30, S30, N30, H30, G30⟩ := id V27
      have hin30 : ¬ ((1 : Int32) < 0 ∨ cl30.slots.size ≤ ((1 : Int32)).toNatClampNeg) := inb_of S30 ⟨by decide, by decide⟩
      refine X27.iaload hx (j := (1 : Int32)) (v := (.int (2 : Int32))) (by rw [e27]; exact Ar30.1) (State.isArrayOf_alike hZ.alike Ar30.2.1) Ar30.2.2 hin30 (H30.at hin30 rfl) (g := (mkF m 286 (own_l31 sl0 sl1 p2 sl3 sl4 sl5 pn sl7 sl8 sl9 sl10 sl11 sl12 sl13 sl14 apl aix sl17 sl18 sl19 sl20 sl21 sl22 sl23 sl24) [(.int (1 : Int32)), (.ref apl)])) rfl rfl (hb hby at_286) _ ?_
      refine XS.istore X27.here hx rfl (hb hby at_287) rfl (l' := (own_l32 sl0 sl1 p2 sl3 sl4 sl5 pn sl7 sl8 sl9 sl10 sl11 sl12 sl13 sl14 apl aix sl17 sl18 sl19 sl20 sl21 sl22 sl23 sl24)) rfl ?_
      refine XS.iload X27.here hx rfl (hb hby at_289) rfl ?_
      refine XS.iconst X27.here hx rfl (hb hby at_291) ?_
      refine XS.icmpYes X27.here hx rfl (pc0 := 292) (pc' := 306) rfl (hb hby at_292) rfl (flt (by decide : ¬ ((2 : Int32) < (1 : Int32)))).2.1 (by decide) (by decide) ?_
      refine XS.iload X27.here hx rfl (hb hby at_306) rfl ?_
      refine XS.iconst X27.here hx rfl (hb hby at_308) ?_
      refine XS.icmpYes X27.here hx rfl (pc0 := 309) (pc' := 325) rfl (hb hby at_309) rfl (flt (by decide : ¬ ((2 : Int32) < (2 : Int32)))).2.1 (by decide) (by decide) ?_
      refine XS.iload X27.here hx rfl (hb hby at_325) rfl ?_
      refine XS.iconst X27.here hx rfl (hb hby at_327) ?_
      refine XS.icmpNo X27.here hx rfl (hb hby at_328) rfl (tlt (by decide : (2 : Int32) < (3 : Int32))).2.1 ?_
      refine XS.iload X27.here hx rfl (hb hby at_331) rfl ?_
      refine XS.ifYes X27.here hx rfl (pc0 := 333) (pc' := 344) rfl (hb hby at_333) rfl ((if0 _ _).trans (teq (by decide : (0 : Int32) = (0 : Int32))).1) (by decide) (by decide) ?_
      refine XS.iload X27.here hx rfl (hb hby at_344) rfl ?_
      refine XS.i2l X27.here hx rfl (hb hby at_346) rfl ?_
      refine XS.lstore X27.here hx rfl (hb hby at_347) rfl (l' := (own_l33 sl0 sl1 p2 sl3 sl4 sl5 pn sl7 sl8 sl9 sl10 sl11 sl12 sl13 sl14 apl aix sl17 sl18 sl19 sl20 sl21 sl22 sl23 sl24)) rfl ?_
      refine XS.aload X27.here hx rfl (hb hby at_349) rfl rfl ?_
      refine XS.iload X27.here hx rfl (hb hby at_351) rfl ?_
      exact k
    obtain ⟨cq31, kq31, q31a, q31b, q31c⟩ := isOf hZ e27 Ex_27
    obtain ⟨_, _, ⟨T31, L31, k31, n31⟩, -, X31, ⟨Lc31, hQ31, l31, y31, z31⟩, st31⟩ := X27.virtualBack hx (y := (⟨"com/example/coho/coho/eventlog/SegmentIndex", "placeAfter", "(I)J"⟩ : MethodName)) (z := (⟨"com/example/coho/coho/eventlog/SegmentIndex", "placeAfter", "(I)J"⟩ : MethodName)) hown (mvT hZ (own_w hw 35 rfl)) (mvT hZ (own_w hw 36 rfl)) (notFace_of_selects (args := #[]) (mvT hZ (own_w hw 38 rfl))) (mvT hZ (own_w hw 38 rfl)) (mvT hZ (own_w hw 37 rfl)) (by decide) (backOf (W := 0) (rm4_1_2 l Z a0 hw [] aix app kpp pn qe (0 : Int32) (2 : Int32) (0 : Int32) (0 : Int32) h27 n0 Zs27 Fentries_27 Fcount_27 Fend_27 Fplaces_27 Vpp_27) hZ (own_w hw 39 rfl) (own_w hw 5 rfl) (by decide) (by decide)) q31a q31c (g := (mkF m 353 (own_l33 sl0 sl1 p2 sl3 sl4 sl5 pn sl7 sl8 sl9 sl10 sl11 sl12 sl13 sl14 apl aix sl17 sl18 sl19 sl20 sl21 sl22 sl23 sl24) [(.int (1 : Int32)), (.ref aix)])) rfl (by rw [hml]; rfl) (Steps.refl _) (argsL := [(.int (1 : Int32))]) (rest := []) (lenOf own_pd0 rfl) rfl (by show 2 * 0 + _ ≤ _; exact Nat.le_of_eq rfl) (hb hby at_353) (fun _ _ => ⟨rfl, e27, (by decide : 5 + 0 ≤ _), (by decide : 23 + 0 ≤ _)⟩)
    dsimp only [Pt.U, Pt.locs, Pt.cells, Pt.slots] at X31 l31 y31 z31 st31 hQ31
    replace y31 : _ = 5 := y31
    replace z31 : _ = 23 := z31
    subst y31 z31
    obtain ⟨Nq31, rfl, eq31⟩ := hQ31
    have N31 := own_frl l31 N27 Nq31
    refine own_pre (fun t k => st31.trans k) ?_
    refine own_pre (A := (T31.setTop (mkF m 367 (own_l33 sl0 sl1 p2 sl3 sl4 sl5 pn sl7 sl8 sl9 sl10 sl11 sl12 sl13 sl14 apl aix sl17 sl18 sl19 sl20 sl21 sl22 sl23 sl24) [(.int (1 : Int32))]))) ?_ ?_
    · intro t k
      refine XS.lload X31.here hx rfl (hb hby at_356) rfl ?_
      refine XS.lcmp X31.here hx rfl (hb hby at_358) rfl ?_
      refine XS.ifNo X31.here hx rfl (hb hby at_359) rfl ((if0 _ _).trans (teq ((lw_eq (pn.toInt64) (pn.toInt64)).mpr (rfl : (pn.toInt64) = (pn.toInt64)))).2) ?_
      refine XS.iconst X31.here hx rfl (hb hby at_362) ?_
      refine XS.goto X31.here hx rfl (pc0 := 363) (pc' := 367) rfl (hb hby at_363) (by decide) (by decide) ?_
      exact k
    obtain ⟨fs, hr, hrun, hended, hW, hsame⟩ := X31.leave (hlocks := hlk) (v := some (.int (1 : Int32))) (fun h => by rw [hret] at h; cases h)
    refine ⟨_, _, retOut X31 hx hret rfl (Or.inl ⟨rfl, Or.inr (Or.inl rfl), _, rfl⟩) (hb hby at_367) hr, hrun, hended, _, _, rfl, ?_, ⟨_, rfl⟩, hW, hsame.mono (by decide) (by decide)⟩
    show own_Q0 h0 n0 _ T31.heap _
    rw [eq31]
    exact ⟨rfl, N31⟩
abbrev own_l34 (x0 : Slot) (x1 : Slot) (x2 : Int32) (x3 : Slot) (x4 : Slot) (x5 : Slot) (x6 : Int32) (x7 : Slot) (x8 : Slot) (x9 : Slot) (x10 : Slot) (x11 : Slot) (x12 : Slot) (x13 : Slot) (x14 : Slot) (x15 : Addr) (x16 : Addr) (x17 : Slot) (x18 : Slot) (x19 : Slot) (x20 : Slot) (x21 : Slot) (x22 : Slot) (x23 : Slot) (x24 : Slot) : Array Slot := #[x0, x1, .val (.int x2), x3, x4, x5, .val (.int x6), x7, x8, x9, x10, x11, x12, x13, x14, .val (.ref x15), .val (.ref x16), x17, x18, x19, x20, x21, x22, x23, x24, .val (.int (0 : Int32)), .val (.int (1 : Int32)), .val (.int (1 : Int32)), .unset, .unset, .unset, .unset, .unset]
abbrev own_l35 (x0 : Slot) (x1 : Slot) (x2 : Int32) (x3 : Slot) (x4 : Slot) (x5 : Slot) (x6 : Int32) (x7 : Slot) (x8 : Slot) (x9 : Slot) (x10 : Slot) (x11 : Slot) (x12 : Slot) (x13 : Slot) (x14 : Slot) (x15 : Addr) (x16 : Addr) (x17 : Slot) (x18 : Slot) (x19 : Slot) (x20 : Slot) (x21 : Slot) (x22 : Slot) (x23 : Slot) (x24 : Slot) : Array Slot := #[x0, x1, .val (.int x2), x3, x4, x5, .val (.int x6), x7, x8, x9, x10, x11, x12, x13, x14, .val (.ref x15), .val (.ref x16), x17, x18, x19, x20, x21, x22, x23, x24, .val (.int (0 : Int32)), .val (.int (1 : Int32)), .val (.int (1 : Int32)), .val (.int (0 : Int32)), .unset, .unset, .unset, .unset]
abbrev own_l36 (x0 : Slot) (x1 : Slot) (x2 : Int32) (x3 : Slot) (x4 : Slot) (x5 : Slot) (x6 : Int32) (x7 : Slot) (x8 : Slot) (x9 : Slot) (x10 : Slot) (x11 : Slot) (x12 : Slot) (x13 : Slot) (x14 : Slot) (x15 : Addr) (x16 : Addr) (x17 : Slot) (x18 : Slot) (x19 : Slot) (x20 : Slot) (x21 : Slot) (x22 : Slot) (x23 : Slot) (x24 : Slot) : Array Slot := #[x0, x1, .val (.int x2), x3, x4, x5, .val (.int x6), x7, x8, x9, x10, x11, x12, x13, x14, .val (.ref x15), .val (.ref x16), x17, x18, x19, x20, x21, x22, x23, x24, .val (.int (0 : Int32)), .val (.int (1 : Int32)), .val (.int (1 : Int32)), .val (.int ((0 : Int32) + (1 : Int32))), .unset, .unset, .unset, .unset]
abbrev own_l37 (x0 : Slot) (x1 : Slot) (x2 : Int32) (x3 : Slot) (x4 : Slot) (x5 : Slot) (x6 : Int32) (x7 : Slot) (x8 : Slot) (x9 : Slot) (x10 : Slot) (x11 : Slot) (x12 : Slot) (x13 : Slot) (x14 : Slot) (x15 : Addr) (x16 : Addr) (x17 : Slot) (x18 : Slot) (x19 : Slot) (x20 : Slot) (x21 : Slot) (x22 : Slot) (x23 : Slot) (x24 : Slot) : Array Slot := #[x0, x1, .val (.int x2), x3, x4, x5, .val (.int x6), x7, x8, x9, x10, x11, x12, x13, x14, .val (.ref x15), .val (.ref x16), x17, x18, x19, x20, x21, x22, x23, x24, .val (.int (0 : Int32)), .val (.int (1 : Int32)), .val (.int (1 : Int32)), .val (.int (1 : Int32)), .unset, .unset, .unset, .unset]
abbrev own_l38 (x0 : Slot) (x1 : Slot) (x2 : Int32) (x3 : Slot) (x4 : Slot) (x5 : Slot) (x6 : Int32) (x7 : Slot) (x8 : Slot) (x9 : Slot) (x10 : Slot) (x11 : Slot) (x12 : Slot) (x13 : Slot) (x14 : Slot) (x15 : Addr) (x16 : Addr) (x17 : Slot) (x18 : Slot) (x19 : Slot) (x20 : Slot) (x21 : Slot) (x22 : Slot) (x23 : Slot) (x24 : Slot) : Array Slot := #[x0, x1, .val (.int x2), x3, x4, x5, .val (.int x6), x7, x8, x9, x10, x11, x12, x13, x14, .val (.ref x15), .val (.ref x16), x17, x18, x19, x20, x21, x22, x23, x24, .val (.int (0 : Int32)), .val (.int (1 : Int32)), .val (.int (1 : Int32)), .val (.int ((1 : Int32) + (1 : Int32))), .unset, .unset, .unset, .unset]
abbrev own_l39 (x0 : Slot) (x1 : Slot) (x2 : Int32) (x3 : Slot) (x4 : Slot) (x5 : Slot) (x6 : Int32) (x7 : Slot) (x8 : Slot) (x9 : Slot) (x10 : Slot) (x11 : Slot) (x12 : Slot) (x13 : Slot) (x14 : Slot) (x15 : Addr) (x16 : Addr) (x17 : Slot) (x18 : Slot) (x19 : Slot) (x20 : Slot) (x21 : Slot) (x22 : Slot) (x23 : Slot) (x24 : Slot) : Array Slot := #[x0, x1, .val (.int x2), x3, x4, x5, .val (.int x6), x7, x8, x9, x10, x11, x12, x13, x14, .val (.ref x15), .val (.ref x16), x17, x18, x19, x20, x21, x22, x23, x24, .val (.int (0 : Int32)), .val (.int (1 : Int32)), .val (.int (1 : Int32)), .val (.int (2 : Int32)), .unset, .unset, .unset, .unset]
abbrev own_l40 (x0 : Slot) (x1 : Slot) (x2 : Int32) (x3 : Slot) (x4 : Slot) (x5 : Slot) (x6 : Int32) (x7 : Slot) (x8 : Slot) (x9 : Slot) (x10 : Slot) (x11 : Slot) (x12 : Slot) (x13 : Slot) (x14 : Slot) (x15 : Addr) (x16 : Addr) (x17 : Slot) (x18 : Slot) (x19 : Slot) (x20 : Slot) (x21 : Slot) (x22 : Slot) (x23 : Slot) (x24 : Slot) : Array Slot := #[x0, x1, .val (.int x2), x3, x4, x5, .val (.int x6), x7, x8, x9, x10, x11, x12, x13, x14, .val (.ref x15), .val (.ref x16), x17, x18, x19, x20, x21, x22, x23, x24, .val (.int (0 : Int32)), .val (.int (1 : Int32)), .val (.int (1 : Int32)), .val (.int ((2 : Int32) + (1 : Int32))), .unset, .unset, .unset, .unset]
abbrev own_l41 (x0 : Slot) (x1 : Slot) (x2 : Int32) (x3 : Slot) (x4 : Slot) (x5 : Slot) (x6 : Int32) (x7 : Slot) (x8 : Slot) (x9 : Slot) (x10 : Slot) (x11 : Slot) (x12 : Slot) (x13 : Slot) (x14 : Slot) (x15 : Addr) (x16 : Addr) (x17 : Slot) (x18 : Slot) (x19 : Slot) (x20 : Slot) (x21 : Slot) (x22 : Slot) (x23 : Slot) (x24 : Slot) : Array Slot := #[x0, x1, .val (.int x2), x3, x4, x5, .val (.int x6), x7, x8, x9, x10, x11, x12, x13, x14, .val (.ref x15), .val (.ref x16), x17, x18, x19, x20, x21, x22, x23, x24, .val (.int (0 : Int32)), .val (.int (1 : Int32)), .val (.int (1 : Int32)), .val (.int (3 : Int32)), .unset, .unset, .unset, .unset]
abbrev own_l42 (x0 : Slot) (x1 : Slot) (x2 : Int32) (x3 : Slot) (x4 : Slot) (x5 : Slot) (x6 : Int32) (x7 : Slot) (x8 : Slot) (x9 : Slot) (x10 : Slot) (x11 : Slot) (x12 : Slot) (x13 : Slot) (x14 : Slot) (x15 : Addr) (x16 : Addr) (x17 : Slot) (x18 : Slot) (x19 : Slot) (x20 : Slot) (x21 : Slot) (x22 : Slot) (x23 : Slot) (x24 : Slot) : Array Slot := #[x0, x1, .val (.int x2), x3, x4, x5, .val (.int x6), x7, x8, x9, x10, x11, x12, x13, x14, .val (.ref x15), .val (.ref x16), x17, x18, x19, x20, x21, x22, x23, x24, .val (.int (0 : Int32)), .val (.int (1 : Int32)), .val (.int (1 : Int32)), .val (.int (3 : Int32)), .val (.int ((((x2.toUInt32 >>> ((2 : Int32) &&& 31).toUInt32).toInt32) &&& (3 : Int32)) % (3 : Int32))), .unset, .unset, .unset]
abbrev own_l43 (x0 : Slot) (x1 : Slot) (x2 : Int32) (x3 : Slot) (x4 : Slot) (x5 : Slot) (x6 : Int32) (x7 : Slot) (x8 : Slot) (x9 : Slot) (x10 : Slot) (x11 : Slot) (x12 : Slot) (x13 : Slot) (x14 : Slot) (x15 : Addr) (x16 : Addr) (x17 : Slot) (x18 : Slot) (x19 : Slot) (x20 : Slot) (x21 : Slot) (x22 : Slot) (x23 : Slot) (x24 : Slot) : Array Slot := #[x0, x1, .val (.int x2), x3, x4, x5, .val (.int x6), x7, x8, x9, x10, x11, x12, x13, x14, .val (.ref x15), .val (.ref x16), x17, x18, x19, x20, x21, x22, x23, x24, .val (.int (0 : Int32)), .val (.int (1 : Int32)), .val (.int (1 : Int32)), .val (.int (3 : Int32)), .val (.int (0 : Int32)), .unset, .unset, .unset]
abbrev own_l44 (x0 : Slot) (x1 : Slot) (x2 : Int32) (x3 : Slot) (x4 : Slot) (x5 : Slot) (x6 : Int32) (x7 : Slot) (x8 : Slot) (x9 : Slot) (x10 : Slot) (x11 : Slot) (x12 : Slot) (x13 : Slot) (x14 : Slot) (x15 : Addr) (x16 : Addr) (x17 : Slot) (x18 : Slot) (x19 : Slot) (x20 : Slot) (x21 : Slot) (x22 : Slot) (x23 : Slot) (x24 : Slot) : Array Slot := #[x0, x1, .val (.int x2), x3, x4, x5, .val (.int x6), x7, x8, x9, x10, x11, x12, x13, x14, .val (.ref x15), .val (.ref x16), x17, x18, x19, x20, x21, x22, x23, x24, .val (.int (0 : Int32)), .val (.int (1 : Int32)), .val (.int (1 : Int32)), .val (.int (3 : Int32)), .val (.int (0 : Int32)), .val (.int (0 : Int32)), .unset, .unset]
abbrev own_l45 (x0 : Slot) (x1 : Slot) (x2 : Int32) (x3 : Slot) (x4 : Slot) (x5 : Slot) (x6 : Int32) (x7 : Slot) (x8 : Slot) (x9 : Slot) (x10 : Slot) (x11 : Slot) (x12 : Slot) (x13 : Slot) (x14 : Slot) (x15 : Addr) (x16 : Addr) (x17 : Slot) (x18 : Slot) (x19 : Slot) (x20 : Slot) (x21 : Slot) (x22 : Slot) (x23 : Slot) (x24 : Slot) : Array Slot := #[x0, x1, .val (.int x2), x3, x4, x5, .val (.int x6), x7, x8, x9, x10, x11, x12, x13, x14, .val (.ref x15), .val (.ref x16), x17, x18, x19, x20, x21, x22, x23, x24, .val (.int (0 : Int32)), .val (.int (1 : Int32)), .val (.int (1 : Int32)), .val (.int (3 : Int32)), .val (.int (0 : Int32)), .val (.int (0 : Int32)), .val (.long (2 : Int64)), .second]
def own_Q4_0_3 (Z : State) (ax : Addr) (ap : Addr) (kp : ClassId) (ct : Int32) (qe : Int64) (uu0 : Int32) (uu1 : Int32) (uu2 : Int32) (uu3 : Int32) (h0 : Heap) (n0 : Nat) (v : Option Value) (h : Heap) (L : List Loc) : Prop := Fr n0 L ∧ v = some (.long (uu1.toInt64)) ∧ h = h0
set_option maxRecDepth 65536 in
set_option maxHeartbeats 40000000 in
theorem rm4_0_3 (l : Launch) (Z : State) (a0 : Array Value) (hw : ∀ d ∈ tables_1, d.before a0 Z = true) (ws : List Jvm.Cond) (ax : Addr) (ap : Addr) (kp : ClassId) (ct : Int32) (qe : Int64) (uu0 : Int32) (uu1 : Int32) (uu2 : Int32) (uu3 : Int32) (h0 : Heap) (n0 : Nat) (Z0 : n0 ≤ h0.size) (Fe : Fld Z h0 ax "com/example/coho/coho/eventlog/SegmentIndex" "entries" "I" (.int (3 : Int32))) (Fc : Fld Z h0 ax "com/example/coho/coho/eventlog/SegmentIndex" "count" "I" (.int ct)) (Fq : Fld Z h0 ax "com/example/coho/coho/eventlog/SegmentIndex" "end" "J" (.long qe)) (Fa : Fld Z h0 ax "com/example/coho/coho/eventlog/SegmentIndex" "places" "[I" (.ref ap)) (Va : Arv Z h0 ap kp .int (4 : Int32) [(.int uu0), (.int uu1), (.int uu2), (.int uu3)] (.int (0 : Int32))) :
    MetFree l (⟨"com/example/coho/coho/eventlog/SegmentIndex", "placeAfter", "(I)J"⟩ : MethodName) (head1 (Jvm.Cond.code (⟨"com/example/coho/coho/eventlog/SegmentIndex", "placeAfter", "(I)J"⟩ : MethodName) prog_34_method_9_code 2 (some .long) :: ws) ({ frames := 0, cells := 0, slots := 0, locals := 0 } : Room)) (fun a U => a = #[(.ref ax), (.int (0 : Int32))] ∧ Z.Warmed39 U.vm ∧ U.heap = h0) (fun _ _ _ _ _ => True) (fun _ U o U' => ∃ v L, o = .returned v ∧ own_Q4_0_3 Z ax ap kp ct qe uu0 uu1 uu2 uu3 h0 n0 v U'.heap L ∧ FrameEnd U o U' L ({ frames := 0, cells := 0, slots := 0, locals := 0 } : Room).cells ({ frames := 0, cells := 0, slots := 0, locals := 0 } : Room).slots) := by
  refine MetFree.of_bodySF (plainFor_of_name own_pn4) hisR ?_
  intro p e s m args below meth c s₁ Bd hml0 hP hK
  obtain ⟨rfl, hZ, hh⟩ := hP
  have hx := Bd.exec
  have hby := Bd.bytes
  have hml : c.maxLocals = 2 := hml0
  have hown : s.vm.findClass "com/example/coho/coho/eventlog/SegmentIndex" = some m.cls := findClass_of_methodNamed Bd.named
  have hnm := (name_of_methodNamed Bd.named Bd.method).1
  have X0 : Stand p l e ({ frames := 0, cells := 0, slots := 0, locals := 0 } : Room) s m #[(.ref ax), (.int (0 : Int32))] below meth c s₁ [] 0 0 := Stand.of_body Bd
  have e0 : s₁.heap = h0 := by rw [← hh, Bd.state]; rfl
  have N0 := Fr.nil n0
  refine own_pre (A := (s₁.setTop (mkF m 0 #[.val (.ref ax), .val (.int (0 : Int32))] []))) (fun t k => castTop (own_ef4 m ax (0 : Int32)) k) ?_
  refine own_pre (A := (s₁.setTop (mkF m 4 #[.val (.ref ax), .val (.int (0 : Int32))] [(.ref ax), (.int (1 : Int32))]))) ?_ ?_
  · intro t k
    refine XS.iloadN X0.here hx rfl (hb hby d4_0) rfl ?_
    refine XS.iconst X0.here hx rfl (hb hby d4_1) ?_
    refine XS.iadd X0.here hx rfl (hb hby d4_2) rfl ?_
    show Steps p.tables e below (s₁.setTop (mkF m 3 #[.val (.ref ax), .val (.int (0 : Int32))] [(.int ((0 : Int32) + (1 : Int32)))])) _
    rw [show ((0 : Int32) + (1 : Int32)) = (1 : Int32) from by decide]
    refine XS.aloadN X0.here hx rfl (hb hby d4_3) rfl rfl ?_
    exact k
  obtain ⟨T37, X37, e37, st37⟩ := getF X0 hx hZ hown (host := "") (Or.inl (own_w hw 29 rfl)) Via.refl e0 Fe (g := (mkF m 4 #[.val (.ref ax), .val (.int (0 : Int32))] [(.ref ax), (.int (1 : Int32))])) rfl rfl (hb hby d4_4)
  refine own_pre (fun t k => st37 t k) ?_
  refine own_pre (A := (T37.setTop (mkF m 11 #[.val (.ref ax), .val (.int (0 : Int32))] [(.ref ax)]))) ?_ ?_
  · intro t k
    refine XS.icmpNo X37.here hx rfl (hb hby d4_7) rfl (tlt (by decide : (1 : Int32) < (3 : Int32))).2.1 ?_
    refine XS.aloadN X37.here hx rfl (hb hby d4_10) rfl rfl ?_
    exact k
  obtain ⟨T38, X38, e38, st38⟩ := getF X37 hx hZ hown (host := "") (Or.inl (own_w hw 12 rfl)) Via.refl e37 Fa (g := (mkF m 11 #[.val (.ref ax), .val (.int (0 : Int32))] [(.ref ax)])) rfl rfl (hb hby d4_11)
  refine own_pre (fun t k => st38 t k) ?_
  refine own_pre (A := (T38.setTop (mkF m 27 #[.val (.ref ax), .val (.int (0 : Int32))] [(.long (uu1.toInt64))]))) ?_ ?_
  · intro t k
    refine XS.iloadN X38.here hx rfl (hb hby d4_14) rfl ?_
    refine XS.iconst X38.here hx rfl (hb hby d4_15) ?_
    refine XS.iadd X38.here hx rfl (hb hby d4_16) rfl ?_
    show Steps p.tables e below (T38.setTop (mkF m 17 #[.val (.ref ax), .val (.int (0 : Int32))] [(.int ((0 : Int32) + (1 : Int32))), (.ref ap)])) _
    rw [show ((0 : Int32) + (1 : Int32)) = (1 : Int32) from by decide]
    show Steps p.tables e below (T38.setTop (mkF m 17 #[.val (.ref ax), .val (.int (0 : Int32))] [(.int (1 : Int32)), (.ref ap)])) _
    obtain ⟨cl39, Ar39, q39, S39, N39, H39, G39⟩ := id Va
    have hin39 : ¬ ((1 : Int32) < 0 ∨ cl39.slots.size ≤ ((1 : Int32)).toNatClampNeg) := inb_of S39 ⟨by decide, by decide⟩
    refine X38.iaload hx (j := (1 : Int32)) (v := (.int uu1)) (by rw [e38]; exact Ar39.1) (State.isArrayOf_alike hZ.alike Ar39.2.1) Ar39.2.2 hin39 (H39.at hin39 rfl) (g := (mkF m 17 #[.val (.ref ax), .val (.int (0 : Int32))] [(.int (1 : Int32)), (.ref ap)])) rfl rfl (hb hby d4_17) _ ?_
    refine XS.i2l X38.here hx rfl (hb hby d4_18) rfl ?_
    refine XS.goto X38.here hx rfl (pc0 := 19) (pc' := 27) rfl (hb hby d4_19) (by decide) (by decide) ?_
    exact k
  obtain ⟨fs, hr, hrun, hended, hW, hsame⟩ := X38.leave (hlocks := BodyLoose.notSynchronized Bd) (v := some (.long (uu1.toInt64))) (fun h => by rw [Bd.returns] at h; cases h)
  refine ⟨_, _, retOut X38 hx Bd.returns rfl (Or.inr (Or.inl ⟨rfl, rfl, _, rfl⟩)) (hb hby d4_27) hr, hrun, hended, _, _, rfl, ?_, ⟨_, rfl⟩, hW, hsame.mono (by decide) (by decide)⟩
  show own_Q4_0_3 Z ax ap kp ct qe uu0 uu1 uu2 uu3 h0 n0 _ T38.heap _
  rw [e38]
  exact ⟨N0, rfl, rfl⟩
abbrev own_l46 (x0 : Slot) (x1 : Slot) (x2 : Int32) (x3 : Slot) (x4 : Slot) (x5 : Slot) (x6 : Int32) (x7 : Slot) (x8 : Slot) (x9 : Slot) (x10 : Slot) (x11 : Slot) (x12 : Slot) (x13 : Slot) (x14 : Slot) (x15 : Addr) (x16 : Addr) (x17 : Slot) (x18 : Slot) (x19 : Slot) (x20 : Slot) (x21 : Slot) (x22 : Slot) (x23 : Slot) (x24 : Slot) : Array Slot := #[x0, x1, .val (.int x2), x3, x4, x5, .val (.int x6), x7, x8, x9, x10, x11, x12, x13, x14, .val (.ref x15), .val (.ref x16), x17, x18, x19, x20, x21, x22, x23, x24, .val (.int (0 : Int32)), .val (.int (1 : Int32)), .val (.int (1 : Int32)), .val (.int (3 : Int32)), .val (.int (1 : Int32)), .unset, .unset, .unset]
abbrev own_l47 (x0 : Slot) (x1 : Slot) (x2 : Int32) (x3 : Slot) (x4 : Slot) (x5 : Slot) (x6 : Int32) (x7 : Slot) (x8 : Slot) (x9 : Slot) (x10 : Slot) (x11 : Slot) (x12 : Slot) (x13 : Slot) (x14 : Slot) (x15 : Addr) (x16 : Addr) (x17 : Slot) (x18 : Slot) (x19 : Slot) (x20 : Slot) (x21 : Slot) (x22 : Slot) (x23 : Slot) (x24 : Slot) : Array Slot := #[x0, x1, .val (.int x2), x3, x4, x5, .val (.int x6), x7, x8, x9, x10, x11, x12, x13, x14, .val (.ref x15), .val (.ref x16), x17, x18, x19, x20, x21, x22, x23, x24, .val (.int (0 : Int32)), .val (.int (1 : Int32)), .val (.int (1 : Int32)), .val (.int (3 : Int32)), .val (.int (1 : Int32)), .val (.int (2 : Int32)), .unset, .unset]
abbrev own_l48 (x0 : Slot) (x1 : Slot) (x2 : Int32) (x3 : Slot) (x4 : Slot) (x5 : Slot) (x6 : Int32) (x7 : Slot) (x8 : Slot) (x9 : Slot) (x10 : Slot) (x11 : Slot) (x12 : Slot) (x13 : Slot) (x14 : Slot) (x15 : Addr) (x16 : Addr) (x17 : Slot) (x18 : Slot) (x19 : Slot) (x20 : Slot) (x21 : Slot) (x22 : Slot) (x23 : Slot) (x24 : Slot) : Array Slot := #[x0, x1, .val (.int x2), x3, x4, x5, .val (.int x6), x7, x8, x9, x10, x11, x12, x13, x14, .val (.ref x15), .val (.ref x16), x17, x18, x19, x20, x21, x22, x23, x24, .val (.int (0 : Int32)), .val (.int (1 : Int32)), .val (.int (1 : Int32)), .val (.int (3 : Int32)), .val (.int (1 : Int32)), .val (.int (2 : Int32)), .val (.long (3 : Int64)), .second]
def own_Q4_1_3 (Z : State) (ax : Addr) (ap : Addr) (kp : ClassId) (ct : Int32) (qe : Int64) (uu0 : Int32) (uu1 : Int32) (uu2 : Int32) (uu3 : Int32) (h0 : Heap) (n0 : Nat) (v : Option Value) (h : Heap) (L : List Loc) : Prop := Fr n0 L ∧ v = some (.long (uu2.toInt64)) ∧ h = h0
set_option maxRecDepth 65536 in
set_option maxHeartbeats 40000000 in
theorem rm4_1_3 (l : Launch) (Z : State) (a0 : Array Value) (hw : ∀ d ∈ tables_1, d.before a0 Z = true) (ws : List Jvm.Cond) (ax : Addr) (ap : Addr) (kp : ClassId) (ct : Int32) (qe : Int64) (uu0 : Int32) (uu1 : Int32) (uu2 : Int32) (uu3 : Int32) (h0 : Heap) (n0 : Nat) (Z0 : n0 ≤ h0.size) (Fe : Fld Z h0 ax "com/example/coho/coho/eventlog/SegmentIndex" "entries" "I" (.int (3 : Int32))) (Fc : Fld Z h0 ax "com/example/coho/coho/eventlog/SegmentIndex" "count" "I" (.int ct)) (Fq : Fld Z h0 ax "com/example/coho/coho/eventlog/SegmentIndex" "end" "J" (.long qe)) (Fa : Fld Z h0 ax "com/example/coho/coho/eventlog/SegmentIndex" "places" "[I" (.ref ap)) (Va : Arv Z h0 ap kp .int (4 : Int32) [(.int uu0), (.int uu1), (.int uu2), (.int uu3)] (.int (0 : Int32))) :
    MetFree l (⟨"com/example/coho/coho/eventlog/SegmentIndex", "placeAfter", "(I)J"⟩ : MethodName) (head1 (Jvm.Cond.code (⟨"com/example/coho/coho/eventlog/SegmentIndex", "placeAfter", "(I)J"⟩ : MethodName) prog_34_method_9_code 2 (some .long) :: ws) ({ frames := 0, cells := 0, slots := 0, locals := 0 } : Room)) (fun a U => a = #[(.ref ax), (.int (1 : Int32))] ∧ Z.Warmed39 U.vm ∧ U.heap = h0) (fun _ _ _ _ _ => True) (fun _ U o U' => ∃ v L, o = .returned v ∧ own_Q4_1_3 Z ax ap kp ct qe uu0 uu1 uu2 uu3 h0 n0 v U'.heap L ∧ FrameEnd U o U' L ({ frames := 0, cells := 0, slots := 0, locals := 0 } : Room).cells ({ frames := 0, cells := 0, slots := 0, locals := 0 } : Room).slots) := by
  refine MetFree.of_bodySF (plainFor_of_name own_pn4) hisR ?_
  intro p e s m args below meth c s₁ Bd hml0 hP hK
  obtain ⟨rfl, hZ, hh⟩ := hP
  have hx := Bd.exec
  have hby := Bd.bytes
  have hml : c.maxLocals = 2 := hml0
  have hown : s.vm.findClass "com/example/coho/coho/eventlog/SegmentIndex" = some m.cls := findClass_of_methodNamed Bd.named
  have hnm := (name_of_methodNamed Bd.named Bd.method).1
  have X0 : Stand p l e ({ frames := 0, cells := 0, slots := 0, locals := 0 } : Room) s m #[(.ref ax), (.int (1 : Int32))] below meth c s₁ [] 0 0 := Stand.of_body Bd
  have e0 : s₁.heap = h0 := by rw [← hh, Bd.state]; rfl
  have N0 := Fr.nil n0
  refine own_pre (A := (s₁.setTop (mkF m 0 #[.val (.ref ax), .val (.int (1 : Int32))] []))) (fun t k => castTop (own_ef4 m ax (1 : Int32)) k) ?_
  refine own_pre (A := (s₁.setTop (mkF m 4 #[.val (.ref ax), .val (.int (1 : Int32))] [(.ref ax), (.int (2 : Int32))]))) ?_ ?_
  · intro t k
    refine XS.iloadN X0.here hx rfl (hb hby d4_0) rfl ?_
    refine XS.iconst X0.here hx rfl (hb hby d4_1) ?_
    refine XS.iadd X0.here hx rfl (hb hby d4_2) rfl ?_
    show Steps p.tables e below (s₁.setTop (mkF m 3 #[.val (.ref ax), .val (.int (1 : Int32))] [(.int ((1 : Int32) + (1 : Int32)))])) _
    rw [show ((1 : Int32) + (1 : Int32)) = (2 : Int32) from by decide]
    refine XS.aloadN X0.here hx rfl (hb hby d4_3) rfl rfl ?_
    exact k
  obtain ⟨T42, X42, e42, st42⟩ := getF X0 hx hZ hown (host := "") (Or.inl (own_w hw 29 rfl)) Via.refl e0 Fe (g := (mkF m 4 #[.val (.ref ax), .val (.int (1 : Int32))] [(.ref ax), (.int (2 : Int32))])) rfl rfl (hb hby d4_4)
  refine own_pre (fun t k => st42 t k) ?_
  refine own_pre (A := (T42.setTop (mkF m 11 #[.val (.ref ax), .val (.int (1 : Int32))] [(.ref ax)]))) ?_ ?_
  · intro t k
    refine XS.icmpNo X42.here hx rfl (hb hby d4_7) rfl (tlt (by decide : (2 : Int32) < (3 : Int32))).2.1 ?_
    refine XS.aloadN X42.here hx rfl (hb hby d4_10) rfl rfl ?_
    exact k
  obtain ⟨T43, X43, e43, st43⟩ := getF X42 hx hZ hown (host := "") (Or.inl (own_w hw 12 rfl)) Via.refl e42 Fa (g := (mkF m 11 #[.val (.ref ax), .val (.int (1 : Int32))] [(.ref ax)])) rfl rfl (hb hby d4_11)
  refine own_pre (fun t k => st43 t k) ?_
  refine own_pre (A := (T43.setTop (mkF m 27 #[.val (.ref ax), .val (.int (1 : Int32))] [(.long (uu2.toInt64))]))) ?_ ?_
  · intro t k
    refine XS.iloadN X43.here hx rfl (hb hby d4_14) rfl ?_
    refine XS.iconst X43.here hx rfl (hb hby d4_15) ?_
    refine XS.iadd X43.here hx rfl (hb hby d4_16) rfl ?_
    show Steps p.tables e below (T43.setTop (mkF m 17 #[.val (.ref ax), .val (.int (1 : Int32))] [(.int ((1 : Int32) + (1 : Int32))), (.ref ap)])) _
    rw [show ((1 : Int32) + (1 : Int32)) = (2 : Int32) from by decide]
    show Steps p.tables e below (T43.setTop (mkF m 17 #[.val (.ref ax), .val (.int (1 : Int32))] [(.int (2 : Int32)), (.ref ap)])) _
    obtain ⟨cl44, Ar44, q44, S44, N44, H44, G44⟩ := id Va
    have hin44 : ¬ ((2 : Int32) < 0 ∨ cl44.slots.size ≤ ((2 : Int32)).toNatClampNeg) := inb_of S44 ⟨by decide, by decide⟩
    refine X43.iaload hx (j := (2 : Int32)) (v := (.int uu2)) (by rw [e43]; exact Ar44.1) (State.isArrayOf_alike hZ.alike Ar44.2.1) Ar44.2.2 hin44 (H44.at hin44 rfl) (g := (mkF m 17 #[.val (.ref ax), .val (.int (1 : Int32))] [(.int (2 : Int32)), (.ref ap)])) rfl rfl (hb hby d4_17) _ ?_
    refine XS.i2l X43.here hx rfl (hb hby d4_18) rfl ?_
    refine XS.goto X43.here hx rfl (pc0 := 19) (pc' := 27) rfl (hb hby d4_19) (by decide) (by decide) ?_
    exact k
  obtain ⟨fs, hr, hrun, hended, hW, hsame⟩ := X43.leave (hlocks := BodyLoose.notSynchronized Bd) (v := some (.long (uu2.toInt64))) (fun h => by rw [Bd.returns] at h; cases h)
  refine ⟨_, _, retOut X43 hx Bd.returns rfl (Or.inr (Or.inl ⟨rfl, rfl, _, rfl⟩)) (hb hby d4_27) hr, hrun, hended, _, _, rfl, ?_, ⟨_, rfl⟩, hW, hsame.mono (by decide) (by decide)⟩
  show own_Q4_1_3 Z ax ap kp ct qe uu0 uu1 uu2 uu3 h0 n0 _ T43.heap _
  rw [e43]
  exact ⟨N0, rfl, rfl⟩
abbrev own_l49 (x0 : Slot) (x1 : Slot) (x2 : Int32) (x3 : Slot) (x4 : Slot) (x5 : Slot) (x6 : Int32) (x7 : Slot) (x8 : Slot) (x9 : Slot) (x10 : Slot) (x11 : Slot) (x12 : Slot) (x13 : Slot) (x14 : Slot) (x15 : Addr) (x16 : Addr) (x17 : Slot) (x18 : Slot) (x19 : Slot) (x20 : Slot) (x21 : Slot) (x22 : Slot) (x23 : Slot) (x24 : Slot) : Array Slot := #[x0, x1, .val (.int x2), x3, x4, x5, .val (.int x6), x7, x8, x9, x10, x11, x12, x13, x14, .val (.ref x15), .val (.ref x16), x17, x18, x19, x20, x21, x22, x23, x24, .val (.int (0 : Int32)), .val (.int (1 : Int32)), .val (.int (1 : Int32)), .val (.int (3 : Int32)), .val (.int (2 : Int32)), .unset, .unset, .unset]
abbrev own_l50 (x0 : Slot) (x1 : Slot) (x2 : Int32) (x3 : Slot) (x4 : Slot) (x5 : Slot) (x6 : Int32) (x7 : Slot) (x8 : Slot) (x9 : Slot) (x10 : Slot) (x11 : Slot) (x12 : Slot) (x13 : Slot) (x14 : Slot) (x15 : Addr) (x16 : Addr) (x17 : Slot) (x18 : Slot) (x19 : Slot) (x20 : Slot) (x21 : Slot) (x22 : Slot) (x23 : Slot) (x24 : Slot) : Array Slot := #[x0, x1, .val (.int x2), x3, x4, x5, .val (.int x6), x7, x8, x9, x10, x11, x12, x13, x14, .val (.ref x15), .val (.ref x16), x17, x18, x19, x20, x21, x22, x23, x24, .val (.int (0 : Int32)), .val (.int (1 : Int32)), .val (.int (1 : Int32)), .val (.int (3 : Int32)), .val (.int (2 : Int32)), .val (.int (3 : Int32)), .unset, .unset]
abbrev own_l51 (x0 : Slot) (x1 : Slot) (x2 : Int32) (x3 : Slot) (x4 : Slot) (x5 : Slot) (x6 : Int32) (x7 : Slot) (x8 : Slot) (x9 : Slot) (x10 : Slot) (x11 : Slot) (x12 : Slot) (x13 : Slot) (x14 : Slot) (x15 : Addr) (x16 : Addr) (x17 : Slot) (x18 : Slot) (x19 : Slot) (x20 : Slot) (x21 : Slot) (x22 : Slot) (x23 : Slot) (x24 : Slot) : Array Slot := #[x0, x1, .val (.int x2), x3, x4, x5, .val (.int x6), x7, x8, x9, x10, x11, x12, x13, x14, .val (.ref x15), .val (.ref x16), x17, x18, x19, x20, x21, x22, x23, x24, .val (.int (0 : Int32)), .val (.int (1 : Int32)), .val (.int (1 : Int32)), .val (.int (3 : Int32)), .val (.int (2 : Int32)), .val (.int (3 : Int32)), .val (.long (x6.toInt64)), .second]
def own_Q4_2_3 (Z : State) (ax : Addr) (ap : Addr) (kp : ClassId) (ct : Int32) (qe : Int64) (uu0 : Int32) (uu1 : Int32) (uu2 : Int32) (uu3 : Int32) (h0 : Heap) (n0 : Nat) (v : Option Value) (h : Heap) (L : List Loc) : Prop := Fr n0 L ∧ v = some (.long (ct.toInt64)) ∧ h = h0
set_option maxRecDepth 65536 in
set_option maxHeartbeats 40000000 in
theorem rm4_2_3 (l : Launch) (Z : State) (a0 : Array Value) (hw : ∀ d ∈ tables_1, d.before a0 Z = true) (ws : List Jvm.Cond) (ax : Addr) (ap : Addr) (kp : ClassId) (ct : Int32) (qe : Int64) (uu0 : Int32) (uu1 : Int32) (uu2 : Int32) (uu3 : Int32) (h0 : Heap) (n0 : Nat) (Z0 : n0 ≤ h0.size) (Fe : Fld Z h0 ax "com/example/coho/coho/eventlog/SegmentIndex" "entries" "I" (.int (3 : Int32))) (Fc : Fld Z h0 ax "com/example/coho/coho/eventlog/SegmentIndex" "count" "I" (.int ct)) (Fq : Fld Z h0 ax "com/example/coho/coho/eventlog/SegmentIndex" "end" "J" (.long qe)) (Fa : Fld Z h0 ax "com/example/coho/coho/eventlog/SegmentIndex" "places" "[I" (.ref ap)) (Va : Arv Z h0 ap kp .int (4 : Int32) [(.int uu0), (.int uu1), (.int uu2), (.int uu3)] (.int (0 : Int32))) :
    MetFree l (⟨"com/example/coho/coho/eventlog/SegmentIndex", "placeAfter", "(I)J"⟩ : MethodName) (head1 (Jvm.Cond.code (⟨"com/example/coho/coho/eventlog/SegmentIndex", "placeAfter", "(I)J"⟩ : MethodName) prog_34_method_9_code 2 (some .long) :: ws) ({ frames := 0, cells := 0, slots := 0, locals := 0 } : Room)) (fun a U => a = #[(.ref ax), (.int (2 : Int32))] ∧ Z.Warmed39 U.vm ∧ U.heap = h0) (fun _ _ _ _ _ => True) (fun _ U o U' => ∃ v L, o = .returned v ∧ own_Q4_2_3 Z ax ap kp ct qe uu0 uu1 uu2 uu3 h0 n0 v U'.heap L ∧ FrameEnd U o U' L ({ frames := 0, cells := 0, slots := 0, locals := 0 } : Room).cells ({ frames := 0, cells := 0, slots := 0, locals := 0 } : Room).slots) := by
  refine MetFree.of_bodySF (plainFor_of_name own_pn4) hisR ?_
  intro p e s m args below meth c s₁ Bd hml0 hP hK
  obtain ⟨rfl, hZ, hh⟩ := hP
  have hx := Bd.exec
  have hby := Bd.bytes
  have hml : c.maxLocals = 2 := hml0
  have hown : s.vm.findClass "com/example/coho/coho/eventlog/SegmentIndex" = some m.cls := findClass_of_methodNamed Bd.named
  have hnm := (name_of_methodNamed Bd.named Bd.method).1
  have X0 : Stand p l e ({ frames := 0, cells := 0, slots := 0, locals := 0 } : Room) s m #[(.ref ax), (.int (2 : Int32))] below meth c s₁ [] 0 0 := Stand.of_body Bd
  have e0 : s₁.heap = h0 := by rw [← hh, Bd.state]; rfl
  have N0 := Fr.nil n0
  refine own_pre (A := (s₁.setTop (mkF m 0 #[.val (.ref ax), .val (.int (2 : Int32))] []))) (fun t k => castTop (own_ef4 m ax (2 : Int32)) k) ?_
  refine own_pre (A := (s₁.setTop (mkF m 4 #[.val (.ref ax), .val (.int (2 : Int32))] [(.ref ax), (.int (3 : Int32))]))) ?_ ?_
  · intro t k
    refine XS.iloadN X0.here hx rfl (hb hby d4_0) rfl ?_
    refine XS.iconst X0.here hx rfl (hb hby d4_1) ?_
    refine XS.iadd X0.here hx rfl (hb hby d4_2) rfl ?_
    show Steps p.tables e below (s₁.setTop (mkF m 3 #[.val (.ref ax), .val (.int (2 : Int32))] [(.int ((2 : Int32) + (1 : Int32)))])) _
    rw [show ((2 : Int32) + (1 : Int32)) = (3 : Int32) from by decide]
    refine XS.aloadN X0.here hx rfl (hb hby d4_3) rfl rfl ?_
    exact k
  obtain ⟨T47, X47, e47, st47⟩ := getF X0 hx hZ hown (host := "") (Or.inl (own_w hw 29 rfl)) Via.refl e0 Fe (g := (mkF m 4 #[.val (.ref ax), .val (.int (2 : Int32))] [(.ref ax), (.int (3 : Int32))])) rfl rfl (hb hby d4_4)
  refine own_pre (fun t k => st47 t k) ?_
  refine own_pre (A := (T47.setTop (mkF m 23 #[.val (.ref ax), .val (.int (2 : Int32))] [(.ref ax)]))) ?_ ?_
  · intro t k
    refine XS.icmpYes X47.here hx rfl (pc0 := 7) (pc' := 22) rfl (hb hby d4_7) rfl (flt (by decide : ¬ ((3 : Int32) < (3 : Int32)))).2.1 (by decide) (by decide) ?_
    refine XS.aloadN X47.here hx rfl (hb hby d4_22) rfl rfl ?_
    exact k
  obtain ⟨T48, X48, e48, st48⟩ := getF X47 hx hZ hown (host := "") (Or.inl (own_w hw 31 rfl)) Via.refl e47 Fc (g := (mkF m 23 #[.val (.ref ax), .val (.int (2 : Int32))] [(.ref ax)])) rfl rfl (hb hby d4_23)
  refine own_pre (fun t k => st48 t k) ?_
  refine own_pre (A := (T48.setTop (mkF m 27 #[.val (.ref ax), .val (.int (2 : Int32))] [(.long (ct.toInt64))]))) ?_ ?_
  · intro t k
    refine XS.i2l X48.here hx rfl (hb hby d4_26) rfl ?_
    exact k
  obtain ⟨fs, hr, hrun, hended, hW, hsame⟩ := X48.leave (hlocks := BodyLoose.notSynchronized Bd) (v := some (.long (ct.toInt64))) (fun h => by rw [Bd.returns] at h; cases h)
  refine ⟨_, _, retOut X48 hx Bd.returns rfl (Or.inr (Or.inl ⟨rfl, rfl, _, rfl⟩)) (hb hby d4_27) hr, hrun, hended, _, _, rfl, ?_, ⟨_, rfl⟩, hW, hsame.mono (by decide) (by decide)⟩
  show own_Q4_2_3 Z ax ap kp ct qe uu0 uu1 uu2 uu3 h0 n0 _ T48.heap _
  rw [e48]
  exact ⟨N0, rfl, rfl⟩
set_option maxRecDepth 65536 in
set_option maxHeartbeats 40000000 in
theorem own_suf_011 {p : Program} {l : Launch} {e : Env} {s : State} {m : MethodId} {args : Array Value} {below : List Frame} {meth : Method} {c : Code} {T0 : State} {locs : List Loc} {Z : State} {a0 : Array Value} {h0 h1 : Heap} {n0 : Nat} {p2 pn : Int32} {qe : Int64} {apl aix app : Addr} {kpl kpp : ClassId} {sl0 sl1 sl3 sl4 sl5 sl7 sl8 sl9 sl10 sl11 sl12 sl13 sl14 sl17 sl18 sl19 sl20 sl21 sl22 sl23 sl24 : Slot} (X0 : Stand p l e room_1 s m args below meth c T0 locs 5 23) (hx : p.tables.exec = Jvm.exec) (hZ : Z.Warmed39 s.vm) (hw : ∀ d ∈ tables_1, d.before a0 Z = true) (hby : c.code = code) (hml : c.maxLocals = 33) (hown : s.vm.findClass "com/example/coho/coho/eventlog/SegmentIndexPlaceAfterPinLaw" = some m.cls) (hret : meth.sig.returnType = some .boolean) (hlk : meth.locks = false) (e0 : T0.heap = h1) (N0 : Fr n0 locs) (Zs0 : n0 ≤ h1.size) (K0 : Keep h0 h1 []) (Ex : Exa Z h1 aix "com/example/coho/coho/eventlog/SegmentIndex") (Fentries : Fld Z h1 aix "com/example/coho/coho/eventlog/SegmentIndex" "entries" "I" (.int (3 : Int32))) (Fcount : Fld Z h1 aix "com/example/coho/coho/eventlog/SegmentIndex" "count" "I" (.int pn)) (Fend : Fld Z h1 aix "com/example/coho/coho/eventlog/SegmentIndex" "end" "J" (.long qe)) (Fplaces : Fld Z h1 aix "com/example/coho/coho/eventlog/SegmentIndex" "places" "[I" (.ref app)) (Vpp : Arv Z h1 app kpp .int (4 : Int32) [(.int (0 : Int32)), (.int (2 : Int32)), (.int (3 : Int32)), (.int (0 : Int32))] (.int (0 : Int32))) (Vpl : Arv Z h1 apl kpl .int (4 : Int32) [(.int (0 : Int32)), (.int (0 : Int32)), (.int (0 : Int32)), (.int (0 : Int32))] (.int (0 : Int32))) (nix : aix ≠ apl) (npp : app ≠ apl) (gpl : n0 ≤ apl) (spl : h0.size ≤ apl) :
    ∃ s₂ o, Steps p.tables e below (T0.setTop (mkF m 218 (own_l34 sl0 sl1 p2 sl3 sl4 sl5 pn sl7 sl8 sl9 sl10 sl11 sl12 sl13 sl14 apl aix sl17 sl18 sl19 sl20 sl21 sl22 sl23 sl24) [])) s₂ ∧ s₂.status = .running ∧ Ended s₂ below o ∧ (∃ v L, o = .returned v ∧ own_Q0 h0 n0 v s₂.heap L ∧ FrameEnd s o s₂ L room_1.cells room_1.slots) := by
  refine own_pre (A := (T0.setTop (mkF m 226 (own_l35 sl0 sl1 p2 sl3 sl4 sl5 pn sl7 sl8 sl9 sl10 sl11 sl12 sl13 sl14 apl aix sl17 sl18 sl19 sl20 sl21 sl22 sl23 sl24) [(.int (0 : Int32)), (.int (0 : Int32)), (.ref apl)]))) ?_ ?_
  · intro t k
    refine XS.iconst X0.here hx rfl (hb hby at_218) ?_
    refine XS.istore X0.here hx rfl (hb hby at_219) rfl (l' := (own_l35 sl0 sl1 p2 sl3 sl4 sl5 pn sl7 sl8 sl9 sl10 sl11 sl12 sl13 sl14 apl aix sl17 sl18 sl19 sl20 sl21 sl22 sl23 sl24)) rfl ?_
    refine XS.aload X0.here hx rfl (hb hby at_221) rfl rfl ?_
    refine XS.iload X0.here hx rfl (hb hby at_223) rfl ?_
    refine XS.iconst X0.here hx rfl (hb hby at_225) ?_
    exact k
  obtain ⟨cl32, Ar32, q32, S32, N32, H32, G32⟩ := Vpl
  have hin32 : ¬ ((0 : Int32) < 0 ∨ cl32.slots.size ≤ ((0 : Int32)).toNatClampNeg) := inb_of S32 ⟨by decide, by decide⟩
  obtain ⟨T32, h32, X32, e32, W32, st32⟩ := stI X0 hx hZ e0 Ar32 (j := (0 : Int32)) hin32 (g := (mkF m 226 (own_l35 sl0 sl1 p2 sl3 sl4 sl5 pn sl7 sl8 sl9 sl10 sl11 sl12 sl13 sl14 apl aix sl17 sl18 sl19 sl20 sl21 sl22 sl23 sl24) [(.int (0 : Int32)), (.int (0 : Int32)), (.ref apl)])) rfl rfl (hb hby at_226)
  have V32 : Arv Z h32 apl kpl .int (4 : Int32) [(.int (0 : Int32)), (.int (0 : Int32)), (.int (0 : Int32)), (.int (0 : Int32))] (.int (0 : Int32)) := Arv.set Ar32 q32 S32 N32 H32 G32 rfl W32 0 rfl (Nat.le_of_ble_eq_true rfl)
  have Ex_32 := Ex.wr W32
  have Fentries_32 := Fentries.other W32 (Or.inl nix)
  have Fcount_32 := Fcount.other W32 (Or.inl nix)
  have Fend_32 := Fend.other W32 (Or.inl nix)
  have Fplaces_32 := Fplaces.other W32 (Or.inl nix)
  have Vpp_32 := Vpp.other W32 npp
  have Zs32 : n0 ≤ h32.size := Nat.le_trans Zs0 (Keep.of_wr W32).1
  have N32 := Fr.snoc X32 N0 gpl
  refine own_pre (fun t k => st32 t k) ?_
  refine own_pre (A := (T32.setTop (mkF m 254 (own_l37 sl0 sl1 p2 sl3 sl4 sl5 pn sl7 sl8 sl9 sl10 sl11 sl12 sl13 sl14 apl aix sl17 sl18 sl19 sl20 sl21 sl22 sl23 sl24) [(.int (2 : Int32)), (.int (1 : Int32)), (.ref apl)]))) ?_ ?_
  · intro t k
    refine XS.iinc X32.here hx rfl (hb hby at_227) rfl (l' := (own_l36 sl0 sl1 p2 sl3 sl4 sl5 pn sl7 sl8 sl9 sl10 sl11 sl12 sl13 sl14 apl aix sl17 sl18 sl19 sl20 sl21 sl22 sl23 sl24)) rfl ?_
    show Steps  p.tables e below (T32.setTop (mkF m 230 #[sl0, sl1, .val (.int p2), sl3, sl4, sl5, .val (.int pn), sl7, sl8, sl9, sl10, sl11, sl12, sl13, sl14, .val (.ref apl), .val (.ref aix), sl17, sl18, sl19, sl20, sl21, sl22, sl23, sl24, .val (.int (0 : Int32)), .val (.int (1 : Int32)), .val (.int (1 : Int32)), .val (.int ((0 : Int32) + (1 : Int32))), .unset, .unset, .unset, .unset] [])) _
    rw [show ((0 : Int32) + (1 : Int32)) = (1 : Int32) from by decide]
    refine XS.iload X32.here hx rfl (hb hby at_230) rfl ?_
    refine XS.ifYes X32.here hx rfl (pc0 := 232) (pc' := 244) rfl (hb hby at_232) rfl ((if0 _ _).trans (teq (by decide : (0 : Int32) = (0 : Int32))).1) (by decide) (by decide) ?_
    refine XS.iload X32.here hx rfl (hb hby at_244) rfl ?_
    refine XS.ifNo X32.here hx rfl (hb hby at_246) rfl ((if0 _ _).trans (feq (by decide : ¬ ((1 : Int32) = (0 : Int32)))).1) ?_
    refine XS.aload X32.here hx rfl (hb hby at_249) rfl rfl ?_
    refine XS.iload X32.here hx rfl (hb hby at_251) rfl ?_
    refine XS.iconst X32.here hx rfl (hb hby at_253) ?_
    exact k
  obtain ⟨cl33, Ar33, q33, S33, N33, H33, G33⟩ := V32
  have hin33 : ¬ ((1 : Int32) < 0 ∨ cl33.slots.size ≤ ((1 : Int32)).toNatClampNeg) := inb_of S33 ⟨by decide, by decide⟩
  obtain ⟨T33, h33, X33, e33, W33, st33⟩ := stI X32 hx hZ e32 Ar33 (j := (1 : Int32)) hin33 (g := (mkF m 254 (own_l37 sl0 sl1 p2 sl3 sl4 sl5 pn sl7 sl8 sl9 sl10 sl11 sl12 sl13 sl14 apl aix sl17 sl18 sl19 sl20 sl21 sl22 sl23 sl24) [(.int (2 : Int32)), (.int (1 : Int32)), (.ref apl)])) rfl rfl (hb hby at_254)
  have V33 : Arv Z h33 apl kpl .int (4 : Int32) [(.int (0 : Int32)), (.int (2 : Int32)), (.int (0 : Int32)), (.int (0 : Int32))] (.int (0 : Int32)) := Arv.set Ar33 q33 S33 N33 H33 G33 rfl W33 1 rfl (Nat.le_of_ble_eq_true rfl)
  have Ex_33 := Ex_32.wr W33
  have Fentries_33 := Fentries_32.other W33 (Or.inl nix)
  have Fcount_33 := Fcount_32.other W33 (Or.inl nix)
  have Fend_33 := Fend_32.other W33 (Or.inl nix)
  have Fplaces_33 := Fplaces_32.other W33 (Or.inl nix)
  have Vpp_33 := Vpp_32.other W33 npp
  have Zs33 : n0 ≤ h33.size := Nat.le_trans Zs32 (Keep.of_wr W33).1
  have N33 := Fr.snoc X33 N32 gpl
  refine own_pre (fun t k => st33 t k) ?_
  refine own_pre (A := (T33.setTop (mkF m 268 (own_l39 sl0 sl1 p2 sl3 sl4 sl5 pn sl7 sl8 sl9 sl10 sl11 sl12 sl13 sl14 apl aix sl17 sl18 sl19 sl20 sl21 sl22 sl23 sl24) [(.int (3 : Int32)), (.int (2 : Int32)), (.ref apl)]))) ?_ ?_
  · intro t k
    refine XS.iinc X33.here hx rfl (hb hby at_255) rfl (l' := (own_l38 sl0 sl1 p2 sl3 sl4 sl5 pn sl7 sl8 sl9 sl10 sl11 sl12 sl13 sl14 apl aix sl17 sl18 sl19 sl20 sl21 sl22 sl23 sl24)) rfl ?_
    show Steps  p.tables e below (T33.setTop (mkF m 258 #[sl0, sl1, .val (.int p2), sl3, sl4, sl5, .val (.int pn), sl7, sl8, sl9, sl10, sl11, sl12, sl13, sl14, .val (.ref apl), .val (.ref aix), sl17, sl18, sl19, sl20, sl21, sl22, sl23, sl24, .val (.int (0 : Int32)), .val (.int (1 : Int32)), .val (.int (1 : Int32)), .val (.int ((1 : Int32) + (1 : Int32))), .unset, .unset, .unset, .unset] [])) _
    rw [show ((1 : Int32) + (1 : Int32)) = (2 : Int32) from by decide]
    refine XS.iload X33.here hx rfl (hb hby at_258) rfl ?_
    refine XS.ifNo X33.here hx rfl (hb hby at_260) rfl ((if0 _ _).trans (feq (by decide : ¬ ((1 : Int32) = (0 : Int32)))).1) ?_
    refine XS.aload X33.here hx rfl (hb hby at_263) rfl rfl ?_
    refine XS.iload X33.here hx rfl (hb hby at_265) rfl ?_
    refine XS.iconst X33.here hx rfl (hb hby at_267) ?_
    exact k
  obtain ⟨cl34, Ar34, q34, S34, N34, H34, G34⟩ := V33
  have hin34 : ¬ ((2 : Int32) < 0 ∨ cl34.slots.size ≤ ((2 : Int32)).toNatClampNeg) := inb_of S34 ⟨by decide, by decide⟩
  obtain ⟨T34, h34, X34, e34, W34, st34⟩ := stI X33 hx hZ e33 Ar34 (j := (2 : Int32)) hin34 (g := (mkF m 268 (own_l39 sl0 sl1 p2 sl3 sl4 sl5 pn sl7 sl8 sl9 sl10 sl11 sl12 sl13 sl14 apl aix sl17 sl18 sl19 sl20 sl21 sl22 sl23 sl24) [(.int (3 : Int32)), (.int (2 : Int32)), (.ref apl)])) rfl rfl (hb hby at_268)
  have V34 : Arv Z h34 apl kpl .int (4 : Int32) [(.int (0 : Int32)), (.int (2 : Int32)), (.int (3 : Int32)), (.int (0 : Int32))] (.int (0 : Int32)) := Arv.set Ar34 q34 S34 N34 H34 G34 rfl W34 2 rfl (Nat.le_of_ble_eq_true rfl)
  have Ex_34 := Ex_33.wr W34
  have Fentries_34 := Fentries_33.other W34 (Or.inl nix)
  have Fcount_34 := Fcount_33.other W34 (Or.inl nix)
  have Fend_34 := Fend_33.other W34 (Or.inl nix)
  have Fplaces_34 := Fplaces_33.other W34 (Or.inl nix)
  have Vpp_34 := Vpp_33.other W34 npp
  have Zs34 : n0 ≤ h34.size := Nat.le_trans Zs33 (Keep.of_wr W34).1
  have N34 := Fr.snoc X34 N33 gpl
  refine own_pre (fun t k => st34 t k) ?_
  refine own_pre (A := (T34.setTop (mkF m 282 (own_l42 sl0 sl1 p2 sl3 sl4 sl5 pn sl7 sl8 sl9 sl10 sl11 sl12 sl13 sl14 apl aix sl17 sl18 sl19 sl20 sl21 sl22 sl23 sl24) []))) ?_ ?_
  · intro t k
    refine XS.iinc X34.here hx rfl (hb hby at_269) rfl (l' := (own_l40 sl0 sl1 p2 sl3 sl4 sl5 pn sl7 sl8 sl9 sl10 sl11 sl12 sl13 sl14 apl aix sl17 sl18 sl19 sl20 sl21 sl22 sl23 sl24)) rfl ?_
    show Steps  p.tables e below (T34.setTop (mkF m 272 #[sl0, sl1, .val (.int p2), sl3, sl4, sl5, .val (.int pn), sl7, sl8, sl9, sl10, sl11, sl12, sl13, sl14, .val (.ref apl), .val (.ref aix), sl17, sl18, sl19, sl20, sl21, sl22, sl23, sl24, .val (.int (0 : Int32)), .val (.int (1 : Int32)), .val (.int (1 : Int32)), .val (.int ((2 : Int32) + (1 : Int32))), .unset, .unset, .unset, .unset] [])) _
    rw [show ((2 : Int32) + (1 : Int32)) = (3 : Int32) from by decide]
    refine XS.iloadN X34.here hx rfl (hb hby at_272) rfl ?_
    refine XS.iconst X34.here hx rfl (hb hby at_273) ?_
    refine XS.iushr X34.here hx rfl (hb hby at_274) rfl ?_
    refine XS.iconst X34.here hx rfl (hb hby at_275) ?_
    refine XS.iand X34.here hx rfl (hb hby at_276) rfl ?_
    refine XS.iload X34.here hx rfl (hb hby at_277) rfl ?_
    show Steps p.tables e below (T34.setTop (mkF m 279 (own_l41 sl0 sl1 p2 sl3 sl4 sl5 pn sl7 sl8 sl9 sl10 sl11 sl12 sl13 sl14 apl aix sl17 sl18 sl19 sl20 sl21 sl22 sl23 sl24) [(.int (3 : Int32)), (.int (((p2.toUInt32 >>> ((2 : Int32) &&& 31).toUInt32).toInt32) &&& (3 : Int32)))])) _
    refine iremM X34 hx rfl (hb hby at_279) rfl (by decide) ?_
    show Steps p.tables e below (T34.setTop (mkF m 280 (own_l41 sl0 sl1 p2 sl3 sl4 sl5 pn sl7 sl8 sl9 sl10 sl11 sl12 sl13 sl14 apl aix sl17 sl18 sl19 sl20 sl21 sl22 sl23 sl24) [(.int ((((p2.toUInt32 >>> ((2 : Int32) &&& 31).toUInt32).toInt32) &&& (3 : Int32)) % (3 : Int32)))])) _
    refine XS.istore X34.here hx rfl (hb hby at_280) rfl (l' := (own_l42 sl0 sl1 p2 sl3 sl4 sl5 pn sl7 sl8 sl9 sl10 sl11 sl12 sl13 sl14 apl aix sl17 sl18 sl19 sl20 sl21 sl22 sl23 sl24)) rfl ?_
    exact k
  obtain ⟨pe, hpe⟩ : ∃ z : Int32, z = ((((p2.toUInt32 >>> ((2 : Int32) &&& 31).toUInt32).toInt32) &&& (3 : Int32)) % (3 : Int32)) := ⟨_, rfl⟩
  show ∃ s₂ o, Steps p.tables e below (T34.setTop (mkF m 282 #[sl0, sl1, .val (.int p2), sl3, sl4, sl5, .val (.int pn), sl7, sl8, sl9, sl10, sl11, sl12, sl13, sl14, .val (.ref apl), .val (.ref aix), sl17, sl18, sl19, sl20, sl21, sl22, sl23, sl24, .val (.int (0 : Int32)), .val (.int (1 : Int32)), .val (.int (1 : Int32)), .val (.int (3 : Int32)), .val (.int ((((p2.toUInt32 >>> ((2 : Int32) &&& 31).toUInt32).toInt32) &&& (3 : Int32)) % (3 : Int32))), .unset, .unset, .unset] [])) s₂ ∧ _
  rw [← hpe]
  have he : pe = (0 : Int32) ∨ pe = (1 : Int32) ∨ pe = (2 : Int32) := by rw [hpe]; exact own_e3 _
  clear hpe
  rcases he with rfl | rfl | rfl
  · skip
    refine own_pre (A := (T34.setTop (mkF m 353 (own_l45 sl0 sl1 p2 sl3 sl4 sl5 pn sl7 sl8 sl9 sl10 sl11 sl12 sl13 sl14 apl aix sl17 sl18 sl19 sl20 sl21 sl22 sl23 sl24) [(.int (0 : Int32)), (.ref aix)]))) ?_ ?_
    · intro t k
      refine XS.aload X34.here hx rfl (hb hby at_282) rfl rfl ?_
      refine XS.iload X34.here hx rfl (hb hby at_284) rfl ?_
      show Steps p.tables e below (T34.setTop (mkF m 286 (own_l43 sl0 sl1 p2 sl3 sl4 sl5 pn sl7 sl8 sl9 sl10 sl11 sl12 sl13 sl14 apl aix sl17 sl18 sl19 sl20 sl21 sl22 sl23 sl24) [(.int (0 : Int32)), (.ref apl)])) _
      obtain ⟨cl35, Ar35, q35, S35, N35, H35, G35⟩ := id V34
      have hin35 : ¬ ((0 : Int32) < 0 ∨ cl35.slots.size ≤ ((0 : Int32)).toNatClampNeg) := inb_of S35 ⟨by decide, by decide⟩
      refine X34.iaload hx (j := (0 : Int32)) (v := (.int (0 : Int32))) (by rw [e34]; exact Ar35.1) (State.isArrayOf_alike hZ.alike Ar35.2.1) Ar35.2.2 hin35 (H35.at hin35 rfl) (g := (mkF m 286 (own_l43 sl0 sl1 p2 sl3 sl4 sl5 pn sl7 sl8 sl9 sl10 sl11 sl12 sl13 sl14 apl aix sl17 sl18 sl19 sl20 sl21 sl22 sl23 sl24) [(.int (0 : Int32)), (.ref apl)])) rfl rfl (hb hby at_286) _ ?_
      refine XS.istore X34.here hx rfl (hb hby at_287) rfl (l' := (own_l44 sl0 sl1 p2 sl3 sl4 sl5 pn sl7 sl8 sl9 sl10 sl11 sl12 sl13 sl14 apl aix sl17 sl18 sl19 sl20 sl21 sl22 sl23 sl24)) rfl ?_
      refine XS.iload X34.here hx rfl (hb hby at_289) rfl ?_
      refine XS.iconst X34.here hx rfl (hb hby at_291) ?_
      refine XS.icmpNo X34.here hx rfl (hb hby at_292) rfl (tlt (by decide : (0 : Int32) < (1 : Int32))).2.1 ?_
      refine XS.iload X34.here hx rfl (hb hby at_295) rfl ?_
      refine XS.ifYes X34.here hx rfl (pc0 := 297) (pc' := 306) rfl (hb hby at_297) rfl ((if0 _ _).trans (teq (by decide : (0 : Int32) = (0 : Int32))).1) (by decide) (by decide) ?_
      refine XS.iload X34.here hx rfl (hb hby at_306) rfl ?_
      refine XS.iconst X34.here hx rfl (hb hby at_308) ?_
      refine XS.icmpNo X34.here hx rfl (hb hby at_309) rfl (tlt (by decide : (0 : Int32) < (2 : Int32))).2.1 ?_
      refine XS.iload X34.here hx rfl (hb hby at_312) rfl ?_
      refine XS.ifNo X34.here hx rfl (hb hby at_314) rfl ((if0 _ _).trans (feq (by decide : ¬ ((1 : Int32) = (0 : Int32)))).1) ?_
      show Steps p.tables e below (T34.setTop (mkF m 317 (own_l44 sl0 sl1 p2 sl3 sl4 sl5 pn sl7 sl8 sl9 sl10 sl11 sl12 sl13 sl14 apl aix sl17 sl18 sl19 sl20 sl21 sl22 sl23 sl24) [])) _
      refine X34.ldc2Long hx hown (mvT hZ (own_w hw 34 rfl)) (g := (mkF m 317 (own_l44 sl0 sl1 p2 sl3 sl4 sl5 pn sl7 sl8 sl9 sl10 sl11 sl12 sl13 sl14 apl aix sl17 sl18 sl19 sl20 sl21 sl22 sl23 sl24) [])) rfl (hb hby at_317) _ ?_
      refine XS.lstore X34.here hx rfl (hb hby at_320) rfl (l' := (own_l45 sl0 sl1 p2 sl3 sl4 sl5 pn sl7 sl8 sl9 sl10 sl11 sl12 sl13 sl14 apl aix sl17 sl18 sl19 sl20 sl21 sl22 sl23 sl24)) rfl ?_
      refine XS.goto X34.here hx rfl (pc0 := 322) (pc' := 349) rfl (hb hby at_322) (by decide) (by decide) ?_
      refine XS.aload X34.here hx rfl (hb hby at_349) rfl rfl ?_
      refine XS.iload X34.here hx rfl (hb hby at_351) rfl ?_
      exact k
    obtain ⟨cq36, kq36, q36a, q36b, q36c⟩ := isOf hZ e34 Ex_34
    obtain ⟨_, _, ⟨T36, L36, k36, n36⟩, -, X36, ⟨Lc36, hQ36, l36, y36, z36⟩, st36⟩ := X34.virtualBack hx (y := (⟨"com/example/coho/coho/eventlog/SegmentIndex", "placeAfter", "(I)J"⟩ : MethodName)) (z := (⟨"com/example/coho/coho/eventlog/SegmentIndex", "placeAfter", "(I)J"⟩ : MethodName)) hown (mvT hZ (own_w hw 35 rfl)) (mvT hZ (own_w hw 36 rfl)) (notFace_of_selects (args := #[]) (mvT hZ (own_w hw 38 rfl))) (mvT hZ (own_w hw 38 rfl)) (mvT hZ (own_w hw 37 rfl)) (by decide) (backOf (W := 0) (rm4_0_3 l Z a0 hw [] aix app kpp pn qe (0 : Int32) (2 : Int32) (3 : Int32) (0 : Int32) h34 n0 Zs34 Fentries_34 Fcount_34 Fend_34 Fplaces_34 Vpp_34) hZ (own_w hw 39 rfl) (own_w hw 5 rfl) (by decide) (by decide)) q36a q36c (g := (mkF m 353 (own_l45 sl0 sl1 p2 sl3 sl4 sl5 pn sl7 sl8 sl9 sl10 sl11 sl12 sl13 sl14 apl aix sl17 sl18 sl19 sl20 sl21 sl22 sl23 sl24) [(.int (0 : Int32)), (.ref aix)])) rfl (by rw [hml]; rfl) (Steps.refl _) (argsL := [(.int (0 : Int32))]) (rest := []) (lenOf own_pd0 rfl) rfl (by show 2 * 0 + _ ≤ _; exact Nat.le_of_eq rfl) (hb hby at_353) (fun _ _ => ⟨rfl, e34, (by decide : 5 + 0 ≤ _), (by decide : 23 + 0 ≤ _)⟩)
    dsimp only [Pt.U, Pt.locs, Pt.cells, Pt.slots] at X36 l36 y36 z36 st36 hQ36
    replace y36 : _ = 5 := y36
    replace z36 : _ = 23 := z36
    subst y36 z36
    obtain ⟨Nq36, rfl, eq36⟩ := hQ36
    have N36 := own_frl l36 N34 Nq36
    refine own_pre (fun t k => st36.trans k) ?_
    refine own_pre (A := (T36.setTop (mkF m 367 (own_l45 sl0 sl1 p2 sl3 sl4 sl5 pn sl7 sl8 sl9 sl10 sl11 sl12 sl13 sl14 apl aix sl17 sl18 sl19 sl20 sl21 sl22 sl23 sl24) [(.int (1 : Int32))]))) ?_ ?_
    · intro t k
      refine XS.lload X36.here hx rfl (hb hby at_356) rfl ?_
      refine XS.lcmp X36.here hx rfl (hb hby at_358) rfl ?_
      refine XS.ifNo X36.here hx rfl (hb hby at_359) rfl ((if0 _ _).trans (teq ((lw_eq ((2 : Int32).toInt64) (2 : Int64)).mpr (by decide : ((2 : Int32).toInt64) = (2 : Int64)))).2) ?_
      refine XS.iconst X36.here hx rfl (hb hby at_362) ?_
      refine XS.goto X36.here hx rfl (pc0 := 363) (pc' := 367) rfl (hb hby at_363) (by decide) (by decide) ?_
      exact k
    obtain ⟨fs, hr, hrun, hended, hW, hsame⟩ := X36.leave (hlocks := hlk) (v := some (.int (1 : Int32))) (fun h => by rw [hret] at h; cases h)
    refine ⟨_, _, retOut X36 hx hret rfl (Or.inl ⟨rfl, Or.inr (Or.inl rfl), _, rfl⟩) (hb hby at_367) hr, hrun, hended, _, _, rfl, ?_, ⟨_, rfl⟩, hW, hsame.mono (by decide) (by decide)⟩
    show own_Q0 h0 n0 _ T36.heap _
    rw [eq36]
    exact ⟨rfl, N36⟩
  · skip
    refine own_pre (A := (T34.setTop (mkF m 353 (own_l48 sl0 sl1 p2 sl3 sl4 sl5 pn sl7 sl8 sl9 sl10 sl11 sl12 sl13 sl14 apl aix sl17 sl18 sl19 sl20 sl21 sl22 sl23 sl24) [(.int (1 : Int32)), (.ref aix)]))) ?_ ?_
    · intro t k
      refine XS.aload X34.here hx rfl (hb hby at_282) rfl rfl ?_
      refine XS.iload X34.here hx rfl (hb hby at_284) rfl ?_
      show Steps p.tables e below (T34.setTop (mkF m 286 (own_l46 sl0 sl1 p2 sl3 sl4 sl5 pn sl7 sl8 sl9 sl10 sl11 sl12 sl13 sl14 apl aix sl17 sl18 sl19 sl20 sl21 sl22 sl23 sl24) [(.int (1 : Int32)), (.ref apl)])) _
      obtain ⟨cl40, Ar40, q40, S40, N40, H40, G40⟩ := id V34
      have hin40 : ¬ ((1 : Int32) < 0 ∨ cl40.slots.size ≤ ((1 : Int32)).toNatClampNeg) := inb_of S40 ⟨by decide, by decide⟩
      refine X34.iaload hx (j := (1 : Int32)) (v := (.int (2 : Int32))) (by rw [e34]; exact Ar40.1) (State.isArrayOf_alike hZ.alike Ar40.2.1) Ar40.2.2 hin40 (H40.at hin40 rfl) (g := (mkF m 286 (own_l46 sl0 sl1 p2 sl3 sl4 sl5 pn sl7 sl8 sl9 sl10 sl11 sl12 sl13 sl14 apl aix sl17 sl18 sl19 sl20 sl21 sl22 sl23 sl24) [(.int (1 : Int32)), (.ref apl)])) rfl rfl (hb hby at_286) _ ?_
      refine XS.istore X34.here hx rfl (hb hby at_287) rfl (l' := (own_l47 sl0 sl1 p2 sl3 sl4 sl5 pn sl7 sl8 sl9 sl10 sl11 sl12 sl13 sl14 apl aix sl17 sl18 sl19 sl20 sl21 sl22 sl23 sl24)) rfl ?_
      refine XS.iload X34.here hx rfl (hb hby at_289) rfl ?_
      refine XS.iconst X34.here hx rfl (hb hby at_291) ?_
      refine XS.icmpYes X34.here hx rfl (pc0 := 292) (pc' := 306) rfl (hb hby at_292) rfl (flt (by decide : ¬ ((2 : Int32) < (1 : Int32)))).2.1 (by decide) (by decide) ?_
      refine XS.iload X34.here hx rfl (hb hby at_306) rfl ?_
      refine XS.iconst X34.here hx rfl (hb hby at_308) ?_
      refine XS.icmpYes X34.here hx rfl (pc0 := 309) (pc' := 325) rfl (hb hby at_309) rfl (flt (by decide : ¬ ((2 : Int32) < (2 : Int32)))).2.1 (by decide) (by decide) ?_
      refine XS.iload X34.here hx rfl (hb hby at_325) rfl ?_
      refine XS.iconst X34.here hx rfl (hb hby at_327) ?_
      refine XS.icmpNo X34.here hx rfl (hb hby at_328) rfl (tlt (by decide : (2 : Int32) < (3 : Int32))).2.1 ?_
      refine XS.iload X34.here hx rfl (hb hby at_331) rfl ?_
      refine XS.ifNo X34.here hx rfl (hb hby at_333) rfl ((if0 _ _).trans (feq (by decide : ¬ ((1 : Int32) = (0 : Int32)))).1) ?_
      show Steps p.tables e below (T34.setTop (mkF m 336 (own_l47 sl0 sl1 p2 sl3 sl4 sl5 pn sl7 sl8 sl9 sl10 sl11 sl12 sl13 sl14 apl aix sl17 sl18 sl19 sl20 sl21 sl22 sl23 sl24) [])) _
      refine X34.ldc2Long hx hown (mvT hZ (own_w hw 40 rfl)) (g := (mkF m 336 (own_l47 sl0 sl1 p2 sl3 sl4 sl5 pn sl7 sl8 sl9 sl10 sl11 sl12 sl13 sl14 apl aix sl17 sl18 sl19 sl20 sl21 sl22 sl23 sl24) [])) rfl (hb hby at_336) _ ?_
      refine XS.lstore X34.here hx rfl (hb hby at_339) rfl (l' := (own_l48 sl0 sl1 p2 sl3 sl4 sl5 pn sl7 sl8 sl9 sl10 sl11 sl12 sl13 sl14 apl aix sl17 sl18 sl19 sl20 sl21 sl22 sl23 sl24)) rfl ?_
      refine XS.goto X34.here hx rfl (pc0 := 341) (pc' := 349) rfl (hb hby at_341) (by decide) (by decide) ?_
      refine XS.aload X34.here hx rfl (hb hby at_349) rfl rfl ?_
      refine XS.iload X34.here hx rfl (hb hby at_351) rfl ?_
      exact k
    obtain ⟨cq41, kq41, q41a, q41b, q41c⟩ := isOf hZ e34 Ex_34
    obtain ⟨_, _, ⟨T41, L41, k41, n41⟩, -, X41, ⟨Lc41, hQ41, l41, y41, z41⟩, st41⟩ := X34.virtualBack hx (y := (⟨"com/example/coho/coho/eventlog/SegmentIndex", "placeAfter", "(I)J"⟩ : MethodName)) (z := (⟨"com/example/coho/coho/eventlog/SegmentIndex", "placeAfter", "(I)J"⟩ : MethodName)) hown (mvT hZ (own_w hw 35 rfl)) (mvT hZ (own_w hw 36 rfl)) (notFace_of_selects (args := #[]) (mvT hZ (own_w hw 38 rfl))) (mvT hZ (own_w hw 38 rfl)) (mvT hZ (own_w hw 37 rfl)) (by decide) (backOf (W := 0) (rm4_1_3 l Z a0 hw [] aix app kpp pn qe (0 : Int32) (2 : Int32) (3 : Int32) (0 : Int32) h34 n0 Zs34 Fentries_34 Fcount_34 Fend_34 Fplaces_34 Vpp_34) hZ (own_w hw 39 rfl) (own_w hw 5 rfl) (by decide) (by decide)) q41a q41c (g := (mkF m 353 (own_l48 sl0 sl1 p2 sl3 sl4 sl5 pn sl7 sl8 sl9 sl10 sl11 sl12 sl13 sl14 apl aix sl17 sl18 sl19 sl20 sl21 sl22 sl23 sl24) [(.int (1 : Int32)), (.ref aix)])) rfl (by rw [hml]; rfl) (Steps.refl _) (argsL := [(.int (1 : Int32))]) (rest := []) (lenOf own_pd0 rfl) rfl (by show 2 * 0 + _ ≤ _; exact Nat.le_of_eq rfl) (hb hby at_353) (fun _ _ => ⟨rfl, e34, (by decide : 5 + 0 ≤ _), (by decide : 23 + 0 ≤ _)⟩)
    dsimp only [Pt.U, Pt.locs, Pt.cells, Pt.slots] at X41 l41 y41 z41 st41 hQ41
    replace y41 : _ = 5 := y41
    replace z41 : _ = 23 := z41
    subst y41 z41
    obtain ⟨Nq41, rfl, eq41⟩ := hQ41
    have N41 := own_frl l41 N34 Nq41
    refine own_pre (fun t k => st41.trans k) ?_
    refine own_pre (A := (T41.setTop (mkF m 367 (own_l48 sl0 sl1 p2 sl3 sl4 sl5 pn sl7 sl8 sl9 sl10 sl11 sl12 sl13 sl14 apl aix sl17 sl18 sl19 sl20 sl21 sl22 sl23 sl24) [(.int (1 : Int32))]))) ?_ ?_
    · intro t k
      refine XS.lload X41.here hx rfl (hb hby at_356) rfl ?_
      refine XS.lcmp X41.here hx rfl (hb hby at_358) rfl ?_
      refine XS.ifNo X41.here hx rfl (hb hby at_359) rfl ((if0 _ _).trans (teq ((lw_eq ((3 : Int32).toInt64) (3 : Int64)).mpr (by decide : ((3 : Int32).toInt64) = (3 : Int64)))).2) ?_
      refine XS.iconst X41.here hx rfl (hb hby at_362) ?_
      refine XS.goto X41.here hx rfl (pc0 := 363) (pc' := 367) rfl (hb hby at_363) (by decide) (by decide) ?_
      exact k
    obtain ⟨fs, hr, hrun, hended, hW, hsame⟩ := X41.leave (hlocks := hlk) (v := some (.int (1 : Int32))) (fun h => by rw [hret] at h; cases h)
    refine ⟨_, _, retOut X41 hx hret rfl (Or.inl ⟨rfl, Or.inr (Or.inl rfl), _, rfl⟩) (hb hby at_367) hr, hrun, hended, _, _, rfl, ?_, ⟨_, rfl⟩, hW, hsame.mono (by decide) (by decide)⟩
    show own_Q0 h0 n0 _ T41.heap _
    rw [eq41]
    exact ⟨rfl, N41⟩
  · skip
    refine own_pre (A := (T34.setTop (mkF m 353 (own_l51 sl0 sl1 p2 sl3 sl4 sl5 pn sl7 sl8 sl9 sl10 sl11 sl12 sl13 sl14 apl aix sl17 sl18 sl19 sl20 sl21 sl22 sl23 sl24) [(.int (2 : Int32)), (.ref aix)]))) ?_ ?_
    · intro t k
      refine XS.aload X34.here hx rfl (hb hby at_282) rfl rfl ?_
      refine XS.iload X34.here hx rfl (hb hby at_284) rfl ?_
      show Steps p.tables e below (T34.setTop (mkF m 286 (own_l49 sl0 sl1 p2 sl3 sl4 sl5 pn sl7 sl8 sl9 sl10 sl11 sl12 sl13 sl14 apl aix sl17 sl18 sl19 sl20 sl21 sl22 sl23 sl24) [(.int (2 : Int32)), (.ref apl)])) _
      obtain ⟨cl45, Ar45, q45, S45, N45, H45, G45⟩ := id V34
      have hin45 : ¬ ((2 : Int32) < 0 ∨ cl45.slots.size ≤ ((2 : Int32)).toNatClampNeg) := inb_of S45 ⟨by decide, by decide⟩
      refine X34.iaload hx (j := (2 : Int32)) (v := (.int (3 : Int32))) (by rw [e34]; exact Ar45.1) (State.isArrayOf_alike hZ.alike Ar45.2.1) Ar45.2.2 hin45 (H45.at hin45 rfl) (g := (mkF m 286 (own_l49 sl0 sl1 p2 sl3 sl4 sl5 pn sl7 sl8 sl9 sl10 sl11 sl12 sl13 sl14 apl aix sl17 sl18 sl19 sl20 sl21 sl22 sl23 sl24) [(.int (2 : Int32)), (.ref apl)])) rfl rfl (hb hby at_286) _ ?_
      refine XS.istore X34.here hx rfl (hb hby at_287) rfl (l' := (own_l50 sl0 sl1 p2 sl3 sl4 sl5 pn sl7 sl8 sl9 sl10 sl11 sl12 sl13 sl14 apl aix sl17 sl18 sl19 sl20 sl21 sl22 sl23 sl24)) rfl ?_
      refine XS.iload X34.here hx rfl (hb hby at_289) rfl ?_
      refine XS.iconst X34.here hx rfl (hb hby at_291) ?_
      refine XS.icmpYes X34.here hx rfl (pc0 := 292) (pc' := 306) rfl (hb hby at_292) rfl (flt (by decide : ¬ ((3 : Int32) < (1 : Int32)))).2.1 (by decide) (by decide) ?_
      refine XS.iload X34.here hx rfl (hb hby at_306) rfl ?_
      refine XS.iconst X34.here hx rfl (hb hby at_308) ?_
      refine XS.icmpYes X34.here hx rfl (pc0 := 309) (pc' := 325) rfl (hb hby at_309) rfl (flt (by decide : ¬ ((3 : Int32) < (2 : Int32)))).2.1 (by decide) (by decide) ?_
      refine XS.iload X34.here hx rfl (hb hby at_325) rfl ?_
      refine XS.iconst X34.here hx rfl (hb hby at_327) ?_
      refine XS.icmpYes X34.here hx rfl (pc0 := 328) (pc' := 344) rfl (hb hby at_328) rfl (flt (by decide : ¬ ((3 : Int32) < (3 : Int32)))).2.1 (by decide) (by decide) ?_
      refine XS.iload X34.here hx rfl (hb hby at_344) rfl ?_
      refine XS.i2l X34.here hx rfl (hb hby at_346) rfl ?_
      refine XS.lstore X34.here hx rfl (hb hby at_347) rfl (l' := (own_l51 sl0 sl1 p2 sl3 sl4 sl5 pn sl7 sl8 sl9 sl10 sl11 sl12 sl13 sl14 apl aix sl17 sl18 sl19 sl20 sl21 sl22 sl23 sl24)) rfl ?_
      refine XS.aload X34.here hx rfl (hb hby at_349) rfl rfl ?_
      refine XS.iload X34.here hx rfl (hb hby at_351) rfl ?_
      exact k
    obtain ⟨cq46, kq46, q46a, q46b, q46c⟩ := isOf hZ e34 Ex_34
    obtain ⟨_, _, ⟨T46, L46, k46, n46⟩, -, X46, ⟨Lc46, hQ46, l46, y46, z46⟩, st46⟩ := X34.virtualBack hx (y := (⟨"com/example/coho/coho/eventlog/SegmentIndex", "placeAfter", "(I)J"⟩ : MethodName)) (z := (⟨"com/example/coho/coho/eventlog/SegmentIndex", "placeAfter", "(I)J"⟩ : MethodName)) hown (mvT hZ (own_w hw 35 rfl)) (mvT hZ (own_w hw 36 rfl)) (notFace_of_selects (args := #[]) (mvT hZ (own_w hw 38 rfl))) (mvT hZ (own_w hw 38 rfl)) (mvT hZ (own_w hw 37 rfl)) (by decide) (backOf (W := 0) (rm4_2_3 l Z a0 hw [] aix app kpp pn qe (0 : Int32) (2 : Int32) (3 : Int32) (0 : Int32) h34 n0 Zs34 Fentries_34 Fcount_34 Fend_34 Fplaces_34 Vpp_34) hZ (own_w hw 39 rfl) (own_w hw 5 rfl) (by decide) (by decide)) q46a q46c (g := (mkF m 353 (own_l51 sl0 sl1 p2 sl3 sl4 sl5 pn sl7 sl8 sl9 sl10 sl11 sl12 sl13 sl14 apl aix sl17 sl18 sl19 sl20 sl21 sl22 sl23 sl24) [(.int (2 : Int32)), (.ref aix)])) rfl (by rw [hml]; rfl) (Steps.refl _) (argsL := [(.int (2 : Int32))]) (rest := []) (lenOf own_pd0 rfl) rfl (by show 2 * 0 + _ ≤ _; exact Nat.le_of_eq rfl) (hb hby at_353) (fun _ _ => ⟨rfl, e34, (by decide : 5 + 0 ≤ _), (by decide : 23 + 0 ≤ _)⟩)
    dsimp only [Pt.U, Pt.locs, Pt.cells, Pt.slots] at X46 l46 y46 z46 st46 hQ46
    replace y46 : _ = 5 := y46
    replace z46 : _ = 23 := z46
    subst y46 z46
    obtain ⟨Nq46, rfl, eq46⟩ := hQ46
    have N46 := own_frl l46 N34 Nq46
    refine own_pre (fun t k => st46.trans k) ?_
    refine own_pre (A := (T46.setTop (mkF m 367 (own_l51 sl0 sl1 p2 sl3 sl4 sl5 pn sl7 sl8 sl9 sl10 sl11 sl12 sl13 sl14 apl aix sl17 sl18 sl19 sl20 sl21 sl22 sl23 sl24) [(.int (1 : Int32))]))) ?_ ?_
    · intro t k
      refine XS.lload X46.here hx rfl (hb hby at_356) rfl ?_
      refine XS.lcmp X46.here hx rfl (hb hby at_358) rfl ?_
      refine XS.ifNo X46.here hx rfl (hb hby at_359) rfl ((if0 _ _).trans (teq ((lw_eq (pn.toInt64) (pn.toInt64)).mpr (rfl : (pn.toInt64) = (pn.toInt64)))).2) ?_
      refine XS.iconst X46.here hx rfl (hb hby at_362) ?_
      refine XS.goto X46.here hx rfl (pc0 := 363) (pc' := 367) rfl (hb hby at_363) (by decide) (by decide) ?_
      exact k
    obtain ⟨fs, hr, hrun, hended, hW, hsame⟩ := X46.leave (hlocks := hlk) (v := some (.int (1 : Int32))) (fun h => by rw [hret] at h; cases h)
    refine ⟨_, _, retOut X46 hx hret rfl (Or.inl ⟨rfl, Or.inr (Or.inl rfl), _, rfl⟩) (hb hby at_367) hr, hrun, hended, _, _, rfl, ?_, ⟨_, rfl⟩, hW, hsame.mono (by decide) (by decide)⟩
    show own_Q0 h0 n0 _ T46.heap _
    rw [eq46]
    exact ⟨rfl, N46⟩
abbrev own_l52 (x0 : Slot) (x1 : Slot) (x2 : Int32) (x3 : Slot) (x4 : Slot) (x5 : Slot) (x6 : Int32) (x7 : Slot) (x8 : Slot) (x9 : Slot) (x10 : Slot) (x11 : Slot) (x12 : Slot) (x13 : Slot) (x14 : Slot) (x15 : Addr) (x16 : Addr) (x17 : Slot) (x18 : Slot) (x19 : Slot) (x20 : Slot) (x21 : Slot) (x22 : Slot) (x23 : Slot) (x24 : Slot) : Array Slot := #[x0, x1, .val (.int x2), x3, x4, x5, .val (.int x6), x7, x8, x9, x10, x11, x12, x13, x14, .val (.ref x15), .val (.ref x16), x17, x18, x19, x20, x21, x22, x23, x24, .val (.int (1 : Int32)), .val (.int (0 : Int32)), .val (.int (0 : Int32)), .unset, .unset, .unset, .unset, .unset]
abbrev own_l53 (x0 : Slot) (x1 : Slot) (x2 : Int32) (x3 : Slot) (x4 : Slot) (x5 : Slot) (x6 : Int32) (x7 : Slot) (x8 : Slot) (x9 : Slot) (x10 : Slot) (x11 : Slot) (x12 : Slot) (x13 : Slot) (x14 : Slot) (x15 : Addr) (x16 : Addr) (x17 : Slot) (x18 : Slot) (x19 : Slot) (x20 : Slot) (x21 : Slot) (x22 : Slot) (x23 : Slot) (x24 : Slot) : Array Slot := #[x0, x1, .val (.int x2), x3, x4, x5, .val (.int x6), x7, x8, x9, x10, x11, x12, x13, x14, .val (.ref x15), .val (.ref x16), x17, x18, x19, x20, x21, x22, x23, x24, .val (.int (1 : Int32)), .val (.int (0 : Int32)), .val (.int (0 : Int32)), .val (.int (0 : Int32)), .unset, .unset, .unset, .unset]
abbrev own_l54 (x0 : Slot) (x1 : Slot) (x2 : Int32) (x3 : Slot) (x4 : Slot) (x5 : Slot) (x6 : Int32) (x7 : Slot) (x8 : Slot) (x9 : Slot) (x10 : Slot) (x11 : Slot) (x12 : Slot) (x13 : Slot) (x14 : Slot) (x15 : Addr) (x16 : Addr) (x17 : Slot) (x18 : Slot) (x19 : Slot) (x20 : Slot) (x21 : Slot) (x22 : Slot) (x23 : Slot) (x24 : Slot) : Array Slot := #[x0, x1, .val (.int x2), x3, x4, x5, .val (.int x6), x7, x8, x9, x10, x11, x12, x13, x14, .val (.ref x15), .val (.ref x16), x17, x18, x19, x20, x21, x22, x23, x24, .val (.int (1 : Int32)), .val (.int (0 : Int32)), .val (.int (0 : Int32)), .val (.int ((0 : Int32) + (1 : Int32))), .unset, .unset, .unset, .unset]
abbrev own_l55 (x0 : Slot) (x1 : Slot) (x2 : Int32) (x3 : Slot) (x4 : Slot) (x5 : Slot) (x6 : Int32) (x7 : Slot) (x8 : Slot) (x9 : Slot) (x10 : Slot) (x11 : Slot) (x12 : Slot) (x13 : Slot) (x14 : Slot) (x15 : Addr) (x16 : Addr) (x17 : Slot) (x18 : Slot) (x19 : Slot) (x20 : Slot) (x21 : Slot) (x22 : Slot) (x23 : Slot) (x24 : Slot) : Array Slot := #[x0, x1, .val (.int x2), x3, x4, x5, .val (.int x6), x7, x8, x9, x10, x11, x12, x13, x14, .val (.ref x15), .val (.ref x16), x17, x18, x19, x20, x21, x22, x23, x24, .val (.int (1 : Int32)), .val (.int (0 : Int32)), .val (.int (0 : Int32)), .val (.int (1 : Int32)), .unset, .unset, .unset, .unset]
abbrev own_l56 (x0 : Slot) (x1 : Slot) (x2 : Int32) (x3 : Slot) (x4 : Slot) (x5 : Slot) (x6 : Int32) (x7 : Slot) (x8 : Slot) (x9 : Slot) (x10 : Slot) (x11 : Slot) (x12 : Slot) (x13 : Slot) (x14 : Slot) (x15 : Addr) (x16 : Addr) (x17 : Slot) (x18 : Slot) (x19 : Slot) (x20 : Slot) (x21 : Slot) (x22 : Slot) (x23 : Slot) (x24 : Slot) : Array Slot := #[x0, x1, .val (.int x2), x3, x4, x5, .val (.int x6), x7, x8, x9, x10, x11, x12, x13, x14, .val (.ref x15), .val (.ref x16), x17, x18, x19, x20, x21, x22, x23, x24, .val (.int (1 : Int32)), .val (.int (0 : Int32)), .val (.int (0 : Int32)), .val (.int ((1 : Int32) + (1 : Int32))), .unset, .unset, .unset, .unset]
abbrev own_l57 (x0 : Slot) (x1 : Slot) (x2 : Int32) (x3 : Slot) (x4 : Slot) (x5 : Slot) (x6 : Int32) (x7 : Slot) (x8 : Slot) (x9 : Slot) (x10 : Slot) (x11 : Slot) (x12 : Slot) (x13 : Slot) (x14 : Slot) (x15 : Addr) (x16 : Addr) (x17 : Slot) (x18 : Slot) (x19 : Slot) (x20 : Slot) (x21 : Slot) (x22 : Slot) (x23 : Slot) (x24 : Slot) : Array Slot := #[x0, x1, .val (.int x2), x3, x4, x5, .val (.int x6), x7, x8, x9, x10, x11, x12, x13, x14, .val (.ref x15), .val (.ref x16), x17, x18, x19, x20, x21, x22, x23, x24, .val (.int (1 : Int32)), .val (.int (0 : Int32)), .val (.int (0 : Int32)), .val (.int (2 : Int32)), .unset, .unset, .unset, .unset]
abbrev own_l58 (x0 : Slot) (x1 : Slot) (x2 : Int32) (x3 : Slot) (x4 : Slot) (x5 : Slot) (x6 : Int32) (x7 : Slot) (x8 : Slot) (x9 : Slot) (x10 : Slot) (x11 : Slot) (x12 : Slot) (x13 : Slot) (x14 : Slot) (x15 : Addr) (x16 : Addr) (x17 : Slot) (x18 : Slot) (x19 : Slot) (x20 : Slot) (x21 : Slot) (x22 : Slot) (x23 : Slot) (x24 : Slot) : Array Slot := #[x0, x1, .val (.int x2), x3, x4, x5, .val (.int x6), x7, x8, x9, x10, x11, x12, x13, x14, .val (.ref x15), .val (.ref x16), x17, x18, x19, x20, x21, x22, x23, x24, .val (.int (1 : Int32)), .val (.int (0 : Int32)), .val (.int (0 : Int32)), .val (.int (2 : Int32)), .val (.int ((((x2.toUInt32 >>> ((2 : Int32) &&& 31).toUInt32).toInt32) &&& (3 : Int32)) % (2 : Int32))), .unset, .unset, .unset]
abbrev own_l59 (x0 : Slot) (x1 : Slot) (x2 : Int32) (x3 : Slot) (x4 : Slot) (x5 : Slot) (x6 : Int32) (x7 : Slot) (x8 : Slot) (x9 : Slot) (x10 : Slot) (x11 : Slot) (x12 : Slot) (x13 : Slot) (x14 : Slot) (x15 : Addr) (x16 : Addr) (x17 : Slot) (x18 : Slot) (x19 : Slot) (x20 : Slot) (x21 : Slot) (x22 : Slot) (x23 : Slot) (x24 : Slot) : Array Slot := #[x0, x1, .val (.int x2), x3, x4, x5, .val (.int x6), x7, x8, x9, x10, x11, x12, x13, x14, .val (.ref x15), .val (.ref x16), x17, x18, x19, x20, x21, x22, x23, x24, .val (.int (1 : Int32)), .val (.int (0 : Int32)), .val (.int (0 : Int32)), .val (.int (2 : Int32)), .val (.int (0 : Int32)), .unset, .unset, .unset]
abbrev own_l60 (x0 : Slot) (x1 : Slot) (x2 : Int32) (x3 : Slot) (x4 : Slot) (x5 : Slot) (x6 : Int32) (x7 : Slot) (x8 : Slot) (x9 : Slot) (x10 : Slot) (x11 : Slot) (x12 : Slot) (x13 : Slot) (x14 : Slot) (x15 : Addr) (x16 : Addr) (x17 : Slot) (x18 : Slot) (x19 : Slot) (x20 : Slot) (x21 : Slot) (x22 : Slot) (x23 : Slot) (x24 : Slot) : Array Slot := #[x0, x1, .val (.int x2), x3, x4, x5, .val (.int x6), x7, x8, x9, x10, x11, x12, x13, x14, .val (.ref x15), .val (.ref x16), x17, x18, x19, x20, x21, x22, x23, x24, .val (.int (1 : Int32)), .val (.int (0 : Int32)), .val (.int (0 : Int32)), .val (.int (2 : Int32)), .val (.int (0 : Int32)), .val (.int (0 : Int32)), .unset, .unset]
abbrev own_l61 (x0 : Slot) (x1 : Slot) (x2 : Int32) (x3 : Slot) (x4 : Slot) (x5 : Slot) (x6 : Int32) (x7 : Slot) (x8 : Slot) (x9 : Slot) (x10 : Slot) (x11 : Slot) (x12 : Slot) (x13 : Slot) (x14 : Slot) (x15 : Addr) (x16 : Addr) (x17 : Slot) (x18 : Slot) (x19 : Slot) (x20 : Slot) (x21 : Slot) (x22 : Slot) (x23 : Slot) (x24 : Slot) : Array Slot := #[x0, x1, .val (.int x2), x3, x4, x5, .val (.int x6), x7, x8, x9, x10, x11, x12, x13, x14, .val (.ref x15), .val (.ref x16), x17, x18, x19, x20, x21, x22, x23, x24, .val (.int (1 : Int32)), .val (.int (0 : Int32)), .val (.int (0 : Int32)), .val (.int (2 : Int32)), .val (.int (0 : Int32)), .val (.int (0 : Int32)), .val (.long (1 : Int64)), .second]
abbrev own_l62 (x0 : Slot) (x1 : Slot) (x2 : Int32) (x3 : Slot) (x4 : Slot) (x5 : Slot) (x6 : Int32) (x7 : Slot) (x8 : Slot) (x9 : Slot) (x10 : Slot) (x11 : Slot) (x12 : Slot) (x13 : Slot) (x14 : Slot) (x15 : Addr) (x16 : Addr) (x17 : Slot) (x18 : Slot) (x19 : Slot) (x20 : Slot) (x21 : Slot) (x22 : Slot) (x23 : Slot) (x24 : Slot) : Array Slot := #[x0, x1, .val (.int x2), x3, x4, x5, .val (.int x6), x7, x8, x9, x10, x11, x12, x13, x14, .val (.ref x15), .val (.ref x16), x17, x18, x19, x20, x21, x22, x23, x24, .val (.int (1 : Int32)), .val (.int (0 : Int32)), .val (.int (0 : Int32)), .val (.int (2 : Int32)), .val (.int (1 : Int32)), .unset, .unset, .unset]
abbrev own_l63 (x0 : Slot) (x1 : Slot) (x2 : Int32) (x3 : Slot) (x4 : Slot) (x5 : Slot) (x6 : Int32) (x7 : Slot) (x8 : Slot) (x9 : Slot) (x10 : Slot) (x11 : Slot) (x12 : Slot) (x13 : Slot) (x14 : Slot) (x15 : Addr) (x16 : Addr) (x17 : Slot) (x18 : Slot) (x19 : Slot) (x20 : Slot) (x21 : Slot) (x22 : Slot) (x23 : Slot) (x24 : Slot) : Array Slot := #[x0, x1, .val (.int x2), x3, x4, x5, .val (.int x6), x7, x8, x9, x10, x11, x12, x13, x14, .val (.ref x15), .val (.ref x16), x17, x18, x19, x20, x21, x22, x23, x24, .val (.int (1 : Int32)), .val (.int (0 : Int32)), .val (.int (0 : Int32)), .val (.int (2 : Int32)), .val (.int (1 : Int32)), .val (.int (1 : Int32)), .unset, .unset]
abbrev own_l64 (x0 : Slot) (x1 : Slot) (x2 : Int32) (x3 : Slot) (x4 : Slot) (x5 : Slot) (x6 : Int32) (x7 : Slot) (x8 : Slot) (x9 : Slot) (x10 : Slot) (x11 : Slot) (x12 : Slot) (x13 : Slot) (x14 : Slot) (x15 : Addr) (x16 : Addr) (x17 : Slot) (x18 : Slot) (x19 : Slot) (x20 : Slot) (x21 : Slot) (x22 : Slot) (x23 : Slot) (x24 : Slot) : Array Slot := #[x0, x1, .val (.int x2), x3, x4, x5, .val (.int x6), x7, x8, x9, x10, x11, x12, x13, x14, .val (.ref x15), .val (.ref x16), x17, x18, x19, x20, x21, x22, x23, x24, .val (.int (1 : Int32)), .val (.int (0 : Int32)), .val (.int (0 : Int32)), .val (.int (2 : Int32)), .val (.int (1 : Int32)), .val (.int (1 : Int32)), .val (.long (x6.toInt64)), .second]
set_option maxRecDepth 65536 in
set_option maxHeartbeats 40000000 in
theorem own_suf_100 {p : Program} {l : Launch} {e : Env} {s : State} {m : MethodId} {args : Array Value} {below : List Frame} {meth : Method} {c : Code} {T0 : State} {locs : List Loc} {Z : State} {a0 : Array Value} {h0 h1 : Heap} {n0 : Nat} {p2 pn : Int32} {qe : Int64} {apl aix app : Addr} {kpl kpp : ClassId} {sl0 sl1 sl3 sl4 sl5 sl7 sl8 sl9 sl10 sl11 sl12 sl13 sl14 sl17 sl18 sl19 sl20 sl21 sl22 sl23 sl24 : Slot} (X0 : Stand p l e room_1 s m args below meth c T0 locs 5 23) (hx : p.tables.exec = Jvm.exec) (hZ : Z.Warmed39 s.vm) (hw : ∀ d ∈ tables_1, d.before a0 Z = true) (hby : c.code = code) (hml : c.maxLocals = 33) (hown : s.vm.findClass "com/example/coho/coho/eventlog/SegmentIndexPlaceAfterPinLaw" = some m.cls) (hret : meth.sig.returnType = some .boolean) (hlk : meth.locks = false) (e0 : T0.heap = h1) (N0 : Fr n0 locs) (Zs0 : n0 ≤ h1.size) (K0 : Keep h0 h1 []) (Ex : Exa Z h1 aix "com/example/coho/coho/eventlog/SegmentIndex") (Fentries : Fld Z h1 aix "com/example/coho/coho/eventlog/SegmentIndex" "entries" "I" (.int (2 : Int32))) (Fcount : Fld Z h1 aix "com/example/coho/coho/eventlog/SegmentIndex" "count" "I" (.int pn)) (Fend : Fld Z h1 aix "com/example/coho/coho/eventlog/SegmentIndex" "end" "J" (.long qe)) (Fplaces : Fld Z h1 aix "com/example/coho/coho/eventlog/SegmentIndex" "places" "[I" (.ref app)) (Vpp : Arv Z h1 app kpp .int (4 : Int32) [(.int (0 : Int32)), (.int (1 : Int32)), (.int (0 : Int32)), (.int (0 : Int32))] (.int (0 : Int32))) (Vpl : Arv Z h1 apl kpl .int (4 : Int32) [(.int (0 : Int32)), (.int (0 : Int32)), (.int (0 : Int32)), (.int (0 : Int32))] (.int (0 : Int32))) (nix : aix ≠ apl) (npp : app ≠ apl) (gpl : n0 ≤ apl) (spl : h0.size ≤ apl) :
    ∃ s₂ o, Steps p.tables e below (T0.setTop (mkF m 218 (own_l52 sl0 sl1 p2 sl3 sl4 sl5 pn sl7 sl8 sl9 sl10 sl11 sl12 sl13 sl14 apl aix sl17 sl18 sl19 sl20 sl21 sl22 sl23 sl24) [])) s₂ ∧ s₂.status = .running ∧ Ended s₂ below o ∧ (∃ v L, o = .returned v ∧ own_Q0 h0 n0 v s₂.heap L ∧ FrameEnd s o s₂ L room_1.cells room_1.slots) := by
  refine own_pre (A := (T0.setTop (mkF m 226 (own_l53 sl0 sl1 p2 sl3 sl4 sl5 pn sl7 sl8 sl9 sl10 sl11 sl12 sl13 sl14 apl aix sl17 sl18 sl19 sl20 sl21 sl22 sl23 sl24) [(.int (0 : Int32)), (.int (0 : Int32)), (.ref apl)]))) ?_ ?_
  · intro t k
    refine XS.iconst X0.here hx rfl (hb hby at_218) ?_
    refine XS.istore X0.here hx rfl (hb hby at_219) rfl (l' := (own_l53 sl0 sl1 p2 sl3 sl4 sl5 pn sl7 sl8 sl9 sl10 sl11 sl12 sl13 sl14 apl aix sl17 sl18 sl19 sl20 sl21 sl22 sl23 sl24)) rfl ?_
    refine XS.aload X0.here hx rfl (hb hby at_221) rfl rfl ?_
    refine XS.iload X0.here hx rfl (hb hby at_223) rfl ?_
    refine XS.iconst X0.here hx rfl (hb hby at_225) ?_
    exact k
  obtain ⟨cl49, Ar49, q49, S49, N49, H49, G49⟩ := Vpl
  have hin49 : ¬ ((0 : Int32) < 0 ∨ cl49.slots.size ≤ ((0 : Int32)).toNatClampNeg) := inb_of S49 ⟨by decide, by decide⟩
  obtain ⟨T49, h49, X49, e49, W49, st49⟩ := stI X0 hx hZ e0 Ar49 (j := (0 : Int32)) hin49 (g := (mkF m 226 (own_l53 sl0 sl1 p2 sl3 sl4 sl5 pn sl7 sl8 sl9 sl10 sl11 sl12 sl13 sl14 apl aix sl17 sl18 sl19 sl20 sl21 sl22 sl23 sl24) [(.int (0 : Int32)), (.int (0 : Int32)), (.ref apl)])) rfl rfl (hb hby at_226)
  have V49 : Arv Z h49 apl kpl .int (4 : Int32) [(.int (0 : Int32)), (.int (0 : Int32)), (.int (0 : Int32)), (.int (0 : Int32))] (.int (0 : Int32)) := Arv.set Ar49 q49 S49 N49 H49 G49 rfl W49 0 rfl (Nat.le_of_ble_eq_true rfl)
  have Ex_49 := Ex.wr W49
  have Fentries_49 := Fentries.other W49 (Or.inl nix)
  have Fcount_49 := Fcount.other W49 (Or.inl nix)
  have Fend_49 := Fend.other W49 (Or.inl nix)
  have Fplaces_49 := Fplaces.other W49 (Or.inl nix)
  have Vpp_49 := Vpp.other W49 npp
  have Zs49 : n0 ≤ h49.size := Nat.le_trans Zs0 (Keep.of_wr W49).1
  have N49 := Fr.snoc X49 N0 gpl
  refine own_pre (fun t k => st49 t k) ?_
  refine own_pre (A := (T49.setTop (mkF m 240 (own_l55 sl0 sl1 p2 sl3 sl4 sl5 pn sl7 sl8 sl9 sl10 sl11 sl12 sl13 sl14 apl aix sl17 sl18 sl19 sl20 sl21 sl22 sl23 sl24) [(.int (1 : Int32)), (.int (1 : Int32)), (.ref apl)]))) ?_ ?_
  · intro t k
    refine XS.iinc X49.here hx rfl (hb hby at_227) rfl (l' := (own_l54 sl0 sl1 p2 sl3 sl4 sl5 pn sl7 sl8 sl9 sl10 sl11 sl12 sl13 sl14 apl aix sl17 sl18 sl19 sl20 sl21 sl22 sl23 sl24)) rfl ?_
    show Steps  p.tables e below (T49.setTop (mkF m 230 #[sl0, sl1, .val (.int p2), sl3, sl4, sl5, .val (.int pn), sl7, sl8, sl9, sl10, sl11, sl12, sl13, sl14, .val (.ref apl), .val (.ref aix), sl17, sl18, sl19, sl20, sl21, sl22, sl23, sl24, .val (.int (1 : Int32)), .val (.int (0 : Int32)), .val (.int (0 : Int32)), .val (.int ((0 : Int32) + (1 : Int32))), .unset, .unset, .unset, .unset] [])) _
    rw [show ((0 : Int32) + (1 : Int32)) = (1 : Int32) from by decide]
    refine XS.iload X49.here hx rfl (hb hby at_230) rfl ?_
    refine XS.ifNo X49.here hx rfl (hb hby at_232) rfl ((if0 _ _).trans (feq (by decide : ¬ ((1 : Int32) = (0 : Int32)))).1) ?_
    refine XS.aload X49.here hx rfl (hb hby at_235) rfl rfl ?_
    refine XS.iload X49.here hx rfl (hb hby at_237) rfl ?_
    refine XS.iconst X49.here hx rfl (hb hby at_239) ?_
    exact k
  obtain ⟨cl50, Ar50, q50, S50, N50, H50, G50⟩ := V49
  have hin50 : ¬ ((1 : Int32) < 0 ∨ cl50.slots.size ≤ ((1 : Int32)).toNatClampNeg) := inb_of S50 ⟨by decide, by decide⟩
  obtain ⟨T50, h50, X50, e50, W50, st50⟩ := stI X49 hx hZ e49 Ar50 (j := (1 : Int32)) hin50 (g := (mkF m 240 (own_l55 sl0 sl1 p2 sl3 sl4 sl5 pn sl7 sl8 sl9 sl10 sl11 sl12 sl13 sl14 apl aix sl17 sl18 sl19 sl20 sl21 sl22 sl23 sl24) [(.int (1 : Int32)), (.int (1 : Int32)), (.ref apl)])) rfl rfl (hb hby at_240)
  have V50 : Arv Z h50 apl kpl .int (4 : Int32) [(.int (0 : Int32)), (.int (1 : Int32)), (.int (0 : Int32)), (.int (0 : Int32))] (.int (0 : Int32)) := Arv.set Ar50 q50 S50 N50 H50 G50 rfl W50 1 rfl (Nat.le_of_ble_eq_true rfl)
  have Ex_50 := Ex_49.wr W50
  have Fentries_50 := Fentries_49.other W50 (Or.inl nix)
  have Fcount_50 := Fcount_49.other W50 (Or.inl nix)
  have Fend_50 := Fend_49.other W50 (Or.inl nix)
  have Fplaces_50 := Fplaces_49.other W50 (Or.inl nix)
  have Vpp_50 := Vpp_49.other W50 npp
  have Zs50 : n0 ≤ h50.size := Nat.le_trans Zs49 (Keep.of_wr W50).1
  have N50 := Fr.snoc X50 N49 gpl
  refine own_pre (fun t k => st50 t k) ?_
  refine own_pre (A := (T50.setTop (mkF m 282 (own_l58 sl0 sl1 p2 sl3 sl4 sl5 pn sl7 sl8 sl9 sl10 sl11 sl12 sl13 sl14 apl aix sl17 sl18 sl19 sl20 sl21 sl22 sl23 sl24) []))) ?_ ?_
  · intro t k
    refine XS.iinc X50.here hx rfl (hb hby at_241) rfl (l' := (own_l56 sl0 sl1 p2 sl3 sl4 sl5 pn sl7 sl8 sl9 sl10 sl11 sl12 sl13 sl14 apl aix sl17 sl18 sl19 sl20 sl21 sl22 sl23 sl24)) rfl ?_
    show Steps  p.tables e below (T50.setTop (mkF m 244 #[sl0, sl1, .val (.int p2), sl3, sl4, sl5, .val (.int pn), sl7, sl8, sl9, sl10, sl11, sl12, sl13, sl14, .val (.ref apl), .val (.ref aix), sl17, sl18, sl19, sl20, sl21, sl22, sl23, sl24, .val (.int (1 : Int32)), .val (.int (0 : Int32)), .val (.int (0 : Int32)), .val (.int ((1 : Int32) + (1 : Int32))), .unset, .unset, .unset, .unset] [])) _
    rw [show ((1 : Int32) + (1 : Int32)) = (2 : Int32) from by decide]
    refine XS.iload X50.here hx rfl (hb hby at_244) rfl ?_
    refine XS.ifYes X50.here hx rfl (pc0 := 246) (pc' := 258) rfl (hb hby at_246) rfl ((if0 _ _).trans (teq (by decide : (0 : Int32) = (0 : Int32))).1) (by decide) (by decide) ?_
    refine XS.iload X50.here hx rfl (hb hby at_258) rfl ?_
    refine XS.ifYes X50.here hx rfl (pc0 := 260) (pc' := 272) rfl (hb hby at_260) rfl ((if0 _ _).trans (teq (by decide : (0 : Int32) = (0 : Int32))).1) (by decide) (by decide) ?_
    refine XS.iloadN X50.here hx rfl (hb hby at_272) rfl ?_
    refine XS.iconst X50.here hx rfl (hb hby at_273) ?_
    refine XS.iushr X50.here hx rfl (hb hby at_274) rfl ?_
    refine XS.iconst X50.here hx rfl (hb hby at_275) ?_
    refine XS.iand X50.here hx rfl (hb hby at_276) rfl ?_
    refine XS.iload X50.here hx rfl (hb hby at_277) rfl ?_
    show Steps p.tables e below (T50.setTop (mkF m 279 (own_l57 sl0 sl1 p2 sl3 sl4 sl5 pn sl7 sl8 sl9 sl10 sl11 sl12 sl13 sl14 apl aix sl17 sl18 sl19 sl20 sl21 sl22 sl23 sl24) [(.int (2 : Int32)), (.int (((p2.toUInt32 >>> ((2 : Int32) &&& 31).toUInt32).toInt32) &&& (3 : Int32)))])) _
    refine iremM X50 hx rfl (hb hby at_279) rfl (by decide) ?_
    show Steps p.tables e below (T50.setTop (mkF m 280 (own_l57 sl0 sl1 p2 sl3 sl4 sl5 pn sl7 sl8 sl9 sl10 sl11 sl12 sl13 sl14 apl aix sl17 sl18 sl19 sl20 sl21 sl22 sl23 sl24) [(.int ((((p2.toUInt32 >>> ((2 : Int32) &&& 31).toUInt32).toInt32) &&& (3 : Int32)) % (2 : Int32)))])) _
    refine XS.istore X50.here hx rfl (hb hby at_280) rfl (l' := (own_l58 sl0 sl1 p2 sl3 sl4 sl5 pn sl7 sl8 sl9 sl10 sl11 sl12 sl13 sl14 apl aix sl17 sl18 sl19 sl20 sl21 sl22 sl23 sl24)) rfl ?_
    exact k
  obtain ⟨pe, hpe⟩ : ∃ z : Int32, z = ((((p2.toUInt32 >>> ((2 : Int32) &&& 31).toUInt32).toInt32) &&& (3 : Int32)) % (2 : Int32)) := ⟨_, rfl⟩
  show ∃ s₂ o, Steps p.tables e below (T50.setTop (mkF m 282 #[sl0, sl1, .val (.int p2), sl3, sl4, sl5, .val (.int pn), sl7, sl8, sl9, sl10, sl11, sl12, sl13, sl14, .val (.ref apl), .val (.ref aix), sl17, sl18, sl19, sl20, sl21, sl22, sl23, sl24, .val (.int (1 : Int32)), .val (.int (0 : Int32)), .val (.int (0 : Int32)), .val (.int (2 : Int32)), .val (.int ((((p2.toUInt32 >>> ((2 : Int32) &&& 31).toUInt32).toInt32) &&& (3 : Int32)) % (2 : Int32))), .unset, .unset, .unset] [])) s₂ ∧ _
  rw [← hpe]
  have he : pe = (0 : Int32) ∨ pe = (1 : Int32) := by rw [hpe]; exact own_e2 _
  clear hpe
  rcases he with rfl | rfl
  · skip
    refine own_pre (A := (T50.setTop (mkF m 353 (own_l61 sl0 sl1 p2 sl3 sl4 sl5 pn sl7 sl8 sl9 sl10 sl11 sl12 sl13 sl14 apl aix sl17 sl18 sl19 sl20 sl21 sl22 sl23 sl24) [(.int (0 : Int32)), (.ref aix)]))) ?_ ?_
    · intro t k
      refine XS.aload X50.here hx rfl (hb hby at_282) rfl rfl ?_
      refine XS.iload X50.here hx rfl (hb hby at_284) rfl ?_
      show Steps p.tables e below (T50.setTop (mkF m 286 (own_l59 sl0 sl1 p2 sl3 sl4 sl5 pn sl7 sl8 sl9 sl10 sl11 sl12 sl13 sl14 apl aix sl17 sl18 sl19 sl20 sl21 sl22 sl23 sl24) [(.int (0 : Int32)), (.ref apl)])) _
      obtain ⟨cl51, Ar51, q51, S51, N51, H51, G51⟩ := id V50
      have hin51 : ¬ ((0 : Int32) < 0 ∨ cl51.slots.size ≤ ((0 : Int32)).toNatClampNeg) := inb_of S51 ⟨by decide, by decide⟩
      refine X50.iaload hx (j := (0 : Int32)) (v := (.int (0 : Int32))) (by rw [e50]; exact Ar51.1) (State.isArrayOf_alike hZ.alike Ar51.2.1) Ar51.2.2 hin51 (H51.at hin51 rfl) (g := (mkF m 286 (own_l59 sl0 sl1 p2 sl3 sl4 sl5 pn sl7 sl8 sl9 sl10 sl11 sl12 sl13 sl14 apl aix sl17 sl18 sl19 sl20 sl21 sl22 sl23 sl24) [(.int (0 : Int32)), (.ref apl)])) rfl rfl (hb hby at_286) _ ?_
      refine XS.istore X50.here hx rfl (hb hby at_287) rfl (l' := (own_l60 sl0 sl1 p2 sl3 sl4 sl5 pn sl7 sl8 sl9 sl10 sl11 sl12 sl13 sl14 apl aix sl17 sl18 sl19 sl20 sl21 sl22 sl23 sl24)) rfl ?_
      refine XS.iload X50.here hx rfl (hb hby at_289) rfl ?_
      refine XS.iconst X50.here hx rfl (hb hby at_291) ?_
      refine XS.icmpNo X50.here hx rfl (hb hby at_292) rfl (tlt (by decide : (0 : Int32) < (1 : Int32))).2.1 ?_
      refine XS.iload X50.here hx rfl (hb hby at_295) rfl ?_
      refine XS.ifNo X50.here hx rfl (hb hby at_297) rfl ((if0 _ _).trans (feq (by decide : ¬ ((1 : Int32) = (0 : Int32)))).1) ?_
      refine XS.lconst X50.here hx rfl (hb hby at_300) ?_
      refine XS.lstore X50.here hx rfl (hb hby at_301) rfl (l' := (own_l61 sl0 sl1 p2 sl3 sl4 sl5 pn sl7 sl8 sl9 sl10 sl11 sl12 sl13 sl14 apl aix sl17 sl18 sl19 sl20 sl21 sl22 sl23 sl24)) rfl ?_
      refine XS.goto X50.here hx rfl (pc0 := 303) (pc' := 349) rfl (hb hby at_303) (by decide) (by decide) ?_
      refine XS.aload X50.here hx rfl (hb hby at_349) rfl rfl ?_
      refine XS.iload X50.here hx rfl (hb hby at_351) rfl ?_
      exact k
    obtain ⟨cq52, kq52, q52a, q52b, q52c⟩ := isOf hZ e50 Ex_50
    obtain ⟨_, _, ⟨T52, L52, k52, n52⟩, -, X52, ⟨Lc52, hQ52, l52, y52, z52⟩, st52⟩ := X50.virtualBack hx (y := (⟨"com/example/coho/coho/eventlog/SegmentIndex", "placeAfter", "(I)J"⟩ : MethodName)) (z := (⟨"com/example/coho/coho/eventlog/SegmentIndex", "placeAfter", "(I)J"⟩ : MethodName)) hown (mvT hZ (own_w hw 35 rfl)) (mvT hZ (own_w hw 36 rfl)) (notFace_of_selects (args := #[]) (mvT hZ (own_w hw 38 rfl))) (mvT hZ (own_w hw 38 rfl)) (mvT hZ (own_w hw 37 rfl)) (by decide) (backOf (W := 0) (rm4_0_2 l Z a0 hw [] aix app kpp pn qe (0 : Int32) (1 : Int32) (0 : Int32) (0 : Int32) h50 n0 Zs50 Fentries_50 Fcount_50 Fend_50 Fplaces_50 Vpp_50) hZ (own_w hw 39 rfl) (own_w hw 5 rfl) (by decide) (by decide)) q52a q52c (g := (mkF m 353 (own_l61 sl0 sl1 p2 sl3 sl4 sl5 pn sl7 sl8 sl9 sl10 sl11 sl12 sl13 sl14 apl aix sl17 sl18 sl19 sl20 sl21 sl22 sl23 sl24) [(.int (0 : Int32)), (.ref aix)])) rfl (by rw [hml]; rfl) (Steps.refl _) (argsL := [(.int (0 : Int32))]) (rest := []) (lenOf own_pd0 rfl) rfl (by show 2 * 0 + _ ≤ _; exact Nat.le_of_eq rfl) (hb hby at_353) (fun _ _ => ⟨rfl, e50, (by decide : 5 + 0 ≤ _), (by decide : 23 + 0 ≤ _)⟩)
    dsimp only [Pt.U, Pt.locs, Pt.cells, Pt.slots] at X52 l52 y52 z52 st52 hQ52
    replace y52 : _ = 5 := y52
    replace z52 : _ = 23 := z52
    subst y52 z52
    obtain ⟨Nq52, rfl, eq52⟩ := hQ52
    have N52 := own_frl l52 N50 Nq52
    refine own_pre (fun t k => st52.trans k) ?_
    refine own_pre (A := (T52.setTop (mkF m 367 (own_l61 sl0 sl1 p2 sl3 sl4 sl5 pn sl7 sl8 sl9 sl10 sl11 sl12 sl13 sl14 apl aix sl17 sl18 sl19 sl20 sl21 sl22 sl23 sl24) [(.int (1 : Int32))]))) ?_ ?_
    · intro t k
      refine XS.lload X52.here hx rfl (hb hby at_356) rfl ?_
      refine XS.lcmp X52.here hx rfl (hb hby at_358) rfl ?_
      refine XS.ifNo X52.here hx rfl (hb hby at_359) rfl ((if0 _ _).trans (teq ((lw_eq ((1 : Int32).toInt64) (1 : Int64)).mpr (by decide : ((1 : Int32).toInt64) = (1 : Int64)))).2) ?_
      refine XS.iconst X52.here hx rfl (hb hby at_362) ?_
      refine XS.goto X52.here hx rfl (pc0 := 363) (pc' := 367) rfl (hb hby at_363) (by decide) (by decide) ?_
      exact k
    obtain ⟨fs, hr, hrun, hended, hW, hsame⟩ := X52.leave (hlocks := hlk) (v := some (.int (1 : Int32))) (fun h => by rw [hret] at h; cases h)
    refine ⟨_, _, retOut X52 hx hret rfl (Or.inl ⟨rfl, Or.inr (Or.inl rfl), _, rfl⟩) (hb hby at_367) hr, hrun, hended, _, _, rfl, ?_, ⟨_, rfl⟩, hW, hsame.mono (by decide) (by decide)⟩
    show own_Q0 h0 n0 _ T52.heap _
    rw [eq52]
    exact ⟨rfl, N52⟩
  · skip
    refine own_pre (A := (T50.setTop (mkF m 353 (own_l64 sl0 sl1 p2 sl3 sl4 sl5 pn sl7 sl8 sl9 sl10 sl11 sl12 sl13 sl14 apl aix sl17 sl18 sl19 sl20 sl21 sl22 sl23 sl24) [(.int (1 : Int32)), (.ref aix)]))) ?_ ?_
    · intro t k
      refine XS.aload X50.here hx rfl (hb hby at_282) rfl rfl ?_
      refine XS.iload X50.here hx rfl (hb hby at_284) rfl ?_
      show Steps p.tables e below (T50.setTop (mkF m 286 (own_l62 sl0 sl1 p2 sl3 sl4 sl5 pn sl7 sl8 sl9 sl10 sl11 sl12 sl13 sl14 apl aix sl17 sl18 sl19 sl20 sl21 sl22 sl23 sl24) [(.int (1 : Int32)), (.ref apl)])) _
      obtain ⟨cl53, Ar53, q53, S53, N53, H53, G53⟩ := id V50
      have hin53 : ¬ ((1 : Int32) < 0 ∨ cl53.slots.size ≤ ((1 : Int32)).toNatClampNeg) := inb_of S53 ⟨by decide, by decide⟩
      refine X50.iaload hx (j := (1 : Int32)) (v := (.int (1 : Int32))) (by rw [e50]; exact Ar53.1) (State.isArrayOf_alike hZ.alike Ar53.2.1) Ar53.2.2 hin53 (H53.at hin53 rfl) (g := (mkF m 286 (own_l62 sl0 sl1 p2 sl3 sl4 sl5 pn sl7 sl8 sl9 sl10 sl11 sl12 sl13 sl14 apl aix sl17 sl18 sl19 sl20 sl21 sl22 sl23 sl24) [(.int (1 : Int32)), (.ref apl)])) rfl rfl (hb hby at_286) _ ?_
      refine XS.istore X50.here hx rfl (hb hby at_287) rfl (l' := (own_l63 sl0 sl1 p2 sl3 sl4 sl5 pn sl7 sl8 sl9 sl10 sl11 sl12 sl13 sl14 apl aix sl17 sl18 sl19 sl20 sl21 sl22 sl23 sl24)) rfl ?_
      refine XS.iload X50.here hx rfl (hb hby at_289) rfl ?_
      refine XS.iconst X50.here hx rfl (hb hby at_291) ?_
      refine XS.icmpYes X50.here hx rfl (pc0 := 292) (pc' := 306) rfl (hb hby at_292) rfl (flt (by decide : ¬ ((1 : Int32) < (1 : Int32)))).2.1 (by decide) (by decide) ?_
      refine XS.iload X50.here hx rfl (hb hby at_306) rfl ?_
      refine XS.iconst X50.here hx rfl (hb hby at_308) ?_
      refine XS.icmpNo X50.here hx rfl (hb hby at_309) rfl (tlt (by decide : (1 : Int32) < (2 : Int32))).2.1 ?_
      refine XS.iload X50.here hx rfl (hb hby at_312) rfl ?_
      refine XS.ifYes X50.here hx rfl (pc0 := 314) (pc' := 325) rfl (hb hby at_314) rfl ((if0 _ _).trans (teq (by decide : (0 : Int32) = (0 : Int32))).1) (by decide) (by decide) ?_
      refine XS.iload X50.here hx rfl (hb hby at_325) rfl ?_
      refine XS.iconst X50.here hx rfl (hb hby at_327) ?_
      refine XS.icmpNo X50.here hx rfl (hb hby at_328) rfl (tlt (by decide : (1 : Int32) < (3 : Int32))).2.1 ?_
      refine XS.iload X50.here hx rfl (hb hby at_331) rfl ?_
      refine XS.ifYes X50.here hx rfl (pc0 := 333) (pc' := 344) rfl (hb hby at_333) rfl ((if0 _ _).trans (teq (by decide : (0 : Int32) = (0 : Int32))).1) (by decide) (by decide) ?_
      refine XS.iload X50.here hx rfl (hb hby at_344) rfl ?_
      refine XS.i2l X50.here hx rfl (hb hby at_346) rfl ?_
      refine XS.lstore X50.here hx rfl (hb hby at_347) rfl (l' := (own_l64 sl0 sl1 p2 sl3 sl4 sl5 pn sl7 sl8 sl9 sl10 sl11 sl12 sl13 sl14 apl aix sl17 sl18 sl19 sl20 sl21 sl22 sl23 sl24)) rfl ?_
      refine XS.aload X50.here hx rfl (hb hby at_349) rfl rfl ?_
      refine XS.iload X50.here hx rfl (hb hby at_351) rfl ?_
      exact k
    obtain ⟨cq54, kq54, q54a, q54b, q54c⟩ := isOf hZ e50 Ex_50
    obtain ⟨_, _, ⟨T54, L54, k54, n54⟩, -, X54, ⟨Lc54, hQ54, l54, y54, z54⟩, st54⟩ := X50.virtualBack hx (y := (⟨"com/example/coho/coho/eventlog/SegmentIndex", "placeAfter", "(I)J"⟩ : MethodName)) (z := (⟨"com/example/coho/coho/eventlog/SegmentIndex", "placeAfter", "(I)J"⟩ : MethodName)) hown (mvT hZ (own_w hw 35 rfl)) (mvT hZ (own_w hw 36 rfl)) (notFace_of_selects (args := #[]) (mvT hZ (own_w hw 38 rfl))) (mvT hZ (own_w hw 38 rfl)) (mvT hZ (own_w hw 37 rfl)) (by decide) (backOf (W := 0) (rm4_1_2 l Z a0 hw [] aix app kpp pn qe (0 : Int32) (1 : Int32) (0 : Int32) (0 : Int32) h50 n0 Zs50 Fentries_50 Fcount_50 Fend_50 Fplaces_50 Vpp_50) hZ (own_w hw 39 rfl) (own_w hw 5 rfl) (by decide) (by decide)) q54a q54c (g := (mkF m 353 (own_l64 sl0 sl1 p2 sl3 sl4 sl5 pn sl7 sl8 sl9 sl10 sl11 sl12 sl13 sl14 apl aix sl17 sl18 sl19 sl20 sl21 sl22 sl23 sl24) [(.int (1 : Int32)), (.ref aix)])) rfl (by rw [hml]; rfl) (Steps.refl _) (argsL := [(.int (1 : Int32))]) (rest := []) (lenOf own_pd0 rfl) rfl (by show 2 * 0 + _ ≤ _; exact Nat.le_of_eq rfl) (hb hby at_353) (fun _ _ => ⟨rfl, e50, (by decide : 5 + 0 ≤ _), (by decide : 23 + 0 ≤ _)⟩)
    dsimp only [Pt.U, Pt.locs, Pt.cells, Pt.slots] at X54 l54 y54 z54 st54 hQ54
    replace y54 : _ = 5 := y54
    replace z54 : _ = 23 := z54
    subst y54 z54
    obtain ⟨Nq54, rfl, eq54⟩ := hQ54
    have N54 := own_frl l54 N50 Nq54
    refine own_pre (fun t k => st54.trans k) ?_
    refine own_pre (A := (T54.setTop (mkF m 367 (own_l64 sl0 sl1 p2 sl3 sl4 sl5 pn sl7 sl8 sl9 sl10 sl11 sl12 sl13 sl14 apl aix sl17 sl18 sl19 sl20 sl21 sl22 sl23 sl24) [(.int (1 : Int32))]))) ?_ ?_
    · intro t k
      refine XS.lload X54.here hx rfl (hb hby at_356) rfl ?_
      refine XS.lcmp X54.here hx rfl (hb hby at_358) rfl ?_
      refine XS.ifNo X54.here hx rfl (hb hby at_359) rfl ((if0 _ _).trans (teq ((lw_eq (pn.toInt64) (pn.toInt64)).mpr (rfl : (pn.toInt64) = (pn.toInt64)))).2) ?_
      refine XS.iconst X54.here hx rfl (hb hby at_362) ?_
      refine XS.goto X54.here hx rfl (pc0 := 363) (pc' := 367) rfl (hb hby at_363) (by decide) (by decide) ?_
      exact k
    obtain ⟨fs, hr, hrun, hended, hW, hsame⟩ := X54.leave (hlocks := hlk) (v := some (.int (1 : Int32))) (fun h => by rw [hret] at h; cases h)
    refine ⟨_, _, retOut X54 hx hret rfl (Or.inl ⟨rfl, Or.inr (Or.inl rfl), _, rfl⟩) (hb hby at_367) hr, hrun, hended, _, _, rfl, ?_, ⟨_, rfl⟩, hW, hsame.mono (by decide) (by decide)⟩
    show own_Q0 h0 n0 _ T54.heap _
    rw [eq54]
    exact ⟨rfl, N54⟩
abbrev own_l65 (x0 : Slot) (x1 : Slot) (x2 : Int32) (x3 : Slot) (x4 : Slot) (x5 : Slot) (x6 : Int32) (x7 : Slot) (x8 : Slot) (x9 : Slot) (x10 : Slot) (x11 : Slot) (x12 : Slot) (x13 : Slot) (x14 : Slot) (x15 : Addr) (x16 : Addr) (x17 : Slot) (x18 : Slot) (x19 : Slot) (x20 : Slot) (x21 : Slot) (x22 : Slot) (x23 : Slot) (x24 : Slot) : Array Slot := #[x0, x1, .val (.int x2), x3, x4, x5, .val (.int x6), x7, x8, x9, x10, x11, x12, x13, x14, .val (.ref x15), .val (.ref x16), x17, x18, x19, x20, x21, x22, x23, x24, .val (.int (1 : Int32)), .val (.int (0 : Int32)), .val (.int (1 : Int32)), .unset, .unset, .unset, .unset, .unset]
abbrev own_l66 (x0 : Slot) (x1 : Slot) (x2 : Int32) (x3 : Slot) (x4 : Slot) (x5 : Slot) (x6 : Int32) (x7 : Slot) (x8 : Slot) (x9 : Slot) (x10 : Slot) (x11 : Slot) (x12 : Slot) (x13 : Slot) (x14 : Slot) (x15 : Addr) (x16 : Addr) (x17 : Slot) (x18 : Slot) (x19 : Slot) (x20 : Slot) (x21 : Slot) (x22 : Slot) (x23 : Slot) (x24 : Slot) : Array Slot := #[x0, x1, .val (.int x2), x3, x4, x5, .val (.int x6), x7, x8, x9, x10, x11, x12, x13, x14, .val (.ref x15), .val (.ref x16), x17, x18, x19, x20, x21, x22, x23, x24, .val (.int (1 : Int32)), .val (.int (0 : Int32)), .val (.int (1 : Int32)), .val (.int (0 : Int32)), .unset, .unset, .unset, .unset]
abbrev own_l67 (x0 : Slot) (x1 : Slot) (x2 : Int32) (x3 : Slot) (x4 : Slot) (x5 : Slot) (x6 : Int32) (x7 : Slot) (x8 : Slot) (x9 : Slot) (x10 : Slot) (x11 : Slot) (x12 : Slot) (x13 : Slot) (x14 : Slot) (x15 : Addr) (x16 : Addr) (x17 : Slot) (x18 : Slot) (x19 : Slot) (x20 : Slot) (x21 : Slot) (x22 : Slot) (x23 : Slot) (x24 : Slot) : Array Slot := #[x0, x1, .val (.int x2), x3, x4, x5, .val (.int x6), x7, x8, x9, x10, x11, x12, x13, x14, .val (.ref x15), .val (.ref x16), x17, x18, x19, x20, x21, x22, x23, x24, .val (.int (1 : Int32)), .val (.int (0 : Int32)), .val (.int (1 : Int32)), .val (.int ((0 : Int32) + (1 : Int32))), .unset, .unset, .unset, .unset]
abbrev own_l68 (x0 : Slot) (x1 : Slot) (x2 : Int32) (x3 : Slot) (x4 : Slot) (x5 : Slot) (x6 : Int32) (x7 : Slot) (x8 : Slot) (x9 : Slot) (x10 : Slot) (x11 : Slot) (x12 : Slot) (x13 : Slot) (x14 : Slot) (x15 : Addr) (x16 : Addr) (x17 : Slot) (x18 : Slot) (x19 : Slot) (x20 : Slot) (x21 : Slot) (x22 : Slot) (x23 : Slot) (x24 : Slot) : Array Slot := #[x0, x1, .val (.int x2), x3, x4, x5, .val (.int x6), x7, x8, x9, x10, x11, x12, x13, x14, .val (.ref x15), .val (.ref x16), x17, x18, x19, x20, x21, x22, x23, x24, .val (.int (1 : Int32)), .val (.int (0 : Int32)), .val (.int (1 : Int32)), .val (.int (1 : Int32)), .unset, .unset, .unset, .unset]
abbrev own_l69 (x0 : Slot) (x1 : Slot) (x2 : Int32) (x3 : Slot) (x4 : Slot) (x5 : Slot) (x6 : Int32) (x7 : Slot) (x8 : Slot) (x9 : Slot) (x10 : Slot) (x11 : Slot) (x12 : Slot) (x13 : Slot) (x14 : Slot) (x15 : Addr) (x16 : Addr) (x17 : Slot) (x18 : Slot) (x19 : Slot) (x20 : Slot) (x21 : Slot) (x22 : Slot) (x23 : Slot) (x24 : Slot) : Array Slot := #[x0, x1, .val (.int x2), x3, x4, x5, .val (.int x6), x7, x8, x9, x10, x11, x12, x13, x14, .val (.ref x15), .val (.ref x16), x17, x18, x19, x20, x21, x22, x23, x24, .val (.int (1 : Int32)), .val (.int (0 : Int32)), .val (.int (1 : Int32)), .val (.int ((1 : Int32) + (1 : Int32))), .unset, .unset, .unset, .unset]
abbrev own_l70 (x0 : Slot) (x1 : Slot) (x2 : Int32) (x3 : Slot) (x4 : Slot) (x5 : Slot) (x6 : Int32) (x7 : Slot) (x8 : Slot) (x9 : Slot) (x10 : Slot) (x11 : Slot) (x12 : Slot) (x13 : Slot) (x14 : Slot) (x15 : Addr) (x16 : Addr) (x17 : Slot) (x18 : Slot) (x19 : Slot) (x20 : Slot) (x21 : Slot) (x22 : Slot) (x23 : Slot) (x24 : Slot) : Array Slot := #[x0, x1, .val (.int x2), x3, x4, x5, .val (.int x6), x7, x8, x9, x10, x11, x12, x13, x14, .val (.ref x15), .val (.ref x16), x17, x18, x19, x20, x21, x22, x23, x24, .val (.int (1 : Int32)), .val (.int (0 : Int32)), .val (.int (1 : Int32)), .val (.int (2 : Int32)), .unset, .unset, .unset, .unset]
abbrev own_l71 (x0 : Slot) (x1 : Slot) (x2 : Int32) (x3 : Slot) (x4 : Slot) (x5 : Slot) (x6 : Int32) (x7 : Slot) (x8 : Slot) (x9 : Slot) (x10 : Slot) (x11 : Slot) (x12 : Slot) (x13 : Slot) (x14 : Slot) (x15 : Addr) (x16 : Addr) (x17 : Slot) (x18 : Slot) (x19 : Slot) (x20 : Slot) (x21 : Slot) (x22 : Slot) (x23 : Slot) (x24 : Slot) : Array Slot := #[x0, x1, .val (.int x2), x3, x4, x5, .val (.int x6), x7, x8, x9, x10, x11, x12, x13, x14, .val (.ref x15), .val (.ref x16), x17, x18, x19, x20, x21, x22, x23, x24, .val (.int (1 : Int32)), .val (.int (0 : Int32)), .val (.int (1 : Int32)), .val (.int ((2 : Int32) + (1 : Int32))), .unset, .unset, .unset, .unset]
abbrev own_l72 (x0 : Slot) (x1 : Slot) (x2 : Int32) (x3 : Slot) (x4 : Slot) (x5 : Slot) (x6 : Int32) (x7 : Slot) (x8 : Slot) (x9 : Slot) (x10 : Slot) (x11 : Slot) (x12 : Slot) (x13 : Slot) (x14 : Slot) (x15 : Addr) (x16 : Addr) (x17 : Slot) (x18 : Slot) (x19 : Slot) (x20 : Slot) (x21 : Slot) (x22 : Slot) (x23 : Slot) (x24 : Slot) : Array Slot := #[x0, x1, .val (.int x2), x3, x4, x5, .val (.int x6), x7, x8, x9, x10, x11, x12, x13, x14, .val (.ref x15), .val (.ref x16), x17, x18, x19, x20, x21, x22, x23, x24, .val (.int (1 : Int32)), .val (.int (0 : Int32)), .val (.int (1 : Int32)), .val (.int (3 : Int32)), .unset, .unset, .unset, .unset]
abbrev own_l73 (x0 : Slot) (x1 : Slot) (x2 : Int32) (x3 : Slot) (x4 : Slot) (x5 : Slot) (x6 : Int32) (x7 : Slot) (x8 : Slot) (x9 : Slot) (x10 : Slot) (x11 : Slot) (x12 : Slot) (x13 : Slot) (x14 : Slot) (x15 : Addr) (x16 : Addr) (x17 : Slot) (x18 : Slot) (x19 : Slot) (x20 : Slot) (x21 : Slot) (x22 : Slot) (x23 : Slot) (x24 : Slot) : Array Slot := #[x0, x1, .val (.int x2), x3, x4, x5, .val (.int x6), x7, x8, x9, x10, x11, x12, x13, x14, .val (.ref x15), .val (.ref x16), x17, x18, x19, x20, x21, x22, x23, x24, .val (.int (1 : Int32)), .val (.int (0 : Int32)), .val (.int (1 : Int32)), .val (.int (3 : Int32)), .val (.int ((((x2.toUInt32 >>> ((2 : Int32) &&& 31).toUInt32).toInt32) &&& (3 : Int32)) % (3 : Int32))), .unset, .unset, .unset]
abbrev own_l74 (x0 : Slot) (x1 : Slot) (x2 : Int32) (x3 : Slot) (x4 : Slot) (x5 : Slot) (x6 : Int32) (x7 : Slot) (x8 : Slot) (x9 : Slot) (x10 : Slot) (x11 : Slot) (x12 : Slot) (x13 : Slot) (x14 : Slot) (x15 : Addr) (x16 : Addr) (x17 : Slot) (x18 : Slot) (x19 : Slot) (x20 : Slot) (x21 : Slot) (x22 : Slot) (x23 : Slot) (x24 : Slot) : Array Slot := #[x0, x1, .val (.int x2), x3, x4, x5, .val (.int x6), x7, x8, x9, x10, x11, x12, x13, x14, .val (.ref x15), .val (.ref x16), x17, x18, x19, x20, x21, x22, x23, x24, .val (.int (1 : Int32)), .val (.int (0 : Int32)), .val (.int (1 : Int32)), .val (.int (3 : Int32)), .val (.int (0 : Int32)), .unset, .unset, .unset]
abbrev own_l75 (x0 : Slot) (x1 : Slot) (x2 : Int32) (x3 : Slot) (x4 : Slot) (x5 : Slot) (x6 : Int32) (x7 : Slot) (x8 : Slot) (x9 : Slot) (x10 : Slot) (x11 : Slot) (x12 : Slot) (x13 : Slot) (x14 : Slot) (x15 : Addr) (x16 : Addr) (x17 : Slot) (x18 : Slot) (x19 : Slot) (x20 : Slot) (x21 : Slot) (x22 : Slot) (x23 : Slot) (x24 : Slot) : Array Slot := #[x0, x1, .val (.int x2), x3, x4, x5, .val (.int x6), x7, x8, x9, x10, x11, x12, x13, x14, .val (.ref x15), .val (.ref x16), x17, x18, x19, x20, x21, x22, x23, x24, .val (.int (1 : Int32)), .val (.int (0 : Int32)), .val (.int (1 : Int32)), .val (.int (3 : Int32)), .val (.int (0 : Int32)), .val (.int (0 : Int32)), .unset, .unset]
abbrev own_l76 (x0 : Slot) (x1 : Slot) (x2 : Int32) (x3 : Slot) (x4 : Slot) (x5 : Slot) (x6 : Int32) (x7 : Slot) (x8 : Slot) (x9 : Slot) (x10 : Slot) (x11 : Slot) (x12 : Slot) (x13 : Slot) (x14 : Slot) (x15 : Addr) (x16 : Addr) (x17 : Slot) (x18 : Slot) (x19 : Slot) (x20 : Slot) (x21 : Slot) (x22 : Slot) (x23 : Slot) (x24 : Slot) : Array Slot := #[x0, x1, .val (.int x2), x3, x4, x5, .val (.int x6), x7, x8, x9, x10, x11, x12, x13, x14, .val (.ref x15), .val (.ref x16), x17, x18, x19, x20, x21, x22, x23, x24, .val (.int (1 : Int32)), .val (.int (0 : Int32)), .val (.int (1 : Int32)), .val (.int (3 : Int32)), .val (.int (0 : Int32)), .val (.int (0 : Int32)), .val (.long (1 : Int64)), .second]
abbrev own_l77 (x0 : Slot) (x1 : Slot) (x2 : Int32) (x3 : Slot) (x4 : Slot) (x5 : Slot) (x6 : Int32) (x7 : Slot) (x8 : Slot) (x9 : Slot) (x10 : Slot) (x11 : Slot) (x12 : Slot) (x13 : Slot) (x14 : Slot) (x15 : Addr) (x16 : Addr) (x17 : Slot) (x18 : Slot) (x19 : Slot) (x20 : Slot) (x21 : Slot) (x22 : Slot) (x23 : Slot) (x24 : Slot) : Array Slot := #[x0, x1, .val (.int x2), x3, x4, x5, .val (.int x6), x7, x8, x9, x10, x11, x12, x13, x14, .val (.ref x15), .val (.ref x16), x17, x18, x19, x20, x21, x22, x23, x24, .val (.int (1 : Int32)), .val (.int (0 : Int32)), .val (.int (1 : Int32)), .val (.int (3 : Int32)), .val (.int (1 : Int32)), .unset, .unset, .unset]
abbrev own_l78 (x0 : Slot) (x1 : Slot) (x2 : Int32) (x3 : Slot) (x4 : Slot) (x5 : Slot) (x6 : Int32) (x7 : Slot) (x8 : Slot) (x9 : Slot) (x10 : Slot) (x11 : Slot) (x12 : Slot) (x13 : Slot) (x14 : Slot) (x15 : Addr) (x16 : Addr) (x17 : Slot) (x18 : Slot) (x19 : Slot) (x20 : Slot) (x21 : Slot) (x22 : Slot) (x23 : Slot) (x24 : Slot) : Array Slot := #[x0, x1, .val (.int x2), x3, x4, x5, .val (.int x6), x7, x8, x9, x10, x11, x12, x13, x14, .val (.ref x15), .val (.ref x16), x17, x18, x19, x20, x21, x22, x23, x24, .val (.int (1 : Int32)), .val (.int (0 : Int32)), .val (.int (1 : Int32)), .val (.int (3 : Int32)), .val (.int (1 : Int32)), .val (.int (1 : Int32)), .unset, .unset]
abbrev own_l79 (x0 : Slot) (x1 : Slot) (x2 : Int32) (x3 : Slot) (x4 : Slot) (x5 : Slot) (x6 : Int32) (x7 : Slot) (x8 : Slot) (x9 : Slot) (x10 : Slot) (x11 : Slot) (x12 : Slot) (x13 : Slot) (x14 : Slot) (x15 : Addr) (x16 : Addr) (x17 : Slot) (x18 : Slot) (x19 : Slot) (x20 : Slot) (x21 : Slot) (x22 : Slot) (x23 : Slot) (x24 : Slot) : Array Slot := #[x0, x1, .val (.int x2), x3, x4, x5, .val (.int x6), x7, x8, x9, x10, x11, x12, x13, x14, .val (.ref x15), .val (.ref x16), x17, x18, x19, x20, x21, x22, x23, x24, .val (.int (1 : Int32)), .val (.int (0 : Int32)), .val (.int (1 : Int32)), .val (.int (3 : Int32)), .val (.int (1 : Int32)), .val (.int (1 : Int32)), .val (.long (3 : Int64)), .second]
abbrev own_l80 (x0 : Slot) (x1 : Slot) (x2 : Int32) (x3 : Slot) (x4 : Slot) (x5 : Slot) (x6 : Int32) (x7 : Slot) (x8 : Slot) (x9 : Slot) (x10 : Slot) (x11 : Slot) (x12 : Slot) (x13 : Slot) (x14 : Slot) (x15 : Addr) (x16 : Addr) (x17 : Slot) (x18 : Slot) (x19 : Slot) (x20 : Slot) (x21 : Slot) (x22 : Slot) (x23 : Slot) (x24 : Slot) : Array Slot := #[x0, x1, .val (.int x2), x3, x4, x5, .val (.int x6), x7, x8, x9, x10, x11, x12, x13, x14, .val (.ref x15), .val (.ref x16), x17, x18, x19, x20, x21, x22, x23, x24, .val (.int (1 : Int32)), .val (.int (0 : Int32)), .val (.int (1 : Int32)), .val (.int (3 : Int32)), .val (.int (2 : Int32)), .unset, .unset, .unset]
abbrev own_l81 (x0 : Slot) (x1 : Slot) (x2 : Int32) (x3 : Slot) (x4 : Slot) (x5 : Slot) (x6 : Int32) (x7 : Slot) (x8 : Slot) (x9 : Slot) (x10 : Slot) (x11 : Slot) (x12 : Slot) (x13 : Slot) (x14 : Slot) (x15 : Addr) (x16 : Addr) (x17 : Slot) (x18 : Slot) (x19 : Slot) (x20 : Slot) (x21 : Slot) (x22 : Slot) (x23 : Slot) (x24 : Slot) : Array Slot := #[x0, x1, .val (.int x2), x3, x4, x5, .val (.int x6), x7, x8, x9, x10, x11, x12, x13, x14, .val (.ref x15), .val (.ref x16), x17, x18, x19, x20, x21, x22, x23, x24, .val (.int (1 : Int32)), .val (.int (0 : Int32)), .val (.int (1 : Int32)), .val (.int (3 : Int32)), .val (.int (2 : Int32)), .val (.int (3 : Int32)), .unset, .unset]
abbrev own_l82 (x0 : Slot) (x1 : Slot) (x2 : Int32) (x3 : Slot) (x4 : Slot) (x5 : Slot) (x6 : Int32) (x7 : Slot) (x8 : Slot) (x9 : Slot) (x10 : Slot) (x11 : Slot) (x12 : Slot) (x13 : Slot) (x14 : Slot) (x15 : Addr) (x16 : Addr) (x17 : Slot) (x18 : Slot) (x19 : Slot) (x20 : Slot) (x21 : Slot) (x22 : Slot) (x23 : Slot) (x24 : Slot) : Array Slot := #[x0, x1, .val (.int x2), x3, x4, x5, .val (.int x6), x7, x8, x9, x10, x11, x12, x13, x14, .val (.ref x15), .val (.ref x16), x17, x18, x19, x20, x21, x22, x23, x24, .val (.int (1 : Int32)), .val (.int (0 : Int32)), .val (.int (1 : Int32)), .val (.int (3 : Int32)), .val (.int (2 : Int32)), .val (.int (3 : Int32)), .val (.long (x6.toInt64)), .second]
set_option maxRecDepth 65536 in
set_option maxHeartbeats 40000000 in
theorem own_suf_101 {p : Program} {l : Launch} {e : Env} {s : State} {m : MethodId} {args : Array Value} {below : List Frame} {meth : Method} {c : Code} {T0 : State} {locs : List Loc} {Z : State} {a0 : Array Value} {h0 h1 : Heap} {n0 : Nat} {p2 pn : Int32} {qe : Int64} {apl aix app : Addr} {kpl kpp : ClassId} {sl0 sl1 sl3 sl4 sl5 sl7 sl8 sl9 sl10 sl11 sl12 sl13 sl14 sl17 sl18 sl19 sl20 sl21 sl22 sl23 sl24 : Slot} (X0 : Stand p l e room_1 s m args below meth c T0 locs 5 23) (hx : p.tables.exec = Jvm.exec) (hZ : Z.Warmed39 s.vm) (hw : ∀ d ∈ tables_1, d.before a0 Z = true) (hby : c.code = code) (hml : c.maxLocals = 33) (hown : s.vm.findClass "com/example/coho/coho/eventlog/SegmentIndexPlaceAfterPinLaw" = some m.cls) (hret : meth.sig.returnType = some .boolean) (hlk : meth.locks = false) (e0 : T0.heap = h1) (N0 : Fr n0 locs) (Zs0 : n0 ≤ h1.size) (K0 : Keep h0 h1 []) (Ex : Exa Z h1 aix "com/example/coho/coho/eventlog/SegmentIndex") (Fentries : Fld Z h1 aix "com/example/coho/coho/eventlog/SegmentIndex" "entries" "I" (.int (3 : Int32))) (Fcount : Fld Z h1 aix "com/example/coho/coho/eventlog/SegmentIndex" "count" "I" (.int pn)) (Fend : Fld Z h1 aix "com/example/coho/coho/eventlog/SegmentIndex" "end" "J" (.long qe)) (Fplaces : Fld Z h1 aix "com/example/coho/coho/eventlog/SegmentIndex" "places" "[I" (.ref app)) (Vpp : Arv Z h1 app kpp .int (4 : Int32) [(.int (0 : Int32)), (.int (1 : Int32)), (.int (3 : Int32)), (.int (0 : Int32))] (.int (0 : Int32))) (Vpl : Arv Z h1 apl kpl .int (4 : Int32) [(.int (0 : Int32)), (.int (0 : Int32)), (.int (0 : Int32)), (.int (0 : Int32))] (.int (0 : Int32))) (nix : aix ≠ apl) (npp : app ≠ apl) (gpl : n0 ≤ apl) (spl : h0.size ≤ apl) :
    ∃ s₂ o, Steps p.tables e below (T0.setTop (mkF m 218 (own_l65 sl0 sl1 p2 sl3 sl4 sl5 pn sl7 sl8 sl9 sl10 sl11 sl12 sl13 sl14 apl aix sl17 sl18 sl19 sl20 sl21 sl22 sl23 sl24) [])) s₂ ∧ s₂.status = .running ∧ Ended s₂ below o ∧ (∃ v L, o = .returned v ∧ own_Q0 h0 n0 v s₂.heap L ∧ FrameEnd s o s₂ L room_1.cells room_1.slots) := by
  refine own_pre (A := (T0.setTop (mkF m 226 (own_l66 sl0 sl1 p2 sl3 sl4 sl5 pn sl7 sl8 sl9 sl10 sl11 sl12 sl13 sl14 apl aix sl17 sl18 sl19 sl20 sl21 sl22 sl23 sl24) [(.int (0 : Int32)), (.int (0 : Int32)), (.ref apl)]))) ?_ ?_
  · intro t k
    refine XS.iconst X0.here hx rfl (hb hby at_218) ?_
    refine XS.istore X0.here hx rfl (hb hby at_219) rfl (l' := (own_l66 sl0 sl1 p2 sl3 sl4 sl5 pn sl7 sl8 sl9 sl10 sl11 sl12 sl13 sl14 apl aix sl17 sl18 sl19 sl20 sl21 sl22 sl23 sl24)) rfl ?_
    refine XS.aload X0.here hx rfl (hb hby at_221) rfl rfl ?_
    refine XS.iload X0.here hx rfl (hb hby at_223) rfl ?_
    refine XS.iconst X0.here hx rfl (hb hby at_225) ?_
    exact k
  obtain ⟨cl55, Ar55, q55, S55, N55, H55, G55⟩ := Vpl
  have hin55 : ¬ ((0 : Int32) < 0 ∨ cl55.slots.size ≤ ((0 : Int32)).toNatClampNeg) := inb_of S55 ⟨by decide, by decide⟩
  obtain ⟨T55, h55, X55, e55, W55, st55⟩ := stI X0 hx hZ e0 Ar55 (j := (0 : Int32)) hin55 (g := (mkF m 226 (own_l66 sl0 sl1 p2 sl3 sl4 sl5 pn sl7 sl8 sl9 sl10 sl11 sl12 sl13 sl14 apl aix sl17 sl18 sl19 sl20 sl21 sl22 sl23 sl24) [(.int (0 : Int32)), (.int (0 : Int32)), (.ref apl)])) rfl rfl (hb hby at_226)
  have V55 : Arv Z h55 apl kpl .int (4 : Int32) [(.int (0 : Int32)), (.int (0 : Int32)), (.int (0 : Int32)), (.int (0 : Int32))] (.int (0 : Int32)) := Arv.set Ar55 q55 S55 N55 H55 G55 rfl W55 0 rfl (Nat.le_of_ble_eq_true rfl)
  have Ex_55 := Ex.wr W55
  have Fentries_55 := Fentries.other W55 (Or.inl nix)
  have Fcount_55 := Fcount.other W55 (Or.inl nix)
  have Fend_55 := Fend.other W55 (Or.inl nix)
  have Fplaces_55 := Fplaces.other W55 (Or.inl nix)
  have Vpp_55 := Vpp.other W55 npp
  have Zs55 : n0 ≤ h55.size := Nat.le_trans Zs0 (Keep.of_wr W55).1
  have N55 := Fr.snoc X55 N0 gpl
  refine own_pre (fun t k => st55 t k) ?_
  refine own_pre (A := (T55.setTop (mkF m 240 (own_l68 sl0 sl1 p2 sl3 sl4 sl5 pn sl7 sl8 sl9 sl10 sl11 sl12 sl13 sl14 apl aix sl17 sl18 sl19 sl20 sl21 sl22 sl23 sl24) [(.int (1 : Int32)), (.int (1 : Int32)), (.ref apl)]))) ?_ ?_
  · intro t k
    refine XS.iinc X55.here hx rfl (hb hby at_227) rfl (l' := (own_l67 sl0 sl1 p2 sl3 sl4 sl5 pn sl7 sl8 sl9 sl10 sl11 sl12 sl13 sl14 apl aix sl17 sl18 sl19 sl20 sl21 sl22 sl23 sl24)) rfl ?_
    show Steps  p.tables e below (T55.setTop (mkF m 230 #[sl0, sl1, .val (.int p2), sl3, sl4, sl5, .val (.int pn), sl7, sl8, sl9, sl10, sl11, sl12, sl13, sl14, .val (.ref apl), .val (.ref aix), sl17, sl18, sl19, sl20, sl21, sl22, sl23, sl24, .val (.int (1 : Int32)), .val (.int (0 : Int32)), .val (.int (1 : Int32)), .val (.int ((0 : Int32) + (1 : Int32))), .unset, .unset, .unset, .unset] [])) _
    rw [show ((0 : Int32) + (1 : Int32)) = (1 : Int32) from by decide]
    refine XS.iload X55.here hx rfl (hb hby at_230) rfl ?_
    refine XS.ifNo X55.here hx rfl (hb hby at_232) rfl ((if0 _ _).trans (feq (by decide : ¬ ((1 : Int32) = (0 : Int32)))).1) ?_
    refine XS.aload X55.here hx rfl (hb hby at_235) rfl rfl ?_
    refine XS.iload X55.here hx rfl (hb hby at_237) rfl ?_
    refine XS.iconst X55.here hx rfl (hb hby at_239) ?_
    exact k
  obtain ⟨cl56, Ar56, q56, S56, N56, H56, G56⟩ := V55
  have hin56 : ¬ ((1 : Int32) < 0 ∨ cl56.slots.size ≤ ((1 : Int32)).toNatClampNeg) := inb_of S56 ⟨by decide, by decide⟩
  obtain ⟨T56, h56, X56, e56, W56, st56⟩ := stI X55 hx hZ e55 Ar56 (j := (1 : Int32)) hin56 (g := (mkF m 240 (own_l68 sl0 sl1 p2 sl3 sl4 sl5 pn sl7 sl8 sl9 sl10 sl11 sl12 sl13 sl14 apl aix sl17 sl18 sl19 sl20 sl21 sl22 sl23 sl24) [(.int (1 : Int32)), (.int (1 : Int32)), (.ref apl)])) rfl rfl (hb hby at_240)
  have V56 : Arv Z h56 apl kpl .int (4 : Int32) [(.int (0 : Int32)), (.int (1 : Int32)), (.int (0 : Int32)), (.int (0 : Int32))] (.int (0 : Int32)) := Arv.set Ar56 q56 S56 N56 H56 G56 rfl W56 1 rfl (Nat.le_of_ble_eq_true rfl)
  have Ex_56 := Ex_55.wr W56
  have Fentries_56 := Fentries_55.other W56 (Or.inl nix)
  have Fcount_56 := Fcount_55.other W56 (Or.inl nix)
  have Fend_56 := Fend_55.other W56 (Or.inl nix)
  have Fplaces_56 := Fplaces_55.other W56 (Or.inl nix)
  have Vpp_56 := Vpp_55.other W56 npp
  have Zs56 : n0 ≤ h56.size := Nat.le_trans Zs55 (Keep.of_wr W56).1
  have N56 := Fr.snoc X56 N55 gpl
  refine own_pre (fun t k => st56 t k) ?_
  refine own_pre (A := (T56.setTop (mkF m 268 (own_l70 sl0 sl1 p2 sl3 sl4 sl5 pn sl7 sl8 sl9 sl10 sl11 sl12 sl13 sl14 apl aix sl17 sl18 sl19 sl20 sl21 sl22 sl23 sl24) [(.int (3 : Int32)), (.int (2 : Int32)), (.ref apl)]))) ?_ ?_
  · intro t k
    refine XS.iinc X56.here hx rfl (hb hby at_241) rfl (l' := (own_l69 sl0 sl1 p2 sl3 sl4 sl5 pn sl7 sl8 sl9 sl10 sl11 sl12 sl13 sl14 apl aix sl17 sl18 sl19 sl20 sl21 sl22 sl23 sl24)) rfl ?_
    show Steps  p.tables e below (T56.setTop (mkF m 244 #[sl0, sl1, .val (.int p2), sl3, sl4, sl5, .val (.int pn), sl7, sl8, sl9, sl10, sl11, sl12, sl13, sl14, .val (.ref apl), .val (.ref aix), sl17, sl18, sl19, sl20, sl21, sl22, sl23, sl24, .val (.int (1 : Int32)), .val (.int (0 : Int32)), .val (.int (1 : Int32)), .val (.int ((1 : Int32) + (1 : Int32))), .unset, .unset, .unset, .unset] [])) _
    rw [show ((1 : Int32) + (1 : Int32)) = (2 : Int32) from by decide]
    refine XS.iload X56.here hx rfl (hb hby at_244) rfl ?_
    refine XS.ifYes X56.here hx rfl (pc0 := 246) (pc' := 258) rfl (hb hby at_246) rfl ((if0 _ _).trans (teq (by decide : (0 : Int32) = (0 : Int32))).1) (by decide) (by decide) ?_
    refine XS.iload X56.here hx rfl (hb hby at_258) rfl ?_
    refine XS.ifNo X56.here hx rfl (hb hby at_260) rfl ((if0 _ _).trans (feq (by decide : ¬ ((1 : Int32) = (0 : Int32)))).1) ?_
    refine XS.aload X56.here hx rfl (hb hby at_263) rfl rfl ?_
    refine XS.iload X56.here hx rfl (hb hby at_265) rfl ?_
    refine XS.iconst X56.here hx rfl (hb hby at_267) ?_
    exact k
  obtain ⟨cl57, Ar57, q57, S57, N57, H57, G57⟩ := V56
  have hin57 : ¬ ((2 : Int32) < 0 ∨ cl57.slots.size ≤ ((2 : Int32)).toNatClampNeg) := inb_of S57 ⟨by decide, by decide⟩
  obtain ⟨T57, h57, X57, e57, W57, st57⟩ := stI X56 hx hZ e56 Ar57 (j := (2 : Int32)) hin57 (g := (mkF m 268 (own_l70 sl0 sl1 p2 sl3 sl4 sl5 pn sl7 sl8 sl9 sl10 sl11 sl12 sl13 sl14 apl aix sl17 sl18 sl19 sl20 sl21 sl22 sl23 sl24) [(.int (3 : Int32)), (.int (2 : Int32)), (.ref apl)])) rfl rfl (hb hby at_268)
  have V57 : Arv Z h57 apl kpl .int (4 : Int32) [(.int (0 : Int32)), (.int (1 : Int32)), (.int (3 : Int32)), (.int (0 : Int32))] (.int (0 : Int32)) := Arv.set Ar57 q57 S57 N57 H57 G57 rfl W57 2 rfl (Nat.le_of_ble_eq_true rfl)
  have Ex_57 := Ex_56.wr W57
  have Fentries_57 := Fentries_56.other W57 (Or.inl nix)
  have Fcount_57 := Fcount_56.other W57 (Or.inl nix)
  have Fend_57 := Fend_56.other W57 (Or.inl nix)
  have Fplaces_57 := Fplaces_56.other W57 (Or.inl nix)
  have Vpp_57 := Vpp_56.other W57 npp
  have Zs57 : n0 ≤ h57.size := Nat.le_trans Zs56 (Keep.of_wr W57).1
  have N57 := Fr.snoc X57 N56 gpl
  refine own_pre (fun t k => st57 t k) ?_
  refine own_pre (A := (T57.setTop (mkF m 282 (own_l73 sl0 sl1 p2 sl3 sl4 sl5 pn sl7 sl8 sl9 sl10 sl11 sl12 sl13 sl14 apl aix sl17 sl18 sl19 sl20 sl21 sl22 sl23 sl24) []))) ?_ ?_
  · intro t k
    refine XS.iinc X57.here hx rfl (hb hby at_269) rfl (l' := (own_l71 sl0 sl1 p2 sl3 sl4 sl5 pn sl7 sl8 sl9 sl10 sl11 sl12 sl13 sl14 apl aix sl17 sl18 sl19 sl20 sl21 sl22 sl23 sl24)) rfl ?_
    show Steps  p.tables e below (T57.setTop (mkF m 272 #[sl0, sl1, .val (.int p2), sl3, sl4, sl5, .val (.int pn), sl7, sl8, sl9, sl10, sl11, sl12, sl13, sl14, .val (.ref apl), .val (.ref aix), sl17, sl18, sl19, sl20, sl21, sl22, sl23, sl24, .val (.int (1 : Int32)), .val (.int (0 : Int32)), .val (.int (1 : Int32)), .val (.int ((2 : Int32) + (1 : Int32))), .unset, .unset, .unset, .unset] [])) _
    rw [show ((2 : Int32) + (1 : Int32)) = (3 : Int32) from by decide]
    refine XS.iloadN X57.here hx rfl (hb hby at_272) rfl ?_
    refine XS.iconst X57.here hx rfl (hb hby at_273) ?_
    refine XS.iushr X57.here hx rfl (hb hby at_274) rfl ?_
    refine XS.iconst X57.here hx rfl (hb hby at_275) ?_
    refine XS.iand X57.here hx rfl (hb hby at_276) rfl ?_
    refine XS.iload X57.here hx rfl (hb hby at_277) rfl ?_
    show Steps p.tables e below (T57.setTop (mkF m 279 (own_l72 sl0 sl1 p2 sl3 sl4 sl5 pn sl7 sl8 sl9 sl10 sl11 sl12 sl13 sl14 apl aix sl17 sl18 sl19 sl20 sl21 sl22 sl23 sl24) [(.int (3 : Int32)), (.int (((p2.toUInt32 >>> ((2 : Int32) &&& 31).toUInt32).toInt32) &&& (3 : Int32)))])) _
    refine iremM X57 hx rfl (hb hby at_279) rfl (by decide) ?_
    show Steps p.tables e below (T57.setTop (mkF m 280 (own_l72 sl0 sl1 p2 sl3 sl4 sl5 pn sl7 sl8 sl9 sl10 sl11 sl12 sl13 sl14 apl aix sl17 sl18 sl19 sl20 sl21 sl22 sl23 sl24) [(.int ((((p2.toUInt32 >>> ((2 : Int32) &&& 31).toUInt32).toInt32) &&& (3 : Int32)) % (3 : Int32)))])) _
    refine XS.istore X57.here hx rfl (hb hby at_280) rfl (l' := (own_l73 sl0 sl1 p2 sl3 sl4 sl5 pn sl7 sl8 sl9 sl10 sl11 sl12 sl13 sl14 apl aix sl17 sl18 sl19 sl20 sl21 sl22 sl23 sl24)) rfl ?_
    exact k
  obtain ⟨pe, hpe⟩ : ∃ z : Int32, z = ((((p2.toUInt32 >>> ((2 : Int32) &&& 31).toUInt32).toInt32) &&& (3 : Int32)) % (3 : Int32)) := ⟨_, rfl⟩
  show ∃ s₂ o, Steps p.tables e below (T57.setTop (mkF m 282 #[sl0, sl1, .val (.int p2), sl3, sl4, sl5, .val (.int pn), sl7, sl8, sl9, sl10, sl11, sl12, sl13, sl14, .val (.ref apl), .val (.ref aix), sl17, sl18, sl19, sl20, sl21, sl22, sl23, sl24, .val (.int (1 : Int32)), .val (.int (0 : Int32)), .val (.int (1 : Int32)), .val (.int (3 : Int32)), .val (.int ((((p2.toUInt32 >>> ((2 : Int32) &&& 31).toUInt32).toInt32) &&& (3 : Int32)) % (3 : Int32))), .unset, .unset, .unset] [])) s₂ ∧ _
  rw [← hpe]
  have he : pe = (0 : Int32) ∨ pe = (1 : Int32) ∨ pe = (2 : Int32) := by rw [hpe]; exact own_e3 _
  clear hpe
  rcases he with rfl | rfl | rfl
  · skip
    refine own_pre (A := (T57.setTop (mkF m 353 (own_l76 sl0 sl1 p2 sl3 sl4 sl5 pn sl7 sl8 sl9 sl10 sl11 sl12 sl13 sl14 apl aix sl17 sl18 sl19 sl20 sl21 sl22 sl23 sl24) [(.int (0 : Int32)), (.ref aix)]))) ?_ ?_
    · intro t k
      refine XS.aload X57.here hx rfl (hb hby at_282) rfl rfl ?_
      refine XS.iload X57.here hx rfl (hb hby at_284) rfl ?_
      show Steps p.tables e below (T57.setTop (mkF m 286 (own_l74 sl0 sl1 p2 sl3 sl4 sl5 pn sl7 sl8 sl9 sl10 sl11 sl12 sl13 sl14 apl aix sl17 sl18 sl19 sl20 sl21 sl22 sl23 sl24) [(.int (0 : Int32)), (.ref apl)])) _
      obtain ⟨cl58, Ar58, q58, S58, N58, H58, G58⟩ := id V57
      have hin58 : ¬ ((0 : Int32) < 0 ∨ cl58.slots.size ≤ ((0 : Int32)).toNatClampNeg) := inb_of S58 ⟨by decide, by decide⟩
      refine X57.iaload hx (j := (0 : Int32)) (v := (.int (0 : Int32))) (by rw [e57]; exact Ar58.1) (State.isArrayOf_alike hZ.alike Ar58.2.1) Ar58.2.2 hin58 (H58.at hin58 rfl) (g := (mkF m 286 (own_l74 sl0 sl1 p2 sl3 sl4 sl5 pn sl7 sl8 sl9 sl10 sl11 sl12 sl13 sl14 apl aix sl17 sl18 sl19 sl20 sl21 sl22 sl23 sl24) [(.int (0 : Int32)), (.ref apl)])) rfl rfl (hb hby at_286) _ ?_
      refine XS.istore X57.here hx rfl (hb hby at_287) rfl (l' := (own_l75 sl0 sl1 p2 sl3 sl4 sl5 pn sl7 sl8 sl9 sl10 sl11 sl12 sl13 sl14 apl aix sl17 sl18 sl19 sl20 sl21 sl22 sl23 sl24)) rfl ?_
      refine XS.iload X57.here hx rfl (hb hby at_289) rfl ?_
      refine XS.iconst X57.here hx rfl (hb hby at_291) ?_
      refine XS.icmpNo X57.here hx rfl (hb hby at_292) rfl (tlt (by decide : (0 : Int32) < (1 : Int32))).2.1 ?_
      refine XS.iload X57.here hx rfl (hb hby at_295) rfl ?_
      refine XS.ifNo X57.here hx rfl (hb hby at_297) rfl ((if0 _ _).trans (feq (by decide : ¬ ((1 : Int32) = (0 : Int32)))).1) ?_
      refine XS.lconst X57.here hx rfl (hb hby at_300) ?_
      refine XS.lstore X57.here hx rfl (hb hby at_301) rfl (l' := (own_l76 sl0 sl1 p2 sl3 sl4 sl5 pn sl7 sl8 sl9 sl10 sl11 sl12 sl13 sl14 apl aix sl17 sl18 sl19 sl20 sl21 sl22 sl23 sl24)) rfl ?_
      refine XS.goto X57.here hx rfl (pc0 := 303) (pc' := 349) rfl (hb hby at_303) (by decide) (by decide) ?_
      refine XS.aload X57.here hx rfl (hb hby at_349) rfl rfl ?_
      refine XS.iload X57.here hx rfl (hb hby at_351) rfl ?_
      exact k
    obtain ⟨cq59, kq59, q59a, q59b, q59c⟩ := isOf hZ e57 Ex_57
    obtain ⟨_, _, ⟨T59, L59, k59, n59⟩, -, X59, ⟨Lc59, hQ59, l59, y59, z59⟩, st59⟩ := X57.virtualBack hx (y := (⟨"com/example/coho/coho/eventlog/SegmentIndex", "placeAfter", "(I)J"⟩ : MethodName)) (z := (⟨"com/example/coho/coho/eventlog/SegmentIndex", "placeAfter", "(I)J"⟩ : MethodName)) hown (mvT hZ (own_w hw 35 rfl)) (mvT hZ (own_w hw 36 rfl)) (notFace_of_selects (args := #[]) (mvT hZ (own_w hw 38 rfl))) (mvT hZ (own_w hw 38 rfl)) (mvT hZ (own_w hw 37 rfl)) (by decide) (backOf (W := 0) (rm4_0_3 l Z a0 hw [] aix app kpp pn qe (0 : Int32) (1 : Int32) (3 : Int32) (0 : Int32) h57 n0 Zs57 Fentries_57 Fcount_57 Fend_57 Fplaces_57 Vpp_57) hZ (own_w hw 39 rfl) (own_w hw 5 rfl) (by decide) (by decide)) q59a q59c (g := (mkF m 353 (own_l76 sl0 sl1 p2 sl3 sl4 sl5 pn sl7 sl8 sl9 sl10 sl11 sl12 sl13 sl14 apl aix sl17 sl18 sl19 sl20 sl21 sl22 sl23 sl24) [(.int (0 : Int32)), (.ref aix)])) rfl (by rw [hml]; rfl) (Steps.refl _) (argsL := [(.int (0 : Int32))]) (rest := []) (lenOf own_pd0 rfl) rfl (by show 2 * 0 + _ ≤ _; exact Nat.le_of_eq rfl) (hb hby at_353) (fun _ _ => ⟨rfl, e57, (by decide : 5 + 0 ≤ _), (by decide : 23 + 0 ≤ _)⟩)
    dsimp only [Pt.U, Pt.locs, Pt.cells, Pt.slots] at X59 l59 y59 z59 st59 hQ59
    replace y59 : _ = 5 := y59
    replace z59 : _ = 23 := z59
    subst y59 z59
    obtain ⟨Nq59, rfl, eq59⟩ := hQ59
    have N59 := own_frl l59 N57 Nq59
    refine own_pre (fun t k => st59.trans k) ?_
    refine own_pre (A := (T59.setTop (mkF m 367 (own_l76 sl0 sl1 p2 sl3 sl4 sl5 pn sl7 sl8 sl9 sl10 sl11 sl12 sl13 sl14 apl aix sl17 sl18 sl19 sl20 sl21 sl22 sl23 sl24) [(.int (1 : Int32))]))) ?_ ?_
    · intro t k
      refine XS.lload X59.here hx rfl (hb hby at_356) rfl ?_
      refine XS.lcmp X59.here hx rfl (hb hby at_358) rfl ?_
      refine XS.ifNo X59.here hx rfl (hb hby at_359) rfl ((if0 _ _).trans (teq ((lw_eq ((1 : Int32).toInt64) (1 : Int64)).mpr (by decide : ((1 : Int32).toInt64) = (1 : Int64)))).2) ?_
      refine XS.iconst X59.here hx rfl (hb hby at_362) ?_
      refine XS.goto X59.here hx rfl (pc0 := 363) (pc' := 367) rfl (hb hby at_363) (by decide) (by decide) ?_
      exact k
    obtain ⟨fs, hr, hrun, hended, hW, hsame⟩ := X59.leave (hlocks := hlk) (v := some (.int (1 : Int32))) (fun h => by rw [hret] at h; cases h)
    refine ⟨_, _, retOut X59 hx hret rfl (Or.inl ⟨rfl, Or.inr (Or.inl rfl), _, rfl⟩) (hb hby at_367) hr, hrun, hended, _, _, rfl, ?_, ⟨_, rfl⟩, hW, hsame.mono (by decide) (by decide)⟩
    show own_Q0 h0 n0 _ T59.heap _
    rw [eq59]
    exact ⟨rfl, N59⟩
  · skip
    refine own_pre (A := (T57.setTop (mkF m 353 (own_l79 sl0 sl1 p2 sl3 sl4 sl5 pn sl7 sl8 sl9 sl10 sl11 sl12 sl13 sl14 apl aix sl17 sl18 sl19 sl20 sl21 sl22 sl23 sl24) [(.int (1 : Int32)), (.ref aix)]))) ?_ ?_
    · intro t k
      refine XS.aload X57.here hx rfl (hb hby at_282) rfl rfl ?_
      refine XS.iload X57.here hx rfl (hb hby at_284) rfl ?_
      show Steps p.tables e below (T57.setTop (mkF m 286 (own_l77 sl0 sl1 p2 sl3 sl4 sl5 pn sl7 sl8 sl9 sl10 sl11 sl12 sl13 sl14 apl aix sl17 sl18 sl19 sl20 sl21 sl22 sl23 sl24) [(.int (1 : Int32)), (.ref apl)])) _
      obtain ⟨cl60, Ar60, q60, S60, N60, H60, G60⟩ := id V57
      have hin60 : ¬ ((1 : Int32) < 0 ∨ cl60.slots.size ≤ ((1 : Int32)).toNatClampNeg) := inb_of S60 ⟨by decide, by decide⟩
      refine X57.iaload hx (j := (1 : Int32)) (v := (.int (1 : Int32))) (by rw [e57]; exact Ar60.1) (State.isArrayOf_alike hZ.alike Ar60.2.1) Ar60.2.2 hin60 (H60.at hin60 rfl) (g := (mkF m 286 (own_l77 sl0 sl1 p2 sl3 sl4 sl5 pn sl7 sl8 sl9 sl10 sl11 sl12 sl13 sl14 apl aix sl17 sl18 sl19 sl20 sl21 sl22 sl23 sl24) [(.int (1 : Int32)), (.ref apl)])) rfl rfl (hb hby at_286) _ ?_
      refine XS.istore X57.here hx rfl (hb hby at_287) rfl (l' := (own_l78 sl0 sl1 p2 sl3 sl4 sl5 pn sl7 sl8 sl9 sl10 sl11 sl12 sl13 sl14 apl aix sl17 sl18 sl19 sl20 sl21 sl22 sl23 sl24)) rfl ?_
      refine XS.iload X57.here hx rfl (hb hby at_289) rfl ?_
      refine XS.iconst X57.here hx rfl (hb hby at_291) ?_
      refine XS.icmpYes X57.here hx rfl (pc0 := 292) (pc' := 306) rfl (hb hby at_292) rfl (flt (by decide : ¬ ((1 : Int32) < (1 : Int32)))).2.1 (by decide) (by decide) ?_
      refine XS.iload X57.here hx rfl (hb hby at_306) rfl ?_
      refine XS.iconst X57.here hx rfl (hb hby at_308) ?_
      refine XS.icmpNo X57.here hx rfl (hb hby at_309) rfl (tlt (by decide : (1 : Int32) < (2 : Int32))).2.1 ?_
      refine XS.iload X57.here hx rfl (hb hby at_312) rfl ?_
      refine XS.ifYes X57.here hx rfl (pc0 := 314) (pc' := 325) rfl (hb hby at_314) rfl ((if0 _ _).trans (teq (by decide : (0 : Int32) = (0 : Int32))).1) (by decide) (by decide) ?_
      refine XS.iload X57.here hx rfl (hb hby at_325) rfl ?_
      refine XS.iconst X57.here hx rfl (hb hby at_327) ?_
      refine XS.icmpNo X57.here hx rfl (hb hby at_328) rfl (tlt (by decide : (1 : Int32) < (3 : Int32))).2.1 ?_
      refine XS.iload X57.here hx rfl (hb hby at_331) rfl ?_
      refine XS.ifNo X57.here hx rfl (hb hby at_333) rfl ((if0 _ _).trans (feq (by decide : ¬ ((1 : Int32) = (0 : Int32)))).1) ?_
      show Steps p.tables e below (T57.setTop (mkF m 336 (own_l78 sl0 sl1 p2 sl3 sl4 sl5 pn sl7 sl8 sl9 sl10 sl11 sl12 sl13 sl14 apl aix sl17 sl18 sl19 sl20 sl21 sl22 sl23 sl24) [])) _
      refine X57.ldc2Long hx hown (mvT hZ (own_w hw 40 rfl)) (g := (mkF m 336 (own_l78 sl0 sl1 p2 sl3 sl4 sl5 pn sl7 sl8 sl9 sl10 sl11 sl12 sl13 sl14 apl aix sl17 sl18 sl19 sl20 sl21 sl22 sl23 sl24) [])) rfl (hb hby at_336) _ ?_
      refine XS.lstore X57.here hx rfl (hb hby at_339) rfl (l' := (own_l79 sl0 sl1 p2 sl3 sl4 sl5 pn sl7 sl8 sl9 sl10 sl11 sl12 sl13 sl14 apl aix sl17 sl18 sl19 sl20 sl21 sl22 sl23 sl24)) rfl ?_
      refine XS.goto X57.here hx rfl (pc0 := 341) (pc' := 349) rfl (hb hby at_341) (by decide) (by decide) ?_
      refine XS.aload X57.here hx rfl (hb hby at_349) rfl rfl ?_
      refine XS.iload X57.here hx rfl (hb hby at_351) rfl ?_
      exact k
    obtain ⟨cq61, kq61, q61a, q61b, q61c⟩ := isOf hZ e57 Ex_57
    obtain ⟨_, _, ⟨T61, L61, k61, n61⟩, -, X61, ⟨Lc61, hQ61, l61, y61, z61⟩, st61⟩ := X57.virtualBack hx (y := (⟨"com/example/coho/coho/eventlog/SegmentIndex", "placeAfter", "(I)J"⟩ : MethodName)) (z := (⟨"com/example/coho/coho/eventlog/SegmentIndex", "placeAfter", "(I)J"⟩ : MethodName)) hown (mvT hZ (own_w hw 35 rfl)) (mvT hZ (own_w hw 36 rfl)) (notFace_of_selects (args := #[]) (mvT hZ (own_w hw 38 rfl))) (mvT hZ (own_w hw 38 rfl)) (mvT hZ (own_w hw 37 rfl)) (by decide) (backOf (W := 0) (rm4_1_3 l Z a0 hw [] aix app kpp pn qe (0 : Int32) (1 : Int32) (3 : Int32) (0 : Int32) h57 n0 Zs57 Fentries_57 Fcount_57 Fend_57 Fplaces_57 Vpp_57) hZ (own_w hw 39 rfl) (own_w hw 5 rfl) (by decide) (by decide)) q61a q61c (g := (mkF m 353 (own_l79 sl0 sl1 p2 sl3 sl4 sl5 pn sl7 sl8 sl9 sl10 sl11 sl12 sl13 sl14 apl aix sl17 sl18 sl19 sl20 sl21 sl22 sl23 sl24) [(.int (1 : Int32)), (.ref aix)])) rfl (by rw [hml]; rfl) (Steps.refl _) (argsL := [(.int (1 : Int32))]) (rest := []) (lenOf own_pd0 rfl) rfl (by show 2 * 0 + _ ≤ _; exact Nat.le_of_eq rfl) (hb hby at_353) (fun _ _ => ⟨rfl, e57, (by decide : 5 + 0 ≤ _), (by decide : 23 + 0 ≤ _)⟩)
    dsimp only [Pt.U, Pt.locs, Pt.cells, Pt.slots] at X61 l61 y61 z61 st61 hQ61
    replace y61 : _ = 5 := y61
    replace z61 : _ = 23 := z61
    subst y61 z61
    obtain ⟨Nq61, rfl, eq61⟩ := hQ61
    have N61 := own_frl l61 N57 Nq61
    refine own_pre (fun t k => st61.trans k) ?_
    refine own_pre (A := (T61.setTop (mkF m 367 (own_l79 sl0 sl1 p2 sl3 sl4 sl5 pn sl7 sl8 sl9 sl10 sl11 sl12 sl13 sl14 apl aix sl17 sl18 sl19 sl20 sl21 sl22 sl23 sl24) [(.int (1 : Int32))]))) ?_ ?_
    · intro t k
      refine XS.lload X61.here hx rfl (hb hby at_356) rfl ?_
      refine XS.lcmp X61.here hx rfl (hb hby at_358) rfl ?_
      refine XS.ifNo X61.here hx rfl (hb hby at_359) rfl ((if0 _ _).trans (teq ((lw_eq ((3 : Int32).toInt64) (3 : Int64)).mpr (by decide : ((3 : Int32).toInt64) = (3 : Int64)))).2) ?_
      refine XS.iconst X61.here hx rfl (hb hby at_362) ?_
      refine XS.goto X61.here hx rfl (pc0 := 363) (pc' := 367) rfl (hb hby at_363) (by decide) (by decide) ?_
      exact k
    obtain ⟨fs, hr, hrun, hended, hW, hsame⟩ := X61.leave (hlocks := hlk) (v := some (.int (1 : Int32))) (fun h => by rw [hret] at h; cases h)
    refine ⟨_, _, retOut X61 hx hret rfl (Or.inl ⟨rfl, Or.inr (Or.inl rfl), _, rfl⟩) (hb hby at_367) hr, hrun, hended, _, _, rfl, ?_, ⟨_, rfl⟩, hW, hsame.mono (by decide) (by decide)⟩
    show own_Q0 h0 n0 _ T61.heap _
    rw [eq61]
    exact ⟨rfl, N61⟩
  · skip
    refine own_pre (A := (T57.setTop (mkF m 353 (own_l82 sl0 sl1 p2 sl3 sl4 sl5 pn sl7 sl8 sl9 sl10 sl11 sl12 sl13 sl14 apl aix sl17 sl18 sl19 sl20 sl21 sl22 sl23 sl24) [(.int (2 : Int32)), (.ref aix)]))) ?_ ?_
    · intro t k
      refine XS.aload X57.here hx rfl (hb hby at_282) rfl rfl ?_
      refine XS.iload X57.here hx rfl (hb hby at_284) rfl ?_
      show Steps p.tables e below (T57.setTop (mkF m 286 (own_l80 sl0 sl1 p2 sl3 sl4 sl5 pn sl7 sl8 sl9 sl10 sl11 sl12 sl13 sl14 apl aix sl17 sl18 sl19 sl20 sl21 sl22 sl23 sl24) [(.int (2 : Int32)), (.ref apl)])) _
      obtain ⟨cl62, Ar62, q62, S62, N62, H62, G62⟩ := id V57
      have hin62 : ¬ ((2 : Int32) < 0 ∨ cl62.slots.size ≤ ((2 : Int32)).toNatClampNeg) := inb_of S62 ⟨by decide, by decide⟩
      refine X57.iaload hx (j := (2 : Int32)) (v := (.int (3 : Int32))) (by rw [e57]; exact Ar62.1) (State.isArrayOf_alike hZ.alike Ar62.2.1) Ar62.2.2 hin62 (H62.at hin62 rfl) (g := (mkF m 286 (own_l80 sl0 sl1 p2 sl3 sl4 sl5 pn sl7 sl8 sl9 sl10 sl11 sl12 sl13 sl14 apl aix sl17 sl18 sl19 sl20 sl21 sl22 sl23 sl24) [(.int (2 : Int32)), (.ref apl)])) rfl rfl (hb hby at_286) _ ?_
      refine XS.istore X57.here hx rfl (hb hby at_287) rfl (l' := (own_l81 sl0 sl1 p2 sl3 sl4 sl5 pn sl7 sl8 sl9 sl10 sl11 sl12 sl13 sl14 apl aix sl17 sl18 sl19 sl20 sl21 sl22 sl23 sl24)) rfl ?_
      refine XS.iload X57.here hx rfl (hb hby at_289) rfl ?_
      refine XS.iconst X57.here hx rfl (hb hby at_291) ?_
      refine XS.icmpYes X57.here hx rfl (pc0 := 292) (pc' := 306) rfl (hb hby at_292) rfl (flt (by decide : ¬ ((3 : Int32) < (1 : Int32)))).2.1 (by decide) (by decide) ?_
      refine XS.iload X57.here hx rfl (hb hby at_306) rfl ?_
      refine XS.iconst X57.here hx rfl (hb hby at_308) ?_
      refine XS.icmpYes X57.here hx rfl (pc0 := 309) (pc' := 325) rfl (hb hby at_309) rfl (flt (by decide : ¬ ((3 : Int32) < (2 : Int32)))).2.1 (by decide) (by decide) ?_
      refine XS.iload X57.here hx rfl (hb hby at_325) rfl ?_
      refine XS.iconst X57.here hx rfl (hb hby at_327) ?_
      refine XS.icmpYes X57.here hx rfl (pc0 := 328) (pc' := 344) rfl (hb hby at_328) rfl (flt (by decide : ¬ ((3 : Int32) < (3 : Int32)))).2.1 (by decide) (by decide) ?_
      refine XS.iload X57.here hx rfl (hb hby at_344) rfl ?_
      refine XS.i2l X57.here hx rfl (hb hby at_346) rfl ?_
      refine XS.lstore X57.here hx rfl (hb hby at_347) rfl (l' := (own_l82 sl0 sl1 p2 sl3 sl4 sl5 pn sl7 sl8 sl9 sl10 sl11 sl12 sl13 sl14 apl aix sl17 sl18 sl19 sl20 sl21 sl22 sl23 sl24)) rfl ?_
      refine XS.aload X57.here hx rfl (hb hby at_349) rfl rfl ?_
      refine XS.iload X57.here hx rfl (hb hby at_351) rfl ?_
      exact k
    obtain ⟨cq63, kq63, q63a, q63b, q63c⟩ := isOf hZ e57 Ex_57
    obtain ⟨_, _, ⟨T63, L63, k63, n63⟩, -, X63, ⟨Lc63, hQ63, l63, y63, z63⟩, st63⟩ := X57.virtualBack hx (y := (⟨"com/example/coho/coho/eventlog/SegmentIndex", "placeAfter", "(I)J"⟩ : MethodName)) (z := (⟨"com/example/coho/coho/eventlog/SegmentIndex", "placeAfter", "(I)J"⟩ : MethodName)) hown (mvT hZ (own_w hw 35 rfl)) (mvT hZ (own_w hw 36 rfl)) (notFace_of_selects (args := #[]) (mvT hZ (own_w hw 38 rfl))) (mvT hZ (own_w hw 38 rfl)) (mvT hZ (own_w hw 37 rfl)) (by decide) (backOf (W := 0) (rm4_2_3 l Z a0 hw [] aix app kpp pn qe (0 : Int32) (1 : Int32) (3 : Int32) (0 : Int32) h57 n0 Zs57 Fentries_57 Fcount_57 Fend_57 Fplaces_57 Vpp_57) hZ (own_w hw 39 rfl) (own_w hw 5 rfl) (by decide) (by decide)) q63a q63c (g := (mkF m 353 (own_l82 sl0 sl1 p2 sl3 sl4 sl5 pn sl7 sl8 sl9 sl10 sl11 sl12 sl13 sl14 apl aix sl17 sl18 sl19 sl20 sl21 sl22 sl23 sl24) [(.int (2 : Int32)), (.ref aix)])) rfl (by rw [hml]; rfl) (Steps.refl _) (argsL := [(.int (2 : Int32))]) (rest := []) (lenOf own_pd0 rfl) rfl (by show 2 * 0 + _ ≤ _; exact Nat.le_of_eq rfl) (hb hby at_353) (fun _ _ => ⟨rfl, e57, (by decide : 5 + 0 ≤ _), (by decide : 23 + 0 ≤ _)⟩)
    dsimp only [Pt.U, Pt.locs, Pt.cells, Pt.slots] at X63 l63 y63 z63 st63 hQ63
    replace y63 : _ = 5 := y63
    replace z63 : _ = 23 := z63
    subst y63 z63
    obtain ⟨Nq63, rfl, eq63⟩ := hQ63
    have N63 := own_frl l63 N57 Nq63
    refine own_pre (fun t k => st63.trans k) ?_
    refine own_pre (A := (T63.setTop (mkF m 367 (own_l82 sl0 sl1 p2 sl3 sl4 sl5 pn sl7 sl8 sl9 sl10 sl11 sl12 sl13 sl14 apl aix sl17 sl18 sl19 sl20 sl21 sl22 sl23 sl24) [(.int (1 : Int32))]))) ?_ ?_
    · intro t k
      refine XS.lload X63.here hx rfl (hb hby at_356) rfl ?_
      refine XS.lcmp X63.here hx rfl (hb hby at_358) rfl ?_
      refine XS.ifNo X63.here hx rfl (hb hby at_359) rfl ((if0 _ _).trans (teq ((lw_eq (pn.toInt64) (pn.toInt64)).mpr (rfl : (pn.toInt64) = (pn.toInt64)))).2) ?_
      refine XS.iconst X63.here hx rfl (hb hby at_362) ?_
      refine XS.goto X63.here hx rfl (pc0 := 363) (pc' := 367) rfl (hb hby at_363) (by decide) (by decide) ?_
      exact k
    obtain ⟨fs, hr, hrun, hended, hW, hsame⟩ := X63.leave (hlocks := hlk) (v := some (.int (1 : Int32))) (fun h => by rw [hret] at h; cases h)
    refine ⟨_, _, retOut X63 hx hret rfl (Or.inl ⟨rfl, Or.inr (Or.inl rfl), _, rfl⟩) (hb hby at_367) hr, hrun, hended, _, _, rfl, ?_, ⟨_, rfl⟩, hW, hsame.mono (by decide) (by decide)⟩
    show own_Q0 h0 n0 _ T63.heap _
    rw [eq63]
    exact ⟨rfl, N63⟩
abbrev own_l83 (x0 : Slot) (x1 : Slot) (x2 : Int32) (x3 : Slot) (x4 : Slot) (x5 : Slot) (x6 : Int32) (x7 : Slot) (x8 : Slot) (x9 : Slot) (x10 : Slot) (x11 : Slot) (x12 : Slot) (x13 : Slot) (x14 : Slot) (x15 : Addr) (x16 : Addr) (x17 : Slot) (x18 : Slot) (x19 : Slot) (x20 : Slot) (x21 : Slot) (x22 : Slot) (x23 : Slot) (x24 : Slot) : Array Slot := #[x0, x1, .val (.int x2), x3, x4, x5, .val (.int x6), x7, x8, x9, x10, x11, x12, x13, x14, .val (.ref x15), .val (.ref x16), x17, x18, x19, x20, x21, x22, x23, x24, .val (.int (1 : Int32)), .val (.int (1 : Int32)), .val (.int (0 : Int32)), .unset, .unset, .unset, .unset, .unset]
abbrev own_l84 (x0 : Slot) (x1 : Slot) (x2 : Int32) (x3 : Slot) (x4 : Slot) (x5 : Slot) (x6 : Int32) (x7 : Slot) (x8 : Slot) (x9 : Slot) (x10 : Slot) (x11 : Slot) (x12 : Slot) (x13 : Slot) (x14 : Slot) (x15 : Addr) (x16 : Addr) (x17 : Slot) (x18 : Slot) (x19 : Slot) (x20 : Slot) (x21 : Slot) (x22 : Slot) (x23 : Slot) (x24 : Slot) : Array Slot := #[x0, x1, .val (.int x2), x3, x4, x5, .val (.int x6), x7, x8, x9, x10, x11, x12, x13, x14, .val (.ref x15), .val (.ref x16), x17, x18, x19, x20, x21, x22, x23, x24, .val (.int (1 : Int32)), .val (.int (1 : Int32)), .val (.int (0 : Int32)), .val (.int (0 : Int32)), .unset, .unset, .unset, .unset]
abbrev own_l85 (x0 : Slot) (x1 : Slot) (x2 : Int32) (x3 : Slot) (x4 : Slot) (x5 : Slot) (x6 : Int32) (x7 : Slot) (x8 : Slot) (x9 : Slot) (x10 : Slot) (x11 : Slot) (x12 : Slot) (x13 : Slot) (x14 : Slot) (x15 : Addr) (x16 : Addr) (x17 : Slot) (x18 : Slot) (x19 : Slot) (x20 : Slot) (x21 : Slot) (x22 : Slot) (x23 : Slot) (x24 : Slot) : Array Slot := #[x0, x1, .val (.int x2), x3, x4, x5, .val (.int x6), x7, x8, x9, x10, x11, x12, x13, x14, .val (.ref x15), .val (.ref x16), x17, x18, x19, x20, x21, x22, x23, x24, .val (.int (1 : Int32)), .val (.int (1 : Int32)), .val (.int (0 : Int32)), .val (.int ((0 : Int32) + (1 : Int32))), .unset, .unset, .unset, .unset]
abbrev own_l86 (x0 : Slot) (x1 : Slot) (x2 : Int32) (x3 : Slot) (x4 : Slot) (x5 : Slot) (x6 : Int32) (x7 : Slot) (x8 : Slot) (x9 : Slot) (x10 : Slot) (x11 : Slot) (x12 : Slot) (x13 : Slot) (x14 : Slot) (x15 : Addr) (x16 : Addr) (x17 : Slot) (x18 : Slot) (x19 : Slot) (x20 : Slot) (x21 : Slot) (x22 : Slot) (x23 : Slot) (x24 : Slot) : Array Slot := #[x0, x1, .val (.int x2), x3, x4, x5, .val (.int x6), x7, x8, x9, x10, x11, x12, x13, x14, .val (.ref x15), .val (.ref x16), x17, x18, x19, x20, x21, x22, x23, x24, .val (.int (1 : Int32)), .val (.int (1 : Int32)), .val (.int (0 : Int32)), .val (.int (1 : Int32)), .unset, .unset, .unset, .unset]
abbrev own_l87 (x0 : Slot) (x1 : Slot) (x2 : Int32) (x3 : Slot) (x4 : Slot) (x5 : Slot) (x6 : Int32) (x7 : Slot) (x8 : Slot) (x9 : Slot) (x10 : Slot) (x11 : Slot) (x12 : Slot) (x13 : Slot) (x14 : Slot) (x15 : Addr) (x16 : Addr) (x17 : Slot) (x18 : Slot) (x19 : Slot) (x20 : Slot) (x21 : Slot) (x22 : Slot) (x23 : Slot) (x24 : Slot) : Array Slot := #[x0, x1, .val (.int x2), x3, x4, x5, .val (.int x6), x7, x8, x9, x10, x11, x12, x13, x14, .val (.ref x15), .val (.ref x16), x17, x18, x19, x20, x21, x22, x23, x24, .val (.int (1 : Int32)), .val (.int (1 : Int32)), .val (.int (0 : Int32)), .val (.int ((1 : Int32) + (1 : Int32))), .unset, .unset, .unset, .unset]
abbrev own_l88 (x0 : Slot) (x1 : Slot) (x2 : Int32) (x3 : Slot) (x4 : Slot) (x5 : Slot) (x6 : Int32) (x7 : Slot) (x8 : Slot) (x9 : Slot) (x10 : Slot) (x11 : Slot) (x12 : Slot) (x13 : Slot) (x14 : Slot) (x15 : Addr) (x16 : Addr) (x17 : Slot) (x18 : Slot) (x19 : Slot) (x20 : Slot) (x21 : Slot) (x22 : Slot) (x23 : Slot) (x24 : Slot) : Array Slot := #[x0, x1, .val (.int x2), x3, x4, x5, .val (.int x6), x7, x8, x9, x10, x11, x12, x13, x14, .val (.ref x15), .val (.ref x16), x17, x18, x19, x20, x21, x22, x23, x24, .val (.int (1 : Int32)), .val (.int (1 : Int32)), .val (.int (0 : Int32)), .val (.int (2 : Int32)), .unset, .unset, .unset, .unset]
abbrev own_l89 (x0 : Slot) (x1 : Slot) (x2 : Int32) (x3 : Slot) (x4 : Slot) (x5 : Slot) (x6 : Int32) (x7 : Slot) (x8 : Slot) (x9 : Slot) (x10 : Slot) (x11 : Slot) (x12 : Slot) (x13 : Slot) (x14 : Slot) (x15 : Addr) (x16 : Addr) (x17 : Slot) (x18 : Slot) (x19 : Slot) (x20 : Slot) (x21 : Slot) (x22 : Slot) (x23 : Slot) (x24 : Slot) : Array Slot := #[x0, x1, .val (.int x2), x3, x4, x5, .val (.int x6), x7, x8, x9, x10, x11, x12, x13, x14, .val (.ref x15), .val (.ref x16), x17, x18, x19, x20, x21, x22, x23, x24, .val (.int (1 : Int32)), .val (.int (1 : Int32)), .val (.int (0 : Int32)), .val (.int ((2 : Int32) + (1 : Int32))), .unset, .unset, .unset, .unset]
abbrev own_l90 (x0 : Slot) (x1 : Slot) (x2 : Int32) (x3 : Slot) (x4 : Slot) (x5 : Slot) (x6 : Int32) (x7 : Slot) (x8 : Slot) (x9 : Slot) (x10 : Slot) (x11 : Slot) (x12 : Slot) (x13 : Slot) (x14 : Slot) (x15 : Addr) (x16 : Addr) (x17 : Slot) (x18 : Slot) (x19 : Slot) (x20 : Slot) (x21 : Slot) (x22 : Slot) (x23 : Slot) (x24 : Slot) : Array Slot := #[x0, x1, .val (.int x2), x3, x4, x5, .val (.int x6), x7, x8, x9, x10, x11, x12, x13, x14, .val (.ref x15), .val (.ref x16), x17, x18, x19, x20, x21, x22, x23, x24, .val (.int (1 : Int32)), .val (.int (1 : Int32)), .val (.int (0 : Int32)), .val (.int (3 : Int32)), .unset, .unset, .unset, .unset]
abbrev own_l91 (x0 : Slot) (x1 : Slot) (x2 : Int32) (x3 : Slot) (x4 : Slot) (x5 : Slot) (x6 : Int32) (x7 : Slot) (x8 : Slot) (x9 : Slot) (x10 : Slot) (x11 : Slot) (x12 : Slot) (x13 : Slot) (x14 : Slot) (x15 : Addr) (x16 : Addr) (x17 : Slot) (x18 : Slot) (x19 : Slot) (x20 : Slot) (x21 : Slot) (x22 : Slot) (x23 : Slot) (x24 : Slot) : Array Slot := #[x0, x1, .val (.int x2), x3, x4, x5, .val (.int x6), x7, x8, x9, x10, x11, x12, x13, x14, .val (.ref x15), .val (.ref x16), x17, x18, x19, x20, x21, x22, x23, x24, .val (.int (1 : Int32)), .val (.int (1 : Int32)), .val (.int (0 : Int32)), .val (.int (3 : Int32)), .val (.int ((((x2.toUInt32 >>> ((2 : Int32) &&& 31).toUInt32).toInt32) &&& (3 : Int32)) % (3 : Int32))), .unset, .unset, .unset]
abbrev own_l92 (x0 : Slot) (x1 : Slot) (x2 : Int32) (x3 : Slot) (x4 : Slot) (x5 : Slot) (x6 : Int32) (x7 : Slot) (x8 : Slot) (x9 : Slot) (x10 : Slot) (x11 : Slot) (x12 : Slot) (x13 : Slot) (x14 : Slot) (x15 : Addr) (x16 : Addr) (x17 : Slot) (x18 : Slot) (x19 : Slot) (x20 : Slot) (x21 : Slot) (x22 : Slot) (x23 : Slot) (x24 : Slot) : Array Slot := #[x0, x1, .val (.int x2), x3, x4, x5, .val (.int x6), x7, x8, x9, x10, x11, x12, x13, x14, .val (.ref x15), .val (.ref x16), x17, x18, x19, x20, x21, x22, x23, x24, .val (.int (1 : Int32)), .val (.int (1 : Int32)), .val (.int (0 : Int32)), .val (.int (3 : Int32)), .val (.int (0 : Int32)), .unset, .unset, .unset]
abbrev own_l93 (x0 : Slot) (x1 : Slot) (x2 : Int32) (x3 : Slot) (x4 : Slot) (x5 : Slot) (x6 : Int32) (x7 : Slot) (x8 : Slot) (x9 : Slot) (x10 : Slot) (x11 : Slot) (x12 : Slot) (x13 : Slot) (x14 : Slot) (x15 : Addr) (x16 : Addr) (x17 : Slot) (x18 : Slot) (x19 : Slot) (x20 : Slot) (x21 : Slot) (x22 : Slot) (x23 : Slot) (x24 : Slot) : Array Slot := #[x0, x1, .val (.int x2), x3, x4, x5, .val (.int x6), x7, x8, x9, x10, x11, x12, x13, x14, .val (.ref x15), .val (.ref x16), x17, x18, x19, x20, x21, x22, x23, x24, .val (.int (1 : Int32)), .val (.int (1 : Int32)), .val (.int (0 : Int32)), .val (.int (3 : Int32)), .val (.int (0 : Int32)), .val (.int (0 : Int32)), .unset, .unset]
abbrev own_l94 (x0 : Slot) (x1 : Slot) (x2 : Int32) (x3 : Slot) (x4 : Slot) (x5 : Slot) (x6 : Int32) (x7 : Slot) (x8 : Slot) (x9 : Slot) (x10 : Slot) (x11 : Slot) (x12 : Slot) (x13 : Slot) (x14 : Slot) (x15 : Addr) (x16 : Addr) (x17 : Slot) (x18 : Slot) (x19 : Slot) (x20 : Slot) (x21 : Slot) (x22 : Slot) (x23 : Slot) (x24 : Slot) : Array Slot := #[x0, x1, .val (.int x2), x3, x4, x5, .val (.int x6), x7, x8, x9, x10, x11, x12, x13, x14, .val (.ref x15), .val (.ref x16), x17, x18, x19, x20, x21, x22, x23, x24, .val (.int (1 : Int32)), .val (.int (1 : Int32)), .val (.int (0 : Int32)), .val (.int (3 : Int32)), .val (.int (0 : Int32)), .val (.int (0 : Int32)), .val (.long (1 : Int64)), .second]
abbrev own_l95 (x0 : Slot) (x1 : Slot) (x2 : Int32) (x3 : Slot) (x4 : Slot) (x5 : Slot) (x6 : Int32) (x7 : Slot) (x8 : Slot) (x9 : Slot) (x10 : Slot) (x11 : Slot) (x12 : Slot) (x13 : Slot) (x14 : Slot) (x15 : Addr) (x16 : Addr) (x17 : Slot) (x18 : Slot) (x19 : Slot) (x20 : Slot) (x21 : Slot) (x22 : Slot) (x23 : Slot) (x24 : Slot) : Array Slot := #[x0, x1, .val (.int x2), x3, x4, x5, .val (.int x6), x7, x8, x9, x10, x11, x12, x13, x14, .val (.ref x15), .val (.ref x16), x17, x18, x19, x20, x21, x22, x23, x24, .val (.int (1 : Int32)), .val (.int (1 : Int32)), .val (.int (0 : Int32)), .val (.int (3 : Int32)), .val (.int (1 : Int32)), .unset, .unset, .unset]
abbrev own_l96 (x0 : Slot) (x1 : Slot) (x2 : Int32) (x3 : Slot) (x4 : Slot) (x5 : Slot) (x6 : Int32) (x7 : Slot) (x8 : Slot) (x9 : Slot) (x10 : Slot) (x11 : Slot) (x12 : Slot) (x13 : Slot) (x14 : Slot) (x15 : Addr) (x16 : Addr) (x17 : Slot) (x18 : Slot) (x19 : Slot) (x20 : Slot) (x21 : Slot) (x22 : Slot) (x23 : Slot) (x24 : Slot) : Array Slot := #[x0, x1, .val (.int x2), x3, x4, x5, .val (.int x6), x7, x8, x9, x10, x11, x12, x13, x14, .val (.ref x15), .val (.ref x16), x17, x18, x19, x20, x21, x22, x23, x24, .val (.int (1 : Int32)), .val (.int (1 : Int32)), .val (.int (0 : Int32)), .val (.int (3 : Int32)), .val (.int (1 : Int32)), .val (.int (1 : Int32)), .unset, .unset]
abbrev own_l97 (x0 : Slot) (x1 : Slot) (x2 : Int32) (x3 : Slot) (x4 : Slot) (x5 : Slot) (x6 : Int32) (x7 : Slot) (x8 : Slot) (x9 : Slot) (x10 : Slot) (x11 : Slot) (x12 : Slot) (x13 : Slot) (x14 : Slot) (x15 : Addr) (x16 : Addr) (x17 : Slot) (x18 : Slot) (x19 : Slot) (x20 : Slot) (x21 : Slot) (x22 : Slot) (x23 : Slot) (x24 : Slot) : Array Slot := #[x0, x1, .val (.int x2), x3, x4, x5, .val (.int x6), x7, x8, x9, x10, x11, x12, x13, x14, .val (.ref x15), .val (.ref x16), x17, x18, x19, x20, x21, x22, x23, x24, .val (.int (1 : Int32)), .val (.int (1 : Int32)), .val (.int (0 : Int32)), .val (.int (3 : Int32)), .val (.int (1 : Int32)), .val (.int (1 : Int32)), .val (.long (2 : Int64)), .second]
abbrev own_l98 (x0 : Slot) (x1 : Slot) (x2 : Int32) (x3 : Slot) (x4 : Slot) (x5 : Slot) (x6 : Int32) (x7 : Slot) (x8 : Slot) (x9 : Slot) (x10 : Slot) (x11 : Slot) (x12 : Slot) (x13 : Slot) (x14 : Slot) (x15 : Addr) (x16 : Addr) (x17 : Slot) (x18 : Slot) (x19 : Slot) (x20 : Slot) (x21 : Slot) (x22 : Slot) (x23 : Slot) (x24 : Slot) : Array Slot := #[x0, x1, .val (.int x2), x3, x4, x5, .val (.int x6), x7, x8, x9, x10, x11, x12, x13, x14, .val (.ref x15), .val (.ref x16), x17, x18, x19, x20, x21, x22, x23, x24, .val (.int (1 : Int32)), .val (.int (1 : Int32)), .val (.int (0 : Int32)), .val (.int (3 : Int32)), .val (.int (2 : Int32)), .unset, .unset, .unset]
abbrev own_l99 (x0 : Slot) (x1 : Slot) (x2 : Int32) (x3 : Slot) (x4 : Slot) (x5 : Slot) (x6 : Int32) (x7 : Slot) (x8 : Slot) (x9 : Slot) (x10 : Slot) (x11 : Slot) (x12 : Slot) (x13 : Slot) (x14 : Slot) (x15 : Addr) (x16 : Addr) (x17 : Slot) (x18 : Slot) (x19 : Slot) (x20 : Slot) (x21 : Slot) (x22 : Slot) (x23 : Slot) (x24 : Slot) : Array Slot := #[x0, x1, .val (.int x2), x3, x4, x5, .val (.int x6), x7, x8, x9, x10, x11, x12, x13, x14, .val (.ref x15), .val (.ref x16), x17, x18, x19, x20, x21, x22, x23, x24, .val (.int (1 : Int32)), .val (.int (1 : Int32)), .val (.int (0 : Int32)), .val (.int (3 : Int32)), .val (.int (2 : Int32)), .val (.int (2 : Int32)), .unset, .unset]
abbrev own_l100 (x0 : Slot) (x1 : Slot) (x2 : Int32) (x3 : Slot) (x4 : Slot) (x5 : Slot) (x6 : Int32) (x7 : Slot) (x8 : Slot) (x9 : Slot) (x10 : Slot) (x11 : Slot) (x12 : Slot) (x13 : Slot) (x14 : Slot) (x15 : Addr) (x16 : Addr) (x17 : Slot) (x18 : Slot) (x19 : Slot) (x20 : Slot) (x21 : Slot) (x22 : Slot) (x23 : Slot) (x24 : Slot) : Array Slot := #[x0, x1, .val (.int x2), x3, x4, x5, .val (.int x6), x7, x8, x9, x10, x11, x12, x13, x14, .val (.ref x15), .val (.ref x16), x17, x18, x19, x20, x21, x22, x23, x24, .val (.int (1 : Int32)), .val (.int (1 : Int32)), .val (.int (0 : Int32)), .val (.int (3 : Int32)), .val (.int (2 : Int32)), .val (.int (2 : Int32)), .val (.long (x6.toInt64)), .second]
set_option maxRecDepth 65536 in
set_option maxHeartbeats 40000000 in
theorem own_suf_110 {p : Program} {l : Launch} {e : Env} {s : State} {m : MethodId} {args : Array Value} {below : List Frame} {meth : Method} {c : Code} {T0 : State} {locs : List Loc} {Z : State} {a0 : Array Value} {h0 h1 : Heap} {n0 : Nat} {p2 pn : Int32} {qe : Int64} {apl aix app : Addr} {kpl kpp : ClassId} {sl0 sl1 sl3 sl4 sl5 sl7 sl8 sl9 sl10 sl11 sl12 sl13 sl14 sl17 sl18 sl19 sl20 sl21 sl22 sl23 sl24 : Slot} (X0 : Stand p l e room_1 s m args below meth c T0 locs 5 23) (hx : p.tables.exec = Jvm.exec) (hZ : Z.Warmed39 s.vm) (hw : ∀ d ∈ tables_1, d.before a0 Z = true) (hby : c.code = code) (hml : c.maxLocals = 33) (hown : s.vm.findClass "com/example/coho/coho/eventlog/SegmentIndexPlaceAfterPinLaw" = some m.cls) (hret : meth.sig.returnType = some .boolean) (hlk : meth.locks = false) (e0 : T0.heap = h1) (N0 : Fr n0 locs) (Zs0 : n0 ≤ h1.size) (K0 : Keep h0 h1 []) (Ex : Exa Z h1 aix "com/example/coho/coho/eventlog/SegmentIndex") (Fentries : Fld Z h1 aix "com/example/coho/coho/eventlog/SegmentIndex" "entries" "I" (.int (3 : Int32))) (Fcount : Fld Z h1 aix "com/example/coho/coho/eventlog/SegmentIndex" "count" "I" (.int pn)) (Fend : Fld Z h1 aix "com/example/coho/coho/eventlog/SegmentIndex" "end" "J" (.long qe)) (Fplaces : Fld Z h1 aix "com/example/coho/coho/eventlog/SegmentIndex" "places" "[I" (.ref app)) (Vpp : Arv Z h1 app kpp .int (4 : Int32) [(.int (0 : Int32)), (.int (1 : Int32)), (.int (2 : Int32)), (.int (0 : Int32))] (.int (0 : Int32))) (Vpl : Arv Z h1 apl kpl .int (4 : Int32) [(.int (0 : Int32)), (.int (0 : Int32)), (.int (0 : Int32)), (.int (0 : Int32))] (.int (0 : Int32))) (nix : aix ≠ apl) (npp : app ≠ apl) (gpl : n0 ≤ apl) (spl : h0.size ≤ apl) :
    ∃ s₂ o, Steps p.tables e below (T0.setTop (mkF m 218 (own_l83 sl0 sl1 p2 sl3 sl4 sl5 pn sl7 sl8 sl9 sl10 sl11 sl12 sl13 sl14 apl aix sl17 sl18 sl19 sl20 sl21 sl22 sl23 sl24) [])) s₂ ∧ s₂.status = .running ∧ Ended s₂ below o ∧ (∃ v L, o = .returned v ∧ own_Q0 h0 n0 v s₂.heap L ∧ FrameEnd s o s₂ L room_1.cells room_1.slots) := by
  refine own_pre (A := (T0.setTop (mkF m 226 (own_l84 sl0 sl1 p2 sl3 sl4 sl5 pn sl7 sl8 sl9 sl10 sl11 sl12 sl13 sl14 apl aix sl17 sl18 sl19 sl20 sl21 sl22 sl23 sl24) [(.int (0 : Int32)), (.int (0 : Int32)), (.ref apl)]))) ?_ ?_
  · intro t k
    refine XS.iconst X0.here hx rfl (hb hby at_218) ?_
    refine XS.istore X0.here hx rfl (hb hby at_219) rfl (l' := (own_l84 sl0 sl1 p2 sl3 sl4 sl5 pn sl7 sl8 sl9 sl10 sl11 sl12 sl13 sl14 apl aix sl17 sl18 sl19 sl20 sl21 sl22 sl23 sl24)) rfl ?_
    refine XS.aload X0.here hx rfl (hb hby at_221) rfl rfl ?_
    refine XS.iload X0.here hx rfl (hb hby at_223) rfl ?_
    refine XS.iconst X0.here hx rfl (hb hby at_225) ?_
    exact k
  obtain ⟨cl64, Ar64, q64, S64, N64, H64, G64⟩ := Vpl
  have hin64 : ¬ ((0 : Int32) < 0 ∨ cl64.slots.size ≤ ((0 : Int32)).toNatClampNeg) := inb_of S64 ⟨by decide, by decide⟩
  obtain ⟨T64, h64, X64, e64, W64, st64⟩ := stI X0 hx hZ e0 Ar64 (j := (0 : Int32)) hin64 (g := (mkF m 226 (own_l84 sl0 sl1 p2 sl3 sl4 sl5 pn sl7 sl8 sl9 sl10 sl11 sl12 sl13 sl14 apl aix sl17 sl18 sl19 sl20 sl21 sl22 sl23 sl24) [(.int (0 : Int32)), (.int (0 : Int32)), (.ref apl)])) rfl rfl (hb hby at_226)
  have V64 : Arv Z h64 apl kpl .int (4 : Int32) [(.int (0 : Int32)), (.int (0 : Int32)), (.int (0 : Int32)), (.int (0 : Int32))] (.int (0 : Int32)) := Arv.set Ar64 q64 S64 N64 H64 G64 rfl W64 0 rfl (Nat.le_of_ble_eq_true rfl)
  have Ex_64 := Ex.wr W64
  have Fentries_64 := Fentries.other W64 (Or.inl nix)
  have Fcount_64 := Fcount.other W64 (Or.inl nix)
  have Fend_64 := Fend.other W64 (Or.inl nix)
  have Fplaces_64 := Fplaces.other W64 (Or.inl nix)
  have Vpp_64 := Vpp.other W64 npp
  have Zs64 : n0 ≤ h64.size := Nat.le_trans Zs0 (Keep.of_wr W64).1
  have N64 := Fr.snoc X64 N0 gpl
  refine own_pre (fun t k => st64 t k) ?_
  refine own_pre (A := (T64.setTop (mkF m 240 (own_l86 sl0 sl1 p2 sl3 sl4 sl5 pn sl7 sl8 sl9 sl10 sl11 sl12 sl13 sl14 apl aix sl17 sl18 sl19 sl20 sl21 sl22 sl23 sl24) [(.int (1 : Int32)), (.int (1 : Int32)), (.ref apl)]))) ?_ ?_
  · intro t k
    refine XS.iinc X64.here hx rfl (hb hby at_227) rfl (l' := (own_l85 sl0 sl1 p2 sl3 sl4 sl5 pn sl7 sl8 sl9 sl10 sl11 sl12 sl13 sl14 apl aix sl17 sl18 sl19 sl20 sl21 sl22 sl23 sl24)) rfl ?_
    show Steps  p.tables e below (T64.setTop (mkF m 230 #[sl0, sl1, .val (.int p2), sl3, sl4, sl5, .val (.int pn), sl7, sl8, sl9, sl10, sl11, sl12, sl13, sl14, .val (.ref apl), .val (.ref aix), sl17, sl18, sl19, sl20, sl21, sl22, sl23, sl24, .val (.int (1 : Int32)), .val (.int (1 : Int32)), .val (.int (0 : Int32)), .val (.int ((0 : Int32) + (1 : Int32))), .unset, .unset, .unset, .unset] [])) _
    rw [show ((0 : Int32) + (1 : Int32)) = (1 : Int32) from by decide]
    refine XS.iload X64.here hx rfl (hb hby at_230) rfl ?_
    refine XS.ifNo X64.here hx rfl (hb hby at_232) rfl ((if0 _ _).trans (feq (by decide : ¬ ((1 : Int32) = (0 : Int32)))).1) ?_
    refine XS.aload X64.here hx rfl (hb hby at_235) rfl rfl ?_
    refine XS.iload X64.here hx rfl (hb hby at_237) rfl ?_
    refine XS.iconst X64.here hx rfl (hb hby at_239) ?_
    exact k
  obtain ⟨cl65, Ar65, q65, S65, N65, H65, G65⟩ := V64
  have hin65 : ¬ ((1 : Int32) < 0 ∨ cl65.slots.size ≤ ((1 : Int32)).toNatClampNeg) := inb_of S65 ⟨by decide, by decide⟩
  obtain ⟨T65, h65, X65, e65, W65, st65⟩ := stI X64 hx hZ e64 Ar65 (j := (1 : Int32)) hin65 (g := (mkF m 240 (own_l86 sl0 sl1 p2 sl3 sl4 sl5 pn sl7 sl8 sl9 sl10 sl11 sl12 sl13 sl14 apl aix sl17 sl18 sl19 sl20 sl21 sl22 sl23 sl24) [(.int (1 : Int32)), (.int (1 : Int32)), (.ref apl)])) rfl rfl (hb hby at_240)
  have V65 : Arv Z h65 apl kpl .int (4 : Int32) [(.int (0 : Int32)), (.int (1 : Int32)), (.int (0 : Int32)), (.int (0 : Int32))] (.int (0 : Int32)) := Arv.set Ar65 q65 S65 N65 H65 G65 rfl W65 1 rfl (Nat.le_of_ble_eq_true rfl)
  have Ex_65 := Ex_64.wr W65
  have Fentries_65 := Fentries_64.other W65 (Or.inl nix)
  have Fcount_65 := Fcount_64.other W65 (Or.inl nix)
  have Fend_65 := Fend_64.other W65 (Or.inl nix)
  have Fplaces_65 := Fplaces_64.other W65 (Or.inl nix)
  have Vpp_65 := Vpp_64.other W65 npp
  have Zs65 : n0 ≤ h65.size := Nat.le_trans Zs64 (Keep.of_wr W65).1
  have N65 := Fr.snoc X65 N64 gpl
  refine own_pre (fun t k => st65 t k) ?_
  refine own_pre (A := (T65.setTop (mkF m 254 (own_l88 sl0 sl1 p2 sl3 sl4 sl5 pn sl7 sl8 sl9 sl10 sl11 sl12 sl13 sl14 apl aix sl17 sl18 sl19 sl20 sl21 sl22 sl23 sl24) [(.int (2 : Int32)), (.int (2 : Int32)), (.ref apl)]))) ?_ ?_
  · intro t k
    refine XS.iinc X65.here hx rfl (hb hby at_241) rfl (l' := (own_l87 sl0 sl1 p2 sl3 sl4 sl5 pn sl7 sl8 sl9 sl10 sl11 sl12 sl13 sl14 apl aix sl17 sl18 sl19 sl20 sl21 sl22 sl23 sl24)) rfl ?_
    show Steps  p.tables e below (T65.setTop (mkF m 244 #[sl0, sl1, .val (.int p2), sl3, sl4, sl5, .val (.int pn), sl7, sl8, sl9, sl10, sl11, sl12, sl13, sl14, .val (.ref apl), .val (.ref aix), sl17, sl18, sl19, sl20, sl21, sl22, sl23, sl24, .val (.int (1 : Int32)), .val (.int (1 : Int32)), .val (.int (0 : Int32)), .val (.int ((1 : Int32) + (1 : Int32))), .unset, .unset, .unset, .unset] [])) _
    rw [show ((1 : Int32) + (1 : Int32)) = (2 : Int32) from by decide]
    refine XS.iload X65.here hx rfl (hb hby at_244) rfl ?_
    refine XS.ifNo X65.here hx rfl (hb hby at_246) rfl ((if0 _ _).trans (feq (by decide : ¬ ((1 : Int32) = (0 : Int32)))).1) ?_
    refine XS.aload X65.here hx rfl (hb hby at_249) rfl rfl ?_
    refine XS.iload X65.here hx rfl (hb hby at_251) rfl ?_
    refine XS.iconst X65.here hx rfl (hb hby at_253) ?_
    exact k
  obtain ⟨cl66, Ar66, q66, S66, N66, H66, G66⟩ := V65
  have hin66 : ¬ ((2 : Int32) < 0 ∨ cl66.slots.size ≤ ((2 : Int32)).toNatClampNeg) := inb_of S66 ⟨by decide, by decide⟩
  obtain ⟨T66, h66, X66, e66, W66, st66⟩ := stI X65 hx hZ e65 Ar66 (j := (2 : Int32)) hin66 (g := (mkF m 254 (own_l88 sl0 sl1 p2 sl3 sl4 sl5 pn sl7 sl8 sl9 sl10 sl11 sl12 sl13 sl14 apl aix sl17 sl18 sl19 sl20 sl21 sl22 sl23 sl24) [(.int (2 : Int32)), (.int (2 : Int32)), (.ref apl)])) rfl rfl (hb hby at_254)
  have V66 : Arv Z h66 apl kpl .int (4 : Int32) [(.int (0 : Int32)), (.int (1 : Int32)), (.int (2 : Int32)), (.int (0 : Int32))] (.int (0 : Int32)) := Arv.set Ar66 q66 S66 N66 H66 G66 rfl W66 2 rfl (Nat.le_of_ble_eq_true rfl)
  have Ex_66 := Ex_65.wr W66
  have Fentries_66 := Fentries_65.other W66 (Or.inl nix)
  have Fcount_66 := Fcount_65.other W66 (Or.inl nix)
  have Fend_66 := Fend_65.other W66 (Or.inl nix)
  have Fplaces_66 := Fplaces_65.other W66 (Or.inl nix)
  have Vpp_66 := Vpp_65.other W66 npp
  have Zs66 : n0 ≤ h66.size := Nat.le_trans Zs65 (Keep.of_wr W66).1
  have N66 := Fr.snoc X66 N65 gpl
  refine own_pre (fun t k => st66 t k) ?_
  refine own_pre (A := (T66.setTop (mkF m 282 (own_l91 sl0 sl1 p2 sl3 sl4 sl5 pn sl7 sl8 sl9 sl10 sl11 sl12 sl13 sl14 apl aix sl17 sl18 sl19 sl20 sl21 sl22 sl23 sl24) []))) ?_ ?_
  · intro t k
    refine XS.iinc X66.here hx rfl (hb hby at_255) rfl (l' := (own_l89 sl0 sl1 p2 sl3 sl4 sl5 pn sl7 sl8 sl9 sl10 sl11 sl12 sl13 sl14 apl aix sl17 sl18 sl19 sl20 sl21 sl22 sl23 sl24)) rfl ?_
    show Steps  p.tables e below (T66.setTop (mkF m 258 #[sl0, sl1, .val (.int p2), sl3, sl4, sl5, .val (.int pn), sl7, sl8, sl9, sl10, sl11, sl12, sl13, sl14, .val (.ref apl), .val (.ref aix), sl17, sl18, sl19, sl20, sl21, sl22, sl23, sl24, .val (.int (1 : Int32)), .val (.int (1 : Int32)), .val (.int (0 : Int32)), .val (.int ((2 : Int32) + (1 : Int32))), .unset, .unset, .unset, .unset] [])) _
    rw [show ((2 : Int32) + (1 : Int32)) = (3 : Int32) from by decide]
    refine XS.iload X66.here hx rfl (hb hby at_258) rfl ?_
    refine XS.ifYes X66.here hx rfl (pc0 := 260) (pc' := 272) rfl (hb hby at_260) rfl ((if0 _ _).trans (teq (by decide : (0 : Int32) = (0 : Int32))).1) (by decide) (by decide) ?_
    refine XS.iloadN X66.here hx rfl (hb hby at_272) rfl ?_
    refine XS.iconst X66.here hx rfl (hb hby at_273) ?_
    refine XS.iushr X66.here hx rfl (hb hby at_274) rfl ?_
    refine XS.iconst X66.here hx rfl (hb hby at_275) ?_
    refine XS.iand X66.here hx rfl (hb hby at_276) rfl ?_
    refine XS.iload X66.here hx rfl (hb hby at_277) rfl ?_
    show Steps p.tables e below (T66.setTop (mkF m 279 (own_l90 sl0 sl1 p2 sl3 sl4 sl5 pn sl7 sl8 sl9 sl10 sl11 sl12 sl13 sl14 apl aix sl17 sl18 sl19 sl20 sl21 sl22 sl23 sl24) [(.int (3 : Int32)), (.int (((p2.toUInt32 >>> ((2 : Int32) &&& 31).toUInt32).toInt32) &&& (3 : Int32)))])) _
    refine iremM X66 hx rfl (hb hby at_279) rfl (by decide) ?_
    show Steps p.tables e below (T66.setTop (mkF m 280 (own_l90 sl0 sl1 p2 sl3 sl4 sl5 pn sl7 sl8 sl9 sl10 sl11 sl12 sl13 sl14 apl aix sl17 sl18 sl19 sl20 sl21 sl22 sl23 sl24) [(.int ((((p2.toUInt32 >>> ((2 : Int32) &&& 31).toUInt32).toInt32) &&& (3 : Int32)) % (3 : Int32)))])) _
    refine XS.istore X66.here hx rfl (hb hby at_280) rfl (l' := (own_l91 sl0 sl1 p2 sl3 sl4 sl5 pn sl7 sl8 sl9 sl10 sl11 sl12 sl13 sl14 apl aix sl17 sl18 sl19 sl20 sl21 sl22 sl23 sl24)) rfl ?_
    exact k
  obtain ⟨pe, hpe⟩ : ∃ z : Int32, z = ((((p2.toUInt32 >>> ((2 : Int32) &&& 31).toUInt32).toInt32) &&& (3 : Int32)) % (3 : Int32)) := ⟨_, rfl⟩
  show ∃ s₂ o, Steps p.tables e below (T66.setTop (mkF m 282 #[sl0, sl1, .val (.int p2), sl3, sl4, sl5, .val (.int pn), sl7, sl8, sl9, sl10, sl11, sl12, sl13, sl14, .val (.ref apl), .val (.ref aix), sl17, sl18, sl19, sl20, sl21, sl22, sl23, sl24, .val (.int (1 : Int32)), .val (.int (1 : Int32)), .val (.int (0 : Int32)), .val (.int (3 : Int32)), .val (.int ((((p2.toUInt32 >>> ((2 : Int32) &&& 31).toUInt32).toInt32) &&& (3 : Int32)) % (3 : Int32))), .unset, .unset, .unset] [])) s₂ ∧ _
  rw [← hpe]
  have he : pe = (0 : Int32) ∨ pe = (1 : Int32) ∨ pe = (2 : Int32) := by rw [hpe]; exact own_e3 _
  clear hpe
  rcases he with rfl | rfl | rfl
  · skip
    refine own_pre (A := (T66.setTop (mkF m 353 (own_l94 sl0 sl1 p2 sl3 sl4 sl5 pn sl7 sl8 sl9 sl10 sl11 sl12 sl13 sl14 apl aix sl17 sl18 sl19 sl20 sl21 sl22 sl23 sl24) [(.int (0 : Int32)), (.ref aix)]))) ?_ ?_
    · intro t k
      refine XS.aload X66.here hx rfl (hb hby at_282) rfl rfl ?_
      refine XS.iload X66.here hx rfl (hb hby at_284) rfl ?_
      show Steps p.tables e below (T66.setTop (mkF m 286 (own_l92 sl0 sl1 p2 sl3 sl4 sl5 pn sl7 sl8 sl9 sl10 sl11 sl12 sl13 sl14 apl aix sl17 sl18 sl19 sl20 sl21 sl22 sl23 sl24) [(.int (0 : Int32)), (.ref apl)])) _
      obtain ⟨cl67, Ar67, q67, S67, N67, H67, G67⟩ := id V66
      have hin67 : ¬ ((0 : Int32) < 0 ∨ cl67.slots.size ≤ ((0 : Int32)).toNatClampNeg) := inb_of S67 ⟨by decide, by decide⟩
      refine X66.iaload hx (j := (0 : Int32)) (v := (.int (0 : Int32))) (by rw [e66]; exact Ar67.1) (State.isArrayOf_alike hZ.alike Ar67.2.1) Ar67.2.2 hin67 (H67.at hin67 rfl) (g := (mkF m 286 (own_l92 sl0 sl1 p2 sl3 sl4 sl5 pn sl7 sl8 sl9 sl10 sl11 sl12 sl13 sl14 apl aix sl17 sl18 sl19 sl20 sl21 sl22 sl23 sl24) [(.int (0 : Int32)), (.ref apl)])) rfl rfl (hb hby at_286) _ ?_
      refine XS.istore X66.here hx rfl (hb hby at_287) rfl (l' := (own_l93 sl0 sl1 p2 sl3 sl4 sl5 pn sl7 sl8 sl9 sl10 sl11 sl12 sl13 sl14 apl aix sl17 sl18 sl19 sl20 sl21 sl22 sl23 sl24)) rfl ?_
      refine XS.iload X66.here hx rfl (hb hby at_289) rfl ?_
      refine XS.iconst X66.here hx rfl (hb hby at_291) ?_
      refine XS.icmpNo X66.here hx rfl (hb hby at_292) rfl (tlt (by decide : (0 : Int32) < (1 : Int32))).2.1 ?_
      refine XS.iload X66.here hx rfl (hb hby at_295) rfl ?_
      refine XS.ifNo X66.here hx rfl (hb hby at_297) rfl ((if0 _ _).trans (feq (by decide : ¬ ((1 : Int32) = (0 : Int32)))).1) ?_
      refine XS.lconst X66.here hx rfl (hb hby at_300) ?_
      refine XS.lstore X66.here hx rfl (hb hby at_301) rfl (l' := (own_l94 sl0 sl1 p2 sl3 sl4 sl5 pn sl7 sl8 sl9 sl10 sl11 sl12 sl13 sl14 apl aix sl17 sl18 sl19 sl20 sl21 sl22 sl23 sl24)) rfl ?_
      refine XS.goto X66.here hx rfl (pc0 := 303) (pc' := 349) rfl (hb hby at_303) (by decide) (by decide) ?_
      refine XS.aload X66.here hx rfl (hb hby at_349) rfl rfl ?_
      refine XS.iload X66.here hx rfl (hb hby at_351) rfl ?_
      exact k
    obtain ⟨cq68, kq68, q68a, q68b, q68c⟩ := isOf hZ e66 Ex_66
    obtain ⟨_, _, ⟨T68, L68, k68, n68⟩, -, X68, ⟨Lc68, hQ68, l68, y68, z68⟩, st68⟩ := X66.virtualBack hx (y := (⟨"com/example/coho/coho/eventlog/SegmentIndex", "placeAfter", "(I)J"⟩ : MethodName)) (z := (⟨"com/example/coho/coho/eventlog/SegmentIndex", "placeAfter", "(I)J"⟩ : MethodName)) hown (mvT hZ (own_w hw 35 rfl)) (mvT hZ (own_w hw 36 rfl)) (notFace_of_selects (args := #[]) (mvT hZ (own_w hw 38 rfl))) (mvT hZ (own_w hw 38 rfl)) (mvT hZ (own_w hw 37 rfl)) (by decide) (backOf (W := 0) (rm4_0_3 l Z a0 hw [] aix app kpp pn qe (0 : Int32) (1 : Int32) (2 : Int32) (0 : Int32) h66 n0 Zs66 Fentries_66 Fcount_66 Fend_66 Fplaces_66 Vpp_66) hZ (own_w hw 39 rfl) (own_w hw 5 rfl) (by decide) (by decide)) q68a q68c (g := (mkF m 353 (own_l94 sl0 sl1 p2 sl3 sl4 sl5 pn sl7 sl8 sl9 sl10 sl11 sl12 sl13 sl14 apl aix sl17 sl18 sl19 sl20 sl21 sl22 sl23 sl24) [(.int (0 : Int32)), (.ref aix)])) rfl (by rw [hml]; rfl) (Steps.refl _) (argsL := [(.int (0 : Int32))]) (rest := []) (lenOf own_pd0 rfl) rfl (by show 2 * 0 + _ ≤ _; exact Nat.le_of_eq rfl) (hb hby at_353) (fun _ _ => ⟨rfl, e66, (by decide : 5 + 0 ≤ _), (by decide : 23 + 0 ≤ _)⟩)
    dsimp only [Pt.U, Pt.locs, Pt.cells, Pt.slots] at X68 l68 y68 z68 st68 hQ68
    replace y68 : _ = 5 := y68
    replace z68 : _ = 23 := z68
    subst y68 z68
    obtain ⟨Nq68, rfl, eq68⟩ := hQ68
    have N68 := own_frl l68 N66 Nq68
    refine own_pre (fun t k => st68.trans k) ?_
    refine own_pre (A := (T68.setTop (mkF m 367 (own_l94 sl0 sl1 p2 sl3 sl4 sl5 pn sl7 sl8 sl9 sl10 sl11 sl12 sl13 sl14 apl aix sl17 sl18 sl19 sl20 sl21 sl22 sl23 sl24) [(.int (1 : Int32))]))) ?_ ?_
    · intro t k
      refine XS.lload X68.here hx rfl (hb hby at_356) rfl ?_
      refine XS.lcmp X68.here hx rfl (hb hby at_358) rfl ?_
      refine XS.ifNo X68.here hx rfl (hb hby at_359) rfl ((if0 _ _).trans (teq ((lw_eq ((1 : Int32).toInt64) (1 : Int64)).mpr (by decide : ((1 : Int32).toInt64) = (1 : Int64)))).2) ?_
      refine XS.iconst X68.here hx rfl (hb hby at_362) ?_
      refine XS.goto X68.here hx rfl (pc0 := 363) (pc' := 367) rfl (hb hby at_363) (by decide) (by decide) ?_
      exact k
    obtain ⟨fs, hr, hrun, hended, hW, hsame⟩ := X68.leave (hlocks := hlk) (v := some (.int (1 : Int32))) (fun h => by rw [hret] at h; cases h)
    refine ⟨_, _, retOut X68 hx hret rfl (Or.inl ⟨rfl, Or.inr (Or.inl rfl), _, rfl⟩) (hb hby at_367) hr, hrun, hended, _, _, rfl, ?_, ⟨_, rfl⟩, hW, hsame.mono (by decide) (by decide)⟩
    show own_Q0 h0 n0 _ T68.heap _
    rw [eq68]
    exact ⟨rfl, N68⟩
  · skip
    refine own_pre (A := (T66.setTop (mkF m 353 (own_l97 sl0 sl1 p2 sl3 sl4 sl5 pn sl7 sl8 sl9 sl10 sl11 sl12 sl13 sl14 apl aix sl17 sl18 sl19 sl20 sl21 sl22 sl23 sl24) [(.int (1 : Int32)), (.ref aix)]))) ?_ ?_
    · intro t k
      refine XS.aload X66.here hx rfl (hb hby at_282) rfl rfl ?_
      refine XS.iload X66.here hx rfl (hb hby at_284) rfl ?_
      show Steps p.tables e below (T66.setTop (mkF m 286 (own_l95 sl0 sl1 p2 sl3 sl4 sl5 pn sl7 sl8 sl9 sl10 sl11 sl12 sl13 sl14 apl aix sl17 sl18 sl19 sl20 sl21 sl22 sl23 sl24) [(.int (1 : Int32)), (.ref apl)])) _
      obtain ⟨cl69, Ar69, q69, S69, N69, H69, G69⟩ := id V66
      have hin69 : ¬ ((1 : Int32) < 0 ∨ cl69.slots.size ≤ ((1 : Int32)).toNatClampNeg) := inb_of S69 ⟨by decide, by decide⟩
      refine X66.iaload hx (j := (1 : Int32)) (v := (.int (1 : Int32))) (by rw [e66]; exact Ar69.1) (State.isArrayOf_alike hZ.alike Ar69.2.1) Ar69.2.2 hin69 (H69.at hin69 rfl) (g := (mkF m 286 (own_l95 sl0 sl1 p2 sl3 sl4 sl5 pn sl7 sl8 sl9 sl10 sl11 sl12 sl13 sl14 apl aix sl17 sl18 sl19 sl20 sl21 sl22 sl23 sl24) [(.int (1 : Int32)), (.ref apl)])) rfl rfl (hb hby at_286) _ ?_
      refine XS.istore X66.here hx rfl (hb hby at_287) rfl (l' := (own_l96 sl0 sl1 p2 sl3 sl4 sl5 pn sl7 sl8 sl9 sl10 sl11 sl12 sl13 sl14 apl aix sl17 sl18 sl19 sl20 sl21 sl22 sl23 sl24)) rfl ?_
      refine XS.iload X66.here hx rfl (hb hby at_289) rfl ?_
      refine XS.iconst X66.here hx rfl (hb hby at_291) ?_
      refine XS.icmpYes X66.here hx rfl (pc0 := 292) (pc' := 306) rfl (hb hby at_292) rfl (flt (by decide : ¬ ((1 : Int32) < (1 : Int32)))).2.1 (by decide) (by decide) ?_
      refine XS.iload X66.here hx rfl (hb hby at_306) rfl ?_
      refine XS.iconst X66.here hx rfl (hb hby at_308) ?_
      refine XS.icmpNo X66.here hx rfl (hb hby at_309) rfl (tlt (by decide : (1 : Int32) < (2 : Int32))).2.1 ?_
      refine XS.iload X66.here hx rfl (hb hby at_312) rfl ?_
      refine XS.ifNo X66.here hx rfl (hb hby at_314) rfl ((if0 _ _).trans (feq (by decide : ¬ ((1 : Int32) = (0 : Int32)))).1) ?_
      show Steps p.tables e below (T66.setTop (mkF m 317 (own_l96 sl0 sl1 p2 sl3 sl4 sl5 pn sl7 sl8 sl9 sl10 sl11 sl12 sl13 sl14 apl aix sl17 sl18 sl19 sl20 sl21 sl22 sl23 sl24) [])) _
      refine X66.ldc2Long hx hown (mvT hZ (own_w hw 34 rfl)) (g := (mkF m 317 (own_l96 sl0 sl1 p2 sl3 sl4 sl5 pn sl7 sl8 sl9 sl10 sl11 sl12 sl13 sl14 apl aix sl17 sl18 sl19 sl20 sl21 sl22 sl23 sl24) [])) rfl (hb hby at_317) _ ?_
      refine XS.lstore X66.here hx rfl (hb hby at_320) rfl (l' := (own_l97 sl0 sl1 p2 sl3 sl4 sl5 pn sl7 sl8 sl9 sl10 sl11 sl12 sl13 sl14 apl aix sl17 sl18 sl19 sl20 sl21 sl22 sl23 sl24)) rfl ?_
      refine XS.goto X66.here hx rfl (pc0 := 322) (pc' := 349) rfl (hb hby at_322) (by decide) (by decide) ?_
      refine XS.aload X66.here hx rfl (hb hby at_349) rfl rfl ?_
      refine XS.iload X66.here hx rfl (hb hby at_351) rfl ?_
      exact k
    obtain ⟨cq70, kq70, q70a, q70b, q70c⟩ := isOf hZ e66 Ex_66
    obtain ⟨_, _, ⟨T70, L70, k70, n70⟩, -, X70, ⟨Lc70, hQ70, l70, y70, z70⟩, st70⟩ := X66.virtualBack hx (y := (⟨"com/example/coho/coho/eventlog/SegmentIndex", "placeAfter", "(I)J"⟩ : MethodName)) (z := (⟨"com/example/coho/coho/eventlog/SegmentIndex", "placeAfter", "(I)J"⟩ : MethodName)) hown (mvT hZ (own_w hw 35 rfl)) (mvT hZ (own_w hw 36 rfl)) (notFace_of_selects (args := #[]) (mvT hZ (own_w hw 38 rfl))) (mvT hZ (own_w hw 38 rfl)) (mvT hZ (own_w hw 37 rfl)) (by decide) (backOf (W := 0) (rm4_1_3 l Z a0 hw [] aix app kpp pn qe (0 : Int32) (1 : Int32) (2 : Int32) (0 : Int32) h66 n0 Zs66 Fentries_66 Fcount_66 Fend_66 Fplaces_66 Vpp_66) hZ (own_w hw 39 rfl) (own_w hw 5 rfl) (by decide) (by decide)) q70a q70c (g := (mkF m 353 (own_l97 sl0 sl1 p2 sl3 sl4 sl5 pn sl7 sl8 sl9 sl10 sl11 sl12 sl13 sl14 apl aix sl17 sl18 sl19 sl20 sl21 sl22 sl23 sl24) [(.int (1 : Int32)), (.ref aix)])) rfl (by rw [hml]; rfl) (Steps.refl _) (argsL := [(.int (1 : Int32))]) (rest := []) (lenOf own_pd0 rfl) rfl (by show 2 * 0 + _ ≤ _; exact Nat.le_of_eq rfl) (hb hby at_353) (fun _ _ => ⟨rfl, e66, (by decide : 5 + 0 ≤ _), (by decide : 23 + 0 ≤ _)⟩)
    dsimp only [Pt.U, Pt.locs, Pt.cells, Pt.slots] at X70 l70 y70 z70 st70 hQ70
    replace y70 : _ = 5 := y70
    replace z70 : _ = 23 := z70
    subst y70 z70
    obtain ⟨Nq70, rfl, eq70⟩ := hQ70
    have N70 := own_frl l70 N66 Nq70
    refine own_pre (fun t k => st70.trans k) ?_
    refine own_pre (A := (T70.setTop (mkF m 367 (own_l97 sl0 sl1 p2 sl3 sl4 sl5 pn sl7 sl8 sl9 sl10 sl11 sl12 sl13 sl14 apl aix sl17 sl18 sl19 sl20 sl21 sl22 sl23 sl24) [(.int (1 : Int32))]))) ?_ ?_
    · intro t k
      refine XS.lload X70.here hx rfl (hb hby at_356) rfl ?_
      refine XS.lcmp X70.here hx rfl (hb hby at_358) rfl ?_
      refine XS.ifNo X70.here hx rfl (hb hby at_359) rfl ((if0 _ _).trans (teq ((lw_eq ((2 : Int32).toInt64) (2 : Int64)).mpr (by decide : ((2 : Int32).toInt64) = (2 : Int64)))).2) ?_
      refine XS.iconst X70.here hx rfl (hb hby at_362) ?_
      refine XS.goto X70.here hx rfl (pc0 := 363) (pc' := 367) rfl (hb hby at_363) (by decide) (by decide) ?_
      exact k
    obtain ⟨fs, hr, hrun, hended, hW, hsame⟩ := X70.leave (hlocks := hlk) (v := some (.int (1 : Int32))) (fun h => by rw [hret] at h; cases h)
    refine ⟨_, _, retOut X70 hx hret rfl (Or.inl ⟨rfl, Or.inr (Or.inl rfl), _, rfl⟩) (hb hby at_367) hr, hrun, hended, _, _, rfl, ?_, ⟨_, rfl⟩, hW, hsame.mono (by decide) (by decide)⟩
    show own_Q0 h0 n0 _ T70.heap _
    rw [eq70]
    exact ⟨rfl, N70⟩
  · skip
    refine own_pre (A := (T66.setTop (mkF m 353 (own_l100 sl0 sl1 p2 sl3 sl4 sl5 pn sl7 sl8 sl9 sl10 sl11 sl12 sl13 sl14 apl aix sl17 sl18 sl19 sl20 sl21 sl22 sl23 sl24) [(.int (2 : Int32)), (.ref aix)]))) ?_ ?_
    · intro t k
      refine XS.aload X66.here hx rfl (hb hby at_282) rfl rfl ?_
      refine XS.iload X66.here hx rfl (hb hby at_284) rfl ?_
      show Steps p.tables e below (T66.setTop (mkF m 286 (own_l98 sl0 sl1 p2 sl3 sl4 sl5 pn sl7 sl8 sl9 sl10 sl11 sl12 sl13 sl14 apl aix sl17 sl18 sl19 sl20 sl21 sl22 sl23 sl24) [(.int (2 : Int32)), (.ref apl)])) _
      obtain ⟨cl71, Ar71, q71, S71, N71, H71, G71⟩ := id V66
      have hin71 : ¬ ((2 : Int32) < 0 ∨ cl71.slots.size ≤ ((2 : Int32)).toNatClampNeg) := inb_of S71 ⟨by decide, by decide⟩
      refine X66.iaload hx (j := (2 : Int32)) (v := (.int (2 : Int32))) (by rw [e66]; exact Ar71.1) (State.isArrayOf_alike hZ.alike Ar71.2.1) Ar71.2.2 hin71 (H71.at hin71 rfl) (g := (mkF m 286 (own_l98 sl0 sl1 p2 sl3 sl4 sl5 pn sl7 sl8 sl9 sl10 sl11 sl12 sl13 sl14 apl aix sl17 sl18 sl19 sl20 sl21 sl22 sl23 sl24) [(.int (2 : Int32)), (.ref apl)])) rfl rfl (hb hby at_286) _ ?_
      refine XS.istore X66.here hx rfl (hb hby at_287) rfl (l' := (own_l99 sl0 sl1 p2 sl3 sl4 sl5 pn sl7 sl8 sl9 sl10 sl11 sl12 sl13 sl14 apl aix sl17 sl18 sl19 sl20 sl21 sl22 sl23 sl24)) rfl ?_
      refine XS.iload X66.here hx rfl (hb hby at_289) rfl ?_
      refine XS.iconst X66.here hx rfl (hb hby at_291) ?_
      refine XS.icmpYes X66.here hx rfl (pc0 := 292) (pc' := 306) rfl (hb hby at_292) rfl (flt (by decide : ¬ ((2 : Int32) < (1 : Int32)))).2.1 (by decide) (by decide) ?_
      refine XS.iload X66.here hx rfl (hb hby at_306) rfl ?_
      refine XS.iconst X66.here hx rfl (hb hby at_308) ?_
      refine XS.icmpYes X66.here hx rfl (pc0 := 309) (pc' := 325) rfl (hb hby at_309) rfl (flt (by decide : ¬ ((2 : Int32) < (2 : Int32)))).2.1 (by decide) (by decide) ?_
      refine XS.iload X66.here hx rfl (hb hby at_325) rfl ?_
      refine XS.iconst X66.here hx rfl (hb hby at_327) ?_
      refine XS.icmpNo X66.here hx rfl (hb hby at_328) rfl (tlt (by decide : (2 : Int32) < (3 : Int32))).2.1 ?_
      refine XS.iload X66.here hx rfl (hb hby at_331) rfl ?_
      refine XS.ifYes X66.here hx rfl (pc0 := 333) (pc' := 344) rfl (hb hby at_333) rfl ((if0 _ _).trans (teq (by decide : (0 : Int32) = (0 : Int32))).1) (by decide) (by decide) ?_
      refine XS.iload X66.here hx rfl (hb hby at_344) rfl ?_
      refine XS.i2l X66.here hx rfl (hb hby at_346) rfl ?_
      refine XS.lstore X66.here hx rfl (hb hby at_347) rfl (l' := (own_l100 sl0 sl1 p2 sl3 sl4 sl5 pn sl7 sl8 sl9 sl10 sl11 sl12 sl13 sl14 apl aix sl17 sl18 sl19 sl20 sl21 sl22 sl23 sl24)) rfl ?_
      refine XS.aload X66.here hx rfl (hb hby at_349) rfl rfl ?_
      refine XS.iload X66.here hx rfl (hb hby at_351) rfl ?_
      exact k
    obtain ⟨cq72, kq72, q72a, q72b, q72c⟩ := isOf hZ e66 Ex_66
    obtain ⟨_, _, ⟨T72, L72, k72, n72⟩, -, X72, ⟨Lc72, hQ72, l72, y72, z72⟩, st72⟩ := X66.virtualBack hx (y := (⟨"com/example/coho/coho/eventlog/SegmentIndex", "placeAfter", "(I)J"⟩ : MethodName)) (z := (⟨"com/example/coho/coho/eventlog/SegmentIndex", "placeAfter", "(I)J"⟩ : MethodName)) hown (mvT hZ (own_w hw 35 rfl)) (mvT hZ (own_w hw 36 rfl)) (notFace_of_selects (args := #[]) (mvT hZ (own_w hw 38 rfl))) (mvT hZ (own_w hw 38 rfl)) (mvT hZ (own_w hw 37 rfl)) (by decide) (backOf (W := 0) (rm4_2_3 l Z a0 hw [] aix app kpp pn qe (0 : Int32) (1 : Int32) (2 : Int32) (0 : Int32) h66 n0 Zs66 Fentries_66 Fcount_66 Fend_66 Fplaces_66 Vpp_66) hZ (own_w hw 39 rfl) (own_w hw 5 rfl) (by decide) (by decide)) q72a q72c (g := (mkF m 353 (own_l100 sl0 sl1 p2 sl3 sl4 sl5 pn sl7 sl8 sl9 sl10 sl11 sl12 sl13 sl14 apl aix sl17 sl18 sl19 sl20 sl21 sl22 sl23 sl24) [(.int (2 : Int32)), (.ref aix)])) rfl (by rw [hml]; rfl) (Steps.refl _) (argsL := [(.int (2 : Int32))]) (rest := []) (lenOf own_pd0 rfl) rfl (by show 2 * 0 + _ ≤ _; exact Nat.le_of_eq rfl) (hb hby at_353) (fun _ _ => ⟨rfl, e66, (by decide : 5 + 0 ≤ _), (by decide : 23 + 0 ≤ _)⟩)
    dsimp only [Pt.U, Pt.locs, Pt.cells, Pt.slots] at X72 l72 y72 z72 st72 hQ72
    replace y72 : _ = 5 := y72
    replace z72 : _ = 23 := z72
    subst y72 z72
    obtain ⟨Nq72, rfl, eq72⟩ := hQ72
    have N72 := own_frl l72 N66 Nq72
    refine own_pre (fun t k => st72.trans k) ?_
    refine own_pre (A := (T72.setTop (mkF m 367 (own_l100 sl0 sl1 p2 sl3 sl4 sl5 pn sl7 sl8 sl9 sl10 sl11 sl12 sl13 sl14 apl aix sl17 sl18 sl19 sl20 sl21 sl22 sl23 sl24) [(.int (1 : Int32))]))) ?_ ?_
    · intro t k
      refine XS.lload X72.here hx rfl (hb hby at_356) rfl ?_
      refine XS.lcmp X72.here hx rfl (hb hby at_358) rfl ?_
      refine XS.ifNo X72.here hx rfl (hb hby at_359) rfl ((if0 _ _).trans (teq ((lw_eq (pn.toInt64) (pn.toInt64)).mpr (rfl : (pn.toInt64) = (pn.toInt64)))).2) ?_
      refine XS.iconst X72.here hx rfl (hb hby at_362) ?_
      refine XS.goto X72.here hx rfl (pc0 := 363) (pc' := 367) rfl (hb hby at_363) (by decide) (by decide) ?_
      exact k
    obtain ⟨fs, hr, hrun, hended, hW, hsame⟩ := X72.leave (hlocks := hlk) (v := some (.int (1 : Int32))) (fun h => by rw [hret] at h; cases h)
    refine ⟨_, _, retOut X72 hx hret rfl (Or.inl ⟨rfl, Or.inr (Or.inl rfl), _, rfl⟩) (hb hby at_367) hr, hrun, hended, _, _, rfl, ?_, ⟨_, rfl⟩, hW, hsame.mono (by decide) (by decide)⟩
    show own_Q0 h0 n0 _ T72.heap _
    rw [eq72]
    exact ⟨rfl, N72⟩
abbrev own_l101 (x0 : Slot) (x1 : Slot) (x2 : Int32) (x3 : Slot) (x4 : Slot) (x5 : Slot) (x6 : Int32) (x7 : Slot) (x8 : Slot) (x9 : Slot) (x10 : Slot) (x11 : Slot) (x12 : Slot) (x13 : Slot) (x14 : Slot) (x15 : Addr) (x16 : Addr) (x17 : Slot) (x18 : Slot) (x19 : Slot) (x20 : Slot) (x21 : Slot) (x22 : Slot) (x23 : Slot) (x24 : Slot) : Array Slot := #[x0, x1, .val (.int x2), x3, x4, x5, .val (.int x6), x7, x8, x9, x10, x11, x12, x13, x14, .val (.ref x15), .val (.ref x16), x17, x18, x19, x20, x21, x22, x23, x24, .val (.int (1 : Int32)), .val (.int (1 : Int32)), .val (.int (1 : Int32)), .unset, .unset, .unset, .unset, .unset]
abbrev own_l102 (x0 : Slot) (x1 : Slot) (x2 : Int32) (x3 : Slot) (x4 : Slot) (x5 : Slot) (x6 : Int32) (x7 : Slot) (x8 : Slot) (x9 : Slot) (x10 : Slot) (x11 : Slot) (x12 : Slot) (x13 : Slot) (x14 : Slot) (x15 : Addr) (x16 : Addr) (x17 : Slot) (x18 : Slot) (x19 : Slot) (x20 : Slot) (x21 : Slot) (x22 : Slot) (x23 : Slot) (x24 : Slot) : Array Slot := #[x0, x1, .val (.int x2), x3, x4, x5, .val (.int x6), x7, x8, x9, x10, x11, x12, x13, x14, .val (.ref x15), .val (.ref x16), x17, x18, x19, x20, x21, x22, x23, x24, .val (.int (1 : Int32)), .val (.int (1 : Int32)), .val (.int (1 : Int32)), .val (.int (0 : Int32)), .unset, .unset, .unset, .unset]
abbrev own_l103 (x0 : Slot) (x1 : Slot) (x2 : Int32) (x3 : Slot) (x4 : Slot) (x5 : Slot) (x6 : Int32) (x7 : Slot) (x8 : Slot) (x9 : Slot) (x10 : Slot) (x11 : Slot) (x12 : Slot) (x13 : Slot) (x14 : Slot) (x15 : Addr) (x16 : Addr) (x17 : Slot) (x18 : Slot) (x19 : Slot) (x20 : Slot) (x21 : Slot) (x22 : Slot) (x23 : Slot) (x24 : Slot) : Array Slot := #[x0, x1, .val (.int x2), x3, x4, x5, .val (.int x6), x7, x8, x9, x10, x11, x12, x13, x14, .val (.ref x15), .val (.ref x16), x17, x18, x19, x20, x21, x22, x23, x24, .val (.int (1 : Int32)), .val (.int (1 : Int32)), .val (.int (1 : Int32)), .val (.int ((0 : Int32) + (1 : Int32))), .unset, .unset, .unset, .unset]
abbrev own_l104 (x0 : Slot) (x1 : Slot) (x2 : Int32) (x3 : Slot) (x4 : Slot) (x5 : Slot) (x6 : Int32) (x7 : Slot) (x8 : Slot) (x9 : Slot) (x10 : Slot) (x11 : Slot) (x12 : Slot) (x13 : Slot) (x14 : Slot) (x15 : Addr) (x16 : Addr) (x17 : Slot) (x18 : Slot) (x19 : Slot) (x20 : Slot) (x21 : Slot) (x22 : Slot) (x23 : Slot) (x24 : Slot) : Array Slot := #[x0, x1, .val (.int x2), x3, x4, x5, .val (.int x6), x7, x8, x9, x10, x11, x12, x13, x14, .val (.ref x15), .val (.ref x16), x17, x18, x19, x20, x21, x22, x23, x24, .val (.int (1 : Int32)), .val (.int (1 : Int32)), .val (.int (1 : Int32)), .val (.int (1 : Int32)), .unset, .unset, .unset, .unset]
abbrev own_l105 (x0 : Slot) (x1 : Slot) (x2 : Int32) (x3 : Slot) (x4 : Slot) (x5 : Slot) (x6 : Int32) (x7 : Slot) (x8 : Slot) (x9 : Slot) (x10 : Slot) (x11 : Slot) (x12 : Slot) (x13 : Slot) (x14 : Slot) (x15 : Addr) (x16 : Addr) (x17 : Slot) (x18 : Slot) (x19 : Slot) (x20 : Slot) (x21 : Slot) (x22 : Slot) (x23 : Slot) (x24 : Slot) : Array Slot := #[x0, x1, .val (.int x2), x3, x4, x5, .val (.int x6), x7, x8, x9, x10, x11, x12, x13, x14, .val (.ref x15), .val (.ref x16), x17, x18, x19, x20, x21, x22, x23, x24, .val (.int (1 : Int32)), .val (.int (1 : Int32)), .val (.int (1 : Int32)), .val (.int ((1 : Int32) + (1 : Int32))), .unset, .unset, .unset, .unset]
abbrev own_l106 (x0 : Slot) (x1 : Slot) (x2 : Int32) (x3 : Slot) (x4 : Slot) (x5 : Slot) (x6 : Int32) (x7 : Slot) (x8 : Slot) (x9 : Slot) (x10 : Slot) (x11 : Slot) (x12 : Slot) (x13 : Slot) (x14 : Slot) (x15 : Addr) (x16 : Addr) (x17 : Slot) (x18 : Slot) (x19 : Slot) (x20 : Slot) (x21 : Slot) (x22 : Slot) (x23 : Slot) (x24 : Slot) : Array Slot := #[x0, x1, .val (.int x2), x3, x4, x5, .val (.int x6), x7, x8, x9, x10, x11, x12, x13, x14, .val (.ref x15), .val (.ref x16), x17, x18, x19, x20, x21, x22, x23, x24, .val (.int (1 : Int32)), .val (.int (1 : Int32)), .val (.int (1 : Int32)), .val (.int (2 : Int32)), .unset, .unset, .unset, .unset]
abbrev own_l107 (x0 : Slot) (x1 : Slot) (x2 : Int32) (x3 : Slot) (x4 : Slot) (x5 : Slot) (x6 : Int32) (x7 : Slot) (x8 : Slot) (x9 : Slot) (x10 : Slot) (x11 : Slot) (x12 : Slot) (x13 : Slot) (x14 : Slot) (x15 : Addr) (x16 : Addr) (x17 : Slot) (x18 : Slot) (x19 : Slot) (x20 : Slot) (x21 : Slot) (x22 : Slot) (x23 : Slot) (x24 : Slot) : Array Slot := #[x0, x1, .val (.int x2), x3, x4, x5, .val (.int x6), x7, x8, x9, x10, x11, x12, x13, x14, .val (.ref x15), .val (.ref x16), x17, x18, x19, x20, x21, x22, x23, x24, .val (.int (1 : Int32)), .val (.int (1 : Int32)), .val (.int (1 : Int32)), .val (.int ((2 : Int32) + (1 : Int32))), .unset, .unset, .unset, .unset]
abbrev own_l108 (x0 : Slot) (x1 : Slot) (x2 : Int32) (x3 : Slot) (x4 : Slot) (x5 : Slot) (x6 : Int32) (x7 : Slot) (x8 : Slot) (x9 : Slot) (x10 : Slot) (x11 : Slot) (x12 : Slot) (x13 : Slot) (x14 : Slot) (x15 : Addr) (x16 : Addr) (x17 : Slot) (x18 : Slot) (x19 : Slot) (x20 : Slot) (x21 : Slot) (x22 : Slot) (x23 : Slot) (x24 : Slot) : Array Slot := #[x0, x1, .val (.int x2), x3, x4, x5, .val (.int x6), x7, x8, x9, x10, x11, x12, x13, x14, .val (.ref x15), .val (.ref x16), x17, x18, x19, x20, x21, x22, x23, x24, .val (.int (1 : Int32)), .val (.int (1 : Int32)), .val (.int (1 : Int32)), .val (.int (3 : Int32)), .unset, .unset, .unset, .unset]
abbrev own_l109 (x0 : Slot) (x1 : Slot) (x2 : Int32) (x3 : Slot) (x4 : Slot) (x5 : Slot) (x6 : Int32) (x7 : Slot) (x8 : Slot) (x9 : Slot) (x10 : Slot) (x11 : Slot) (x12 : Slot) (x13 : Slot) (x14 : Slot) (x15 : Addr) (x16 : Addr) (x17 : Slot) (x18 : Slot) (x19 : Slot) (x20 : Slot) (x21 : Slot) (x22 : Slot) (x23 : Slot) (x24 : Slot) : Array Slot := #[x0, x1, .val (.int x2), x3, x4, x5, .val (.int x6), x7, x8, x9, x10, x11, x12, x13, x14, .val (.ref x15), .val (.ref x16), x17, x18, x19, x20, x21, x22, x23, x24, .val (.int (1 : Int32)), .val (.int (1 : Int32)), .val (.int (1 : Int32)), .val (.int ((3 : Int32) + (1 : Int32))), .unset, .unset, .unset, .unset]
abbrev own_l110 (x0 : Slot) (x1 : Slot) (x2 : Int32) (x3 : Slot) (x4 : Slot) (x5 : Slot) (x6 : Int32) (x7 : Slot) (x8 : Slot) (x9 : Slot) (x10 : Slot) (x11 : Slot) (x12 : Slot) (x13 : Slot) (x14 : Slot) (x15 : Addr) (x16 : Addr) (x17 : Slot) (x18 : Slot) (x19 : Slot) (x20 : Slot) (x21 : Slot) (x22 : Slot) (x23 : Slot) (x24 : Slot) : Array Slot := #[x0, x1, .val (.int x2), x3, x4, x5, .val (.int x6), x7, x8, x9, x10, x11, x12, x13, x14, .val (.ref x15), .val (.ref x16), x17, x18, x19, x20, x21, x22, x23, x24, .val (.int (1 : Int32)), .val (.int (1 : Int32)), .val (.int (1 : Int32)), .val (.int (4 : Int32)), .unset, .unset, .unset, .unset]
abbrev own_l111 (x0 : Slot) (x1 : Slot) (x2 : Int32) (x3 : Slot) (x4 : Slot) (x5 : Slot) (x6 : Int32) (x7 : Slot) (x8 : Slot) (x9 : Slot) (x10 : Slot) (x11 : Slot) (x12 : Slot) (x13 : Slot) (x14 : Slot) (x15 : Addr) (x16 : Addr) (x17 : Slot) (x18 : Slot) (x19 : Slot) (x20 : Slot) (x21 : Slot) (x22 : Slot) (x23 : Slot) (x24 : Slot) : Array Slot := #[x0, x1, .val (.int x2), x3, x4, x5, .val (.int x6), x7, x8, x9, x10, x11, x12, x13, x14, .val (.ref x15), .val (.ref x16), x17, x18, x19, x20, x21, x22, x23, x24, .val (.int (1 : Int32)), .val (.int (1 : Int32)), .val (.int (1 : Int32)), .val (.int (4 : Int32)), .val (.int ((((x2.toUInt32 >>> ((2 : Int32) &&& 31).toUInt32).toInt32) &&& (3 : Int32)) % (4 : Int32))), .unset, .unset, .unset]
abbrev own_l112 (x0 : Slot) (x1 : Slot) (x2 : Int32) (x3 : Slot) (x4 : Slot) (x5 : Slot) (x6 : Int32) (x7 : Slot) (x8 : Slot) (x9 : Slot) (x10 : Slot) (x11 : Slot) (x12 : Slot) (x13 : Slot) (x14 : Slot) (x15 : Addr) (x16 : Addr) (x17 : Slot) (x18 : Slot) (x19 : Slot) (x20 : Slot) (x21 : Slot) (x22 : Slot) (x23 : Slot) (x24 : Slot) : Array Slot := #[x0, x1, .val (.int x2), x3, x4, x5, .val (.int x6), x7, x8, x9, x10, x11, x12, x13, x14, .val (.ref x15), .val (.ref x16), x17, x18, x19, x20, x21, x22, x23, x24, .val (.int (1 : Int32)), .val (.int (1 : Int32)), .val (.int (1 : Int32)), .val (.int (4 : Int32)), .val (.int (0 : Int32)), .unset, .unset, .unset]
abbrev own_l113 (x0 : Slot) (x1 : Slot) (x2 : Int32) (x3 : Slot) (x4 : Slot) (x5 : Slot) (x6 : Int32) (x7 : Slot) (x8 : Slot) (x9 : Slot) (x10 : Slot) (x11 : Slot) (x12 : Slot) (x13 : Slot) (x14 : Slot) (x15 : Addr) (x16 : Addr) (x17 : Slot) (x18 : Slot) (x19 : Slot) (x20 : Slot) (x21 : Slot) (x22 : Slot) (x23 : Slot) (x24 : Slot) : Array Slot := #[x0, x1, .val (.int x2), x3, x4, x5, .val (.int x6), x7, x8, x9, x10, x11, x12, x13, x14, .val (.ref x15), .val (.ref x16), x17, x18, x19, x20, x21, x22, x23, x24, .val (.int (1 : Int32)), .val (.int (1 : Int32)), .val (.int (1 : Int32)), .val (.int (4 : Int32)), .val (.int (0 : Int32)), .val (.int (0 : Int32)), .unset, .unset]
abbrev own_l114 (x0 : Slot) (x1 : Slot) (x2 : Int32) (x3 : Slot) (x4 : Slot) (x5 : Slot) (x6 : Int32) (x7 : Slot) (x8 : Slot) (x9 : Slot) (x10 : Slot) (x11 : Slot) (x12 : Slot) (x13 : Slot) (x14 : Slot) (x15 : Addr) (x16 : Addr) (x17 : Slot) (x18 : Slot) (x19 : Slot) (x20 : Slot) (x21 : Slot) (x22 : Slot) (x23 : Slot) (x24 : Slot) : Array Slot := #[x0, x1, .val (.int x2), x3, x4, x5, .val (.int x6), x7, x8, x9, x10, x11, x12, x13, x14, .val (.ref x15), .val (.ref x16), x17, x18, x19, x20, x21, x22, x23, x24, .val (.int (1 : Int32)), .val (.int (1 : Int32)), .val (.int (1 : Int32)), .val (.int (4 : Int32)), .val (.int (0 : Int32)), .val (.int (0 : Int32)), .val (.long (1 : Int64)), .second]
def own_Q4_0_4 (Z : State) (ax : Addr) (ap : Addr) (kp : ClassId) (ct : Int32) (qe : Int64) (uu0 : Int32) (uu1 : Int32) (uu2 : Int32) (uu3 : Int32) (h0 : Heap) (n0 : Nat) (v : Option Value) (h : Heap) (L : List Loc) : Prop := Fr n0 L ∧ v = some (.long (uu1.toInt64)) ∧ h = h0
set_option maxRecDepth 65536 in
set_option maxHeartbeats 40000000 in
theorem rm4_0_4 (l : Launch) (Z : State) (a0 : Array Value) (hw : ∀ d ∈ tables_1, d.before a0 Z = true) (ws : List Jvm.Cond) (ax : Addr) (ap : Addr) (kp : ClassId) (ct : Int32) (qe : Int64) (uu0 : Int32) (uu1 : Int32) (uu2 : Int32) (uu3 : Int32) (h0 : Heap) (n0 : Nat) (Z0 : n0 ≤ h0.size) (Fe : Fld Z h0 ax "com/example/coho/coho/eventlog/SegmentIndex" "entries" "I" (.int (4 : Int32))) (Fc : Fld Z h0 ax "com/example/coho/coho/eventlog/SegmentIndex" "count" "I" (.int ct)) (Fq : Fld Z h0 ax "com/example/coho/coho/eventlog/SegmentIndex" "end" "J" (.long qe)) (Fa : Fld Z h0 ax "com/example/coho/coho/eventlog/SegmentIndex" "places" "[I" (.ref ap)) (Va : Arv Z h0 ap kp .int (4 : Int32) [(.int uu0), (.int uu1), (.int uu2), (.int uu3)] (.int (0 : Int32))) :
    MetFree l (⟨"com/example/coho/coho/eventlog/SegmentIndex", "placeAfter", "(I)J"⟩ : MethodName) (head1 (Jvm.Cond.code (⟨"com/example/coho/coho/eventlog/SegmentIndex", "placeAfter", "(I)J"⟩ : MethodName) prog_34_method_9_code 2 (some .long) :: ws) ({ frames := 0, cells := 0, slots := 0, locals := 0 } : Room)) (fun a U => a = #[(.ref ax), (.int (0 : Int32))] ∧ Z.Warmed39 U.vm ∧ U.heap = h0) (fun _ _ _ _ _ => True) (fun _ U o U' => ∃ v L, o = .returned v ∧ own_Q4_0_4 Z ax ap kp ct qe uu0 uu1 uu2 uu3 h0 n0 v U'.heap L ∧ FrameEnd U o U' L ({ frames := 0, cells := 0, slots := 0, locals := 0 } : Room).cells ({ frames := 0, cells := 0, slots := 0, locals := 0 } : Room).slots) := by
  refine MetFree.of_bodySF (plainFor_of_name own_pn4) hisR ?_
  intro p e s m args below meth c s₁ Bd hml0 hP hK
  obtain ⟨rfl, hZ, hh⟩ := hP
  have hx := Bd.exec
  have hby := Bd.bytes
  have hml : c.maxLocals = 2 := hml0
  have hown : s.vm.findClass "com/example/coho/coho/eventlog/SegmentIndex" = some m.cls := findClass_of_methodNamed Bd.named
  have hnm := (name_of_methodNamed Bd.named Bd.method).1
  have X0 : Stand p l e ({ frames := 0, cells := 0, slots := 0, locals := 0 } : Room) s m #[(.ref ax), (.int (0 : Int32))] below meth c s₁ [] 0 0 := Stand.of_body Bd
  have e0 : s₁.heap = h0 := by rw [← hh, Bd.state]; rfl
  have N0 := Fr.nil n0
  refine own_pre (A := (s₁.setTop (mkF m 0 #[.val (.ref ax), .val (.int (0 : Int32))] []))) (fun t k => castTop (own_ef4 m ax (0 : Int32)) k) ?_
  refine own_pre (A := (s₁.setTop (mkF m 4 #[.val (.ref ax), .val (.int (0 : Int32))] [(.ref ax), (.int (1 : Int32))]))) ?_ ?_
  · intro t k
    refine XS.iloadN X0.here hx rfl (hb hby d4_0) rfl ?_
    refine XS.iconst X0.here hx rfl (hb hby d4_1) ?_
    refine XS.iadd X0.here hx rfl (hb hby d4_2) rfl ?_
    show Steps p.tables e below (s₁.setTop (mkF m 3 #[.val (.ref ax), .val (.int (0 : Int32))] [(.int ((0 : Int32) + (1 : Int32)))])) _
    rw [show ((0 : Int32) + (1 : Int32)) = (1 : Int32) from by decide]
    refine XS.aloadN X0.here hx rfl (hb hby d4_3) rfl rfl ?_
    exact k
  obtain ⟨T79, X79, e79, st79⟩ := getF X0 hx hZ hown (host := "") (Or.inl (own_w hw 29 rfl)) Via.refl e0 Fe (g := (mkF m 4 #[.val (.ref ax), .val (.int (0 : Int32))] [(.ref ax), (.int (1 : Int32))])) rfl rfl (hb hby d4_4)
  refine own_pre (fun t k => st79 t k) ?_
  refine own_pre (A := (T79.setTop (mkF m 11 #[.val (.ref ax), .val (.int (0 : Int32))] [(.ref ax)]))) ?_ ?_
  · intro t k
    refine XS.icmpNo X79.here hx rfl (hb hby d4_7) rfl (tlt (by decide : (1 : Int32) < (4 : Int32))).2.1 ?_
    refine XS.aloadN X79.here hx rfl (hb hby d4_10) rfl rfl ?_
    exact k
  obtain ⟨T80, X80, e80, st80⟩ := getF X79 hx hZ hown (host := "") (Or.inl (own_w hw 12 rfl)) Via.refl e79 Fa (g := (mkF m 11 #[.val (.ref ax), .val (.int (0 : Int32))] [(.ref ax)])) rfl rfl (hb hby d4_11)
  refine own_pre (fun t k => st80 t k) ?_
  refine own_pre (A := (T80.setTop (mkF m 27 #[.val (.ref ax), .val (.int (0 : Int32))] [(.long (uu1.toInt64))]))) ?_ ?_
  · intro t k
    refine XS.iloadN X80.here hx rfl (hb hby d4_14) rfl ?_
    refine XS.iconst X80.here hx rfl (hb hby d4_15) ?_
    refine XS.iadd X80.here hx rfl (hb hby d4_16) rfl ?_
    show Steps p.tables e below (T80.setTop (mkF m 17 #[.val (.ref ax), .val (.int (0 : Int32))] [(.int ((0 : Int32) + (1 : Int32))), (.ref ap)])) _
    rw [show ((0 : Int32) + (1 : Int32)) = (1 : Int32) from by decide]
    show Steps p.tables e below (T80.setTop (mkF m 17 #[.val (.ref ax), .val (.int (0 : Int32))] [(.int (1 : Int32)), (.ref ap)])) _
    obtain ⟨cl81, Ar81, q81, S81, N81, H81, G81⟩ := id Va
    have hin81 : ¬ ((1 : Int32) < 0 ∨ cl81.slots.size ≤ ((1 : Int32)).toNatClampNeg) := inb_of S81 ⟨by decide, by decide⟩
    refine X80.iaload hx (j := (1 : Int32)) (v := (.int uu1)) (by rw [e80]; exact Ar81.1) (State.isArrayOf_alike hZ.alike Ar81.2.1) Ar81.2.2 hin81 (H81.at hin81 rfl) (g := (mkF m 17 #[.val (.ref ax), .val (.int (0 : Int32))] [(.int (1 : Int32)), (.ref ap)])) rfl rfl (hb hby d4_17) _ ?_
    refine XS.i2l X80.here hx rfl (hb hby d4_18) rfl ?_
    refine XS.goto X80.here hx rfl (pc0 := 19) (pc' := 27) rfl (hb hby d4_19) (by decide) (by decide) ?_
    exact k
  obtain ⟨fs, hr, hrun, hended, hW, hsame⟩ := X80.leave (hlocks := BodyLoose.notSynchronized Bd) (v := some (.long (uu1.toInt64))) (fun h => by rw [Bd.returns] at h; cases h)
  refine ⟨_, _, retOut X80 hx Bd.returns rfl (Or.inr (Or.inl ⟨rfl, rfl, _, rfl⟩)) (hb hby d4_27) hr, hrun, hended, _, _, rfl, ?_, ⟨_, rfl⟩, hW, hsame.mono (by decide) (by decide)⟩
  show own_Q4_0_4 Z ax ap kp ct qe uu0 uu1 uu2 uu3 h0 n0 _ T80.heap _
  rw [e80]
  exact ⟨N0, rfl, rfl⟩
abbrev own_l115 (x0 : Slot) (x1 : Slot) (x2 : Int32) (x3 : Slot) (x4 : Slot) (x5 : Slot) (x6 : Int32) (x7 : Slot) (x8 : Slot) (x9 : Slot) (x10 : Slot) (x11 : Slot) (x12 : Slot) (x13 : Slot) (x14 : Slot) (x15 : Addr) (x16 : Addr) (x17 : Slot) (x18 : Slot) (x19 : Slot) (x20 : Slot) (x21 : Slot) (x22 : Slot) (x23 : Slot) (x24 : Slot) : Array Slot := #[x0, x1, .val (.int x2), x3, x4, x5, .val (.int x6), x7, x8, x9, x10, x11, x12, x13, x14, .val (.ref x15), .val (.ref x16), x17, x18, x19, x20, x21, x22, x23, x24, .val (.int (1 : Int32)), .val (.int (1 : Int32)), .val (.int (1 : Int32)), .val (.int (4 : Int32)), .val (.int (1 : Int32)), .unset, .unset, .unset]
abbrev own_l116 (x0 : Slot) (x1 : Slot) (x2 : Int32) (x3 : Slot) (x4 : Slot) (x5 : Slot) (x6 : Int32) (x7 : Slot) (x8 : Slot) (x9 : Slot) (x10 : Slot) (x11 : Slot) (x12 : Slot) (x13 : Slot) (x14 : Slot) (x15 : Addr) (x16 : Addr) (x17 : Slot) (x18 : Slot) (x19 : Slot) (x20 : Slot) (x21 : Slot) (x22 : Slot) (x23 : Slot) (x24 : Slot) : Array Slot := #[x0, x1, .val (.int x2), x3, x4, x5, .val (.int x6), x7, x8, x9, x10, x11, x12, x13, x14, .val (.ref x15), .val (.ref x16), x17, x18, x19, x20, x21, x22, x23, x24, .val (.int (1 : Int32)), .val (.int (1 : Int32)), .val (.int (1 : Int32)), .val (.int (4 : Int32)), .val (.int (1 : Int32)), .val (.int (1 : Int32)), .unset, .unset]
abbrev own_l117 (x0 : Slot) (x1 : Slot) (x2 : Int32) (x3 : Slot) (x4 : Slot) (x5 : Slot) (x6 : Int32) (x7 : Slot) (x8 : Slot) (x9 : Slot) (x10 : Slot) (x11 : Slot) (x12 : Slot) (x13 : Slot) (x14 : Slot) (x15 : Addr) (x16 : Addr) (x17 : Slot) (x18 : Slot) (x19 : Slot) (x20 : Slot) (x21 : Slot) (x22 : Slot) (x23 : Slot) (x24 : Slot) : Array Slot := #[x0, x1, .val (.int x2), x3, x4, x5, .val (.int x6), x7, x8, x9, x10, x11, x12, x13, x14, .val (.ref x15), .val (.ref x16), x17, x18, x19, x20, x21, x22, x23, x24, .val (.int (1 : Int32)), .val (.int (1 : Int32)), .val (.int (1 : Int32)), .val (.int (4 : Int32)), .val (.int (1 : Int32)), .val (.int (1 : Int32)), .val (.long (2 : Int64)), .second]
def own_Q4_1_4 (Z : State) (ax : Addr) (ap : Addr) (kp : ClassId) (ct : Int32) (qe : Int64) (uu0 : Int32) (uu1 : Int32) (uu2 : Int32) (uu3 : Int32) (h0 : Heap) (n0 : Nat) (v : Option Value) (h : Heap) (L : List Loc) : Prop := Fr n0 L ∧ v = some (.long (uu2.toInt64)) ∧ h = h0
set_option maxRecDepth 65536 in
set_option maxHeartbeats 40000000 in
theorem rm4_1_4 (l : Launch) (Z : State) (a0 : Array Value) (hw : ∀ d ∈ tables_1, d.before a0 Z = true) (ws : List Jvm.Cond) (ax : Addr) (ap : Addr) (kp : ClassId) (ct : Int32) (qe : Int64) (uu0 : Int32) (uu1 : Int32) (uu2 : Int32) (uu3 : Int32) (h0 : Heap) (n0 : Nat) (Z0 : n0 ≤ h0.size) (Fe : Fld Z h0 ax "com/example/coho/coho/eventlog/SegmentIndex" "entries" "I" (.int (4 : Int32))) (Fc : Fld Z h0 ax "com/example/coho/coho/eventlog/SegmentIndex" "count" "I" (.int ct)) (Fq : Fld Z h0 ax "com/example/coho/coho/eventlog/SegmentIndex" "end" "J" (.long qe)) (Fa : Fld Z h0 ax "com/example/coho/coho/eventlog/SegmentIndex" "places" "[I" (.ref ap)) (Va : Arv Z h0 ap kp .int (4 : Int32) [(.int uu0), (.int uu1), (.int uu2), (.int uu3)] (.int (0 : Int32))) :
    MetFree l (⟨"com/example/coho/coho/eventlog/SegmentIndex", "placeAfter", "(I)J"⟩ : MethodName) (head1 (Jvm.Cond.code (⟨"com/example/coho/coho/eventlog/SegmentIndex", "placeAfter", "(I)J"⟩ : MethodName) prog_34_method_9_code 2 (some .long) :: ws) ({ frames := 0, cells := 0, slots := 0, locals := 0 } : Room)) (fun a U => a = #[(.ref ax), (.int (1 : Int32))] ∧ Z.Warmed39 U.vm ∧ U.heap = h0) (fun _ _ _ _ _ => True) (fun _ U o U' => ∃ v L, o = .returned v ∧ own_Q4_1_4 Z ax ap kp ct qe uu0 uu1 uu2 uu3 h0 n0 v U'.heap L ∧ FrameEnd U o U' L ({ frames := 0, cells := 0, slots := 0, locals := 0 } : Room).cells ({ frames := 0, cells := 0, slots := 0, locals := 0 } : Room).slots) := by
  refine MetFree.of_bodySF (plainFor_of_name own_pn4) hisR ?_
  intro p e s m args below meth c s₁ Bd hml0 hP hK
  obtain ⟨rfl, hZ, hh⟩ := hP
  have hx := Bd.exec
  have hby := Bd.bytes
  have hml : c.maxLocals = 2 := hml0
  have hown : s.vm.findClass "com/example/coho/coho/eventlog/SegmentIndex" = some m.cls := findClass_of_methodNamed Bd.named
  have hnm := (name_of_methodNamed Bd.named Bd.method).1
  have X0 : Stand p l e ({ frames := 0, cells := 0, slots := 0, locals := 0 } : Room) s m #[(.ref ax), (.int (1 : Int32))] below meth c s₁ [] 0 0 := Stand.of_body Bd
  have e0 : s₁.heap = h0 := by rw [← hh, Bd.state]; rfl
  have N0 := Fr.nil n0
  refine own_pre (A := (s₁.setTop (mkF m 0 #[.val (.ref ax), .val (.int (1 : Int32))] []))) (fun t k => castTop (own_ef4 m ax (1 : Int32)) k) ?_
  refine own_pre (A := (s₁.setTop (mkF m 4 #[.val (.ref ax), .val (.int (1 : Int32))] [(.ref ax), (.int (2 : Int32))]))) ?_ ?_
  · intro t k
    refine XS.iloadN X0.here hx rfl (hb hby d4_0) rfl ?_
    refine XS.iconst X0.here hx rfl (hb hby d4_1) ?_
    refine XS.iadd X0.here hx rfl (hb hby d4_2) rfl ?_
    show Steps p.tables e below (s₁.setTop (mkF m 3 #[.val (.ref ax), .val (.int (1 : Int32))] [(.int ((1 : Int32) + (1 : Int32)))])) _
    rw [show ((1 : Int32) + (1 : Int32)) = (2 : Int32) from by decide]
    refine XS.aloadN X0.here hx rfl (hb hby d4_3) rfl rfl ?_
    exact k
  obtain ⟨T84, X84, e84, st84⟩ := getF X0 hx hZ hown (host := "") (Or.inl (own_w hw 29 rfl)) Via.refl e0 Fe (g := (mkF m 4 #[.val (.ref ax), .val (.int (1 : Int32))] [(.ref ax), (.int (2 : Int32))])) rfl rfl (hb hby d4_4)
  refine own_pre (fun t k => st84 t k) ?_
  refine own_pre (A := (T84.setTop (mkF m 11 #[.val (.ref ax), .val (.int (1 : Int32))] [(.ref ax)]))) ?_ ?_
  · intro t k
    refine XS.icmpNo X84.here hx rfl (hb hby d4_7) rfl (tlt (by decide : (2 : Int32) < (4 : Int32))).2.1 ?_
    refine XS.aloadN X84.here hx rfl (hb hby d4_10) rfl rfl ?_
    exact k
  obtain ⟨T85, X85, e85, st85⟩ := getF X84 hx hZ hown (host := "") (Or.inl (own_w hw 12 rfl)) Via.refl e84 Fa (g := (mkF m 11 #[.val (.ref ax), .val (.int (1 : Int32))] [(.ref ax)])) rfl rfl (hb hby d4_11)
  refine own_pre (fun t k => st85 t k) ?_
  refine own_pre (A := (T85.setTop (mkF m 27 #[.val (.ref ax), .val (.int (1 : Int32))] [(.long (uu2.toInt64))]))) ?_ ?_
  · intro t k
    refine XS.iloadN X85.here hx rfl (hb hby d4_14) rfl ?_
    refine XS.iconst X85.here hx rfl (hb hby d4_15) ?_
    refine XS.iadd X85.here hx rfl (hb hby d4_16) rfl ?_
    show Steps p.tables e below (T85.setTop (mkF m 17 #[.val (.ref ax), .val (.int (1 : Int32))] [(.int ((1 : Int32) + (1 : Int32))), (.ref ap)])) _
    rw [show ((1 : Int32) + (1 : Int32)) = (2 : Int32) from by decide]
    show Steps p.tables e below (T85.setTop (mkF m 17 #[.val (.ref ax), .val (.int (1 : Int32))] [(.int (2 : Int32)), (.ref ap)])) _
    obtain ⟨cl86, Ar86, q86, S86, N86, H86, G86⟩ := id Va
    have hin86 : ¬ ((2 : Int32) < 0 ∨ cl86.slots.size ≤ ((2 : Int32)).toNatClampNeg) := inb_of S86 ⟨by decide, by decide⟩
    refine X85.iaload hx (j := (2 : Int32)) (v := (.int uu2)) (by rw [e85]; exact Ar86.1) (State.isArrayOf_alike hZ.alike Ar86.2.1) Ar86.2.2 hin86 (H86.at hin86 rfl) (g := (mkF m 17 #[.val (.ref ax), .val (.int (1 : Int32))] [(.int (2 : Int32)), (.ref ap)])) rfl rfl (hb hby d4_17) _ ?_
    refine XS.i2l X85.here hx rfl (hb hby d4_18) rfl ?_
    refine XS.goto X85.here hx rfl (pc0 := 19) (pc' := 27) rfl (hb hby d4_19) (by decide) (by decide) ?_
    exact k
  obtain ⟨fs, hr, hrun, hended, hW, hsame⟩ := X85.leave (hlocks := BodyLoose.notSynchronized Bd) (v := some (.long (uu2.toInt64))) (fun h => by rw [Bd.returns] at h; cases h)
  refine ⟨_, _, retOut X85 hx Bd.returns rfl (Or.inr (Or.inl ⟨rfl, rfl, _, rfl⟩)) (hb hby d4_27) hr, hrun, hended, _, _, rfl, ?_, ⟨_, rfl⟩, hW, hsame.mono (by decide) (by decide)⟩
  show own_Q4_1_4 Z ax ap kp ct qe uu0 uu1 uu2 uu3 h0 n0 _ T85.heap _
  rw [e85]
  exact ⟨N0, rfl, rfl⟩
abbrev own_l118 (x0 : Slot) (x1 : Slot) (x2 : Int32) (x3 : Slot) (x4 : Slot) (x5 : Slot) (x6 : Int32) (x7 : Slot) (x8 : Slot) (x9 : Slot) (x10 : Slot) (x11 : Slot) (x12 : Slot) (x13 : Slot) (x14 : Slot) (x15 : Addr) (x16 : Addr) (x17 : Slot) (x18 : Slot) (x19 : Slot) (x20 : Slot) (x21 : Slot) (x22 : Slot) (x23 : Slot) (x24 : Slot) : Array Slot := #[x0, x1, .val (.int x2), x3, x4, x5, .val (.int x6), x7, x8, x9, x10, x11, x12, x13, x14, .val (.ref x15), .val (.ref x16), x17, x18, x19, x20, x21, x22, x23, x24, .val (.int (1 : Int32)), .val (.int (1 : Int32)), .val (.int (1 : Int32)), .val (.int (4 : Int32)), .val (.int (2 : Int32)), .unset, .unset, .unset]
abbrev own_l119 (x0 : Slot) (x1 : Slot) (x2 : Int32) (x3 : Slot) (x4 : Slot) (x5 : Slot) (x6 : Int32) (x7 : Slot) (x8 : Slot) (x9 : Slot) (x10 : Slot) (x11 : Slot) (x12 : Slot) (x13 : Slot) (x14 : Slot) (x15 : Addr) (x16 : Addr) (x17 : Slot) (x18 : Slot) (x19 : Slot) (x20 : Slot) (x21 : Slot) (x22 : Slot) (x23 : Slot) (x24 : Slot) : Array Slot := #[x0, x1, .val (.int x2), x3, x4, x5, .val (.int x6), x7, x8, x9, x10, x11, x12, x13, x14, .val (.ref x15), .val (.ref x16), x17, x18, x19, x20, x21, x22, x23, x24, .val (.int (1 : Int32)), .val (.int (1 : Int32)), .val (.int (1 : Int32)), .val (.int (4 : Int32)), .val (.int (2 : Int32)), .val (.int (2 : Int32)), .unset, .unset]
abbrev own_l120 (x0 : Slot) (x1 : Slot) (x2 : Int32) (x3 : Slot) (x4 : Slot) (x5 : Slot) (x6 : Int32) (x7 : Slot) (x8 : Slot) (x9 : Slot) (x10 : Slot) (x11 : Slot) (x12 : Slot) (x13 : Slot) (x14 : Slot) (x15 : Addr) (x16 : Addr) (x17 : Slot) (x18 : Slot) (x19 : Slot) (x20 : Slot) (x21 : Slot) (x22 : Slot) (x23 : Slot) (x24 : Slot) : Array Slot := #[x0, x1, .val (.int x2), x3, x4, x5, .val (.int x6), x7, x8, x9, x10, x11, x12, x13, x14, .val (.ref x15), .val (.ref x16), x17, x18, x19, x20, x21, x22, x23, x24, .val (.int (1 : Int32)), .val (.int (1 : Int32)), .val (.int (1 : Int32)), .val (.int (4 : Int32)), .val (.int (2 : Int32)), .val (.int (2 : Int32)), .val (.long (3 : Int64)), .second]
def own_Q4_2_4 (Z : State) (ax : Addr) (ap : Addr) (kp : ClassId) (ct : Int32) (qe : Int64) (uu0 : Int32) (uu1 : Int32) (uu2 : Int32) (uu3 : Int32) (h0 : Heap) (n0 : Nat) (v : Option Value) (h : Heap) (L : List Loc) : Prop := Fr n0 L ∧ v = some (.long (uu3.toInt64)) ∧ h = h0
set_option maxRecDepth 65536 in
set_option maxHeartbeats 40000000 in
theorem rm4_2_4 (l : Launch) (Z : State) (a0 : Array Value) (hw : ∀ d ∈ tables_1, d.before a0 Z = true) (ws : List Jvm.Cond) (ax : Addr) (ap : Addr) (kp : ClassId) (ct : Int32) (qe : Int64) (uu0 : Int32) (uu1 : Int32) (uu2 : Int32) (uu3 : Int32) (h0 : Heap) (n0 : Nat) (Z0 : n0 ≤ h0.size) (Fe : Fld Z h0 ax "com/example/coho/coho/eventlog/SegmentIndex" "entries" "I" (.int (4 : Int32))) (Fc : Fld Z h0 ax "com/example/coho/coho/eventlog/SegmentIndex" "count" "I" (.int ct)) (Fq : Fld Z h0 ax "com/example/coho/coho/eventlog/SegmentIndex" "end" "J" (.long qe)) (Fa : Fld Z h0 ax "com/example/coho/coho/eventlog/SegmentIndex" "places" "[I" (.ref ap)) (Va : Arv Z h0 ap kp .int (4 : Int32) [(.int uu0), (.int uu1), (.int uu2), (.int uu3)] (.int (0 : Int32))) :
    MetFree l (⟨"com/example/coho/coho/eventlog/SegmentIndex", "placeAfter", "(I)J"⟩ : MethodName) (head1 (Jvm.Cond.code (⟨"com/example/coho/coho/eventlog/SegmentIndex", "placeAfter", "(I)J"⟩ : MethodName) prog_34_method_9_code 2 (some .long) :: ws) ({ frames := 0, cells := 0, slots := 0, locals := 0 } : Room)) (fun a U => a = #[(.ref ax), (.int (2 : Int32))] ∧ Z.Warmed39 U.vm ∧ U.heap = h0) (fun _ _ _ _ _ => True) (fun _ U o U' => ∃ v L, o = .returned v ∧ own_Q4_2_4 Z ax ap kp ct qe uu0 uu1 uu2 uu3 h0 n0 v U'.heap L ∧ FrameEnd U o U' L ({ frames := 0, cells := 0, slots := 0, locals := 0 } : Room).cells ({ frames := 0, cells := 0, slots := 0, locals := 0 } : Room).slots) := by
  refine MetFree.of_bodySF (plainFor_of_name own_pn4) hisR ?_
  intro p e s m args below meth c s₁ Bd hml0 hP hK
  obtain ⟨rfl, hZ, hh⟩ := hP
  have hx := Bd.exec
  have hby := Bd.bytes
  have hml : c.maxLocals = 2 := hml0
  have hown : s.vm.findClass "com/example/coho/coho/eventlog/SegmentIndex" = some m.cls := findClass_of_methodNamed Bd.named
  have hnm := (name_of_methodNamed Bd.named Bd.method).1
  have X0 : Stand p l e ({ frames := 0, cells := 0, slots := 0, locals := 0 } : Room) s m #[(.ref ax), (.int (2 : Int32))] below meth c s₁ [] 0 0 := Stand.of_body Bd
  have e0 : s₁.heap = h0 := by rw [← hh, Bd.state]; rfl
  have N0 := Fr.nil n0
  refine own_pre (A := (s₁.setTop (mkF m 0 #[.val (.ref ax), .val (.int (2 : Int32))] []))) (fun t k => castTop (own_ef4 m ax (2 : Int32)) k) ?_
  refine own_pre (A := (s₁.setTop (mkF m 4 #[.val (.ref ax), .val (.int (2 : Int32))] [(.ref ax), (.int (3 : Int32))]))) ?_ ?_
  · intro t k
    refine XS.iloadN X0.here hx rfl (hb hby d4_0) rfl ?_
    refine XS.iconst X0.here hx rfl (hb hby d4_1) ?_
    refine XS.iadd X0.here hx rfl (hb hby d4_2) rfl ?_
    show Steps p.tables e below (s₁.setTop (mkF m 3 #[.val (.ref ax), .val (.int (2 : Int32))] [(.int ((2 : Int32) + (1 : Int32)))])) _
    rw [show ((2 : Int32) + (1 : Int32)) = (3 : Int32) from by decide]
    refine XS.aloadN X0.here hx rfl (hb hby d4_3) rfl rfl ?_
    exact k
  obtain ⟨T89, X89, e89, st89⟩ := getF X0 hx hZ hown (host := "") (Or.inl (own_w hw 29 rfl)) Via.refl e0 Fe (g := (mkF m 4 #[.val (.ref ax), .val (.int (2 : Int32))] [(.ref ax), (.int (3 : Int32))])) rfl rfl (hb hby d4_4)
  refine own_pre (fun t k => st89 t k) ?_
  refine own_pre (A := (T89.setTop (mkF m 11 #[.val (.ref ax), .val (.int (2 : Int32))] [(.ref ax)]))) ?_ ?_
  · intro t k
    refine XS.icmpNo X89.here hx rfl (hb hby d4_7) rfl (tlt (by decide : (3 : Int32) < (4 : Int32))).2.1 ?_
    refine XS.aloadN X89.here hx rfl (hb hby d4_10) rfl rfl ?_
    exact k
  obtain ⟨T90, X90, e90, st90⟩ := getF X89 hx hZ hown (host := "") (Or.inl (own_w hw 12 rfl)) Via.refl e89 Fa (g := (mkF m 11 #[.val (.ref ax), .val (.int (2 : Int32))] [(.ref ax)])) rfl rfl (hb hby d4_11)
  refine own_pre (fun t k => st90 t k) ?_
  refine own_pre (A := (T90.setTop (mkF m 27 #[.val (.ref ax), .val (.int (2 : Int32))] [(.long (uu3.toInt64))]))) ?_ ?_
  · intro t k
    refine XS.iloadN X90.here hx rfl (hb hby d4_14) rfl ?_
    refine XS.iconst X90.here hx rfl (hb hby d4_15) ?_
    refine XS.iadd X90.here hx rfl (hb hby d4_16) rfl ?_
    show Steps p.tables e below (T90.setTop (mkF m 17 #[.val (.ref ax), .val (.int (2 : Int32))] [(.int ((2 : Int32) + (1 : Int32))), (.ref ap)])) _
    rw [show ((2 : Int32) + (1 : Int32)) = (3 : Int32) from by decide]
    show Steps p.tables e below (T90.setTop (mkF m 17 #[.val (.ref ax), .val (.int (2 : Int32))] [(.int (3 : Int32)), (.ref ap)])) _
    obtain ⟨cl91, Ar91, q91, S91, N91, H91, G91⟩ := id Va
    have hin91 : ¬ ((3 : Int32) < 0 ∨ cl91.slots.size ≤ ((3 : Int32)).toNatClampNeg) := inb_of S91 ⟨by decide, by decide⟩
    refine X90.iaload hx (j := (3 : Int32)) (v := (.int uu3)) (by rw [e90]; exact Ar91.1) (State.isArrayOf_alike hZ.alike Ar91.2.1) Ar91.2.2 hin91 (H91.at hin91 rfl) (g := (mkF m 17 #[.val (.ref ax), .val (.int (2 : Int32))] [(.int (3 : Int32)), (.ref ap)])) rfl rfl (hb hby d4_17) _ ?_
    refine XS.i2l X90.here hx rfl (hb hby d4_18) rfl ?_
    refine XS.goto X90.here hx rfl (pc0 := 19) (pc' := 27) rfl (hb hby d4_19) (by decide) (by decide) ?_
    exact k
  obtain ⟨fs, hr, hrun, hended, hW, hsame⟩ := X90.leave (hlocks := BodyLoose.notSynchronized Bd) (v := some (.long (uu3.toInt64))) (fun h => by rw [Bd.returns] at h; cases h)
  refine ⟨_, _, retOut X90 hx Bd.returns rfl (Or.inr (Or.inl ⟨rfl, rfl, _, rfl⟩)) (hb hby d4_27) hr, hrun, hended, _, _, rfl, ?_, ⟨_, rfl⟩, hW, hsame.mono (by decide) (by decide)⟩
  show own_Q4_2_4 Z ax ap kp ct qe uu0 uu1 uu2 uu3 h0 n0 _ T90.heap _
  rw [e90]
  exact ⟨N0, rfl, rfl⟩
abbrev own_l121 (x0 : Slot) (x1 : Slot) (x2 : Int32) (x3 : Slot) (x4 : Slot) (x5 : Slot) (x6 : Int32) (x7 : Slot) (x8 : Slot) (x9 : Slot) (x10 : Slot) (x11 : Slot) (x12 : Slot) (x13 : Slot) (x14 : Slot) (x15 : Addr) (x16 : Addr) (x17 : Slot) (x18 : Slot) (x19 : Slot) (x20 : Slot) (x21 : Slot) (x22 : Slot) (x23 : Slot) (x24 : Slot) : Array Slot := #[x0, x1, .val (.int x2), x3, x4, x5, .val (.int x6), x7, x8, x9, x10, x11, x12, x13, x14, .val (.ref x15), .val (.ref x16), x17, x18, x19, x20, x21, x22, x23, x24, .val (.int (1 : Int32)), .val (.int (1 : Int32)), .val (.int (1 : Int32)), .val (.int (4 : Int32)), .val (.int (3 : Int32)), .unset, .unset, .unset]
abbrev own_l122 (x0 : Slot) (x1 : Slot) (x2 : Int32) (x3 : Slot) (x4 : Slot) (x5 : Slot) (x6 : Int32) (x7 : Slot) (x8 : Slot) (x9 : Slot) (x10 : Slot) (x11 : Slot) (x12 : Slot) (x13 : Slot) (x14 : Slot) (x15 : Addr) (x16 : Addr) (x17 : Slot) (x18 : Slot) (x19 : Slot) (x20 : Slot) (x21 : Slot) (x22 : Slot) (x23 : Slot) (x24 : Slot) : Array Slot := #[x0, x1, .val (.int x2), x3, x4, x5, .val (.int x6), x7, x8, x9, x10, x11, x12, x13, x14, .val (.ref x15), .val (.ref x16), x17, x18, x19, x20, x21, x22, x23, x24, .val (.int (1 : Int32)), .val (.int (1 : Int32)), .val (.int (1 : Int32)), .val (.int (4 : Int32)), .val (.int (3 : Int32)), .val (.int (3 : Int32)), .unset, .unset]
abbrev own_l123 (x0 : Slot) (x1 : Slot) (x2 : Int32) (x3 : Slot) (x4 : Slot) (x5 : Slot) (x6 : Int32) (x7 : Slot) (x8 : Slot) (x9 : Slot) (x10 : Slot) (x11 : Slot) (x12 : Slot) (x13 : Slot) (x14 : Slot) (x15 : Addr) (x16 : Addr) (x17 : Slot) (x18 : Slot) (x19 : Slot) (x20 : Slot) (x21 : Slot) (x22 : Slot) (x23 : Slot) (x24 : Slot) : Array Slot := #[x0, x1, .val (.int x2), x3, x4, x5, .val (.int x6), x7, x8, x9, x10, x11, x12, x13, x14, .val (.ref x15), .val (.ref x16), x17, x18, x19, x20, x21, x22, x23, x24, .val (.int (1 : Int32)), .val (.int (1 : Int32)), .val (.int (1 : Int32)), .val (.int (4 : Int32)), .val (.int (3 : Int32)), .val (.int (3 : Int32)), .val (.long (x6.toInt64)), .second]
def own_Q4_3_4 (Z : State) (ax : Addr) (ap : Addr) (kp : ClassId) (ct : Int32) (qe : Int64) (uu0 : Int32) (uu1 : Int32) (uu2 : Int32) (uu3 : Int32) (h0 : Heap) (n0 : Nat) (v : Option Value) (h : Heap) (L : List Loc) : Prop := Fr n0 L ∧ v = some (.long (ct.toInt64)) ∧ h = h0
set_option maxRecDepth 65536 in
set_option maxHeartbeats 40000000 in
theorem rm4_3_4 (l : Launch) (Z : State) (a0 : Array Value) (hw : ∀ d ∈ tables_1, d.before a0 Z = true) (ws : List Jvm.Cond) (ax : Addr) (ap : Addr) (kp : ClassId) (ct : Int32) (qe : Int64) (uu0 : Int32) (uu1 : Int32) (uu2 : Int32) (uu3 : Int32) (h0 : Heap) (n0 : Nat) (Z0 : n0 ≤ h0.size) (Fe : Fld Z h0 ax "com/example/coho/coho/eventlog/SegmentIndex" "entries" "I" (.int (4 : Int32))) (Fc : Fld Z h0 ax "com/example/coho/coho/eventlog/SegmentIndex" "count" "I" (.int ct)) (Fq : Fld Z h0 ax "com/example/coho/coho/eventlog/SegmentIndex" "end" "J" (.long qe)) (Fa : Fld Z h0 ax "com/example/coho/coho/eventlog/SegmentIndex" "places" "[I" (.ref ap)) (Va : Arv Z h0 ap kp .int (4 : Int32) [(.int uu0), (.int uu1), (.int uu2), (.int uu3)] (.int (0 : Int32))) :
    MetFree l (⟨"com/example/coho/coho/eventlog/SegmentIndex", "placeAfter", "(I)J"⟩ : MethodName) (head1 (Jvm.Cond.code (⟨"com/example/coho/coho/eventlog/SegmentIndex", "placeAfter", "(I)J"⟩ : MethodName) prog_34_method_9_code 2 (some .long) :: ws) ({ frames := 0, cells := 0, slots := 0, locals := 0 } : Room)) (fun a U => a = #[(.ref ax), (.int (3 : Int32))] ∧ Z.Warmed39 U.vm ∧ U.heap = h0) (fun _ _ _ _ _ => True) (fun _ U o U' => ∃ v L, o = .returned v ∧ own_Q4_3_4 Z ax ap kp ct qe uu0 uu1 uu2 uu3 h0 n0 v U'.heap L ∧ FrameEnd U o U' L ({ frames := 0, cells := 0, slots := 0, locals := 0 } : Room).cells ({ frames := 0, cells := 0, slots := 0, locals := 0 } : Room).slots) := by
  refine MetFree.of_bodySF (plainFor_of_name own_pn4) hisR ?_
  intro p e s m args below meth c s₁ Bd hml0 hP hK
  obtain ⟨rfl, hZ, hh⟩ := hP
  have hx := Bd.exec
  have hby := Bd.bytes
  have hml : c.maxLocals = 2 := hml0
  have hown : s.vm.findClass "com/example/coho/coho/eventlog/SegmentIndex" = some m.cls := findClass_of_methodNamed Bd.named
  have hnm := (name_of_methodNamed Bd.named Bd.method).1
  have X0 : Stand p l e ({ frames := 0, cells := 0, slots := 0, locals := 0 } : Room) s m #[(.ref ax), (.int (3 : Int32))] below meth c s₁ [] 0 0 := Stand.of_body Bd
  have e0 : s₁.heap = h0 := by rw [← hh, Bd.state]; rfl
  have N0 := Fr.nil n0
  refine own_pre (A := (s₁.setTop (mkF m 0 #[.val (.ref ax), .val (.int (3 : Int32))] []))) (fun t k => castTop (own_ef4 m ax (3 : Int32)) k) ?_
  refine own_pre (A := (s₁.setTop (mkF m 4 #[.val (.ref ax), .val (.int (3 : Int32))] [(.ref ax), (.int (4 : Int32))]))) ?_ ?_
  · intro t k
    refine XS.iloadN X0.here hx rfl (hb hby d4_0) rfl ?_
    refine XS.iconst X0.here hx rfl (hb hby d4_1) ?_
    refine XS.iadd X0.here hx rfl (hb hby d4_2) rfl ?_
    show Steps p.tables e below (s₁.setTop (mkF m 3 #[.val (.ref ax), .val (.int (3 : Int32))] [(.int ((3 : Int32) + (1 : Int32)))])) _
    rw [show ((3 : Int32) + (1 : Int32)) = (4 : Int32) from by decide]
    refine XS.aloadN X0.here hx rfl (hb hby d4_3) rfl rfl ?_
    exact k
  obtain ⟨T94, X94, e94, st94⟩ := getF X0 hx hZ hown (host := "") (Or.inl (own_w hw 29 rfl)) Via.refl e0 Fe (g := (mkF m 4 #[.val (.ref ax), .val (.int (3 : Int32))] [(.ref ax), (.int (4 : Int32))])) rfl rfl (hb hby d4_4)
  refine own_pre (fun t k => st94 t k) ?_
  refine own_pre (A := (T94.setTop (mkF m 23 #[.val (.ref ax), .val (.int (3 : Int32))] [(.ref ax)]))) ?_ ?_
  · intro t k
    refine XS.icmpYes X94.here hx rfl (pc0 := 7) (pc' := 22) rfl (hb hby d4_7) rfl (flt (by decide : ¬ ((4 : Int32) < (4 : Int32)))).2.1 (by decide) (by decide) ?_
    refine XS.aloadN X94.here hx rfl (hb hby d4_22) rfl rfl ?_
    exact k
  obtain ⟨T95, X95, e95, st95⟩ := getF X94 hx hZ hown (host := "") (Or.inl (own_w hw 31 rfl)) Via.refl e94 Fc (g := (mkF m 23 #[.val (.ref ax), .val (.int (3 : Int32))] [(.ref ax)])) rfl rfl (hb hby d4_23)
  refine own_pre (fun t k => st95 t k) ?_
  refine own_pre (A := (T95.setTop (mkF m 27 #[.val (.ref ax), .val (.int (3 : Int32))] [(.long (ct.toInt64))]))) ?_ ?_
  · intro t k
    refine XS.i2l X95.here hx rfl (hb hby d4_26) rfl ?_
    exact k
  obtain ⟨fs, hr, hrun, hended, hW, hsame⟩ := X95.leave (hlocks := BodyLoose.notSynchronized Bd) (v := some (.long (ct.toInt64))) (fun h => by rw [Bd.returns] at h; cases h)
  refine ⟨_, _, retOut X95 hx Bd.returns rfl (Or.inr (Or.inl ⟨rfl, rfl, _, rfl⟩)) (hb hby d4_27) hr, hrun, hended, _, _, rfl, ?_, ⟨_, rfl⟩, hW, hsame.mono (by decide) (by decide)⟩
  show own_Q4_3_4 Z ax ap kp ct qe uu0 uu1 uu2 uu3 h0 n0 _ T95.heap _
  rw [e95]
  exact ⟨N0, rfl, rfl⟩
set_option maxRecDepth 65536 in
set_option maxHeartbeats 40000000 in
theorem own_suf_111 {p : Program} {l : Launch} {e : Env} {s : State} {m : MethodId} {args : Array Value} {below : List Frame} {meth : Method} {c : Code} {T0 : State} {locs : List Loc} {Z : State} {a0 : Array Value} {h0 h1 : Heap} {n0 : Nat} {p2 pn : Int32} {qe : Int64} {apl aix app : Addr} {kpl kpp : ClassId} {sl0 sl1 sl3 sl4 sl5 sl7 sl8 sl9 sl10 sl11 sl12 sl13 sl14 sl17 sl18 sl19 sl20 sl21 sl22 sl23 sl24 : Slot} (X0 : Stand p l e room_1 s m args below meth c T0 locs 5 23) (hx : p.tables.exec = Jvm.exec) (hZ : Z.Warmed39 s.vm) (hw : ∀ d ∈ tables_1, d.before a0 Z = true) (hby : c.code = code) (hml : c.maxLocals = 33) (hown : s.vm.findClass "com/example/coho/coho/eventlog/SegmentIndexPlaceAfterPinLaw" = some m.cls) (hret : meth.sig.returnType = some .boolean) (hlk : meth.locks = false) (e0 : T0.heap = h1) (N0 : Fr n0 locs) (Zs0 : n0 ≤ h1.size) (K0 : Keep h0 h1 []) (Ex : Exa Z h1 aix "com/example/coho/coho/eventlog/SegmentIndex") (Fentries : Fld Z h1 aix "com/example/coho/coho/eventlog/SegmentIndex" "entries" "I" (.int (4 : Int32))) (Fcount : Fld Z h1 aix "com/example/coho/coho/eventlog/SegmentIndex" "count" "I" (.int pn)) (Fend : Fld Z h1 aix "com/example/coho/coho/eventlog/SegmentIndex" "end" "J" (.long qe)) (Fplaces : Fld Z h1 aix "com/example/coho/coho/eventlog/SegmentIndex" "places" "[I" (.ref app)) (Vpp : Arv Z h1 app kpp .int (4 : Int32) [(.int (0 : Int32)), (.int (1 : Int32)), (.int (2 : Int32)), (.int (3 : Int32))] (.int (0 : Int32))) (Vpl : Arv Z h1 apl kpl .int (4 : Int32) [(.int (0 : Int32)), (.int (0 : Int32)), (.int (0 : Int32)), (.int (0 : Int32))] (.int (0 : Int32))) (nix : aix ≠ apl) (npp : app ≠ apl) (gpl : n0 ≤ apl) (spl : h0.size ≤ apl) :
    ∃ s₂ o, Steps p.tables e below (T0.setTop (mkF m 218 (own_l101 sl0 sl1 p2 sl3 sl4 sl5 pn sl7 sl8 sl9 sl10 sl11 sl12 sl13 sl14 apl aix sl17 sl18 sl19 sl20 sl21 sl22 sl23 sl24) [])) s₂ ∧ s₂.status = .running ∧ Ended s₂ below o ∧ (∃ v L, o = .returned v ∧ own_Q0 h0 n0 v s₂.heap L ∧ FrameEnd s o s₂ L room_1.cells room_1.slots) := by
  refine own_pre (A := (T0.setTop (mkF m 226 (own_l102 sl0 sl1 p2 sl3 sl4 sl5 pn sl7 sl8 sl9 sl10 sl11 sl12 sl13 sl14 apl aix sl17 sl18 sl19 sl20 sl21 sl22 sl23 sl24) [(.int (0 : Int32)), (.int (0 : Int32)), (.ref apl)]))) ?_ ?_
  · intro t k
    refine XS.iconst X0.here hx rfl (hb hby at_218) ?_
    refine XS.istore X0.here hx rfl (hb hby at_219) rfl (l' := (own_l102 sl0 sl1 p2 sl3 sl4 sl5 pn sl7 sl8 sl9 sl10 sl11 sl12 sl13 sl14 apl aix sl17 sl18 sl19 sl20 sl21 sl22 sl23 sl24)) rfl ?_
    refine XS.aload X0.here hx rfl (hb hby at_221) rfl rfl ?_
    refine XS.iload X0.here hx rfl (hb hby at_223) rfl ?_
    refine XS.iconst X0.here hx rfl (hb hby at_225) ?_
    exact k
  obtain ⟨cl73, Ar73, q73, S73, N73, H73, G73⟩ := Vpl
  have hin73 : ¬ ((0 : Int32) < 0 ∨ cl73.slots.size ≤ ((0 : Int32)).toNatClampNeg) := inb_of S73 ⟨by decide, by decide⟩
  obtain ⟨T73, h73, X73, e73, W73, st73⟩ := stI X0 hx hZ e0 Ar73 (j := (0 : Int32)) hin73 (g := (mkF m 226 (own_l102 sl0 sl1 p2 sl3 sl4 sl5 pn sl7 sl8 sl9 sl10 sl11 sl12 sl13 sl14 apl aix sl17 sl18 sl19 sl20 sl21 sl22 sl23 sl24) [(.int (0 : Int32)), (.int (0 : Int32)), (.ref apl)])) rfl rfl (hb hby at_226)
  have V73 : Arv Z h73 apl kpl .int (4 : Int32) [(.int (0 : Int32)), (.int (0 : Int32)), (.int (0 : Int32)), (.int (0 : Int32))] (.int (0 : Int32)) := Arv.set Ar73 q73 S73 N73 H73 G73 rfl W73 0 rfl (Nat.le_of_ble_eq_true rfl)
  have Ex_73 := Ex.wr W73
  have Fentries_73 := Fentries.other W73 (Or.inl nix)
  have Fcount_73 := Fcount.other W73 (Or.inl nix)
  have Fend_73 := Fend.other W73 (Or.inl nix)
  have Fplaces_73 := Fplaces.other W73 (Or.inl nix)
  have Vpp_73 := Vpp.other W73 npp
  have Zs73 : n0 ≤ h73.size := Nat.le_trans Zs0 (Keep.of_wr W73).1
  have N73 := Fr.snoc X73 N0 gpl
  refine own_pre (fun t k => st73 t k) ?_
  refine own_pre (A := (T73.setTop (mkF m 240 (own_l104 sl0 sl1 p2 sl3 sl4 sl5 pn sl7 sl8 sl9 sl10 sl11 sl12 sl13 sl14 apl aix sl17 sl18 sl19 sl20 sl21 sl22 sl23 sl24) [(.int (1 : Int32)), (.int (1 : Int32)), (.ref apl)]))) ?_ ?_
  · intro t k
    refine XS.iinc X73.here hx rfl (hb hby at_227) rfl (l' := (own_l103 sl0 sl1 p2 sl3 sl4 sl5 pn sl7 sl8 sl9 sl10 sl11 sl12 sl13 sl14 apl aix sl17 sl18 sl19 sl20 sl21 sl22 sl23 sl24)) rfl ?_
    show Steps  p.tables e below (T73.setTop (mkF m 230 #[sl0, sl1, .val (.int p2), sl3, sl4, sl5, .val (.int pn), sl7, sl8, sl9, sl10, sl11, sl12, sl13, sl14, .val (.ref apl), .val (.ref aix), sl17, sl18, sl19, sl20, sl21, sl22, sl23, sl24, .val (.int (1 : Int32)), .val (.int (1 : Int32)), .val (.int (1 : Int32)), .val (.int ((0 : Int32) + (1 : Int32))), .unset, .unset, .unset, .unset] [])) _
    rw [show ((0 : Int32) + (1 : Int32)) = (1 : Int32) from by decide]
    refine XS.iload X73.here hx rfl (hb hby at_230) rfl ?_
    refine XS.ifNo X73.here hx rfl (hb hby at_232) rfl ((if0 _ _).trans (feq (by decide : ¬ ((1 : Int32) = (0 : Int32)))).1) ?_
    refine XS.aload X73.here hx rfl (hb hby at_235) rfl rfl ?_
    refine XS.iload X73.here hx rfl (hb hby at_237) rfl ?_
    refine XS.iconst X73.here hx rfl (hb hby at_239) ?_
    exact k
  obtain ⟨cl74, Ar74, q74, S74, N74, H74, G74⟩ := V73
  have hin74 : ¬ ((1 : Int32) < 0 ∨ cl74.slots.size ≤ ((1 : Int32)).toNatClampNeg) := inb_of S74 ⟨by decide, by decide⟩
  obtain ⟨T74, h74, X74, e74, W74, st74⟩ := stI X73 hx hZ e73 Ar74 (j := (1 : Int32)) hin74 (g := (mkF m 240 (own_l104 sl0 sl1 p2 sl3 sl4 sl5 pn sl7 sl8 sl9 sl10 sl11 sl12 sl13 sl14 apl aix sl17 sl18 sl19 sl20 sl21 sl22 sl23 sl24) [(.int (1 : Int32)), (.int (1 : Int32)), (.ref apl)])) rfl rfl (hb hby at_240)
  have V74 : Arv Z h74 apl kpl .int (4 : Int32) [(.int (0 : Int32)), (.int (1 : Int32)), (.int (0 : Int32)), (.int (0 : Int32))] (.int (0 : Int32)) := Arv.set Ar74 q74 S74 N74 H74 G74 rfl W74 1 rfl (Nat.le_of_ble_eq_true rfl)
  have Ex_74 := Ex_73.wr W74
  have Fentries_74 := Fentries_73.other W74 (Or.inl nix)
  have Fcount_74 := Fcount_73.other W74 (Or.inl nix)
  have Fend_74 := Fend_73.other W74 (Or.inl nix)
  have Fplaces_74 := Fplaces_73.other W74 (Or.inl nix)
  have Vpp_74 := Vpp_73.other W74 npp
  have Zs74 : n0 ≤ h74.size := Nat.le_trans Zs73 (Keep.of_wr W74).1
  have N74 := Fr.snoc X74 N73 gpl
  refine own_pre (fun t k => st74 t k) ?_
  refine own_pre (A := (T74.setTop (mkF m 254 (own_l106 sl0 sl1 p2 sl3 sl4 sl5 pn sl7 sl8 sl9 sl10 sl11 sl12 sl13 sl14 apl aix sl17 sl18 sl19 sl20 sl21 sl22 sl23 sl24) [(.int (2 : Int32)), (.int (2 : Int32)), (.ref apl)]))) ?_ ?_
  · intro t k
    refine XS.iinc X74.here hx rfl (hb hby at_241) rfl (l' := (own_l105 sl0 sl1 p2 sl3 sl4 sl5 pn sl7 sl8 sl9 sl10 sl11 sl12 sl13 sl14 apl aix sl17 sl18 sl19 sl20 sl21 sl22 sl23 sl24)) rfl ?_
    show Steps  p.tables e below (T74.setTop (mkF m 244 #[sl0, sl1, .val (.int p2), sl3, sl4, sl5, .val (.int pn), sl7, sl8, sl9, sl10, sl11, sl12, sl13, sl14, .val (.ref apl), .val (.ref aix), sl17, sl18, sl19, sl20, sl21, sl22, sl23, sl24, .val (.int (1 : Int32)), .val (.int (1 : Int32)), .val (.int (1 : Int32)), .val (.int ((1 : Int32) + (1 : Int32))), .unset, .unset, .unset, .unset] [])) _
    rw [show ((1 : Int32) + (1 : Int32)) = (2 : Int32) from by decide]
    refine XS.iload X74.here hx rfl (hb hby at_244) rfl ?_
    refine XS.ifNo X74.here hx rfl (hb hby at_246) rfl ((if0 _ _).trans (feq (by decide : ¬ ((1 : Int32) = (0 : Int32)))).1) ?_
    refine XS.aload X74.here hx rfl (hb hby at_249) rfl rfl ?_
    refine XS.iload X74.here hx rfl (hb hby at_251) rfl ?_
    refine XS.iconst X74.here hx rfl (hb hby at_253) ?_
    exact k
  obtain ⟨cl75, Ar75, q75, S75, N75, H75, G75⟩ := V74
  have hin75 : ¬ ((2 : Int32) < 0 ∨ cl75.slots.size ≤ ((2 : Int32)).toNatClampNeg) := inb_of S75 ⟨by decide, by decide⟩
  obtain ⟨T75, h75, X75, e75, W75, st75⟩ := stI X74 hx hZ e74 Ar75 (j := (2 : Int32)) hin75 (g := (mkF m 254 (own_l106 sl0 sl1 p2 sl3 sl4 sl5 pn sl7 sl8 sl9 sl10 sl11 sl12 sl13 sl14 apl aix sl17 sl18 sl19 sl20 sl21 sl22 sl23 sl24) [(.int (2 : Int32)), (.int (2 : Int32)), (.ref apl)])) rfl rfl (hb hby at_254)
  have V75 : Arv Z h75 apl kpl .int (4 : Int32) [(.int (0 : Int32)), (.int (1 : Int32)), (.int (2 : Int32)), (.int (0 : Int32))] (.int (0 : Int32)) := Arv.set Ar75 q75 S75 N75 H75 G75 rfl W75 2 rfl (Nat.le_of_ble_eq_true rfl)
  have Ex_75 := Ex_74.wr W75
  have Fentries_75 := Fentries_74.other W75 (Or.inl nix)
  have Fcount_75 := Fcount_74.other W75 (Or.inl nix)
  have Fend_75 := Fend_74.other W75 (Or.inl nix)
  have Fplaces_75 := Fplaces_74.other W75 (Or.inl nix)
  have Vpp_75 := Vpp_74.other W75 npp
  have Zs75 : n0 ≤ h75.size := Nat.le_trans Zs74 (Keep.of_wr W75).1
  have N75 := Fr.snoc X75 N74 gpl
  refine own_pre (fun t k => st75 t k) ?_
  refine own_pre (A := (T75.setTop (mkF m 268 (own_l108 sl0 sl1 p2 sl3 sl4 sl5 pn sl7 sl8 sl9 sl10 sl11 sl12 sl13 sl14 apl aix sl17 sl18 sl19 sl20 sl21 sl22 sl23 sl24) [(.int (3 : Int32)), (.int (3 : Int32)), (.ref apl)]))) ?_ ?_
  · intro t k
    refine XS.iinc X75.here hx rfl (hb hby at_255) rfl (l' := (own_l107 sl0 sl1 p2 sl3 sl4 sl5 pn sl7 sl8 sl9 sl10 sl11 sl12 sl13 sl14 apl aix sl17 sl18 sl19 sl20 sl21 sl22 sl23 sl24)) rfl ?_
    show Steps  p.tables e below (T75.setTop (mkF m 258 #[sl0, sl1, .val (.int p2), sl3, sl4, sl5, .val (.int pn), sl7, sl8, sl9, sl10, sl11, sl12, sl13, sl14, .val (.ref apl), .val (.ref aix), sl17, sl18, sl19, sl20, sl21, sl22, sl23, sl24, .val (.int (1 : Int32)), .val (.int (1 : Int32)), .val (.int (1 : Int32)), .val (.int ((2 : Int32) + (1 : Int32))), .unset, .unset, .unset, .unset] [])) _
    rw [show ((2 : Int32) + (1 : Int32)) = (3 : Int32) from by decide]
    refine XS.iload X75.here hx rfl (hb hby at_258) rfl ?_
    refine XS.ifNo X75.here hx rfl (hb hby at_260) rfl ((if0 _ _).trans (feq (by decide : ¬ ((1 : Int32) = (0 : Int32)))).1) ?_
    refine XS.aload X75.here hx rfl (hb hby at_263) rfl rfl ?_
    refine XS.iload X75.here hx rfl (hb hby at_265) rfl ?_
    refine XS.iconst X75.here hx rfl (hb hby at_267) ?_
    exact k
  obtain ⟨cl76, Ar76, q76, S76, N76, H76, G76⟩ := V75
  have hin76 : ¬ ((3 : Int32) < 0 ∨ cl76.slots.size ≤ ((3 : Int32)).toNatClampNeg) := inb_of S76 ⟨by decide, by decide⟩
  obtain ⟨T76, h76, X76, e76, W76, st76⟩ := stI X75 hx hZ e75 Ar76 (j := (3 : Int32)) hin76 (g := (mkF m 268 (own_l108 sl0 sl1 p2 sl3 sl4 sl5 pn sl7 sl8 sl9 sl10 sl11 sl12 sl13 sl14 apl aix sl17 sl18 sl19 sl20 sl21 sl22 sl23 sl24) [(.int (3 : Int32)), (.int (3 : Int32)), (.ref apl)])) rfl rfl (hb hby at_268)
  have V76 : Arv Z h76 apl kpl .int (4 : Int32) [(.int (0 : Int32)), (.int (1 : Int32)), (.int (2 : Int32)), (.int (3 : Int32))] (.int (0 : Int32)) := Arv.set Ar76 q76 S76 N76 H76 G76 rfl W76 3 rfl (Nat.le_of_ble_eq_true rfl)
  have Ex_76 := Ex_75.wr W76
  have Fentries_76 := Fentries_75.other W76 (Or.inl nix)
  have Fcount_76 := Fcount_75.other W76 (Or.inl nix)
  have Fend_76 := Fend_75.other W76 (Or.inl nix)
  have Fplaces_76 := Fplaces_75.other W76 (Or.inl nix)
  have Vpp_76 := Vpp_75.other W76 npp
  have Zs76 : n0 ≤ h76.size := Nat.le_trans Zs75 (Keep.of_wr W76).1
  have N76 := Fr.snoc X76 N75 gpl
  refine own_pre (fun t k => st76 t k) ?_
  refine own_pre (A := (T76.setTop (mkF m 282 (own_l111 sl0 sl1 p2 sl3 sl4 sl5 pn sl7 sl8 sl9 sl10 sl11 sl12 sl13 sl14 apl aix sl17 sl18 sl19 sl20 sl21 sl22 sl23 sl24) []))) ?_ ?_
  · intro t k
    refine XS.iinc X76.here hx rfl (hb hby at_269) rfl (l' := (own_l109 sl0 sl1 p2 sl3 sl4 sl5 pn sl7 sl8 sl9 sl10 sl11 sl12 sl13 sl14 apl aix sl17 sl18 sl19 sl20 sl21 sl22 sl23 sl24)) rfl ?_
    show Steps  p.tables e below (T76.setTop (mkF m 272 #[sl0, sl1, .val (.int p2), sl3, sl4, sl5, .val (.int pn), sl7, sl8, sl9, sl10, sl11, sl12, sl13, sl14, .val (.ref apl), .val (.ref aix), sl17, sl18, sl19, sl20, sl21, sl22, sl23, sl24, .val (.int (1 : Int32)), .val (.int (1 : Int32)), .val (.int (1 : Int32)), .val (.int ((3 : Int32) + (1 : Int32))), .unset, .unset, .unset, .unset] [])) _
    rw [show ((3 : Int32) + (1 : Int32)) = (4 : Int32) from by decide]
    refine XS.iloadN X76.here hx rfl (hb hby at_272) rfl ?_
    refine XS.iconst X76.here hx rfl (hb hby at_273) ?_
    refine XS.iushr X76.here hx rfl (hb hby at_274) rfl ?_
    refine XS.iconst X76.here hx rfl (hb hby at_275) ?_
    refine XS.iand X76.here hx rfl (hb hby at_276) rfl ?_
    refine XS.iload X76.here hx rfl (hb hby at_277) rfl ?_
    show Steps p.tables e below (T76.setTop (mkF m 279 (own_l110 sl0 sl1 p2 sl3 sl4 sl5 pn sl7 sl8 sl9 sl10 sl11 sl12 sl13 sl14 apl aix sl17 sl18 sl19 sl20 sl21 sl22 sl23 sl24) [(.int (4 : Int32)), (.int (((p2.toUInt32 >>> ((2 : Int32) &&& 31).toUInt32).toInt32) &&& (3 : Int32)))])) _
    refine iremM X76 hx rfl (hb hby at_279) rfl (by decide) ?_
    show Steps p.tables e below (T76.setTop (mkF m 280 (own_l110 sl0 sl1 p2 sl3 sl4 sl5 pn sl7 sl8 sl9 sl10 sl11 sl12 sl13 sl14 apl aix sl17 sl18 sl19 sl20 sl21 sl22 sl23 sl24) [(.int ((((p2.toUInt32 >>> ((2 : Int32) &&& 31).toUInt32).toInt32) &&& (3 : Int32)) % (4 : Int32)))])) _
    refine XS.istore X76.here hx rfl (hb hby at_280) rfl (l' := (own_l111 sl0 sl1 p2 sl3 sl4 sl5 pn sl7 sl8 sl9 sl10 sl11 sl12 sl13 sl14 apl aix sl17 sl18 sl19 sl20 sl21 sl22 sl23 sl24)) rfl ?_
    exact k
  obtain ⟨pe, hpe⟩ : ∃ z : Int32, z = ((((p2.toUInt32 >>> ((2 : Int32) &&& 31).toUInt32).toInt32) &&& (3 : Int32)) % (4 : Int32)) := ⟨_, rfl⟩
  show ∃ s₂ o, Steps p.tables e below (T76.setTop (mkF m 282 #[sl0, sl1, .val (.int p2), sl3, sl4, sl5, .val (.int pn), sl7, sl8, sl9, sl10, sl11, sl12, sl13, sl14, .val (.ref apl), .val (.ref aix), sl17, sl18, sl19, sl20, sl21, sl22, sl23, sl24, .val (.int (1 : Int32)), .val (.int (1 : Int32)), .val (.int (1 : Int32)), .val (.int (4 : Int32)), .val (.int ((((p2.toUInt32 >>> ((2 : Int32) &&& 31).toUInt32).toInt32) &&& (3 : Int32)) % (4 : Int32))), .unset, .unset, .unset] [])) s₂ ∧ _
  rw [← hpe]
  have he : pe = (0 : Int32) ∨ pe = (1 : Int32) ∨ pe = (2 : Int32) ∨ pe = (3 : Int32) := by rw [hpe]; exact own_e4 _
  clear hpe
  rcases he with rfl | rfl | rfl | rfl
  · skip
    refine own_pre (A := (T76.setTop (mkF m 353 (own_l114 sl0 sl1 p2 sl3 sl4 sl5 pn sl7 sl8 sl9 sl10 sl11 sl12 sl13 sl14 apl aix sl17 sl18 sl19 sl20 sl21 sl22 sl23 sl24) [(.int (0 : Int32)), (.ref aix)]))) ?_ ?_
    · intro t k
      refine XS.aload X76.here hx rfl (hb hby at_282) rfl rfl ?_
      refine XS.iload X76.here hx rfl (hb hby at_284) rfl ?_
      show Steps p.tables e below (T76.setTop (mkF m 286 (own_l112 sl0 sl1 p2 sl3 sl4 sl5 pn sl7 sl8 sl9 sl10 sl11 sl12 sl13 sl14 apl aix sl17 sl18 sl19 sl20 sl21 sl22 sl23 sl24) [(.int (0 : Int32)), (.ref apl)])) _
      obtain ⟨cl77, Ar77, q77, S77, N77, H77, G77⟩ := id V76
      have hin77 : ¬ ((0 : Int32) < 0 ∨ cl77.slots.size ≤ ((0 : Int32)).toNatClampNeg) := inb_of S77 ⟨by decide, by decide⟩
      refine X76.iaload hx (j := (0 : Int32)) (v := (.int (0 : Int32))) (by rw [e76]; exact Ar77.1) (State.isArrayOf_alike hZ.alike Ar77.2.1) Ar77.2.2 hin77 (H77.at hin77 rfl) (g := (mkF m 286 (own_l112 sl0 sl1 p2 sl3 sl4 sl5 pn sl7 sl8 sl9 sl10 sl11 sl12 sl13 sl14 apl aix sl17 sl18 sl19 sl20 sl21 sl22 sl23 sl24) [(.int (0 : Int32)), (.ref apl)])) rfl rfl (hb hby at_286) _ ?_
      refine XS.istore X76.here hx rfl (hb hby at_287) rfl (l' := (own_l113 sl0 sl1 p2 sl3 sl4 sl5 pn sl7 sl8 sl9 sl10 sl11 sl12 sl13 sl14 apl aix sl17 sl18 sl19 sl20 sl21 sl22 sl23 sl24)) rfl ?_
      refine XS.iload X76.here hx rfl (hb hby at_289) rfl ?_
      refine XS.iconst X76.here hx rfl (hb hby at_291) ?_
      refine XS.icmpNo X76.here hx rfl (hb hby at_292) rfl (tlt (by decide : (0 : Int32) < (1 : Int32))).2.1 ?_
      refine XS.iload X76.here hx rfl (hb hby at_295) rfl ?_
      refine XS.ifNo X76.here hx rfl (hb hby at_297) rfl ((if0 _ _).trans (feq (by decide : ¬ ((1 : Int32) = (0 : Int32)))).1) ?_
      refine XS.lconst X76.here hx rfl (hb hby at_300) ?_
      refine XS.lstore X76.here hx rfl (hb hby at_301) rfl (l' := (own_l114 sl0 sl1 p2 sl3 sl4 sl5 pn sl7 sl8 sl9 sl10 sl11 sl12 sl13 sl14 apl aix sl17 sl18 sl19 sl20 sl21 sl22 sl23 sl24)) rfl ?_
      refine XS.goto X76.here hx rfl (pc0 := 303) (pc' := 349) rfl (hb hby at_303) (by decide) (by decide) ?_
      refine XS.aload X76.here hx rfl (hb hby at_349) rfl rfl ?_
      refine XS.iload X76.here hx rfl (hb hby at_351) rfl ?_
      exact k
    obtain ⟨cq78, kq78, q78a, q78b, q78c⟩ := isOf hZ e76 Ex_76
    obtain ⟨_, _, ⟨T78, L78, k78, n78⟩, -, X78, ⟨Lc78, hQ78, l78, y78, z78⟩, st78⟩ := X76.virtualBack hx (y := (⟨"com/example/coho/coho/eventlog/SegmentIndex", "placeAfter", "(I)J"⟩ : MethodName)) (z := (⟨"com/example/coho/coho/eventlog/SegmentIndex", "placeAfter", "(I)J"⟩ : MethodName)) hown (mvT hZ (own_w hw 35 rfl)) (mvT hZ (own_w hw 36 rfl)) (notFace_of_selects (args := #[]) (mvT hZ (own_w hw 38 rfl))) (mvT hZ (own_w hw 38 rfl)) (mvT hZ (own_w hw 37 rfl)) (by decide) (backOf (W := 0) (rm4_0_4 l Z a0 hw [] aix app kpp pn qe (0 : Int32) (1 : Int32) (2 : Int32) (3 : Int32) h76 n0 Zs76 Fentries_76 Fcount_76 Fend_76 Fplaces_76 Vpp_76) hZ (own_w hw 39 rfl) (own_w hw 5 rfl) (by decide) (by decide)) q78a q78c (g := (mkF m 353 (own_l114 sl0 sl1 p2 sl3 sl4 sl5 pn sl7 sl8 sl9 sl10 sl11 sl12 sl13 sl14 apl aix sl17 sl18 sl19 sl20 sl21 sl22 sl23 sl24) [(.int (0 : Int32)), (.ref aix)])) rfl (by rw [hml]; rfl) (Steps.refl _) (argsL := [(.int (0 : Int32))]) (rest := []) (lenOf own_pd0 rfl) rfl (by show 2 * 0 + _ ≤ _; exact Nat.le_of_eq rfl) (hb hby at_353) (fun _ _ => ⟨rfl, e76, (by decide : 5 + 0 ≤ _), (by decide : 23 + 0 ≤ _)⟩)
    dsimp only [Pt.U, Pt.locs, Pt.cells, Pt.slots] at X78 l78 y78 z78 st78 hQ78
    replace y78 : _ = 5 := y78
    replace z78 : _ = 23 := z78
    subst y78 z78
    obtain ⟨Nq78, rfl, eq78⟩ := hQ78
    have N78 := own_frl l78 N76 Nq78
    refine own_pre (fun t k => st78.trans k) ?_
    refine own_pre (A := (T78.setTop (mkF m 367 (own_l114 sl0 sl1 p2 sl3 sl4 sl5 pn sl7 sl8 sl9 sl10 sl11 sl12 sl13 sl14 apl aix sl17 sl18 sl19 sl20 sl21 sl22 sl23 sl24) [(.int (1 : Int32))]))) ?_ ?_
    · intro t k
      refine XS.lload X78.here hx rfl (hb hby at_356) rfl ?_
      refine XS.lcmp X78.here hx rfl (hb hby at_358) rfl ?_
      refine XS.ifNo X78.here hx rfl (hb hby at_359) rfl ((if0 _ _).trans (teq ((lw_eq ((1 : Int32).toInt64) (1 : Int64)).mpr (by decide : ((1 : Int32).toInt64) = (1 : Int64)))).2) ?_
      refine XS.iconst X78.here hx rfl (hb hby at_362) ?_
      refine XS.goto X78.here hx rfl (pc0 := 363) (pc' := 367) rfl (hb hby at_363) (by decide) (by decide) ?_
      exact k
    obtain ⟨fs, hr, hrun, hended, hW, hsame⟩ := X78.leave (hlocks := hlk) (v := some (.int (1 : Int32))) (fun h => by rw [hret] at h; cases h)
    refine ⟨_, _, retOut X78 hx hret rfl (Or.inl ⟨rfl, Or.inr (Or.inl rfl), _, rfl⟩) (hb hby at_367) hr, hrun, hended, _, _, rfl, ?_, ⟨_, rfl⟩, hW, hsame.mono (by decide) (by decide)⟩
    show own_Q0 h0 n0 _ T78.heap _
    rw [eq78]
    exact ⟨rfl, N78⟩
  · skip
    refine own_pre (A := (T76.setTop (mkF m 353 (own_l117 sl0 sl1 p2 sl3 sl4 sl5 pn sl7 sl8 sl9 sl10 sl11 sl12 sl13 sl14 apl aix sl17 sl18 sl19 sl20 sl21 sl22 sl23 sl24) [(.int (1 : Int32)), (.ref aix)]))) ?_ ?_
    · intro t k
      refine XS.aload X76.here hx rfl (hb hby at_282) rfl rfl ?_
      refine XS.iload X76.here hx rfl (hb hby at_284) rfl ?_
      show Steps p.tables e below (T76.setTop (mkF m 286 (own_l115 sl0 sl1 p2 sl3 sl4 sl5 pn sl7 sl8 sl9 sl10 sl11 sl12 sl13 sl14 apl aix sl17 sl18 sl19 sl20 sl21 sl22 sl23 sl24) [(.int (1 : Int32)), (.ref apl)])) _
      obtain ⟨cl82, Ar82, q82, S82, N82, H82, G82⟩ := id V76
      have hin82 : ¬ ((1 : Int32) < 0 ∨ cl82.slots.size ≤ ((1 : Int32)).toNatClampNeg) := inb_of S82 ⟨by decide, by decide⟩
      refine X76.iaload hx (j := (1 : Int32)) (v := (.int (1 : Int32))) (by rw [e76]; exact Ar82.1) (State.isArrayOf_alike hZ.alike Ar82.2.1) Ar82.2.2 hin82 (H82.at hin82 rfl) (g := (mkF m 286 (own_l115 sl0 sl1 p2 sl3 sl4 sl5 pn sl7 sl8 sl9 sl10 sl11 sl12 sl13 sl14 apl aix sl17 sl18 sl19 sl20 sl21 sl22 sl23 sl24) [(.int (1 : Int32)), (.ref apl)])) rfl rfl (hb hby at_286) _ ?_
      refine XS.istore X76.here hx rfl (hb hby at_287) rfl (l' := (own_l116 sl0 sl1 p2 sl3 sl4 sl5 pn sl7 sl8 sl9 sl10 sl11 sl12 sl13 sl14 apl aix sl17 sl18 sl19 sl20 sl21 sl22 sl23 sl24)) rfl ?_
      refine XS.iload X76.here hx rfl (hb hby at_289) rfl ?_
      refine XS.iconst X76.here hx rfl (hb hby at_291) ?_
      refine XS.icmpYes X76.here hx rfl (pc0 := 292) (pc' := 306) rfl (hb hby at_292) rfl (flt (by decide : ¬ ((1 : Int32) < (1 : Int32)))).2.1 (by decide) (by decide) ?_
      refine XS.iload X76.here hx rfl (hb hby at_306) rfl ?_
      refine XS.iconst X76.here hx rfl (hb hby at_308) ?_
      refine XS.icmpNo X76.here hx rfl (hb hby at_309) rfl (tlt (by decide : (1 : Int32) < (2 : Int32))).2.1 ?_
      refine XS.iload X76.here hx rfl (hb hby at_312) rfl ?_
      refine XS.ifNo X76.here hx rfl (hb hby at_314) rfl ((if0 _ _).trans (feq (by decide : ¬ ((1 : Int32) = (0 : Int32)))).1) ?_
      show Steps p.tables e below (T76.setTop (mkF m 317 (own_l116 sl0 sl1 p2 sl3 sl4 sl5 pn sl7 sl8 sl9 sl10 sl11 sl12 sl13 sl14 apl aix sl17 sl18 sl19 sl20 sl21 sl22 sl23 sl24) [])) _
      refine X76.ldc2Long hx hown (mvT hZ (own_w hw 34 rfl)) (g := (mkF m 317 (own_l116 sl0 sl1 p2 sl3 sl4 sl5 pn sl7 sl8 sl9 sl10 sl11 sl12 sl13 sl14 apl aix sl17 sl18 sl19 sl20 sl21 sl22 sl23 sl24) [])) rfl (hb hby at_317) _ ?_
      refine XS.lstore X76.here hx rfl (hb hby at_320) rfl (l' := (own_l117 sl0 sl1 p2 sl3 sl4 sl5 pn sl7 sl8 sl9 sl10 sl11 sl12 sl13 sl14 apl aix sl17 sl18 sl19 sl20 sl21 sl22 sl23 sl24)) rfl ?_
      refine XS.goto X76.here hx rfl (pc0 := 322) (pc' := 349) rfl (hb hby at_322) (by decide) (by decide) ?_
      refine XS.aload X76.here hx rfl (hb hby at_349) rfl rfl ?_
      refine XS.iload X76.here hx rfl (hb hby at_351) rfl ?_
      exact k
    obtain ⟨cq83, kq83, q83a, q83b, q83c⟩ := isOf hZ e76 Ex_76
    obtain ⟨_, _, ⟨T83, L83, k83, n83⟩, -, X83, ⟨Lc83, hQ83, l83, y83, z83⟩, st83⟩ := X76.virtualBack hx (y := (⟨"com/example/coho/coho/eventlog/SegmentIndex", "placeAfter", "(I)J"⟩ : MethodName)) (z := (⟨"com/example/coho/coho/eventlog/SegmentIndex", "placeAfter", "(I)J"⟩ : MethodName)) hown (mvT hZ (own_w hw 35 rfl)) (mvT hZ (own_w hw 36 rfl)) (notFace_of_selects (args := #[]) (mvT hZ (own_w hw 38 rfl))) (mvT hZ (own_w hw 38 rfl)) (mvT hZ (own_w hw 37 rfl)) (by decide) (backOf (W := 0) (rm4_1_4 l Z a0 hw [] aix app kpp pn qe (0 : Int32) (1 : Int32) (2 : Int32) (3 : Int32) h76 n0 Zs76 Fentries_76 Fcount_76 Fend_76 Fplaces_76 Vpp_76) hZ (own_w hw 39 rfl) (own_w hw 5 rfl) (by decide) (by decide)) q83a q83c (g := (mkF m 353 (own_l117 sl0 sl1 p2 sl3 sl4 sl5 pn sl7 sl8 sl9 sl10 sl11 sl12 sl13 sl14 apl aix sl17 sl18 sl19 sl20 sl21 sl22 sl23 sl24) [(.int (1 : Int32)), (.ref aix)])) rfl (by rw [hml]; rfl) (Steps.refl _) (argsL := [(.int (1 : Int32))]) (rest := []) (lenOf own_pd0 rfl) rfl (by show 2 * 0 + _ ≤ _; exact Nat.le_of_eq rfl) (hb hby at_353) (fun _ _ => ⟨rfl, e76, (by decide : 5 + 0 ≤ _), (by decide : 23 + 0 ≤ _)⟩)
    dsimp only [Pt.U, Pt.locs, Pt.cells, Pt.slots] at X83 l83 y83 z83 st83 hQ83
    replace y83 : _ = 5 := y83
    replace z83 : _ = 23 := z83
    subst y83 z83
    obtain ⟨Nq83, rfl, eq83⟩ := hQ83
    have N83 := own_frl l83 N76 Nq83
    refine own_pre (fun t k => st83.trans k) ?_
    refine own_pre (A := (T83.setTop (mkF m 367 (own_l117 sl0 sl1 p2 sl3 sl4 sl5 pn sl7 sl8 sl9 sl10 sl11 sl12 sl13 sl14 apl aix sl17 sl18 sl19 sl20 sl21 sl22 sl23 sl24) [(.int (1 : Int32))]))) ?_ ?_
    · intro t k
      refine XS.lload X83.here hx rfl (hb hby at_356) rfl ?_
      refine XS.lcmp X83.here hx rfl (hb hby at_358) rfl ?_
      refine XS.ifNo X83.here hx rfl (hb hby at_359) rfl ((if0 _ _).trans (teq ((lw_eq ((2 : Int32).toInt64) (2 : Int64)).mpr (by decide : ((2 : Int32).toInt64) = (2 : Int64)))).2) ?_
      refine XS.iconst X83.here hx rfl (hb hby at_362) ?_
      refine XS.goto X83.here hx rfl (pc0 := 363) (pc' := 367) rfl (hb hby at_363) (by decide) (by decide) ?_
      exact k
    obtain ⟨fs, hr, hrun, hended, hW, hsame⟩ := X83.leave (hlocks := hlk) (v := some (.int (1 : Int32))) (fun h => by rw [hret] at h; cases h)
    refine ⟨_, _, retOut X83 hx hret rfl (Or.inl ⟨rfl, Or.inr (Or.inl rfl), _, rfl⟩) (hb hby at_367) hr, hrun, hended, _, _, rfl, ?_, ⟨_, rfl⟩, hW, hsame.mono (by decide) (by decide)⟩
    show own_Q0 h0 n0 _ T83.heap _
    rw [eq83]
    exact ⟨rfl, N83⟩
  · skip
    refine own_pre (A := (T76.setTop (mkF m 353 (own_l120 sl0 sl1 p2 sl3 sl4 sl5 pn sl7 sl8 sl9 sl10 sl11 sl12 sl13 sl14 apl aix sl17 sl18 sl19 sl20 sl21 sl22 sl23 sl24) [(.int (2 : Int32)), (.ref aix)]))) ?_ ?_
    · intro t k
      refine XS.aload X76.here hx rfl (hb hby at_282) rfl rfl ?_
      refine XS.iload X76.here hx rfl (hb hby at_284) rfl ?_
      show Steps p.tables e below (T76.setTop (mkF m 286 (own_l118 sl0 sl1 p2 sl3 sl4 sl5 pn sl7 sl8 sl9 sl10 sl11 sl12 sl13 sl14 apl aix sl17 sl18 sl19 sl20 sl21 sl22 sl23 sl24) [(.int (2 : Int32)), (.ref apl)])) _
      obtain ⟨cl87, Ar87, q87, S87, N87, H87, G87⟩ := id V76
      have hin87 : ¬ ((2 : Int32) < 0 ∨ cl87.slots.size ≤ ((2 : Int32)).toNatClampNeg) := inb_of S87 ⟨by decide, by decide⟩
      refine X76.iaload hx (j := (2 : Int32)) (v := (.int (2 : Int32))) (by rw [e76]; exact Ar87.1) (State.isArrayOf_alike hZ.alike Ar87.2.1) Ar87.2.2 hin87 (H87.at hin87 rfl) (g := (mkF m 286 (own_l118 sl0 sl1 p2 sl3 sl4 sl5 pn sl7 sl8 sl9 sl10 sl11 sl12 sl13 sl14 apl aix sl17 sl18 sl19 sl20 sl21 sl22 sl23 sl24) [(.int (2 : Int32)), (.ref apl)])) rfl rfl (hb hby at_286) _ ?_
      refine XS.istore X76.here hx rfl (hb hby at_287) rfl (l' := (own_l119 sl0 sl1 p2 sl3 sl4 sl5 pn sl7 sl8 sl9 sl10 sl11 sl12 sl13 sl14 apl aix sl17 sl18 sl19 sl20 sl21 sl22 sl23 sl24)) rfl ?_
      refine XS.iload X76.here hx rfl (hb hby at_289) rfl ?_
      refine XS.iconst X76.here hx rfl (hb hby at_291) ?_
      refine XS.icmpYes X76.here hx rfl (pc0 := 292) (pc' := 306) rfl (hb hby at_292) rfl (flt (by decide : ¬ ((2 : Int32) < (1 : Int32)))).2.1 (by decide) (by decide) ?_
      refine XS.iload X76.here hx rfl (hb hby at_306) rfl ?_
      refine XS.iconst X76.here hx rfl (hb hby at_308) ?_
      refine XS.icmpYes X76.here hx rfl (pc0 := 309) (pc' := 325) rfl (hb hby at_309) rfl (flt (by decide : ¬ ((2 : Int32) < (2 : Int32)))).2.1 (by decide) (by decide) ?_
      refine XS.iload X76.here hx rfl (hb hby at_325) rfl ?_
      refine XS.iconst X76.here hx rfl (hb hby at_327) ?_
      refine XS.icmpNo X76.here hx rfl (hb hby at_328) rfl (tlt (by decide : (2 : Int32) < (3 : Int32))).2.1 ?_
      refine XS.iload X76.here hx rfl (hb hby at_331) rfl ?_
      refine XS.ifNo X76.here hx rfl (hb hby at_333) rfl ((if0 _ _).trans (feq (by decide : ¬ ((1 : Int32) = (0 : Int32)))).1) ?_
      show Steps p.tables e below (T76.setTop (mkF m 336 (own_l119 sl0 sl1 p2 sl3 sl4 sl5 pn sl7 sl8 sl9 sl10 sl11 sl12 sl13 sl14 apl aix sl17 sl18 sl19 sl20 sl21 sl22 sl23 sl24) [])) _
      refine X76.ldc2Long hx hown (mvT hZ (own_w hw 40 rfl)) (g := (mkF m 336 (own_l119 sl0 sl1 p2 sl3 sl4 sl5 pn sl7 sl8 sl9 sl10 sl11 sl12 sl13 sl14 apl aix sl17 sl18 sl19 sl20 sl21 sl22 sl23 sl24) [])) rfl (hb hby at_336) _ ?_
      refine XS.lstore X76.here hx rfl (hb hby at_339) rfl (l' := (own_l120 sl0 sl1 p2 sl3 sl4 sl5 pn sl7 sl8 sl9 sl10 sl11 sl12 sl13 sl14 apl aix sl17 sl18 sl19 sl20 sl21 sl22 sl23 sl24)) rfl ?_
      refine XS.goto X76.here hx rfl (pc0 := 341) (pc' := 349) rfl (hb hby at_341) (by decide) (by decide) ?_
      refine XS.aload X76.here hx rfl (hb hby at_349) rfl rfl ?_
      refine XS.iload X76.here hx rfl (hb hby at_351) rfl ?_
      exact k
    obtain ⟨cq88, kq88, q88a, q88b, q88c⟩ := isOf hZ e76 Ex_76
    obtain ⟨_, _, ⟨T88, L88, k88, n88⟩, -, X88, ⟨Lc88, hQ88, l88, y88, z88⟩, st88⟩ := X76.virtualBack hx (y := (⟨"com/example/coho/coho/eventlog/SegmentIndex", "placeAfter", "(I)J"⟩ : MethodName)) (z := (⟨"com/example/coho/coho/eventlog/SegmentIndex", "placeAfter", "(I)J"⟩ : MethodName)) hown (mvT hZ (own_w hw 35 rfl)) (mvT hZ (own_w hw 36 rfl)) (notFace_of_selects (args := #[]) (mvT hZ (own_w hw 38 rfl))) (mvT hZ (own_w hw 38 rfl)) (mvT hZ (own_w hw 37 rfl)) (by decide) (backOf (W := 0) (rm4_2_4 l Z a0 hw [] aix app kpp pn qe (0 : Int32) (1 : Int32) (2 : Int32) (3 : Int32) h76 n0 Zs76 Fentries_76 Fcount_76 Fend_76 Fplaces_76 Vpp_76) hZ (own_w hw 39 rfl) (own_w hw 5 rfl) (by decide) (by decide)) q88a q88c (g := (mkF m 353 (own_l120 sl0 sl1 p2 sl3 sl4 sl5 pn sl7 sl8 sl9 sl10 sl11 sl12 sl13 sl14 apl aix sl17 sl18 sl19 sl20 sl21 sl22 sl23 sl24) [(.int (2 : Int32)), (.ref aix)])) rfl (by rw [hml]; rfl) (Steps.refl _) (argsL := [(.int (2 : Int32))]) (rest := []) (lenOf own_pd0 rfl) rfl (by show 2 * 0 + _ ≤ _; exact Nat.le_of_eq rfl) (hb hby at_353) (fun _ _ => ⟨rfl, e76, (by decide : 5 + 0 ≤ _), (by decide : 23 + 0 ≤ _)⟩)
    dsimp only [Pt.U, Pt.locs, Pt.cells, Pt.slots] at X88 l88 y88 z88 st88 hQ88
    replace y88 : _ = 5 := y88
    replace z88 : _ = 23 := z88
    subst y88 z88
    obtain ⟨Nq88, rfl, eq88⟩ := hQ88
    have N88 := own_frl l88 N76 Nq88
    refine own_pre (fun t k => st88.trans k) ?_
    refine own_pre (A := (T88.setTop (mkF m 367 (own_l120 sl0 sl1 p2 sl3 sl4 sl5 pn sl7 sl8 sl9 sl10 sl11 sl12 sl13 sl14 apl aix sl17 sl18 sl19 sl20 sl21 sl22 sl23 sl24) [(.int (1 : Int32))]))) ?_ ?_
    · intro t k
      refine XS.lload X88.here hx rfl (hb hby at_356) rfl ?_
      refine XS.lcmp X88.here hx rfl (hb hby at_358) rfl ?_
      refine XS.ifNo X88.here hx rfl (hb hby at_359) rfl ((if0 _ _).trans (teq ((lw_eq ((3 : Int32).toInt64) (3 : Int64)).mpr (by decide : ((3 : Int32).toInt64) = (3 : Int64)))).2) ?_
      refine XS.iconst X88.here hx rfl (hb hby at_362) ?_
      refine XS.goto X88.here hx rfl (pc0 := 363) (pc' := 367) rfl (hb hby at_363) (by decide) (by decide) ?_
      exact k
    obtain ⟨fs, hr, hrun, hended, hW, hsame⟩ := X88.leave (hlocks := hlk) (v := some (.int (1 : Int32))) (fun h => by rw [hret] at h; cases h)
    refine ⟨_, _, retOut X88 hx hret rfl (Or.inl ⟨rfl, Or.inr (Or.inl rfl), _, rfl⟩) (hb hby at_367) hr, hrun, hended, _, _, rfl, ?_, ⟨_, rfl⟩, hW, hsame.mono (by decide) (by decide)⟩
    show own_Q0 h0 n0 _ T88.heap _
    rw [eq88]
    exact ⟨rfl, N88⟩
  · skip
    refine own_pre (A := (T76.setTop (mkF m 353 (own_l123 sl0 sl1 p2 sl3 sl4 sl5 pn sl7 sl8 sl9 sl10 sl11 sl12 sl13 sl14 apl aix sl17 sl18 sl19 sl20 sl21 sl22 sl23 sl24) [(.int (3 : Int32)), (.ref aix)]))) ?_ ?_
    · intro t k
      refine XS.aload X76.here hx rfl (hb hby at_282) rfl rfl ?_
      refine XS.iload X76.here hx rfl (hb hby at_284) rfl ?_
      show Steps p.tables e below (T76.setTop (mkF m 286 (own_l121 sl0 sl1 p2 sl3 sl4 sl5 pn sl7 sl8 sl9 sl10 sl11 sl12 sl13 sl14 apl aix sl17 sl18 sl19 sl20 sl21 sl22 sl23 sl24) [(.int (3 : Int32)), (.ref apl)])) _
      obtain ⟨cl92, Ar92, q92, S92, N92, H92, G92⟩ := id V76
      have hin92 : ¬ ((3 : Int32) < 0 ∨ cl92.slots.size ≤ ((3 : Int32)).toNatClampNeg) := inb_of S92 ⟨by decide, by decide⟩
      refine X76.iaload hx (j := (3 : Int32)) (v := (.int (3 : Int32))) (by rw [e76]; exact Ar92.1) (State.isArrayOf_alike hZ.alike Ar92.2.1) Ar92.2.2 hin92 (H92.at hin92 rfl) (g := (mkF m 286 (own_l121 sl0 sl1 p2 sl3 sl4 sl5 pn sl7 sl8 sl9 sl10 sl11 sl12 sl13 sl14 apl aix sl17 sl18 sl19 sl20 sl21 sl22 sl23 sl24) [(.int (3 : Int32)), (.ref apl)])) rfl rfl (hb hby at_286) _ ?_
      refine XS.istore X76.here hx rfl (hb hby at_287) rfl (l' := (own_l122 sl0 sl1 p2 sl3 sl4 sl5 pn sl7 sl8 sl9 sl10 sl11 sl12 sl13 sl14 apl aix sl17 sl18 sl19 sl20 sl21 sl22 sl23 sl24)) rfl ?_
      refine XS.iload X76.here hx rfl (hb hby at_289) rfl ?_
      refine XS.iconst X76.here hx rfl (hb hby at_291) ?_
      refine XS.icmpYes X76.here hx rfl (pc0 := 292) (pc' := 306) rfl (hb hby at_292) rfl (flt (by decide : ¬ ((3 : Int32) < (1 : Int32)))).2.1 (by decide) (by decide) ?_
      refine XS.iload X76.here hx rfl (hb hby at_306) rfl ?_
      refine XS.iconst X76.here hx rfl (hb hby at_308) ?_
      refine XS.icmpYes X76.here hx rfl (pc0 := 309) (pc' := 325) rfl (hb hby at_309) rfl (flt (by decide : ¬ ((3 : Int32) < (2 : Int32)))).2.1 (by decide) (by decide) ?_
      refine XS.iload X76.here hx rfl (hb hby at_325) rfl ?_
      refine XS.iconst X76.here hx rfl (hb hby at_327) ?_
      refine XS.icmpYes X76.here hx rfl (pc0 := 328) (pc' := 344) rfl (hb hby at_328) rfl (flt (by decide : ¬ ((3 : Int32) < (3 : Int32)))).2.1 (by decide) (by decide) ?_
      refine XS.iload X76.here hx rfl (hb hby at_344) rfl ?_
      refine XS.i2l X76.here hx rfl (hb hby at_346) rfl ?_
      refine XS.lstore X76.here hx rfl (hb hby at_347) rfl (l' := (own_l123 sl0 sl1 p2 sl3 sl4 sl5 pn sl7 sl8 sl9 sl10 sl11 sl12 sl13 sl14 apl aix sl17 sl18 sl19 sl20 sl21 sl22 sl23 sl24)) rfl ?_
      refine XS.aload X76.here hx rfl (hb hby at_349) rfl rfl ?_
      refine XS.iload X76.here hx rfl (hb hby at_351) rfl ?_
      exact k
    obtain ⟨cq93, kq93, q93a, q93b, q93c⟩ := isOf hZ e76 Ex_76
    obtain ⟨_, _, ⟨T93, L93, k93, n93⟩, -, X93, ⟨Lc93, hQ93, l93, y93, z93⟩, st93⟩ := X76.virtualBack hx (y := (⟨"com/example/coho/coho/eventlog/SegmentIndex", "placeAfter", "(I)J"⟩ : MethodName)) (z := (⟨"com/example/coho/coho/eventlog/SegmentIndex", "placeAfter", "(I)J"⟩ : MethodName)) hown (mvT hZ (own_w hw 35 rfl)) (mvT hZ (own_w hw 36 rfl)) (notFace_of_selects (args := #[]) (mvT hZ (own_w hw 38 rfl))) (mvT hZ (own_w hw 38 rfl)) (mvT hZ (own_w hw 37 rfl)) (by decide) (backOf (W := 0) (rm4_3_4 l Z a0 hw [] aix app kpp pn qe (0 : Int32) (1 : Int32) (2 : Int32) (3 : Int32) h76 n0 Zs76 Fentries_76 Fcount_76 Fend_76 Fplaces_76 Vpp_76) hZ (own_w hw 39 rfl) (own_w hw 5 rfl) (by decide) (by decide)) q93a q93c (g := (mkF m 353 (own_l123 sl0 sl1 p2 sl3 sl4 sl5 pn sl7 sl8 sl9 sl10 sl11 sl12 sl13 sl14 apl aix sl17 sl18 sl19 sl20 sl21 sl22 sl23 sl24) [(.int (3 : Int32)), (.ref aix)])) rfl (by rw [hml]; rfl) (Steps.refl _) (argsL := [(.int (3 : Int32))]) (rest := []) (lenOf own_pd0 rfl) rfl (by show 2 * 0 + _ ≤ _; exact Nat.le_of_eq rfl) (hb hby at_353) (fun _ _ => ⟨rfl, e76, (by decide : 5 + 0 ≤ _), (by decide : 23 + 0 ≤ _)⟩)
    dsimp only [Pt.U, Pt.locs, Pt.cells, Pt.slots] at X93 l93 y93 z93 st93 hQ93
    replace y93 : _ = 5 := y93
    replace z93 : _ = 23 := z93
    subst y93 z93
    obtain ⟨Nq93, rfl, eq93⟩ := hQ93
    have N93 := own_frl l93 N76 Nq93
    refine own_pre (fun t k => st93.trans k) ?_
    refine own_pre (A := (T93.setTop (mkF m 367 (own_l123 sl0 sl1 p2 sl3 sl4 sl5 pn sl7 sl8 sl9 sl10 sl11 sl12 sl13 sl14 apl aix sl17 sl18 sl19 sl20 sl21 sl22 sl23 sl24) [(.int (1 : Int32))]))) ?_ ?_
    · intro t k
      refine XS.lload X93.here hx rfl (hb hby at_356) rfl ?_
      refine XS.lcmp X93.here hx rfl (hb hby at_358) rfl ?_
      refine XS.ifNo X93.here hx rfl (hb hby at_359) rfl ((if0 _ _).trans (teq ((lw_eq (pn.toInt64) (pn.toInt64)).mpr (rfl : (pn.toInt64) = (pn.toInt64)))).2) ?_
      refine XS.iconst X93.here hx rfl (hb hby at_362) ?_
      refine XS.goto X93.here hx rfl (pc0 := 363) (pc' := 367) rfl (hb hby at_363) (by decide) (by decide) ?_
      exact k
    obtain ⟨fs, hr, hrun, hended, hW, hsame⟩ := X93.leave (hlocks := hlk) (v := some (.int (1 : Int32))) (fun h => by rw [hret] at h; cases h)
    refine ⟨_, _, retOut X93 hx hret rfl (Or.inl ⟨rfl, Or.inr (Or.inl rfl), _, rfl⟩) (hb hby at_367) hr, hrun, hended, _, _, rfl, ?_, ⟨_, rfl⟩, hW, hsame.mono (by decide) (by decide)⟩
    show own_Q0 h0 n0 _ T93.heap _
    rw [eq93]
    exact ⟨rfl, N93⟩
theorem own_pn0 : plainName "com/example/coho/coho/eventlog/SegmentIndexPlaceAfterPinLaw" = true := by first | (simp [plainName, overriddenIn]; done) | decide +kernel
theorem own_ef0 (m : MethodId) (x0 : Int64) (x1 : Int32) (x2 : Int32) (x3 : Int32) (x4 : Int32) : entryFrame m #[(.long x0), (.int x1), (.int x2), (.int x3), (.int x4)] maxLocals = mkF m 0 #[.val (.long x0), .second, .val (.int x1), .val (.int x2), .val (.int x3), .val (.int x4), .unset, .unset, .unset, .unset, .unset, .unset, .unset, .unset, .unset, .unset, .unset, .unset, .unset, .unset, .unset, .unset, .unset, .unset, .unset, .unset, .unset, .unset, .unset, .unset, .unset, .unset, .unset] [] := by first | (simp [entryFrame, mkF, argsToLocals, Value.category, maxLocals]; done) | rfl
abbrev own_l124 (x0 : Int64) (x1 : Int32) (x2 : Int32) (x3 : Int32) (x4 : Int32) : Array Slot := #[.val (.long x0), .second, .val (.int x1), .val (.int x2), .val (.int x3), .val (.int x4), .unset, .unset, .unset, .unset, .unset, .unset, .unset, .unset, .unset, .unset, .unset, .unset, .unset, .unset, .unset, .unset, .unset, .unset, .unset, .unset, .unset, .unset, .unset, .unset, .unset, .unset, .unset]
abbrev own_l125 (x0 : Int64) (x1 : Int32) (x2 : Int32) (x3 : Int32) (x4 : Int32) : Array Slot := #[.val (.long x0), .second, .val (.int x1), .val (.int x2), .val (.int x3), .val (.int x4), .val (.int ((1 : Int32) + (x1 &&& (3 : Int32)))), .unset, .unset, .unset, .unset, .unset, .unset, .unset, .unset, .unset, .unset, .unset, .unset, .unset, .unset, .unset, .unset, .unset, .unset, .unset, .unset, .unset, .unset, .unset, .unset, .unset, .unset]
abbrev own_l126 (x0 : Int64) (x1 : Int32) (x2 : Int32) (x3 : Int32) (x4 : Int32) : Array Slot := #[.val (.long x0), .second, .val (.int x1), .val (.int x2), .val (.int x3), .val (.int x4), .val (.int ((1 : Int32) + (x1 &&& (3 : Int32)))), .val (.long ((x2 &&& (131071 : Int32)).toInt64)), .second, .unset, .unset, .unset, .unset, .unset, .unset, .unset, .unset, .unset, .unset, .unset, .unset, .unset, .unset, .unset, .unset, .unset, .unset, .unset, .unset, .unset, .unset, .unset, .unset]
abbrev own_l127 (x0 : Int64) (x1 : Int32) (x2 : Int32) (x3 : Int32) (x4 : Int32) : Array Slot := #[.val (.long x0), .second, .val (.int x1), .val (.int x2), .val (.int x3), .val (.int x4), .val (.int ((1 : Int32) + (x1 &&& (3 : Int32)))), .val (.long ((x2 &&& (131071 : Int32)).toInt64)), .second, .val (.long ((x3 &&& (131071 : Int32)).toInt64)), .second, .unset, .unset, .unset, .unset, .unset, .unset, .unset, .unset, .unset, .unset, .unset, .unset, .unset, .unset, .unset, .unset, .unset, .unset, .unset, .unset, .unset, .unset]
abbrev own_l128 (x0 : Int64) (x1 : Int32) (x2 : Int32) (x3 : Int32) (x4 : Int32) : Array Slot := #[.val (.long x0), .second, .val (.int x1), .val (.int x2), .val (.int x3), .val (.int x4), .val (.int ((1 : Int32) + (x1 &&& (3 : Int32)))), .val (.long ((x2 &&& (131071 : Int32)).toInt64)), .second, .val (.long ((x3 &&& (131071 : Int32)).toInt64)), .second, .val (.long ((x4 &&& (131071 : Int32)).toInt64)), .second, .unset, .unset, .unset, .unset, .unset, .unset, .unset, .unset, .unset, .unset, .unset, .unset, .unset, .unset, .unset, .unset, .unset, .unset, .unset, .unset]
abbrev own_l129 (x0 : Int64) (x1 : Int32) (x2 : Int32) (x3 : Int32) (x4 : Int32) : Array Slot := #[.val (.long x0), .second, .val (.int x1), .val (.int x2), .val (.int x3), .val (.int x4), .val (.int ((1 : Int32) + (x1 &&& (3 : Int32)))), .val (.long ((x2 &&& (131071 : Int32)).toInt64)), .second, .val (.long ((x3 &&& (131071 : Int32)).toInt64)), .second, .val (.long ((x4 &&& (131071 : Int32)).toInt64)), .second, .val (.long (65536 : Int64)), .second, .unset, .unset, .unset, .unset, .unset, .unset, .unset, .unset, .unset, .unset, .unset, .unset, .unset, .unset, .unset, .unset, .unset, .unset]
abbrev own_l130 (x0 : Int64) (x1 : Int32) (x2 : Int32) (x3 : Int32) (x4 : Int32) (x5 : Int64) : Array Slot := #[.val (.long x0), .second, .val (.int x1), .val (.int x2), .val (.int x3), .val (.int x4), .val (.int ((1 : Int32) + (x1 &&& (3 : Int32)))), .val (.long x5), .second, .val (.long ((x3 &&& (131071 : Int32)).toInt64)), .second, .val (.long ((x4 &&& (131071 : Int32)).toInt64)), .second, .val (.long (65536 : Int64)), .second, .unset, .unset, .unset, .unset, .unset, .unset, .unset, .unset, .unset, .unset, .unset, .unset, .unset, .unset, .unset, .unset, .unset, .unset]
abbrev own_l131 (x0 : Int64) (x1 : Int32) (x2 : Int32) (x3 : Int32) (x4 : Int32) (x5 : Int64) (x6 : Int64) : Array Slot := #[.val (.long x0), .second, .val (.int x1), .val (.int x2), .val (.int x3), .val (.int x4), .val (.int ((1 : Int32) + (x1 &&& (3 : Int32)))), .val (.long x5), .second, .val (.long x6), .second, .val (.long ((x4 &&& (131071 : Int32)).toInt64)), .second, .val (.long (65536 : Int64)), .second, .unset, .unset, .unset, .unset, .unset, .unset, .unset, .unset, .unset, .unset, .unset, .unset, .unset, .unset, .unset, .unset, .unset, .unset]
abbrev own_l132 (x0 : Int64) (x1 : Int32) (x2 : Int32) (x3 : Int32) (x4 : Int32) (x5 : Int64) (x6 : Int64) (x7 : Int64) : Array Slot := #[.val (.long x0), .second, .val (.int x1), .val (.int x2), .val (.int x3), .val (.int x4), .val (.int ((1 : Int32) + (x1 &&& (3 : Int32)))), .val (.long x5), .second, .val (.long x6), .second, .val (.long x7), .second, .val (.long (65536 : Int64)), .second, .unset, .unset, .unset, .unset, .unset, .unset, .unset, .unset, .unset, .unset, .unset, .unset, .unset, .unset, .unset, .unset, .unset, .unset]
abbrev own_l133 (x0 : Int64) (x1 : Int32) (x2 : Int32) (x3 : Int32) (x4 : Int32) (x5 : Int64) (x6 : Int64) (x7 : Int64) : Array Slot := #[.val (.long x0), .second, .val (.int x1), .val (.int x2), .val (.int x3), .val (.int x4), .val (.int (1 : Int32)), .val (.long x5), .second, .val (.long x6), .second, .val (.long x7), .second, .val (.long (65536 : Int64)), .second, .unset, .unset, .unset, .unset, .unset, .unset, .unset, .unset, .unset, .unset, .unset, .unset, .unset, .unset, .unset, .unset, .unset, .unset]
abbrev own_l134 (x0 : Int64) (x1 : Int32) (x2 : Int32) (x3 : Int32) (x4 : Int32) (x5 : Int64) (x6 : Int64) (x7 : Int64) (x8 : Addr) : Array Slot := #[.val (.long x0), .second, .val (.int x1), .val (.int x2), .val (.int x3), .val (.int x4), .val (.int (1 : Int32)), .val (.long x5), .second, .val (.long x6), .second, .val (.long x7), .second, .val (.long (65536 : Int64)), .second, .val (.ref x8), .unset, .unset, .unset, .unset, .unset, .unset, .unset, .unset, .unset, .unset, .unset, .unset, .unset, .unset, .unset, .unset, .unset]
abbrev own_l135 (x0 : Int64) (x1 : Int32) (x2 : Int32) (x3 : Int32) (x4 : Int32) (x5 : Int64) (x6 : Int64) (x7 : Int64) (x8 : Addr) (x9 : Addr) : Array Slot := #[.val (.long x0), .second, .val (.int x1), .val (.int x2), .val (.int x3), .val (.int x4), .val (.int (1 : Int32)), .val (.long x5), .second, .val (.long x6), .second, .val (.long x7), .second, .val (.long (65536 : Int64)), .second, .val (.ref x8), .val (.ref x9), .unset, .unset, .unset, .unset, .unset, .unset, .unset, .unset, .unset, .unset, .unset, .unset, .unset, .unset, .unset, .unset]
theorem d3_0 : decode prog_34_method_2_code 0 = .ok (.aload_n 0, 1) := by decide +kernel
theorem d3_1 : decode prog_34_method_2_code 1 = .ok (.getfield 31, 3) := by decide +kernel
theorem d3_4 : decode prog_34_method_2_code 4 = .ok (.ifCond .eq 26, 3) := by decide +kernel
theorem d3_7 : decode prog_34_method_2_code 7 = .ok (.aload_n 0, 1) := by decide +kernel
theorem d3_8 : decode prog_34_method_2_code 8 = .ok (.getfield 28, 3) := by decide +kernel
theorem d3_11 : decode prog_34_method_2_code 11 = .ok (.aload_n 0, 1) := by decide +kernel
theorem d3_12 : decode prog_34_method_2_code 12 = .ok (.getfield 13, 3) := by decide +kernel
theorem d3_15 : decode prog_34_method_2_code 15 = .ok (.aload_n 0, 1) := by decide +kernel
theorem d3_16 : decode prog_34_method_2_code 16 = .ok (.getfield 31, 3) := by decide +kernel
theorem d3_19 : decode prog_34_method_2_code 19 = .ok (.iconst 1, 1) := by decide +kernel
theorem d3_20 : decode prog_34_method_2_code 20 = .ok (.isub, 1) := by decide +kernel
theorem d3_21 : decode prog_34_method_2_code 21 = .ok (.laload, 1) := by decide +kernel
theorem d3_22 : decode prog_34_method_2_code 22 = .ok (.lsub, 1) := by decide +kernel
theorem d3_23 : decode prog_34_method_2_code 23 = .ok (.ldc2_w 35, 3) := by decide +kernel
theorem d3_26 : decode prog_34_method_2_code 26 = .ok (.lcmp, 1) := by decide +kernel
theorem d3_27 : decode prog_34_method_2_code 27 = .ok (.ifCond .lt 71, 3) := by decide +kernel
theorem d3_30 : decode prog_34_method_2_code 30 = .ok (.aload_n 0, 1) := by decide +kernel
theorem d3_31 : decode prog_34_method_2_code 31 = .ok (.getfield 31, 3) := by decide +kernel
theorem d3_34 : decode prog_34_method_2_code 34 = .ok (.aload_n 0, 1) := by decide +kernel
theorem d3_35 : decode prog_34_method_2_code 35 = .ok (.getfield 7, 3) := by decide +kernel
theorem d3_38 : decode prog_34_method_2_code 38 = .ok (.arraylength, 1) := by decide +kernel
theorem d3_39 : decode prog_34_method_2_code 39 = .ok (.if_icmp .ne 13, 3) := by decide +kernel
theorem d3_52 : decode prog_34_method_2_code 52 = .ok (.aload_n 0, 1) := by decide +kernel
theorem d3_53 : decode prog_34_method_2_code 53 = .ok (.getfield 7, 3) := by decide +kernel
theorem d3_56 : decode prog_34_method_2_code 56 = .ok (.aload_n 0, 1) := by decide +kernel
theorem d3_57 : decode prog_34_method_2_code 57 = .ok (.getfield 31, 3) := by decide +kernel
theorem d3_60 : decode prog_34_method_2_code 60 = .ok (.aload_n 0, 1) := by decide +kernel
theorem d3_61 : decode prog_34_method_2_code 61 = .ok (.getfield 41, 3) := by decide +kernel
theorem d3_64 : decode prog_34_method_2_code 64 = .ok (.iastore, 1) := by decide +kernel
theorem d3_65 : decode prog_34_method_2_code 65 = .ok (.aload_n 0, 1) := by decide +kernel
theorem d3_66 : decode prog_34_method_2_code 66 = .ok (.getfield 13, 3) := by decide +kernel
theorem d3_69 : decode prog_34_method_2_code 69 = .ok (.aload_n 0, 1) := by decide +kernel
theorem d3_70 : decode prog_34_method_2_code 70 = .ok (.getfield 31, 3) := by decide +kernel
theorem d3_73 : decode prog_34_method_2_code 73 = .ok (.aload_n 0, 1) := by decide +kernel
theorem d3_74 : decode prog_34_method_2_code 74 = .ok (.getfield 28, 3) := by decide +kernel
theorem d3_77 : decode prog_34_method_2_code 77 = .ok (.lastore, 1) := by decide +kernel
theorem d3_78 : decode prog_34_method_2_code 78 = .ok (.aload_n 0, 1) := by decide +kernel
theorem d3_79 : decode prog_34_method_2_code 79 = .ok (.getfield 17, 3) := by decide +kernel
theorem d3_82 : decode prog_34_method_2_code 82 = .ok (.aload_n 0, 1) := by decide +kernel
theorem d3_83 : decode prog_34_method_2_code 83 = .ok (.getfield 31, 3) := by decide +kernel
theorem d3_86 : decode prog_34_method_2_code 86 = .ok (.lload_n 3, 1) := by decide +kernel
theorem d3_87 : decode prog_34_method_2_code 87 = .ok (.lastore, 1) := by decide +kernel
theorem d3_88 : decode prog_34_method_2_code 88 = .ok (.aload_n 0, 1) := by decide +kernel
theorem d3_89 : decode prog_34_method_2_code 89 = .ok (.dup, 1) := by decide +kernel
theorem d3_90 : decode prog_34_method_2_code 90 = .ok (.getfield 31, 3) := by decide +kernel
theorem d3_93 : decode prog_34_method_2_code 93 = .ok (.iconst 1, 1) := by decide +kernel
theorem d3_94 : decode prog_34_method_2_code 94 = .ok (.iadd, 1) := by decide +kernel
theorem d3_95 : decode prog_34_method_2_code 95 = .ok (.putfield 31, 3) := by decide +kernel
theorem d3_98 : decode prog_34_method_2_code 98 = .ok (.aload_n 0, 1) := by decide +kernel
theorem d3_99 : decode prog_34_method_2_code 99 = .ok (.dup, 1) := by decide +kernel
theorem d3_100 : decode prog_34_method_2_code 100 = .ok (.getfield 28, 3) := by decide +kernel
theorem d3_103 : decode prog_34_method_2_code 103 = .ok (.lload_n 1, 1) := by decide +kernel
theorem d3_104 : decode prog_34_method_2_code 104 = .ok (.ladd, 1) := by decide +kernel
theorem d3_105 : decode prog_34_method_2_code 105 = .ok (.putfield 28, 3) := by decide +kernel
theorem d3_108 : decode prog_34_method_2_code 108 = .ok (.aload_n 0, 1) := by decide +kernel
theorem d3_109 : decode prog_34_method_2_code 109 = .ok (.lload_n 3, 1) := by decide +kernel
theorem d3_110 : decode prog_34_method_2_code 110 = .ok (.putfield 24, 3) := by decide +kernel
theorem d3_113 : decode prog_34_method_2_code 113 = .ok (.aload_n 0, 1) := by decide +kernel
theorem d3_114 : decode prog_34_method_2_code 114 = .ok (.dup, 1) := by decide +kernel
theorem d3_115 : decode prog_34_method_2_code 115 = .ok (.getfield 41, 3) := by decide +kernel
theorem d3_118 : decode prog_34_method_2_code 118 = .ok (.iconst 1, 1) := by decide +kernel
theorem d3_119 : decode prog_34_method_2_code 119 = .ok (.iadd, 1) := by decide +kernel
theorem d3_120 : decode prog_34_method_2_code 120 = .ok (.putfield 41, 3) := by decide +kernel
theorem d3_123 : decode prog_34_method_2_code 123 = .ok (.return_, 1) := by decide +kernel
theorem own_pn3 : plainName "com/example/coho/coho/eventlog/SegmentIndex" = true := by first | (simp [plainName, overriddenIn]; done) | decide +kernel
theorem own_ef3 (m : MethodId) (x0 : Addr) (x1 : Int64) (x2 : Int64) : entryFrame m #[(.ref x0), (.long x1), (.long x2)] 5 = mkF m 0 #[.val (.ref x0), .val (.long x1), .second, .val (.long x2), .second] [] := by first | (simp [entryFrame, mkF, argsToLocals, Value.category]; done) | rfl
def own_Q3_0 (Z : State) (ax : Addr) (qz : Int64) (qt : Int64) (ap : Addr) (ar : Addr) (at' : Addr) (kp : ClassId) (ks : ClassId) (ct : Int32) (qe : Int64) (ql : Int64) (pp0 : Int32) (pp1 : Int32) (pp2 : Int32) (pp3 : Int32) (ss0 : Int64) (ss1 : Int64) (ss2 : Int64) (ss3 : Int64) (h0 : Heap) (n0 : Nat) (v : Option Value) (h : Heap) (L : List Loc) : Prop := v = none ∧ Fr n0 L ∧ Keep h0 h [ax, ap, ar, at'] ∧ own_SI Z h n0 ax ap ar at' kp ks (1 : Int32) (ct + (1 : Int32)) (qe + qz) qt ct pp1 pp2 pp3 qe ss1 ss2 ss3
set_option maxRecDepth 65536 in
set_option maxHeartbeats 40000000 in
theorem rm3_0 (l : Launch) (Z : State) (a0 : Array Value) (hw : ∀ d ∈ tables_1, d.before a0 Z = true) (ws : List Jvm.Cond) (ax : Addr) (qz : Int64) (qt : Int64) (ap : Addr) (ar : Addr) (at' : Addr) (kp : ClassId) (ks : ClassId) (ct : Int32) (qe : Int64) (ql : Int64) (pp0 : Int32) (pp1 : Int32) (pp2 : Int32) (pp3 : Int32) (ss0 : Int64) (ss1 : Int64) (ss2 : Int64) (ss3 : Int64) (h0 : Heap) (n0 : Nat) (Z0 : n0 ≤ h0.size) (B : own_SI Z h0 n0 ax ap ar at' kp ks (0 : Int32) ct qe ql pp0 pp1 pp2 pp3 ss0 ss1 ss2 ss3) :
    MetFree l (⟨"com/example/coho/coho/eventlog/SegmentIndex", "add", "(JJ)V"⟩ : MethodName) (head1 (Jvm.Cond.code (⟨"com/example/coho/coho/eventlog/SegmentIndex", "add", "(JJ)V"⟩ : MethodName) prog_34_method_2_code 5 none :: ws) ({ frames := 0, cells := 0, slots := 0, locals := 0 } : Room)) (fun a U => a = #[(.ref ax), (.long qz), (.long qt)] ∧ Z.Warmed39 U.vm ∧ U.heap = h0) (fun _ _ _ _ _ => True) (fun _ U o U' => ∃ v L, o = .returned v ∧ own_Q3_0 Z ax qz qt ap ar at' kp ks ct qe ql pp0 pp1 pp2 pp3 ss0 ss1 ss2 ss3 h0 n0 v U'.heap L ∧ FrameEnd U o U' L ({ frames := 0, cells := 0, slots := 0, locals := 0 } : Room).cells ({ frames := 0, cells := 0, slots := 0, locals := 0 } : Room).slots) := by
  refine MetFree.of_bodySF (plainFor_of_name own_pn3) hisR ?_
  intro p e s m args below meth c s₁ Bd hml0 hP hK
  obtain ⟨rfl, hZ, hh⟩ := hP
  have hx := Bd.exec
  have hby := Bd.bytes
  have hml : c.maxLocals = 5 := hml0
  have hown : s.vm.findClass "com/example/coho/coho/eventlog/SegmentIndex" = some m.cls := findClass_of_methodNamed Bd.named
  have hnm := (name_of_methodNamed Bd.named Bd.method).1
  have X0 : Stand p l e ({ frames := 0, cells := 0, slots := 0, locals := 0 } : Room) s m #[(.ref ax), (.long qz), (.long qt)] below meth c s₁ [] 0 0 := Stand.of_body Bd
  have e0 : s₁.heap = h0 := by rw [← hh, Bd.state]; rfl
  have N0 := Fr.nil n0
  refine own_pre (A := (s₁.setTop (mkF m 0 #[.val (.ref ax), .val (.long qz), .second, .val (.long qt), .second] []))) (fun t k => castTop (own_ef3 m ax qz qt) k) ?_
  obtain ⟨Ea_, Fplaces_, Fstarts_, Ftimes_, Fentries_, Fcount_, Fend_, FlastTime_, Vp_, Vs_, Vt_, n0_, n1_, n2_, n3_, n4_, n5_, gg0_, gg1_, gg2_, gg3_⟩ := B
  refine own_pre (A := (s₁.setTop (mkF m 1 #[.val (.ref ax), .val (.long qz), .second, .val (.long qt), .second] [(.ref ax)]))) ?_ ?_
  · intro t k
    refine XS.aloadN X0.here hx rfl (hb hby d3_0) rfl rfl ?_
    exact k
  obtain ⟨T100, X100, e100, st100⟩ := getF X0 hx hZ hown (host := "") (Or.inl (own_w hw 29 rfl)) Via.refl e0 Fentries_ (g := (mkF m 1 #[.val (.ref ax), .val (.long qz), .second, .val (.long qt), .second] [(.ref ax)])) rfl rfl (hb hby d3_1)
  refine own_pre (fun t k => st100 t k) ?_
  refine own_pre (A := (T100.setTop (mkF m 31 #[.val (.ref ax), .val (.long qz), .second, .val (.long qt), .second] [(.ref ax)]))) ?_ ?_
  · intro t k
    refine XS.ifYes X100.here hx rfl (pc0 := 4) (pc' := 30) rfl (hb hby d3_4) rfl ((if0 _ _).trans (teq (by decide : (0 : Int32) = (0 : Int32))).1) (by decide) (by decide) ?_
    refine XS.aloadN X100.here hx rfl (hb hby d3_30) rfl rfl ?_
    exact k
  obtain ⟨T101, X101, e101, st101⟩ := getF X100 hx hZ hown (host := "") (Or.inl (own_w hw 29 rfl)) Via.refl e100 Fentries_ (g := (mkF m 31 #[.val (.ref ax), .val (.long qz), .second, .val (.long qt), .second] [(.ref ax)])) rfl rfl (hb hby d3_31)
  refine own_pre (fun t k => st101 t k) ?_
  refine own_pre (A := (T101.setTop (mkF m 35 #[.val (.ref ax), .val (.long qz), .second, .val (.long qt), .second] [(.ref ax), (.int (0 : Int32))]))) ?_ ?_
  · intro t k
    refine XS.aloadN X101.here hx rfl (hb hby d3_34) rfl rfl ?_
    exact k
  obtain ⟨T102, X102, e102, st102⟩ := getF X101 hx hZ hown (host := "") (Or.inl (own_w hw 12 rfl)) Via.refl e101 Fplaces_ (g := (mkF m 35 #[.val (.ref ax), .val (.long qz), .second, .val (.long qt), .second] [(.ref ax), (.int (0 : Int32))])) rfl rfl (hb hby d3_35)
  refine own_pre (fun t k => st102 t k) ?_
  refine own_pre (A := (T102.setTop (mkF m 53 #[.val (.ref ax), .val (.long qz), .second, .val (.long qt), .second] [(.ref ax)]))) ?_ ?_
  · intro t k
    show Steps p.tables e below (T102.setTop (mkF m 38 #[.val (.ref ax), .val (.long qz), .second, .val (.long qt), .second] [(.ref ap), (.int (0 : Int32))])) _
    obtain ⟨cl103, Ar103, -, S103, N103, -, -⟩ := id Vp_
    refine X102.arraylength hx (by rw [e102]; exact Ar103.1) (State.isArrayOf_alike hZ.alike Ar103.2.1) (g := (mkF m 38 #[.val (.ref ax), .val (.long qz), .second, .val (.long qt), .second] [(.ref ap), (.int (0 : Int32))])) rfl rfl (hb hby d3_38) _ ?_
    rw [len_of S103 N103]
    refine XS.icmpYes X102.here hx rfl (pc0 := 39) (pc' := 52) rfl (hb hby d3_39) rfl (feq (by decide : ¬ ((0 : Int32) = (4 : Int32)))).2 (by decide) (by decide) ?_
    refine XS.aloadN X102.here hx rfl (hb hby d3_52) rfl rfl ?_
    exact k
  obtain ⟨T104, X104, e104, st104⟩ := getF X102 hx hZ hown (host := "") (Or.inl (own_w hw 12 rfl)) Via.refl e102 Fplaces_ (g := (mkF m 53 #[.val (.ref ax), .val (.long qz), .second, .val (.long qt), .second] [(.ref ax)])) rfl rfl (hb hby d3_53)
  refine own_pre (fun t k => st104 t k) ?_
  refine own_pre (A := (T104.setTop (mkF m 57 #[.val (.ref ax), .val (.long qz), .second, .val (.long qt), .second] [(.ref ax), (.ref ap)]))) ?_ ?_
  · intro t k
    refine XS.aloadN X104.here hx rfl (hb hby d3_56) rfl rfl ?_
    exact k
  obtain ⟨T105, X105, e105, st105⟩ := getF X104 hx hZ hown (host := "") (Or.inl (own_w hw 29 rfl)) Via.refl e104 Fentries_ (g := (mkF m 57 #[.val (.ref ax), .val (.long qz), .second, .val (.long qt), .second] [(.ref ax), (.ref ap)])) rfl rfl (hb hby d3_57)
  refine own_pre (fun t k => st105 t k) ?_
  refine own_pre (A := (T105.setTop (mkF m 61 #[.val (.ref ax), .val (.long qz), .second, .val (.long qt), .second] [(.ref ax), (.int (0 : Int32)), (.ref ap)]))) ?_ ?_
  · intro t k
    refine XS.aloadN X105.here hx rfl (hb hby d3_60) rfl rfl ?_
    exact k
  obtain ⟨T106, X106, e106, st106⟩ := getF X105 hx hZ hown (host := "") (Or.inl (own_w hw 31 rfl)) Via.refl e105 Fcount_ (g := (mkF m 61 #[.val (.ref ax), .val (.long qz), .second, .val (.long qt), .second] [(.ref ax), (.int (0 : Int32)), (.ref ap)])) rfl rfl (hb hby d3_61)
  refine own_pre (fun t k => st106 t k) ?_
  obtain ⟨cl107, Ar107, q107, S107, N107, H107, G107⟩ := Vp_
  have hin107 : ¬ ((0 : Int32) < 0 ∨ cl107.slots.size ≤ ((0 : Int32)).toNatClampNeg) := inb_of S107 ⟨by decide, by decide⟩
  obtain ⟨T107, h107, X107, e107, W107, st107⟩ := stI X106 hx hZ e106 Ar107 (j := (0 : Int32)) hin107 (g := (mkF m 64 #[.val (.ref ax), .val (.long qz), .second, .val (.long qt), .second] [(.int ct), (.int (0 : Int32)), (.ref ap)])) rfl rfl (hb hby d3_64)
  have V107 : Arv Z h107 ap kp .int (4 : Int32) [(.int ct), (.int pp1), (.int pp2), (.int pp3)] (.int (0 : Int32)) := Arv.set Ar107 q107 S107 N107 H107 G107 rfl W107 0 rfl (Nat.le_of_ble_eq_true rfl)
  have Ea__107 := Ea_.wr W107
  have Fplaces__107 := Fplaces_.other W107 (Or.inl n0_)
  have Fstarts__107 := Fstarts_.other W107 (Or.inl n0_)
  have Ftimes__107 := Ftimes_.other W107 (Or.inl n0_)
  have Fentries__107 := Fentries_.other W107 (Or.inl n0_)
  have Fcount__107 := Fcount_.other W107 (Or.inl n0_)
  have Fend__107 := Fend_.other W107 (Or.inl n0_)
  have FlastTime__107 := FlastTime_.other W107 (Or.inl n0_)
  have Vs__107 := Vs_.other W107 n3_.symm
  have Vt__107 := Vt_.other W107 n4_.symm
  have Kc107 : Keep h0 h107 [ax, ap, ar, at'] := (Keep.refl h0 [ax, ap, ar, at']).wr W107 (Or.inl (List.mem_of_getElem? (i := 1) rfl))
  have N107 := Fr.snoc X107 N0 gg1_
  refine own_pre (fun t k => st107 t k) ?_
  refine own_pre (A := (T107.setTop (mkF m 66 #[.val (.ref ax), .val (.long qz), .second, .val (.long qt), .second] [(.ref ax)]))) ?_ ?_
  · intro t k
    refine XS.aloadN X107.here hx rfl (hb hby d3_65) rfl rfl ?_
    exact k
  obtain ⟨T108, X108, e108, st108⟩ := getF X107 hx hZ hown (host := "") (Or.inl (own_w hw 15 rfl)) Via.refl e107 Fstarts__107 (g := (mkF m 66 #[.val (.ref ax), .val (.long qz), .second, .val (.long qt), .second] [(.ref ax)])) rfl rfl (hb hby d3_66)
  refine own_pre (fun t k => st108 t k) ?_
  refine own_pre (A := (T108.setTop (mkF m 70 #[.val (.ref ax), .val (.long qz), .second, .val (.long qt), .second] [(.ref ax), (.ref ar)]))) ?_ ?_
  · intro t k
    refine XS.aloadN X108.here hx rfl (hb hby d3_69) rfl rfl ?_
    exact k
  obtain ⟨T109, X109, e109, st109⟩ := getF X108 hx hZ hown (host := "") (Or.inl (own_w hw 29 rfl)) Via.refl e108 Fentries__107 (g := (mkF m 70 #[.val (.ref ax), .val (.long qz), .second, .val (.long qt), .second] [(.ref ax), (.ref ar)])) rfl rfl (hb hby d3_70)
  refine own_pre (fun t k => st109 t k) ?_
  refine own_pre (A := (T109.setTop (mkF m 74 #[.val (.ref ax), .val (.long qz), .second, .val (.long qt), .second] [(.ref ax), (.int (0 : Int32)), (.ref ar)]))) ?_ ?_
  · intro t k
    refine XS.aloadN X109.here hx rfl (hb hby d3_73) rfl rfl ?_
    exact k
  obtain ⟨T110, X110, e110, st110⟩ := getF X109 hx hZ hown (host := "") (Or.inl (own_w hw 22 rfl)) Via.refl e109 Fend__107 (g := (mkF m 74 #[.val (.ref ax), .val (.long qz), .second, .val (.long qt), .second] [(.ref ax), (.int (0 : Int32)), (.ref ar)])) rfl rfl (hb hby d3_74)
  refine own_pre (fun t k => st110 t k) ?_
  obtain ⟨cl111, Ar111, q111, S111, N111, H111, G111⟩ := Vs__107
  have hin111 : ¬ ((0 : Int32) < 0 ∨ cl111.slots.size ≤ ((0 : Int32)).toNatClampNeg) := inb_of S111 ⟨by decide, by decide⟩
  obtain ⟨T111, h111, X111, e111, W111, st111⟩ := stJ X110 hx hZ e110 Ar111 (j := (0 : Int32)) hin111 (g := (mkF m 77 #[.val (.ref ax), .val (.long qz), .second, .val (.long qt), .second] [(.long qe), (.int (0 : Int32)), (.ref ar)])) rfl rfl (hb hby d3_77)
  have V111 : Arv Z h111 ar ks .long (4 : Int32) [(.long qe), (.long ss1), (.long ss2), (.long ss3)] (.long (0 : Int64)) := Arv.set Ar111 q111 S111 N111 H111 G111 rfl W111 0 rfl (Nat.le_of_ble_eq_true rfl)
  have Ea__111 := Ea__107.wr W111
  have Fplaces__111 := Fplaces__107.other W111 (Or.inl n1_)
  have Fstarts__111 := Fstarts__107.other W111 (Or.inl n1_)
  have Ftimes__111 := Ftimes__107.other W111 (Or.inl n1_)
  have Fentries__111 := Fentries__107.other W111 (Or.inl n1_)
  have Fcount__111 := Fcount__107.other W111 (Or.inl n1_)
  have Fend__111 := Fend__107.other W111 (Or.inl n1_)
  have FlastTime__111 := FlastTime__107.other W111 (Or.inl n1_)
  have V107_111 := V107.other W111 n3_
  have Vt__111 := Vt__107.other W111 n5_.symm
  have Kc111 : Keep h0 h111 [ax, ap, ar, at'] := Kc107.wr W111 (Or.inl (List.mem_of_getElem? (i := 2) rfl))
  have N111 := Fr.snoc X111 N107 gg2_
  refine own_pre (fun t k => st111 t k) ?_
  refine own_pre (A := (T111.setTop (mkF m 79 #[.val (.ref ax), .val (.long qz), .second, .val (.long qt), .second] [(.ref ax)]))) ?_ ?_
  · intro t k
    refine XS.aloadN X111.here hx rfl (hb hby d3_78) rfl rfl ?_
    exact k
  obtain ⟨T112, X112, e112, st112⟩ := getF X111 hx hZ hown (host := "") (Or.inl (own_w hw 17 rfl)) Via.refl e111 Ftimes__111 (g := (mkF m 79 #[.val (.ref ax), .val (.long qz), .second, .val (.long qt), .second] [(.ref ax)])) rfl rfl (hb hby d3_79)
  refine own_pre (fun t k => st112 t k) ?_
  refine own_pre (A := (T112.setTop (mkF m 83 #[.val (.ref ax), .val (.long qz), .second, .val (.long qt), .second] [(.ref ax), (.ref at')]))) ?_ ?_
  · intro t k
    refine XS.aloadN X112.here hx rfl (hb hby d3_82) rfl rfl ?_
    exact k
  obtain ⟨T113, X113, e113, st113⟩ := getF X112 hx hZ hown (host := "") (Or.inl (own_w hw 29 rfl)) Via.refl e112 Fentries__111 (g := (mkF m 83 #[.val (.ref ax), .val (.long qz), .second, .val (.long qt), .second] [(.ref ax), (.ref at')])) rfl rfl (hb hby d3_83)
  refine own_pre (fun t k => st113 t k) ?_
  refine own_pre (A := (T113.setTop (mkF m 87 #[.val (.ref ax), .val (.long qz), .second, .val (.long qt), .second] [(.long qt), (.int (0 : Int32)), (.ref at')]))) ?_ ?_
  · intro t k
    refine XS.lloadN X113.here hx rfl (hb hby d3_86) rfl ?_
    exact k
  obtain ⟨cl114, Ar114, S114, N114⟩ := Vt__111
  have hin114 : ¬ ((0 : Int32) < 0 ∨ cl114.slots.size ≤ ((0 : Int32)).toNatClampNeg) := inb_of S114 ⟨by decide, by decide⟩
  obtain ⟨T114, h114, X114, e114, W114, st114⟩ := stJ X113 hx hZ e113 Ar114 (j := (0 : Int32)) hin114 (g := (mkF m 87 #[.val (.ref ax), .val (.long qz), .second, .val (.long qt), .second] [(.long qt), (.int (0 : Int32)), (.ref at')])) rfl rfl (hb hby d3_87)
  have V114 : own_Al Z h114 at' .long (4 : Int32) := ⟨_, Ar114.same W114, (sz_set _ _ _).trans S114, N114⟩
  have Ea__114 := Ea__111.wr W114
  have Fplaces__114 := Fplaces__111.other W114 (Or.inl n2_)
  have Fstarts__114 := Fstarts__111.other W114 (Or.inl n2_)
  have Ftimes__114 := Ftimes__111.other W114 (Or.inl n2_)
  have Fentries__114 := Fentries__111.other W114 (Or.inl n2_)
  have Fcount__114 := Fcount__111.other W114 (Or.inl n2_)
  have Fend__114 := Fend__111.other W114 (Or.inl n2_)
  have FlastTime__114 := FlastTime__111.other W114 (Or.inl n2_)
  have V107_114 := V107_111.other W114 n4_
  have V111_114 := V111.other W114 n5_
  have Kc114 : Keep h0 h114 [ax, ap, ar, at'] := Kc111.wr W114 (Or.inl (List.mem_of_getElem? (i := 3) rfl))
  have N114 := Fr.snoc X114 N111 gg3_
  refine own_pre (fun t k => st114 t k) ?_
  refine own_pre (A := (T114.setTop (mkF m 90 #[.val (.ref ax), .val (.long qz), .second, .val (.long qt), .second] [(.ref ax), (.ref ax)]))) ?_ ?_
  · intro t k
    refine XS.aloadN X114.here hx rfl (hb hby d3_88) rfl rfl ?_
    refine XS.dup X114.here hx rfl (hb hby d3_89) rfl rfl ?_
    exact k
  obtain ⟨T115, X115, e115, st115⟩ := getF X114 hx hZ hown (host := "") (Or.inl (own_w hw 29 rfl)) Via.refl e114 Fentries__114 (g := (mkF m 90 #[.val (.ref ax), .val (.long qz), .second, .val (.long qt), .second] [(.ref ax), (.ref ax)])) rfl rfl (hb hby d3_90)
  refine own_pre (fun t k => st115 t k) ?_
  refine own_pre (A := (T115.setTop (mkF m 95 #[.val (.ref ax), .val (.long qz), .second, .val (.long qt), .second] [(.int (1 : Int32)), (.ref ax)]))) ?_ ?_
  · intro t k
    refine XS.iconst X115.here hx rfl (hb hby d3_93) ?_
    refine XS.iadd X115.here hx rfl (hb hby d3_94) rfl ?_
    show Steps p.tables e below (T115.setTop (mkF m 95 #[.val (.ref ax), .val (.long qz), .second, .val (.long qt), .second] [(.int ((0 : Int32) + (1 : Int32))), (.ref ax)])) _
    rw [show ((0 : Int32) + (1 : Int32)) = (1 : Int32) from by decide]
    exact k
  obtain ⟨T116, h116, X116, e116, W116, st116⟩ := putF X115 hx hZ hown (host := "") (Or.inl (own_w hw 29 rfl)) Via.refl e115 Fentries__114 Ea__114 (Or.inl (own_w hw 30 rfl)) (own_w hw 4 rfl) (ty := .int) (by decide) rfl rfl (g := (mkF m 95 #[.val (.ref ax), .val (.long qz), .second, .val (.long qt), .second] [(.int (1 : Int32)), (.ref ax)])) rfl rfl (hb hby d3_95)
  have Ea__116 := Ea__114.wr W116
  have Fplaces__116 := Fplaces__114.other W116 (Or.inr (slot_ne (Or.inl (own_w hw 13 rfl)) (Or.inl (own_w hw 30 rfl)) (by decide) (t := (.array .int)) (t' := .int) (by decide) (by decide)))
  have Fstarts__116 := Fstarts__114.other W116 (Or.inr (slot_ne (Or.inl (own_w hw 16 rfl)) (Or.inl (own_w hw 30 rfl)) (by decide) (t := (.array .long)) (t' := .int) (by decide) (by decide)))
  have Ftimes__116 := Ftimes__114.other W116 (Or.inr (slot_ne (Or.inl (own_w hw 18 rfl)) (Or.inl (own_w hw 30 rfl)) (by decide) (t := (.array .long)) (t' := .int) (by decide) (by decide)))
  have Fcount__116 := Fcount__114.other W116 (Or.inr (slot_ne (Or.inl (own_w hw 32 rfl)) (Or.inl (own_w hw 30 rfl)) (by decide) (t := .int) (t' := .int) (by decide) (by decide)))
  have Fend__116 := Fend__114.other W116 (Or.inr (slot_ne (Or.inl (own_w hw 23 rfl)) (Or.inl (own_w hw 30 rfl)) (by decide) (t := .long) (t' := .int) (by decide) (by decide)))
  have FlastTime__116 := FlastTime__114.other W116 (Or.inr (slot_ne (Or.inl (own_w hw 21 rfl)) (Or.inl (own_w hw 30 rfl)) (by decide) (t := .long) (t' := .int) (by decide) (by decide)))
  have V107_116 := V107_114.other W116 n0_.symm
  have V111_116 := V111_114.other W116 n1_.symm
  have V114_116 := V114.other W116 n2_.symm
  have Kc116 : Keep h0 h116 [ax, ap, ar, at'] := Kc114.wr W116 (Or.inl (List.mem_of_getElem? (i := 0) rfl))
  have N116 := Fr.snoc X116 N114 gg0_
  have Fw116 := Fentries__114.same W116
  refine own_pre (fun t k => st116 t k) ?_
  refine own_pre (A := (T116.setTop (mkF m 100 #[.val (.ref ax), .val (.long qz), .second, .val (.long qt), .second] [(.ref ax), (.ref ax)]))) ?_ ?_
  · intro t k
    refine XS.aloadN X116.here hx rfl (hb hby d3_98) rfl rfl ?_
    refine XS.dup X116.here hx rfl (hb hby d3_99) rfl rfl ?_
    exact k
  obtain ⟨T117, X117, e117, st117⟩ := getF X116 hx hZ hown (host := "") (Or.inl (own_w hw 22 rfl)) Via.refl e116 Fend__116 (g := (mkF m 100 #[.val (.ref ax), .val (.long qz), .second, .val (.long qt), .second] [(.ref ax), (.ref ax)])) rfl rfl (hb hby d3_100)
  refine own_pre (fun t k => st117 t k) ?_
  refine own_pre (A := (T117.setTop (mkF m 105 #[.val (.ref ax), .val (.long qz), .second, .val (.long qt), .second] [(.long (qe + qz)), (.ref ax)]))) ?_ ?_
  · intro t k
    refine XS.lloadN X117.here hx rfl (hb hby d3_103) rfl ?_
    refine XS.ladd X117.here hx rfl (hb hby d3_104) rfl ?_
    exact k
  obtain ⟨T118, h118, X118, e118, W118, st118⟩ := putF X117 hx hZ hown (host := "") (Or.inl (own_w hw 22 rfl)) Via.refl e117 Fend__116 Ea__116 (Or.inl (own_w hw 23 rfl)) (own_w hw 4 rfl) (ty := .long) (by decide) rfl rfl (g := (mkF m 105 #[.val (.ref ax), .val (.long qz), .second, .val (.long qt), .second] [(.long (qe + qz)), (.ref ax)])) rfl rfl (hb hby d3_105)
  have Ea__118 := Ea__116.wr W118
  have Fplaces__118 := Fplaces__116.other W118 (Or.inr (slot_ne (Or.inl (own_w hw 13 rfl)) (Or.inl (own_w hw 23 rfl)) (by decide) (t := (.array .int)) (t' := .long) (by decide) (by decide)))
  have Fstarts__118 := Fstarts__116.other W118 (Or.inr (slot_ne (Or.inl (own_w hw 16 rfl)) (Or.inl (own_w hw 23 rfl)) (by decide) (t := (.array .long)) (t' := .long) (by decide) (by decide)))
  have Ftimes__118 := Ftimes__116.other W118 (Or.inr (slot_ne (Or.inl (own_w hw 18 rfl)) (Or.inl (own_w hw 23 rfl)) (by decide) (t := (.array .long)) (t' := .long) (by decide) (by decide)))
  have Fw116_118 := Fw116.other W118 (Or.inr (slot_ne (Or.inl (own_w hw 30 rfl)) (Or.inl (own_w hw 23 rfl)) (by decide) (t := .int) (t' := .long) (by decide) (by decide)))
  have Fcount__118 := Fcount__116.other W118 (Or.inr (slot_ne (Or.inl (own_w hw 32 rfl)) (Or.inl (own_w hw 23 rfl)) (by decide) (t := .int) (t' := .long) (by decide) (by decide)))
  have FlastTime__118 := FlastTime__116.other W118 (Or.inr (slot_ne (Or.inl (own_w hw 21 rfl)) (Or.inl (own_w hw 23 rfl)) (by decide) (t := .long) (t' := .long) (by decide) (by decide)))
  have V107_118 := V107_116.other W118 n0_.symm
  have V111_118 := V111_116.other W118 n1_.symm
  have V114_118 := V114_116.other W118 n2_.symm
  have Kc118 : Keep h0 h118 [ax, ap, ar, at'] := Kc116.wr W118 (Or.inl (List.mem_of_getElem? (i := 0) rfl))
  have N118 := Fr.snoc X118 N116 gg0_
  have Fw118 := Fend__116.same W118
  refine own_pre (fun t k => st118 t k) ?_
  refine own_pre (A := (T118.setTop (mkF m 110 #[.val (.ref ax), .val (.long qz), .second, .val (.long qt), .second] [(.long qt), (.ref ax)]))) ?_ ?_
  · intro t k
    refine XS.aloadN X118.here hx rfl (hb hby d3_108) rfl rfl ?_
    refine XS.lloadN X118.here hx rfl (hb hby d3_109) rfl ?_
    exact k
  obtain ⟨T119, h119, X119, e119, W119, st119⟩ := putF X118 hx hZ hown (host := "") (Or.inl (own_w hw 20 rfl)) Via.refl e118 FlastTime__118 Ea__118 (Or.inl (own_w hw 21 rfl)) (own_w hw 4 rfl) (ty := .long) (by decide) rfl rfl (g := (mkF m 110 #[.val (.ref ax), .val (.long qz), .second, .val (.long qt), .second] [(.long qt), (.ref ax)])) rfl rfl (hb hby d3_110)
  have Ea__119 := Ea__118.wr W119
  have Fplaces__119 := Fplaces__118.other W119 (Or.inr (slot_ne (Or.inl (own_w hw 13 rfl)) (Or.inl (own_w hw 21 rfl)) (by decide) (t := (.array .int)) (t' := .long) (by decide) (by decide)))
  have Fstarts__119 := Fstarts__118.other W119 (Or.inr (slot_ne (Or.inl (own_w hw 16 rfl)) (Or.inl (own_w hw 21 rfl)) (by decide) (t := (.array .long)) (t' := .long) (by decide) (by decide)))
  have Ftimes__119 := Ftimes__118.other W119 (Or.inr (slot_ne (Or.inl (own_w hw 18 rfl)) (Or.inl (own_w hw 21 rfl)) (by decide) (t := (.array .long)) (t' := .long) (by decide) (by decide)))
  have Fw116_119 := Fw116_118.other W119 (Or.inr (slot_ne (Or.inl (own_w hw 30 rfl)) (Or.inl (own_w hw 21 rfl)) (by decide) (t := .int) (t' := .long) (by decide) (by decide)))
  have Fcount__119 := Fcount__118.other W119 (Or.inr (slot_ne (Or.inl (own_w hw 32 rfl)) (Or.inl (own_w hw 21 rfl)) (by decide) (t := .int) (t' := .long) (by decide) (by decide)))
  have Fw118_119 := Fw118.other W119 (Or.inr (slot_ne (Or.inl (own_w hw 23 rfl)) (Or.inl (own_w hw 21 rfl)) (by decide) (t := .long) (t' := .long) (by decide) (by decide)))
  have V107_119 := V107_118.other W119 n0_.symm
  have V111_119 := V111_118.other W119 n1_.symm
  have V114_119 := V114_118.other W119 n2_.symm
  have Kc119 : Keep h0 h119 [ax, ap, ar, at'] := Kc118.wr W119 (Or.inl (List.mem_of_getElem? (i := 0) rfl))
  have N119 := Fr.snoc X119 N118 gg0_
  have Fw119 := FlastTime__118.same W119
  refine own_pre (fun t k => st119 t k) ?_
  refine own_pre (A := (T119.setTop (mkF m 115 #[.val (.ref ax), .val (.long qz), .second, .val (.long qt), .second] [(.ref ax), (.ref ax)]))) ?_ ?_
  · intro t k
    refine XS.aloadN X119.here hx rfl (hb hby d3_113) rfl rfl ?_
    refine XS.dup X119.here hx rfl (hb hby d3_114) rfl rfl ?_
    exact k
  obtain ⟨T120, X120, e120, st120⟩ := getF X119 hx hZ hown (host := "") (Or.inl (own_w hw 31 rfl)) Via.refl e119 Fcount__119 (g := (mkF m 115 #[.val (.ref ax), .val (.long qz), .second, .val (.long qt), .second] [(.ref ax), (.ref ax)])) rfl rfl (hb hby d3_115)
  refine own_pre (fun t k => st120 t k) ?_
  refine own_pre (A := (T120.setTop (mkF m 120 #[.val (.ref ax), .val (.long qz), .second, .val (.long qt), .second] [(.int (ct + (1 : Int32))), (.ref ax)]))) ?_ ?_
  · intro t k
    refine XS.iconst X120.here hx rfl (hb hby d3_118) ?_
    refine XS.iadd X120.here hx rfl (hb hby d3_119) rfl ?_
    exact k
  obtain ⟨T121, h121, X121, e121, W121, st121⟩ := putF X120 hx hZ hown (host := "") (Or.inl (own_w hw 31 rfl)) Via.refl e120 Fcount__119 Ea__119 (Or.inl (own_w hw 32 rfl)) (own_w hw 4 rfl) (ty := .int) (by decide) rfl rfl (g := (mkF m 120 #[.val (.ref ax), .val (.long qz), .second, .val (.long qt), .second] [(.int (ct + (1 : Int32))), (.ref ax)])) rfl rfl (hb hby d3_120)
  have Ea__121 := Ea__119.wr W121
  have Fplaces__121 := Fplaces__119.other W121 (Or.inr (slot_ne (Or.inl (own_w hw 13 rfl)) (Or.inl (own_w hw 32 rfl)) (by decide) (t := (.array .int)) (t' := .int) (by decide) (by decide)))
  have Fstarts__121 := Fstarts__119.other W121 (Or.inr (slot_ne (Or.inl (own_w hw 16 rfl)) (Or.inl (own_w hw 32 rfl)) (by decide) (t := (.array .long)) (t' := .int) (by decide) (by decide)))
  have Ftimes__121 := Ftimes__119.other W121 (Or.inr (slot_ne (Or.inl (own_w hw 18 rfl)) (Or.inl (own_w hw 32 rfl)) (by decide) (t := (.array .long)) (t' := .int) (by decide) (by decide)))
  have Fw116_121 := Fw116_119.other W121 (Or.inr (slot_ne (Or.inl (own_w hw 30 rfl)) (Or.inl (own_w hw 32 rfl)) (by decide) (t := .int) (t' := .int) (by decide) (by decide)))
  have Fw118_121 := Fw118_119.other W121 (Or.inr (slot_ne (Or.inl (own_w hw 23 rfl)) (Or.inl (own_w hw 32 rfl)) (by decide) (t := .long) (t' := .int) (by decide) (by decide)))
  have Fw119_121 := Fw119.other W121 (Or.inr (slot_ne (Or.inl (own_w hw 21 rfl)) (Or.inl (own_w hw 32 rfl)) (by decide) (t := .long) (t' := .int) (by decide) (by decide)))
  have V107_121 := V107_119.other W121 n0_.symm
  have V111_121 := V111_119.other W121 n1_.symm
  have V114_121 := V114_119.other W121 n2_.symm
  have Kc121 : Keep h0 h121 [ax, ap, ar, at'] := Kc119.wr W121 (Or.inl (List.mem_of_getElem? (i := 0) rfl))
  have N121 := Fr.snoc X121 N119 gg0_
  have Fw121 := Fcount__119.same W121
  refine own_pre (fun t k => st121 t k) ?_
  obtain ⟨fs, hr, hrun, hended, hW, hsame⟩ := X121.leave (hlocks := BodyLoose.notSynchronized Bd) (v := none) (fun _ => rfl)
  refine ⟨_, _, X121.returnOut hx Bd.returns (hb hby d3_123) hr, hrun, hended, _, _, rfl, ?_, ⟨_, rfl⟩, hW, hsame.mono (by decide) (by decide)⟩
  show own_Q3_0 Z ax qz qt ap ar at' kp ks ct qe ql pp0 pp1 pp2 pp3 ss0 ss1 ss2 ss3 h0 n0 _ T121.heap _
  rw [e121]
  exact ⟨rfl, N121, Kc121, ⟨Ea__121, Fplaces__121, Fstarts__121, Ftimes__121, Fw116_121, Fw121, Fw118_121, Fw119_121, V107_121, V111_121, V114_121, n0_, n1_, n2_, n3_, n4_, n5_, gg0_, gg1_, gg2_, gg3_⟩⟩
abbrev own_l136 (x0 : Int64) (x1 : Int32) (x2 : Int32) (x3 : Int32) (x4 : Int32) (x5 : Int64) (x6 : Int64) (x7 : Int64) (x8 : Addr) (x9 : Addr) : Array Slot := #[.val (.long x0), .second, .val (.int x1), .val (.int x2), .val (.int x3), .val (.int x4), .val (.int (1 : Int32)), .val (.long x5), .second, .val (.long x6), .second, .val (.long x7), .second, .val (.long (65536 : Int64)), .second, .val (.ref x8), .val (.ref x9), .val (.long x5), .second, .unset, .unset, .unset, .unset, .unset, .unset, .unset, .unset, .unset, .unset, .unset, .unset, .unset, .unset]
abbrev own_l137 (x0 : Int64) (x1 : Int32) (x2 : Int32) (x3 : Int32) (x4 : Int32) (x5 : Int64) (x6 : Int64) (x7 : Int64) (x8 : Addr) (x9 : Addr) : Array Slot := #[.val (.long x0), .second, .val (.int x1), .val (.int x2), .val (.int x3), .val (.int x4), .val (.int (1 : Int32)), .val (.long x5), .second, .val (.long x6), .second, .val (.long x7), .second, .val (.long (65536 : Int64)), .second, .val (.ref x8), .val (.ref x9), .val (.long x5), .second, .val (.long (x5 + x6)), .second, .unset, .unset, .unset, .unset, .unset, .unset, .unset, .unset, .unset, .unset, .unset, .unset]
abbrev own_l138 (x0 : Int64) (x1 : Int32) (x2 : Int32) (x3 : Int32) (x4 : Int32) (x5 : Int64) (x6 : Int64) (x7 : Int64) (x8 : Addr) (x9 : Addr) : Array Slot := #[.val (.long x0), .second, .val (.int x1), .val (.int x2), .val (.int x3), .val (.int x4), .val (.int (1 : Int32)), .val (.long x5), .second, .val (.long x6), .second, .val (.long x7), .second, .val (.long (65536 : Int64)), .second, .val (.ref x8), .val (.ref x9), .val (.long x5), .second, .val (.long (x5 + x6)), .second, .val (.long ((x5 + x6) + x7)), .second, .unset, .unset, .unset, .unset, .unset, .unset, .unset, .unset, .unset, .unset]
abbrev own_l139 (x0 : Int64) (x1 : Int32) (x2 : Int32) (x3 : Int32) (x4 : Int32) (x5 : Int64) (x6 : Int64) (x7 : Int64) (x8 : Addr) (x9 : Addr) : Array Slot := #[.val (.long x0), .second, .val (.int x1), .val (.int x2), .val (.int x3), .val (.int x4), .val (.int (1 : Int32)), .val (.long x5), .second, .val (.long x6), .second, .val (.long x7), .second, .val (.long (65536 : Int64)), .second, .val (.ref x8), .val (.ref x9), .val (.long x5), .second, .val (.long (x5 + x6)), .second, .val (.long ((x5 + x6) + x7)), .second, .val (.long (0 : Int64)), .second, .unset, .unset, .unset, .unset, .unset, .unset, .unset, .unset]
abbrev own_l140 (x0 : Int64) (x1 : Int32) (x2 : Int32) (x3 : Int32) (x4 : Int32) (x5 : Int64) (x6 : Int64) (x7 : Int64) (x8 : Addr) (x9 : Addr) : Array Slot := #[.val (.long x0), .second, .val (.int x1), .val (.int x2), .val (.int x3), .val (.int x4), .val (.int (1 : Int32)), .val (.long x5), .second, .val (.long x6), .second, .val (.long x7), .second, .val (.long (65536 : Int64)), .second, .val (.ref x8), .val (.ref x9), .val (.long x5), .second, .val (.long (x5 + x6)), .second, .val (.long ((x5 + x6) + x7)), .second, .val (.long (0 : Int64)), .second, .val (.int (0 : Int32)), .unset, .unset, .unset, .unset, .unset, .unset, .unset]
abbrev own_l141 (x0 : Int64) (x1 : Int32) (x2 : Int32) (x3 : Int32) (x4 : Int32) (x5 : Int64) (x6 : Int64) (x7 : Int64) (x8 : Addr) (x9 : Addr) : Array Slot := #[.val (.long x0), .second, .val (.int x1), .val (.int x2), .val (.int x3), .val (.int x4), .val (.int (1 : Int32)), .val (.long x5), .second, .val (.long x6), .second, .val (.long x7), .second, .val (.long (65536 : Int64)), .second, .val (.ref x8), .val (.ref x9), .val (.long x5), .second, .val (.long (x5 + x6)), .second, .val (.long ((x5 + x6) + x7)), .second, .val (.long (0 : Int64)), .second, .val (.int (0 : Int32)), .val (.int (0 : Int32)), .unset, .unset, .unset, .unset, .unset, .unset]
abbrev own_l142 (x0 : Int64) (x1 : Int32) (x2 : Int32) (x3 : Int32) (x4 : Int32) (x5 : Int64) (x6 : Int64) (x7 : Int64) (x8 : Addr) (x9 : Addr) : Array Slot := #[.val (.long x0), .second, .val (.int x1), .val (.int x2), .val (.int x3), .val (.int x4), .val (.int (1 : Int32)), .val (.long x5), .second, .val (.long x6), .second, .val (.long x7), .second, .val (.long (65536 : Int64)), .second, .val (.ref x8), .val (.ref x9), .val (.long x5), .second, .val (.long (x5 + x6)), .second, .val (.long ((x5 + x6) + x7)), .second, .val (.long (0 : Int64)), .second, .val (.int (0 : Int32)), .val (.int (0 : Int32)), .val (.int (0 : Int32)), .unset, .unset, .unset, .unset, .unset]
abbrev own_l143 (x0 : Int64) (x1 : Int32) (x2 : Int32) (x3 : Int32) (x4 : Int32) (x5 : Int64) (x6 : Int64) (x7 : Int64) : Array Slot := #[.val (.long x0), .second, .val (.int x1), .val (.int x2), .val (.int x3), .val (.int x4), .val (.int (2 : Int32)), .val (.long x5), .second, .val (.long x6), .second, .val (.long x7), .second, .val (.long (65536 : Int64)), .second, .unset, .unset, .unset, .unset, .unset, .unset, .unset, .unset, .unset, .unset, .unset, .unset, .unset, .unset, .unset, .unset, .unset, .unset]
abbrev own_l144 (x0 : Int64) (x1 : Int32) (x2 : Int32) (x3 : Int32) (x4 : Int32) (x5 : Int64) (x6 : Int64) (x7 : Int64) (x8 : Addr) : Array Slot := #[.val (.long x0), .second, .val (.int x1), .val (.int x2), .val (.int x3), .val (.int x4), .val (.int (2 : Int32)), .val (.long x5), .second, .val (.long x6), .second, .val (.long x7), .second, .val (.long (65536 : Int64)), .second, .val (.ref x8), .unset, .unset, .unset, .unset, .unset, .unset, .unset, .unset, .unset, .unset, .unset, .unset, .unset, .unset, .unset, .unset, .unset]
abbrev own_l145 (x0 : Int64) (x1 : Int32) (x2 : Int32) (x3 : Int32) (x4 : Int32) (x5 : Int64) (x6 : Int64) (x7 : Int64) (x8 : Addr) (x9 : Addr) : Array Slot := #[.val (.long x0), .second, .val (.int x1), .val (.int x2), .val (.int x3), .val (.int x4), .val (.int (2 : Int32)), .val (.long x5), .second, .val (.long x6), .second, .val (.long x7), .second, .val (.long (65536 : Int64)), .second, .val (.ref x8), .val (.ref x9), .unset, .unset, .unset, .unset, .unset, .unset, .unset, .unset, .unset, .unset, .unset, .unset, .unset, .unset, .unset, .unset]
def own_Q3_1A (Z : State) (ax : Addr) (qz : Int64) (qt : Int64) (ap : Addr) (ar : Addr) (at' : Addr) (kp : ClassId) (ks : ClassId) (ct : Int32) (qe : Int64) (ql : Int64) (pp0 : Int32) (pp1 : Int32) (pp2 : Int32) (pp3 : Int32) (ss0 : Int64) (ss1 : Int64) (ss2 : Int64) (ss3 : Int64) (h0 : Heap) (n0 : Nat) (v : Option Value) (h : Heap) (L : List Loc) : Prop := v = none ∧ Fr n0 L ∧ Keep h0 h [ax, ap, ar, at'] ∧ own_SI Z h n0 ax ap ar at' kp ks (1 : Int32) (ct + (1 : Int32)) (qe + qz) qt pp0 pp1 pp2 pp3 ss0 ss1 ss2 ss3
set_option maxRecDepth 65536 in
set_option maxHeartbeats 40000000 in
theorem rm3_1A (l : Launch) (Z : State) (a0 : Array Value) (hw : ∀ d ∈ tables_1, d.before a0 Z = true) (ws : List Jvm.Cond) (ax : Addr) (qz : Int64) (qt : Int64) (ap : Addr) (ar : Addr) (at' : Addr) (kp : ClassId) (ks : ClassId) (ct : Int32) (qe : Int64) (ql : Int64) (pp0 : Int32) (pp1 : Int32) (pp2 : Int32) (pp3 : Int32) (ss0 : Int64) (ss1 : Int64) (ss2 : Int64) (ss3 : Int64) (h0 : Heap) (n0 : Nat) (Z0 : n0 ≤ h0.size) (B : own_SI Z h0 n0 ax ap ar at' kp ks (1 : Int32) ct qe ql pp0 pp1 pp2 pp3 ss0 ss1 ss2 ss3) (hs : (qe - ss0) < (65536 : Int64)) :
    MetFree l (⟨"com/example/coho/coho/eventlog/SegmentIndex", "add", "(JJ)V"⟩ : MethodName) (head1 (Jvm.Cond.code (⟨"com/example/coho/coho/eventlog/SegmentIndex", "add", "(JJ)V"⟩ : MethodName) prog_34_method_2_code 5 none :: ws) ({ frames := 0, cells := 0, slots := 0, locals := 0 } : Room)) (fun a U => a = #[(.ref ax), (.long qz), (.long qt)] ∧ Z.Warmed39 U.vm ∧ U.heap = h0) (fun _ _ _ _ _ => True) (fun _ U o U' => ∃ v L, o = .returned v ∧ own_Q3_1A Z ax qz qt ap ar at' kp ks ct qe ql pp0 pp1 pp2 pp3 ss0 ss1 ss2 ss3 h0 n0 v U'.heap L ∧ FrameEnd U o U' L ({ frames := 0, cells := 0, slots := 0, locals := 0 } : Room).cells ({ frames := 0, cells := 0, slots := 0, locals := 0 } : Room).slots) := by
  refine MetFree.of_bodySF (plainFor_of_name own_pn3) hisR ?_
  intro p e s m args below meth c s₁ Bd hml0 hP hK
  obtain ⟨rfl, hZ, hh⟩ := hP
  have hx := Bd.exec
  have hby := Bd.bytes
  have hml : c.maxLocals = 5 := hml0
  have hown : s.vm.findClass "com/example/coho/coho/eventlog/SegmentIndex" = some m.cls := findClass_of_methodNamed Bd.named
  have hnm := (name_of_methodNamed Bd.named Bd.method).1
  have X0 : Stand p l e ({ frames := 0, cells := 0, slots := 0, locals := 0 } : Room) s m #[(.ref ax), (.long qz), (.long qt)] below meth c s₁ [] 0 0 := Stand.of_body Bd
  have e0 : s₁.heap = h0 := by rw [← hh, Bd.state]; rfl
  have N0 := Fr.nil n0
  refine own_pre (A := (s₁.setTop (mkF m 0 #[.val (.ref ax), .val (.long qz), .second, .val (.long qt), .second] []))) (fun t k => castTop (own_ef3 m ax qz qt) k) ?_
  obtain ⟨Ea_, Fplaces_, Fstarts_, Ftimes_, Fentries_, Fcount_, Fend_, FlastTime_, Vp_, Vs_, Vt_, n0_, n1_, n2_, n3_, n4_, n5_, gg0_, gg1_, gg2_, gg3_⟩ := B
  refine own_pre (A := (s₁.setTop (mkF m 1 #[.val (.ref ax), .val (.long qz), .second, .val (.long qt), .second] [(.ref ax)]))) ?_ ?_
  · intro t k
    refine XS.aloadN X0.here hx rfl (hb hby d3_0) rfl rfl ?_
    exact k
  obtain ⟨T129, X129, e129, st129⟩ := getF X0 hx hZ hown (host := "") (Or.inl (own_w hw 29 rfl)) Via.refl e0 Fentries_ (g := (mkF m 1 #[.val (.ref ax), .val (.long qz), .second, .val (.long qt), .second] [(.ref ax)])) rfl rfl (hb hby d3_1)
  refine own_pre (fun t k => st129 t k) ?_
  refine own_pre (A := (T129.setTop (mkF m 8 #[.val (.ref ax), .val (.long qz), .second, .val (.long qt), .second] [(.ref ax)]))) ?_ ?_
  · intro t k
    refine XS.ifNo X129.here hx rfl (hb hby d3_4) rfl ((if0 _ _).trans (feq (by decide : ¬ ((1 : Int32) = (0 : Int32)))).1) ?_
    refine XS.aloadN X129.here hx rfl (hb hby d3_7) rfl rfl ?_
    exact k
  obtain ⟨T130, X130, e130, st130⟩ := getF X129 hx hZ hown (host := "") (Or.inl (own_w hw 22 rfl)) Via.refl e129 Fend_ (g := (mkF m 8 #[.val (.ref ax), .val (.long qz), .second, .val (.long qt), .second] [(.ref ax)])) rfl rfl (hb hby d3_8)
  refine own_pre (fun t k => st130 t k) ?_
  refine own_pre (A := (T130.setTop (mkF m 12 #[.val (.ref ax), .val (.long qz), .second, .val (.long qt), .second] [(.ref ax), (.long qe)]))) ?_ ?_
  · intro t k
    refine XS.aloadN X130.here hx rfl (hb hby d3_11) rfl rfl ?_
    exact k
  obtain ⟨T131, X131, e131, st131⟩ := getF X130 hx hZ hown (host := "") (Or.inl (own_w hw 15 rfl)) Via.refl e130 Fstarts_ (g := (mkF m 12 #[.val (.ref ax), .val (.long qz), .second, .val (.long qt), .second] [(.ref ax), (.long qe)])) rfl rfl (hb hby d3_12)
  refine own_pre (fun t k => st131 t k) ?_
  refine own_pre (A := (T131.setTop (mkF m 16 #[.val (.ref ax), .val (.long qz), .second, .val (.long qt), .second] [(.ref ax), (.ref ar), (.long qe)]))) ?_ ?_
  · intro t k
    refine XS.aloadN X131.here hx rfl (hb hby d3_15) rfl rfl ?_
    exact k
  obtain ⟨T132, X132, e132, st132⟩ := getF X131 hx hZ hown (host := "") (Or.inl (own_w hw 29 rfl)) Via.refl e131 Fentries_ (g := (mkF m 16 #[.val (.ref ax), .val (.long qz), .second, .val (.long qt), .second] [(.ref ax), (.ref ar), (.long qe)])) rfl rfl (hb hby d3_16)
  refine own_pre (fun t k => st132 t k) ?_
  refine own_pre (A := (T132.setTop (mkF m 100 #[.val (.ref ax), .val (.long qz), .second, .val (.long qt), .second] [(.ref ax), (.ref ax)]))) ?_ ?_
  · intro t k
    refine XS.iconst X132.here hx rfl (hb hby d3_19) ?_
    refine XS.isub X132.here hx rfl (hb hby d3_20) rfl ?_
    show Steps p.tables e below (T132.setTop (mkF m 21 #[.val (.ref ax), .val (.long qz), .second, .val (.long qt), .second] [(.int ((1 : Int32) - (1 : Int32))), (.ref ar), (.long qe)])) _
    rw [show ((1 : Int32) - (1 : Int32)) = (0 : Int32) from by decide]
    show Steps p.tables e below (T132.setTop (mkF m 21 #[.val (.ref ax), .val (.long qz), .second, .val (.long qt), .second] [(.int (0 : Int32)), (.ref ar), (.long qe)])) _
    obtain ⟨cl133, Ar133, q133, S133, N133, H133, G133⟩ := id Vs_
    have hin133 : ¬ ((0 : Int32) < 0 ∨ cl133.slots.size ≤ ((0 : Int32)).toNatClampNeg) := inb_of S133 ⟨by decide, by decide⟩
    refine X132.laload hx (j := (0 : Int32)) (v := (.long ss0)) (by rw [e132]; exact Ar133.1) (State.isArrayOf_alike hZ.alike Ar133.2.1) Ar133.2.2 hin133 (H133.at hin133 rfl) (g := (mkF m 21 #[.val (.ref ax), .val (.long qz), .second, .val (.long qt), .second] [(.int (0 : Int32)), (.ref ar), (.long qe)])) rfl rfl (hb hby d3_21) _ ?_
    refine XS.lsub X132.here hx rfl (hb hby d3_22) rfl ?_
    show Steps p.tables e below (T132.setTop (mkF m 23 #[.val (.ref ax), .val (.long qz), .second, .val (.long qt), .second] [(.long (qe - ss0))])) _
    refine X132.ldc2Long hx hown (mvT hZ (own_w hw 33 rfl)) (g := (mkF m 23 #[.val (.ref ax), .val (.long qz), .second, .val (.long qt), .second] [(.long (qe - ss0))])) rfl (hb hby d3_23) _ ?_
    refine XS.lcmp X132.here hx rfl (hb hby d3_26) rfl ?_
    refine XS.ifYes X132.here hx rfl (pc0 := 27) (pc' := 98) rfl (hb hby d3_27) rfl ((if0 _ _).trans (tlt ((lw_lt (qe - ss0) (65536 : Int64)).mpr hs)).1) (by decide) (by decide) ?_
    refine XS.aloadN X132.here hx rfl (hb hby d3_98) rfl rfl ?_
    refine XS.dup X132.here hx rfl (hb hby d3_99) rfl rfl ?_
    exact k
  obtain ⟨T134, X134, e134, st134⟩ := getF X132 hx hZ hown (host := "") (Or.inl (own_w hw 22 rfl)) Via.refl e132 Fend_ (g := (mkF m 100 #[.val (.ref ax), .val (.long qz), .second, .val (.long qt), .second] [(.ref ax), (.ref ax)])) rfl rfl (hb hby d3_100)
  refine own_pre (fun t k => st134 t k) ?_
  refine own_pre (A := (T134.setTop (mkF m 105 #[.val (.ref ax), .val (.long qz), .second, .val (.long qt), .second] [(.long (qe + qz)), (.ref ax)]))) ?_ ?_
  · intro t k
    refine XS.lloadN X134.here hx rfl (hb hby d3_103) rfl ?_
    refine XS.ladd X134.here hx rfl (hb hby d3_104) rfl ?_
    exact k
  obtain ⟨T135, h135, X135, e135, W135, st135⟩ := putF X134 hx hZ hown (host := "") (Or.inl (own_w hw 22 rfl)) Via.refl e134 Fend_ Ea_ (Or.inl (own_w hw 23 rfl)) (own_w hw 4 rfl) (ty := .long) (by decide) rfl rfl (g := (mkF m 105 #[.val (.ref ax), .val (.long qz), .second, .val (.long qt), .second] [(.long (qe + qz)), (.ref ax)])) rfl rfl (hb hby d3_105)
  have Ea__135 := Ea_.wr W135
  have Fplaces__135 := Fplaces_.other W135 (Or.inr (slot_ne (Or.inl (own_w hw 13 rfl)) (Or.inl (own_w hw 23 rfl)) (by decide) (t := (.array .int)) (t' := .long) (by decide) (by decide)))
  have Fstarts__135 := Fstarts_.other W135 (Or.inr (slot_ne (Or.inl (own_w hw 16 rfl)) (Or.inl (own_w hw 23 rfl)) (by decide) (t := (.array .long)) (t' := .long) (by decide) (by decide)))
  have Ftimes__135 := Ftimes_.other W135 (Or.inr (slot_ne (Or.inl (own_w hw 18 rfl)) (Or.inl (own_w hw 23 rfl)) (by decide) (t := (.array .long)) (t' := .long) (by decide) (by decide)))
  have Fentries__135 := Fentries_.other W135 (Or.inr (slot_ne (Or.inl (own_w hw 30 rfl)) (Or.inl (own_w hw 23 rfl)) (by decide) (t := .int) (t' := .long) (by decide) (by decide)))
  have Fcount__135 := Fcount_.other W135 (Or.inr (slot_ne (Or.inl (own_w hw 32 rfl)) (Or.inl (own_w hw 23 rfl)) (by decide) (t := .int) (t' := .long) (by decide) (by decide)))
  have FlastTime__135 := FlastTime_.other W135 (Or.inr (slot_ne (Or.inl (own_w hw 21 rfl)) (Or.inl (own_w hw 23 rfl)) (by decide) (t := .long) (t' := .long) (by decide) (by decide)))
  have Vp__135 := Vp_.other W135 n0_.symm
  have Vs__135 := Vs_.other W135 n1_.symm
  have Vt__135 := Vt_.other W135 n2_.symm
  have Kc135 : Keep h0 h135 [ax, ap, ar, at'] := (Keep.refl h0 [ax, ap, ar, at']).wr W135 (Or.inl (List.mem_of_getElem? (i := 0) rfl))
  have N135 := Fr.snoc X135 N0 gg0_
  have Fw135 := Fend_.same W135
  refine own_pre (fun t k => st135 t k) ?_
  refine own_pre (A := (T135.setTop (mkF m 110 #[.val (.ref ax), .val (.long qz), .second, .val (.long qt), .second] [(.long qt), (.ref ax)]))) ?_ ?_
  · intro t k
    refine XS.aloadN X135.here hx rfl (hb hby d3_108) rfl rfl ?_
    refine XS.lloadN X135.here hx rfl (hb hby d3_109) rfl ?_
    exact k
  obtain ⟨T136, h136, X136, e136, W136, st136⟩ := putF X135 hx hZ hown (host := "") (Or.inl (own_w hw 20 rfl)) Via.refl e135 FlastTime__135 Ea__135 (Or.inl (own_w hw 21 rfl)) (own_w hw 4 rfl) (ty := .long) (by decide) rfl rfl (g := (mkF m 110 #[.val (.ref ax), .val (.long qz), .second, .val (.long qt), .second] [(.long qt), (.ref ax)])) rfl rfl (hb hby d3_110)
  have Ea__136 := Ea__135.wr W136
  have Fplaces__136 := Fplaces__135.other W136 (Or.inr (slot_ne (Or.inl (own_w hw 13 rfl)) (Or.inl (own_w hw 21 rfl)) (by decide) (t := (.array .int)) (t' := .long) (by decide) (by decide)))
  have Fstarts__136 := Fstarts__135.other W136 (Or.inr (slot_ne (Or.inl (own_w hw 16 rfl)) (Or.inl (own_w hw 21 rfl)) (by decide) (t := (.array .long)) (t' := .long) (by decide) (by decide)))
  have Ftimes__136 := Ftimes__135.other W136 (Or.inr (slot_ne (Or.inl (own_w hw 18 rfl)) (Or.inl (own_w hw 21 rfl)) (by decide) (t := (.array .long)) (t' := .long) (by decide) (by decide)))
  have Fentries__136 := Fentries__135.other W136 (Or.inr (slot_ne (Or.inl (own_w hw 30 rfl)) (Or.inl (own_w hw 21 rfl)) (by decide) (t := .int) (t' := .long) (by decide) (by decide)))
  have Fcount__136 := Fcount__135.other W136 (Or.inr (slot_ne (Or.inl (own_w hw 32 rfl)) (Or.inl (own_w hw 21 rfl)) (by decide) (t := .int) (t' := .long) (by decide) (by decide)))
  have Fw135_136 := Fw135.other W136 (Or.inr (slot_ne (Or.inl (own_w hw 23 rfl)) (Or.inl (own_w hw 21 rfl)) (by decide) (t := .long) (t' := .long) (by decide) (by decide)))
  have Vp__136 := Vp__135.other W136 n0_.symm
  have Vs__136 := Vs__135.other W136 n1_.symm
  have Vt__136 := Vt__135.other W136 n2_.symm
  have Kc136 : Keep h0 h136 [ax, ap, ar, at'] := Kc135.wr W136 (Or.inl (List.mem_of_getElem? (i := 0) rfl))
  have N136 := Fr.snoc X136 N135 gg0_
  have Fw136 := FlastTime__135.same W136
  refine own_pre (fun t k => st136 t k) ?_
  refine own_pre (A := (T136.setTop (mkF m 115 #[.val (.ref ax), .val (.long qz), .second, .val (.long qt), .second] [(.ref ax), (.ref ax)]))) ?_ ?_
  · intro t k
    refine XS.aloadN X136.here hx rfl (hb hby d3_113) rfl rfl ?_
    refine XS.dup X136.here hx rfl (hb hby d3_114) rfl rfl ?_
    exact k
  obtain ⟨T137, X137, e137, st137⟩ := getF X136 hx hZ hown (host := "") (Or.inl (own_w hw 31 rfl)) Via.refl e136 Fcount__136 (g := (mkF m 115 #[.val (.ref ax), .val (.long qz), .second, .val (.long qt), .second] [(.ref ax), (.ref ax)])) rfl rfl (hb hby d3_115)
  refine own_pre (fun t k => st137 t k) ?_
  refine own_pre (A := (T137.setTop (mkF m 120 #[.val (.ref ax), .val (.long qz), .second, .val (.long qt), .second] [(.int (ct + (1 : Int32))), (.ref ax)]))) ?_ ?_
  · intro t k
    refine XS.iconst X137.here hx rfl (hb hby d3_118) ?_
    refine XS.iadd X137.here hx rfl (hb hby d3_119) rfl ?_
    exact k
  obtain ⟨T138, h138, X138, e138, W138, st138⟩ := putF X137 hx hZ hown (host := "") (Or.inl (own_w hw 31 rfl)) Via.refl e137 Fcount__136 Ea__136 (Or.inl (own_w hw 32 rfl)) (own_w hw 4 rfl) (ty := .int) (by decide) rfl rfl (g := (mkF m 120 #[.val (.ref ax), .val (.long qz), .second, .val (.long qt), .second] [(.int (ct + (1 : Int32))), (.ref ax)])) rfl rfl (hb hby d3_120)
  have Ea__138 := Ea__136.wr W138
  have Fplaces__138 := Fplaces__136.other W138 (Or.inr (slot_ne (Or.inl (own_w hw 13 rfl)) (Or.inl (own_w hw 32 rfl)) (by decide) (t := (.array .int)) (t' := .int) (by decide) (by decide)))
  have Fstarts__138 := Fstarts__136.other W138 (Or.inr (slot_ne (Or.inl (own_w hw 16 rfl)) (Or.inl (own_w hw 32 rfl)) (by decide) (t := (.array .long)) (t' := .int) (by decide) (by decide)))
  have Ftimes__138 := Ftimes__136.other W138 (Or.inr (slot_ne (Or.inl (own_w hw 18 rfl)) (Or.inl (own_w hw 32 rfl)) (by decide) (t := (.array .long)) (t' := .int) (by decide) (by decide)))
  have Fentries__138 := Fentries__136.other W138 (Or.inr (slot_ne (Or.inl (own_w hw 30 rfl)) (Or.inl (own_w hw 32 rfl)) (by decide) (t := .int) (t' := .int) (by decide) (by decide)))
  have Fw135_138 := Fw135_136.other W138 (Or.inr (slot_ne (Or.inl (own_w hw 23 rfl)) (Or.inl (own_w hw 32 rfl)) (by decide) (t := .long) (t' := .int) (by decide) (by decide)))
  have Fw136_138 := Fw136.other W138 (Or.inr (slot_ne (Or.inl (own_w hw 21 rfl)) (Or.inl (own_w hw 32 rfl)) (by decide) (t := .long) (t' := .int) (by decide) (by decide)))
  have Vp__138 := Vp__136.other W138 n0_.symm
  have Vs__138 := Vs__136.other W138 n1_.symm
  have Vt__138 := Vt__136.other W138 n2_.symm
  have Kc138 : Keep h0 h138 [ax, ap, ar, at'] := Kc136.wr W138 (Or.inl (List.mem_of_getElem? (i := 0) rfl))
  have N138 := Fr.snoc X138 N136 gg0_
  have Fw138 := Fcount__136.same W138
  refine own_pre (fun t k => st138 t k) ?_
  obtain ⟨fs, hr, hrun, hended, hW, hsame⟩ := X138.leave (hlocks := BodyLoose.notSynchronized Bd) (v := none) (fun _ => rfl)
  refine ⟨_, _, X138.returnOut hx Bd.returns (hb hby d3_123) hr, hrun, hended, _, _, rfl, ?_, ⟨_, rfl⟩, hW, hsame.mono (by decide) (by decide)⟩
  show own_Q3_1A Z ax qz qt ap ar at' kp ks ct qe ql pp0 pp1 pp2 pp3 ss0 ss1 ss2 ss3 h0 n0 _ T138.heap _
  rw [e138]
  exact ⟨rfl, N138, Kc138, ⟨Ea__138, Fplaces__138, Fstarts__138, Ftimes__138, Fentries__138, Fw138, Fw135_138, Fw136_138, Vp__138, Vs__138, Vt__138, n0_, n1_, n2_, n3_, n4_, n5_, gg0_, gg1_, gg2_, gg3_⟩⟩
abbrev own_l146 (x0 : Int64) (x1 : Int32) (x2 : Int32) (x3 : Int32) (x4 : Int32) (x5 : Int64) (x6 : Int64) (x7 : Int64) (x8 : Addr) (x9 : Addr) : Array Slot := #[.val (.long x0), .second, .val (.int x1), .val (.int x2), .val (.int x3), .val (.int x4), .val (.int (2 : Int32)), .val (.long x5), .second, .val (.long x6), .second, .val (.long x7), .second, .val (.long (65536 : Int64)), .second, .val (.ref x8), .val (.ref x9), .val (.long x5), .second, .unset, .unset, .unset, .unset, .unset, .unset, .unset, .unset, .unset, .unset, .unset, .unset, .unset, .unset]
abbrev own_l147 (x0 : Int64) (x1 : Int32) (x2 : Int32) (x3 : Int32) (x4 : Int32) (x5 : Int64) (x6 : Int64) (x7 : Int64) (x8 : Addr) (x9 : Addr) : Array Slot := #[.val (.long x0), .second, .val (.int x1), .val (.int x2), .val (.int x3), .val (.int x4), .val (.int (2 : Int32)), .val (.long x5), .second, .val (.long x6), .second, .val (.long x7), .second, .val (.long (65536 : Int64)), .second, .val (.ref x8), .val (.ref x9), .val (.long x5), .second, .val (.long (x5 + x6)), .second, .unset, .unset, .unset, .unset, .unset, .unset, .unset, .unset, .unset, .unset, .unset, .unset]
abbrev own_l148 (x0 : Int64) (x1 : Int32) (x2 : Int32) (x3 : Int32) (x4 : Int32) (x5 : Int64) (x6 : Int64) (x7 : Int64) (x8 : Addr) (x9 : Addr) : Array Slot := #[.val (.long x0), .second, .val (.int x1), .val (.int x2), .val (.int x3), .val (.int x4), .val (.int (2 : Int32)), .val (.long x5), .second, .val (.long x6), .second, .val (.long x7), .second, .val (.long (65536 : Int64)), .second, .val (.ref x8), .val (.ref x9), .val (.long x5), .second, .val (.long (x5 + x6)), .second, .val (.long ((x5 + x6) + x7)), .second, .unset, .unset, .unset, .unset, .unset, .unset, .unset, .unset, .unset, .unset]
abbrev own_l149 (x0 : Int64) (x1 : Int32) (x2 : Int32) (x3 : Int32) (x4 : Int32) (x5 : Int64) (x6 : Int64) (x7 : Int64) (x8 : Addr) (x9 : Addr) : Array Slot := #[.val (.long x0), .second, .val (.int x1), .val (.int x2), .val (.int x3), .val (.int x4), .val (.int (2 : Int32)), .val (.long x5), .second, .val (.long x6), .second, .val (.long x7), .second, .val (.long (65536 : Int64)), .second, .val (.ref x8), .val (.ref x9), .val (.long x5), .second, .val (.long (x5 + x6)), .second, .val (.long ((x5 + x6) + x7)), .second, .val (.long (0 : Int64)), .second, .unset, .unset, .unset, .unset, .unset, .unset, .unset, .unset]
abbrev own_l150 (x0 : Int64) (x1 : Int32) (x2 : Int32) (x3 : Int32) (x4 : Int32) (x5 : Int64) (x6 : Int64) (x7 : Int64) (x8 : Addr) (x9 : Addr) : Array Slot := #[.val (.long x0), .second, .val (.int x1), .val (.int x2), .val (.int x3), .val (.int x4), .val (.int (2 : Int32)), .val (.long x5), .second, .val (.long x6), .second, .val (.long x7), .second, .val (.long (65536 : Int64)), .second, .val (.ref x8), .val (.ref x9), .val (.long x5), .second, .val (.long (x5 + x6)), .second, .val (.long ((x5 + x6) + x7)), .second, .val (.long (0 : Int64)), .second, .val (.int (0 : Int32)), .unset, .unset, .unset, .unset, .unset, .unset, .unset]
abbrev own_l151 (x0 : Int64) (x1 : Int32) (x2 : Int32) (x3 : Int32) (x4 : Int32) (x5 : Int64) (x6 : Int64) (x7 : Int64) (x8 : Addr) (x9 : Addr) : Array Slot := #[.val (.long x0), .second, .val (.int x1), .val (.int x2), .val (.int x3), .val (.int x4), .val (.int (2 : Int32)), .val (.long x5), .second, .val (.long x6), .second, .val (.long x7), .second, .val (.long (65536 : Int64)), .second, .val (.ref x8), .val (.ref x9), .val (.long x5), .second, .val (.long (x5 + x6)), .second, .val (.long ((x5 + x6) + x7)), .second, .val (.long (0 : Int64)), .second, .val (.int (0 : Int32)), .val (.int (0 : Int32)), .unset, .unset, .unset, .unset, .unset, .unset]
abbrev own_l152 (x0 : Int64) (x1 : Int32) (x2 : Int32) (x3 : Int32) (x4 : Int32) (x5 : Int64) (x6 : Int64) (x7 : Int64) (x8 : Addr) (x9 : Addr) : Array Slot := #[.val (.long x0), .second, .val (.int x1), .val (.int x2), .val (.int x3), .val (.int x4), .val (.int (2 : Int32)), .val (.long x5), .second, .val (.long x6), .second, .val (.long x7), .second, .val (.long (65536 : Int64)), .second, .val (.ref x8), .val (.ref x9), .val (.long x5), .second, .val (.long (x5 + x6)), .second, .val (.long ((x5 + x6) + x7)), .second, .val (.long (0 : Int64)), .second, .val (.int (0 : Int32)), .val (.int (0 : Int32)), .val (.int (0 : Int32)), .unset, .unset, .unset, .unset, .unset]
def own_Q3_1B (Z : State) (ax : Addr) (qz : Int64) (qt : Int64) (ap : Addr) (ar : Addr) (at' : Addr) (kp : ClassId) (ks : ClassId) (ct : Int32) (qe : Int64) (ql : Int64) (pp0 : Int32) (pp1 : Int32) (pp2 : Int32) (pp3 : Int32) (ss0 : Int64) (ss1 : Int64) (ss2 : Int64) (ss3 : Int64) (h0 : Heap) (n0 : Nat) (v : Option Value) (h : Heap) (L : List Loc) : Prop := v = none ∧ Fr n0 L ∧ Keep h0 h [ax, ap, ar, at'] ∧ own_SI Z h n0 ax ap ar at' kp ks (2 : Int32) (ct + (1 : Int32)) (qe + qz) qt pp0 ct pp2 pp3 ss0 qe ss2 ss3
set_option maxRecDepth 65536 in
set_option maxHeartbeats 40000000 in
theorem rm3_1B (l : Launch) (Z : State) (a0 : Array Value) (hw : ∀ d ∈ tables_1, d.before a0 Z = true) (ws : List Jvm.Cond) (ax : Addr) (qz : Int64) (qt : Int64) (ap : Addr) (ar : Addr) (at' : Addr) (kp : ClassId) (ks : ClassId) (ct : Int32) (qe : Int64) (ql : Int64) (pp0 : Int32) (pp1 : Int32) (pp2 : Int32) (pp3 : Int32) (ss0 : Int64) (ss1 : Int64) (ss2 : Int64) (ss3 : Int64) (h0 : Heap) (n0 : Nat) (Z0 : n0 ≤ h0.size) (B : own_SI Z h0 n0 ax ap ar at' kp ks (1 : Int32) ct qe ql pp0 pp1 pp2 pp3 ss0 ss1 ss2 ss3) (hs : ¬ (qe - ss0) < (65536 : Int64)) :
    MetFree l (⟨"com/example/coho/coho/eventlog/SegmentIndex", "add", "(JJ)V"⟩ : MethodName) (head1 (Jvm.Cond.code (⟨"com/example/coho/coho/eventlog/SegmentIndex", "add", "(JJ)V"⟩ : MethodName) prog_34_method_2_code 5 none :: ws) ({ frames := 0, cells := 0, slots := 0, locals := 0 } : Room)) (fun a U => a = #[(.ref ax), (.long qz), (.long qt)] ∧ Z.Warmed39 U.vm ∧ U.heap = h0) (fun _ _ _ _ _ => True) (fun _ U o U' => ∃ v L, o = .returned v ∧ own_Q3_1B Z ax qz qt ap ar at' kp ks ct qe ql pp0 pp1 pp2 pp3 ss0 ss1 ss2 ss3 h0 n0 v U'.heap L ∧ FrameEnd U o U' L ({ frames := 0, cells := 0, slots := 0, locals := 0 } : Room).cells ({ frames := 0, cells := 0, slots := 0, locals := 0 } : Room).slots) := by
  refine MetFree.of_bodySF (plainFor_of_name own_pn3) hisR ?_
  intro p e s m args below meth c s₁ Bd hml0 hP hK
  obtain ⟨rfl, hZ, hh⟩ := hP
  have hx := Bd.exec
  have hby := Bd.bytes
  have hml : c.maxLocals = 5 := hml0
  have hown : s.vm.findClass "com/example/coho/coho/eventlog/SegmentIndex" = some m.cls := findClass_of_methodNamed Bd.named
  have hnm := (name_of_methodNamed Bd.named Bd.method).1
  have X0 : Stand p l e ({ frames := 0, cells := 0, slots := 0, locals := 0 } : Room) s m #[(.ref ax), (.long qz), (.long qt)] below meth c s₁ [] 0 0 := Stand.of_body Bd
  have e0 : s₁.heap = h0 := by rw [← hh, Bd.state]; rfl
  have N0 := Fr.nil n0
  refine own_pre (A := (s₁.setTop (mkF m 0 #[.val (.ref ax), .val (.long qz), .second, .val (.long qt), .second] []))) (fun t k => castTop (own_ef3 m ax qz qt) k) ?_
  obtain ⟨Ea_, Fplaces_, Fstarts_, Ftimes_, Fentries_, Fcount_, Fend_, FlastTime_, Vp_, Vs_, Vt_, n0_, n1_, n2_, n3_, n4_, n5_, gg0_, gg1_, gg2_, gg3_⟩ := B
  refine own_pre (A := (s₁.setTop (mkF m 1 #[.val (.ref ax), .val (.long qz), .second, .val (.long qt), .second] [(.ref ax)]))) ?_ ?_
  · intro t k
    refine XS.aloadN X0.here hx rfl (hb hby d3_0) rfl rfl ?_
    exact k
  obtain ⟨T140, X140, e140, st140⟩ := getF X0 hx hZ hown (host := "") (Or.inl (own_w hw 29 rfl)) Via.refl e0 Fentries_ (g := (mkF m 1 #[.val (.ref ax), .val (.long qz), .second, .val (.long qt), .second] [(.ref ax)])) rfl rfl (hb hby d3_1)
  refine own_pre (fun t k => st140 t k) ?_
  refine own_pre (A := (T140.setTop (mkF m 8 #[.val (.ref ax), .val (.long qz), .second, .val (.long qt), .second] [(.ref ax)]))) ?_ ?_
  · intro t k
    refine XS.ifNo X140.here hx rfl (hb hby d3_4) rfl ((if0 _ _).trans (feq (by decide : ¬ ((1 : Int32) = (0 : Int32)))).1) ?_
    refine XS.aloadN X140.here hx rfl (hb hby d3_7) rfl rfl ?_
    exact k
  obtain ⟨T141, X141, e141, st141⟩ := getF X140 hx hZ hown (host := "") (Or.inl (own_w hw 22 rfl)) Via.refl e140 Fend_ (g := (mkF m 8 #[.val (.ref ax), .val (.long qz), .second, .val (.long qt), .second] [(.ref ax)])) rfl rfl (hb hby d3_8)
  refine own_pre (fun t k => st141 t k) ?_
  refine own_pre (A := (T141.setTop (mkF m 12 #[.val (.ref ax), .val (.long qz), .second, .val (.long qt), .second] [(.ref ax), (.long qe)]))) ?_ ?_
  · intro t k
    refine XS.aloadN X141.here hx rfl (hb hby d3_11) rfl rfl ?_
    exact k
  obtain ⟨T142, X142, e142, st142⟩ := getF X141 hx hZ hown (host := "") (Or.inl (own_w hw 15 rfl)) Via.refl e141 Fstarts_ (g := (mkF m 12 #[.val (.ref ax), .val (.long qz), .second, .val (.long qt), .second] [(.ref ax), (.long qe)])) rfl rfl (hb hby d3_12)
  refine own_pre (fun t k => st142 t k) ?_
  refine own_pre (A := (T142.setTop (mkF m 16 #[.val (.ref ax), .val (.long qz), .second, .val (.long qt), .second] [(.ref ax), (.ref ar), (.long qe)]))) ?_ ?_
  · intro t k
    refine XS.aloadN X142.here hx rfl (hb hby d3_15) rfl rfl ?_
    exact k
  obtain ⟨T143, X143, e143, st143⟩ := getF X142 hx hZ hown (host := "") (Or.inl (own_w hw 29 rfl)) Via.refl e142 Fentries_ (g := (mkF m 16 #[.val (.ref ax), .val (.long qz), .second, .val (.long qt), .second] [(.ref ax), (.ref ar), (.long qe)])) rfl rfl (hb hby d3_16)
  refine own_pre (fun t k => st143 t k) ?_
  refine own_pre (A := (T143.setTop (mkF m 31 #[.val (.ref ax), .val (.long qz), .second, .val (.long qt), .second] [(.ref ax)]))) ?_ ?_
  · intro t k
    refine XS.iconst X143.here hx rfl (hb hby d3_19) ?_
    refine XS.isub X143.here hx rfl (hb hby d3_20) rfl ?_
    show Steps p.tables e below (T143.setTop (mkF m 21 #[.val (.ref ax), .val (.long qz), .second, .val (.long qt), .second] [(.int ((1 : Int32) - (1 : Int32))), (.ref ar), (.long qe)])) _
    rw [show ((1 : Int32) - (1 : Int32)) = (0 : Int32) from by decide]
    show Steps p.tables e below (T143.setTop (mkF m 21 #[.val (.ref ax), .val (.long qz), .second, .val (.long qt), .second] [(.int (0 : Int32)), (.ref ar), (.long qe)])) _
    obtain ⟨cl144, Ar144, q144, S144, N144, H144, G144⟩ := id Vs_
    have hin144 : ¬ ((0 : Int32) < 0 ∨ cl144.slots.size ≤ ((0 : Int32)).toNatClampNeg) := inb_of S144 ⟨by decide, by decide⟩
    refine X143.laload hx (j := (0 : Int32)) (v := (.long ss0)) (by rw [e143]; exact Ar144.1) (State.isArrayOf_alike hZ.alike Ar144.2.1) Ar144.2.2 hin144 (H144.at hin144 rfl) (g := (mkF m 21 #[.val (.ref ax), .val (.long qz), .second, .val (.long qt), .second] [(.int (0 : Int32)), (.ref ar), (.long qe)])) rfl rfl (hb hby d3_21) _ ?_
    refine XS.lsub X143.here hx rfl (hb hby d3_22) rfl ?_
    show Steps p.tables e below (T143.setTop (mkF m 23 #[.val (.ref ax), .val (.long qz), .second, .val (.long qt), .second] [(.long (qe - ss0))])) _
    refine X143.ldc2Long hx hown (mvT hZ (own_w hw 33 rfl)) (g := (mkF m 23 #[.val (.ref ax), .val (.long qz), .second, .val (.long qt), .second] [(.long (qe - ss0))])) rfl (hb hby d3_23) _ ?_
    refine XS.lcmp X143.here hx rfl (hb hby d3_26) rfl ?_
    refine XS.ifNo X143.here hx rfl (hb hby d3_27) rfl ((if0 _ _).trans (flt (fun q => hs ((lw_lt (qe - ss0) (65536 : Int64)).mp q))).1) ?_
    refine XS.aloadN X143.here hx rfl (hb hby d3_30) rfl rfl ?_
    exact k
  obtain ⟨T145, X145, e145, st145⟩ := getF X143 hx hZ hown (host := "") (Or.inl (own_w hw 29 rfl)) Via.refl e143 Fentries_ (g := (mkF m 31 #[.val (.ref ax), .val (.long qz), .second, .val (.long qt), .second] [(.ref ax)])) rfl rfl (hb hby d3_31)
  refine own_pre (fun t k => st145 t k) ?_
  refine own_pre (A := (T145.setTop (mkF m 35 #[.val (.ref ax), .val (.long qz), .second, .val (.long qt), .second] [(.ref ax), (.int (1 : Int32))]))) ?_ ?_
  · intro t k
    refine XS.aloadN X145.here hx rfl (hb hby d3_34) rfl rfl ?_
    exact k
  obtain ⟨T146, X146, e146, st146⟩ := getF X145 hx hZ hown (host := "") (Or.inl (own_w hw 12 rfl)) Via.refl e145 Fplaces_ (g := (mkF m 35 #[.val (.ref ax), .val (.long qz), .second, .val (.long qt), .second] [(.ref ax), (.int (1 : Int32))])) rfl rfl (hb hby d3_35)
  refine own_pre (fun t k => st146 t k) ?_
  refine own_pre (A := (T146.setTop (mkF m 53 #[.val (.ref ax), .val (.long qz), .second, .val (.long qt), .second] [(.ref ax)]))) ?_ ?_
  · intro t k
    show Steps p.tables e below (T146.setTop (mkF m 38 #[.val (.ref ax), .val (.long qz), .second, .val (.long qt), .second] [(.ref ap), (.int (1 : Int32))])) _
    obtain ⟨cl147, Ar147, -, S147, N147, -, -⟩ := id Vp_
    refine X146.arraylength hx (by rw [e146]; exact Ar147.1) (State.isArrayOf_alike hZ.alike Ar147.2.1) (g := (mkF m 38 #[.val (.ref ax), .val (.long qz), .second, .val (.long qt), .second] [(.ref ap), (.int (1 : Int32))])) rfl rfl (hb hby d3_38) _ ?_
    rw [len_of S147 N147]
    refine XS.icmpYes X146.here hx rfl (pc0 := 39) (pc' := 52) rfl (hb hby d3_39) rfl (feq (by decide : ¬ ((1 : Int32) = (4 : Int32)))).2 (by decide) (by decide) ?_
    refine XS.aloadN X146.here hx rfl (hb hby d3_52) rfl rfl ?_
    exact k
  obtain ⟨T148, X148, e148, st148⟩ := getF X146 hx hZ hown (host := "") (Or.inl (own_w hw 12 rfl)) Via.refl e146 Fplaces_ (g := (mkF m 53 #[.val (.ref ax), .val (.long qz), .second, .val (.long qt), .second] [(.ref ax)])) rfl rfl (hb hby d3_53)
  refine own_pre (fun t k => st148 t k) ?_
  refine own_pre (A := (T148.setTop (mkF m 57 #[.val (.ref ax), .val (.long qz), .second, .val (.long qt), .second] [(.ref ax), (.ref ap)]))) ?_ ?_
  · intro t k
    refine XS.aloadN X148.here hx rfl (hb hby d3_56) rfl rfl ?_
    exact k
  obtain ⟨T149, X149, e149, st149⟩ := getF X148 hx hZ hown (host := "") (Or.inl (own_w hw 29 rfl)) Via.refl e148 Fentries_ (g := (mkF m 57 #[.val (.ref ax), .val (.long qz), .second, .val (.long qt), .second] [(.ref ax), (.ref ap)])) rfl rfl (hb hby d3_57)
  refine own_pre (fun t k => st149 t k) ?_
  refine own_pre (A := (T149.setTop (mkF m 61 #[.val (.ref ax), .val (.long qz), .second, .val (.long qt), .second] [(.ref ax), (.int (1 : Int32)), (.ref ap)]))) ?_ ?_
  · intro t k
    refine XS.aloadN X149.here hx rfl (hb hby d3_60) rfl rfl ?_
    exact k
  obtain ⟨T150, X150, e150, st150⟩ := getF X149 hx hZ hown (host := "") (Or.inl (own_w hw 31 rfl)) Via.refl e149 Fcount_ (g := (mkF m 61 #[.val (.ref ax), .val (.long qz), .second, .val (.long qt), .second] [(.ref ax), (.int (1 : Int32)), (.ref ap)])) rfl rfl (hb hby d3_61)
  refine own_pre (fun t k => st150 t k) ?_
  obtain ⟨cl151, Ar151, q151, S151, N151, H151, G151⟩ := Vp_
  have hin151 : ¬ ((1 : Int32) < 0 ∨ cl151.slots.size ≤ ((1 : Int32)).toNatClampNeg) := inb_of S151 ⟨by decide, by decide⟩
  obtain ⟨T151, h151, X151, e151, W151, st151⟩ := stI X150 hx hZ e150 Ar151 (j := (1 : Int32)) hin151 (g := (mkF m 64 #[.val (.ref ax), .val (.long qz), .second, .val (.long qt), .second] [(.int ct), (.int (1 : Int32)), (.ref ap)])) rfl rfl (hb hby d3_64)
  have V151 : Arv Z h151 ap kp .int (4 : Int32) [(.int pp0), (.int ct), (.int pp2), (.int pp3)] (.int (0 : Int32)) := Arv.set Ar151 q151 S151 N151 H151 G151 rfl W151 1 rfl (Nat.le_of_ble_eq_true rfl)
  have Ea__151 := Ea_.wr W151
  have Fplaces__151 := Fplaces_.other W151 (Or.inl n0_)
  have Fstarts__151 := Fstarts_.other W151 (Or.inl n0_)
  have Ftimes__151 := Ftimes_.other W151 (Or.inl n0_)
  have Fentries__151 := Fentries_.other W151 (Or.inl n0_)
  have Fcount__151 := Fcount_.other W151 (Or.inl n0_)
  have Fend__151 := Fend_.other W151 (Or.inl n0_)
  have FlastTime__151 := FlastTime_.other W151 (Or.inl n0_)
  have Vs__151 := Vs_.other W151 n3_.symm
  have Vt__151 := Vt_.other W151 n4_.symm
  have Kc151 : Keep h0 h151 [ax, ap, ar, at'] := (Keep.refl h0 [ax, ap, ar, at']).wr W151 (Or.inl (List.mem_of_getElem? (i := 1) rfl))
  have N151 := Fr.snoc X151 N0 gg1_
  refine own_pre (fun t k => st151 t k) ?_
  refine own_pre (A := (T151.setTop (mkF m 66 #[.val (.ref ax), .val (.long qz), .second, .val (.long qt), .second] [(.ref ax)]))) ?_ ?_
  · intro t k
    refine XS.aloadN X151.here hx rfl (hb hby d3_65) rfl rfl ?_
    exact k
  obtain ⟨T152, X152, e152, st152⟩ := getF X151 hx hZ hown (host := "") (Or.inl (own_w hw 15 rfl)) Via.refl e151 Fstarts__151 (g := (mkF m 66 #[.val (.ref ax), .val (.long qz), .second, .val (.long qt), .second] [(.ref ax)])) rfl rfl (hb hby d3_66)
  refine own_pre (fun t k => st152 t k) ?_
  refine own_pre (A := (T152.setTop (mkF m 70 #[.val (.ref ax), .val (.long qz), .second, .val (.long qt), .second] [(.ref ax), (.ref ar)]))) ?_ ?_
  · intro t k
    refine XS.aloadN X152.here hx rfl (hb hby d3_69) rfl rfl ?_
    exact k
  obtain ⟨T153, X153, e153, st153⟩ := getF X152 hx hZ hown (host := "") (Or.inl (own_w hw 29 rfl)) Via.refl e152 Fentries__151 (g := (mkF m 70 #[.val (.ref ax), .val (.long qz), .second, .val (.long qt), .second] [(.ref ax), (.ref ar)])) rfl rfl (hb hby d3_70)
  refine own_pre (fun t k => st153 t k) ?_
  refine own_pre (A := (T153.setTop (mkF m 74 #[.val (.ref ax), .val (.long qz), .second, .val (.long qt), .second] [(.ref ax), (.int (1 : Int32)), (.ref ar)]))) ?_ ?_
  · intro t k
    refine XS.aloadN X153.here hx rfl (hb hby d3_73) rfl rfl ?_
    exact k
  obtain ⟨T154, X154, e154, st154⟩ := getF X153 hx hZ hown (host := "") (Or.inl (own_w hw 22 rfl)) Via.refl e153 Fend__151 (g := (mkF m 74 #[.val (.ref ax), .val (.long qz), .second, .val (.long qt), .second] [(.ref ax), (.int (1 : Int32)), (.ref ar)])) rfl rfl (hb hby d3_74)
  refine own_pre (fun t k => st154 t k) ?_
  obtain ⟨cl155, Ar155, q155, S155, N155, H155, G155⟩ := Vs__151
  have hin155 : ¬ ((1 : Int32) < 0 ∨ cl155.slots.size ≤ ((1 : Int32)).toNatClampNeg) := inb_of S155 ⟨by decide, by decide⟩
  obtain ⟨T155, h155, X155, e155, W155, st155⟩ := stJ X154 hx hZ e154 Ar155 (j := (1 : Int32)) hin155 (g := (mkF m 77 #[.val (.ref ax), .val (.long qz), .second, .val (.long qt), .second] [(.long qe), (.int (1 : Int32)), (.ref ar)])) rfl rfl (hb hby d3_77)
  have V155 : Arv Z h155 ar ks .long (4 : Int32) [(.long ss0), (.long qe), (.long ss2), (.long ss3)] (.long (0 : Int64)) := Arv.set Ar155 q155 S155 N155 H155 G155 rfl W155 1 rfl (Nat.le_of_ble_eq_true rfl)
  have Ea__155 := Ea__151.wr W155
  have Fplaces__155 := Fplaces__151.other W155 (Or.inl n1_)
  have Fstarts__155 := Fstarts__151.other W155 (Or.inl n1_)
  have Ftimes__155 := Ftimes__151.other W155 (Or.inl n1_)
  have Fentries__155 := Fentries__151.other W155 (Or.inl n1_)
  have Fcount__155 := Fcount__151.other W155 (Or.inl n1_)
  have Fend__155 := Fend__151.other W155 (Or.inl n1_)
  have FlastTime__155 := FlastTime__151.other W155 (Or.inl n1_)
  have V151_155 := V151.other W155 n3_
  have Vt__155 := Vt__151.other W155 n5_.symm
  have Kc155 : Keep h0 h155 [ax, ap, ar, at'] := Kc151.wr W155 (Or.inl (List.mem_of_getElem? (i := 2) rfl))
  have N155 := Fr.snoc X155 N151 gg2_
  refine own_pre (fun t k => st155 t k) ?_
  refine own_pre (A := (T155.setTop (mkF m 79 #[.val (.ref ax), .val (.long qz), .second, .val (.long qt), .second] [(.ref ax)]))) ?_ ?_
  · intro t k
    refine XS.aloadN X155.here hx rfl (hb hby d3_78) rfl rfl ?_
    exact k
  obtain ⟨T156, X156, e156, st156⟩ := getF X155 hx hZ hown (host := "") (Or.inl (own_w hw 17 rfl)) Via.refl e155 Ftimes__155 (g := (mkF m 79 #[.val (.ref ax), .val (.long qz), .second, .val (.long qt), .second] [(.ref ax)])) rfl rfl (hb hby d3_79)
  refine own_pre (fun t k => st156 t k) ?_
  refine own_pre (A := (T156.setTop (mkF m 83 #[.val (.ref ax), .val (.long qz), .second, .val (.long qt), .second] [(.ref ax), (.ref at')]))) ?_ ?_
  · intro t k
    refine XS.aloadN X156.here hx rfl (hb hby d3_82) rfl rfl ?_
    exact k
  obtain ⟨T157, X157, e157, st157⟩ := getF X156 hx hZ hown (host := "") (Or.inl (own_w hw 29 rfl)) Via.refl e156 Fentries__155 (g := (mkF m 83 #[.val (.ref ax), .val (.long qz), .second, .val (.long qt), .second] [(.ref ax), (.ref at')])) rfl rfl (hb hby d3_83)
  refine own_pre (fun t k => st157 t k) ?_
  refine own_pre (A := (T157.setTop (mkF m 87 #[.val (.ref ax), .val (.long qz), .second, .val (.long qt), .second] [(.long qt), (.int (1 : Int32)), (.ref at')]))) ?_ ?_
  · intro t k
    refine XS.lloadN X157.here hx rfl (hb hby d3_86) rfl ?_
    exact k
  obtain ⟨cl158, Ar158, S158, N158⟩ := Vt__155
  have hin158 : ¬ ((1 : Int32) < 0 ∨ cl158.slots.size ≤ ((1 : Int32)).toNatClampNeg) := inb_of S158 ⟨by decide, by decide⟩
  obtain ⟨T158, h158, X158, e158, W158, st158⟩ := stJ X157 hx hZ e157 Ar158 (j := (1 : Int32)) hin158 (g := (mkF m 87 #[.val (.ref ax), .val (.long qz), .second, .val (.long qt), .second] [(.long qt), (.int (1 : Int32)), (.ref at')])) rfl rfl (hb hby d3_87)
  have V158 : own_Al Z h158 at' .long (4 : Int32) := ⟨_, Ar158.same W158, (sz_set _ _ _).trans S158, N158⟩
  have Ea__158 := Ea__155.wr W158
  have Fplaces__158 := Fplaces__155.other W158 (Or.inl n2_)
  have Fstarts__158 := Fstarts__155.other W158 (Or.inl n2_)
  have Ftimes__158 := Ftimes__155.other W158 (Or.inl n2_)
  have Fentries__158 := Fentries__155.other W158 (Or.inl n2_)
  have Fcount__158 := Fcount__155.other W158 (Or.inl n2_)
  have Fend__158 := Fend__155.other W158 (Or.inl n2_)
  have FlastTime__158 := FlastTime__155.other W158 (Or.inl n2_)
  have V151_158 := V151_155.other W158 n4_
  have V155_158 := V155.other W158 n5_
  have Kc158 : Keep h0 h158 [ax, ap, ar, at'] := Kc155.wr W158 (Or.inl (List.mem_of_getElem? (i := 3) rfl))
  have N158 := Fr.snoc X158 N155 gg3_
  refine own_pre (fun t k => st158 t k) ?_
  refine own_pre (A := (T158.setTop (mkF m 90 #[.val (.ref ax), .val (.long qz), .second, .val (.long qt), .second] [(.ref ax), (.ref ax)]))) ?_ ?_
  · intro t k
    refine XS.aloadN X158.here hx rfl (hb hby d3_88) rfl rfl ?_
    refine XS.dup X158.here hx rfl (hb hby d3_89) rfl rfl ?_
    exact k
  obtain ⟨T159, X159, e159, st159⟩ := getF X158 hx hZ hown (host := "") (Or.inl (own_w hw 29 rfl)) Via.refl e158 Fentries__158 (g := (mkF m 90 #[.val (.ref ax), .val (.long qz), .second, .val (.long qt), .second] [(.ref ax), (.ref ax)])) rfl rfl (hb hby d3_90)
  refine own_pre (fun t k => st159 t k) ?_
  refine own_pre (A := (T159.setTop (mkF m 95 #[.val (.ref ax), .val (.long qz), .second, .val (.long qt), .second] [(.int (2 : Int32)), (.ref ax)]))) ?_ ?_
  · intro t k
    refine XS.iconst X159.here hx rfl (hb hby d3_93) ?_
    refine XS.iadd X159.here hx rfl (hb hby d3_94) rfl ?_
    show Steps p.tables e below (T159.setTop (mkF m 95 #[.val (.ref ax), .val (.long qz), .second, .val (.long qt), .second] [(.int ((1 : Int32) + (1 : Int32))), (.ref ax)])) _
    rw [show ((1 : Int32) + (1 : Int32)) = (2 : Int32) from by decide]
    exact k
  obtain ⟨T160, h160, X160, e160, W160, st160⟩ := putF X159 hx hZ hown (host := "") (Or.inl (own_w hw 29 rfl)) Via.refl e159 Fentries__158 Ea__158 (Or.inl (own_w hw 30 rfl)) (own_w hw 4 rfl) (ty := .int) (by decide) rfl rfl (g := (mkF m 95 #[.val (.ref ax), .val (.long qz), .second, .val (.long qt), .second] [(.int (2 : Int32)), (.ref ax)])) rfl rfl (hb hby d3_95)
  have Ea__160 := Ea__158.wr W160
  have Fplaces__160 := Fplaces__158.other W160 (Or.inr (slot_ne (Or.inl (own_w hw 13 rfl)) (Or.inl (own_w hw 30 rfl)) (by decide) (t := (.array .int)) (t' := .int) (by decide) (by decide)))
  have Fstarts__160 := Fstarts__158.other W160 (Or.inr (slot_ne (Or.inl (own_w hw 16 rfl)) (Or.inl (own_w hw 30 rfl)) (by decide) (t := (.array .long)) (t' := .int) (by decide) (by decide)))
  have Ftimes__160 := Ftimes__158.other W160 (Or.inr (slot_ne (Or.inl (own_w hw 18 rfl)) (Or.inl (own_w hw 30 rfl)) (by decide) (t := (.array .long)) (t' := .int) (by decide) (by decide)))
  have Fcount__160 := Fcount__158.other W160 (Or.inr (slot_ne (Or.inl (own_w hw 32 rfl)) (Or.inl (own_w hw 30 rfl)) (by decide) (t := .int) (t' := .int) (by decide) (by decide)))
  have Fend__160 := Fend__158.other W160 (Or.inr (slot_ne (Or.inl (own_w hw 23 rfl)) (Or.inl (own_w hw 30 rfl)) (by decide) (t := .long) (t' := .int) (by decide) (by decide)))
  have FlastTime__160 := FlastTime__158.other W160 (Or.inr (slot_ne (Or.inl (own_w hw 21 rfl)) (Or.inl (own_w hw 30 rfl)) (by decide) (t := .long) (t' := .int) (by decide) (by decide)))
  have V151_160 := V151_158.other W160 n0_.symm
  have V155_160 := V155_158.other W160 n1_.symm
  have V158_160 := V158.other W160 n2_.symm
  have Kc160 : Keep h0 h160 [ax, ap, ar, at'] := Kc158.wr W160 (Or.inl (List.mem_of_getElem? (i := 0) rfl))
  have N160 := Fr.snoc X160 N158 gg0_
  have Fw160 := Fentries__158.same W160
  refine own_pre (fun t k => st160 t k) ?_
  refine own_pre (A := (T160.setTop (mkF m 100 #[.val (.ref ax), .val (.long qz), .second, .val (.long qt), .second] [(.ref ax), (.ref ax)]))) ?_ ?_
  · intro t k
    refine XS.aloadN X160.here hx rfl (hb hby d3_98) rfl rfl ?_
    refine XS.dup X160.here hx rfl (hb hby d3_99) rfl rfl ?_
    exact k
  obtain ⟨T161, X161, e161, st161⟩ := getF X160 hx hZ hown (host := "") (Or.inl (own_w hw 22 rfl)) Via.refl e160 Fend__160 (g := (mkF m 100 #[.val (.ref ax), .val (.long qz), .second, .val (.long qt), .second] [(.ref ax), (.ref ax)])) rfl rfl (hb hby d3_100)
  refine own_pre (fun t k => st161 t k) ?_
  refine own_pre (A := (T161.setTop (mkF m 105 #[.val (.ref ax), .val (.long qz), .second, .val (.long qt), .second] [(.long (qe + qz)), (.ref ax)]))) ?_ ?_
  · intro t k
    refine XS.lloadN X161.here hx rfl (hb hby d3_103) rfl ?_
    refine XS.ladd X161.here hx rfl (hb hby d3_104) rfl ?_
    exact k
  obtain ⟨T162, h162, X162, e162, W162, st162⟩ := putF X161 hx hZ hown (host := "") (Or.inl (own_w hw 22 rfl)) Via.refl e161 Fend__160 Ea__160 (Or.inl (own_w hw 23 rfl)) (own_w hw 4 rfl) (ty := .long) (by decide) rfl rfl (g := (mkF m 105 #[.val (.ref ax), .val (.long qz), .second, .val (.long qt), .second] [(.long (qe + qz)), (.ref ax)])) rfl rfl (hb hby d3_105)
  have Ea__162 := Ea__160.wr W162
  have Fplaces__162 := Fplaces__160.other W162 (Or.inr (slot_ne (Or.inl (own_w hw 13 rfl)) (Or.inl (own_w hw 23 rfl)) (by decide) (t := (.array .int)) (t' := .long) (by decide) (by decide)))
  have Fstarts__162 := Fstarts__160.other W162 (Or.inr (slot_ne (Or.inl (own_w hw 16 rfl)) (Or.inl (own_w hw 23 rfl)) (by decide) (t := (.array .long)) (t' := .long) (by decide) (by decide)))
  have Ftimes__162 := Ftimes__160.other W162 (Or.inr (slot_ne (Or.inl (own_w hw 18 rfl)) (Or.inl (own_w hw 23 rfl)) (by decide) (t := (.array .long)) (t' := .long) (by decide) (by decide)))
  have Fw160_162 := Fw160.other W162 (Or.inr (slot_ne (Or.inl (own_w hw 30 rfl)) (Or.inl (own_w hw 23 rfl)) (by decide) (t := .int) (t' := .long) (by decide) (by decide)))
  have Fcount__162 := Fcount__160.other W162 (Or.inr (slot_ne (Or.inl (own_w hw 32 rfl)) (Or.inl (own_w hw 23 rfl)) (by decide) (t := .int) (t' := .long) (by decide) (by decide)))
  have FlastTime__162 := FlastTime__160.other W162 (Or.inr (slot_ne (Or.inl (own_w hw 21 rfl)) (Or.inl (own_w hw 23 rfl)) (by decide) (t := .long) (t' := .long) (by decide) (by decide)))
  have V151_162 := V151_160.other W162 n0_.symm
  have V155_162 := V155_160.other W162 n1_.symm
  have V158_162 := V158_160.other W162 n2_.symm
  have Kc162 : Keep h0 h162 [ax, ap, ar, at'] := Kc160.wr W162 (Or.inl (List.mem_of_getElem? (i := 0) rfl))
  have N162 := Fr.snoc X162 N160 gg0_
  have Fw162 := Fend__160.same W162
  refine own_pre (fun t k => st162 t k) ?_
  refine own_pre (A := (T162.setTop (mkF m 110 #[.val (.ref ax), .val (.long qz), .second, .val (.long qt), .second] [(.long qt), (.ref ax)]))) ?_ ?_
  · intro t k
    refine XS.aloadN X162.here hx rfl (hb hby d3_108) rfl rfl ?_
    refine XS.lloadN X162.here hx rfl (hb hby d3_109) rfl ?_
    exact k
  obtain ⟨T163, h163, X163, e163, W163, st163⟩ := putF X162 hx hZ hown (host := "") (Or.inl (own_w hw 20 rfl)) Via.refl e162 FlastTime__162 Ea__162 (Or.inl (own_w hw 21 rfl)) (own_w hw 4 rfl) (ty := .long) (by decide) rfl rfl (g := (mkF m 110 #[.val (.ref ax), .val (.long qz), .second, .val (.long qt), .second] [(.long qt), (.ref ax)])) rfl rfl (hb hby d3_110)
  have Ea__163 := Ea__162.wr W163
  have Fplaces__163 := Fplaces__162.other W163 (Or.inr (slot_ne (Or.inl (own_w hw 13 rfl)) (Or.inl (own_w hw 21 rfl)) (by decide) (t := (.array .int)) (t' := .long) (by decide) (by decide)))
  have Fstarts__163 := Fstarts__162.other W163 (Or.inr (slot_ne (Or.inl (own_w hw 16 rfl)) (Or.inl (own_w hw 21 rfl)) (by decide) (t := (.array .long)) (t' := .long) (by decide) (by decide)))
  have Ftimes__163 := Ftimes__162.other W163 (Or.inr (slot_ne (Or.inl (own_w hw 18 rfl)) (Or.inl (own_w hw 21 rfl)) (by decide) (t := (.array .long)) (t' := .long) (by decide) (by decide)))
  have Fw160_163 := Fw160_162.other W163 (Or.inr (slot_ne (Or.inl (own_w hw 30 rfl)) (Or.inl (own_w hw 21 rfl)) (by decide) (t := .int) (t' := .long) (by decide) (by decide)))
  have Fcount__163 := Fcount__162.other W163 (Or.inr (slot_ne (Or.inl (own_w hw 32 rfl)) (Or.inl (own_w hw 21 rfl)) (by decide) (t := .int) (t' := .long) (by decide) (by decide)))
  have Fw162_163 := Fw162.other W163 (Or.inr (slot_ne (Or.inl (own_w hw 23 rfl)) (Or.inl (own_w hw 21 rfl)) (by decide) (t := .long) (t' := .long) (by decide) (by decide)))
  have V151_163 := V151_162.other W163 n0_.symm
  have V155_163 := V155_162.other W163 n1_.symm
  have V158_163 := V158_162.other W163 n2_.symm
  have Kc163 : Keep h0 h163 [ax, ap, ar, at'] := Kc162.wr W163 (Or.inl (List.mem_of_getElem? (i := 0) rfl))
  have N163 := Fr.snoc X163 N162 gg0_
  have Fw163 := FlastTime__162.same W163
  refine own_pre (fun t k => st163 t k) ?_
  refine own_pre (A := (T163.setTop (mkF m 115 #[.val (.ref ax), .val (.long qz), .second, .val (.long qt), .second] [(.ref ax), (.ref ax)]))) ?_ ?_
  · intro t k
    refine XS.aloadN X163.here hx rfl (hb hby d3_113) rfl rfl ?_
    refine XS.dup X163.here hx rfl (hb hby d3_114) rfl rfl ?_
    exact k
  obtain ⟨T164, X164, e164, st164⟩ := getF X163 hx hZ hown (host := "") (Or.inl (own_w hw 31 rfl)) Via.refl e163 Fcount__163 (g := (mkF m 115 #[.val (.ref ax), .val (.long qz), .second, .val (.long qt), .second] [(.ref ax), (.ref ax)])) rfl rfl (hb hby d3_115)
  refine own_pre (fun t k => st164 t k) ?_
  refine own_pre (A := (T164.setTop (mkF m 120 #[.val (.ref ax), .val (.long qz), .second, .val (.long qt), .second] [(.int (ct + (1 : Int32))), (.ref ax)]))) ?_ ?_
  · intro t k
    refine XS.iconst X164.here hx rfl (hb hby d3_118) ?_
    refine XS.iadd X164.here hx rfl (hb hby d3_119) rfl ?_
    exact k
  obtain ⟨T165, h165, X165, e165, W165, st165⟩ := putF X164 hx hZ hown (host := "") (Or.inl (own_w hw 31 rfl)) Via.refl e164 Fcount__163 Ea__163 (Or.inl (own_w hw 32 rfl)) (own_w hw 4 rfl) (ty := .int) (by decide) rfl rfl (g := (mkF m 120 #[.val (.ref ax), .val (.long qz), .second, .val (.long qt), .second] [(.int (ct + (1 : Int32))), (.ref ax)])) rfl rfl (hb hby d3_120)
  have Ea__165 := Ea__163.wr W165
  have Fplaces__165 := Fplaces__163.other W165 (Or.inr (slot_ne (Or.inl (own_w hw 13 rfl)) (Or.inl (own_w hw 32 rfl)) (by decide) (t := (.array .int)) (t' := .int) (by decide) (by decide)))
  have Fstarts__165 := Fstarts__163.other W165 (Or.inr (slot_ne (Or.inl (own_w hw 16 rfl)) (Or.inl (own_w hw 32 rfl)) (by decide) (t := (.array .long)) (t' := .int) (by decide) (by decide)))
  have Ftimes__165 := Ftimes__163.other W165 (Or.inr (slot_ne (Or.inl (own_w hw 18 rfl)) (Or.inl (own_w hw 32 rfl)) (by decide) (t := (.array .long)) (t' := .int) (by decide) (by decide)))
  have Fw160_165 := Fw160_163.other W165 (Or.inr (slot_ne (Or.inl (own_w hw 30 rfl)) (Or.inl (own_w hw 32 rfl)) (by decide) (t := .int) (t' := .int) (by decide) (by decide)))
  have Fw162_165 := Fw162_163.other W165 (Or.inr (slot_ne (Or.inl (own_w hw 23 rfl)) (Or.inl (own_w hw 32 rfl)) (by decide) (t := .long) (t' := .int) (by decide) (by decide)))
  have Fw163_165 := Fw163.other W165 (Or.inr (slot_ne (Or.inl (own_w hw 21 rfl)) (Or.inl (own_w hw 32 rfl)) (by decide) (t := .long) (t' := .int) (by decide) (by decide)))
  have V151_165 := V151_163.other W165 n0_.symm
  have V155_165 := V155_163.other W165 n1_.symm
  have V158_165 := V158_163.other W165 n2_.symm
  have Kc165 : Keep h0 h165 [ax, ap, ar, at'] := Kc163.wr W165 (Or.inl (List.mem_of_getElem? (i := 0) rfl))
  have N165 := Fr.snoc X165 N163 gg0_
  have Fw165 := Fcount__163.same W165
  refine own_pre (fun t k => st165 t k) ?_
  obtain ⟨fs, hr, hrun, hended, hW, hsame⟩ := X165.leave (hlocks := BodyLoose.notSynchronized Bd) (v := none) (fun _ => rfl)
  refine ⟨_, _, X165.returnOut hx Bd.returns (hb hby d3_123) hr, hrun, hended, _, _, rfl, ?_, ⟨_, rfl⟩, hW, hsame.mono (by decide) (by decide)⟩
  show own_Q3_1B Z ax qz qt ap ar at' kp ks ct qe ql pp0 pp1 pp2 pp3 ss0 ss1 ss2 ss3 h0 n0 _ T165.heap _
  rw [e165]
  exact ⟨rfl, N165, Kc165, ⟨Ea__165, Fplaces__165, Fstarts__165, Ftimes__165, Fw160_165, Fw165, Fw162_165, Fw163_165, V151_165, V155_165, V158_165, n0_, n1_, n2_, n3_, n4_, n5_, gg0_, gg1_, gg2_, gg3_⟩⟩
abbrev own_l153 (x0 : Int64) (x1 : Int32) (x2 : Int32) (x3 : Int32) (x4 : Int32) (x5 : Int64) (x6 : Int64) (x7 : Int64) (x8 : Addr) (x9 : Addr) : Array Slot := #[.val (.long x0), .second, .val (.int x1), .val (.int x2), .val (.int x3), .val (.int x4), .val (.int (2 : Int32)), .val (.long x5), .second, .val (.long x6), .second, .val (.long x7), .second, .val (.long (65536 : Int64)), .second, .val (.ref x8), .val (.ref x9), .val (.long x5), .second, .val (.long (x5 + x6)), .second, .val (.long ((x5 + x6) + x7)), .second, .val (.long (0 : Int64)), .second, .val (.int (1 : Int32)), .unset, .unset, .unset, .unset, .unset, .unset, .unset]
abbrev own_l154 (x0 : Int64) (x1 : Int32) (x2 : Int32) (x3 : Int32) (x4 : Int32) (x5 : Int64) (x6 : Int64) (x7 : Int64) (x8 : Addr) (x9 : Addr) : Array Slot := #[.val (.long x0), .second, .val (.int x1), .val (.int x2), .val (.int x3), .val (.int x4), .val (.int (2 : Int32)), .val (.long x5), .second, .val (.long x6), .second, .val (.long x7), .second, .val (.long (65536 : Int64)), .second, .val (.ref x8), .val (.ref x9), .val (.long x5), .second, .val (.long (x5 + x6)), .second, .val (.long ((x5 + x6) + x7)), .second, .val (.long x5), .second, .val (.int (1 : Int32)), .unset, .unset, .unset, .unset, .unset, .unset, .unset]
abbrev own_l155 (x0 : Int64) (x1 : Int32) (x2 : Int32) (x3 : Int32) (x4 : Int32) (x5 : Int64) (x6 : Int64) (x7 : Int64) (x8 : Addr) (x9 : Addr) : Array Slot := #[.val (.long x0), .second, .val (.int x1), .val (.int x2), .val (.int x3), .val (.int x4), .val (.int (2 : Int32)), .val (.long x5), .second, .val (.long x6), .second, .val (.long x7), .second, .val (.long (65536 : Int64)), .second, .val (.ref x8), .val (.ref x9), .val (.long x5), .second, .val (.long (x5 + x6)), .second, .val (.long ((x5 + x6) + x7)), .second, .val (.long x5), .second, .val (.int (1 : Int32)), .val (.int (0 : Int32)), .unset, .unset, .unset, .unset, .unset, .unset]
abbrev own_l156 (x0 : Int64) (x1 : Int32) (x2 : Int32) (x3 : Int32) (x4 : Int32) (x5 : Int64) (x6 : Int64) (x7 : Int64) (x8 : Addr) (x9 : Addr) : Array Slot := #[.val (.long x0), .second, .val (.int x1), .val (.int x2), .val (.int x3), .val (.int x4), .val (.int (2 : Int32)), .val (.long x5), .second, .val (.long x6), .second, .val (.long x7), .second, .val (.long (65536 : Int64)), .second, .val (.ref x8), .val (.ref x9), .val (.long x5), .second, .val (.long (x5 + x6)), .second, .val (.long ((x5 + x6) + x7)), .second, .val (.long x5), .second, .val (.int (1 : Int32)), .val (.int (0 : Int32)), .val (.int (0 : Int32)), .unset, .unset, .unset, .unset, .unset]
abbrev own_l157 (x0 : Int64) (x1 : Int32) (x2 : Int32) (x3 : Int32) (x4 : Int32) (x5 : Int64) (x6 : Int64) (x7 : Int64) : Array Slot := #[.val (.long x0), .second, .val (.int x1), .val (.int x2), .val (.int x3), .val (.int x4), .val (.int (3 : Int32)), .val (.long x5), .second, .val (.long x6), .second, .val (.long x7), .second, .val (.long (65536 : Int64)), .second, .unset, .unset, .unset, .unset, .unset, .unset, .unset, .unset, .unset, .unset, .unset, .unset, .unset, .unset, .unset, .unset, .unset, .unset]
abbrev own_l158 (x0 : Int64) (x1 : Int32) (x2 : Int32) (x3 : Int32) (x4 : Int32) (x5 : Int64) (x6 : Int64) (x7 : Int64) (x8 : Addr) : Array Slot := #[.val (.long x0), .second, .val (.int x1), .val (.int x2), .val (.int x3), .val (.int x4), .val (.int (3 : Int32)), .val (.long x5), .second, .val (.long x6), .second, .val (.long x7), .second, .val (.long (65536 : Int64)), .second, .val (.ref x8), .unset, .unset, .unset, .unset, .unset, .unset, .unset, .unset, .unset, .unset, .unset, .unset, .unset, .unset, .unset, .unset, .unset]
abbrev own_l159 (x0 : Int64) (x1 : Int32) (x2 : Int32) (x3 : Int32) (x4 : Int32) (x5 : Int64) (x6 : Int64) (x7 : Int64) (x8 : Addr) (x9 : Addr) : Array Slot := #[.val (.long x0), .second, .val (.int x1), .val (.int x2), .val (.int x3), .val (.int x4), .val (.int (3 : Int32)), .val (.long x5), .second, .val (.long x6), .second, .val (.long x7), .second, .val (.long (65536 : Int64)), .second, .val (.ref x8), .val (.ref x9), .unset, .unset, .unset, .unset, .unset, .unset, .unset, .unset, .unset, .unset, .unset, .unset, .unset, .unset, .unset, .unset]
abbrev own_l160 (x0 : Int64) (x1 : Int32) (x2 : Int32) (x3 : Int32) (x4 : Int32) (x5 : Int64) (x6 : Int64) (x7 : Int64) (x8 : Addr) (x9 : Addr) : Array Slot := #[.val (.long x0), .second, .val (.int x1), .val (.int x2), .val (.int x3), .val (.int x4), .val (.int (3 : Int32)), .val (.long x5), .second, .val (.long x6), .second, .val (.long x7), .second, .val (.long (65536 : Int64)), .second, .val (.ref x8), .val (.ref x9), .val (.long x5), .second, .unset, .unset, .unset, .unset, .unset, .unset, .unset, .unset, .unset, .unset, .unset, .unset, .unset, .unset]
abbrev own_l161 (x0 : Int64) (x1 : Int32) (x2 : Int32) (x3 : Int32) (x4 : Int32) (x5 : Int64) (x6 : Int64) (x7 : Int64) (x8 : Addr) (x9 : Addr) : Array Slot := #[.val (.long x0), .second, .val (.int x1), .val (.int x2), .val (.int x3), .val (.int x4), .val (.int (3 : Int32)), .val (.long x5), .second, .val (.long x6), .second, .val (.long x7), .second, .val (.long (65536 : Int64)), .second, .val (.ref x8), .val (.ref x9), .val (.long x5), .second, .val (.long (x5 + x6)), .second, .unset, .unset, .unset, .unset, .unset, .unset, .unset, .unset, .unset, .unset, .unset, .unset]
abbrev own_l162 (x0 : Int64) (x1 : Int32) (x2 : Int32) (x3 : Int32) (x4 : Int32) (x5 : Int64) (x6 : Int64) (x7 : Int64) (x8 : Addr) (x9 : Addr) : Array Slot := #[.val (.long x0), .second, .val (.int x1), .val (.int x2), .val (.int x3), .val (.int x4), .val (.int (3 : Int32)), .val (.long x5), .second, .val (.long x6), .second, .val (.long x7), .second, .val (.long (65536 : Int64)), .second, .val (.ref x8), .val (.ref x9), .val (.long x5), .second, .val (.long (x5 + x6)), .second, .val (.long ((x5 + x6) + x7)), .second, .unset, .unset, .unset, .unset, .unset, .unset, .unset, .unset, .unset, .unset]
abbrev own_l163 (x0 : Int64) (x1 : Int32) (x2 : Int32) (x3 : Int32) (x4 : Int32) (x5 : Int64) (x6 : Int64) (x7 : Int64) (x8 : Addr) (x9 : Addr) : Array Slot := #[.val (.long x0), .second, .val (.int x1), .val (.int x2), .val (.int x3), .val (.int x4), .val (.int (3 : Int32)), .val (.long x5), .second, .val (.long x6), .second, .val (.long x7), .second, .val (.long (65536 : Int64)), .second, .val (.ref x8), .val (.ref x9), .val (.long x5), .second, .val (.long (x5 + x6)), .second, .val (.long ((x5 + x6) + x7)), .second, .val (.long (0 : Int64)), .second, .unset, .unset, .unset, .unset, .unset, .unset, .unset, .unset]
abbrev own_l164 (x0 : Int64) (x1 : Int32) (x2 : Int32) (x3 : Int32) (x4 : Int32) (x5 : Int64) (x6 : Int64) (x7 : Int64) (x8 : Addr) (x9 : Addr) : Array Slot := #[.val (.long x0), .second, .val (.int x1), .val (.int x2), .val (.int x3), .val (.int x4), .val (.int (3 : Int32)), .val (.long x5), .second, .val (.long x6), .second, .val (.long x7), .second, .val (.long (65536 : Int64)), .second, .val (.ref x8), .val (.ref x9), .val (.long x5), .second, .val (.long (x5 + x6)), .second, .val (.long ((x5 + x6) + x7)), .second, .val (.long (0 : Int64)), .second, .val (.int (0 : Int32)), .unset, .unset, .unset, .unset, .unset, .unset, .unset]
abbrev own_l165 (x0 : Int64) (x1 : Int32) (x2 : Int32) (x3 : Int32) (x4 : Int32) (x5 : Int64) (x6 : Int64) (x7 : Int64) (x8 : Addr) (x9 : Addr) : Array Slot := #[.val (.long x0), .second, .val (.int x1), .val (.int x2), .val (.int x3), .val (.int x4), .val (.int (3 : Int32)), .val (.long x5), .second, .val (.long x6), .second, .val (.long x7), .second, .val (.long (65536 : Int64)), .second, .val (.ref x8), .val (.ref x9), .val (.long x5), .second, .val (.long (x5 + x6)), .second, .val (.long ((x5 + x6) + x7)), .second, .val (.long (0 : Int64)), .second, .val (.int (0 : Int32)), .val (.int (0 : Int32)), .unset, .unset, .unset, .unset, .unset, .unset]
abbrev own_l166 (x0 : Int64) (x1 : Int32) (x2 : Int32) (x3 : Int32) (x4 : Int32) (x5 : Int64) (x6 : Int64) (x7 : Int64) (x8 : Addr) (x9 : Addr) : Array Slot := #[.val (.long x0), .second, .val (.int x1), .val (.int x2), .val (.int x3), .val (.int x4), .val (.int (3 : Int32)), .val (.long x5), .second, .val (.long x6), .second, .val (.long x7), .second, .val (.long (65536 : Int64)), .second, .val (.ref x8), .val (.ref x9), .val (.long x5), .second, .val (.long (x5 + x6)), .second, .val (.long ((x5 + x6) + x7)), .second, .val (.long (0 : Int64)), .second, .val (.int (0 : Int32)), .val (.int (0 : Int32)), .val (.int (0 : Int32)), .unset, .unset, .unset, .unset, .unset]
abbrev own_l167 (x0 : Int64) (x1 : Int32) (x2 : Int32) (x3 : Int32) (x4 : Int32) (x5 : Int64) (x6 : Int64) (x7 : Int64) (x8 : Addr) (x9 : Addr) : Array Slot := #[.val (.long x0), .second, .val (.int x1), .val (.int x2), .val (.int x3), .val (.int x4), .val (.int (3 : Int32)), .val (.long x5), .second, .val (.long x6), .second, .val (.long x7), .second, .val (.long (65536 : Int64)), .second, .val (.ref x8), .val (.ref x9), .val (.long x5), .second, .val (.long (x5 + x6)), .second, .val (.long ((x5 + x6) + x7)), .second, .val (.long (0 : Int64)), .second, .val (.int (0 : Int32)), .val (.int (1 : Int32)), .unset, .unset, .unset, .unset, .unset, .unset]
abbrev own_l168 (x0 : Int64) (x1 : Int32) (x2 : Int32) (x3 : Int32) (x4 : Int32) (x5 : Int64) (x6 : Int64) (x7 : Int64) (x8 : Addr) (x9 : Addr) : Array Slot := #[.val (.long x0), .second, .val (.int x1), .val (.int x2), .val (.int x3), .val (.int x4), .val (.int (3 : Int32)), .val (.long x5), .second, .val (.long x6), .second, .val (.long x7), .second, .val (.long (65536 : Int64)), .second, .val (.ref x8), .val (.ref x9), .val (.long x5), .second, .val (.long (x5 + x6)), .second, .val (.long ((x5 + x6) + x7)), .second, .val (.long (x5 + x6)), .second, .val (.int (0 : Int32)), .val (.int (1 : Int32)), .unset, .unset, .unset, .unset, .unset, .unset]
abbrev own_l169 (x0 : Int64) (x1 : Int32) (x2 : Int32) (x3 : Int32) (x4 : Int32) (x5 : Int64) (x6 : Int64) (x7 : Int64) (x8 : Addr) (x9 : Addr) : Array Slot := #[.val (.long x0), .second, .val (.int x1), .val (.int x2), .val (.int x3), .val (.int x4), .val (.int (3 : Int32)), .val (.long x5), .second, .val (.long x6), .second, .val (.long x7), .second, .val (.long (65536 : Int64)), .second, .val (.ref x8), .val (.ref x9), .val (.long x5), .second, .val (.long (x5 + x6)), .second, .val (.long ((x5 + x6) + x7)), .second, .val (.long (x5 + x6)), .second, .val (.int (0 : Int32)), .val (.int (1 : Int32)), .val (.int (0 : Int32)), .unset, .unset, .unset, .unset, .unset]
def own_Q3_2A (Z : State) (ax : Addr) (qz : Int64) (qt : Int64) (ap : Addr) (ar : Addr) (at' : Addr) (kp : ClassId) (ks : ClassId) (ct : Int32) (qe : Int64) (ql : Int64) (pp0 : Int32) (pp1 : Int32) (pp2 : Int32) (pp3 : Int32) (ss0 : Int64) (ss1 : Int64) (ss2 : Int64) (ss3 : Int64) (h0 : Heap) (n0 : Nat) (v : Option Value) (h : Heap) (L : List Loc) : Prop := v = none ∧ Fr n0 L ∧ Keep h0 h [ax, ap, ar, at'] ∧ own_SI Z h n0 ax ap ar at' kp ks (2 : Int32) (ct + (1 : Int32)) (qe + qz) qt pp0 pp1 pp2 pp3 ss0 ss1 ss2 ss3
set_option maxRecDepth 65536 in
set_option maxHeartbeats 40000000 in
theorem rm3_2A (l : Launch) (Z : State) (a0 : Array Value) (hw : ∀ d ∈ tables_1, d.before a0 Z = true) (ws : List Jvm.Cond) (ax : Addr) (qz : Int64) (qt : Int64) (ap : Addr) (ar : Addr) (at' : Addr) (kp : ClassId) (ks : ClassId) (ct : Int32) (qe : Int64) (ql : Int64) (pp0 : Int32) (pp1 : Int32) (pp2 : Int32) (pp3 : Int32) (ss0 : Int64) (ss1 : Int64) (ss2 : Int64) (ss3 : Int64) (h0 : Heap) (n0 : Nat) (Z0 : n0 ≤ h0.size) (B : own_SI Z h0 n0 ax ap ar at' kp ks (2 : Int32) ct qe ql pp0 pp1 pp2 pp3 ss0 ss1 ss2 ss3) (hs : (qe - ss1) < (65536 : Int64)) :
    MetFree l (⟨"com/example/coho/coho/eventlog/SegmentIndex", "add", "(JJ)V"⟩ : MethodName) (head1 (Jvm.Cond.code (⟨"com/example/coho/coho/eventlog/SegmentIndex", "add", "(JJ)V"⟩ : MethodName) prog_34_method_2_code 5 none :: ws) ({ frames := 0, cells := 0, slots := 0, locals := 0 } : Room)) (fun a U => a = #[(.ref ax), (.long qz), (.long qt)] ∧ Z.Warmed39 U.vm ∧ U.heap = h0) (fun _ _ _ _ _ => True) (fun _ U o U' => ∃ v L, o = .returned v ∧ own_Q3_2A Z ax qz qt ap ar at' kp ks ct qe ql pp0 pp1 pp2 pp3 ss0 ss1 ss2 ss3 h0 n0 v U'.heap L ∧ FrameEnd U o U' L ({ frames := 0, cells := 0, slots := 0, locals := 0 } : Room).cells ({ frames := 0, cells := 0, slots := 0, locals := 0 } : Room).slots) := by
  refine MetFree.of_bodySF (plainFor_of_name own_pn3) hisR ?_
  intro p e s m args below meth c s₁ Bd hml0 hP hK
  obtain ⟨rfl, hZ, hh⟩ := hP
  have hx := Bd.exec
  have hby := Bd.bytes
  have hml : c.maxLocals = 5 := hml0
  have hown : s.vm.findClass "com/example/coho/coho/eventlog/SegmentIndex" = some m.cls := findClass_of_methodNamed Bd.named
  have hnm := (name_of_methodNamed Bd.named Bd.method).1
  have X0 : Stand p l e ({ frames := 0, cells := 0, slots := 0, locals := 0 } : Room) s m #[(.ref ax), (.long qz), (.long qt)] below meth c s₁ [] 0 0 := Stand.of_body Bd
  have e0 : s₁.heap = h0 := by rw [← hh, Bd.state]; rfl
  have N0 := Fr.nil n0
  refine own_pre (A := (s₁.setTop (mkF m 0 #[.val (.ref ax), .val (.long qz), .second, .val (.long qt), .second] []))) (fun t k => castTop (own_ef3 m ax qz qt) k) ?_
  obtain ⟨Ea_, Fplaces_, Fstarts_, Ftimes_, Fentries_, Fcount_, Fend_, FlastTime_, Vp_, Vs_, Vt_, n0_, n1_, n2_, n3_, n4_, n5_, gg0_, gg1_, gg2_, gg3_⟩ := B
  refine own_pre (A := (s₁.setTop (mkF m 1 #[.val (.ref ax), .val (.long qz), .second, .val (.long qt), .second] [(.ref ax)]))) ?_ ?_
  · intro t k
    refine XS.aloadN X0.here hx rfl (hb hby d3_0) rfl rfl ?_
    exact k
  obtain ⟨T181, X181, e181, st181⟩ := getF X0 hx hZ hown (host := "") (Or.inl (own_w hw 29 rfl)) Via.refl e0 Fentries_ (g := (mkF m 1 #[.val (.ref ax), .val (.long qz), .second, .val (.long qt), .second] [(.ref ax)])) rfl rfl (hb hby d3_1)
  refine own_pre (fun t k => st181 t k) ?_
  refine own_pre (A := (T181.setTop (mkF m 8 #[.val (.ref ax), .val (.long qz), .second, .val (.long qt), .second] [(.ref ax)]))) ?_ ?_
  · intro t k
    refine XS.ifNo X181.here hx rfl (hb hby d3_4) rfl ((if0 _ _).trans (feq (by decide : ¬ ((2 : Int32) = (0 : Int32)))).1) ?_
    refine XS.aloadN X181.here hx rfl (hb hby d3_7) rfl rfl ?_
    exact k
  obtain ⟨T182, X182, e182, st182⟩ := getF X181 hx hZ hown (host := "") (Or.inl (own_w hw 22 rfl)) Via.refl e181 Fend_ (g := (mkF m 8 #[.val (.ref ax), .val (.long qz), .second, .val (.long qt), .second] [(.ref ax)])) rfl rfl (hb hby d3_8)
  refine own_pre (fun t k => st182 t k) ?_
  refine own_pre (A := (T182.setTop (mkF m 12 #[.val (.ref ax), .val (.long qz), .second, .val (.long qt), .second] [(.ref ax), (.long qe)]))) ?_ ?_
  · intro t k
    refine XS.aloadN X182.here hx rfl (hb hby d3_11) rfl rfl ?_
    exact k
  obtain ⟨T183, X183, e183, st183⟩ := getF X182 hx hZ hown (host := "") (Or.inl (own_w hw 15 rfl)) Via.refl e182 Fstarts_ (g := (mkF m 12 #[.val (.ref ax), .val (.long qz), .second, .val (.long qt), .second] [(.ref ax), (.long qe)])) rfl rfl (hb hby d3_12)
  refine own_pre (fun t k => st183 t k) ?_
  refine own_pre (A := (T183.setTop (mkF m 16 #[.val (.ref ax), .val (.long qz), .second, .val (.long qt), .second] [(.ref ax), (.ref ar), (.long qe)]))) ?_ ?_
  · intro t k
    refine XS.aloadN X183.here hx rfl (hb hby d3_15) rfl rfl ?_
    exact k
  obtain ⟨T184, X184, e184, st184⟩ := getF X183 hx hZ hown (host := "") (Or.inl (own_w hw 29 rfl)) Via.refl e183 Fentries_ (g := (mkF m 16 #[.val (.ref ax), .val (.long qz), .second, .val (.long qt), .second] [(.ref ax), (.ref ar), (.long qe)])) rfl rfl (hb hby d3_16)
  refine own_pre (fun t k => st184 t k) ?_
  refine own_pre (A := (T184.setTop (mkF m 100 #[.val (.ref ax), .val (.long qz), .second, .val (.long qt), .second] [(.ref ax), (.ref ax)]))) ?_ ?_
  · intro t k
    refine XS.iconst X184.here hx rfl (hb hby d3_19) ?_
    refine XS.isub X184.here hx rfl (hb hby d3_20) rfl ?_
    show Steps p.tables e below (T184.setTop (mkF m 21 #[.val (.ref ax), .val (.long qz), .second, .val (.long qt), .second] [(.int ((2 : Int32) - (1 : Int32))), (.ref ar), (.long qe)])) _
    rw [show ((2 : Int32) - (1 : Int32)) = (1 : Int32) from by decide]
    show Steps p.tables e below (T184.setTop (mkF m 21 #[.val (.ref ax), .val (.long qz), .second, .val (.long qt), .second] [(.int (1 : Int32)), (.ref ar), (.long qe)])) _
    obtain ⟨cl185, Ar185, q185, S185, N185, H185, G185⟩ := id Vs_
    have hin185 : ¬ ((1 : Int32) < 0 ∨ cl185.slots.size ≤ ((1 : Int32)).toNatClampNeg) := inb_of S185 ⟨by decide, by decide⟩
    refine X184.laload hx (j := (1 : Int32)) (v := (.long ss1)) (by rw [e184]; exact Ar185.1) (State.isArrayOf_alike hZ.alike Ar185.2.1) Ar185.2.2 hin185 (H185.at hin185 rfl) (g := (mkF m 21 #[.val (.ref ax), .val (.long qz), .second, .val (.long qt), .second] [(.int (1 : Int32)), (.ref ar), (.long qe)])) rfl rfl (hb hby d3_21) _ ?_
    refine XS.lsub X184.here hx rfl (hb hby d3_22) rfl ?_
    show Steps p.tables e below (T184.setTop (mkF m 23 #[.val (.ref ax), .val (.long qz), .second, .val (.long qt), .second] [(.long (qe - ss1))])) _
    refine X184.ldc2Long hx hown (mvT hZ (own_w hw 33 rfl)) (g := (mkF m 23 #[.val (.ref ax), .val (.long qz), .second, .val (.long qt), .second] [(.long (qe - ss1))])) rfl (hb hby d3_23) _ ?_
    refine XS.lcmp X184.here hx rfl (hb hby d3_26) rfl ?_
    refine XS.ifYes X184.here hx rfl (pc0 := 27) (pc' := 98) rfl (hb hby d3_27) rfl ((if0 _ _).trans (tlt ((lw_lt (qe - ss1) (65536 : Int64)).mpr hs)).1) (by decide) (by decide) ?_
    refine XS.aloadN X184.here hx rfl (hb hby d3_98) rfl rfl ?_
    refine XS.dup X184.here hx rfl (hb hby d3_99) rfl rfl ?_
    exact k
  obtain ⟨T186, X186, e186, st186⟩ := getF X184 hx hZ hown (host := "") (Or.inl (own_w hw 22 rfl)) Via.refl e184 Fend_ (g := (mkF m 100 #[.val (.ref ax), .val (.long qz), .second, .val (.long qt), .second] [(.ref ax), (.ref ax)])) rfl rfl (hb hby d3_100)
  refine own_pre (fun t k => st186 t k) ?_
  refine own_pre (A := (T186.setTop (mkF m 105 #[.val (.ref ax), .val (.long qz), .second, .val (.long qt), .second] [(.long (qe + qz)), (.ref ax)]))) ?_ ?_
  · intro t k
    refine XS.lloadN X186.here hx rfl (hb hby d3_103) rfl ?_
    refine XS.ladd X186.here hx rfl (hb hby d3_104) rfl ?_
    exact k
  obtain ⟨T187, h187, X187, e187, W187, st187⟩ := putF X186 hx hZ hown (host := "") (Or.inl (own_w hw 22 rfl)) Via.refl e186 Fend_ Ea_ (Or.inl (own_w hw 23 rfl)) (own_w hw 4 rfl) (ty := .long) (by decide) rfl rfl (g := (mkF m 105 #[.val (.ref ax), .val (.long qz), .second, .val (.long qt), .second] [(.long (qe + qz)), (.ref ax)])) rfl rfl (hb hby d3_105)
  have Ea__187 := Ea_.wr W187
  have Fplaces__187 := Fplaces_.other W187 (Or.inr (slot_ne (Or.inl (own_w hw 13 rfl)) (Or.inl (own_w hw 23 rfl)) (by decide) (t := (.array .int)) (t' := .long) (by decide) (by decide)))
  have Fstarts__187 := Fstarts_.other W187 (Or.inr (slot_ne (Or.inl (own_w hw 16 rfl)) (Or.inl (own_w hw 23 rfl)) (by decide) (t := (.array .long)) (t' := .long) (by decide) (by decide)))
  have Ftimes__187 := Ftimes_.other W187 (Or.inr (slot_ne (Or.inl (own_w hw 18 rfl)) (Or.inl (own_w hw 23 rfl)) (by decide) (t := (.array .long)) (t' := .long) (by decide) (by decide)))
  have Fentries__187 := Fentries_.other W187 (Or.inr (slot_ne (Or.inl (own_w hw 30 rfl)) (Or.inl (own_w hw 23 rfl)) (by decide) (t := .int) (t' := .long) (by decide) (by decide)))
  have Fcount__187 := Fcount_.other W187 (Or.inr (slot_ne (Or.inl (own_w hw 32 rfl)) (Or.inl (own_w hw 23 rfl)) (by decide) (t := .int) (t' := .long) (by decide) (by decide)))
  have FlastTime__187 := FlastTime_.other W187 (Or.inr (slot_ne (Or.inl (own_w hw 21 rfl)) (Or.inl (own_w hw 23 rfl)) (by decide) (t := .long) (t' := .long) (by decide) (by decide)))
  have Vp__187 := Vp_.other W187 n0_.symm
  have Vs__187 := Vs_.other W187 n1_.symm
  have Vt__187 := Vt_.other W187 n2_.symm
  have Kc187 : Keep h0 h187 [ax, ap, ar, at'] := (Keep.refl h0 [ax, ap, ar, at']).wr W187 (Or.inl (List.mem_of_getElem? (i := 0) rfl))
  have N187 := Fr.snoc X187 N0 gg0_
  have Fw187 := Fend_.same W187
  refine own_pre (fun t k => st187 t k) ?_
  refine own_pre (A := (T187.setTop (mkF m 110 #[.val (.ref ax), .val (.long qz), .second, .val (.long qt), .second] [(.long qt), (.ref ax)]))) ?_ ?_
  · intro t k
    refine XS.aloadN X187.here hx rfl (hb hby d3_108) rfl rfl ?_
    refine XS.lloadN X187.here hx rfl (hb hby d3_109) rfl ?_
    exact k
  obtain ⟨T188, h188, X188, e188, W188, st188⟩ := putF X187 hx hZ hown (host := "") (Or.inl (own_w hw 20 rfl)) Via.refl e187 FlastTime__187 Ea__187 (Or.inl (own_w hw 21 rfl)) (own_w hw 4 rfl) (ty := .long) (by decide) rfl rfl (g := (mkF m 110 #[.val (.ref ax), .val (.long qz), .second, .val (.long qt), .second] [(.long qt), (.ref ax)])) rfl rfl (hb hby d3_110)
  have Ea__188 := Ea__187.wr W188
  have Fplaces__188 := Fplaces__187.other W188 (Or.inr (slot_ne (Or.inl (own_w hw 13 rfl)) (Or.inl (own_w hw 21 rfl)) (by decide) (t := (.array .int)) (t' := .long) (by decide) (by decide)))
  have Fstarts__188 := Fstarts__187.other W188 (Or.inr (slot_ne (Or.inl (own_w hw 16 rfl)) (Or.inl (own_w hw 21 rfl)) (by decide) (t := (.array .long)) (t' := .long) (by decide) (by decide)))
  have Ftimes__188 := Ftimes__187.other W188 (Or.inr (slot_ne (Or.inl (own_w hw 18 rfl)) (Or.inl (own_w hw 21 rfl)) (by decide) (t := (.array .long)) (t' := .long) (by decide) (by decide)))
  have Fentries__188 := Fentries__187.other W188 (Or.inr (slot_ne (Or.inl (own_w hw 30 rfl)) (Or.inl (own_w hw 21 rfl)) (by decide) (t := .int) (t' := .long) (by decide) (by decide)))
  have Fcount__188 := Fcount__187.other W188 (Or.inr (slot_ne (Or.inl (own_w hw 32 rfl)) (Or.inl (own_w hw 21 rfl)) (by decide) (t := .int) (t' := .long) (by decide) (by decide)))
  have Fw187_188 := Fw187.other W188 (Or.inr (slot_ne (Or.inl (own_w hw 23 rfl)) (Or.inl (own_w hw 21 rfl)) (by decide) (t := .long) (t' := .long) (by decide) (by decide)))
  have Vp__188 := Vp__187.other W188 n0_.symm
  have Vs__188 := Vs__187.other W188 n1_.symm
  have Vt__188 := Vt__187.other W188 n2_.symm
  have Kc188 : Keep h0 h188 [ax, ap, ar, at'] := Kc187.wr W188 (Or.inl (List.mem_of_getElem? (i := 0) rfl))
  have N188 := Fr.snoc X188 N187 gg0_
  have Fw188 := FlastTime__187.same W188
  refine own_pre (fun t k => st188 t k) ?_
  refine own_pre (A := (T188.setTop (mkF m 115 #[.val (.ref ax), .val (.long qz), .second, .val (.long qt), .second] [(.ref ax), (.ref ax)]))) ?_ ?_
  · intro t k
    refine XS.aloadN X188.here hx rfl (hb hby d3_113) rfl rfl ?_
    refine XS.dup X188.here hx rfl (hb hby d3_114) rfl rfl ?_
    exact k
  obtain ⟨T189, X189, e189, st189⟩ := getF X188 hx hZ hown (host := "") (Or.inl (own_w hw 31 rfl)) Via.refl e188 Fcount__188 (g := (mkF m 115 #[.val (.ref ax), .val (.long qz), .second, .val (.long qt), .second] [(.ref ax), (.ref ax)])) rfl rfl (hb hby d3_115)
  refine own_pre (fun t k => st189 t k) ?_
  refine own_pre (A := (T189.setTop (mkF m 120 #[.val (.ref ax), .val (.long qz), .second, .val (.long qt), .second] [(.int (ct + (1 : Int32))), (.ref ax)]))) ?_ ?_
  · intro t k
    refine XS.iconst X189.here hx rfl (hb hby d3_118) ?_
    refine XS.iadd X189.here hx rfl (hb hby d3_119) rfl ?_
    exact k
  obtain ⟨T190, h190, X190, e190, W190, st190⟩ := putF X189 hx hZ hown (host := "") (Or.inl (own_w hw 31 rfl)) Via.refl e189 Fcount__188 Ea__188 (Or.inl (own_w hw 32 rfl)) (own_w hw 4 rfl) (ty := .int) (by decide) rfl rfl (g := (mkF m 120 #[.val (.ref ax), .val (.long qz), .second, .val (.long qt), .second] [(.int (ct + (1 : Int32))), (.ref ax)])) rfl rfl (hb hby d3_120)
  have Ea__190 := Ea__188.wr W190
  have Fplaces__190 := Fplaces__188.other W190 (Or.inr (slot_ne (Or.inl (own_w hw 13 rfl)) (Or.inl (own_w hw 32 rfl)) (by decide) (t := (.array .int)) (t' := .int) (by decide) (by decide)))
  have Fstarts__190 := Fstarts__188.other W190 (Or.inr (slot_ne (Or.inl (own_w hw 16 rfl)) (Or.inl (own_w hw 32 rfl)) (by decide) (t := (.array .long)) (t' := .int) (by decide) (by decide)))
  have Ftimes__190 := Ftimes__188.other W190 (Or.inr (slot_ne (Or.inl (own_w hw 18 rfl)) (Or.inl (own_w hw 32 rfl)) (by decide) (t := (.array .long)) (t' := .int) (by decide) (by decide)))
  have Fentries__190 := Fentries__188.other W190 (Or.inr (slot_ne (Or.inl (own_w hw 30 rfl)) (Or.inl (own_w hw 32 rfl)) (by decide) (t := .int) (t' := .int) (by decide) (by decide)))
  have Fw187_190 := Fw187_188.other W190 (Or.inr (slot_ne (Or.inl (own_w hw 23 rfl)) (Or.inl (own_w hw 32 rfl)) (by decide) (t := .long) (t' := .int) (by decide) (by decide)))
  have Fw188_190 := Fw188.other W190 (Or.inr (slot_ne (Or.inl (own_w hw 21 rfl)) (Or.inl (own_w hw 32 rfl)) (by decide) (t := .long) (t' := .int) (by decide) (by decide)))
  have Vp__190 := Vp__188.other W190 n0_.symm
  have Vs__190 := Vs__188.other W190 n1_.symm
  have Vt__190 := Vt__188.other W190 n2_.symm
  have Kc190 : Keep h0 h190 [ax, ap, ar, at'] := Kc188.wr W190 (Or.inl (List.mem_of_getElem? (i := 0) rfl))
  have N190 := Fr.snoc X190 N188 gg0_
  have Fw190 := Fcount__188.same W190
  refine own_pre (fun t k => st190 t k) ?_
  obtain ⟨fs, hr, hrun, hended, hW, hsame⟩ := X190.leave (hlocks := BodyLoose.notSynchronized Bd) (v := none) (fun _ => rfl)
  refine ⟨_, _, X190.returnOut hx Bd.returns (hb hby d3_123) hr, hrun, hended, _, _, rfl, ?_, ⟨_, rfl⟩, hW, hsame.mono (by decide) (by decide)⟩
  show own_Q3_2A Z ax qz qt ap ar at' kp ks ct qe ql pp0 pp1 pp2 pp3 ss0 ss1 ss2 ss3 h0 n0 _ T190.heap _
  rw [e190]
  exact ⟨rfl, N190, Kc190, ⟨Ea__190, Fplaces__190, Fstarts__190, Ftimes__190, Fentries__190, Fw190, Fw187_190, Fw188_190, Vp__190, Vs__190, Vt__190, n0_, n1_, n2_, n3_, n4_, n5_, gg0_, gg1_, gg2_, gg3_⟩⟩
abbrev own_l170 (x0 : Int64) (x1 : Int32) (x2 : Int32) (x3 : Int32) (x4 : Int32) (x5 : Int64) (x6 : Int64) (x7 : Int64) (x8 : Addr) (x9 : Addr) : Array Slot := #[.val (.long x0), .second, .val (.int x1), .val (.int x2), .val (.int x3), .val (.int x4), .val (.int (3 : Int32)), .val (.long x5), .second, .val (.long x6), .second, .val (.long x7), .second, .val (.long (65536 : Int64)), .second, .val (.ref x8), .val (.ref x9), .val (.long x5), .second, .val (.long (x5 + x6)), .second, .val (.long ((x5 + x6) + x7)), .second, .val (.long (0 : Int64)), .second, .val (.int (1 : Int32)), .unset, .unset, .unset, .unset, .unset, .unset, .unset]
abbrev own_l171 (x0 : Int64) (x1 : Int32) (x2 : Int32) (x3 : Int32) (x4 : Int32) (x5 : Int64) (x6 : Int64) (x7 : Int64) (x8 : Addr) (x9 : Addr) : Array Slot := #[.val (.long x0), .second, .val (.int x1), .val (.int x2), .val (.int x3), .val (.int x4), .val (.int (3 : Int32)), .val (.long x5), .second, .val (.long x6), .second, .val (.long x7), .second, .val (.long (65536 : Int64)), .second, .val (.ref x8), .val (.ref x9), .val (.long x5), .second, .val (.long (x5 + x6)), .second, .val (.long ((x5 + x6) + x7)), .second, .val (.long x5), .second, .val (.int (1 : Int32)), .unset, .unset, .unset, .unset, .unset, .unset, .unset]
abbrev own_l172 (x0 : Int64) (x1 : Int32) (x2 : Int32) (x3 : Int32) (x4 : Int32) (x5 : Int64) (x6 : Int64) (x7 : Int64) (x8 : Addr) (x9 : Addr) : Array Slot := #[.val (.long x0), .second, .val (.int x1), .val (.int x2), .val (.int x3), .val (.int x4), .val (.int (3 : Int32)), .val (.long x5), .second, .val (.long x6), .second, .val (.long x7), .second, .val (.long (65536 : Int64)), .second, .val (.ref x8), .val (.ref x9), .val (.long x5), .second, .val (.long (x5 + x6)), .second, .val (.long ((x5 + x6) + x7)), .second, .val (.long x5), .second, .val (.int (1 : Int32)), .val (.int (0 : Int32)), .unset, .unset, .unset, .unset, .unset, .unset]
abbrev own_l173 (x0 : Int64) (x1 : Int32) (x2 : Int32) (x3 : Int32) (x4 : Int32) (x5 : Int64) (x6 : Int64) (x7 : Int64) (x8 : Addr) (x9 : Addr) : Array Slot := #[.val (.long x0), .second, .val (.int x1), .val (.int x2), .val (.int x3), .val (.int x4), .val (.int (3 : Int32)), .val (.long x5), .second, .val (.long x6), .second, .val (.long x7), .second, .val (.long (65536 : Int64)), .second, .val (.ref x8), .val (.ref x9), .val (.long x5), .second, .val (.long (x5 + x6)), .second, .val (.long ((x5 + x6) + x7)), .second, .val (.long x5), .second, .val (.int (1 : Int32)), .val (.int (0 : Int32)), .val (.int (0 : Int32)), .unset, .unset, .unset, .unset, .unset]
def own_Q3_2B (Z : State) (ax : Addr) (qz : Int64) (qt : Int64) (ap : Addr) (ar : Addr) (at' : Addr) (kp : ClassId) (ks : ClassId) (ct : Int32) (qe : Int64) (ql : Int64) (pp0 : Int32) (pp1 : Int32) (pp2 : Int32) (pp3 : Int32) (ss0 : Int64) (ss1 : Int64) (ss2 : Int64) (ss3 : Int64) (h0 : Heap) (n0 : Nat) (v : Option Value) (h : Heap) (L : List Loc) : Prop := v = none ∧ Fr n0 L ∧ Keep h0 h [ax, ap, ar, at'] ∧ own_SI Z h n0 ax ap ar at' kp ks (3 : Int32) (ct + (1 : Int32)) (qe + qz) qt pp0 pp1 ct pp3 ss0 ss1 qe ss3
set_option maxRecDepth 65536 in
set_option maxHeartbeats 40000000 in
theorem rm3_2B (l : Launch) (Z : State) (a0 : Array Value) (hw : ∀ d ∈ tables_1, d.before a0 Z = true) (ws : List Jvm.Cond) (ax : Addr) (qz : Int64) (qt : Int64) (ap : Addr) (ar : Addr) (at' : Addr) (kp : ClassId) (ks : ClassId) (ct : Int32) (qe : Int64) (ql : Int64) (pp0 : Int32) (pp1 : Int32) (pp2 : Int32) (pp3 : Int32) (ss0 : Int64) (ss1 : Int64) (ss2 : Int64) (ss3 : Int64) (h0 : Heap) (n0 : Nat) (Z0 : n0 ≤ h0.size) (B : own_SI Z h0 n0 ax ap ar at' kp ks (2 : Int32) ct qe ql pp0 pp1 pp2 pp3 ss0 ss1 ss2 ss3) (hs : ¬ (qe - ss1) < (65536 : Int64)) :
    MetFree l (⟨"com/example/coho/coho/eventlog/SegmentIndex", "add", "(JJ)V"⟩ : MethodName) (head1 (Jvm.Cond.code (⟨"com/example/coho/coho/eventlog/SegmentIndex", "add", "(JJ)V"⟩ : MethodName) prog_34_method_2_code 5 none :: ws) ({ frames := 0, cells := 0, slots := 0, locals := 0 } : Room)) (fun a U => a = #[(.ref ax), (.long qz), (.long qt)] ∧ Z.Warmed39 U.vm ∧ U.heap = h0) (fun _ _ _ _ _ => True) (fun _ U o U' => ∃ v L, o = .returned v ∧ own_Q3_2B Z ax qz qt ap ar at' kp ks ct qe ql pp0 pp1 pp2 pp3 ss0 ss1 ss2 ss3 h0 n0 v U'.heap L ∧ FrameEnd U o U' L ({ frames := 0, cells := 0, slots := 0, locals := 0 } : Room).cells ({ frames := 0, cells := 0, slots := 0, locals := 0 } : Room).slots) := by
  refine MetFree.of_bodySF (plainFor_of_name own_pn3) hisR ?_
  intro p e s m args below meth c s₁ Bd hml0 hP hK
  obtain ⟨rfl, hZ, hh⟩ := hP
  have hx := Bd.exec
  have hby := Bd.bytes
  have hml : c.maxLocals = 5 := hml0
  have hown : s.vm.findClass "com/example/coho/coho/eventlog/SegmentIndex" = some m.cls := findClass_of_methodNamed Bd.named
  have hnm := (name_of_methodNamed Bd.named Bd.method).1
  have X0 : Stand p l e ({ frames := 0, cells := 0, slots := 0, locals := 0 } : Room) s m #[(.ref ax), (.long qz), (.long qt)] below meth c s₁ [] 0 0 := Stand.of_body Bd
  have e0 : s₁.heap = h0 := by rw [← hh, Bd.state]; rfl
  have N0 := Fr.nil n0
  refine own_pre (A := (s₁.setTop (mkF m 0 #[.val (.ref ax), .val (.long qz), .second, .val (.long qt), .second] []))) (fun t k => castTop (own_ef3 m ax qz qt) k) ?_
  obtain ⟨Ea_, Fplaces_, Fstarts_, Ftimes_, Fentries_, Fcount_, Fend_, FlastTime_, Vp_, Vs_, Vt_, n0_, n1_, n2_, n3_, n4_, n5_, gg0_, gg1_, gg2_, gg3_⟩ := B
  refine own_pre (A := (s₁.setTop (mkF m 1 #[.val (.ref ax), .val (.long qz), .second, .val (.long qt), .second] [(.ref ax)]))) ?_ ?_
  · intro t k
    refine XS.aloadN X0.here hx rfl (hb hby d3_0) rfl rfl ?_
    exact k
  obtain ⟨T192, X192, e192, st192⟩ := getF X0 hx hZ hown (host := "") (Or.inl (own_w hw 29 rfl)) Via.refl e0 Fentries_ (g := (mkF m 1 #[.val (.ref ax), .val (.long qz), .second, .val (.long qt), .second] [(.ref ax)])) rfl rfl (hb hby d3_1)
  refine own_pre (fun t k => st192 t k) ?_
  refine own_pre (A := (T192.setTop (mkF m 8 #[.val (.ref ax), .val (.long qz), .second, .val (.long qt), .second] [(.ref ax)]))) ?_ ?_
  · intro t k
    refine XS.ifNo X192.here hx rfl (hb hby d3_4) rfl ((if0 _ _).trans (feq (by decide : ¬ ((2 : Int32) = (0 : Int32)))).1) ?_
    refine XS.aloadN X192.here hx rfl (hb hby d3_7) rfl rfl ?_
    exact k
  obtain ⟨T193, X193, e193, st193⟩ := getF X192 hx hZ hown (host := "") (Or.inl (own_w hw 22 rfl)) Via.refl e192 Fend_ (g := (mkF m 8 #[.val (.ref ax), .val (.long qz), .second, .val (.long qt), .second] [(.ref ax)])) rfl rfl (hb hby d3_8)
  refine own_pre (fun t k => st193 t k) ?_
  refine own_pre (A := (T193.setTop (mkF m 12 #[.val (.ref ax), .val (.long qz), .second, .val (.long qt), .second] [(.ref ax), (.long qe)]))) ?_ ?_
  · intro t k
    refine XS.aloadN X193.here hx rfl (hb hby d3_11) rfl rfl ?_
    exact k
  obtain ⟨T194, X194, e194, st194⟩ := getF X193 hx hZ hown (host := "") (Or.inl (own_w hw 15 rfl)) Via.refl e193 Fstarts_ (g := (mkF m 12 #[.val (.ref ax), .val (.long qz), .second, .val (.long qt), .second] [(.ref ax), (.long qe)])) rfl rfl (hb hby d3_12)
  refine own_pre (fun t k => st194 t k) ?_
  refine own_pre (A := (T194.setTop (mkF m 16 #[.val (.ref ax), .val (.long qz), .second, .val (.long qt), .second] [(.ref ax), (.ref ar), (.long qe)]))) ?_ ?_
  · intro t k
    refine XS.aloadN X194.here hx rfl (hb hby d3_15) rfl rfl ?_
    exact k
  obtain ⟨T195, X195, e195, st195⟩ := getF X194 hx hZ hown (host := "") (Or.inl (own_w hw 29 rfl)) Via.refl e194 Fentries_ (g := (mkF m 16 #[.val (.ref ax), .val (.long qz), .second, .val (.long qt), .second] [(.ref ax), (.ref ar), (.long qe)])) rfl rfl (hb hby d3_16)
  refine own_pre (fun t k => st195 t k) ?_
  refine own_pre (A := (T195.setTop (mkF m 31 #[.val (.ref ax), .val (.long qz), .second, .val (.long qt), .second] [(.ref ax)]))) ?_ ?_
  · intro t k
    refine XS.iconst X195.here hx rfl (hb hby d3_19) ?_
    refine XS.isub X195.here hx rfl (hb hby d3_20) rfl ?_
    show Steps p.tables e below (T195.setTop (mkF m 21 #[.val (.ref ax), .val (.long qz), .second, .val (.long qt), .second] [(.int ((2 : Int32) - (1 : Int32))), (.ref ar), (.long qe)])) _
    rw [show ((2 : Int32) - (1 : Int32)) = (1 : Int32) from by decide]
    show Steps p.tables e below (T195.setTop (mkF m 21 #[.val (.ref ax), .val (.long qz), .second, .val (.long qt), .second] [(.int (1 : Int32)), (.ref ar), (.long qe)])) _
    obtain ⟨cl196, Ar196, q196, S196, N196, H196, G196⟩ := id Vs_
    have hin196 : ¬ ((1 : Int32) < 0 ∨ cl196.slots.size ≤ ((1 : Int32)).toNatClampNeg) := inb_of S196 ⟨by decide, by decide⟩
    refine X195.laload hx (j := (1 : Int32)) (v := (.long ss1)) (by rw [e195]; exact Ar196.1) (State.isArrayOf_alike hZ.alike Ar196.2.1) Ar196.2.2 hin196 (H196.at hin196 rfl) (g := (mkF m 21 #[.val (.ref ax), .val (.long qz), .second, .val (.long qt), .second] [(.int (1 : Int32)), (.ref ar), (.long qe)])) rfl rfl (hb hby d3_21) _ ?_
    refine XS.lsub X195.here hx rfl (hb hby d3_22) rfl ?_
    show Steps p.tables e below (T195.setTop (mkF m 23 #[.val (.ref ax), .val (.long qz), .second, .val (.long qt), .second] [(.long (qe - ss1))])) _
    refine X195.ldc2Long hx hown (mvT hZ (own_w hw 33 rfl)) (g := (mkF m 23 #[.val (.ref ax), .val (.long qz), .second, .val (.long qt), .second] [(.long (qe - ss1))])) rfl (hb hby d3_23) _ ?_
    refine XS.lcmp X195.here hx rfl (hb hby d3_26) rfl ?_
    refine XS.ifNo X195.here hx rfl (hb hby d3_27) rfl ((if0 _ _).trans (flt (fun q => hs ((lw_lt (qe - ss1) (65536 : Int64)).mp q))).1) ?_
    refine XS.aloadN X195.here hx rfl (hb hby d3_30) rfl rfl ?_
    exact k
  obtain ⟨T197, X197, e197, st197⟩ := getF X195 hx hZ hown (host := "") (Or.inl (own_w hw 29 rfl)) Via.refl e195 Fentries_ (g := (mkF m 31 #[.val (.ref ax), .val (.long qz), .second, .val (.long qt), .second] [(.ref ax)])) rfl rfl (hb hby d3_31)
  refine own_pre (fun t k => st197 t k) ?_
  refine own_pre (A := (T197.setTop (mkF m 35 #[.val (.ref ax), .val (.long qz), .second, .val (.long qt), .second] [(.ref ax), (.int (2 : Int32))]))) ?_ ?_
  · intro t k
    refine XS.aloadN X197.here hx rfl (hb hby d3_34) rfl rfl ?_
    exact k
  obtain ⟨T198, X198, e198, st198⟩ := getF X197 hx hZ hown (host := "") (Or.inl (own_w hw 12 rfl)) Via.refl e197 Fplaces_ (g := (mkF m 35 #[.val (.ref ax), .val (.long qz), .second, .val (.long qt), .second] [(.ref ax), (.int (2 : Int32))])) rfl rfl (hb hby d3_35)
  refine own_pre (fun t k => st198 t k) ?_
  refine own_pre (A := (T198.setTop (mkF m 53 #[.val (.ref ax), .val (.long qz), .second, .val (.long qt), .second] [(.ref ax)]))) ?_ ?_
  · intro t k
    show Steps p.tables e below (T198.setTop (mkF m 38 #[.val (.ref ax), .val (.long qz), .second, .val (.long qt), .second] [(.ref ap), (.int (2 : Int32))])) _
    obtain ⟨cl199, Ar199, -, S199, N199, -, -⟩ := id Vp_
    refine X198.arraylength hx (by rw [e198]; exact Ar199.1) (State.isArrayOf_alike hZ.alike Ar199.2.1) (g := (mkF m 38 #[.val (.ref ax), .val (.long qz), .second, .val (.long qt), .second] [(.ref ap), (.int (2 : Int32))])) rfl rfl (hb hby d3_38) _ ?_
    rw [len_of S199 N199]
    refine XS.icmpYes X198.here hx rfl (pc0 := 39) (pc' := 52) rfl (hb hby d3_39) rfl (feq (by decide : ¬ ((2 : Int32) = (4 : Int32)))).2 (by decide) (by decide) ?_
    refine XS.aloadN X198.here hx rfl (hb hby d3_52) rfl rfl ?_
    exact k
  obtain ⟨T200, X200, e200, st200⟩ := getF X198 hx hZ hown (host := "") (Or.inl (own_w hw 12 rfl)) Via.refl e198 Fplaces_ (g := (mkF m 53 #[.val (.ref ax), .val (.long qz), .second, .val (.long qt), .second] [(.ref ax)])) rfl rfl (hb hby d3_53)
  refine own_pre (fun t k => st200 t k) ?_
  refine own_pre (A := (T200.setTop (mkF m 57 #[.val (.ref ax), .val (.long qz), .second, .val (.long qt), .second] [(.ref ax), (.ref ap)]))) ?_ ?_
  · intro t k
    refine XS.aloadN X200.here hx rfl (hb hby d3_56) rfl rfl ?_
    exact k
  obtain ⟨T201, X201, e201, st201⟩ := getF X200 hx hZ hown (host := "") (Or.inl (own_w hw 29 rfl)) Via.refl e200 Fentries_ (g := (mkF m 57 #[.val (.ref ax), .val (.long qz), .second, .val (.long qt), .second] [(.ref ax), (.ref ap)])) rfl rfl (hb hby d3_57)
  refine own_pre (fun t k => st201 t k) ?_
  refine own_pre (A := (T201.setTop (mkF m 61 #[.val (.ref ax), .val (.long qz), .second, .val (.long qt), .second] [(.ref ax), (.int (2 : Int32)), (.ref ap)]))) ?_ ?_
  · intro t k
    refine XS.aloadN X201.here hx rfl (hb hby d3_60) rfl rfl ?_
    exact k
  obtain ⟨T202, X202, e202, st202⟩ := getF X201 hx hZ hown (host := "") (Or.inl (own_w hw 31 rfl)) Via.refl e201 Fcount_ (g := (mkF m 61 #[.val (.ref ax), .val (.long qz), .second, .val (.long qt), .second] [(.ref ax), (.int (2 : Int32)), (.ref ap)])) rfl rfl (hb hby d3_61)
  refine own_pre (fun t k => st202 t k) ?_
  obtain ⟨cl203, Ar203, q203, S203, N203, H203, G203⟩ := Vp_
  have hin203 : ¬ ((2 : Int32) < 0 ∨ cl203.slots.size ≤ ((2 : Int32)).toNatClampNeg) := inb_of S203 ⟨by decide, by decide⟩
  obtain ⟨T203, h203, X203, e203, W203, st203⟩ := stI X202 hx hZ e202 Ar203 (j := (2 : Int32)) hin203 (g := (mkF m 64 #[.val (.ref ax), .val (.long qz), .second, .val (.long qt), .second] [(.int ct), (.int (2 : Int32)), (.ref ap)])) rfl rfl (hb hby d3_64)
  have V203 : Arv Z h203 ap kp .int (4 : Int32) [(.int pp0), (.int pp1), (.int ct), (.int pp3)] (.int (0 : Int32)) := Arv.set Ar203 q203 S203 N203 H203 G203 rfl W203 2 rfl (Nat.le_of_ble_eq_true rfl)
  have Ea__203 := Ea_.wr W203
  have Fplaces__203 := Fplaces_.other W203 (Or.inl n0_)
  have Fstarts__203 := Fstarts_.other W203 (Or.inl n0_)
  have Ftimes__203 := Ftimes_.other W203 (Or.inl n0_)
  have Fentries__203 := Fentries_.other W203 (Or.inl n0_)
  have Fcount__203 := Fcount_.other W203 (Or.inl n0_)
  have Fend__203 := Fend_.other W203 (Or.inl n0_)
  have FlastTime__203 := FlastTime_.other W203 (Or.inl n0_)
  have Vs__203 := Vs_.other W203 n3_.symm
  have Vt__203 := Vt_.other W203 n4_.symm
  have Kc203 : Keep h0 h203 [ax, ap, ar, at'] := (Keep.refl h0 [ax, ap, ar, at']).wr W203 (Or.inl (List.mem_of_getElem? (i := 1) rfl))
  have N203 := Fr.snoc X203 N0 gg1_
  refine own_pre (fun t k => st203 t k) ?_
  refine own_pre (A := (T203.setTop (mkF m 66 #[.val (.ref ax), .val (.long qz), .second, .val (.long qt), .second] [(.ref ax)]))) ?_ ?_
  · intro t k
    refine XS.aloadN X203.here hx rfl (hb hby d3_65) rfl rfl ?_
    exact k
  obtain ⟨T204, X204, e204, st204⟩ := getF X203 hx hZ hown (host := "") (Or.inl (own_w hw 15 rfl)) Via.refl e203 Fstarts__203 (g := (mkF m 66 #[.val (.ref ax), .val (.long qz), .second, .val (.long qt), .second] [(.ref ax)])) rfl rfl (hb hby d3_66)
  refine own_pre (fun t k => st204 t k) ?_
  refine own_pre (A := (T204.setTop (mkF m 70 #[.val (.ref ax), .val (.long qz), .second, .val (.long qt), .second] [(.ref ax), (.ref ar)]))) ?_ ?_
  · intro t k
    refine XS.aloadN X204.here hx rfl (hb hby d3_69) rfl rfl ?_
    exact k
  obtain ⟨T205, X205, e205, st205⟩ := getF X204 hx hZ hown (host := "") (Or.inl (own_w hw 29 rfl)) Via.refl e204 Fentries__203 (g := (mkF m 70 #[.val (.ref ax), .val (.long qz), .second, .val (.long qt), .second] [(.ref ax), (.ref ar)])) rfl rfl (hb hby d3_70)
  refine own_pre (fun t k => st205 t k) ?_
  refine own_pre (A := (T205.setTop (mkF m 74 #[.val (.ref ax), .val (.long qz), .second, .val (.long qt), .second] [(.ref ax), (.int (2 : Int32)), (.ref ar)]))) ?_ ?_
  · intro t k
    refine XS.aloadN X205.here hx rfl (hb hby d3_73) rfl rfl ?_
    exact k
  obtain ⟨T206, X206, e206, st206⟩ := getF X205 hx hZ hown (host := "") (Or.inl (own_w hw 22 rfl)) Via.refl e205 Fend__203 (g := (mkF m 74 #[.val (.ref ax), .val (.long qz), .second, .val (.long qt), .second] [(.ref ax), (.int (2 : Int32)), (.ref ar)])) rfl rfl (hb hby d3_74)
  refine own_pre (fun t k => st206 t k) ?_
  obtain ⟨cl207, Ar207, q207, S207, N207, H207, G207⟩ := Vs__203
  have hin207 : ¬ ((2 : Int32) < 0 ∨ cl207.slots.size ≤ ((2 : Int32)).toNatClampNeg) := inb_of S207 ⟨by decide, by decide⟩
  obtain ⟨T207, h207, X207, e207, W207, st207⟩ := stJ X206 hx hZ e206 Ar207 (j := (2 : Int32)) hin207 (g := (mkF m 77 #[.val (.ref ax), .val (.long qz), .second, .val (.long qt), .second] [(.long qe), (.int (2 : Int32)), (.ref ar)])) rfl rfl (hb hby d3_77)
  have V207 : Arv Z h207 ar ks .long (4 : Int32) [(.long ss0), (.long ss1), (.long qe), (.long ss3)] (.long (0 : Int64)) := Arv.set Ar207 q207 S207 N207 H207 G207 rfl W207 2 rfl (Nat.le_of_ble_eq_true rfl)
  have Ea__207 := Ea__203.wr W207
  have Fplaces__207 := Fplaces__203.other W207 (Or.inl n1_)
  have Fstarts__207 := Fstarts__203.other W207 (Or.inl n1_)
  have Ftimes__207 := Ftimes__203.other W207 (Or.inl n1_)
  have Fentries__207 := Fentries__203.other W207 (Or.inl n1_)
  have Fcount__207 := Fcount__203.other W207 (Or.inl n1_)
  have Fend__207 := Fend__203.other W207 (Or.inl n1_)
  have FlastTime__207 := FlastTime__203.other W207 (Or.inl n1_)
  have V203_207 := V203.other W207 n3_
  have Vt__207 := Vt__203.other W207 n5_.symm
  have Kc207 : Keep h0 h207 [ax, ap, ar, at'] := Kc203.wr W207 (Or.inl (List.mem_of_getElem? (i := 2) rfl))
  have N207 := Fr.snoc X207 N203 gg2_
  refine own_pre (fun t k => st207 t k) ?_
  refine own_pre (A := (T207.setTop (mkF m 79 #[.val (.ref ax), .val (.long qz), .second, .val (.long qt), .second] [(.ref ax)]))) ?_ ?_
  · intro t k
    refine XS.aloadN X207.here hx rfl (hb hby d3_78) rfl rfl ?_
    exact k
  obtain ⟨T208, X208, e208, st208⟩ := getF X207 hx hZ hown (host := "") (Or.inl (own_w hw 17 rfl)) Via.refl e207 Ftimes__207 (g := (mkF m 79 #[.val (.ref ax), .val (.long qz), .second, .val (.long qt), .second] [(.ref ax)])) rfl rfl (hb hby d3_79)
  refine own_pre (fun t k => st208 t k) ?_
  refine own_pre (A := (T208.setTop (mkF m 83 #[.val (.ref ax), .val (.long qz), .second, .val (.long qt), .second] [(.ref ax), (.ref at')]))) ?_ ?_
  · intro t k
    refine XS.aloadN X208.here hx rfl (hb hby d3_82) rfl rfl ?_
    exact k
  obtain ⟨T209, X209, e209, st209⟩ := getF X208 hx hZ hown (host := "") (Or.inl (own_w hw 29 rfl)) Via.refl e208 Fentries__207 (g := (mkF m 83 #[.val (.ref ax), .val (.long qz), .second, .val (.long qt), .second] [(.ref ax), (.ref at')])) rfl rfl (hb hby d3_83)
  refine own_pre (fun t k => st209 t k) ?_
  refine own_pre (A := (T209.setTop (mkF m 87 #[.val (.ref ax), .val (.long qz), .second, .val (.long qt), .second] [(.long qt), (.int (2 : Int32)), (.ref at')]))) ?_ ?_
  · intro t k
    refine XS.lloadN X209.here hx rfl (hb hby d3_86) rfl ?_
    exact k
  obtain ⟨cl210, Ar210, S210, N210⟩ := Vt__207
  have hin210 : ¬ ((2 : Int32) < 0 ∨ cl210.slots.size ≤ ((2 : Int32)).toNatClampNeg) := inb_of S210 ⟨by decide, by decide⟩
  obtain ⟨T210, h210, X210, e210, W210, st210⟩ := stJ X209 hx hZ e209 Ar210 (j := (2 : Int32)) hin210 (g := (mkF m 87 #[.val (.ref ax), .val (.long qz), .second, .val (.long qt), .second] [(.long qt), (.int (2 : Int32)), (.ref at')])) rfl rfl (hb hby d3_87)
  have V210 : own_Al Z h210 at' .long (4 : Int32) := ⟨_, Ar210.same W210, (sz_set _ _ _).trans S210, N210⟩
  have Ea__210 := Ea__207.wr W210
  have Fplaces__210 := Fplaces__207.other W210 (Or.inl n2_)
  have Fstarts__210 := Fstarts__207.other W210 (Or.inl n2_)
  have Ftimes__210 := Ftimes__207.other W210 (Or.inl n2_)
  have Fentries__210 := Fentries__207.other W210 (Or.inl n2_)
  have Fcount__210 := Fcount__207.other W210 (Or.inl n2_)
  have Fend__210 := Fend__207.other W210 (Or.inl n2_)
  have FlastTime__210 := FlastTime__207.other W210 (Or.inl n2_)
  have V203_210 := V203_207.other W210 n4_
  have V207_210 := V207.other W210 n5_
  have Kc210 : Keep h0 h210 [ax, ap, ar, at'] := Kc207.wr W210 (Or.inl (List.mem_of_getElem? (i := 3) rfl))
  have N210 := Fr.snoc X210 N207 gg3_
  refine own_pre (fun t k => st210 t k) ?_
  refine own_pre (A := (T210.setTop (mkF m 90 #[.val (.ref ax), .val (.long qz), .second, .val (.long qt), .second] [(.ref ax), (.ref ax)]))) ?_ ?_
  · intro t k
    refine XS.aloadN X210.here hx rfl (hb hby d3_88) rfl rfl ?_
    refine XS.dup X210.here hx rfl (hb hby d3_89) rfl rfl ?_
    exact k
  obtain ⟨T211, X211, e211, st211⟩ := getF X210 hx hZ hown (host := "") (Or.inl (own_w hw 29 rfl)) Via.refl e210 Fentries__210 (g := (mkF m 90 #[.val (.ref ax), .val (.long qz), .second, .val (.long qt), .second] [(.ref ax), (.ref ax)])) rfl rfl (hb hby d3_90)
  refine own_pre (fun t k => st211 t k) ?_
  refine own_pre (A := (T211.setTop (mkF m 95 #[.val (.ref ax), .val (.long qz), .second, .val (.long qt), .second] [(.int (3 : Int32)), (.ref ax)]))) ?_ ?_
  · intro t k
    refine XS.iconst X211.here hx rfl (hb hby d3_93) ?_
    refine XS.iadd X211.here hx rfl (hb hby d3_94) rfl ?_
    show Steps p.tables e below (T211.setTop (mkF m 95 #[.val (.ref ax), .val (.long qz), .second, .val (.long qt), .second] [(.int ((2 : Int32) + (1 : Int32))), (.ref ax)])) _
    rw [show ((2 : Int32) + (1 : Int32)) = (3 : Int32) from by decide]
    exact k
  obtain ⟨T212, h212, X212, e212, W212, st212⟩ := putF X211 hx hZ hown (host := "") (Or.inl (own_w hw 29 rfl)) Via.refl e211 Fentries__210 Ea__210 (Or.inl (own_w hw 30 rfl)) (own_w hw 4 rfl) (ty := .int) (by decide) rfl rfl (g := (mkF m 95 #[.val (.ref ax), .val (.long qz), .second, .val (.long qt), .second] [(.int (3 : Int32)), (.ref ax)])) rfl rfl (hb hby d3_95)
  have Ea__212 := Ea__210.wr W212
  have Fplaces__212 := Fplaces__210.other W212 (Or.inr (slot_ne (Or.inl (own_w hw 13 rfl)) (Or.inl (own_w hw 30 rfl)) (by decide) (t := (.array .int)) (t' := .int) (by decide) (by decide)))
  have Fstarts__212 := Fstarts__210.other W212 (Or.inr (slot_ne (Or.inl (own_w hw 16 rfl)) (Or.inl (own_w hw 30 rfl)) (by decide) (t := (.array .long)) (t' := .int) (by decide) (by decide)))
  have Ftimes__212 := Ftimes__210.other W212 (Or.inr (slot_ne (Or.inl (own_w hw 18 rfl)) (Or.inl (own_w hw 30 rfl)) (by decide) (t := (.array .long)) (t' := .int) (by decide) (by decide)))
  have Fcount__212 := Fcount__210.other W212 (Or.inr (slot_ne (Or.inl (own_w hw 32 rfl)) (Or.inl (own_w hw 30 rfl)) (by decide) (t := .int) (t' := .int) (by decide) (by decide)))
  have Fend__212 := Fend__210.other W212 (Or.inr (slot_ne (Or.inl (own_w hw 23 rfl)) (Or.inl (own_w hw 30 rfl)) (by decide) (t := .long) (t' := .int) (by decide) (by decide)))
  have FlastTime__212 := FlastTime__210.other W212 (Or.inr (slot_ne (Or.inl (own_w hw 21 rfl)) (Or.inl (own_w hw 30 rfl)) (by decide) (t := .long) (t' := .int) (by decide) (by decide)))
  have V203_212 := V203_210.other W212 n0_.symm
  have V207_212 := V207_210.other W212 n1_.symm
  have V210_212 := V210.other W212 n2_.symm
  have Kc212 : Keep h0 h212 [ax, ap, ar, at'] := Kc210.wr W212 (Or.inl (List.mem_of_getElem? (i := 0) rfl))
  have N212 := Fr.snoc X212 N210 gg0_
  have Fw212 := Fentries__210.same W212
  refine own_pre (fun t k => st212 t k) ?_
  refine own_pre (A := (T212.setTop (mkF m 100 #[.val (.ref ax), .val (.long qz), .second, .val (.long qt), .second] [(.ref ax), (.ref ax)]))) ?_ ?_
  · intro t k
    refine XS.aloadN X212.here hx rfl (hb hby d3_98) rfl rfl ?_
    refine XS.dup X212.here hx rfl (hb hby d3_99) rfl rfl ?_
    exact k
  obtain ⟨T213, X213, e213, st213⟩ := getF X212 hx hZ hown (host := "") (Or.inl (own_w hw 22 rfl)) Via.refl e212 Fend__212 (g := (mkF m 100 #[.val (.ref ax), .val (.long qz), .second, .val (.long qt), .second] [(.ref ax), (.ref ax)])) rfl rfl (hb hby d3_100)
  refine own_pre (fun t k => st213 t k) ?_
  refine own_pre (A := (T213.setTop (mkF m 105 #[.val (.ref ax), .val (.long qz), .second, .val (.long qt), .second] [(.long (qe + qz)), (.ref ax)]))) ?_ ?_
  · intro t k
    refine XS.lloadN X213.here hx rfl (hb hby d3_103) rfl ?_
    refine XS.ladd X213.here hx rfl (hb hby d3_104) rfl ?_
    exact k
  obtain ⟨T214, h214, X214, e214, W214, st214⟩ := putF X213 hx hZ hown (host := "") (Or.inl (own_w hw 22 rfl)) Via.refl e213 Fend__212 Ea__212 (Or.inl (own_w hw 23 rfl)) (own_w hw 4 rfl) (ty := .long) (by decide) rfl rfl (g := (mkF m 105 #[.val (.ref ax), .val (.long qz), .second, .val (.long qt), .second] [(.long (qe + qz)), (.ref ax)])) rfl rfl (hb hby d3_105)
  have Ea__214 := Ea__212.wr W214
  have Fplaces__214 := Fplaces__212.other W214 (Or.inr (slot_ne (Or.inl (own_w hw 13 rfl)) (Or.inl (own_w hw 23 rfl)) (by decide) (t := (.array .int)) (t' := .long) (by decide) (by decide)))
  have Fstarts__214 := Fstarts__212.other W214 (Or.inr (slot_ne (Or.inl (own_w hw 16 rfl)) (Or.inl (own_w hw 23 rfl)) (by decide) (t := (.array .long)) (t' := .long) (by decide) (by decide)))
  have Ftimes__214 := Ftimes__212.other W214 (Or.inr (slot_ne (Or.inl (own_w hw 18 rfl)) (Or.inl (own_w hw 23 rfl)) (by decide) (t := (.array .long)) (t' := .long) (by decide) (by decide)))
  have Fw212_214 := Fw212.other W214 (Or.inr (slot_ne (Or.inl (own_w hw 30 rfl)) (Or.inl (own_w hw 23 rfl)) (by decide) (t := .int) (t' := .long) (by decide) (by decide)))
  have Fcount__214 := Fcount__212.other W214 (Or.inr (slot_ne (Or.inl (own_w hw 32 rfl)) (Or.inl (own_w hw 23 rfl)) (by decide) (t := .int) (t' := .long) (by decide) (by decide)))
  have FlastTime__214 := FlastTime__212.other W214 (Or.inr (slot_ne (Or.inl (own_w hw 21 rfl)) (Or.inl (own_w hw 23 rfl)) (by decide) (t := .long) (t' := .long) (by decide) (by decide)))
  have V203_214 := V203_212.other W214 n0_.symm
  have V207_214 := V207_212.other W214 n1_.symm
  have V210_214 := V210_212.other W214 n2_.symm
  have Kc214 : Keep h0 h214 [ax, ap, ar, at'] := Kc212.wr W214 (Or.inl (List.mem_of_getElem? (i := 0) rfl))
  have N214 := Fr.snoc X214 N212 gg0_
  have Fw214 := Fend__212.same W214
  refine own_pre (fun t k => st214 t k) ?_
  refine own_pre (A := (T214.setTop (mkF m 110 #[.val (.ref ax), .val (.long qz), .second, .val (.long qt), .second] [(.long qt), (.ref ax)]))) ?_ ?_
  · intro t k
    refine XS.aloadN X214.here hx rfl (hb hby d3_108) rfl rfl ?_
    refine XS.lloadN X214.here hx rfl (hb hby d3_109) rfl ?_
    exact k
  obtain ⟨T215, h215, X215, e215, W215, st215⟩ := putF X214 hx hZ hown (host := "") (Or.inl (own_w hw 20 rfl)) Via.refl e214 FlastTime__214 Ea__214 (Or.inl (own_w hw 21 rfl)) (own_w hw 4 rfl) (ty := .long) (by decide) rfl rfl (g := (mkF m 110 #[.val (.ref ax), .val (.long qz), .second, .val (.long qt), .second] [(.long qt), (.ref ax)])) rfl rfl (hb hby d3_110)
  have Ea__215 := Ea__214.wr W215
  have Fplaces__215 := Fplaces__214.other W215 (Or.inr (slot_ne (Or.inl (own_w hw 13 rfl)) (Or.inl (own_w hw 21 rfl)) (by decide) (t := (.array .int)) (t' := .long) (by decide) (by decide)))
  have Fstarts__215 := Fstarts__214.other W215 (Or.inr (slot_ne (Or.inl (own_w hw 16 rfl)) (Or.inl (own_w hw 21 rfl)) (by decide) (t := (.array .long)) (t' := .long) (by decide) (by decide)))
  have Ftimes__215 := Ftimes__214.other W215 (Or.inr (slot_ne (Or.inl (own_w hw 18 rfl)) (Or.inl (own_w hw 21 rfl)) (by decide) (t := (.array .long)) (t' := .long) (by decide) (by decide)))
  have Fw212_215 := Fw212_214.other W215 (Or.inr (slot_ne (Or.inl (own_w hw 30 rfl)) (Or.inl (own_w hw 21 rfl)) (by decide) (t := .int) (t' := .long) (by decide) (by decide)))
  have Fcount__215 := Fcount__214.other W215 (Or.inr (slot_ne (Or.inl (own_w hw 32 rfl)) (Or.inl (own_w hw 21 rfl)) (by decide) (t := .int) (t' := .long) (by decide) (by decide)))
  have Fw214_215 := Fw214.other W215 (Or.inr (slot_ne (Or.inl (own_w hw 23 rfl)) (Or.inl (own_w hw 21 rfl)) (by decide) (t := .long) (t' := .long) (by decide) (by decide)))
  have V203_215 := V203_214.other W215 n0_.symm
  have V207_215 := V207_214.other W215 n1_.symm
  have V210_215 := V210_214.other W215 n2_.symm
  have Kc215 : Keep h0 h215 [ax, ap, ar, at'] := Kc214.wr W215 (Or.inl (List.mem_of_getElem? (i := 0) rfl))
  have N215 := Fr.snoc X215 N214 gg0_
  have Fw215 := FlastTime__214.same W215
  refine own_pre (fun t k => st215 t k) ?_
  refine own_pre (A := (T215.setTop (mkF m 115 #[.val (.ref ax), .val (.long qz), .second, .val (.long qt), .second] [(.ref ax), (.ref ax)]))) ?_ ?_
  · intro t k
    refine XS.aloadN X215.here hx rfl (hb hby d3_113) rfl rfl ?_
    refine XS.dup X215.here hx rfl (hb hby d3_114) rfl rfl ?_
    exact k
  obtain ⟨T216, X216, e216, st216⟩ := getF X215 hx hZ hown (host := "") (Or.inl (own_w hw 31 rfl)) Via.refl e215 Fcount__215 (g := (mkF m 115 #[.val (.ref ax), .val (.long qz), .second, .val (.long qt), .second] [(.ref ax), (.ref ax)])) rfl rfl (hb hby d3_115)
  refine own_pre (fun t k => st216 t k) ?_
  refine own_pre (A := (T216.setTop (mkF m 120 #[.val (.ref ax), .val (.long qz), .second, .val (.long qt), .second] [(.int (ct + (1 : Int32))), (.ref ax)]))) ?_ ?_
  · intro t k
    refine XS.iconst X216.here hx rfl (hb hby d3_118) ?_
    refine XS.iadd X216.here hx rfl (hb hby d3_119) rfl ?_
    exact k
  obtain ⟨T217, h217, X217, e217, W217, st217⟩ := putF X216 hx hZ hown (host := "") (Or.inl (own_w hw 31 rfl)) Via.refl e216 Fcount__215 Ea__215 (Or.inl (own_w hw 32 rfl)) (own_w hw 4 rfl) (ty := .int) (by decide) rfl rfl (g := (mkF m 120 #[.val (.ref ax), .val (.long qz), .second, .val (.long qt), .second] [(.int (ct + (1 : Int32))), (.ref ax)])) rfl rfl (hb hby d3_120)
  have Ea__217 := Ea__215.wr W217
  have Fplaces__217 := Fplaces__215.other W217 (Or.inr (slot_ne (Or.inl (own_w hw 13 rfl)) (Or.inl (own_w hw 32 rfl)) (by decide) (t := (.array .int)) (t' := .int) (by decide) (by decide)))
  have Fstarts__217 := Fstarts__215.other W217 (Or.inr (slot_ne (Or.inl (own_w hw 16 rfl)) (Or.inl (own_w hw 32 rfl)) (by decide) (t := (.array .long)) (t' := .int) (by decide) (by decide)))
  have Ftimes__217 := Ftimes__215.other W217 (Or.inr (slot_ne (Or.inl (own_w hw 18 rfl)) (Or.inl (own_w hw 32 rfl)) (by decide) (t := (.array .long)) (t' := .int) (by decide) (by decide)))
  have Fw212_217 := Fw212_215.other W217 (Or.inr (slot_ne (Or.inl (own_w hw 30 rfl)) (Or.inl (own_w hw 32 rfl)) (by decide) (t := .int) (t' := .int) (by decide) (by decide)))
  have Fw214_217 := Fw214_215.other W217 (Or.inr (slot_ne (Or.inl (own_w hw 23 rfl)) (Or.inl (own_w hw 32 rfl)) (by decide) (t := .long) (t' := .int) (by decide) (by decide)))
  have Fw215_217 := Fw215.other W217 (Or.inr (slot_ne (Or.inl (own_w hw 21 rfl)) (Or.inl (own_w hw 32 rfl)) (by decide) (t := .long) (t' := .int) (by decide) (by decide)))
  have V203_217 := V203_215.other W217 n0_.symm
  have V207_217 := V207_215.other W217 n1_.symm
  have V210_217 := V210_215.other W217 n2_.symm
  have Kc217 : Keep h0 h217 [ax, ap, ar, at'] := Kc215.wr W217 (Or.inl (List.mem_of_getElem? (i := 0) rfl))
  have N217 := Fr.snoc X217 N215 gg0_
  have Fw217 := Fcount__215.same W217
  refine own_pre (fun t k => st217 t k) ?_
  obtain ⟨fs, hr, hrun, hended, hW, hsame⟩ := X217.leave (hlocks := BodyLoose.notSynchronized Bd) (v := none) (fun _ => rfl)
  refine ⟨_, _, X217.returnOut hx Bd.returns (hb hby d3_123) hr, hrun, hended, _, _, rfl, ?_, ⟨_, rfl⟩, hW, hsame.mono (by decide) (by decide)⟩
  show own_Q3_2B Z ax qz qt ap ar at' kp ks ct qe ql pp0 pp1 pp2 pp3 ss0 ss1 ss2 ss3 h0 n0 _ T217.heap _
  rw [e217]
  exact ⟨rfl, N217, Kc217, ⟨Ea__217, Fplaces__217, Fstarts__217, Ftimes__217, Fw212_217, Fw217, Fw214_217, Fw215_217, V203_217, V207_217, V210_217, n0_, n1_, n2_, n3_, n4_, n5_, gg0_, gg1_, gg2_, gg3_⟩⟩
abbrev own_l174 (x0 : Int64) (x1 : Int32) (x2 : Int32) (x3 : Int32) (x4 : Int32) (x5 : Int64) (x6 : Int64) (x7 : Int64) (x8 : Addr) (x9 : Addr) : Array Slot := #[.val (.long x0), .second, .val (.int x1), .val (.int x2), .val (.int x3), .val (.int x4), .val (.int (3 : Int32)), .val (.long x5), .second, .val (.long x6), .second, .val (.long x7), .second, .val (.long (65536 : Int64)), .second, .val (.ref x8), .val (.ref x9), .val (.long x5), .second, .val (.long (x5 + x6)), .second, .val (.long ((x5 + x6) + x7)), .second, .val (.long x5), .second, .val (.int (1 : Int32)), .val (.int (1 : Int32)), .unset, .unset, .unset, .unset, .unset, .unset]
abbrev own_l175 (x0 : Int64) (x1 : Int32) (x2 : Int32) (x3 : Int32) (x4 : Int32) (x5 : Int64) (x6 : Int64) (x7 : Int64) (x8 : Addr) (x9 : Addr) : Array Slot := #[.val (.long x0), .second, .val (.int x1), .val (.int x2), .val (.int x3), .val (.int x4), .val (.int (3 : Int32)), .val (.long x5), .second, .val (.long x6), .second, .val (.long x7), .second, .val (.long (65536 : Int64)), .second, .val (.ref x8), .val (.ref x9), .val (.long x5), .second, .val (.long (x5 + x6)), .second, .val (.long ((x5 + x6) + x7)), .second, .val (.long (x5 + x6)), .second, .val (.int (1 : Int32)), .val (.int (1 : Int32)), .unset, .unset, .unset, .unset, .unset, .unset]
abbrev own_l176 (x0 : Int64) (x1 : Int32) (x2 : Int32) (x3 : Int32) (x4 : Int32) (x5 : Int64) (x6 : Int64) (x7 : Int64) (x8 : Addr) (x9 : Addr) : Array Slot := #[.val (.long x0), .second, .val (.int x1), .val (.int x2), .val (.int x3), .val (.int x4), .val (.int (3 : Int32)), .val (.long x5), .second, .val (.long x6), .second, .val (.long x7), .second, .val (.long (65536 : Int64)), .second, .val (.ref x8), .val (.ref x9), .val (.long x5), .second, .val (.long (x5 + x6)), .second, .val (.long ((x5 + x6) + x7)), .second, .val (.long (x5 + x6)), .second, .val (.int (1 : Int32)), .val (.int (1 : Int32)), .val (.int (0 : Int32)), .unset, .unset, .unset, .unset, .unset]
abbrev own_l177 (x0 : Int64) (x1 : Int32) (x2 : Int32) (x3 : Int32) (x4 : Int32) (x5 : Int64) (x6 : Int64) (x7 : Int64) : Array Slot := #[.val (.long x0), .second, .val (.int x1), .val (.int x2), .val (.int x3), .val (.int x4), .val (.int (4 : Int32)), .val (.long x5), .second, .val (.long x6), .second, .val (.long x7), .second, .val (.long (65536 : Int64)), .second, .unset, .unset, .unset, .unset, .unset, .unset, .unset, .unset, .unset, .unset, .unset, .unset, .unset, .unset, .unset, .unset, .unset, .unset]
abbrev own_l178 (x0 : Int64) (x1 : Int32) (x2 : Int32) (x3 : Int32) (x4 : Int32) (x5 : Int64) (x6 : Int64) (x7 : Int64) (x8 : Addr) : Array Slot := #[.val (.long x0), .second, .val (.int x1), .val (.int x2), .val (.int x3), .val (.int x4), .val (.int (4 : Int32)), .val (.long x5), .second, .val (.long x6), .second, .val (.long x7), .second, .val (.long (65536 : Int64)), .second, .val (.ref x8), .unset, .unset, .unset, .unset, .unset, .unset, .unset, .unset, .unset, .unset, .unset, .unset, .unset, .unset, .unset, .unset, .unset]
abbrev own_l179 (x0 : Int64) (x1 : Int32) (x2 : Int32) (x3 : Int32) (x4 : Int32) (x5 : Int64) (x6 : Int64) (x7 : Int64) (x8 : Addr) (x9 : Addr) : Array Slot := #[.val (.long x0), .second, .val (.int x1), .val (.int x2), .val (.int x3), .val (.int x4), .val (.int (4 : Int32)), .val (.long x5), .second, .val (.long x6), .second, .val (.long x7), .second, .val (.long (65536 : Int64)), .second, .val (.ref x8), .val (.ref x9), .unset, .unset, .unset, .unset, .unset, .unset, .unset, .unset, .unset, .unset, .unset, .unset, .unset, .unset, .unset, .unset]
abbrev own_l180 (x0 : Int64) (x1 : Int32) (x2 : Int32) (x3 : Int32) (x4 : Int32) (x5 : Int64) (x6 : Int64) (x7 : Int64) (x8 : Addr) (x9 : Addr) : Array Slot := #[.val (.long x0), .second, .val (.int x1), .val (.int x2), .val (.int x3), .val (.int x4), .val (.int (4 : Int32)), .val (.long x5), .second, .val (.long x6), .second, .val (.long x7), .second, .val (.long (65536 : Int64)), .second, .val (.ref x8), .val (.ref x9), .val (.long x5), .second, .unset, .unset, .unset, .unset, .unset, .unset, .unset, .unset, .unset, .unset, .unset, .unset, .unset, .unset]
abbrev own_l181 (x0 : Int64) (x1 : Int32) (x2 : Int32) (x3 : Int32) (x4 : Int32) (x5 : Int64) (x6 : Int64) (x7 : Int64) (x8 : Addr) (x9 : Addr) : Array Slot := #[.val (.long x0), .second, .val (.int x1), .val (.int x2), .val (.int x3), .val (.int x4), .val (.int (4 : Int32)), .val (.long x5), .second, .val (.long x6), .second, .val (.long x7), .second, .val (.long (65536 : Int64)), .second, .val (.ref x8), .val (.ref x9), .val (.long x5), .second, .val (.long (x5 + x6)), .second, .unset, .unset, .unset, .unset, .unset, .unset, .unset, .unset, .unset, .unset, .unset, .unset]
abbrev own_l182 (x0 : Int64) (x1 : Int32) (x2 : Int32) (x3 : Int32) (x4 : Int32) (x5 : Int64) (x6 : Int64) (x7 : Int64) (x8 : Addr) (x9 : Addr) : Array Slot := #[.val (.long x0), .second, .val (.int x1), .val (.int x2), .val (.int x3), .val (.int x4), .val (.int (4 : Int32)), .val (.long x5), .second, .val (.long x6), .second, .val (.long x7), .second, .val (.long (65536 : Int64)), .second, .val (.ref x8), .val (.ref x9), .val (.long x5), .second, .val (.long (x5 + x6)), .second, .val (.long ((x5 + x6) + x7)), .second, .unset, .unset, .unset, .unset, .unset, .unset, .unset, .unset, .unset, .unset]
abbrev own_l183 (x0 : Int64) (x1 : Int32) (x2 : Int32) (x3 : Int32) (x4 : Int32) (x5 : Int64) (x6 : Int64) (x7 : Int64) (x8 : Addr) (x9 : Addr) : Array Slot := #[.val (.long x0), .second, .val (.int x1), .val (.int x2), .val (.int x3), .val (.int x4), .val (.int (4 : Int32)), .val (.long x5), .second, .val (.long x6), .second, .val (.long x7), .second, .val (.long (65536 : Int64)), .second, .val (.ref x8), .val (.ref x9), .val (.long x5), .second, .val (.long (x5 + x6)), .second, .val (.long ((x5 + x6) + x7)), .second, .val (.long (0 : Int64)), .second, .unset, .unset, .unset, .unset, .unset, .unset, .unset, .unset]
abbrev own_l184 (x0 : Int64) (x1 : Int32) (x2 : Int32) (x3 : Int32) (x4 : Int32) (x5 : Int64) (x6 : Int64) (x7 : Int64) (x8 : Addr) (x9 : Addr) : Array Slot := #[.val (.long x0), .second, .val (.int x1), .val (.int x2), .val (.int x3), .val (.int x4), .val (.int (4 : Int32)), .val (.long x5), .second, .val (.long x6), .second, .val (.long x7), .second, .val (.long (65536 : Int64)), .second, .val (.ref x8), .val (.ref x9), .val (.long x5), .second, .val (.long (x5 + x6)), .second, .val (.long ((x5 + x6) + x7)), .second, .val (.long (0 : Int64)), .second, .val (.int (0 : Int32)), .unset, .unset, .unset, .unset, .unset, .unset, .unset]
abbrev own_l185 (x0 : Int64) (x1 : Int32) (x2 : Int32) (x3 : Int32) (x4 : Int32) (x5 : Int64) (x6 : Int64) (x7 : Int64) (x8 : Addr) (x9 : Addr) : Array Slot := #[.val (.long x0), .second, .val (.int x1), .val (.int x2), .val (.int x3), .val (.int x4), .val (.int (4 : Int32)), .val (.long x5), .second, .val (.long x6), .second, .val (.long x7), .second, .val (.long (65536 : Int64)), .second, .val (.ref x8), .val (.ref x9), .val (.long x5), .second, .val (.long (x5 + x6)), .second, .val (.long ((x5 + x6) + x7)), .second, .val (.long (0 : Int64)), .second, .val (.int (0 : Int32)), .val (.int (0 : Int32)), .unset, .unset, .unset, .unset, .unset, .unset]
abbrev own_l186 (x0 : Int64) (x1 : Int32) (x2 : Int32) (x3 : Int32) (x4 : Int32) (x5 : Int64) (x6 : Int64) (x7 : Int64) (x8 : Addr) (x9 : Addr) : Array Slot := #[.val (.long x0), .second, .val (.int x1), .val (.int x2), .val (.int x3), .val (.int x4), .val (.int (4 : Int32)), .val (.long x5), .second, .val (.long x6), .second, .val (.long x7), .second, .val (.long (65536 : Int64)), .second, .val (.ref x8), .val (.ref x9), .val (.long x5), .second, .val (.long (x5 + x6)), .second, .val (.long ((x5 + x6) + x7)), .second, .val (.long (0 : Int64)), .second, .val (.int (0 : Int32)), .val (.int (0 : Int32)), .val (.int (0 : Int32)), .unset, .unset, .unset, .unset, .unset]
abbrev own_l187 (x0 : Int64) (x1 : Int32) (x2 : Int32) (x3 : Int32) (x4 : Int32) (x5 : Int64) (x6 : Int64) (x7 : Int64) (x8 : Addr) (x9 : Addr) : Array Slot := #[.val (.long x0), .second, .val (.int x1), .val (.int x2), .val (.int x3), .val (.int x4), .val (.int (4 : Int32)), .val (.long x5), .second, .val (.long x6), .second, .val (.long x7), .second, .val (.long (65536 : Int64)), .second, .val (.ref x8), .val (.ref x9), .val (.long x5), .second, .val (.long (x5 + x6)), .second, .val (.long ((x5 + x6) + x7)), .second, .val (.long (0 : Int64)), .second, .val (.int (0 : Int32)), .val (.int (0 : Int32)), .val (.int (1 : Int32)), .unset, .unset, .unset, .unset, .unset]
abbrev own_l188 (x0 : Int64) (x1 : Int32) (x2 : Int32) (x3 : Int32) (x4 : Int32) (x5 : Int64) (x6 : Int64) (x7 : Int64) (x8 : Addr) (x9 : Addr) : Array Slot := #[.val (.long x0), .second, .val (.int x1), .val (.int x2), .val (.int x3), .val (.int x4), .val (.int (4 : Int32)), .val (.long x5), .second, .val (.long x6), .second, .val (.long x7), .second, .val (.long (65536 : Int64)), .second, .val (.ref x8), .val (.ref x9), .val (.long x5), .second, .val (.long (x5 + x6)), .second, .val (.long ((x5 + x6) + x7)), .second, .val (.long (0 : Int64)), .second, .val (.int (0 : Int32)), .val (.int (1 : Int32)), .unset, .unset, .unset, .unset, .unset, .unset]
abbrev own_l189 (x0 : Int64) (x1 : Int32) (x2 : Int32) (x3 : Int32) (x4 : Int32) (x5 : Int64) (x6 : Int64) (x7 : Int64) (x8 : Addr) (x9 : Addr) : Array Slot := #[.val (.long x0), .second, .val (.int x1), .val (.int x2), .val (.int x3), .val (.int x4), .val (.int (4 : Int32)), .val (.long x5), .second, .val (.long x6), .second, .val (.long x7), .second, .val (.long (65536 : Int64)), .second, .val (.ref x8), .val (.ref x9), .val (.long x5), .second, .val (.long (x5 + x6)), .second, .val (.long ((x5 + x6) + x7)), .second, .val (.long (x5 + x6)), .second, .val (.int (0 : Int32)), .val (.int (1 : Int32)), .unset, .unset, .unset, .unset, .unset, .unset]
abbrev own_l190 (x0 : Int64) (x1 : Int32) (x2 : Int32) (x3 : Int32) (x4 : Int32) (x5 : Int64) (x6 : Int64) (x7 : Int64) (x8 : Addr) (x9 : Addr) : Array Slot := #[.val (.long x0), .second, .val (.int x1), .val (.int x2), .val (.int x3), .val (.int x4), .val (.int (4 : Int32)), .val (.long x5), .second, .val (.long x6), .second, .val (.long x7), .second, .val (.long (65536 : Int64)), .second, .val (.ref x8), .val (.ref x9), .val (.long x5), .second, .val (.long (x5 + x6)), .second, .val (.long ((x5 + x6) + x7)), .second, .val (.long (x5 + x6)), .second, .val (.int (0 : Int32)), .val (.int (1 : Int32)), .val (.int (0 : Int32)), .unset, .unset, .unset, .unset, .unset]
abbrev own_l191 (x0 : Int64) (x1 : Int32) (x2 : Int32) (x3 : Int32) (x4 : Int32) (x5 : Int64) (x6 : Int64) (x7 : Int64) (x8 : Addr) (x9 : Addr) : Array Slot := #[.val (.long x0), .second, .val (.int x1), .val (.int x2), .val (.int x3), .val (.int x4), .val (.int (4 : Int32)), .val (.long x5), .second, .val (.long x6), .second, .val (.long x7), .second, .val (.long (65536 : Int64)), .second, .val (.ref x8), .val (.ref x9), .val (.long x5), .second, .val (.long (x5 + x6)), .second, .val (.long ((x5 + x6) + x7)), .second, .val (.long (x5 + x6)), .second, .val (.int (0 : Int32)), .val (.int (1 : Int32)), .val (.int (1 : Int32)), .unset, .unset, .unset, .unset, .unset]
abbrev own_l192 (x0 : Int64) (x1 : Int32) (x2 : Int32) (x3 : Int32) (x4 : Int32) (x5 : Int64) (x6 : Int64) (x7 : Int64) (x8 : Addr) (x9 : Addr) : Array Slot := #[.val (.long x0), .second, .val (.int x1), .val (.int x2), .val (.int x3), .val (.int x4), .val (.int (4 : Int32)), .val (.long x5), .second, .val (.long x6), .second, .val (.long x7), .second, .val (.long (65536 : Int64)), .second, .val (.ref x8), .val (.ref x9), .val (.long x5), .second, .val (.long (x5 + x6)), .second, .val (.long ((x5 + x6) + x7)), .second, .val (.long (0 : Int64)), .second, .val (.int (1 : Int32)), .unset, .unset, .unset, .unset, .unset, .unset, .unset]
abbrev own_l193 (x0 : Int64) (x1 : Int32) (x2 : Int32) (x3 : Int32) (x4 : Int32) (x5 : Int64) (x6 : Int64) (x7 : Int64) (x8 : Addr) (x9 : Addr) : Array Slot := #[.val (.long x0), .second, .val (.int x1), .val (.int x2), .val (.int x3), .val (.int x4), .val (.int (4 : Int32)), .val (.long x5), .second, .val (.long x6), .second, .val (.long x7), .second, .val (.long (65536 : Int64)), .second, .val (.ref x8), .val (.ref x9), .val (.long x5), .second, .val (.long (x5 + x6)), .second, .val (.long ((x5 + x6) + x7)), .second, .val (.long x5), .second, .val (.int (1 : Int32)), .unset, .unset, .unset, .unset, .unset, .unset, .unset]
abbrev own_l194 (x0 : Int64) (x1 : Int32) (x2 : Int32) (x3 : Int32) (x4 : Int32) (x5 : Int64) (x6 : Int64) (x7 : Int64) (x8 : Addr) (x9 : Addr) : Array Slot := #[.val (.long x0), .second, .val (.int x1), .val (.int x2), .val (.int x3), .val (.int x4), .val (.int (4 : Int32)), .val (.long x5), .second, .val (.long x6), .second, .val (.long x7), .second, .val (.long (65536 : Int64)), .second, .val (.ref x8), .val (.ref x9), .val (.long x5), .second, .val (.long (x5 + x6)), .second, .val (.long ((x5 + x6) + x7)), .second, .val (.long x5), .second, .val (.int (1 : Int32)), .val (.int (0 : Int32)), .unset, .unset, .unset, .unset, .unset, .unset]
abbrev own_l195 (x0 : Int64) (x1 : Int32) (x2 : Int32) (x3 : Int32) (x4 : Int32) (x5 : Int64) (x6 : Int64) (x7 : Int64) (x8 : Addr) (x9 : Addr) : Array Slot := #[.val (.long x0), .second, .val (.int x1), .val (.int x2), .val (.int x3), .val (.int x4), .val (.int (4 : Int32)), .val (.long x5), .second, .val (.long x6), .second, .val (.long x7), .second, .val (.long (65536 : Int64)), .second, .val (.ref x8), .val (.ref x9), .val (.long x5), .second, .val (.long (x5 + x6)), .second, .val (.long ((x5 + x6) + x7)), .second, .val (.long x5), .second, .val (.int (1 : Int32)), .val (.int (0 : Int32)), .val (.int (0 : Int32)), .unset, .unset, .unset, .unset, .unset]
abbrev own_l196 (x0 : Int64) (x1 : Int32) (x2 : Int32) (x3 : Int32) (x4 : Int32) (x5 : Int64) (x6 : Int64) (x7 : Int64) (x8 : Addr) (x9 : Addr) : Array Slot := #[.val (.long x0), .second, .val (.int x1), .val (.int x2), .val (.int x3), .val (.int x4), .val (.int (4 : Int32)), .val (.long x5), .second, .val (.long x6), .second, .val (.long x7), .second, .val (.long (65536 : Int64)), .second, .val (.ref x8), .val (.ref x9), .val (.long x5), .second, .val (.long (x5 + x6)), .second, .val (.long ((x5 + x6) + x7)), .second, .val (.long x5), .second, .val (.int (1 : Int32)), .val (.int (0 : Int32)), .val (.int (1 : Int32)), .unset, .unset, .unset, .unset, .unset]
def own_Q3_3A (Z : State) (ax : Addr) (qz : Int64) (qt : Int64) (ap : Addr) (ar : Addr) (at' : Addr) (kp : ClassId) (ks : ClassId) (ct : Int32) (qe : Int64) (ql : Int64) (pp0 : Int32) (pp1 : Int32) (pp2 : Int32) (pp3 : Int32) (ss0 : Int64) (ss1 : Int64) (ss2 : Int64) (ss3 : Int64) (h0 : Heap) (n0 : Nat) (v : Option Value) (h : Heap) (L : List Loc) : Prop := v = none ∧ Fr n0 L ∧ Keep h0 h [ax, ap, ar, at'] ∧ own_SI Z h n0 ax ap ar at' kp ks (3 : Int32) (ct + (1 : Int32)) (qe + qz) qt pp0 pp1 pp2 pp3 ss0 ss1 ss2 ss3
set_option maxRecDepth 65536 in
set_option maxHeartbeats 40000000 in
theorem rm3_3A (l : Launch) (Z : State) (a0 : Array Value) (hw : ∀ d ∈ tables_1, d.before a0 Z = true) (ws : List Jvm.Cond) (ax : Addr) (qz : Int64) (qt : Int64) (ap : Addr) (ar : Addr) (at' : Addr) (kp : ClassId) (ks : ClassId) (ct : Int32) (qe : Int64) (ql : Int64) (pp0 : Int32) (pp1 : Int32) (pp2 : Int32) (pp3 : Int32) (ss0 : Int64) (ss1 : Int64) (ss2 : Int64) (ss3 : Int64) (h0 : Heap) (n0 : Nat) (Z0 : n0 ≤ h0.size) (B : own_SI Z h0 n0 ax ap ar at' kp ks (3 : Int32) ct qe ql pp0 pp1 pp2 pp3 ss0 ss1 ss2 ss3) (hs : (qe - ss2) < (65536 : Int64)) :
    MetFree l (⟨"com/example/coho/coho/eventlog/SegmentIndex", "add", "(JJ)V"⟩ : MethodName) (head1 (Jvm.Cond.code (⟨"com/example/coho/coho/eventlog/SegmentIndex", "add", "(JJ)V"⟩ : MethodName) prog_34_method_2_code 5 none :: ws) ({ frames := 0, cells := 0, slots := 0, locals := 0 } : Room)) (fun a U => a = #[(.ref ax), (.long qz), (.long qt)] ∧ Z.Warmed39 U.vm ∧ U.heap = h0) (fun _ _ _ _ _ => True) (fun _ U o U' => ∃ v L, o = .returned v ∧ own_Q3_3A Z ax qz qt ap ar at' kp ks ct qe ql pp0 pp1 pp2 pp3 ss0 ss1 ss2 ss3 h0 n0 v U'.heap L ∧ FrameEnd U o U' L ({ frames := 0, cells := 0, slots := 0, locals := 0 } : Room).cells ({ frames := 0, cells := 0, slots := 0, locals := 0 } : Room).slots) := by
  refine MetFree.of_bodySF (plainFor_of_name own_pn3) hisR ?_
  intro p e s m args below meth c s₁ Bd hml0 hP hK
  obtain ⟨rfl, hZ, hh⟩ := hP
  have hx := Bd.exec
  have hby := Bd.bytes
  have hml : c.maxLocals = 5 := hml0
  have hown : s.vm.findClass "com/example/coho/coho/eventlog/SegmentIndex" = some m.cls := findClass_of_methodNamed Bd.named
  have hnm := (name_of_methodNamed Bd.named Bd.method).1
  have X0 : Stand p l e ({ frames := 0, cells := 0, slots := 0, locals := 0 } : Room) s m #[(.ref ax), (.long qz), (.long qt)] below meth c s₁ [] 0 0 := Stand.of_body Bd
  have e0 : s₁.heap = h0 := by rw [← hh, Bd.state]; rfl
  have N0 := Fr.nil n0
  refine own_pre (A := (s₁.setTop (mkF m 0 #[.val (.ref ax), .val (.long qz), .second, .val (.long qt), .second] []))) (fun t k => castTop (own_ef3 m ax qz qt) k) ?_
  obtain ⟨Ea_, Fplaces_, Fstarts_, Ftimes_, Fentries_, Fcount_, Fend_, FlastTime_, Vp_, Vs_, Vt_, n0_, n1_, n2_, n3_, n4_, n5_, gg0_, gg1_, gg2_, gg3_⟩ := B
  refine own_pre (A := (s₁.setTop (mkF m 1 #[.val (.ref ax), .val (.long qz), .second, .val (.long qt), .second] [(.ref ax)]))) ?_ ?_
  · intro t k
    refine XS.aloadN X0.here hx rfl (hb hby d3_0) rfl rfl ?_
    exact k
  obtain ⟨T249, X249, e249, st249⟩ := getF X0 hx hZ hown (host := "") (Or.inl (own_w hw 29 rfl)) Via.refl e0 Fentries_ (g := (mkF m 1 #[.val (.ref ax), .val (.long qz), .second, .val (.long qt), .second] [(.ref ax)])) rfl rfl (hb hby d3_1)
  refine own_pre (fun t k => st249 t k) ?_
  refine own_pre (A := (T249.setTop (mkF m 8 #[.val (.ref ax), .val (.long qz), .second, .val (.long qt), .second] [(.ref ax)]))) ?_ ?_
  · intro t k
    refine XS.ifNo X249.here hx rfl (hb hby d3_4) rfl ((if0 _ _).trans (feq (by decide : ¬ ((3 : Int32) = (0 : Int32)))).1) ?_
    refine XS.aloadN X249.here hx rfl (hb hby d3_7) rfl rfl ?_
    exact k
  obtain ⟨T250, X250, e250, st250⟩ := getF X249 hx hZ hown (host := "") (Or.inl (own_w hw 22 rfl)) Via.refl e249 Fend_ (g := (mkF m 8 #[.val (.ref ax), .val (.long qz), .second, .val (.long qt), .second] [(.ref ax)])) rfl rfl (hb hby d3_8)
  refine own_pre (fun t k => st250 t k) ?_
  refine own_pre (A := (T250.setTop (mkF m 12 #[.val (.ref ax), .val (.long qz), .second, .val (.long qt), .second] [(.ref ax), (.long qe)]))) ?_ ?_
  · intro t k
    refine XS.aloadN X250.here hx rfl (hb hby d3_11) rfl rfl ?_
    exact k
  obtain ⟨T251, X251, e251, st251⟩ := getF X250 hx hZ hown (host := "") (Or.inl (own_w hw 15 rfl)) Via.refl e250 Fstarts_ (g := (mkF m 12 #[.val (.ref ax), .val (.long qz), .second, .val (.long qt), .second] [(.ref ax), (.long qe)])) rfl rfl (hb hby d3_12)
  refine own_pre (fun t k => st251 t k) ?_
  refine own_pre (A := (T251.setTop (mkF m 16 #[.val (.ref ax), .val (.long qz), .second, .val (.long qt), .second] [(.ref ax), (.ref ar), (.long qe)]))) ?_ ?_
  · intro t k
    refine XS.aloadN X251.here hx rfl (hb hby d3_15) rfl rfl ?_
    exact k
  obtain ⟨T252, X252, e252, st252⟩ := getF X251 hx hZ hown (host := "") (Or.inl (own_w hw 29 rfl)) Via.refl e251 Fentries_ (g := (mkF m 16 #[.val (.ref ax), .val (.long qz), .second, .val (.long qt), .second] [(.ref ax), (.ref ar), (.long qe)])) rfl rfl (hb hby d3_16)
  refine own_pre (fun t k => st252 t k) ?_
  refine own_pre (A := (T252.setTop (mkF m 100 #[.val (.ref ax), .val (.long qz), .second, .val (.long qt), .second] [(.ref ax), (.ref ax)]))) ?_ ?_
  · intro t k
    refine XS.iconst X252.here hx rfl (hb hby d3_19) ?_
    refine XS.isub X252.here hx rfl (hb hby d3_20) rfl ?_
    show Steps p.tables e below (T252.setTop (mkF m 21 #[.val (.ref ax), .val (.long qz), .second, .val (.long qt), .second] [(.int ((3 : Int32) - (1 : Int32))), (.ref ar), (.long qe)])) _
    rw [show ((3 : Int32) - (1 : Int32)) = (2 : Int32) from by decide]
    show Steps p.tables e below (T252.setTop (mkF m 21 #[.val (.ref ax), .val (.long qz), .second, .val (.long qt), .second] [(.int (2 : Int32)), (.ref ar), (.long qe)])) _
    obtain ⟨cl253, Ar253, q253, S253, N253, H253, G253⟩ := id Vs_
    have hin253 : ¬ ((2 : Int32) < 0 ∨ cl253.slots.size ≤ ((2 : Int32)).toNatClampNeg) := inb_of S253 ⟨by decide, by decide⟩
    refine X252.laload hx (j := (2 : Int32)) (v := (.long ss2)) (by rw [e252]; exact Ar253.1) (State.isArrayOf_alike hZ.alike Ar253.2.1) Ar253.2.2 hin253 (H253.at hin253 rfl) (g := (mkF m 21 #[.val (.ref ax), .val (.long qz), .second, .val (.long qt), .second] [(.int (2 : Int32)), (.ref ar), (.long qe)])) rfl rfl (hb hby d3_21) _ ?_
    refine XS.lsub X252.here hx rfl (hb hby d3_22) rfl ?_
    show Steps p.tables e below (T252.setTop (mkF m 23 #[.val (.ref ax), .val (.long qz), .second, .val (.long qt), .second] [(.long (qe - ss2))])) _
    refine X252.ldc2Long hx hown (mvT hZ (own_w hw 33 rfl)) (g := (mkF m 23 #[.val (.ref ax), .val (.long qz), .second, .val (.long qt), .second] [(.long (qe - ss2))])) rfl (hb hby d3_23) _ ?_
    refine XS.lcmp X252.here hx rfl (hb hby d3_26) rfl ?_
    refine XS.ifYes X252.here hx rfl (pc0 := 27) (pc' := 98) rfl (hb hby d3_27) rfl ((if0 _ _).trans (tlt ((lw_lt (qe - ss2) (65536 : Int64)).mpr hs)).1) (by decide) (by decide) ?_
    refine XS.aloadN X252.here hx rfl (hb hby d3_98) rfl rfl ?_
    refine XS.dup X252.here hx rfl (hb hby d3_99) rfl rfl ?_
    exact k
  obtain ⟨T254, X254, e254, st254⟩ := getF X252 hx hZ hown (host := "") (Or.inl (own_w hw 22 rfl)) Via.refl e252 Fend_ (g := (mkF m 100 #[.val (.ref ax), .val (.long qz), .second, .val (.long qt), .second] [(.ref ax), (.ref ax)])) rfl rfl (hb hby d3_100)
  refine own_pre (fun t k => st254 t k) ?_
  refine own_pre (A := (T254.setTop (mkF m 105 #[.val (.ref ax), .val (.long qz), .second, .val (.long qt), .second] [(.long (qe + qz)), (.ref ax)]))) ?_ ?_
  · intro t k
    refine XS.lloadN X254.here hx rfl (hb hby d3_103) rfl ?_
    refine XS.ladd X254.here hx rfl (hb hby d3_104) rfl ?_
    exact k
  obtain ⟨T255, h255, X255, e255, W255, st255⟩ := putF X254 hx hZ hown (host := "") (Or.inl (own_w hw 22 rfl)) Via.refl e254 Fend_ Ea_ (Or.inl (own_w hw 23 rfl)) (own_w hw 4 rfl) (ty := .long) (by decide) rfl rfl (g := (mkF m 105 #[.val (.ref ax), .val (.long qz), .second, .val (.long qt), .second] [(.long (qe + qz)), (.ref ax)])) rfl rfl (hb hby d3_105)
  have Ea__255 := Ea_.wr W255
  have Fplaces__255 := Fplaces_.other W255 (Or.inr (slot_ne (Or.inl (own_w hw 13 rfl)) (Or.inl (own_w hw 23 rfl)) (by decide) (t := (.array .int)) (t' := .long) (by decide) (by decide)))
  have Fstarts__255 := Fstarts_.other W255 (Or.inr (slot_ne (Or.inl (own_w hw 16 rfl)) (Or.inl (own_w hw 23 rfl)) (by decide) (t := (.array .long)) (t' := .long) (by decide) (by decide)))
  have Ftimes__255 := Ftimes_.other W255 (Or.inr (slot_ne (Or.inl (own_w hw 18 rfl)) (Or.inl (own_w hw 23 rfl)) (by decide) (t := (.array .long)) (t' := .long) (by decide) (by decide)))
  have Fentries__255 := Fentries_.other W255 (Or.inr (slot_ne (Or.inl (own_w hw 30 rfl)) (Or.inl (own_w hw 23 rfl)) (by decide) (t := .int) (t' := .long) (by decide) (by decide)))
  have Fcount__255 := Fcount_.other W255 (Or.inr (slot_ne (Or.inl (own_w hw 32 rfl)) (Or.inl (own_w hw 23 rfl)) (by decide) (t := .int) (t' := .long) (by decide) (by decide)))
  have FlastTime__255 := FlastTime_.other W255 (Or.inr (slot_ne (Or.inl (own_w hw 21 rfl)) (Or.inl (own_w hw 23 rfl)) (by decide) (t := .long) (t' := .long) (by decide) (by decide)))
  have Vp__255 := Vp_.other W255 n0_.symm
  have Vs__255 := Vs_.other W255 n1_.symm
  have Vt__255 := Vt_.other W255 n2_.symm
  have Kc255 : Keep h0 h255 [ax, ap, ar, at'] := (Keep.refl h0 [ax, ap, ar, at']).wr W255 (Or.inl (List.mem_of_getElem? (i := 0) rfl))
  have N255 := Fr.snoc X255 N0 gg0_
  have Fw255 := Fend_.same W255
  refine own_pre (fun t k => st255 t k) ?_
  refine own_pre (A := (T255.setTop (mkF m 110 #[.val (.ref ax), .val (.long qz), .second, .val (.long qt), .second] [(.long qt), (.ref ax)]))) ?_ ?_
  · intro t k
    refine XS.aloadN X255.here hx rfl (hb hby d3_108) rfl rfl ?_
    refine XS.lloadN X255.here hx rfl (hb hby d3_109) rfl ?_
    exact k
  obtain ⟨T256, h256, X256, e256, W256, st256⟩ := putF X255 hx hZ hown (host := "") (Or.inl (own_w hw 20 rfl)) Via.refl e255 FlastTime__255 Ea__255 (Or.inl (own_w hw 21 rfl)) (own_w hw 4 rfl) (ty := .long) (by decide) rfl rfl (g := (mkF m 110 #[.val (.ref ax), .val (.long qz), .second, .val (.long qt), .second] [(.long qt), (.ref ax)])) rfl rfl (hb hby d3_110)
  have Ea__256 := Ea__255.wr W256
  have Fplaces__256 := Fplaces__255.other W256 (Or.inr (slot_ne (Or.inl (own_w hw 13 rfl)) (Or.inl (own_w hw 21 rfl)) (by decide) (t := (.array .int)) (t' := .long) (by decide) (by decide)))
  have Fstarts__256 := Fstarts__255.other W256 (Or.inr (slot_ne (Or.inl (own_w hw 16 rfl)) (Or.inl (own_w hw 21 rfl)) (by decide) (t := (.array .long)) (t' := .long) (by decide) (by decide)))
  have Ftimes__256 := Ftimes__255.other W256 (Or.inr (slot_ne (Or.inl (own_w hw 18 rfl)) (Or.inl (own_w hw 21 rfl)) (by decide) (t := (.array .long)) (t' := .long) (by decide) (by decide)))
  have Fentries__256 := Fentries__255.other W256 (Or.inr (slot_ne (Or.inl (own_w hw 30 rfl)) (Or.inl (own_w hw 21 rfl)) (by decide) (t := .int) (t' := .long) (by decide) (by decide)))
  have Fcount__256 := Fcount__255.other W256 (Or.inr (slot_ne (Or.inl (own_w hw 32 rfl)) (Or.inl (own_w hw 21 rfl)) (by decide) (t := .int) (t' := .long) (by decide) (by decide)))
  have Fw255_256 := Fw255.other W256 (Or.inr (slot_ne (Or.inl (own_w hw 23 rfl)) (Or.inl (own_w hw 21 rfl)) (by decide) (t := .long) (t' := .long) (by decide) (by decide)))
  have Vp__256 := Vp__255.other W256 n0_.symm
  have Vs__256 := Vs__255.other W256 n1_.symm
  have Vt__256 := Vt__255.other W256 n2_.symm
  have Kc256 : Keep h0 h256 [ax, ap, ar, at'] := Kc255.wr W256 (Or.inl (List.mem_of_getElem? (i := 0) rfl))
  have N256 := Fr.snoc X256 N255 gg0_
  have Fw256 := FlastTime__255.same W256
  refine own_pre (fun t k => st256 t k) ?_
  refine own_pre (A := (T256.setTop (mkF m 115 #[.val (.ref ax), .val (.long qz), .second, .val (.long qt), .second] [(.ref ax), (.ref ax)]))) ?_ ?_
  · intro t k
    refine XS.aloadN X256.here hx rfl (hb hby d3_113) rfl rfl ?_
    refine XS.dup X256.here hx rfl (hb hby d3_114) rfl rfl ?_
    exact k
  obtain ⟨T257, X257, e257, st257⟩ := getF X256 hx hZ hown (host := "") (Or.inl (own_w hw 31 rfl)) Via.refl e256 Fcount__256 (g := (mkF m 115 #[.val (.ref ax), .val (.long qz), .second, .val (.long qt), .second] [(.ref ax), (.ref ax)])) rfl rfl (hb hby d3_115)
  refine own_pre (fun t k => st257 t k) ?_
  refine own_pre (A := (T257.setTop (mkF m 120 #[.val (.ref ax), .val (.long qz), .second, .val (.long qt), .second] [(.int (ct + (1 : Int32))), (.ref ax)]))) ?_ ?_
  · intro t k
    refine XS.iconst X257.here hx rfl (hb hby d3_118) ?_
    refine XS.iadd X257.here hx rfl (hb hby d3_119) rfl ?_
    exact k
  obtain ⟨T258, h258, X258, e258, W258, st258⟩ := putF X257 hx hZ hown (host := "") (Or.inl (own_w hw 31 rfl)) Via.refl e257 Fcount__256 Ea__256 (Or.inl (own_w hw 32 rfl)) (own_w hw 4 rfl) (ty := .int) (by decide) rfl rfl (g := (mkF m 120 #[.val (.ref ax), .val (.long qz), .second, .val (.long qt), .second] [(.int (ct + (1 : Int32))), (.ref ax)])) rfl rfl (hb hby d3_120)
  have Ea__258 := Ea__256.wr W258
  have Fplaces__258 := Fplaces__256.other W258 (Or.inr (slot_ne (Or.inl (own_w hw 13 rfl)) (Or.inl (own_w hw 32 rfl)) (by decide) (t := (.array .int)) (t' := .int) (by decide) (by decide)))
  have Fstarts__258 := Fstarts__256.other W258 (Or.inr (slot_ne (Or.inl (own_w hw 16 rfl)) (Or.inl (own_w hw 32 rfl)) (by decide) (t := (.array .long)) (t' := .int) (by decide) (by decide)))
  have Ftimes__258 := Ftimes__256.other W258 (Or.inr (slot_ne (Or.inl (own_w hw 18 rfl)) (Or.inl (own_w hw 32 rfl)) (by decide) (t := (.array .long)) (t' := .int) (by decide) (by decide)))
  have Fentries__258 := Fentries__256.other W258 (Or.inr (slot_ne (Or.inl (own_w hw 30 rfl)) (Or.inl (own_w hw 32 rfl)) (by decide) (t := .int) (t' := .int) (by decide) (by decide)))
  have Fw255_258 := Fw255_256.other W258 (Or.inr (slot_ne (Or.inl (own_w hw 23 rfl)) (Or.inl (own_w hw 32 rfl)) (by decide) (t := .long) (t' := .int) (by decide) (by decide)))
  have Fw256_258 := Fw256.other W258 (Or.inr (slot_ne (Or.inl (own_w hw 21 rfl)) (Or.inl (own_w hw 32 rfl)) (by decide) (t := .long) (t' := .int) (by decide) (by decide)))
  have Vp__258 := Vp__256.other W258 n0_.symm
  have Vs__258 := Vs__256.other W258 n1_.symm
  have Vt__258 := Vt__256.other W258 n2_.symm
  have Kc258 : Keep h0 h258 [ax, ap, ar, at'] := Kc256.wr W258 (Or.inl (List.mem_of_getElem? (i := 0) rfl))
  have N258 := Fr.snoc X258 N256 gg0_
  have Fw258 := Fcount__256.same W258
  refine own_pre (fun t k => st258 t k) ?_
  obtain ⟨fs, hr, hrun, hended, hW, hsame⟩ := X258.leave (hlocks := BodyLoose.notSynchronized Bd) (v := none) (fun _ => rfl)
  refine ⟨_, _, X258.returnOut hx Bd.returns (hb hby d3_123) hr, hrun, hended, _, _, rfl, ?_, ⟨_, rfl⟩, hW, hsame.mono (by decide) (by decide)⟩
  show own_Q3_3A Z ax qz qt ap ar at' kp ks ct qe ql pp0 pp1 pp2 pp3 ss0 ss1 ss2 ss3 h0 n0 _ T258.heap _
  rw [e258]
  exact ⟨rfl, N258, Kc258, ⟨Ea__258, Fplaces__258, Fstarts__258, Ftimes__258, Fentries__258, Fw258, Fw255_258, Fw256_258, Vp__258, Vs__258, Vt__258, n0_, n1_, n2_, n3_, n4_, n5_, gg0_, gg1_, gg2_, gg3_⟩⟩
abbrev own_l197 (x0 : Int64) (x1 : Int32) (x2 : Int32) (x3 : Int32) (x4 : Int32) (x5 : Int64) (x6 : Int64) (x7 : Int64) (x8 : Addr) (x9 : Addr) : Array Slot := #[.val (.long x0), .second, .val (.int x1), .val (.int x2), .val (.int x3), .val (.int x4), .val (.int (4 : Int32)), .val (.long x5), .second, .val (.long x6), .second, .val (.long x7), .second, .val (.long (65536 : Int64)), .second, .val (.ref x8), .val (.ref x9), .val (.long x5), .second, .val (.long (x5 + x6)), .second, .val (.long ((x5 + x6) + x7)), .second, .val (.long x5), .second, .val (.int (1 : Int32)), .val (.int (1 : Int32)), .unset, .unset, .unset, .unset, .unset, .unset]
abbrev own_l198 (x0 : Int64) (x1 : Int32) (x2 : Int32) (x3 : Int32) (x4 : Int32) (x5 : Int64) (x6 : Int64) (x7 : Int64) (x8 : Addr) (x9 : Addr) : Array Slot := #[.val (.long x0), .second, .val (.int x1), .val (.int x2), .val (.int x3), .val (.int x4), .val (.int (4 : Int32)), .val (.long x5), .second, .val (.long x6), .second, .val (.long x7), .second, .val (.long (65536 : Int64)), .second, .val (.ref x8), .val (.ref x9), .val (.long x5), .second, .val (.long (x5 + x6)), .second, .val (.long ((x5 + x6) + x7)), .second, .val (.long (x5 + x6)), .second, .val (.int (1 : Int32)), .val (.int (1 : Int32)), .unset, .unset, .unset, .unset, .unset, .unset]
abbrev own_l199 (x0 : Int64) (x1 : Int32) (x2 : Int32) (x3 : Int32) (x4 : Int32) (x5 : Int64) (x6 : Int64) (x7 : Int64) (x8 : Addr) (x9 : Addr) : Array Slot := #[.val (.long x0), .second, .val (.int x1), .val (.int x2), .val (.int x3), .val (.int x4), .val (.int (4 : Int32)), .val (.long x5), .second, .val (.long x6), .second, .val (.long x7), .second, .val (.long (65536 : Int64)), .second, .val (.ref x8), .val (.ref x9), .val (.long x5), .second, .val (.long (x5 + x6)), .second, .val (.long ((x5 + x6) + x7)), .second, .val (.long (x5 + x6)), .second, .val (.int (1 : Int32)), .val (.int (1 : Int32)), .val (.int (0 : Int32)), .unset, .unset, .unset, .unset, .unset]
def own_Q3_3B (Z : State) (ax : Addr) (qz : Int64) (qt : Int64) (ap : Addr) (ar : Addr) (at' : Addr) (kp : ClassId) (ks : ClassId) (ct : Int32) (qe : Int64) (ql : Int64) (pp0 : Int32) (pp1 : Int32) (pp2 : Int32) (pp3 : Int32) (ss0 : Int64) (ss1 : Int64) (ss2 : Int64) (ss3 : Int64) (h0 : Heap) (n0 : Nat) (v : Option Value) (h : Heap) (L : List Loc) : Prop := v = none ∧ Fr n0 L ∧ Keep h0 h [ax, ap, ar, at'] ∧ own_SI Z h n0 ax ap ar at' kp ks (4 : Int32) (ct + (1 : Int32)) (qe + qz) qt pp0 pp1 pp2 ct ss0 ss1 ss2 qe
set_option maxRecDepth 65536 in
set_option maxHeartbeats 40000000 in
theorem rm3_3B (l : Launch) (Z : State) (a0 : Array Value) (hw : ∀ d ∈ tables_1, d.before a0 Z = true) (ws : List Jvm.Cond) (ax : Addr) (qz : Int64) (qt : Int64) (ap : Addr) (ar : Addr) (at' : Addr) (kp : ClassId) (ks : ClassId) (ct : Int32) (qe : Int64) (ql : Int64) (pp0 : Int32) (pp1 : Int32) (pp2 : Int32) (pp3 : Int32) (ss0 : Int64) (ss1 : Int64) (ss2 : Int64) (ss3 : Int64) (h0 : Heap) (n0 : Nat) (Z0 : n0 ≤ h0.size) (B : own_SI Z h0 n0 ax ap ar at' kp ks (3 : Int32) ct qe ql pp0 pp1 pp2 pp3 ss0 ss1 ss2 ss3) (hs : ¬ (qe - ss2) < (65536 : Int64)) :
    MetFree l (⟨"com/example/coho/coho/eventlog/SegmentIndex", "add", "(JJ)V"⟩ : MethodName) (head1 (Jvm.Cond.code (⟨"com/example/coho/coho/eventlog/SegmentIndex", "add", "(JJ)V"⟩ : MethodName) prog_34_method_2_code 5 none :: ws) ({ frames := 0, cells := 0, slots := 0, locals := 0 } : Room)) (fun a U => a = #[(.ref ax), (.long qz), (.long qt)] ∧ Z.Warmed39 U.vm ∧ U.heap = h0) (fun _ _ _ _ _ => True) (fun _ U o U' => ∃ v L, o = .returned v ∧ own_Q3_3B Z ax qz qt ap ar at' kp ks ct qe ql pp0 pp1 pp2 pp3 ss0 ss1 ss2 ss3 h0 n0 v U'.heap L ∧ FrameEnd U o U' L ({ frames := 0, cells := 0, slots := 0, locals := 0 } : Room).cells ({ frames := 0, cells := 0, slots := 0, locals := 0 } : Room).slots) := by
  refine MetFree.of_bodySF (plainFor_of_name own_pn3) hisR ?_
  intro p e s m args below meth c s₁ Bd hml0 hP hK
  obtain ⟨rfl, hZ, hh⟩ := hP
  have hx := Bd.exec
  have hby := Bd.bytes
  have hml : c.maxLocals = 5 := hml0
  have hown : s.vm.findClass "com/example/coho/coho/eventlog/SegmentIndex" = some m.cls := findClass_of_methodNamed Bd.named
  have hnm := (name_of_methodNamed Bd.named Bd.method).1
  have X0 : Stand p l e ({ frames := 0, cells := 0, slots := 0, locals := 0 } : Room) s m #[(.ref ax), (.long qz), (.long qt)] below meth c s₁ [] 0 0 := Stand.of_body Bd
  have e0 : s₁.heap = h0 := by rw [← hh, Bd.state]; rfl
  have N0 := Fr.nil n0
  refine own_pre (A := (s₁.setTop (mkF m 0 #[.val (.ref ax), .val (.long qz), .second, .val (.long qt), .second] []))) (fun t k => castTop (own_ef3 m ax qz qt) k) ?_
  obtain ⟨Ea_, Fplaces_, Fstarts_, Ftimes_, Fentries_, Fcount_, Fend_, FlastTime_, Vp_, Vs_, Vt_, n0_, n1_, n2_, n3_, n4_, n5_, gg0_, gg1_, gg2_, gg3_⟩ := B
  refine own_pre (A := (s₁.setTop (mkF m 1 #[.val (.ref ax), .val (.long qz), .second, .val (.long qt), .second] [(.ref ax)]))) ?_ ?_
  · intro t k
    refine XS.aloadN X0.here hx rfl (hb hby d3_0) rfl rfl ?_
    exact k
  obtain ⟨T260, X260, e260, st260⟩ := getF X0 hx hZ hown (host := "") (Or.inl (own_w hw 29 rfl)) Via.refl e0 Fentries_ (g := (mkF m 1 #[.val (.ref ax), .val (.long qz), .second, .val (.long qt), .second] [(.ref ax)])) rfl rfl (hb hby d3_1)
  refine own_pre (fun t k => st260 t k) ?_
  refine own_pre (A := (T260.setTop (mkF m 8 #[.val (.ref ax), .val (.long qz), .second, .val (.long qt), .second] [(.ref ax)]))) ?_ ?_
  · intro t k
    refine XS.ifNo X260.here hx rfl (hb hby d3_4) rfl ((if0 _ _).trans (feq (by decide : ¬ ((3 : Int32) = (0 : Int32)))).1) ?_
    refine XS.aloadN X260.here hx rfl (hb hby d3_7) rfl rfl ?_
    exact k
  obtain ⟨T261, X261, e261, st261⟩ := getF X260 hx hZ hown (host := "") (Or.inl (own_w hw 22 rfl)) Via.refl e260 Fend_ (g := (mkF m 8 #[.val (.ref ax), .val (.long qz), .second, .val (.long qt), .second] [(.ref ax)])) rfl rfl (hb hby d3_8)
  refine own_pre (fun t k => st261 t k) ?_
  refine own_pre (A := (T261.setTop (mkF m 12 #[.val (.ref ax), .val (.long qz), .second, .val (.long qt), .second] [(.ref ax), (.long qe)]))) ?_ ?_
  · intro t k
    refine XS.aloadN X261.here hx rfl (hb hby d3_11) rfl rfl ?_
    exact k
  obtain ⟨T262, X262, e262, st262⟩ := getF X261 hx hZ hown (host := "") (Or.inl (own_w hw 15 rfl)) Via.refl e261 Fstarts_ (g := (mkF m 12 #[.val (.ref ax), .val (.long qz), .second, .val (.long qt), .second] [(.ref ax), (.long qe)])) rfl rfl (hb hby d3_12)
  refine own_pre (fun t k => st262 t k) ?_
  refine own_pre (A := (T262.setTop (mkF m 16 #[.val (.ref ax), .val (.long qz), .second, .val (.long qt), .second] [(.ref ax), (.ref ar), (.long qe)]))) ?_ ?_
  · intro t k
    refine XS.aloadN X262.here hx rfl (hb hby d3_15) rfl rfl ?_
    exact k
  obtain ⟨T263, X263, e263, st263⟩ := getF X262 hx hZ hown (host := "") (Or.inl (own_w hw 29 rfl)) Via.refl e262 Fentries_ (g := (mkF m 16 #[.val (.ref ax), .val (.long qz), .second, .val (.long qt), .second] [(.ref ax), (.ref ar), (.long qe)])) rfl rfl (hb hby d3_16)
  refine own_pre (fun t k => st263 t k) ?_
  refine own_pre (A := (T263.setTop (mkF m 31 #[.val (.ref ax), .val (.long qz), .second, .val (.long qt), .second] [(.ref ax)]))) ?_ ?_
  · intro t k
    refine XS.iconst X263.here hx rfl (hb hby d3_19) ?_
    refine XS.isub X263.here hx rfl (hb hby d3_20) rfl ?_
    show Steps p.tables e below (T263.setTop (mkF m 21 #[.val (.ref ax), .val (.long qz), .second, .val (.long qt), .second] [(.int ((3 : Int32) - (1 : Int32))), (.ref ar), (.long qe)])) _
    rw [show ((3 : Int32) - (1 : Int32)) = (2 : Int32) from by decide]
    show Steps p.tables e below (T263.setTop (mkF m 21 #[.val (.ref ax), .val (.long qz), .second, .val (.long qt), .second] [(.int (2 : Int32)), (.ref ar), (.long qe)])) _
    obtain ⟨cl264, Ar264, q264, S264, N264, H264, G264⟩ := id Vs_
    have hin264 : ¬ ((2 : Int32) < 0 ∨ cl264.slots.size ≤ ((2 : Int32)).toNatClampNeg) := inb_of S264 ⟨by decide, by decide⟩
    refine X263.laload hx (j := (2 : Int32)) (v := (.long ss2)) (by rw [e263]; exact Ar264.1) (State.isArrayOf_alike hZ.alike Ar264.2.1) Ar264.2.2 hin264 (H264.at hin264 rfl) (g := (mkF m 21 #[.val (.ref ax), .val (.long qz), .second, .val (.long qt), .second] [(.int (2 : Int32)), (.ref ar), (.long qe)])) rfl rfl (hb hby d3_21) _ ?_
    refine XS.lsub X263.here hx rfl (hb hby d3_22) rfl ?_
    show Steps p.tables e below (T263.setTop (mkF m 23 #[.val (.ref ax), .val (.long qz), .second, .val (.long qt), .second] [(.long (qe - ss2))])) _
    refine X263.ldc2Long hx hown (mvT hZ (own_w hw 33 rfl)) (g := (mkF m 23 #[.val (.ref ax), .val (.long qz), .second, .val (.long qt), .second] [(.long (qe - ss2))])) rfl (hb hby d3_23) _ ?_
    refine XS.lcmp X263.here hx rfl (hb hby d3_26) rfl ?_
    refine XS.ifNo X263.here hx rfl (hb hby d3_27) rfl ((if0 _ _).trans (flt (fun q => hs ((lw_lt (qe - ss2) (65536 : Int64)).mp q))).1) ?_
    refine XS.aloadN X263.here hx rfl (hb hby d3_30) rfl rfl ?_
    exact k
  obtain ⟨T265, X265, e265, st265⟩ := getF X263 hx hZ hown (host := "") (Or.inl (own_w hw 29 rfl)) Via.refl e263 Fentries_ (g := (mkF m 31 #[.val (.ref ax), .val (.long qz), .second, .val (.long qt), .second] [(.ref ax)])) rfl rfl (hb hby d3_31)
  refine own_pre (fun t k => st265 t k) ?_
  refine own_pre (A := (T265.setTop (mkF m 35 #[.val (.ref ax), .val (.long qz), .second, .val (.long qt), .second] [(.ref ax), (.int (3 : Int32))]))) ?_ ?_
  · intro t k
    refine XS.aloadN X265.here hx rfl (hb hby d3_34) rfl rfl ?_
    exact k
  obtain ⟨T266, X266, e266, st266⟩ := getF X265 hx hZ hown (host := "") (Or.inl (own_w hw 12 rfl)) Via.refl e265 Fplaces_ (g := (mkF m 35 #[.val (.ref ax), .val (.long qz), .second, .val (.long qt), .second] [(.ref ax), (.int (3 : Int32))])) rfl rfl (hb hby d3_35)
  refine own_pre (fun t k => st266 t k) ?_
  refine own_pre (A := (T266.setTop (mkF m 53 #[.val (.ref ax), .val (.long qz), .second, .val (.long qt), .second] [(.ref ax)]))) ?_ ?_
  · intro t k
    show Steps p.tables e below (T266.setTop (mkF m 38 #[.val (.ref ax), .val (.long qz), .second, .val (.long qt), .second] [(.ref ap), (.int (3 : Int32))])) _
    obtain ⟨cl267, Ar267, -, S267, N267, -, -⟩ := id Vp_
    refine X266.arraylength hx (by rw [e266]; exact Ar267.1) (State.isArrayOf_alike hZ.alike Ar267.2.1) (g := (mkF m 38 #[.val (.ref ax), .val (.long qz), .second, .val (.long qt), .second] [(.ref ap), (.int (3 : Int32))])) rfl rfl (hb hby d3_38) _ ?_
    rw [len_of S267 N267]
    refine XS.icmpYes X266.here hx rfl (pc0 := 39) (pc' := 52) rfl (hb hby d3_39) rfl (feq (by decide : ¬ ((3 : Int32) = (4 : Int32)))).2 (by decide) (by decide) ?_
    refine XS.aloadN X266.here hx rfl (hb hby d3_52) rfl rfl ?_
    exact k
  obtain ⟨T268, X268, e268, st268⟩ := getF X266 hx hZ hown (host := "") (Or.inl (own_w hw 12 rfl)) Via.refl e266 Fplaces_ (g := (mkF m 53 #[.val (.ref ax), .val (.long qz), .second, .val (.long qt), .second] [(.ref ax)])) rfl rfl (hb hby d3_53)
  refine own_pre (fun t k => st268 t k) ?_
  refine own_pre (A := (T268.setTop (mkF m 57 #[.val (.ref ax), .val (.long qz), .second, .val (.long qt), .second] [(.ref ax), (.ref ap)]))) ?_ ?_
  · intro t k
    refine XS.aloadN X268.here hx rfl (hb hby d3_56) rfl rfl ?_
    exact k
  obtain ⟨T269, X269, e269, st269⟩ := getF X268 hx hZ hown (host := "") (Or.inl (own_w hw 29 rfl)) Via.refl e268 Fentries_ (g := (mkF m 57 #[.val (.ref ax), .val (.long qz), .second, .val (.long qt), .second] [(.ref ax), (.ref ap)])) rfl rfl (hb hby d3_57)
  refine own_pre (fun t k => st269 t k) ?_
  refine own_pre (A := (T269.setTop (mkF m 61 #[.val (.ref ax), .val (.long qz), .second, .val (.long qt), .second] [(.ref ax), (.int (3 : Int32)), (.ref ap)]))) ?_ ?_
  · intro t k
    refine XS.aloadN X269.here hx rfl (hb hby d3_60) rfl rfl ?_
    exact k
  obtain ⟨T270, X270, e270, st270⟩ := getF X269 hx hZ hown (host := "") (Or.inl (own_w hw 31 rfl)) Via.refl e269 Fcount_ (g := (mkF m 61 #[.val (.ref ax), .val (.long qz), .second, .val (.long qt), .second] [(.ref ax), (.int (3 : Int32)), (.ref ap)])) rfl rfl (hb hby d3_61)
  refine own_pre (fun t k => st270 t k) ?_
  obtain ⟨cl271, Ar271, q271, S271, N271, H271, G271⟩ := Vp_
  have hin271 : ¬ ((3 : Int32) < 0 ∨ cl271.slots.size ≤ ((3 : Int32)).toNatClampNeg) := inb_of S271 ⟨by decide, by decide⟩
  obtain ⟨T271, h271, X271, e271, W271, st271⟩ := stI X270 hx hZ e270 Ar271 (j := (3 : Int32)) hin271 (g := (mkF m 64 #[.val (.ref ax), .val (.long qz), .second, .val (.long qt), .second] [(.int ct), (.int (3 : Int32)), (.ref ap)])) rfl rfl (hb hby d3_64)
  have V271 : Arv Z h271 ap kp .int (4 : Int32) [(.int pp0), (.int pp1), (.int pp2), (.int ct)] (.int (0 : Int32)) := Arv.set Ar271 q271 S271 N271 H271 G271 rfl W271 3 rfl (Nat.le_of_ble_eq_true rfl)
  have Ea__271 := Ea_.wr W271
  have Fplaces__271 := Fplaces_.other W271 (Or.inl n0_)
  have Fstarts__271 := Fstarts_.other W271 (Or.inl n0_)
  have Ftimes__271 := Ftimes_.other W271 (Or.inl n0_)
  have Fentries__271 := Fentries_.other W271 (Or.inl n0_)
  have Fcount__271 := Fcount_.other W271 (Or.inl n0_)
  have Fend__271 := Fend_.other W271 (Or.inl n0_)
  have FlastTime__271 := FlastTime_.other W271 (Or.inl n0_)
  have Vs__271 := Vs_.other W271 n3_.symm
  have Vt__271 := Vt_.other W271 n4_.symm
  have Kc271 : Keep h0 h271 [ax, ap, ar, at'] := (Keep.refl h0 [ax, ap, ar, at']).wr W271 (Or.inl (List.mem_of_getElem? (i := 1) rfl))
  have N271 := Fr.snoc X271 N0 gg1_
  refine own_pre (fun t k => st271 t k) ?_
  refine own_pre (A := (T271.setTop (mkF m 66 #[.val (.ref ax), .val (.long qz), .second, .val (.long qt), .second] [(.ref ax)]))) ?_ ?_
  · intro t k
    refine XS.aloadN X271.here hx rfl (hb hby d3_65) rfl rfl ?_
    exact k
  obtain ⟨T272, X272, e272, st272⟩ := getF X271 hx hZ hown (host := "") (Or.inl (own_w hw 15 rfl)) Via.refl e271 Fstarts__271 (g := (mkF m 66 #[.val (.ref ax), .val (.long qz), .second, .val (.long qt), .second] [(.ref ax)])) rfl rfl (hb hby d3_66)
  refine own_pre (fun t k => st272 t k) ?_
  refine own_pre (A := (T272.setTop (mkF m 70 #[.val (.ref ax), .val (.long qz), .second, .val (.long qt), .second] [(.ref ax), (.ref ar)]))) ?_ ?_
  · intro t k
    refine XS.aloadN X272.here hx rfl (hb hby d3_69) rfl rfl ?_
    exact k
  obtain ⟨T273, X273, e273, st273⟩ := getF X272 hx hZ hown (host := "") (Or.inl (own_w hw 29 rfl)) Via.refl e272 Fentries__271 (g := (mkF m 70 #[.val (.ref ax), .val (.long qz), .second, .val (.long qt), .second] [(.ref ax), (.ref ar)])) rfl rfl (hb hby d3_70)
  refine own_pre (fun t k => st273 t k) ?_
  refine own_pre (A := (T273.setTop (mkF m 74 #[.val (.ref ax), .val (.long qz), .second, .val (.long qt), .second] [(.ref ax), (.int (3 : Int32)), (.ref ar)]))) ?_ ?_
  · intro t k
    refine XS.aloadN X273.here hx rfl (hb hby d3_73) rfl rfl ?_
    exact k
  obtain ⟨T274, X274, e274, st274⟩ := getF X273 hx hZ hown (host := "") (Or.inl (own_w hw 22 rfl)) Via.refl e273 Fend__271 (g := (mkF m 74 #[.val (.ref ax), .val (.long qz), .second, .val (.long qt), .second] [(.ref ax), (.int (3 : Int32)), (.ref ar)])) rfl rfl (hb hby d3_74)
  refine own_pre (fun t k => st274 t k) ?_
  obtain ⟨cl275, Ar275, q275, S275, N275, H275, G275⟩ := Vs__271
  have hin275 : ¬ ((3 : Int32) < 0 ∨ cl275.slots.size ≤ ((3 : Int32)).toNatClampNeg) := inb_of S275 ⟨by decide, by decide⟩
  obtain ⟨T275, h275, X275, e275, W275, st275⟩ := stJ X274 hx hZ e274 Ar275 (j := (3 : Int32)) hin275 (g := (mkF m 77 #[.val (.ref ax), .val (.long qz), .second, .val (.long qt), .second] [(.long qe), (.int (3 : Int32)), (.ref ar)])) rfl rfl (hb hby d3_77)
  have V275 : Arv Z h275 ar ks .long (4 : Int32) [(.long ss0), (.long ss1), (.long ss2), (.long qe)] (.long (0 : Int64)) := Arv.set Ar275 q275 S275 N275 H275 G275 rfl W275 3 rfl (Nat.le_of_ble_eq_true rfl)
  have Ea__275 := Ea__271.wr W275
  have Fplaces__275 := Fplaces__271.other W275 (Or.inl n1_)
  have Fstarts__275 := Fstarts__271.other W275 (Or.inl n1_)
  have Ftimes__275 := Ftimes__271.other W275 (Or.inl n1_)
  have Fentries__275 := Fentries__271.other W275 (Or.inl n1_)
  have Fcount__275 := Fcount__271.other W275 (Or.inl n1_)
  have Fend__275 := Fend__271.other W275 (Or.inl n1_)
  have FlastTime__275 := FlastTime__271.other W275 (Or.inl n1_)
  have V271_275 := V271.other W275 n3_
  have Vt__275 := Vt__271.other W275 n5_.symm
  have Kc275 : Keep h0 h275 [ax, ap, ar, at'] := Kc271.wr W275 (Or.inl (List.mem_of_getElem? (i := 2) rfl))
  have N275 := Fr.snoc X275 N271 gg2_
  refine own_pre (fun t k => st275 t k) ?_
  refine own_pre (A := (T275.setTop (mkF m 79 #[.val (.ref ax), .val (.long qz), .second, .val (.long qt), .second] [(.ref ax)]))) ?_ ?_
  · intro t k
    refine XS.aloadN X275.here hx rfl (hb hby d3_78) rfl rfl ?_
    exact k
  obtain ⟨T276, X276, e276, st276⟩ := getF X275 hx hZ hown (host := "") (Or.inl (own_w hw 17 rfl)) Via.refl e275 Ftimes__275 (g := (mkF m 79 #[.val (.ref ax), .val (.long qz), .second, .val (.long qt), .second] [(.ref ax)])) rfl rfl (hb hby d3_79)
  refine own_pre (fun t k => st276 t k) ?_
  refine own_pre (A := (T276.setTop (mkF m 83 #[.val (.ref ax), .val (.long qz), .second, .val (.long qt), .second] [(.ref ax), (.ref at')]))) ?_ ?_
  · intro t k
    refine XS.aloadN X276.here hx rfl (hb hby d3_82) rfl rfl ?_
    exact k
  obtain ⟨T277, X277, e277, st277⟩ := getF X276 hx hZ hown (host := "") (Or.inl (own_w hw 29 rfl)) Via.refl e276 Fentries__275 (g := (mkF m 83 #[.val (.ref ax), .val (.long qz), .second, .val (.long qt), .second] [(.ref ax), (.ref at')])) rfl rfl (hb hby d3_83)
  refine own_pre (fun t k => st277 t k) ?_
  refine own_pre (A := (T277.setTop (mkF m 87 #[.val (.ref ax), .val (.long qz), .second, .val (.long qt), .second] [(.long qt), (.int (3 : Int32)), (.ref at')]))) ?_ ?_
  · intro t k
    refine XS.lloadN X277.here hx rfl (hb hby d3_86) rfl ?_
    exact k
  obtain ⟨cl278, Ar278, S278, N278⟩ := Vt__275
  have hin278 : ¬ ((3 : Int32) < 0 ∨ cl278.slots.size ≤ ((3 : Int32)).toNatClampNeg) := inb_of S278 ⟨by decide, by decide⟩
  obtain ⟨T278, h278, X278, e278, W278, st278⟩ := stJ X277 hx hZ e277 Ar278 (j := (3 : Int32)) hin278 (g := (mkF m 87 #[.val (.ref ax), .val (.long qz), .second, .val (.long qt), .second] [(.long qt), (.int (3 : Int32)), (.ref at')])) rfl rfl (hb hby d3_87)
  have V278 : own_Al Z h278 at' .long (4 : Int32) := ⟨_, Ar278.same W278, (sz_set _ _ _).trans S278, N278⟩
  have Ea__278 := Ea__275.wr W278
  have Fplaces__278 := Fplaces__275.other W278 (Or.inl n2_)
  have Fstarts__278 := Fstarts__275.other W278 (Or.inl n2_)
  have Ftimes__278 := Ftimes__275.other W278 (Or.inl n2_)
  have Fentries__278 := Fentries__275.other W278 (Or.inl n2_)
  have Fcount__278 := Fcount__275.other W278 (Or.inl n2_)
  have Fend__278 := Fend__275.other W278 (Or.inl n2_)
  have FlastTime__278 := FlastTime__275.other W278 (Or.inl n2_)
  have V271_278 := V271_275.other W278 n4_
  have V275_278 := V275.other W278 n5_
  have Kc278 : Keep h0 h278 [ax, ap, ar, at'] := Kc275.wr W278 (Or.inl (List.mem_of_getElem? (i := 3) rfl))
  have N278 := Fr.snoc X278 N275 gg3_
  refine own_pre (fun t k => st278 t k) ?_
  refine own_pre (A := (T278.setTop (mkF m 90 #[.val (.ref ax), .val (.long qz), .second, .val (.long qt), .second] [(.ref ax), (.ref ax)]))) ?_ ?_
  · intro t k
    refine XS.aloadN X278.here hx rfl (hb hby d3_88) rfl rfl ?_
    refine XS.dup X278.here hx rfl (hb hby d3_89) rfl rfl ?_
    exact k
  obtain ⟨T279, X279, e279, st279⟩ := getF X278 hx hZ hown (host := "") (Or.inl (own_w hw 29 rfl)) Via.refl e278 Fentries__278 (g := (mkF m 90 #[.val (.ref ax), .val (.long qz), .second, .val (.long qt), .second] [(.ref ax), (.ref ax)])) rfl rfl (hb hby d3_90)
  refine own_pre (fun t k => st279 t k) ?_
  refine own_pre (A := (T279.setTop (mkF m 95 #[.val (.ref ax), .val (.long qz), .second, .val (.long qt), .second] [(.int (4 : Int32)), (.ref ax)]))) ?_ ?_
  · intro t k
    refine XS.iconst X279.here hx rfl (hb hby d3_93) ?_
    refine XS.iadd X279.here hx rfl (hb hby d3_94) rfl ?_
    show Steps p.tables e below (T279.setTop (mkF m 95 #[.val (.ref ax), .val (.long qz), .second, .val (.long qt), .second] [(.int ((3 : Int32) + (1 : Int32))), (.ref ax)])) _
    rw [show ((3 : Int32) + (1 : Int32)) = (4 : Int32) from by decide]
    exact k
  obtain ⟨T280, h280, X280, e280, W280, st280⟩ := putF X279 hx hZ hown (host := "") (Or.inl (own_w hw 29 rfl)) Via.refl e279 Fentries__278 Ea__278 (Or.inl (own_w hw 30 rfl)) (own_w hw 4 rfl) (ty := .int) (by decide) rfl rfl (g := (mkF m 95 #[.val (.ref ax), .val (.long qz), .second, .val (.long qt), .second] [(.int (4 : Int32)), (.ref ax)])) rfl rfl (hb hby d3_95)
  have Ea__280 := Ea__278.wr W280
  have Fplaces__280 := Fplaces__278.other W280 (Or.inr (slot_ne (Or.inl (own_w hw 13 rfl)) (Or.inl (own_w hw 30 rfl)) (by decide) (t := (.array .int)) (t' := .int) (by decide) (by decide)))
  have Fstarts__280 := Fstarts__278.other W280 (Or.inr (slot_ne (Or.inl (own_w hw 16 rfl)) (Or.inl (own_w hw 30 rfl)) (by decide) (t := (.array .long)) (t' := .int) (by decide) (by decide)))
  have Ftimes__280 := Ftimes__278.other W280 (Or.inr (slot_ne (Or.inl (own_w hw 18 rfl)) (Or.inl (own_w hw 30 rfl)) (by decide) (t := (.array .long)) (t' := .int) (by decide) (by decide)))
  have Fcount__280 := Fcount__278.other W280 (Or.inr (slot_ne (Or.inl (own_w hw 32 rfl)) (Or.inl (own_w hw 30 rfl)) (by decide) (t := .int) (t' := .int) (by decide) (by decide)))
  have Fend__280 := Fend__278.other W280 (Or.inr (slot_ne (Or.inl (own_w hw 23 rfl)) (Or.inl (own_w hw 30 rfl)) (by decide) (t := .long) (t' := .int) (by decide) (by decide)))
  have FlastTime__280 := FlastTime__278.other W280 (Or.inr (slot_ne (Or.inl (own_w hw 21 rfl)) (Or.inl (own_w hw 30 rfl)) (by decide) (t := .long) (t' := .int) (by decide) (by decide)))
  have V271_280 := V271_278.other W280 n0_.symm
  have V275_280 := V275_278.other W280 n1_.symm
  have V278_280 := V278.other W280 n2_.symm
  have Kc280 : Keep h0 h280 [ax, ap, ar, at'] := Kc278.wr W280 (Or.inl (List.mem_of_getElem? (i := 0) rfl))
  have N280 := Fr.snoc X280 N278 gg0_
  have Fw280 := Fentries__278.same W280
  refine own_pre (fun t k => st280 t k) ?_
  refine own_pre (A := (T280.setTop (mkF m 100 #[.val (.ref ax), .val (.long qz), .second, .val (.long qt), .second] [(.ref ax), (.ref ax)]))) ?_ ?_
  · intro t k
    refine XS.aloadN X280.here hx rfl (hb hby d3_98) rfl rfl ?_
    refine XS.dup X280.here hx rfl (hb hby d3_99) rfl rfl ?_
    exact k
  obtain ⟨T281, X281, e281, st281⟩ := getF X280 hx hZ hown (host := "") (Or.inl (own_w hw 22 rfl)) Via.refl e280 Fend__280 (g := (mkF m 100 #[.val (.ref ax), .val (.long qz), .second, .val (.long qt), .second] [(.ref ax), (.ref ax)])) rfl rfl (hb hby d3_100)
  refine own_pre (fun t k => st281 t k) ?_
  refine own_pre (A := (T281.setTop (mkF m 105 #[.val (.ref ax), .val (.long qz), .second, .val (.long qt), .second] [(.long (qe + qz)), (.ref ax)]))) ?_ ?_
  · intro t k
    refine XS.lloadN X281.here hx rfl (hb hby d3_103) rfl ?_
    refine XS.ladd X281.here hx rfl (hb hby d3_104) rfl ?_
    exact k
  obtain ⟨T282, h282, X282, e282, W282, st282⟩ := putF X281 hx hZ hown (host := "") (Or.inl (own_w hw 22 rfl)) Via.refl e281 Fend__280 Ea__280 (Or.inl (own_w hw 23 rfl)) (own_w hw 4 rfl) (ty := .long) (by decide) rfl rfl (g := (mkF m 105 #[.val (.ref ax), .val (.long qz), .second, .val (.long qt), .second] [(.long (qe + qz)), (.ref ax)])) rfl rfl (hb hby d3_105)
  have Ea__282 := Ea__280.wr W282
  have Fplaces__282 := Fplaces__280.other W282 (Or.inr (slot_ne (Or.inl (own_w hw 13 rfl)) (Or.inl (own_w hw 23 rfl)) (by decide) (t := (.array .int)) (t' := .long) (by decide) (by decide)))
  have Fstarts__282 := Fstarts__280.other W282 (Or.inr (slot_ne (Or.inl (own_w hw 16 rfl)) (Or.inl (own_w hw 23 rfl)) (by decide) (t := (.array .long)) (t' := .long) (by decide) (by decide)))
  have Ftimes__282 := Ftimes__280.other W282 (Or.inr (slot_ne (Or.inl (own_w hw 18 rfl)) (Or.inl (own_w hw 23 rfl)) (by decide) (t := (.array .long)) (t' := .long) (by decide) (by decide)))
  have Fw280_282 := Fw280.other W282 (Or.inr (slot_ne (Or.inl (own_w hw 30 rfl)) (Or.inl (own_w hw 23 rfl)) (by decide) (t := .int) (t' := .long) (by decide) (by decide)))
  have Fcount__282 := Fcount__280.other W282 (Or.inr (slot_ne (Or.inl (own_w hw 32 rfl)) (Or.inl (own_w hw 23 rfl)) (by decide) (t := .int) (t' := .long) (by decide) (by decide)))
  have FlastTime__282 := FlastTime__280.other W282 (Or.inr (slot_ne (Or.inl (own_w hw 21 rfl)) (Or.inl (own_w hw 23 rfl)) (by decide) (t := .long) (t' := .long) (by decide) (by decide)))
  have V271_282 := V271_280.other W282 n0_.symm
  have V275_282 := V275_280.other W282 n1_.symm
  have V278_282 := V278_280.other W282 n2_.symm
  have Kc282 : Keep h0 h282 [ax, ap, ar, at'] := Kc280.wr W282 (Or.inl (List.mem_of_getElem? (i := 0) rfl))
  have N282 := Fr.snoc X282 N280 gg0_
  have Fw282 := Fend__280.same W282
  refine own_pre (fun t k => st282 t k) ?_
  refine own_pre (A := (T282.setTop (mkF m 110 #[.val (.ref ax), .val (.long qz), .second, .val (.long qt), .second] [(.long qt), (.ref ax)]))) ?_ ?_
  · intro t k
    refine XS.aloadN X282.here hx rfl (hb hby d3_108) rfl rfl ?_
    refine XS.lloadN X282.here hx rfl (hb hby d3_109) rfl ?_
    exact k
  obtain ⟨T283, h283, X283, e283, W283, st283⟩ := putF X282 hx hZ hown (host := "") (Or.inl (own_w hw 20 rfl)) Via.refl e282 FlastTime__282 Ea__282 (Or.inl (own_w hw 21 rfl)) (own_w hw 4 rfl) (ty := .long) (by decide) rfl rfl (g := (mkF m 110 #[.val (.ref ax), .val (.long qz), .second, .val (.long qt), .second] [(.long qt), (.ref ax)])) rfl rfl (hb hby d3_110)
  have Ea__283 := Ea__282.wr W283
  have Fplaces__283 := Fplaces__282.other W283 (Or.inr (slot_ne (Or.inl (own_w hw 13 rfl)) (Or.inl (own_w hw 21 rfl)) (by decide) (t := (.array .int)) (t' := .long) (by decide) (by decide)))
  have Fstarts__283 := Fstarts__282.other W283 (Or.inr (slot_ne (Or.inl (own_w hw 16 rfl)) (Or.inl (own_w hw 21 rfl)) (by decide) (t := (.array .long)) (t' := .long) (by decide) (by decide)))
  have Ftimes__283 := Ftimes__282.other W283 (Or.inr (slot_ne (Or.inl (own_w hw 18 rfl)) (Or.inl (own_w hw 21 rfl)) (by decide) (t := (.array .long)) (t' := .long) (by decide) (by decide)))
  have Fw280_283 := Fw280_282.other W283 (Or.inr (slot_ne (Or.inl (own_w hw 30 rfl)) (Or.inl (own_w hw 21 rfl)) (by decide) (t := .int) (t' := .long) (by decide) (by decide)))
  have Fcount__283 := Fcount__282.other W283 (Or.inr (slot_ne (Or.inl (own_w hw 32 rfl)) (Or.inl (own_w hw 21 rfl)) (by decide) (t := .int) (t' := .long) (by decide) (by decide)))
  have Fw282_283 := Fw282.other W283 (Or.inr (slot_ne (Or.inl (own_w hw 23 rfl)) (Or.inl (own_w hw 21 rfl)) (by decide) (t := .long) (t' := .long) (by decide) (by decide)))
  have V271_283 := V271_282.other W283 n0_.symm
  have V275_283 := V275_282.other W283 n1_.symm
  have V278_283 := V278_282.other W283 n2_.symm
  have Kc283 : Keep h0 h283 [ax, ap, ar, at'] := Kc282.wr W283 (Or.inl (List.mem_of_getElem? (i := 0) rfl))
  have N283 := Fr.snoc X283 N282 gg0_
  have Fw283 := FlastTime__282.same W283
  refine own_pre (fun t k => st283 t k) ?_
  refine own_pre (A := (T283.setTop (mkF m 115 #[.val (.ref ax), .val (.long qz), .second, .val (.long qt), .second] [(.ref ax), (.ref ax)]))) ?_ ?_
  · intro t k
    refine XS.aloadN X283.here hx rfl (hb hby d3_113) rfl rfl ?_
    refine XS.dup X283.here hx rfl (hb hby d3_114) rfl rfl ?_
    exact k
  obtain ⟨T284, X284, e284, st284⟩ := getF X283 hx hZ hown (host := "") (Or.inl (own_w hw 31 rfl)) Via.refl e283 Fcount__283 (g := (mkF m 115 #[.val (.ref ax), .val (.long qz), .second, .val (.long qt), .second] [(.ref ax), (.ref ax)])) rfl rfl (hb hby d3_115)
  refine own_pre (fun t k => st284 t k) ?_
  refine own_pre (A := (T284.setTop (mkF m 120 #[.val (.ref ax), .val (.long qz), .second, .val (.long qt), .second] [(.int (ct + (1 : Int32))), (.ref ax)]))) ?_ ?_
  · intro t k
    refine XS.iconst X284.here hx rfl (hb hby d3_118) ?_
    refine XS.iadd X284.here hx rfl (hb hby d3_119) rfl ?_
    exact k
  obtain ⟨T285, h285, X285, e285, W285, st285⟩ := putF X284 hx hZ hown (host := "") (Or.inl (own_w hw 31 rfl)) Via.refl e284 Fcount__283 Ea__283 (Or.inl (own_w hw 32 rfl)) (own_w hw 4 rfl) (ty := .int) (by decide) rfl rfl (g := (mkF m 120 #[.val (.ref ax), .val (.long qz), .second, .val (.long qt), .second] [(.int (ct + (1 : Int32))), (.ref ax)])) rfl rfl (hb hby d3_120)
  have Ea__285 := Ea__283.wr W285
  have Fplaces__285 := Fplaces__283.other W285 (Or.inr (slot_ne (Or.inl (own_w hw 13 rfl)) (Or.inl (own_w hw 32 rfl)) (by decide) (t := (.array .int)) (t' := .int) (by decide) (by decide)))
  have Fstarts__285 := Fstarts__283.other W285 (Or.inr (slot_ne (Or.inl (own_w hw 16 rfl)) (Or.inl (own_w hw 32 rfl)) (by decide) (t := (.array .long)) (t' := .int) (by decide) (by decide)))
  have Ftimes__285 := Ftimes__283.other W285 (Or.inr (slot_ne (Or.inl (own_w hw 18 rfl)) (Or.inl (own_w hw 32 rfl)) (by decide) (t := (.array .long)) (t' := .int) (by decide) (by decide)))
  have Fw280_285 := Fw280_283.other W285 (Or.inr (slot_ne (Or.inl (own_w hw 30 rfl)) (Or.inl (own_w hw 32 rfl)) (by decide) (t := .int) (t' := .int) (by decide) (by decide)))
  have Fw282_285 := Fw282_283.other W285 (Or.inr (slot_ne (Or.inl (own_w hw 23 rfl)) (Or.inl (own_w hw 32 rfl)) (by decide) (t := .long) (t' := .int) (by decide) (by decide)))
  have Fw283_285 := Fw283.other W285 (Or.inr (slot_ne (Or.inl (own_w hw 21 rfl)) (Or.inl (own_w hw 32 rfl)) (by decide) (t := .long) (t' := .int) (by decide) (by decide)))
  have V271_285 := V271_283.other W285 n0_.symm
  have V275_285 := V275_283.other W285 n1_.symm
  have V278_285 := V278_283.other W285 n2_.symm
  have Kc285 : Keep h0 h285 [ax, ap, ar, at'] := Kc283.wr W285 (Or.inl (List.mem_of_getElem? (i := 0) rfl))
  have N285 := Fr.snoc X285 N283 gg0_
  have Fw285 := Fcount__283.same W285
  refine own_pre (fun t k => st285 t k) ?_
  obtain ⟨fs, hr, hrun, hended, hW, hsame⟩ := X285.leave (hlocks := BodyLoose.notSynchronized Bd) (v := none) (fun _ => rfl)
  refine ⟨_, _, X285.returnOut hx Bd.returns (hb hby d3_123) hr, hrun, hended, _, _, rfl, ?_, ⟨_, rfl⟩, hW, hsame.mono (by decide) (by decide)⟩
  show own_Q3_3B Z ax qz qt ap ar at' kp ks ct qe ql pp0 pp1 pp2 pp3 ss0 ss1 ss2 ss3 h0 n0 _ T285.heap _
  rw [e285]
  exact ⟨rfl, N285, Kc285, ⟨Ea__285, Fplaces__285, Fstarts__285, Ftimes__285, Fw280_285, Fw285, Fw282_285, Fw283_285, V271_285, V275_285, V278_285, n0_, n1_, n2_, n3_, n4_, n5_, gg0_, gg1_, gg2_, gg3_⟩⟩
abbrev own_l200 (x0 : Int64) (x1 : Int32) (x2 : Int32) (x3 : Int32) (x4 : Int32) (x5 : Int64) (x6 : Int64) (x7 : Int64) (x8 : Addr) (x9 : Addr) : Array Slot := #[.val (.long x0), .second, .val (.int x1), .val (.int x2), .val (.int x3), .val (.int x4), .val (.int (4 : Int32)), .val (.long x5), .second, .val (.long x6), .second, .val (.long x7), .second, .val (.long (65536 : Int64)), .second, .val (.ref x8), .val (.ref x9), .val (.long x5), .second, .val (.long (x5 + x6)), .second, .val (.long ((x5 + x6) + x7)), .second, .val (.long (x5 + x6)), .second, .val (.int (1 : Int32)), .val (.int (1 : Int32)), .val (.int (1 : Int32)), .unset, .unset, .unset, .unset, .unset]
set_option maxRecDepth 65536 in
set_option maxHeartbeats 40000000 in
theorem rm0 (l : Launch) (Z : State) (a0 : Array Value) (hw : ∀ d ∈ tables_1, d.before a0 Z = true) (ws : List Jvm.Cond) (qs : Int64) (p2 : Int32) (p3 : Int32) (p4 : Int32) (p5 : Int32) (h0 : Heap) (n0 : Nat) (Z0 : n0 ≤ h0.size) :
    MetFree l x (head1 (Jvm.Cond.code x code maxLocals ret :: ws) room_1) (fun a U => a = #[(.long qs), (.int p2), (.int p3), (.int p4), (.int p5)] ∧ Z.Warmed39 U.vm ∧ U.heap = h0) (fun _ _ _ _ _ => True) (fun _ U o U' => ∃ v L, o = .returned v ∧ own_Q0  h0 n0 v U'.heap L ∧ FrameEnd U o U' L room_1.cells room_1.slots) := by
  refine MetFree.of_bodySF (plainFor_of_name own_pn0) hisR ?_
  intro p e s m args below meth c s₁ Bd hml0 hP hK
  obtain ⟨rfl, hZ, hh⟩ := hP
  have hx := Bd.exec
  have hby := Bd.bytes
  have hml : c.maxLocals = 33 := hml0
  have hown : s.vm.findClass "com/example/coho/coho/eventlog/SegmentIndexPlaceAfterPinLaw" = some m.cls := findClass_of_methodNamed Bd.named
  have hnm := (name_of_methodNamed Bd.named Bd.method).1
  have X0 : Stand p l e room_1 s m #[(.long qs), (.int p2), (.int p3), (.int p4), (.int p5)] below meth c s₁ [] 0 0 := Stand.of_body Bd
  have e0 : s₁.heap = h0 := by rw [← hh, Bd.state]; rfl
  have N0 := Fr.nil n0
  refine own_pre (A := (s₁.setTop (mkF m 0 (own_l124 qs p2 p3 p4 p5) []))) (fun t k => castTop (own_ef0 m qs p2 p3 p4 p5) k) ?_
  refine own_pre (A := (s₁.setTop (mkF m 35 (own_l129 qs p2 p3 p4 p5) []))) ?_ ?_
  · intro t k
    refine XS.iconst X0.here hx rfl (hb hby at_0) ?_
    refine XS.iloadN X0.here hx rfl (hb hby at_1) rfl ?_
    refine XS.iconst X0.here hx rfl (hb hby at_2) ?_
    refine XS.iand X0.here hx rfl (hb hby at_3) rfl ?_
    refine XS.iadd X0.here hx rfl (hb hby at_4) rfl ?_
    refine XS.istore X0.here hx rfl (hb hby at_5) rfl (l' := (own_l125 qs p2 p3 p4 p5)) rfl ?_
    refine XS.iloadN X0.here hx rfl (hb hby at_7) rfl ?_
    show Steps p.tables e below (s₁.setTop (mkF m 8 (own_l125 qs p2 p3 p4 p5) [(.int p3)])) _
    refine X0.ldcInt hx hown (mvT hZ (own_w hw 0 rfl)) (g := (mkF m 8 (own_l125 qs p2 p3 p4 p5) [(.int p3)])) rfl (hb hby at_8) _ ?_
    refine XS.iand X0.here hx rfl (hb hby at_10) rfl ?_
    refine XS.i2l X0.here hx rfl (hb hby at_11) rfl ?_
    refine XS.lstore X0.here hx rfl (hb hby at_12) rfl (l' := (own_l126 qs p2 p3 p4 p5)) rfl ?_
    refine XS.iload X0.here hx rfl (hb hby at_14) rfl ?_
    show Steps p.tables e below (s₁.setTop (mkF m 16 (own_l126 qs p2 p3 p4 p5) [(.int p4)])) _
    refine X0.ldcInt hx hown (mvT hZ (own_w hw 0 rfl)) (g := (mkF m 16 (own_l126 qs p2 p3 p4 p5) [(.int p4)])) rfl (hb hby at_16) _ ?_
    refine XS.iand X0.here hx rfl (hb hby at_18) rfl ?_
    refine XS.i2l X0.here hx rfl (hb hby at_19) rfl ?_
    refine XS.lstore X0.here hx rfl (hb hby at_20) rfl (l' := (own_l127 qs p2 p3 p4 p5)) rfl ?_
    refine XS.iload X0.here hx rfl (hb hby at_22) rfl ?_
    show Steps p.tables e below (s₁.setTop (mkF m 24 (own_l127 qs p2 p3 p4 p5) [(.int p5)])) _
    refine X0.ldcInt hx hown (mvT hZ (own_w hw 0 rfl)) (g := (mkF m 24 (own_l127 qs p2 p3 p4 p5) [(.int p5)])) rfl (hb hby at_24) _ ?_
    refine XS.iand X0.here hx rfl (hb hby at_26) rfl ?_
    refine XS.i2l X0.here hx rfl (hb hby at_27) rfl ?_
    refine XS.lstore X0.here hx rfl (hb hby at_28) rfl (l' := (own_l128 qs p2 p3 p4 p5)) rfl ?_
    show Steps p.tables e below (s₁.setTop (mkF m 30 (own_l128 qs p2 p3 p4 p5) [])) _
    refine X0.ldc2Long hx hown (mvT hZ (own_w hw 1 rfl)) (g := (mkF m 30 (own_l128 qs p2 p3 p4 p5) [])) rfl (hb hby at_30) _ ?_
    refine XS.lstore X0.here hx rfl (hb hby at_33) rfl (l' := (own_l129 qs p2 p3 p4 p5)) rfl ?_
    exact k
  obtain ⟨qa, hqa⟩ : ∃ z : Int64, z = ((p3 &&& (131071 : Int32)).toInt64) := ⟨_, rfl⟩
  show ∃ s₂ o, Steps p.tables e below (s₁.setTop (mkF m 35 #[.val (.long qs), .second, .val (.int p2), .val (.int p3), .val (.int p4), .val (.int p5), .val (.int ((1 : Int32) + (p2 &&& (3 : Int32)))), .val (.long ((p3 &&& (131071 : Int32)).toInt64)), .second, .val (.long ((p4 &&& (131071 : Int32)).toInt64)), .second, .val (.long ((p5 &&& (131071 : Int32)).toInt64)), .second, .val (.long (65536 : Int64)), .second, .unset, .unset, .unset, .unset, .unset, .unset, .unset, .unset, .unset, .unset, .unset, .unset, .unset, .unset, .unset, .unset, .unset, .unset] [])) s₂ ∧ _
  rw [← hqa]
  obtain ⟨qb, hqb⟩ : ∃ z : Int64, z = ((p4 &&& (131071 : Int32)).toInt64) := ⟨_, rfl⟩
  show ∃ s₂ o, Steps p.tables e below (s₁.setTop (mkF m 35 #[.val (.long qs), .second, .val (.int p2), .val (.int p3), .val (.int p4), .val (.int p5), .val (.int ((1 : Int32) + (p2 &&& (3 : Int32)))), .val (.long qa), .second, .val (.long ((p4 &&& (131071 : Int32)).toInt64)), .second, .val (.long ((p5 &&& (131071 : Int32)).toInt64)), .second, .val (.long (65536 : Int64)), .second, .unset, .unset, .unset, .unset, .unset, .unset, .unset, .unset, .unset, .unset, .unset, .unset, .unset, .unset, .unset, .unset, .unset, .unset] [])) s₂ ∧ _
  rw [← hqb]
  obtain ⟨qc, hqc⟩ : ∃ z : Int64, z = ((p5 &&& (131071 : Int32)).toInt64) := ⟨_, rfl⟩
  show ∃ s₂ o, Steps p.tables e below (s₁.setTop (mkF m 35 #[.val (.long qs), .second, .val (.int p2), .val (.int p3), .val (.int p4), .val (.int p5), .val (.int ((1 : Int32) + (p2 &&& (3 : Int32)))), .val (.long qa), .second, .val (.long qb), .second, .val (.long ((p5 &&& (131071 : Int32)).toInt64)), .second, .val (.long (65536 : Int64)), .second, .unset, .unset, .unset, .unset, .unset, .unset, .unset, .unset, .unset, .unset, .unset, .unset, .unset, .unset, .unset, .unset, .unset, .unset] [])) s₂ ∧ _
  rw [← hqc]
  obtain ⟨pn, hpn⟩ : ∃ z : Int32, z = ((1 : Int32) + (p2 &&& (3 : Int32))) := ⟨_, rfl⟩
  show ∃ s₂ o, Steps p.tables e below (s₁.setTop (mkF m 35 #[.val (.long qs), .second, .val (.int p2), .val (.int p3), .val (.int p4), .val (.int p5), .val (.int ((1 : Int32) + (p2 &&& (3 : Int32)))), .val (.long qa), .second, .val (.long qb), .second, .val (.long qc), .second, .val (.long (65536 : Int64)), .second, .unset, .unset, .unset, .unset, .unset, .unset, .unset, .unset, .unset, .unset, .unset, .unset, .unset, .unset, .unset, .unset, .unset, .unset] [])) s₂ ∧ _
  rw [← hpn]
  have hm : pn = (1 : Int32) ∨ pn = (2 : Int32) ∨ pn = (3 : Int32) ∨ pn = (4 : Int32) := by rw [hpn]; exact own_n4 _
  clear hpn
  rcases hm with rfl | rfl | rfl | rfl
  · skip
    refine own_pre (A := (s₁.setTop (mkF m 36 (own_l133 qs p2 p3 p4 p5 qa qb qc) [(.int (4 : Int32))]))) ?_ ?_
    · intro t k
      refine XS.iconst X0.here hx rfl (hb hby at_35) ?_
      exact k
    obtain ⟨T96, h96, k96, X96, e96, E96, A96, st96⟩ := newP X0 hx hZ (own_w hw 2 rfl) e0 (g := (mkF m 36 (own_l133 qs p2 p3 p4 p5 qa qb qc) [(.int (4 : Int32))])) rfl (hb hby at_36) rfl (by decide) (cap := 4) (by decide) (by decide) (by decide) (by decide)
    obtain ⟨b96, g96⟩ : ∃ z, z = h0.size := ⟨_, rfl⟩
    rw [← g96] at A96 st96
    have gn_b96 : n0 ≤ b96 := Nat.le_trans Z0 (Nat.le_of_eq g96.symm)
    have sz_b96 : h0.size ≤ b96 := Nat.le_trans (Keep.refl h0 []).1 (Nat.le_of_eq g96.symm)
    have Zs96 : n0 ≤ h96.size := Nat.le_trans Z0 E96.1
    have Kc96 : Keep h0 h96 [] := (Keep.refl h0 []).ext E96
    have V96 : Arv Z h96 b96 k96 .int (4 : Int32) [(.int (0 : Int32)), (.int (0 : Int32)), (.int (0 : Int32)), (.int (0 : Int32))] (.int (0 : Int32)) := (Arv.new A96 (by decide)).pad (pad_rep [] (.int (0 : Int32)) 4)
    refine own_pre (fun t k => st96 t k) ?_
    refine own_pre (A := (T96.setTop (mkF m 40 (own_l134 qs p2 p3 p4 p5 qa qb qc b96) []))) ?_ ?_
    · intro t k
      refine XS.astore X96.here hx rfl (hb hby at_38) rfl rfl (l' := (own_l134 qs p2 p3 p4 p5 qa qb qc b96)) rfl ?_
      exact k
    obtain ⟨T97, h97, X97, e97, E97, A97, D97, -, st97⟩ := newO X96 hx hZ hown (own_w hw 3 rfl) (own_w hw 4 rfl) (own_w hw 5 rfl) e96 (g := (mkF m 40 (own_l134 qs p2 p3 p4 p5 qa qb qc b96) [])) rfl (hb hby at_40) (by decide) (by decide)
    obtain ⟨b97, g97⟩ : ∃ z, z = h96.size := ⟨_, rfl⟩
    rw [← g97] at A97 D97 st97
    have ne_b96_b97 : b96 ≠ b97 := Nat.ne_of_lt (Nat.lt_of_lt_of_le V96.lt (Nat.le_of_eq g97.symm))
    have gn_b97 : n0 ≤ b97 := Nat.le_trans Zs96 (Nat.le_of_eq g97.symm)
    have sz_b97 : h0.size ≤ b97 := Nat.le_trans Kc96.1 (Nat.le_of_eq g97.symm)
    have V96_97 := V96.ext E97
    have Zs97 : n0 ≤ h97.size := Nat.le_trans Zs96 E97.1
    have Kc97 : Keep h0 h97 [] := Kc96.ext E97
    have F97_places : Fld Z h97 b97 "com/example/coho/coho/eventlog/SegmentIndex" "places" "[I" .null := D97 (Or.inl (own_w hw 13 rfl)) (ty := (.array .int)) (by decide)
    have F97_starts : Fld Z h97 b97 "com/example/coho/coho/eventlog/SegmentIndex" "starts" "[J" .null := D97 (Or.inl (own_w hw 16 rfl)) (ty := (.array .long)) (by decide)
    have F97_times : Fld Z h97 b97 "com/example/coho/coho/eventlog/SegmentIndex" "times" "[J" .null := D97 (Or.inl (own_w hw 18 rfl)) (ty := (.array .long)) (by decide)
    have F97_lastTime : Fld Z h97 b97 "com/example/coho/coho/eventlog/SegmentIndex" "lastTime" "J" (.long (0 : Int64)) := D97 (Or.inl (own_w hw 21 rfl)) (ty := .long) (by decide)
    have F97_end : Fld Z h97 b97 "com/example/coho/coho/eventlog/SegmentIndex" "end" "J" (.long (0 : Int64)) := D97 (Or.inl (own_w hw 23 rfl)) (ty := .long) (by decide)
    have F97_entries : Fld Z h97 b97 "com/example/coho/coho/eventlog/SegmentIndex" "entries" "I" (.int (0 : Int32)) := D97 (Or.inl (own_w hw 30 rfl)) (ty := .int) (by decide)
    have F97_count : Fld Z h97 b97 "com/example/coho/coho/eventlog/SegmentIndex" "count" "I" (.int (0 : Int32)) := D97 (Or.inl (own_w hw 32 rfl)) (ty := .int) (by decide)
    refine own_pre (fun t k => st97 t k) ?_
    refine own_pre (A := (T97.setTop (mkF m 45 (own_l134 qs p2 p3 p4 p5 qa qb qc b96) [(.long qs), (.ref b97), (.ref b97)]))) ?_ ?_
    · intro t k
      refine XS.dup X97.here hx rfl (hb hby at_43) rfl rfl ?_
      refine XS.lloadN X97.here hx rfl (hb hby at_44) rfl ?_
      exact k
    obtain ⟨_, _, ⟨T98, L98, k98, n98⟩, -, X98, ⟨Lc98, hQ98, l98, y98, z98⟩, st98⟩ := X97.specialBack hx (y := (⟨"com/example/coho/coho/eventlog/SegmentIndex", "<init>", "(J)V"⟩ : MethodName)) rfl hown (mvT hZ (own_w hw 6 rfl)) (mvT hZ (own_w hw 7 rfl)) (mvT hZ (own_w hw 8 rfl)) (by decide) (backOf (W := 1) (rm1 l Z a0 hw [] b97 qs h97 n0 Zs97 A97 F97_places F97_starts F97_times F97_entries F97_count F97_end F97_lastTime gn_b97) hZ (own_w hw 8 rfl) (own_w hw 5 rfl) (by decide) (by decide)) (g := (mkF m 45 (own_l134 qs p2 p3 p4 p5 qa qb qc b96) [(.long qs), (.ref b97), (.ref b97)])) rfl (by rw [hml]; rfl) (Steps.refl _) (a := b97) (argsL := [(.long qs)]) (rest := [(.ref b97)]) (lenOf own_pd1 rfl) rfl (by show 2 * 0 + _ ≤ _; exact Nat.le_of_eq rfl) (hb hby at_45) (fun _ _ => ⟨rfl, e97, (by decide : 2 + 3 ≤ _), (by decide : 11 + 12 ≤ _)⟩)
    dsimp only [Pt.U, Pt.locs, Pt.cells, Pt.slots] at X98 l98 y98 z98 st98 hQ98
    replace y98 : _ = 5 := y98
    replace z98 : _ = 23 := z98
    subst y98 z98
    obtain ⟨rfl, Nq98, ap98, ar98, at98, kp98, ks98, Kq98, zz098, zz198, zz298, B98⟩ := hQ98
    have N98 := own_frl l98 N0 Nq98
    refine own_pre (fun t k => st98.trans k) ?_
    have ne_b96_ap98 : b96 ≠ ap98 := Nat.ne_of_lt (Nat.lt_of_lt_of_le V96_97.lt zz098)
    have ne_b96_ar98 : b96 ≠ ar98 := Nat.ne_of_lt (Nat.lt_of_lt_of_le V96_97.lt zz198)
    have ne_b96_at98 : b96 ≠ at98 := Nat.ne_of_lt (Nat.lt_of_lt_of_le V96_97.lt zz298)
    have V96_98 := V96_97.keep Kq98 (ninS ne_b96_b97 nin0)
    have Zs98 : n0 ≤ T98.heap.size := Nat.le_trans Zs97 Kq98.1
    have Kc98 : Keep h0 T98.heap [] := Kc97.trans Kq98 (allS (Or.inr sz_b97) all0)
    have sz_ap98 : h0.size ≤ ap98 := Nat.le_trans Kc97.1 zz098
    have sz_ar98 : h0.size ≤ ar98 := Nat.le_trans Kc97.1 zz198
    have sz_at98 : h0.size ≤ at98 := Nat.le_trans Kc97.1 zz298
    obtain ⟨Ea98, Fplaces98, Fstarts98, Ftimes98, Fentries98, Fcount98, Fend98, FlastTime98, Vp98, Vs98, Vt98, n098, n198, n298, n398, n498, n598, gg098, gg198, gg298, gg398⟩ := B98
    refine own_pre (A := (T98.setTop (mkF m 55 (own_l135 qs p2 p3 p4 p5 qa qb qc b96 b97) [(.long (0 : Int64)), (.long qa), (.ref b97)]))) ?_ ?_
    · intro t k
      refine XS.astore X98.here hx rfl (hb hby at_48) rfl rfl (l' := (own_l135 qs p2 p3 p4 p5 qa qb qc b96 b97)) rfl ?_
      refine XS.aload X98.here hx rfl (hb hby at_50) rfl rfl ?_
      refine XS.lload X98.here hx rfl (hb hby at_52) rfl ?_
      refine XS.lconst X98.here hx rfl (hb hby at_54) ?_
      exact k
    obtain ⟨cq99, kq99, q99a, q99b, q99c⟩ := isOf hZ rfl Ea98
    obtain ⟨_, _, ⟨T99, L99, k99, n99⟩, -, X99, ⟨Lc99, hQ99, l99, y99, z99⟩, st99⟩ := X98.virtualBack hx (y := (⟨"com/example/coho/coho/eventlog/SegmentIndex", "add", "(JJ)V"⟩ : MethodName)) (z := (⟨"com/example/coho/coho/eventlog/SegmentIndex", "add", "(JJ)V"⟩ : MethodName)) hown (mvT hZ (own_w hw 24 rfl)) (mvT hZ (own_w hw 25 rfl)) (notFace_of_selects (args := #[]) (mvT hZ (own_w hw 27 rfl))) (mvT hZ (own_w hw 27 rfl)) (mvT hZ (own_w hw 26 rfl)) (by decide) (backOf (W := 0) (rm3_0 l Z a0 hw [] b97 qa (0 : Int64) ap98 ar98 at98 kp98 ks98 (0 : Int32) qs (-9223372036854775808 : Int64) (0 : Int32) (0 : Int32) (0 : Int32) (0 : Int32) (0 : Int64) (0 : Int64) (0 : Int64) (0 : Int64) T98.heap n0 Zs98 ⟨Ea98, Fplaces98, Fstarts98, Ftimes98, Fentries98, Fcount98, Fend98, FlastTime98, Vp98, Vs98, Vt98, n098, n198, n298, n398, n498, n598, gg098, gg198, gg298, gg398⟩) hZ (own_w hw 28 rfl) (own_w hw 5 rfl) (by decide) (by decide)) q99a q99c (g := (mkF m 55 (own_l135 qs p2 p3 p4 p5 qa qb qc b96 b97) [(.long (0 : Int64)), (.long qa), (.ref b97)])) rfl (by rw [hml]; rfl) (Steps.refl _) (argsL := [(.long qa), (.long (0 : Int64))]) (rest := []) (lenOf own_pd2 rfl) rfl (by show 2 * 0 + _ ≤ _; exact Nat.le_of_eq rfl) (hb hby at_55) (fun _ _ => ⟨rfl, rfl, (by decide : 5 + 0 ≤ _), (by decide : 23 + 0 ≤ _)⟩)
    dsimp only [Pt.U, Pt.locs, Pt.cells, Pt.slots] at X99 l99 y99 z99 st99 hQ99
    replace y99 : _ = 5 := y99
    replace z99 : _ = 23 := z99
    subst y99 z99
    obtain ⟨rfl, Nq99, Kq99, B99⟩ := hQ99
    have N99 := own_frl l99 N98 Nq99
    refine own_pre (fun t k => st99.trans k) ?_
    have V96_99 := V96_98.keep Kq99 (ninS ne_b96_b97 (ninS ne_b96_ap98 (ninS ne_b96_ar98 (ninS ne_b96_at98 nin0))))
    have Zs99 : n0 ≤ T99.heap.size := Nat.le_trans Zs98 Kq99.1
    have Kc99 : Keep h0 T99.heap [] := Kc98.trans Kq99 (allS (Or.inr sz_b97) (allS (Or.inr sz_ap98) (allS (Or.inr sz_ar98) (allS (Or.inr sz_at98) all0))))
    obtain ⟨Ea99, Fplaces99, Fstarts99, Ftimes99, Fentries99, Fcount99, Fend99, FlastTime99, Vp99, Vs99, Vt99, n099, n199, n299, n399, n499, n599, gg099, gg199, gg299, gg399⟩ := B99
    rw [show ((0 : Int32) + (1 : Int32)) = (1 : Int32) from by decide] at Fcount99
    refine own_pre (A := (T99.setTop (mkF m 218 (own_l142 qs p2 p3 p4 p5 qa qb qc b96 b97) []))) ?_ ?_
    · intro t k
      refine XS.iload X99.here hx rfl (hb hby at_58) rfl ?_
      refine XS.iconst X99.here hx rfl (hb hby at_60) ?_
      refine XS.icmpYes X99.here hx rfl (pc0 := 61) (pc' := 72) rfl (hb hby at_61) rfl (flt (by decide : ¬ ((1 : Int32) < (1 : Int32)))).2.2.2 (by decide) (by decide) ?_
      refine XS.iload X99.here hx rfl (hb hby at_72) rfl ?_
      refine XS.iconst X99.here hx rfl (hb hby at_74) ?_
      refine XS.icmpYes X99.here hx rfl (pc0 := 75) (pc' := 88) rfl (hb hby at_75) rfl (flt (by decide : ¬ ((2 : Int32) < (1 : Int32)))).2.2.2 (by decide) (by decide) ?_
      refine XS.iload X99.here hx rfl (hb hby at_88) rfl ?_
      refine XS.iconst X99.here hx rfl (hb hby at_90) ?_
      refine XS.icmpYes X99.here hx rfl (pc0 := 91) (pc' := 104) rfl (hb hby at_91) rfl (flt (by decide : ¬ ((3 : Int32) < (1 : Int32)))).2.2.2 (by decide) (by decide) ?_
      refine XS.lload X99.here hx rfl (hb hby at_104) rfl ?_
      refine XS.lstore X99.here hx rfl (hb hby at_106) rfl (l' := (own_l136 qs p2 p3 p4 p5 qa qb qc b96 b97)) rfl ?_
      refine XS.lload X99.here hx rfl (hb hby at_108) rfl ?_
      refine XS.lload X99.here hx rfl (hb hby at_110) rfl ?_
      refine XS.ladd X99.here hx rfl (hb hby at_112) rfl ?_
      refine XS.lstore X99.here hx rfl (hb hby at_113) rfl (l' := (own_l137 qs p2 p3 p4 p5 qa qb qc b96 b97)) rfl ?_
      refine XS.lload X99.here hx rfl (hb hby at_115) rfl ?_
      refine XS.lload X99.here hx rfl (hb hby at_117) rfl ?_
      refine XS.ladd X99.here hx rfl (hb hby at_119) rfl ?_
      refine XS.lload X99.here hx rfl (hb hby at_120) rfl ?_
      refine XS.ladd X99.here hx rfl (hb hby at_122) rfl ?_
      refine XS.lstore X99.here hx rfl (hb hby at_123) rfl (l' := (own_l138 qs p2 p3 p4 p5 qa qb qc b96 b97)) rfl ?_
      refine XS.lconst X99.here hx rfl (hb hby at_125) ?_
      refine XS.lstore X99.here hx rfl (hb hby at_126) rfl (l' := (own_l139 qs p2 p3 p4 p5 qa qb qc b96 b97)) rfl ?_
      refine XS.iload X99.here hx rfl (hb hby at_128) rfl ?_
      refine XS.iconst X99.here hx rfl (hb hby at_130) ?_
      refine XS.icmpYes X99.here hx rfl (pc0 := 131) (pc' := 149) rfl (hb hby at_131) rfl (flt (by decide : ¬ ((1 : Int32) < (1 : Int32)))).2.2.2 (by decide) (by decide) ?_
      refine XS.iconst X99.here hx rfl (hb hby at_149) ?_
      refine XS.istore X99.here hx rfl (hb hby at_150) rfl (l' := (own_l140 qs p2 p3 p4 p5 qa qb qc b96 b97)) rfl ?_
      refine XS.iload X99.here hx rfl (hb hby at_152) rfl ?_
      refine XS.ifYes X99.here hx rfl (pc0 := 154) (pc' := 161) rfl (hb hby at_154) rfl ((if0 _ _).trans (teq (by decide : (0 : Int32) = (0 : Int32))).1) (by decide) (by decide) ?_
      refine XS.iload X99.here hx rfl (hb hby at_161) rfl ?_
      refine XS.iconst X99.here hx rfl (hb hby at_163) ?_
      refine XS.icmpYes X99.here hx rfl (pc0 := 164) (pc' := 182) rfl (hb hby at_164) rfl (flt (by decide : ¬ ((2 : Int32) < (1 : Int32)))).2.2.2 (by decide) (by decide) ?_
      refine XS.iconst X99.here hx rfl (hb hby at_182) ?_
      refine XS.istore X99.here hx rfl (hb hby at_183) rfl (l' := (own_l141 qs p2 p3 p4 p5 qa qb qc b96 b97)) rfl ?_
      refine XS.iload X99.here hx rfl (hb hby at_185) rfl ?_
      refine XS.ifYes X99.here hx rfl (pc0 := 187) (pc' := 194) rfl (hb hby at_187) rfl ((if0 _ _).trans (teq (by decide : (0 : Int32) = (0 : Int32))).1) (by decide) (by decide) ?_
      refine XS.iload X99.here hx rfl (hb hby at_194) rfl ?_
      refine XS.iconst X99.here hx rfl (hb hby at_196) ?_
      refine XS.icmpYes X99.here hx rfl (pc0 := 197) (pc' := 215) rfl (hb hby at_197) rfl (flt (by decide : ¬ ((3 : Int32) < (1 : Int32)))).2.2.2 (by decide) (by decide) ?_
      refine XS.iconst X99.here hx rfl (hb hby at_215) ?_
      refine XS.istore X99.here hx rfl (hb hby at_216) rfl (l' := (own_l142 qs p2 p3 p4 p5 qa qb qc b96 b97)) rfl ?_
      exact k
    exact own_suf_000 (h0 := h0) (n0 := n0) X99 hx hZ hw hby hml hown Bd.returns Bd.notSynchronized rfl N99 Zs99 Kc99 Ea99 Fentries99 Fcount99 Fend99 Fplaces99 Vp99 V96_99 ne_b96_b97.symm ne_b96_ap98.symm gn_b96 sz_b96
  · skip
    refine own_pre (A := (s₁.setTop (mkF m 36 (own_l143 qs p2 p3 p4 p5 qa qb qc) [(.int (4 : Int32))]))) ?_ ?_
    · intro t k
      refine XS.iconst X0.here hx rfl (hb hby at_35) ?_
      exact k
    obtain ⟨T122, h122, k122, X122, e122, E122, A122, st122⟩ := newP X0 hx hZ (own_w hw 2 rfl) e0 (g := (mkF m 36 (own_l143 qs p2 p3 p4 p5 qa qb qc) [(.int (4 : Int32))])) rfl (hb hby at_36) rfl (by decide) (cap := 4) (by decide) (by decide) (by decide) (by decide)
    obtain ⟨b122, g122⟩ : ∃ z, z = h0.size := ⟨_, rfl⟩
    rw [← g122] at A122 st122
    have gn_b122 : n0 ≤ b122 := Nat.le_trans Z0 (Nat.le_of_eq g122.symm)
    have sz_b122 : h0.size ≤ b122 := Nat.le_trans (Keep.refl h0 []).1 (Nat.le_of_eq g122.symm)
    have Zs122 : n0 ≤ h122.size := Nat.le_trans Z0 E122.1
    have Kc122 : Keep h0 h122 [] := (Keep.refl h0 []).ext E122
    have V122 : Arv Z h122 b122 k122 .int (4 : Int32) [(.int (0 : Int32)), (.int (0 : Int32)), (.int (0 : Int32)), (.int (0 : Int32))] (.int (0 : Int32)) := (Arv.new A122 (by decide)).pad (pad_rep [] (.int (0 : Int32)) 4)
    refine own_pre (fun t k => st122 t k) ?_
    refine own_pre (A := (T122.setTop (mkF m 40 (own_l144 qs p2 p3 p4 p5 qa qb qc b122) []))) ?_ ?_
    · intro t k
      refine XS.astore X122.here hx rfl (hb hby at_38) rfl rfl (l' := (own_l144 qs p2 p3 p4 p5 qa qb qc b122)) rfl ?_
      exact k
    obtain ⟨T123, h123, X123, e123, E123, A123, D123, -, st123⟩ := newO X122 hx hZ hown (own_w hw 3 rfl) (own_w hw 4 rfl) (own_w hw 5 rfl) e122 (g := (mkF m 40 (own_l144 qs p2 p3 p4 p5 qa qb qc b122) [])) rfl (hb hby at_40) (by decide) (by decide)
    obtain ⟨b123, g123⟩ : ∃ z, z = h122.size := ⟨_, rfl⟩
    rw [← g123] at A123 D123 st123
    have ne_b122_b123 : b122 ≠ b123 := Nat.ne_of_lt (Nat.lt_of_lt_of_le V122.lt (Nat.le_of_eq g123.symm))
    have gn_b123 : n0 ≤ b123 := Nat.le_trans Zs122 (Nat.le_of_eq g123.symm)
    have sz_b123 : h0.size ≤ b123 := Nat.le_trans Kc122.1 (Nat.le_of_eq g123.symm)
    have V122_123 := V122.ext E123
    have Zs123 : n0 ≤ h123.size := Nat.le_trans Zs122 E123.1
    have Kc123 : Keep h0 h123 [] := Kc122.ext E123
    have F123_places : Fld Z h123 b123 "com/example/coho/coho/eventlog/SegmentIndex" "places" "[I" .null := D123 (Or.inl (own_w hw 13 rfl)) (ty := (.array .int)) (by decide)
    have F123_starts : Fld Z h123 b123 "com/example/coho/coho/eventlog/SegmentIndex" "starts" "[J" .null := D123 (Or.inl (own_w hw 16 rfl)) (ty := (.array .long)) (by decide)
    have F123_times : Fld Z h123 b123 "com/example/coho/coho/eventlog/SegmentIndex" "times" "[J" .null := D123 (Or.inl (own_w hw 18 rfl)) (ty := (.array .long)) (by decide)
    have F123_lastTime : Fld Z h123 b123 "com/example/coho/coho/eventlog/SegmentIndex" "lastTime" "J" (.long (0 : Int64)) := D123 (Or.inl (own_w hw 21 rfl)) (ty := .long) (by decide)
    have F123_end : Fld Z h123 b123 "com/example/coho/coho/eventlog/SegmentIndex" "end" "J" (.long (0 : Int64)) := D123 (Or.inl (own_w hw 23 rfl)) (ty := .long) (by decide)
    have F123_entries : Fld Z h123 b123 "com/example/coho/coho/eventlog/SegmentIndex" "entries" "I" (.int (0 : Int32)) := D123 (Or.inl (own_w hw 30 rfl)) (ty := .int) (by decide)
    have F123_count : Fld Z h123 b123 "com/example/coho/coho/eventlog/SegmentIndex" "count" "I" (.int (0 : Int32)) := D123 (Or.inl (own_w hw 32 rfl)) (ty := .int) (by decide)
    refine own_pre (fun t k => st123 t k) ?_
    refine own_pre (A := (T123.setTop (mkF m 45 (own_l144 qs p2 p3 p4 p5 qa qb qc b122) [(.long qs), (.ref b123), (.ref b123)]))) ?_ ?_
    · intro t k
      refine XS.dup X123.here hx rfl (hb hby at_43) rfl rfl ?_
      refine XS.lloadN X123.here hx rfl (hb hby at_44) rfl ?_
      exact k
    obtain ⟨_, _, ⟨T124, L124, k124, n124⟩, -, X124, ⟨Lc124, hQ124, l124, y124, z124⟩, st124⟩ := X123.specialBack hx (y := (⟨"com/example/coho/coho/eventlog/SegmentIndex", "<init>", "(J)V"⟩ : MethodName)) rfl hown (mvT hZ (own_w hw 6 rfl)) (mvT hZ (own_w hw 7 rfl)) (mvT hZ (own_w hw 8 rfl)) (by decide) (backOf (W := 1) (rm1 l Z a0 hw [] b123 qs h123 n0 Zs123 A123 F123_places F123_starts F123_times F123_entries F123_count F123_end F123_lastTime gn_b123) hZ (own_w hw 8 rfl) (own_w hw 5 rfl) (by decide) (by decide)) (g := (mkF m 45 (own_l144 qs p2 p3 p4 p5 qa qb qc b122) [(.long qs), (.ref b123), (.ref b123)])) rfl (by rw [hml]; rfl) (Steps.refl _) (a := b123) (argsL := [(.long qs)]) (rest := [(.ref b123)]) (lenOf own_pd1 rfl) rfl (by show 2 * 0 + _ ≤ _; exact Nat.le_of_eq rfl) (hb hby at_45) (fun _ _ => ⟨rfl, e123, (by decide : 2 + 3 ≤ _), (by decide : 11 + 12 ≤ _)⟩)
    dsimp only [Pt.U, Pt.locs, Pt.cells, Pt.slots] at X124 l124 y124 z124 st124 hQ124
    replace y124 : _ = 5 := y124
    replace z124 : _ = 23 := z124
    subst y124 z124
    obtain ⟨rfl, Nq124, ap124, ar124, at124, kp124, ks124, Kq124, zz0124, zz1124, zz2124, B124⟩ := hQ124
    have N124 := own_frl l124 N0 Nq124
    refine own_pre (fun t k => st124.trans k) ?_
    have ne_b122_ap124 : b122 ≠ ap124 := Nat.ne_of_lt (Nat.lt_of_lt_of_le V122_123.lt zz0124)
    have ne_b122_ar124 : b122 ≠ ar124 := Nat.ne_of_lt (Nat.lt_of_lt_of_le V122_123.lt zz1124)
    have ne_b122_at124 : b122 ≠ at124 := Nat.ne_of_lt (Nat.lt_of_lt_of_le V122_123.lt zz2124)
    have V122_124 := V122_123.keep Kq124 (ninS ne_b122_b123 nin0)
    have Zs124 : n0 ≤ T124.heap.size := Nat.le_trans Zs123 Kq124.1
    have Kc124 : Keep h0 T124.heap [] := Kc123.trans Kq124 (allS (Or.inr sz_b123) all0)
    have sz_ap124 : h0.size ≤ ap124 := Nat.le_trans Kc123.1 zz0124
    have sz_ar124 : h0.size ≤ ar124 := Nat.le_trans Kc123.1 zz1124
    have sz_at124 : h0.size ≤ at124 := Nat.le_trans Kc123.1 zz2124
    obtain ⟨Ea124, Fplaces124, Fstarts124, Ftimes124, Fentries124, Fcount124, Fend124, FlastTime124, Vp124, Vs124, Vt124, n0124, n1124, n2124, n3124, n4124, n5124, gg0124, gg1124, gg2124, gg3124⟩ := B124
    refine own_pre (A := (T124.setTop (mkF m 55 (own_l145 qs p2 p3 p4 p5 qa qb qc b122 b123) [(.long (0 : Int64)), (.long qa), (.ref b123)]))) ?_ ?_
    · intro t k
      refine XS.astore X124.here hx rfl (hb hby at_48) rfl rfl (l' := (own_l145 qs p2 p3 p4 p5 qa qb qc b122 b123)) rfl ?_
      refine XS.aload X124.here hx rfl (hb hby at_50) rfl rfl ?_
      refine XS.lload X124.here hx rfl (hb hby at_52) rfl ?_
      refine XS.lconst X124.here hx rfl (hb hby at_54) ?_
      exact k
    obtain ⟨cq125, kq125, q125a, q125b, q125c⟩ := isOf hZ rfl Ea124
    obtain ⟨_, _, ⟨T125, L125, k125, n125⟩, -, X125, ⟨Lc125, hQ125, l125, y125, z125⟩, st125⟩ := X124.virtualBack hx (y := (⟨"com/example/coho/coho/eventlog/SegmentIndex", "add", "(JJ)V"⟩ : MethodName)) (z := (⟨"com/example/coho/coho/eventlog/SegmentIndex", "add", "(JJ)V"⟩ : MethodName)) hown (mvT hZ (own_w hw 24 rfl)) (mvT hZ (own_w hw 25 rfl)) (notFace_of_selects (args := #[]) (mvT hZ (own_w hw 27 rfl))) (mvT hZ (own_w hw 27 rfl)) (mvT hZ (own_w hw 26 rfl)) (by decide) (backOf (W := 0) (rm3_0 l Z a0 hw [] b123 qa (0 : Int64) ap124 ar124 at124 kp124 ks124 (0 : Int32) qs (-9223372036854775808 : Int64) (0 : Int32) (0 : Int32) (0 : Int32) (0 : Int32) (0 : Int64) (0 : Int64) (0 : Int64) (0 : Int64) T124.heap n0 Zs124 ⟨Ea124, Fplaces124, Fstarts124, Ftimes124, Fentries124, Fcount124, Fend124, FlastTime124, Vp124, Vs124, Vt124, n0124, n1124, n2124, n3124, n4124, n5124, gg0124, gg1124, gg2124, gg3124⟩) hZ (own_w hw 28 rfl) (own_w hw 5 rfl) (by decide) (by decide)) q125a q125c (g := (mkF m 55 (own_l145 qs p2 p3 p4 p5 qa qb qc b122 b123) [(.long (0 : Int64)), (.long qa), (.ref b123)])) rfl (by rw [hml]; rfl) (Steps.refl _) (argsL := [(.long qa), (.long (0 : Int64))]) (rest := []) (lenOf own_pd2 rfl) rfl (by show 2 * 0 + _ ≤ _; exact Nat.le_of_eq rfl) (hb hby at_55) (fun _ _ => ⟨rfl, rfl, (by decide : 5 + 0 ≤ _), (by decide : 23 + 0 ≤ _)⟩)
    dsimp only [Pt.U, Pt.locs, Pt.cells, Pt.slots] at X125 l125 y125 z125 st125 hQ125
    replace y125 : _ = 5 := y125
    replace z125 : _ = 23 := z125
    subst y125 z125
    obtain ⟨rfl, Nq125, Kq125, B125⟩ := hQ125
    have N125 := own_frl l125 N124 Nq125
    refine own_pre (fun t k => st125.trans k) ?_
    have V122_125 := V122_124.keep Kq125 (ninS ne_b122_b123 (ninS ne_b122_ap124 (ninS ne_b122_ar124 (ninS ne_b122_at124 nin0))))
    have Zs125 : n0 ≤ T125.heap.size := Nat.le_trans Zs124 Kq125.1
    have Kc125 : Keep h0 T125.heap [] := Kc124.trans Kq125 (allS (Or.inr sz_b123) (allS (Or.inr sz_ap124) (allS (Or.inr sz_ar124) (allS (Or.inr sz_at124) all0))))
    obtain ⟨Ea125, Fplaces125, Fstarts125, Ftimes125, Fentries125, Fcount125, Fend125, FlastTime125, Vp125, Vs125, Vt125, n0125, n1125, n2125, n3125, n4125, n5125, gg0125, gg1125, gg2125, gg3125⟩ := B125
    rw [show ((0 : Int32) + (1 : Int32)) = (1 : Int32) from by decide] at Fcount125
    refine own_pre (A := (T125.setTop (mkF m 69 (own_l145 qs p2 p3 p4 p5 qa qb qc b122 b123) [(.long (1 : Int64)), (.long qb), (.ref b123)]))) ?_ ?_
    · intro t k
      refine XS.iload X125.here hx rfl (hb hby at_58) rfl ?_
      refine XS.iconst X125.here hx rfl (hb hby at_60) ?_
      refine XS.icmpNo X125.here hx rfl (hb hby at_61) rfl (tlt (by decide : (1 : Int32) < (2 : Int32))).2.2.2 ?_
      refine XS.aload X125.here hx rfl (hb hby at_64) rfl rfl ?_
      refine XS.lload X125.here hx rfl (hb hby at_66) rfl ?_
      refine XS.lconst X125.here hx rfl (hb hby at_68) ?_
      exact k
    have own_eq127 : (qs + qa) - qs = qa - (0 : Int64) := by first | exact own_sub0 _ _ | (simp only [Int64.add_assoc]; exact own_sub0 _ _)
    by_cases hw126 : (qa - (0 : Int64)) < (65536 : Int64)
    · skip
      obtain ⟨cq128, kq128, q128a, q128b, q128c⟩ := isOf hZ rfl Ea125
      obtain ⟨_, _, ⟨T128, L128, k128, n128⟩, -, X128, ⟨Lc128, hQ128, l128, y128, z128⟩, st128⟩ := X125.virtualBack hx (y := (⟨"com/example/coho/coho/eventlog/SegmentIndex", "add", "(JJ)V"⟩ : MethodName)) (z := (⟨"com/example/coho/coho/eventlog/SegmentIndex", "add", "(JJ)V"⟩ : MethodName)) hown (mvT hZ (own_w hw 24 rfl)) (mvT hZ (own_w hw 25 rfl)) (notFace_of_selects (args := #[]) (mvT hZ (own_w hw 27 rfl))) (mvT hZ (own_w hw 27 rfl)) (mvT hZ (own_w hw 26 rfl)) (by decide) (backOf (W := 0) (rm3_1A l Z a0 hw [] b123 qb (1 : Int64) ap124 ar124 at124 kp124 ks124 (1 : Int32) (qs + qa) (0 : Int64) (0 : Int32) (0 : Int32) (0 : Int32) (0 : Int32) qs (0 : Int64) (0 : Int64) (0 : Int64) T125.heap n0 Zs125 ⟨Ea125, Fplaces125, Fstarts125, Ftimes125, Fentries125, Fcount125, Fend125, FlastTime125, Vp125, Vs125, Vt125, n0125, n1125, n2125, n3125, n4125, n5125, gg0125, gg1125, gg2125, gg3125⟩ (by rw [own_eq127]; exact hw126)) hZ (own_w hw 28 rfl) (own_w hw 5 rfl) (by decide) (by decide)) q128a q128c (g := (mkF m 69 (own_l145 qs p2 p3 p4 p5 qa qb qc b122 b123) [(.long (1 : Int64)), (.long qb), (.ref b123)])) rfl (by rw [hml]; rfl) (Steps.refl _) (argsL := [(.long qb), (.long (1 : Int64))]) (rest := []) (lenOf own_pd2 rfl) rfl (by show 2 * 0 + _ ≤ _; exact Nat.le_of_eq rfl) (hb hby at_69) (fun _ _ => ⟨rfl, rfl, (by decide : 5 + 0 ≤ _), (by decide : 23 + 0 ≤ _)⟩)
      dsimp only [Pt.U, Pt.locs, Pt.cells, Pt.slots] at X128 l128 y128 z128 st128 hQ128
      replace y128 : _ = 5 := y128
      replace z128 : _ = 23 := z128
      subst y128 z128
      obtain ⟨rfl, Nq128, Kq128, B128⟩ := hQ128
      have N128 := own_frl l128 N125 Nq128
      refine own_pre (fun t k => st128.trans k) ?_
      have V122_128 := V122_125.keep Kq128 (ninS ne_b122_b123 (ninS ne_b122_ap124 (ninS ne_b122_ar124 (ninS ne_b122_at124 nin0))))
      have Zs128 : n0 ≤ T128.heap.size := Nat.le_trans Zs125 Kq128.1
      have Kc128 : Keep h0 T128.heap [] := Kc125.trans Kq128 (allS (Or.inr sz_b123) (allS (Or.inr sz_ap124) (allS (Or.inr sz_ar124) (allS (Or.inr sz_at124) all0))))
      obtain ⟨Ea128, Fplaces128, Fstarts128, Ftimes128, Fentries128, Fcount128, Fend128, FlastTime128, Vp128, Vs128, Vt128, n0128, n1128, n2128, n3128, n4128, n5128, gg0128, gg1128, gg2128, gg3128⟩ := B128
      rw [show ((1 : Int32) + (1 : Int32)) = (2 : Int32) from by decide] at Fcount128
      refine own_pre (A := (T128.setTop (mkF m 218 (own_l152 qs p2 p3 p4 p5 qa qb qc b122 b123) []))) ?_ ?_
      · intro t k
        refine XS.iload X128.here hx rfl (hb hby at_72) rfl ?_
        refine XS.iconst X128.here hx rfl (hb hby at_74) ?_
        refine XS.icmpYes X128.here hx rfl (pc0 := 75) (pc' := 88) rfl (hb hby at_75) rfl (flt (by decide : ¬ ((2 : Int32) < (2 : Int32)))).2.2.2 (by decide) (by decide) ?_
        refine XS.iload X128.here hx rfl (hb hby at_88) rfl ?_
        refine XS.iconst X128.here hx rfl (hb hby at_90) ?_
        refine XS.icmpYes X128.here hx rfl (pc0 := 91) (pc' := 104) rfl (hb hby at_91) rfl (flt (by decide : ¬ ((3 : Int32) < (2 : Int32)))).2.2.2 (by decide) (by decide) ?_
        refine XS.lload X128.here hx rfl (hb hby at_104) rfl ?_
        refine XS.lstore X128.here hx rfl (hb hby at_106) rfl (l' := (own_l146 qs p2 p3 p4 p5 qa qb qc b122 b123)) rfl ?_
        refine XS.lload X128.here hx rfl (hb hby at_108) rfl ?_
        refine XS.lload X128.here hx rfl (hb hby at_110) rfl ?_
        refine XS.ladd X128.here hx rfl (hb hby at_112) rfl ?_
        refine XS.lstore X128.here hx rfl (hb hby at_113) rfl (l' := (own_l147 qs p2 p3 p4 p5 qa qb qc b122 b123)) rfl ?_
        refine XS.lload X128.here hx rfl (hb hby at_115) rfl ?_
        refine XS.lload X128.here hx rfl (hb hby at_117) rfl ?_
        refine XS.ladd X128.here hx rfl (hb hby at_119) rfl ?_
        refine XS.lload X128.here hx rfl (hb hby at_120) rfl ?_
        refine XS.ladd X128.here hx rfl (hb hby at_122) rfl ?_
        refine XS.lstore X128.here hx rfl (hb hby at_123) rfl (l' := (own_l148 qs p2 p3 p4 p5 qa qb qc b122 b123)) rfl ?_
        refine XS.lconst X128.here hx rfl (hb hby at_125) ?_
        refine XS.lstore X128.here hx rfl (hb hby at_126) rfl (l' := (own_l149 qs p2 p3 p4 p5 qa qb qc b122 b123)) rfl ?_
        refine XS.iload X128.here hx rfl (hb hby at_128) rfl ?_
        refine XS.iconst X128.here hx rfl (hb hby at_130) ?_
        refine XS.icmpNo X128.here hx rfl (hb hby at_131) rfl (tlt (by decide : (1 : Int32) < (2 : Int32))).2.2.2 ?_
        refine XS.lload X128.here hx rfl (hb hby at_134) rfl ?_
        refine XS.lload X128.here hx rfl (hb hby at_136) rfl ?_
        refine XS.lsub X128.here hx rfl (hb hby at_138) rfl ?_
        refine XS.lload X128.here hx rfl (hb hby at_139) rfl ?_
        refine XS.lcmp X128.here hx rfl (hb hby at_141) rfl ?_
        refine XS.ifYes X128.here hx rfl (pc0 := 142) (pc' := 149) rfl (hb hby at_142) rfl ((if0 _ _).trans (tlt ((lw_lt (qa - (0 : Int64)) (65536 : Int64)).mpr hw126)).1) (by decide) (by decide) ?_
        refine XS.iconst X128.here hx rfl (hb hby at_149) ?_
        refine XS.istore X128.here hx rfl (hb hby at_150) rfl (l' := (own_l150 qs p2 p3 p4 p5 qa qb qc b122 b123)) rfl ?_
        refine XS.iload X128.here hx rfl (hb hby at_152) rfl ?_
        refine XS.ifYes X128.here hx rfl (pc0 := 154) (pc' := 161) rfl (hb hby at_154) rfl ((if0 _ _).trans (teq (by decide : (0 : Int32) = (0 : Int32))).1) (by decide) (by decide) ?_
        refine XS.iload X128.here hx rfl (hb hby at_161) rfl ?_
        refine XS.iconst X128.here hx rfl (hb hby at_163) ?_
        refine XS.icmpYes X128.here hx rfl (pc0 := 164) (pc' := 182) rfl (hb hby at_164) rfl (flt (by decide : ¬ ((2 : Int32) < (2 : Int32)))).2.2.2 (by decide) (by decide) ?_
        refine XS.iconst X128.here hx rfl (hb hby at_182) ?_
        refine XS.istore X128.here hx rfl (hb hby at_183) rfl (l' := (own_l151 qs p2 p3 p4 p5 qa qb qc b122 b123)) rfl ?_
        refine XS.iload X128.here hx rfl (hb hby at_185) rfl ?_
        refine XS.ifYes X128.here hx rfl (pc0 := 187) (pc' := 194) rfl (hb hby at_187) rfl ((if0 _ _).trans (teq (by decide : (0 : Int32) = (0 : Int32))).1) (by decide) (by decide) ?_
        refine XS.iload X128.here hx rfl (hb hby at_194) rfl ?_
        refine XS.iconst X128.here hx rfl (hb hby at_196) ?_
        refine XS.icmpYes X128.here hx rfl (pc0 := 197) (pc' := 215) rfl (hb hby at_197) rfl (flt (by decide : ¬ ((3 : Int32) < (2 : Int32)))).2.2.2 (by decide) (by decide) ?_
        refine XS.iconst X128.here hx rfl (hb hby at_215) ?_
        refine XS.istore X128.here hx rfl (hb hby at_216) rfl (l' := (own_l152 qs p2 p3 p4 p5 qa qb qc b122 b123)) rfl ?_
        exact k
      exact own_suf_000 (h0 := h0) (n0 := n0) X128 hx hZ hw hby hml hown Bd.returns Bd.notSynchronized rfl N128 Zs128 Kc128 Ea128 Fentries128 Fcount128 Fend128 Fplaces128 Vp128 V122_128 ne_b122_b123.symm ne_b122_ap124.symm gn_b122 sz_b122
    · skip
      obtain ⟨cq139, kq139, q139a, q139b, q139c⟩ := isOf hZ rfl Ea125
      obtain ⟨_, _, ⟨T139, L139, k139, n139⟩, -, X139, ⟨Lc139, hQ139, l139, y139, z139⟩, st139⟩ := X125.virtualBack hx (y := (⟨"com/example/coho/coho/eventlog/SegmentIndex", "add", "(JJ)V"⟩ : MethodName)) (z := (⟨"com/example/coho/coho/eventlog/SegmentIndex", "add", "(JJ)V"⟩ : MethodName)) hown (mvT hZ (own_w hw 24 rfl)) (mvT hZ (own_w hw 25 rfl)) (notFace_of_selects (args := #[]) (mvT hZ (own_w hw 27 rfl))) (mvT hZ (own_w hw 27 rfl)) (mvT hZ (own_w hw 26 rfl)) (by decide) (backOf (W := 0) (rm3_1B l Z a0 hw [] b123 qb (1 : Int64) ap124 ar124 at124 kp124 ks124 (1 : Int32) (qs + qa) (0 : Int64) (0 : Int32) (0 : Int32) (0 : Int32) (0 : Int32) qs (0 : Int64) (0 : Int64) (0 : Int64) T125.heap n0 Zs125 ⟨Ea125, Fplaces125, Fstarts125, Ftimes125, Fentries125, Fcount125, Fend125, FlastTime125, Vp125, Vs125, Vt125, n0125, n1125, n2125, n3125, n4125, n5125, gg0125, gg1125, gg2125, gg3125⟩ (by rw [own_eq127]; exact hw126)) hZ (own_w hw 28 rfl) (own_w hw 5 rfl) (by decide) (by decide)) q139a q139c (g := (mkF m 69 (own_l145 qs p2 p3 p4 p5 qa qb qc b122 b123) [(.long (1 : Int64)), (.long qb), (.ref b123)])) rfl (by rw [hml]; rfl) (Steps.refl _) (argsL := [(.long qb), (.long (1 : Int64))]) (rest := []) (lenOf own_pd2 rfl) rfl (by show 2 * 0 + _ ≤ _; exact Nat.le_of_eq rfl) (hb hby at_69) (fun _ _ => ⟨rfl, rfl, (by decide : 5 + 0 ≤ _), (by decide : 23 + 0 ≤ _)⟩)
      dsimp only [Pt.U, Pt.locs, Pt.cells, Pt.slots] at X139 l139 y139 z139 st139 hQ139
      replace y139 : _ = 5 := y139
      replace z139 : _ = 23 := z139
      subst y139 z139
      obtain ⟨rfl, Nq139, Kq139, B139⟩ := hQ139
      have N139 := own_frl l139 N125 Nq139
      refine own_pre (fun t k => st139.trans k) ?_
      have V122_139 := V122_125.keep Kq139 (ninS ne_b122_b123 (ninS ne_b122_ap124 (ninS ne_b122_ar124 (ninS ne_b122_at124 nin0))))
      have Zs139 : n0 ≤ T139.heap.size := Nat.le_trans Zs125 Kq139.1
      have Kc139 : Keep h0 T139.heap [] := Kc125.trans Kq139 (allS (Or.inr sz_b123) (allS (Or.inr sz_ap124) (allS (Or.inr sz_ar124) (allS (Or.inr sz_at124) all0))))
      obtain ⟨Ea139, Fplaces139, Fstarts139, Ftimes139, Fentries139, Fcount139, Fend139, FlastTime139, Vp139, Vs139, Vt139, n0139, n1139, n2139, n3139, n4139, n5139, gg0139, gg1139, gg2139, gg3139⟩ := B139
      rw [show ((1 : Int32) + (1 : Int32)) = (2 : Int32) from by decide] at Fcount139
      refine own_pre (A := (T139.setTop (mkF m 218 (own_l156 qs p2 p3 p4 p5 qa qb qc b122 b123) []))) ?_ ?_
      · intro t k
        refine XS.iload X139.here hx rfl (hb hby at_72) rfl ?_
        refine XS.iconst X139.here hx rfl (hb hby at_74) ?_
        refine XS.icmpYes X139.here hx rfl (pc0 := 75) (pc' := 88) rfl (hb hby at_75) rfl (flt (by decide : ¬ ((2 : Int32) < (2 : Int32)))).2.2.2 (by decide) (by decide) ?_
        refine XS.iload X139.here hx rfl (hb hby at_88) rfl ?_
        refine XS.iconst X139.here hx rfl (hb hby at_90) ?_
        refine XS.icmpYes X139.here hx rfl (pc0 := 91) (pc' := 104) rfl (hb hby at_91) rfl (flt (by decide : ¬ ((3 : Int32) < (2 : Int32)))).2.2.2 (by decide) (by decide) ?_
        refine XS.lload X139.here hx rfl (hb hby at_104) rfl ?_
        refine XS.lstore X139.here hx rfl (hb hby at_106) rfl (l' := (own_l146 qs p2 p3 p4 p5 qa qb qc b122 b123)) rfl ?_
        refine XS.lload X139.here hx rfl (hb hby at_108) rfl ?_
        refine XS.lload X139.here hx rfl (hb hby at_110) rfl ?_
        refine XS.ladd X139.here hx rfl (hb hby at_112) rfl ?_
        refine XS.lstore X139.here hx rfl (hb hby at_113) rfl (l' := (own_l147 qs p2 p3 p4 p5 qa qb qc b122 b123)) rfl ?_
        refine XS.lload X139.here hx rfl (hb hby at_115) rfl ?_
        refine XS.lload X139.here hx rfl (hb hby at_117) rfl ?_
        refine XS.ladd X139.here hx rfl (hb hby at_119) rfl ?_
        refine XS.lload X139.here hx rfl (hb hby at_120) rfl ?_
        refine XS.ladd X139.here hx rfl (hb hby at_122) rfl ?_
        refine XS.lstore X139.here hx rfl (hb hby at_123) rfl (l' := (own_l148 qs p2 p3 p4 p5 qa qb qc b122 b123)) rfl ?_
        refine XS.lconst X139.here hx rfl (hb hby at_125) ?_
        refine XS.lstore X139.here hx rfl (hb hby at_126) rfl (l' := (own_l149 qs p2 p3 p4 p5 qa qb qc b122 b123)) rfl ?_
        refine XS.iload X139.here hx rfl (hb hby at_128) rfl ?_
        refine XS.iconst X139.here hx rfl (hb hby at_130) ?_
        refine XS.icmpNo X139.here hx rfl (hb hby at_131) rfl (tlt (by decide : (1 : Int32) < (2 : Int32))).2.2.2 ?_
        refine XS.lload X139.here hx rfl (hb hby at_134) rfl ?_
        refine XS.lload X139.here hx rfl (hb hby at_136) rfl ?_
        refine XS.lsub X139.here hx rfl (hb hby at_138) rfl ?_
        refine XS.lload X139.here hx rfl (hb hby at_139) rfl ?_
        refine XS.lcmp X139.here hx rfl (hb hby at_141) rfl ?_
        refine XS.ifNo X139.here hx rfl (hb hby at_142) rfl ((if0 _ _).trans (flt (fun q => hw126 ((lw_lt (qa - (0 : Int64)) (65536 : Int64)).mp q))).1) ?_
        refine XS.iconst X139.here hx rfl (hb hby at_145) ?_
        refine XS.goto X139.here hx rfl (pc0 := 146) (pc' := 150) rfl (hb hby at_146) (by decide) (by decide) ?_
        refine XS.istore X139.here hx rfl (hb hby at_150) rfl (l' := (own_l153 qs p2 p3 p4 p5 qa qb qc b122 b123)) rfl ?_
        refine XS.iload X139.here hx rfl (hb hby at_152) rfl ?_
        refine XS.ifNo X139.here hx rfl (hb hby at_154) rfl ((if0 _ _).trans (feq (by decide : ¬ ((1 : Int32) = (0 : Int32)))).1) ?_
        refine XS.lload X139.here hx rfl (hb hby at_157) rfl ?_
        refine XS.lstore X139.here hx rfl (hb hby at_159) rfl (l' := (own_l154 qs p2 p3 p4 p5 qa qb qc b122 b123)) rfl ?_
        refine XS.iload X139.here hx rfl (hb hby at_161) rfl ?_
        refine XS.iconst X139.here hx rfl (hb hby at_163) ?_
        refine XS.icmpYes X139.here hx rfl (pc0 := 164) (pc' := 182) rfl (hb hby at_164) rfl (flt (by decide : ¬ ((2 : Int32) < (2 : Int32)))).2.2.2 (by decide) (by decide) ?_
        refine XS.iconst X139.here hx rfl (hb hby at_182) ?_
        refine XS.istore X139.here hx rfl (hb hby at_183) rfl (l' := (own_l155 qs p2 p3 p4 p5 qa qb qc b122 b123)) rfl ?_
        refine XS.iload X139.here hx rfl (hb hby at_185) rfl ?_
        refine XS.ifYes X139.here hx rfl (pc0 := 187) (pc' := 194) rfl (hb hby at_187) rfl ((if0 _ _).trans (teq (by decide : (0 : Int32) = (0 : Int32))).1) (by decide) (by decide) ?_
        refine XS.iload X139.here hx rfl (hb hby at_194) rfl ?_
        refine XS.iconst X139.here hx rfl (hb hby at_196) ?_
        refine XS.icmpYes X139.here hx rfl (pc0 := 197) (pc' := 215) rfl (hb hby at_197) rfl (flt (by decide : ¬ ((3 : Int32) < (2 : Int32)))).2.2.2 (by decide) (by decide) ?_
        refine XS.iconst X139.here hx rfl (hb hby at_215) ?_
        refine XS.istore X139.here hx rfl (hb hby at_216) rfl (l' := (own_l156 qs p2 p3 p4 p5 qa qb qc b122 b123)) rfl ?_
        exact k
      exact own_suf_100 (h0 := h0) (n0 := n0) X139 hx hZ hw hby hml hown Bd.returns Bd.notSynchronized rfl N139 Zs139 Kc139 Ea139 Fentries139 Fcount139 Fend139 Fplaces139 Vp139 V122_139 ne_b122_b123.symm ne_b122_ap124.symm gn_b122 sz_b122
  · skip
    refine own_pre (A := (s₁.setTop (mkF m 36 (own_l157 qs p2 p3 p4 p5 qa qb qc) [(.int (4 : Int32))]))) ?_ ?_
    · intro t k
      refine XS.iconst X0.here hx rfl (hb hby at_35) ?_
      exact k
    obtain ⟨T166, h166, k166, X166, e166, E166, A166, st166⟩ := newP X0 hx hZ (own_w hw 2 rfl) e0 (g := (mkF m 36 (own_l157 qs p2 p3 p4 p5 qa qb qc) [(.int (4 : Int32))])) rfl (hb hby at_36) rfl (by decide) (cap := 4) (by decide) (by decide) (by decide) (by decide)
    obtain ⟨b166, g166⟩ : ∃ z, z = h0.size := ⟨_, rfl⟩
    rw [← g166] at A166 st166
    have gn_b166 : n0 ≤ b166 := Nat.le_trans Z0 (Nat.le_of_eq g166.symm)
    have sz_b166 : h0.size ≤ b166 := Nat.le_trans (Keep.refl h0 []).1 (Nat.le_of_eq g166.symm)
    have Zs166 : n0 ≤ h166.size := Nat.le_trans Z0 E166.1
    have Kc166 : Keep h0 h166 [] := (Keep.refl h0 []).ext E166
    have V166 : Arv Z h166 b166 k166 .int (4 : Int32) [(.int (0 : Int32)), (.int (0 : Int32)), (.int (0 : Int32)), (.int (0 : Int32))] (.int (0 : Int32)) := (Arv.new A166 (by decide)).pad (pad_rep [] (.int (0 : Int32)) 4)
    refine own_pre (fun t k => st166 t k) ?_
    refine own_pre (A := (T166.setTop (mkF m 40 (own_l158 qs p2 p3 p4 p5 qa qb qc b166) []))) ?_ ?_
    · intro t k
      refine XS.astore X166.here hx rfl (hb hby at_38) rfl rfl (l' := (own_l158 qs p2 p3 p4 p5 qa qb qc b166)) rfl ?_
      exact k
    obtain ⟨T167, h167, X167, e167, E167, A167, D167, -, st167⟩ := newO X166 hx hZ hown (own_w hw 3 rfl) (own_w hw 4 rfl) (own_w hw 5 rfl) e166 (g := (mkF m 40 (own_l158 qs p2 p3 p4 p5 qa qb qc b166) [])) rfl (hb hby at_40) (by decide) (by decide)
    obtain ⟨b167, g167⟩ : ∃ z, z = h166.size := ⟨_, rfl⟩
    rw [← g167] at A167 D167 st167
    have ne_b166_b167 : b166 ≠ b167 := Nat.ne_of_lt (Nat.lt_of_lt_of_le V166.lt (Nat.le_of_eq g167.symm))
    have gn_b167 : n0 ≤ b167 := Nat.le_trans Zs166 (Nat.le_of_eq g167.symm)
    have sz_b167 : h0.size ≤ b167 := Nat.le_trans Kc166.1 (Nat.le_of_eq g167.symm)
    have V166_167 := V166.ext E167
    have Zs167 : n0 ≤ h167.size := Nat.le_trans Zs166 E167.1
    have Kc167 : Keep h0 h167 [] := Kc166.ext E167
    have F167_places : Fld Z h167 b167 "com/example/coho/coho/eventlog/SegmentIndex" "places" "[I" .null := D167 (Or.inl (own_w hw 13 rfl)) (ty := (.array .int)) (by decide)
    have F167_starts : Fld Z h167 b167 "com/example/coho/coho/eventlog/SegmentIndex" "starts" "[J" .null := D167 (Or.inl (own_w hw 16 rfl)) (ty := (.array .long)) (by decide)
    have F167_times : Fld Z h167 b167 "com/example/coho/coho/eventlog/SegmentIndex" "times" "[J" .null := D167 (Or.inl (own_w hw 18 rfl)) (ty := (.array .long)) (by decide)
    have F167_lastTime : Fld Z h167 b167 "com/example/coho/coho/eventlog/SegmentIndex" "lastTime" "J" (.long (0 : Int64)) := D167 (Or.inl (own_w hw 21 rfl)) (ty := .long) (by decide)
    have F167_end : Fld Z h167 b167 "com/example/coho/coho/eventlog/SegmentIndex" "end" "J" (.long (0 : Int64)) := D167 (Or.inl (own_w hw 23 rfl)) (ty := .long) (by decide)
    have F167_entries : Fld Z h167 b167 "com/example/coho/coho/eventlog/SegmentIndex" "entries" "I" (.int (0 : Int32)) := D167 (Or.inl (own_w hw 30 rfl)) (ty := .int) (by decide)
    have F167_count : Fld Z h167 b167 "com/example/coho/coho/eventlog/SegmentIndex" "count" "I" (.int (0 : Int32)) := D167 (Or.inl (own_w hw 32 rfl)) (ty := .int) (by decide)
    refine own_pre (fun t k => st167 t k) ?_
    refine own_pre (A := (T167.setTop (mkF m 45 (own_l158 qs p2 p3 p4 p5 qa qb qc b166) [(.long qs), (.ref b167), (.ref b167)]))) ?_ ?_
    · intro t k
      refine XS.dup X167.here hx rfl (hb hby at_43) rfl rfl ?_
      refine XS.lloadN X167.here hx rfl (hb hby at_44) rfl ?_
      exact k
    obtain ⟨_, _, ⟨T168, L168, k168, n168⟩, -, X168, ⟨Lc168, hQ168, l168, y168, z168⟩, st168⟩ := X167.specialBack hx (y := (⟨"com/example/coho/coho/eventlog/SegmentIndex", "<init>", "(J)V"⟩ : MethodName)) rfl hown (mvT hZ (own_w hw 6 rfl)) (mvT hZ (own_w hw 7 rfl)) (mvT hZ (own_w hw 8 rfl)) (by decide) (backOf (W := 1) (rm1 l Z a0 hw [] b167 qs h167 n0 Zs167 A167 F167_places F167_starts F167_times F167_entries F167_count F167_end F167_lastTime gn_b167) hZ (own_w hw 8 rfl) (own_w hw 5 rfl) (by decide) (by decide)) (g := (mkF m 45 (own_l158 qs p2 p3 p4 p5 qa qb qc b166) [(.long qs), (.ref b167), (.ref b167)])) rfl (by rw [hml]; rfl) (Steps.refl _) (a := b167) (argsL := [(.long qs)]) (rest := [(.ref b167)]) (lenOf own_pd1 rfl) rfl (by show 2 * 0 + _ ≤ _; exact Nat.le_of_eq rfl) (hb hby at_45) (fun _ _ => ⟨rfl, e167, (by decide : 2 + 3 ≤ _), (by decide : 11 + 12 ≤ _)⟩)
    dsimp only [Pt.U, Pt.locs, Pt.cells, Pt.slots] at X168 l168 y168 z168 st168 hQ168
    replace y168 : _ = 5 := y168
    replace z168 : _ = 23 := z168
    subst y168 z168
    obtain ⟨rfl, Nq168, ap168, ar168, at168, kp168, ks168, Kq168, zz0168, zz1168, zz2168, B168⟩ := hQ168
    have N168 := own_frl l168 N0 Nq168
    refine own_pre (fun t k => st168.trans k) ?_
    have ne_b166_ap168 : b166 ≠ ap168 := Nat.ne_of_lt (Nat.lt_of_lt_of_le V166_167.lt zz0168)
    have ne_b166_ar168 : b166 ≠ ar168 := Nat.ne_of_lt (Nat.lt_of_lt_of_le V166_167.lt zz1168)
    have ne_b166_at168 : b166 ≠ at168 := Nat.ne_of_lt (Nat.lt_of_lt_of_le V166_167.lt zz2168)
    have V166_168 := V166_167.keep Kq168 (ninS ne_b166_b167 nin0)
    have Zs168 : n0 ≤ T168.heap.size := Nat.le_trans Zs167 Kq168.1
    have Kc168 : Keep h0 T168.heap [] := Kc167.trans Kq168 (allS (Or.inr sz_b167) all0)
    have sz_ap168 : h0.size ≤ ap168 := Nat.le_trans Kc167.1 zz0168
    have sz_ar168 : h0.size ≤ ar168 := Nat.le_trans Kc167.1 zz1168
    have sz_at168 : h0.size ≤ at168 := Nat.le_trans Kc167.1 zz2168
    obtain ⟨Ea168, Fplaces168, Fstarts168, Ftimes168, Fentries168, Fcount168, Fend168, FlastTime168, Vp168, Vs168, Vt168, n0168, n1168, n2168, n3168, n4168, n5168, gg0168, gg1168, gg2168, gg3168⟩ := B168
    refine own_pre (A := (T168.setTop (mkF m 55 (own_l159 qs p2 p3 p4 p5 qa qb qc b166 b167) [(.long (0 : Int64)), (.long qa), (.ref b167)]))) ?_ ?_
    · intro t k
      refine XS.astore X168.here hx rfl (hb hby at_48) rfl rfl (l' := (own_l159 qs p2 p3 p4 p5 qa qb qc b166 b167)) rfl ?_
      refine XS.aload X168.here hx rfl (hb hby at_50) rfl rfl ?_
      refine XS.lload X168.here hx rfl (hb hby at_52) rfl ?_
      refine XS.lconst X168.here hx rfl (hb hby at_54) ?_
      exact k
    obtain ⟨cq169, kq169, q169a, q169b, q169c⟩ := isOf hZ rfl Ea168
    obtain ⟨_, _, ⟨T169, L169, k169, n169⟩, -, X169, ⟨Lc169, hQ169, l169, y169, z169⟩, st169⟩ := X168.virtualBack hx (y := (⟨"com/example/coho/coho/eventlog/SegmentIndex", "add", "(JJ)V"⟩ : MethodName)) (z := (⟨"com/example/coho/coho/eventlog/SegmentIndex", "add", "(JJ)V"⟩ : MethodName)) hown (mvT hZ (own_w hw 24 rfl)) (mvT hZ (own_w hw 25 rfl)) (notFace_of_selects (args := #[]) (mvT hZ (own_w hw 27 rfl))) (mvT hZ (own_w hw 27 rfl)) (mvT hZ (own_w hw 26 rfl)) (by decide) (backOf (W := 0) (rm3_0 l Z a0 hw [] b167 qa (0 : Int64) ap168 ar168 at168 kp168 ks168 (0 : Int32) qs (-9223372036854775808 : Int64) (0 : Int32) (0 : Int32) (0 : Int32) (0 : Int32) (0 : Int64) (0 : Int64) (0 : Int64) (0 : Int64) T168.heap n0 Zs168 ⟨Ea168, Fplaces168, Fstarts168, Ftimes168, Fentries168, Fcount168, Fend168, FlastTime168, Vp168, Vs168, Vt168, n0168, n1168, n2168, n3168, n4168, n5168, gg0168, gg1168, gg2168, gg3168⟩) hZ (own_w hw 28 rfl) (own_w hw 5 rfl) (by decide) (by decide)) q169a q169c (g := (mkF m 55 (own_l159 qs p2 p3 p4 p5 qa qb qc b166 b167) [(.long (0 : Int64)), (.long qa), (.ref b167)])) rfl (by rw [hml]; rfl) (Steps.refl _) (argsL := [(.long qa), (.long (0 : Int64))]) (rest := []) (lenOf own_pd2 rfl) rfl (by show 2 * 0 + _ ≤ _; exact Nat.le_of_eq rfl) (hb hby at_55) (fun _ _ => ⟨rfl, rfl, (by decide : 5 + 0 ≤ _), (by decide : 23 + 0 ≤ _)⟩)
    dsimp only [Pt.U, Pt.locs, Pt.cells, Pt.slots] at X169 l169 y169 z169 st169 hQ169
    replace y169 : _ = 5 := y169
    replace z169 : _ = 23 := z169
    subst y169 z169
    obtain ⟨rfl, Nq169, Kq169, B169⟩ := hQ169
    have N169 := own_frl l169 N168 Nq169
    refine own_pre (fun t k => st169.trans k) ?_
    have V166_169 := V166_168.keep Kq169 (ninS ne_b166_b167 (ninS ne_b166_ap168 (ninS ne_b166_ar168 (ninS ne_b166_at168 nin0))))
    have Zs169 : n0 ≤ T169.heap.size := Nat.le_trans Zs168 Kq169.1
    have Kc169 : Keep h0 T169.heap [] := Kc168.trans Kq169 (allS (Or.inr sz_b167) (allS (Or.inr sz_ap168) (allS (Or.inr sz_ar168) (allS (Or.inr sz_at168) all0))))
    obtain ⟨Ea169, Fplaces169, Fstarts169, Ftimes169, Fentries169, Fcount169, Fend169, FlastTime169, Vp169, Vs169, Vt169, n0169, n1169, n2169, n3169, n4169, n5169, gg0169, gg1169, gg2169, gg3169⟩ := B169
    rw [show ((0 : Int32) + (1 : Int32)) = (1 : Int32) from by decide] at Fcount169
    refine own_pre (A := (T169.setTop (mkF m 69 (own_l159 qs p2 p3 p4 p5 qa qb qc b166 b167) [(.long (1 : Int64)), (.long qb), (.ref b167)]))) ?_ ?_
    · intro t k
      refine XS.iload X169.here hx rfl (hb hby at_58) rfl ?_
      refine XS.iconst X169.here hx rfl (hb hby at_60) ?_
      refine XS.icmpNo X169.here hx rfl (hb hby at_61) rfl (tlt (by decide : (1 : Int32) < (3 : Int32))).2.2.2 ?_
      refine XS.aload X169.here hx rfl (hb hby at_64) rfl rfl ?_
      refine XS.lload X169.here hx rfl (hb hby at_66) rfl ?_
      refine XS.lconst X169.here hx rfl (hb hby at_68) ?_
      exact k
    have own_eq171 : (qs + qa) - qs = qa - (0 : Int64) := by first | exact own_sub0 _ _ | (simp only [Int64.add_assoc]; exact own_sub0 _ _)
    by_cases hw170 : (qa - (0 : Int64)) < (65536 : Int64)
    · skip
      obtain ⟨cq172, kq172, q172a, q172b, q172c⟩ := isOf hZ rfl Ea169
      obtain ⟨_, _, ⟨T172, L172, k172, n172⟩, -, X172, ⟨Lc172, hQ172, l172, y172, z172⟩, st172⟩ := X169.virtualBack hx (y := (⟨"com/example/coho/coho/eventlog/SegmentIndex", "add", "(JJ)V"⟩ : MethodName)) (z := (⟨"com/example/coho/coho/eventlog/SegmentIndex", "add", "(JJ)V"⟩ : MethodName)) hown (mvT hZ (own_w hw 24 rfl)) (mvT hZ (own_w hw 25 rfl)) (notFace_of_selects (args := #[]) (mvT hZ (own_w hw 27 rfl))) (mvT hZ (own_w hw 27 rfl)) (mvT hZ (own_w hw 26 rfl)) (by decide) (backOf (W := 0) (rm3_1A l Z a0 hw [] b167 qb (1 : Int64) ap168 ar168 at168 kp168 ks168 (1 : Int32) (qs + qa) (0 : Int64) (0 : Int32) (0 : Int32) (0 : Int32) (0 : Int32) qs (0 : Int64) (0 : Int64) (0 : Int64) T169.heap n0 Zs169 ⟨Ea169, Fplaces169, Fstarts169, Ftimes169, Fentries169, Fcount169, Fend169, FlastTime169, Vp169, Vs169, Vt169, n0169, n1169, n2169, n3169, n4169, n5169, gg0169, gg1169, gg2169, gg3169⟩ (by rw [own_eq171]; exact hw170)) hZ (own_w hw 28 rfl) (own_w hw 5 rfl) (by decide) (by decide)) q172a q172c (g := (mkF m 69 (own_l159 qs p2 p3 p4 p5 qa qb qc b166 b167) [(.long (1 : Int64)), (.long qb), (.ref b167)])) rfl (by rw [hml]; rfl) (Steps.refl _) (argsL := [(.long qb), (.long (1 : Int64))]) (rest := []) (lenOf own_pd2 rfl) rfl (by show 2 * 0 + _ ≤ _; exact Nat.le_of_eq rfl) (hb hby at_69) (fun _ _ => ⟨rfl, rfl, (by decide : 5 + 0 ≤ _), (by decide : 23 + 0 ≤ _)⟩)
      dsimp only [Pt.U, Pt.locs, Pt.cells, Pt.slots] at X172 l172 y172 z172 st172 hQ172
      replace y172 : _ = 5 := y172
      replace z172 : _ = 23 := z172
      subst y172 z172
      obtain ⟨rfl, Nq172, Kq172, B172⟩ := hQ172
      have N172 := own_frl l172 N169 Nq172
      refine own_pre (fun t k => st172.trans k) ?_
      have V166_172 := V166_169.keep Kq172 (ninS ne_b166_b167 (ninS ne_b166_ap168 (ninS ne_b166_ar168 (ninS ne_b166_at168 nin0))))
      have Zs172 : n0 ≤ T172.heap.size := Nat.le_trans Zs169 Kq172.1
      have Kc172 : Keep h0 T172.heap [] := Kc169.trans Kq172 (allS (Or.inr sz_b167) (allS (Or.inr sz_ap168) (allS (Or.inr sz_ar168) (allS (Or.inr sz_at168) all0))))
      obtain ⟨Ea172, Fplaces172, Fstarts172, Ftimes172, Fentries172, Fcount172, Fend172, FlastTime172, Vp172, Vs172, Vt172, n0172, n1172, n2172, n3172, n4172, n5172, gg0172, gg1172, gg2172, gg3172⟩ := B172
      rw [show ((1 : Int32) + (1 : Int32)) = (2 : Int32) from by decide] at Fcount172
      refine own_pre (A := (T172.setTop (mkF m 85 (own_l159 qs p2 p3 p4 p5 qa qb qc b166 b167) [(.long (2 : Int64)), (.long qc), (.ref b167)]))) ?_ ?_
      · intro t k
        refine XS.iload X172.here hx rfl (hb hby at_72) rfl ?_
        refine XS.iconst X172.here hx rfl (hb hby at_74) ?_
        refine XS.icmpNo X172.here hx rfl (hb hby at_75) rfl (tlt (by decide : (2 : Int32) < (3 : Int32))).2.2.2 ?_
        refine XS.aload X172.here hx rfl (hb hby at_78) rfl rfl ?_
        refine XS.lload X172.here hx rfl (hb hby at_80) rfl ?_
        show Steps p.tables e below (T172.setTop (mkF m 82 (own_l159 qs p2 p3 p4 p5 qa qb qc b166 b167) [(.long qc), (.ref b167)])) _
        refine X172.ldc2Long hx hown (mvT hZ (own_w hw 34 rfl)) (g := (mkF m 82 (own_l159 qs p2 p3 p4 p5 qa qb qc b166 b167) [(.long qc), (.ref b167)])) rfl (hb hby at_82) _ ?_
        exact k
      have own_eq174 : ((qs + qa) + qb) - qs = (qa + qb) - (0 : Int64) := by first | exact own_sub0 _ _ | (simp only [Int64.add_assoc]; exact own_sub0 _ _)
      by_cases hw173 : ((qa + qb) - (0 : Int64)) < (65536 : Int64)
      · skip
        obtain ⟨cq175, kq175, q175a, q175b, q175c⟩ := isOf hZ rfl Ea172
        obtain ⟨_, _, ⟨T175, L175, k175, n175⟩, -, X175, ⟨Lc175, hQ175, l175, y175, z175⟩, st175⟩ := X172.virtualBack hx (y := (⟨"com/example/coho/coho/eventlog/SegmentIndex", "add", "(JJ)V"⟩ : MethodName)) (z := (⟨"com/example/coho/coho/eventlog/SegmentIndex", "add", "(JJ)V"⟩ : MethodName)) hown (mvT hZ (own_w hw 24 rfl)) (mvT hZ (own_w hw 25 rfl)) (notFace_of_selects (args := #[]) (mvT hZ (own_w hw 27 rfl))) (mvT hZ (own_w hw 27 rfl)) (mvT hZ (own_w hw 26 rfl)) (by decide) (backOf (W := 0) (rm3_1A l Z a0 hw [] b167 qc (2 : Int64) ap168 ar168 at168 kp168 ks168 (2 : Int32) ((qs + qa) + qb) (1 : Int64) (0 : Int32) (0 : Int32) (0 : Int32) (0 : Int32) qs (0 : Int64) (0 : Int64) (0 : Int64) T172.heap n0 Zs172 ⟨Ea172, Fplaces172, Fstarts172, Ftimes172, Fentries172, Fcount172, Fend172, FlastTime172, Vp172, Vs172, Vt172, n0172, n1172, n2172, n3172, n4172, n5172, gg0172, gg1172, gg2172, gg3172⟩ (by rw [own_eq174]; exact hw173)) hZ (own_w hw 28 rfl) (own_w hw 5 rfl) (by decide) (by decide)) q175a q175c (g := (mkF m 85 (own_l159 qs p2 p3 p4 p5 qa qb qc b166 b167) [(.long (2 : Int64)), (.long qc), (.ref b167)])) rfl (by rw [hml]; rfl) (Steps.refl _) (argsL := [(.long qc), (.long (2 : Int64))]) (rest := []) (lenOf own_pd2 rfl) rfl (by show 2 * 0 + _ ≤ _; exact Nat.le_of_eq rfl) (hb hby at_85) (fun _ _ => ⟨rfl, rfl, (by decide : 5 + 0 ≤ _), (by decide : 23 + 0 ≤ _)⟩)
        dsimp only [Pt.U, Pt.locs, Pt.cells, Pt.slots] at X175 l175 y175 z175 st175 hQ175
        replace y175 : _ = 5 := y175
        replace z175 : _ = 23 := z175
        subst y175 z175
        obtain ⟨rfl, Nq175, Kq175, B175⟩ := hQ175
        have N175 := own_frl l175 N172 Nq175
        refine own_pre (fun t k => st175.trans k) ?_
        have V166_175 := V166_172.keep Kq175 (ninS ne_b166_b167 (ninS ne_b166_ap168 (ninS ne_b166_ar168 (ninS ne_b166_at168 nin0))))
        have Zs175 : n0 ≤ T175.heap.size := Nat.le_trans Zs172 Kq175.1
        have Kc175 : Keep h0 T175.heap [] := Kc172.trans Kq175 (allS (Or.inr sz_b167) (allS (Or.inr sz_ap168) (allS (Or.inr sz_ar168) (allS (Or.inr sz_at168) all0))))
        obtain ⟨Ea175, Fplaces175, Fstarts175, Ftimes175, Fentries175, Fcount175, Fend175, FlastTime175, Vp175, Vs175, Vt175, n0175, n1175, n2175, n3175, n4175, n5175, gg0175, gg1175, gg2175, gg3175⟩ := B175
        rw [show ((2 : Int32) + (1 : Int32)) = (3 : Int32) from by decide] at Fcount175
        refine own_pre (A := (T175.setTop (mkF m 218 (own_l166 qs p2 p3 p4 p5 qa qb qc b166 b167) []))) ?_ ?_
        · intro t k
          refine XS.iload X175.here hx rfl (hb hby at_88) rfl ?_
          refine XS.iconst X175.here hx rfl (hb hby at_90) ?_
          refine XS.icmpYes X175.here hx rfl (pc0 := 91) (pc' := 104) rfl (hb hby at_91) rfl (flt (by decide : ¬ ((3 : Int32) < (3 : Int32)))).2.2.2 (by decide) (by decide) ?_
          refine XS.lload X175.here hx rfl (hb hby at_104) rfl ?_
          refine XS.lstore X175.here hx rfl (hb hby at_106) rfl (l' := (own_l160 qs p2 p3 p4 p5 qa qb qc b166 b167)) rfl ?_
          refine XS.lload X175.here hx rfl (hb hby at_108) rfl ?_
          refine XS.lload X175.here hx rfl (hb hby at_110) rfl ?_
          refine XS.ladd X175.here hx rfl (hb hby at_112) rfl ?_
          refine XS.lstore X175.here hx rfl (hb hby at_113) rfl (l' := (own_l161 qs p2 p3 p4 p5 qa qb qc b166 b167)) rfl ?_
          refine XS.lload X175.here hx rfl (hb hby at_115) rfl ?_
          refine XS.lload X175.here hx rfl (hb hby at_117) rfl ?_
          refine XS.ladd X175.here hx rfl (hb hby at_119) rfl ?_
          refine XS.lload X175.here hx rfl (hb hby at_120) rfl ?_
          refine XS.ladd X175.here hx rfl (hb hby at_122) rfl ?_
          refine XS.lstore X175.here hx rfl (hb hby at_123) rfl (l' := (own_l162 qs p2 p3 p4 p5 qa qb qc b166 b167)) rfl ?_
          refine XS.lconst X175.here hx rfl (hb hby at_125) ?_
          refine XS.lstore X175.here hx rfl (hb hby at_126) rfl (l' := (own_l163 qs p2 p3 p4 p5 qa qb qc b166 b167)) rfl ?_
          refine XS.iload X175.here hx rfl (hb hby at_128) rfl ?_
          refine XS.iconst X175.here hx rfl (hb hby at_130) ?_
          refine XS.icmpNo X175.here hx rfl (hb hby at_131) rfl (tlt (by decide : (1 : Int32) < (3 : Int32))).2.2.2 ?_
          refine XS.lload X175.here hx rfl (hb hby at_134) rfl ?_
          refine XS.lload X175.here hx rfl (hb hby at_136) rfl ?_
          refine XS.lsub X175.here hx rfl (hb hby at_138) rfl ?_
          refine XS.lload X175.here hx rfl (hb hby at_139) rfl ?_
          refine XS.lcmp X175.here hx rfl (hb hby at_141) rfl ?_
          refine XS.ifYes X175.here hx rfl (pc0 := 142) (pc' := 149) rfl (hb hby at_142) rfl ((if0 _ _).trans (tlt ((lw_lt (qa - (0 : Int64)) (65536 : Int64)).mpr hw170)).1) (by decide) (by decide) ?_
          refine XS.iconst X175.here hx rfl (hb hby at_149) ?_
          refine XS.istore X175.here hx rfl (hb hby at_150) rfl (l' := (own_l164 qs p2 p3 p4 p5 qa qb qc b166 b167)) rfl ?_
          refine XS.iload X175.here hx rfl (hb hby at_152) rfl ?_
          refine XS.ifYes X175.here hx rfl (pc0 := 154) (pc' := 161) rfl (hb hby at_154) rfl ((if0 _ _).trans (teq (by decide : (0 : Int32) = (0 : Int32))).1) (by decide) (by decide) ?_
          refine XS.iload X175.here hx rfl (hb hby at_161) rfl ?_
          refine XS.iconst X175.here hx rfl (hb hby at_163) ?_
          refine XS.icmpNo X175.here hx rfl (hb hby at_164) rfl (tlt (by decide : (2 : Int32) < (3 : Int32))).2.2.2 ?_
          refine XS.lload X175.here hx rfl (hb hby at_167) rfl ?_
          refine XS.lload X175.here hx rfl (hb hby at_169) rfl ?_
          refine XS.lsub X175.here hx rfl (hb hby at_171) rfl ?_
          refine XS.lload X175.here hx rfl (hb hby at_172) rfl ?_
          refine XS.lcmp X175.here hx rfl (hb hby at_174) rfl ?_
          refine XS.ifYes X175.here hx rfl (pc0 := 175) (pc' := 182) rfl (hb hby at_175) rfl ((if0 _ _).trans (tlt ((lw_lt ((qa + qb) - (0 : Int64)) (65536 : Int64)).mpr hw173)).1) (by decide) (by decide) ?_
          refine XS.iconst X175.here hx rfl (hb hby at_182) ?_
          refine XS.istore X175.here hx rfl (hb hby at_183) rfl (l' := (own_l165 qs p2 p3 p4 p5 qa qb qc b166 b167)) rfl ?_
          refine XS.iload X175.here hx rfl (hb hby at_185) rfl ?_
          refine XS.ifYes X175.here hx rfl (pc0 := 187) (pc' := 194) rfl (hb hby at_187) rfl ((if0 _ _).trans (teq (by decide : (0 : Int32) = (0 : Int32))).1) (by decide) (by decide) ?_
          refine XS.iload X175.here hx rfl (hb hby at_194) rfl ?_
          refine XS.iconst X175.here hx rfl (hb hby at_196) ?_
          refine XS.icmpYes X175.here hx rfl (pc0 := 197) (pc' := 215) rfl (hb hby at_197) rfl (flt (by decide : ¬ ((3 : Int32) < (3 : Int32)))).2.2.2 (by decide) (by decide) ?_
          refine XS.iconst X175.here hx rfl (hb hby at_215) ?_
          refine XS.istore X175.here hx rfl (hb hby at_216) rfl (l' := (own_l166 qs p2 p3 p4 p5 qa qb qc b166 b167)) rfl ?_
          exact k
        exact own_suf_000 (h0 := h0) (n0 := n0) X175 hx hZ hw hby hml hown Bd.returns Bd.notSynchronized rfl N175 Zs175 Kc175 Ea175 Fentries175 Fcount175 Fend175 Fplaces175 Vp175 V166_175 ne_b166_b167.symm ne_b166_ap168.symm gn_b166 sz_b166
      · skip
        obtain ⟨cq176, kq176, q176a, q176b, q176c⟩ := isOf hZ rfl Ea172
        obtain ⟨_, _, ⟨T176, L176, k176, n176⟩, -, X176, ⟨Lc176, hQ176, l176, y176, z176⟩, st176⟩ := X172.virtualBack hx (y := (⟨"com/example/coho/coho/eventlog/SegmentIndex", "add", "(JJ)V"⟩ : MethodName)) (z := (⟨"com/example/coho/coho/eventlog/SegmentIndex", "add", "(JJ)V"⟩ : MethodName)) hown (mvT hZ (own_w hw 24 rfl)) (mvT hZ (own_w hw 25 rfl)) (notFace_of_selects (args := #[]) (mvT hZ (own_w hw 27 rfl))) (mvT hZ (own_w hw 27 rfl)) (mvT hZ (own_w hw 26 rfl)) (by decide) (backOf (W := 0) (rm3_1B l Z a0 hw [] b167 qc (2 : Int64) ap168 ar168 at168 kp168 ks168 (2 : Int32) ((qs + qa) + qb) (1 : Int64) (0 : Int32) (0 : Int32) (0 : Int32) (0 : Int32) qs (0 : Int64) (0 : Int64) (0 : Int64) T172.heap n0 Zs172 ⟨Ea172, Fplaces172, Fstarts172, Ftimes172, Fentries172, Fcount172, Fend172, FlastTime172, Vp172, Vs172, Vt172, n0172, n1172, n2172, n3172, n4172, n5172, gg0172, gg1172, gg2172, gg3172⟩ (by rw [own_eq174]; exact hw173)) hZ (own_w hw 28 rfl) (own_w hw 5 rfl) (by decide) (by decide)) q176a q176c (g := (mkF m 85 (own_l159 qs p2 p3 p4 p5 qa qb qc b166 b167) [(.long (2 : Int64)), (.long qc), (.ref b167)])) rfl (by rw [hml]; rfl) (Steps.refl _) (argsL := [(.long qc), (.long (2 : Int64))]) (rest := []) (lenOf own_pd2 rfl) rfl (by show 2 * 0 + _ ≤ _; exact Nat.le_of_eq rfl) (hb hby at_85) (fun _ _ => ⟨rfl, rfl, (by decide : 5 + 0 ≤ _), (by decide : 23 + 0 ≤ _)⟩)
        dsimp only [Pt.U, Pt.locs, Pt.cells, Pt.slots] at X176 l176 y176 z176 st176 hQ176
        replace y176 : _ = 5 := y176
        replace z176 : _ = 23 := z176
        subst y176 z176
        obtain ⟨rfl, Nq176, Kq176, B176⟩ := hQ176
        have N176 := own_frl l176 N172 Nq176
        refine own_pre (fun t k => st176.trans k) ?_
        have V166_176 := V166_172.keep Kq176 (ninS ne_b166_b167 (ninS ne_b166_ap168 (ninS ne_b166_ar168 (ninS ne_b166_at168 nin0))))
        have Zs176 : n0 ≤ T176.heap.size := Nat.le_trans Zs172 Kq176.1
        have Kc176 : Keep h0 T176.heap [] := Kc172.trans Kq176 (allS (Or.inr sz_b167) (allS (Or.inr sz_ap168) (allS (Or.inr sz_ar168) (allS (Or.inr sz_at168) all0))))
        obtain ⟨Ea176, Fplaces176, Fstarts176, Ftimes176, Fentries176, Fcount176, Fend176, FlastTime176, Vp176, Vs176, Vt176, n0176, n1176, n2176, n3176, n4176, n5176, gg0176, gg1176, gg2176, gg3176⟩ := B176
        rw [show ((2 : Int32) + (1 : Int32)) = (3 : Int32) from by decide] at Fcount176
        refine own_pre (A := (T176.setTop (mkF m 218 (own_l169 qs p2 p3 p4 p5 qa qb qc b166 b167) []))) ?_ ?_
        · intro t k
          refine XS.iload X176.here hx rfl (hb hby at_88) rfl ?_
          refine XS.iconst X176.here hx rfl (hb hby at_90) ?_
          refine XS.icmpYes X176.here hx rfl (pc0 := 91) (pc' := 104) rfl (hb hby at_91) rfl (flt (by decide : ¬ ((3 : Int32) < (3 : Int32)))).2.2.2 (by decide) (by decide) ?_
          refine XS.lload X176.here hx rfl (hb hby at_104) rfl ?_
          refine XS.lstore X176.here hx rfl (hb hby at_106) rfl (l' := (own_l160 qs p2 p3 p4 p5 qa qb qc b166 b167)) rfl ?_
          refine XS.lload X176.here hx rfl (hb hby at_108) rfl ?_
          refine XS.lload X176.here hx rfl (hb hby at_110) rfl ?_
          refine XS.ladd X176.here hx rfl (hb hby at_112) rfl ?_
          refine XS.lstore X176.here hx rfl (hb hby at_113) rfl (l' := (own_l161 qs p2 p3 p4 p5 qa qb qc b166 b167)) rfl ?_
          refine XS.lload X176.here hx rfl (hb hby at_115) rfl ?_
          refine XS.lload X176.here hx rfl (hb hby at_117) rfl ?_
          refine XS.ladd X176.here hx rfl (hb hby at_119) rfl ?_
          refine XS.lload X176.here hx rfl (hb hby at_120) rfl ?_
          refine XS.ladd X176.here hx rfl (hb hby at_122) rfl ?_
          refine XS.lstore X176.here hx rfl (hb hby at_123) rfl (l' := (own_l162 qs p2 p3 p4 p5 qa qb qc b166 b167)) rfl ?_
          refine XS.lconst X176.here hx rfl (hb hby at_125) ?_
          refine XS.lstore X176.here hx rfl (hb hby at_126) rfl (l' := (own_l163 qs p2 p3 p4 p5 qa qb qc b166 b167)) rfl ?_
          refine XS.iload X176.here hx rfl (hb hby at_128) rfl ?_
          refine XS.iconst X176.here hx rfl (hb hby at_130) ?_
          refine XS.icmpNo X176.here hx rfl (hb hby at_131) rfl (tlt (by decide : (1 : Int32) < (3 : Int32))).2.2.2 ?_
          refine XS.lload X176.here hx rfl (hb hby at_134) rfl ?_
          refine XS.lload X176.here hx rfl (hb hby at_136) rfl ?_
          refine XS.lsub X176.here hx rfl (hb hby at_138) rfl ?_
          refine XS.lload X176.here hx rfl (hb hby at_139) rfl ?_
          refine XS.lcmp X176.here hx rfl (hb hby at_141) rfl ?_
          refine XS.ifYes X176.here hx rfl (pc0 := 142) (pc' := 149) rfl (hb hby at_142) rfl ((if0 _ _).trans (tlt ((lw_lt (qa - (0 : Int64)) (65536 : Int64)).mpr hw170)).1) (by decide) (by decide) ?_
          refine XS.iconst X176.here hx rfl (hb hby at_149) ?_
          refine XS.istore X176.here hx rfl (hb hby at_150) rfl (l' := (own_l164 qs p2 p3 p4 p5 qa qb qc b166 b167)) rfl ?_
          refine XS.iload X176.here hx rfl (hb hby at_152) rfl ?_
          refine XS.ifYes X176.here hx rfl (pc0 := 154) (pc' := 161) rfl (hb hby at_154) rfl ((if0 _ _).trans (teq (by decide : (0 : Int32) = (0 : Int32))).1) (by decide) (by decide) ?_
          refine XS.iload X176.here hx rfl (hb hby at_161) rfl ?_
          refine XS.iconst X176.here hx rfl (hb hby at_163) ?_
          refine XS.icmpNo X176.here hx rfl (hb hby at_164) rfl (tlt (by decide : (2 : Int32) < (3 : Int32))).2.2.2 ?_
          refine XS.lload X176.here hx rfl (hb hby at_167) rfl ?_
          refine XS.lload X176.here hx rfl (hb hby at_169) rfl ?_
          refine XS.lsub X176.here hx rfl (hb hby at_171) rfl ?_
          refine XS.lload X176.here hx rfl (hb hby at_172) rfl ?_
          refine XS.lcmp X176.here hx rfl (hb hby at_174) rfl ?_
          refine XS.ifNo X176.here hx rfl (hb hby at_175) rfl ((if0 _ _).trans (flt (fun q => hw173 ((lw_lt ((qa + qb) - (0 : Int64)) (65536 : Int64)).mp q))).1) ?_
          refine XS.iconst X176.here hx rfl (hb hby at_178) ?_
          refine XS.goto X176.here hx rfl (pc0 := 179) (pc' := 183) rfl (hb hby at_179) (by decide) (by decide) ?_
          refine XS.istore X176.here hx rfl (hb hby at_183) rfl (l' := (own_l167 qs p2 p3 p4 p5 qa qb qc b166 b167)) rfl ?_
          refine XS.iload X176.here hx rfl (hb hby at_185) rfl ?_
          refine XS.ifNo X176.here hx rfl (hb hby at_187) rfl ((if0 _ _).trans (feq (by decide : ¬ ((1 : Int32) = (0 : Int32)))).1) ?_
          refine XS.lload X176.here hx rfl (hb hby at_190) rfl ?_
          refine XS.lstore X176.here hx rfl (hb hby at_192) rfl (l' := (own_l168 qs p2 p3 p4 p5 qa qb qc b166 b167)) rfl ?_
          refine XS.iload X176.here hx rfl (hb hby at_194) rfl ?_
          refine XS.iconst X176.here hx rfl (hb hby at_196) ?_
          refine XS.icmpYes X176.here hx rfl (pc0 := 197) (pc' := 215) rfl (hb hby at_197) rfl (flt (by decide : ¬ ((3 : Int32) < (3 : Int32)))).2.2.2 (by decide) (by decide) ?_
          refine XS.iconst X176.here hx rfl (hb hby at_215) ?_
          refine XS.istore X176.here hx rfl (hb hby at_216) rfl (l' := (own_l169 qs p2 p3 p4 p5 qa qb qc b166 b167)) rfl ?_
          exact k
        exact own_suf_010 (h0 := h0) (n0 := n0) X176 hx hZ hw hby hml hown Bd.returns Bd.notSynchronized rfl N176 Zs176 Kc176 Ea176 Fentries176 Fcount176 Fend176 Fplaces176 Vp176 V166_176 ne_b166_b167.symm ne_b166_ap168.symm gn_b166 sz_b166
    · skip
      obtain ⟨cq177, kq177, q177a, q177b, q177c⟩ := isOf hZ rfl Ea169
      obtain ⟨_, _, ⟨T177, L177, k177, n177⟩, -, X177, ⟨Lc177, hQ177, l177, y177, z177⟩, st177⟩ := X169.virtualBack hx (y := (⟨"com/example/coho/coho/eventlog/SegmentIndex", "add", "(JJ)V"⟩ : MethodName)) (z := (⟨"com/example/coho/coho/eventlog/SegmentIndex", "add", "(JJ)V"⟩ : MethodName)) hown (mvT hZ (own_w hw 24 rfl)) (mvT hZ (own_w hw 25 rfl)) (notFace_of_selects (args := #[]) (mvT hZ (own_w hw 27 rfl))) (mvT hZ (own_w hw 27 rfl)) (mvT hZ (own_w hw 26 rfl)) (by decide) (backOf (W := 0) (rm3_1B l Z a0 hw [] b167 qb (1 : Int64) ap168 ar168 at168 kp168 ks168 (1 : Int32) (qs + qa) (0 : Int64) (0 : Int32) (0 : Int32) (0 : Int32) (0 : Int32) qs (0 : Int64) (0 : Int64) (0 : Int64) T169.heap n0 Zs169 ⟨Ea169, Fplaces169, Fstarts169, Ftimes169, Fentries169, Fcount169, Fend169, FlastTime169, Vp169, Vs169, Vt169, n0169, n1169, n2169, n3169, n4169, n5169, gg0169, gg1169, gg2169, gg3169⟩ (by rw [own_eq171]; exact hw170)) hZ (own_w hw 28 rfl) (own_w hw 5 rfl) (by decide) (by decide)) q177a q177c (g := (mkF m 69 (own_l159 qs p2 p3 p4 p5 qa qb qc b166 b167) [(.long (1 : Int64)), (.long qb), (.ref b167)])) rfl (by rw [hml]; rfl) (Steps.refl _) (argsL := [(.long qb), (.long (1 : Int64))]) (rest := []) (lenOf own_pd2 rfl) rfl (by show 2 * 0 + _ ≤ _; exact Nat.le_of_eq rfl) (hb hby at_69) (fun _ _ => ⟨rfl, rfl, (by decide : 5 + 0 ≤ _), (by decide : 23 + 0 ≤ _)⟩)
      dsimp only [Pt.U, Pt.locs, Pt.cells, Pt.slots] at X177 l177 y177 z177 st177 hQ177
      replace y177 : _ = 5 := y177
      replace z177 : _ = 23 := z177
      subst y177 z177
      obtain ⟨rfl, Nq177, Kq177, B177⟩ := hQ177
      have N177 := own_frl l177 N169 Nq177
      refine own_pre (fun t k => st177.trans k) ?_
      have V166_177 := V166_169.keep Kq177 (ninS ne_b166_b167 (ninS ne_b166_ap168 (ninS ne_b166_ar168 (ninS ne_b166_at168 nin0))))
      have Zs177 : n0 ≤ T177.heap.size := Nat.le_trans Zs169 Kq177.1
      have Kc177 : Keep h0 T177.heap [] := Kc169.trans Kq177 (allS (Or.inr sz_b167) (allS (Or.inr sz_ap168) (allS (Or.inr sz_ar168) (allS (Or.inr sz_at168) all0))))
      obtain ⟨Ea177, Fplaces177, Fstarts177, Ftimes177, Fentries177, Fcount177, Fend177, FlastTime177, Vp177, Vs177, Vt177, n0177, n1177, n2177, n3177, n4177, n5177, gg0177, gg1177, gg2177, gg3177⟩ := B177
      rw [show ((1 : Int32) + (1 : Int32)) = (2 : Int32) from by decide] at Fcount177
      refine own_pre (A := (T177.setTop (mkF m 85 (own_l159 qs p2 p3 p4 p5 qa qb qc b166 b167) [(.long (2 : Int64)), (.long qc), (.ref b167)]))) ?_ ?_
      · intro t k
        refine XS.iload X177.here hx rfl (hb hby at_72) rfl ?_
        refine XS.iconst X177.here hx rfl (hb hby at_74) ?_
        refine XS.icmpNo X177.here hx rfl (hb hby at_75) rfl (tlt (by decide : (2 : Int32) < (3 : Int32))).2.2.2 ?_
        refine XS.aload X177.here hx rfl (hb hby at_78) rfl rfl ?_
        refine XS.lload X177.here hx rfl (hb hby at_80) rfl ?_
        show Steps p.tables e below (T177.setTop (mkF m 82 (own_l159 qs p2 p3 p4 p5 qa qb qc b166 b167) [(.long qc), (.ref b167)])) _
        refine X177.ldc2Long hx hown (mvT hZ (own_w hw 34 rfl)) (g := (mkF m 82 (own_l159 qs p2 p3 p4 p5 qa qb qc b166 b167) [(.long qc), (.ref b167)])) rfl (hb hby at_82) _ ?_
        exact k
      have own_eq179 : ((qs + qa) + qb) - (qs + qa) = (qa + qb) - qa := by first | exact own_sub _ _ _ | (simp only [Int64.add_assoc]; exact own_sub _ _ _)
      by_cases hw178 : ((qa + qb) - qa) < (65536 : Int64)
      · skip
        obtain ⟨cq180, kq180, q180a, q180b, q180c⟩ := isOf hZ rfl Ea177
        obtain ⟨_, _, ⟨T180, L180, k180, n180⟩, -, X180, ⟨Lc180, hQ180, l180, y180, z180⟩, st180⟩ := X177.virtualBack hx (y := (⟨"com/example/coho/coho/eventlog/SegmentIndex", "add", "(JJ)V"⟩ : MethodName)) (z := (⟨"com/example/coho/coho/eventlog/SegmentIndex", "add", "(JJ)V"⟩ : MethodName)) hown (mvT hZ (own_w hw 24 rfl)) (mvT hZ (own_w hw 25 rfl)) (notFace_of_selects (args := #[]) (mvT hZ (own_w hw 27 rfl))) (mvT hZ (own_w hw 27 rfl)) (mvT hZ (own_w hw 26 rfl)) (by decide) (backOf (W := 0) (rm3_2A l Z a0 hw [] b167 qc (2 : Int64) ap168 ar168 at168 kp168 ks168 (2 : Int32) ((qs + qa) + qb) (1 : Int64) (0 : Int32) (1 : Int32) (0 : Int32) (0 : Int32) qs (qs + qa) (0 : Int64) (0 : Int64) T177.heap n0 Zs177 ⟨Ea177, Fplaces177, Fstarts177, Ftimes177, Fentries177, Fcount177, Fend177, FlastTime177, Vp177, Vs177, Vt177, n0177, n1177, n2177, n3177, n4177, n5177, gg0177, gg1177, gg2177, gg3177⟩ (by rw [own_eq179]; exact hw178)) hZ (own_w hw 28 rfl) (own_w hw 5 rfl) (by decide) (by decide)) q180a q180c (g := (mkF m 85 (own_l159 qs p2 p3 p4 p5 qa qb qc b166 b167) [(.long (2 : Int64)), (.long qc), (.ref b167)])) rfl (by rw [hml]; rfl) (Steps.refl _) (argsL := [(.long qc), (.long (2 : Int64))]) (rest := []) (lenOf own_pd2 rfl) rfl (by show 2 * 0 + _ ≤ _; exact Nat.le_of_eq rfl) (hb hby at_85) (fun _ _ => ⟨rfl, rfl, (by decide : 5 + 0 ≤ _), (by decide : 23 + 0 ≤ _)⟩)
        dsimp only [Pt.U, Pt.locs, Pt.cells, Pt.slots] at X180 l180 y180 z180 st180 hQ180
        replace y180 : _ = 5 := y180
        replace z180 : _ = 23 := z180
        subst y180 z180
        obtain ⟨rfl, Nq180, Kq180, B180⟩ := hQ180
        have N180 := own_frl l180 N177 Nq180
        refine own_pre (fun t k => st180.trans k) ?_
        have V166_180 := V166_177.keep Kq180 (ninS ne_b166_b167 (ninS ne_b166_ap168 (ninS ne_b166_ar168 (ninS ne_b166_at168 nin0))))
        have Zs180 : n0 ≤ T180.heap.size := Nat.le_trans Zs177 Kq180.1
        have Kc180 : Keep h0 T180.heap [] := Kc177.trans Kq180 (allS (Or.inr sz_b167) (allS (Or.inr sz_ap168) (allS (Or.inr sz_ar168) (allS (Or.inr sz_at168) all0))))
        obtain ⟨Ea180, Fplaces180, Fstarts180, Ftimes180, Fentries180, Fcount180, Fend180, FlastTime180, Vp180, Vs180, Vt180, n0180, n1180, n2180, n3180, n4180, n5180, gg0180, gg1180, gg2180, gg3180⟩ := B180
        rw [show ((2 : Int32) + (1 : Int32)) = (3 : Int32) from by decide] at Fcount180
        refine own_pre (A := (T180.setTop (mkF m 218 (own_l173 qs p2 p3 p4 p5 qa qb qc b166 b167) []))) ?_ ?_
        · intro t k
          refine XS.iload X180.here hx rfl (hb hby at_88) rfl ?_
          refine XS.iconst X180.here hx rfl (hb hby at_90) ?_
          refine XS.icmpYes X180.here hx rfl (pc0 := 91) (pc' := 104) rfl (hb hby at_91) rfl (flt (by decide : ¬ ((3 : Int32) < (3 : Int32)))).2.2.2 (by decide) (by decide) ?_
          refine XS.lload X180.here hx rfl (hb hby at_104) rfl ?_
          refine XS.lstore X180.here hx rfl (hb hby at_106) rfl (l' := (own_l160 qs p2 p3 p4 p5 qa qb qc b166 b167)) rfl ?_
          refine XS.lload X180.here hx rfl (hb hby at_108) rfl ?_
          refine XS.lload X180.here hx rfl (hb hby at_110) rfl ?_
          refine XS.ladd X180.here hx rfl (hb hby at_112) rfl ?_
          refine XS.lstore X180.here hx rfl (hb hby at_113) rfl (l' := (own_l161 qs p2 p3 p4 p5 qa qb qc b166 b167)) rfl ?_
          refine XS.lload X180.here hx rfl (hb hby at_115) rfl ?_
          refine XS.lload X180.here hx rfl (hb hby at_117) rfl ?_
          refine XS.ladd X180.here hx rfl (hb hby at_119) rfl ?_
          refine XS.lload X180.here hx rfl (hb hby at_120) rfl ?_
          refine XS.ladd X180.here hx rfl (hb hby at_122) rfl ?_
          refine XS.lstore X180.here hx rfl (hb hby at_123) rfl (l' := (own_l162 qs p2 p3 p4 p5 qa qb qc b166 b167)) rfl ?_
          refine XS.lconst X180.here hx rfl (hb hby at_125) ?_
          refine XS.lstore X180.here hx rfl (hb hby at_126) rfl (l' := (own_l163 qs p2 p3 p4 p5 qa qb qc b166 b167)) rfl ?_
          refine XS.iload X180.here hx rfl (hb hby at_128) rfl ?_
          refine XS.iconst X180.here hx rfl (hb hby at_130) ?_
          refine XS.icmpNo X180.here hx rfl (hb hby at_131) rfl (tlt (by decide : (1 : Int32) < (3 : Int32))).2.2.2 ?_
          refine XS.lload X180.here hx rfl (hb hby at_134) rfl ?_
          refine XS.lload X180.here hx rfl (hb hby at_136) rfl ?_
          refine XS.lsub X180.here hx rfl (hb hby at_138) rfl ?_
          refine XS.lload X180.here hx rfl (hb hby at_139) rfl ?_
          refine XS.lcmp X180.here hx rfl (hb hby at_141) rfl ?_
          refine XS.ifNo X180.here hx rfl (hb hby at_142) rfl ((if0 _ _).trans (flt (fun q => hw170 ((lw_lt (qa - (0 : Int64)) (65536 : Int64)).mp q))).1) ?_
          refine XS.iconst X180.here hx rfl (hb hby at_145) ?_
          refine XS.goto X180.here hx rfl (pc0 := 146) (pc' := 150) rfl (hb hby at_146) (by decide) (by decide) ?_
          refine XS.istore X180.here hx rfl (hb hby at_150) rfl (l' := (own_l170 qs p2 p3 p4 p5 qa qb qc b166 b167)) rfl ?_
          refine XS.iload X180.here hx rfl (hb hby at_152) rfl ?_
          refine XS.ifNo X180.here hx rfl (hb hby at_154) rfl ((if0 _ _).trans (feq (by decide : ¬ ((1 : Int32) = (0 : Int32)))).1) ?_
          refine XS.lload X180.here hx rfl (hb hby at_157) rfl ?_
          refine XS.lstore X180.here hx rfl (hb hby at_159) rfl (l' := (own_l171 qs p2 p3 p4 p5 qa qb qc b166 b167)) rfl ?_
          refine XS.iload X180.here hx rfl (hb hby at_161) rfl ?_
          refine XS.iconst X180.here hx rfl (hb hby at_163) ?_
          refine XS.icmpNo X180.here hx rfl (hb hby at_164) rfl (tlt (by decide : (2 : Int32) < (3 : Int32))).2.2.2 ?_
          refine XS.lload X180.here hx rfl (hb hby at_167) rfl ?_
          refine XS.lload X180.here hx rfl (hb hby at_169) rfl ?_
          refine XS.lsub X180.here hx rfl (hb hby at_171) rfl ?_
          refine XS.lload X180.here hx rfl (hb hby at_172) rfl ?_
          refine XS.lcmp X180.here hx rfl (hb hby at_174) rfl ?_
          refine XS.ifYes X180.here hx rfl (pc0 := 175) (pc' := 182) rfl (hb hby at_175) rfl ((if0 _ _).trans (tlt ((lw_lt ((qa + qb) - qa) (65536 : Int64)).mpr hw178)).1) (by decide) (by decide) ?_
          refine XS.iconst X180.here hx rfl (hb hby at_182) ?_
          refine XS.istore X180.here hx rfl (hb hby at_183) rfl (l' := (own_l172 qs p2 p3 p4 p5 qa qb qc b166 b167)) rfl ?_
          refine XS.iload X180.here hx rfl (hb hby at_185) rfl ?_
          refine XS.ifYes X180.here hx rfl (pc0 := 187) (pc' := 194) rfl (hb hby at_187) rfl ((if0 _ _).trans (teq (by decide : (0 : Int32) = (0 : Int32))).1) (by decide) (by decide) ?_
          refine XS.iload X180.here hx rfl (hb hby at_194) rfl ?_
          refine XS.iconst X180.here hx rfl (hb hby at_196) ?_
          refine XS.icmpYes X180.here hx rfl (pc0 := 197) (pc' := 215) rfl (hb hby at_197) rfl (flt (by decide : ¬ ((3 : Int32) < (3 : Int32)))).2.2.2 (by decide) (by decide) ?_
          refine XS.iconst X180.here hx rfl (hb hby at_215) ?_
          refine XS.istore X180.here hx rfl (hb hby at_216) rfl (l' := (own_l173 qs p2 p3 p4 p5 qa qb qc b166 b167)) rfl ?_
          exact k
        exact own_suf_100 (h0 := h0) (n0 := n0) X180 hx hZ hw hby hml hown Bd.returns Bd.notSynchronized rfl N180 Zs180 Kc180 Ea180 Fentries180 Fcount180 Fend180 Fplaces180 Vp180 V166_180 ne_b166_b167.symm ne_b166_ap168.symm gn_b166 sz_b166
      · skip
        obtain ⟨cq191, kq191, q191a, q191b, q191c⟩ := isOf hZ rfl Ea177
        obtain ⟨_, _, ⟨T191, L191, k191, n191⟩, -, X191, ⟨Lc191, hQ191, l191, y191, z191⟩, st191⟩ := X177.virtualBack hx (y := (⟨"com/example/coho/coho/eventlog/SegmentIndex", "add", "(JJ)V"⟩ : MethodName)) (z := (⟨"com/example/coho/coho/eventlog/SegmentIndex", "add", "(JJ)V"⟩ : MethodName)) hown (mvT hZ (own_w hw 24 rfl)) (mvT hZ (own_w hw 25 rfl)) (notFace_of_selects (args := #[]) (mvT hZ (own_w hw 27 rfl))) (mvT hZ (own_w hw 27 rfl)) (mvT hZ (own_w hw 26 rfl)) (by decide) (backOf (W := 0) (rm3_2B l Z a0 hw [] b167 qc (2 : Int64) ap168 ar168 at168 kp168 ks168 (2 : Int32) ((qs + qa) + qb) (1 : Int64) (0 : Int32) (1 : Int32) (0 : Int32) (0 : Int32) qs (qs + qa) (0 : Int64) (0 : Int64) T177.heap n0 Zs177 ⟨Ea177, Fplaces177, Fstarts177, Ftimes177, Fentries177, Fcount177, Fend177, FlastTime177, Vp177, Vs177, Vt177, n0177, n1177, n2177, n3177, n4177, n5177, gg0177, gg1177, gg2177, gg3177⟩ (by rw [own_eq179]; exact hw178)) hZ (own_w hw 28 rfl) (own_w hw 5 rfl) (by decide) (by decide)) q191a q191c (g := (mkF m 85 (own_l159 qs p2 p3 p4 p5 qa qb qc b166 b167) [(.long (2 : Int64)), (.long qc), (.ref b167)])) rfl (by rw [hml]; rfl) (Steps.refl _) (argsL := [(.long qc), (.long (2 : Int64))]) (rest := []) (lenOf own_pd2 rfl) rfl (by show 2 * 0 + _ ≤ _; exact Nat.le_of_eq rfl) (hb hby at_85) (fun _ _ => ⟨rfl, rfl, (by decide : 5 + 0 ≤ _), (by decide : 23 + 0 ≤ _)⟩)
        dsimp only [Pt.U, Pt.locs, Pt.cells, Pt.slots] at X191 l191 y191 z191 st191 hQ191
        replace y191 : _ = 5 := y191
        replace z191 : _ = 23 := z191
        subst y191 z191
        obtain ⟨rfl, Nq191, Kq191, B191⟩ := hQ191
        have N191 := own_frl l191 N177 Nq191
        refine own_pre (fun t k => st191.trans k) ?_
        have V166_191 := V166_177.keep Kq191 (ninS ne_b166_b167 (ninS ne_b166_ap168 (ninS ne_b166_ar168 (ninS ne_b166_at168 nin0))))
        have Zs191 : n0 ≤ T191.heap.size := Nat.le_trans Zs177 Kq191.1
        have Kc191 : Keep h0 T191.heap [] := Kc177.trans Kq191 (allS (Or.inr sz_b167) (allS (Or.inr sz_ap168) (allS (Or.inr sz_ar168) (allS (Or.inr sz_at168) all0))))
        obtain ⟨Ea191, Fplaces191, Fstarts191, Ftimes191, Fentries191, Fcount191, Fend191, FlastTime191, Vp191, Vs191, Vt191, n0191, n1191, n2191, n3191, n4191, n5191, gg0191, gg1191, gg2191, gg3191⟩ := B191
        rw [show ((2 : Int32) + (1 : Int32)) = (3 : Int32) from by decide] at Fcount191
        refine own_pre (A := (T191.setTop (mkF m 218 (own_l176 qs p2 p3 p4 p5 qa qb qc b166 b167) []))) ?_ ?_
        · intro t k
          refine XS.iload X191.here hx rfl (hb hby at_88) rfl ?_
          refine XS.iconst X191.here hx rfl (hb hby at_90) ?_
          refine XS.icmpYes X191.here hx rfl (pc0 := 91) (pc' := 104) rfl (hb hby at_91) rfl (flt (by decide : ¬ ((3 : Int32) < (3 : Int32)))).2.2.2 (by decide) (by decide) ?_
          refine XS.lload X191.here hx rfl (hb hby at_104) rfl ?_
          refine XS.lstore X191.here hx rfl (hb hby at_106) rfl (l' := (own_l160 qs p2 p3 p4 p5 qa qb qc b166 b167)) rfl ?_
          refine XS.lload X191.here hx rfl (hb hby at_108) rfl ?_
          refine XS.lload X191.here hx rfl (hb hby at_110) rfl ?_
          refine XS.ladd X191.here hx rfl (hb hby at_112) rfl ?_
          refine XS.lstore X191.here hx rfl (hb hby at_113) rfl (l' := (own_l161 qs p2 p3 p4 p5 qa qb qc b166 b167)) rfl ?_
          refine XS.lload X191.here hx rfl (hb hby at_115) rfl ?_
          refine XS.lload X191.here hx rfl (hb hby at_117) rfl ?_
          refine XS.ladd X191.here hx rfl (hb hby at_119) rfl ?_
          refine XS.lload X191.here hx rfl (hb hby at_120) rfl ?_
          refine XS.ladd X191.here hx rfl (hb hby at_122) rfl ?_
          refine XS.lstore X191.here hx rfl (hb hby at_123) rfl (l' := (own_l162 qs p2 p3 p4 p5 qa qb qc b166 b167)) rfl ?_
          refine XS.lconst X191.here hx rfl (hb hby at_125) ?_
          refine XS.lstore X191.here hx rfl (hb hby at_126) rfl (l' := (own_l163 qs p2 p3 p4 p5 qa qb qc b166 b167)) rfl ?_
          refine XS.iload X191.here hx rfl (hb hby at_128) rfl ?_
          refine XS.iconst X191.here hx rfl (hb hby at_130) ?_
          refine XS.icmpNo X191.here hx rfl (hb hby at_131) rfl (tlt (by decide : (1 : Int32) < (3 : Int32))).2.2.2 ?_
          refine XS.lload X191.here hx rfl (hb hby at_134) rfl ?_
          refine XS.lload X191.here hx rfl (hb hby at_136) rfl ?_
          refine XS.lsub X191.here hx rfl (hb hby at_138) rfl ?_
          refine XS.lload X191.here hx rfl (hb hby at_139) rfl ?_
          refine XS.lcmp X191.here hx rfl (hb hby at_141) rfl ?_
          refine XS.ifNo X191.here hx rfl (hb hby at_142) rfl ((if0 _ _).trans (flt (fun q => hw170 ((lw_lt (qa - (0 : Int64)) (65536 : Int64)).mp q))).1) ?_
          refine XS.iconst X191.here hx rfl (hb hby at_145) ?_
          refine XS.goto X191.here hx rfl (pc0 := 146) (pc' := 150) rfl (hb hby at_146) (by decide) (by decide) ?_
          refine XS.istore X191.here hx rfl (hb hby at_150) rfl (l' := (own_l170 qs p2 p3 p4 p5 qa qb qc b166 b167)) rfl ?_
          refine XS.iload X191.here hx rfl (hb hby at_152) rfl ?_
          refine XS.ifNo X191.here hx rfl (hb hby at_154) rfl ((if0 _ _).trans (feq (by decide : ¬ ((1 : Int32) = (0 : Int32)))).1) ?_
          refine XS.lload X191.here hx rfl (hb hby at_157) rfl ?_
          refine XS.lstore X191.here hx rfl (hb hby at_159) rfl (l' := (own_l171 qs p2 p3 p4 p5 qa qb qc b166 b167)) rfl ?_
          refine XS.iload X191.here hx rfl (hb hby at_161) rfl ?_
          refine XS.iconst X191.here hx rfl (hb hby at_163) ?_
          refine XS.icmpNo X191.here hx rfl (hb hby at_164) rfl (tlt (by decide : (2 : Int32) < (3 : Int32))).2.2.2 ?_
          refine XS.lload X191.here hx rfl (hb hby at_167) rfl ?_
          refine XS.lload X191.here hx rfl (hb hby at_169) rfl ?_
          refine XS.lsub X191.here hx rfl (hb hby at_171) rfl ?_
          refine XS.lload X191.here hx rfl (hb hby at_172) rfl ?_
          refine XS.lcmp X191.here hx rfl (hb hby at_174) rfl ?_
          refine XS.ifNo X191.here hx rfl (hb hby at_175) rfl ((if0 _ _).trans (flt (fun q => hw178 ((lw_lt ((qa + qb) - qa) (65536 : Int64)).mp q))).1) ?_
          refine XS.iconst X191.here hx rfl (hb hby at_178) ?_
          refine XS.goto X191.here hx rfl (pc0 := 179) (pc' := 183) rfl (hb hby at_179) (by decide) (by decide) ?_
          refine XS.istore X191.here hx rfl (hb hby at_183) rfl (l' := (own_l174 qs p2 p3 p4 p5 qa qb qc b166 b167)) rfl ?_
          refine XS.iload X191.here hx rfl (hb hby at_185) rfl ?_
          refine XS.ifNo X191.here hx rfl (hb hby at_187) rfl ((if0 _ _).trans (feq (by decide : ¬ ((1 : Int32) = (0 : Int32)))).1) ?_
          refine XS.lload X191.here hx rfl (hb hby at_190) rfl ?_
          refine XS.lstore X191.here hx rfl (hb hby at_192) rfl (l' := (own_l175 qs p2 p3 p4 p5 qa qb qc b166 b167)) rfl ?_
          refine XS.iload X191.here hx rfl (hb hby at_194) rfl ?_
          refine XS.iconst X191.here hx rfl (hb hby at_196) ?_
          refine XS.icmpYes X191.here hx rfl (pc0 := 197) (pc' := 215) rfl (hb hby at_197) rfl (flt (by decide : ¬ ((3 : Int32) < (3 : Int32)))).2.2.2 (by decide) (by decide) ?_
          refine XS.iconst X191.here hx rfl (hb hby at_215) ?_
          refine XS.istore X191.here hx rfl (hb hby at_216) rfl (l' := (own_l176 qs p2 p3 p4 p5 qa qb qc b166 b167)) rfl ?_
          exact k
        exact own_suf_110 (h0 := h0) (n0 := n0) X191 hx hZ hw hby hml hown Bd.returns Bd.notSynchronized rfl N191 Zs191 Kc191 Ea191 Fentries191 Fcount191 Fend191 Fplaces191 Vp191 V166_191 ne_b166_b167.symm ne_b166_ap168.symm gn_b166 sz_b166
  · skip
    refine own_pre (A := (s₁.setTop (mkF m 36 (own_l177 qs p2 p3 p4 p5 qa qb qc) [(.int (4 : Int32))]))) ?_ ?_
    · intro t k
      refine XS.iconst X0.here hx rfl (hb hby at_35) ?_
      exact k
    obtain ⟨T218, h218, k218, X218, e218, E218, A218, st218⟩ := newP X0 hx hZ (own_w hw 2 rfl) e0 (g := (mkF m 36 (own_l177 qs p2 p3 p4 p5 qa qb qc) [(.int (4 : Int32))])) rfl (hb hby at_36) rfl (by decide) (cap := 4) (by decide) (by decide) (by decide) (by decide)
    obtain ⟨b218, g218⟩ : ∃ z, z = h0.size := ⟨_, rfl⟩
    rw [← g218] at A218 st218
    have gn_b218 : n0 ≤ b218 := Nat.le_trans Z0 (Nat.le_of_eq g218.symm)
    have sz_b218 : h0.size ≤ b218 := Nat.le_trans (Keep.refl h0 []).1 (Nat.le_of_eq g218.symm)
    have Zs218 : n0 ≤ h218.size := Nat.le_trans Z0 E218.1
    have Kc218 : Keep h0 h218 [] := (Keep.refl h0 []).ext E218
    have V218 : Arv Z h218 b218 k218 .int (4 : Int32) [(.int (0 : Int32)), (.int (0 : Int32)), (.int (0 : Int32)), (.int (0 : Int32))] (.int (0 : Int32)) := (Arv.new A218 (by decide)).pad (pad_rep [] (.int (0 : Int32)) 4)
    refine own_pre (fun t k => st218 t k) ?_
    refine own_pre (A := (T218.setTop (mkF m 40 (own_l178 qs p2 p3 p4 p5 qa qb qc b218) []))) ?_ ?_
    · intro t k
      refine XS.astore X218.here hx rfl (hb hby at_38) rfl rfl (l' := (own_l178 qs p2 p3 p4 p5 qa qb qc b218)) rfl ?_
      exact k
    obtain ⟨T219, h219, X219, e219, E219, A219, D219, -, st219⟩ := newO X218 hx hZ hown (own_w hw 3 rfl) (own_w hw 4 rfl) (own_w hw 5 rfl) e218 (g := (mkF m 40 (own_l178 qs p2 p3 p4 p5 qa qb qc b218) [])) rfl (hb hby at_40) (by decide) (by decide)
    obtain ⟨b219, g219⟩ : ∃ z, z = h218.size := ⟨_, rfl⟩
    rw [← g219] at A219 D219 st219
    have ne_b218_b219 : b218 ≠ b219 := Nat.ne_of_lt (Nat.lt_of_lt_of_le V218.lt (Nat.le_of_eq g219.symm))
    have gn_b219 : n0 ≤ b219 := Nat.le_trans Zs218 (Nat.le_of_eq g219.symm)
    have sz_b219 : h0.size ≤ b219 := Nat.le_trans Kc218.1 (Nat.le_of_eq g219.symm)
    have V218_219 := V218.ext E219
    have Zs219 : n0 ≤ h219.size := Nat.le_trans Zs218 E219.1
    have Kc219 : Keep h0 h219 [] := Kc218.ext E219
    have F219_places : Fld Z h219 b219 "com/example/coho/coho/eventlog/SegmentIndex" "places" "[I" .null := D219 (Or.inl (own_w hw 13 rfl)) (ty := (.array .int)) (by decide)
    have F219_starts : Fld Z h219 b219 "com/example/coho/coho/eventlog/SegmentIndex" "starts" "[J" .null := D219 (Or.inl (own_w hw 16 rfl)) (ty := (.array .long)) (by decide)
    have F219_times : Fld Z h219 b219 "com/example/coho/coho/eventlog/SegmentIndex" "times" "[J" .null := D219 (Or.inl (own_w hw 18 rfl)) (ty := (.array .long)) (by decide)
    have F219_lastTime : Fld Z h219 b219 "com/example/coho/coho/eventlog/SegmentIndex" "lastTime" "J" (.long (0 : Int64)) := D219 (Or.inl (own_w hw 21 rfl)) (ty := .long) (by decide)
    have F219_end : Fld Z h219 b219 "com/example/coho/coho/eventlog/SegmentIndex" "end" "J" (.long (0 : Int64)) := D219 (Or.inl (own_w hw 23 rfl)) (ty := .long) (by decide)
    have F219_entries : Fld Z h219 b219 "com/example/coho/coho/eventlog/SegmentIndex" "entries" "I" (.int (0 : Int32)) := D219 (Or.inl (own_w hw 30 rfl)) (ty := .int) (by decide)
    have F219_count : Fld Z h219 b219 "com/example/coho/coho/eventlog/SegmentIndex" "count" "I" (.int (0 : Int32)) := D219 (Or.inl (own_w hw 32 rfl)) (ty := .int) (by decide)
    refine own_pre (fun t k => st219 t k) ?_
    refine own_pre (A := (T219.setTop (mkF m 45 (own_l178 qs p2 p3 p4 p5 qa qb qc b218) [(.long qs), (.ref b219), (.ref b219)]))) ?_ ?_
    · intro t k
      refine XS.dup X219.here hx rfl (hb hby at_43) rfl rfl ?_
      refine XS.lloadN X219.here hx rfl (hb hby at_44) rfl ?_
      exact k
    obtain ⟨_, _, ⟨T220, L220, k220, n220⟩, -, X220, ⟨Lc220, hQ220, l220, y220, z220⟩, st220⟩ := X219.specialBack hx (y := (⟨"com/example/coho/coho/eventlog/SegmentIndex", "<init>", "(J)V"⟩ : MethodName)) rfl hown (mvT hZ (own_w hw 6 rfl)) (mvT hZ (own_w hw 7 rfl)) (mvT hZ (own_w hw 8 rfl)) (by decide) (backOf (W := 1) (rm1 l Z a0 hw [] b219 qs h219 n0 Zs219 A219 F219_places F219_starts F219_times F219_entries F219_count F219_end F219_lastTime gn_b219) hZ (own_w hw 8 rfl) (own_w hw 5 rfl) (by decide) (by decide)) (g := (mkF m 45 (own_l178 qs p2 p3 p4 p5 qa qb qc b218) [(.long qs), (.ref b219), (.ref b219)])) rfl (by rw [hml]; rfl) (Steps.refl _) (a := b219) (argsL := [(.long qs)]) (rest := [(.ref b219)]) (lenOf own_pd1 rfl) rfl (by show 2 * 0 + _ ≤ _; exact Nat.le_of_eq rfl) (hb hby at_45) (fun _ _ => ⟨rfl, e219, (by decide : 2 + 3 ≤ _), (by decide : 11 + 12 ≤ _)⟩)
    dsimp only [Pt.U, Pt.locs, Pt.cells, Pt.slots] at X220 l220 y220 z220 st220 hQ220
    replace y220 : _ = 5 := y220
    replace z220 : _ = 23 := z220
    subst y220 z220
    obtain ⟨rfl, Nq220, ap220, ar220, at220, kp220, ks220, Kq220, zz0220, zz1220, zz2220, B220⟩ := hQ220
    have N220 := own_frl l220 N0 Nq220
    refine own_pre (fun t k => st220.trans k) ?_
    have ne_b218_ap220 : b218 ≠ ap220 := Nat.ne_of_lt (Nat.lt_of_lt_of_le V218_219.lt zz0220)
    have ne_b218_ar220 : b218 ≠ ar220 := Nat.ne_of_lt (Nat.lt_of_lt_of_le V218_219.lt zz1220)
    have ne_b218_at220 : b218 ≠ at220 := Nat.ne_of_lt (Nat.lt_of_lt_of_le V218_219.lt zz2220)
    have V218_220 := V218_219.keep Kq220 (ninS ne_b218_b219 nin0)
    have Zs220 : n0 ≤ T220.heap.size := Nat.le_trans Zs219 Kq220.1
    have Kc220 : Keep h0 T220.heap [] := Kc219.trans Kq220 (allS (Or.inr sz_b219) all0)
    have sz_ap220 : h0.size ≤ ap220 := Nat.le_trans Kc219.1 zz0220
    have sz_ar220 : h0.size ≤ ar220 := Nat.le_trans Kc219.1 zz1220
    have sz_at220 : h0.size ≤ at220 := Nat.le_trans Kc219.1 zz2220
    obtain ⟨Ea220, Fplaces220, Fstarts220, Ftimes220, Fentries220, Fcount220, Fend220, FlastTime220, Vp220, Vs220, Vt220, n0220, n1220, n2220, n3220, n4220, n5220, gg0220, gg1220, gg2220, gg3220⟩ := B220
    refine own_pre (A := (T220.setTop (mkF m 55 (own_l179 qs p2 p3 p4 p5 qa qb qc b218 b219) [(.long (0 : Int64)), (.long qa), (.ref b219)]))) ?_ ?_
    · intro t k
      refine XS.astore X220.here hx rfl (hb hby at_48) rfl rfl (l' := (own_l179 qs p2 p3 p4 p5 qa qb qc b218 b219)) rfl ?_
      refine XS.aload X220.here hx rfl (hb hby at_50) rfl rfl ?_
      refine XS.lload X220.here hx rfl (hb hby at_52) rfl ?_
      refine XS.lconst X220.here hx rfl (hb hby at_54) ?_
      exact k
    obtain ⟨cq221, kq221, q221a, q221b, q221c⟩ := isOf hZ rfl Ea220
    obtain ⟨_, _, ⟨T221, L221, k221, n221⟩, -, X221, ⟨Lc221, hQ221, l221, y221, z221⟩, st221⟩ := X220.virtualBack hx (y := (⟨"com/example/coho/coho/eventlog/SegmentIndex", "add", "(JJ)V"⟩ : MethodName)) (z := (⟨"com/example/coho/coho/eventlog/SegmentIndex", "add", "(JJ)V"⟩ : MethodName)) hown (mvT hZ (own_w hw 24 rfl)) (mvT hZ (own_w hw 25 rfl)) (notFace_of_selects (args := #[]) (mvT hZ (own_w hw 27 rfl))) (mvT hZ (own_w hw 27 rfl)) (mvT hZ (own_w hw 26 rfl)) (by decide) (backOf (W := 0) (rm3_0 l Z a0 hw [] b219 qa (0 : Int64) ap220 ar220 at220 kp220 ks220 (0 : Int32) qs (-9223372036854775808 : Int64) (0 : Int32) (0 : Int32) (0 : Int32) (0 : Int32) (0 : Int64) (0 : Int64) (0 : Int64) (0 : Int64) T220.heap n0 Zs220 ⟨Ea220, Fplaces220, Fstarts220, Ftimes220, Fentries220, Fcount220, Fend220, FlastTime220, Vp220, Vs220, Vt220, n0220, n1220, n2220, n3220, n4220, n5220, gg0220, gg1220, gg2220, gg3220⟩) hZ (own_w hw 28 rfl) (own_w hw 5 rfl) (by decide) (by decide)) q221a q221c (g := (mkF m 55 (own_l179 qs p2 p3 p4 p5 qa qb qc b218 b219) [(.long (0 : Int64)), (.long qa), (.ref b219)])) rfl (by rw [hml]; rfl) (Steps.refl _) (argsL := [(.long qa), (.long (0 : Int64))]) (rest := []) (lenOf own_pd2 rfl) rfl (by show 2 * 0 + _ ≤ _; exact Nat.le_of_eq rfl) (hb hby at_55) (fun _ _ => ⟨rfl, rfl, (by decide : 5 + 0 ≤ _), (by decide : 23 + 0 ≤ _)⟩)
    dsimp only [Pt.U, Pt.locs, Pt.cells, Pt.slots] at X221 l221 y221 z221 st221 hQ221
    replace y221 : _ = 5 := y221
    replace z221 : _ = 23 := z221
    subst y221 z221
    obtain ⟨rfl, Nq221, Kq221, B221⟩ := hQ221
    have N221 := own_frl l221 N220 Nq221
    refine own_pre (fun t k => st221.trans k) ?_
    have V218_221 := V218_220.keep Kq221 (ninS ne_b218_b219 (ninS ne_b218_ap220 (ninS ne_b218_ar220 (ninS ne_b218_at220 nin0))))
    have Zs221 : n0 ≤ T221.heap.size := Nat.le_trans Zs220 Kq221.1
    have Kc221 : Keep h0 T221.heap [] := Kc220.trans Kq221 (allS (Or.inr sz_b219) (allS (Or.inr sz_ap220) (allS (Or.inr sz_ar220) (allS (Or.inr sz_at220) all0))))
    obtain ⟨Ea221, Fplaces221, Fstarts221, Ftimes221, Fentries221, Fcount221, Fend221, FlastTime221, Vp221, Vs221, Vt221, n0221, n1221, n2221, n3221, n4221, n5221, gg0221, gg1221, gg2221, gg3221⟩ := B221
    rw [show ((0 : Int32) + (1 : Int32)) = (1 : Int32) from by decide] at Fcount221
    refine own_pre (A := (T221.setTop (mkF m 69 (own_l179 qs p2 p3 p4 p5 qa qb qc b218 b219) [(.long (1 : Int64)), (.long qb), (.ref b219)]))) ?_ ?_
    · intro t k
      refine XS.iload X221.here hx rfl (hb hby at_58) rfl ?_
      refine XS.iconst X221.here hx rfl (hb hby at_60) ?_
      refine XS.icmpNo X221.here hx rfl (hb hby at_61) rfl (tlt (by decide : (1 : Int32) < (4 : Int32))).2.2.2 ?_
      refine XS.aload X221.here hx rfl (hb hby at_64) rfl rfl ?_
      refine XS.lload X221.here hx rfl (hb hby at_66) rfl ?_
      refine XS.lconst X221.here hx rfl (hb hby at_68) ?_
      exact k
    have own_eq223 : (qs + qa) - qs = qa - (0 : Int64) := by first | exact own_sub0 _ _ | (simp only [Int64.add_assoc]; exact own_sub0 _ _)
    by_cases hw222 : (qa - (0 : Int64)) < (65536 : Int64)
    · skip
      obtain ⟨cq224, kq224, q224a, q224b, q224c⟩ := isOf hZ rfl Ea221
      obtain ⟨_, _, ⟨T224, L224, k224, n224⟩, -, X224, ⟨Lc224, hQ224, l224, y224, z224⟩, st224⟩ := X221.virtualBack hx (y := (⟨"com/example/coho/coho/eventlog/SegmentIndex", "add", "(JJ)V"⟩ : MethodName)) (z := (⟨"com/example/coho/coho/eventlog/SegmentIndex", "add", "(JJ)V"⟩ : MethodName)) hown (mvT hZ (own_w hw 24 rfl)) (mvT hZ (own_w hw 25 rfl)) (notFace_of_selects (args := #[]) (mvT hZ (own_w hw 27 rfl))) (mvT hZ (own_w hw 27 rfl)) (mvT hZ (own_w hw 26 rfl)) (by decide) (backOf (W := 0) (rm3_1A l Z a0 hw [] b219 qb (1 : Int64) ap220 ar220 at220 kp220 ks220 (1 : Int32) (qs + qa) (0 : Int64) (0 : Int32) (0 : Int32) (0 : Int32) (0 : Int32) qs (0 : Int64) (0 : Int64) (0 : Int64) T221.heap n0 Zs221 ⟨Ea221, Fplaces221, Fstarts221, Ftimes221, Fentries221, Fcount221, Fend221, FlastTime221, Vp221, Vs221, Vt221, n0221, n1221, n2221, n3221, n4221, n5221, gg0221, gg1221, gg2221, gg3221⟩ (by rw [own_eq223]; exact hw222)) hZ (own_w hw 28 rfl) (own_w hw 5 rfl) (by decide) (by decide)) q224a q224c (g := (mkF m 69 (own_l179 qs p2 p3 p4 p5 qa qb qc b218 b219) [(.long (1 : Int64)), (.long qb), (.ref b219)])) rfl (by rw [hml]; rfl) (Steps.refl _) (argsL := [(.long qb), (.long (1 : Int64))]) (rest := []) (lenOf own_pd2 rfl) rfl (by show 2 * 0 + _ ≤ _; exact Nat.le_of_eq rfl) (hb hby at_69) (fun _ _ => ⟨rfl, rfl, (by decide : 5 + 0 ≤ _), (by decide : 23 + 0 ≤ _)⟩)
      dsimp only [Pt.U, Pt.locs, Pt.cells, Pt.slots] at X224 l224 y224 z224 st224 hQ224
      replace y224 : _ = 5 := y224
      replace z224 : _ = 23 := z224
      subst y224 z224
      obtain ⟨rfl, Nq224, Kq224, B224⟩ := hQ224
      have N224 := own_frl l224 N221 Nq224
      refine own_pre (fun t k => st224.trans k) ?_
      have V218_224 := V218_221.keep Kq224 (ninS ne_b218_b219 (ninS ne_b218_ap220 (ninS ne_b218_ar220 (ninS ne_b218_at220 nin0))))
      have Zs224 : n0 ≤ T224.heap.size := Nat.le_trans Zs221 Kq224.1
      have Kc224 : Keep h0 T224.heap [] := Kc221.trans Kq224 (allS (Or.inr sz_b219) (allS (Or.inr sz_ap220) (allS (Or.inr sz_ar220) (allS (Or.inr sz_at220) all0))))
      obtain ⟨Ea224, Fplaces224, Fstarts224, Ftimes224, Fentries224, Fcount224, Fend224, FlastTime224, Vp224, Vs224, Vt224, n0224, n1224, n2224, n3224, n4224, n5224, gg0224, gg1224, gg2224, gg3224⟩ := B224
      rw [show ((1 : Int32) + (1 : Int32)) = (2 : Int32) from by decide] at Fcount224
      refine own_pre (A := (T224.setTop (mkF m 85 (own_l179 qs p2 p3 p4 p5 qa qb qc b218 b219) [(.long (2 : Int64)), (.long qc), (.ref b219)]))) ?_ ?_
      · intro t k
        refine XS.iload X224.here hx rfl (hb hby at_72) rfl ?_
        refine XS.iconst X224.here hx rfl (hb hby at_74) ?_
        refine XS.icmpNo X224.here hx rfl (hb hby at_75) rfl (tlt (by decide : (2 : Int32) < (4 : Int32))).2.2.2 ?_
        refine XS.aload X224.here hx rfl (hb hby at_78) rfl rfl ?_
        refine XS.lload X224.here hx rfl (hb hby at_80) rfl ?_
        show Steps p.tables e below (T224.setTop (mkF m 82 (own_l179 qs p2 p3 p4 p5 qa qb qc b218 b219) [(.long qc), (.ref b219)])) _
        refine X224.ldc2Long hx hown (mvT hZ (own_w hw 34 rfl)) (g := (mkF m 82 (own_l179 qs p2 p3 p4 p5 qa qb qc b218 b219) [(.long qc), (.ref b219)])) rfl (hb hby at_82) _ ?_
        exact k
      have own_eq226 : ((qs + qa) + qb) - qs = (qa + qb) - (0 : Int64) := by first | exact own_sub0 _ _ | (simp only [Int64.add_assoc]; exact own_sub0 _ _)
      by_cases hw225 : ((qa + qb) - (0 : Int64)) < (65536 : Int64)
      · skip
        obtain ⟨cq227, kq227, q227a, q227b, q227c⟩ := isOf hZ rfl Ea224
        obtain ⟨_, _, ⟨T227, L227, k227, n227⟩, -, X227, ⟨Lc227, hQ227, l227, y227, z227⟩, st227⟩ := X224.virtualBack hx (y := (⟨"com/example/coho/coho/eventlog/SegmentIndex", "add", "(JJ)V"⟩ : MethodName)) (z := (⟨"com/example/coho/coho/eventlog/SegmentIndex", "add", "(JJ)V"⟩ : MethodName)) hown (mvT hZ (own_w hw 24 rfl)) (mvT hZ (own_w hw 25 rfl)) (notFace_of_selects (args := #[]) (mvT hZ (own_w hw 27 rfl))) (mvT hZ (own_w hw 27 rfl)) (mvT hZ (own_w hw 26 rfl)) (by decide) (backOf (W := 0) (rm3_1A l Z a0 hw [] b219 qc (2 : Int64) ap220 ar220 at220 kp220 ks220 (2 : Int32) ((qs + qa) + qb) (1 : Int64) (0 : Int32) (0 : Int32) (0 : Int32) (0 : Int32) qs (0 : Int64) (0 : Int64) (0 : Int64) T224.heap n0 Zs224 ⟨Ea224, Fplaces224, Fstarts224, Ftimes224, Fentries224, Fcount224, Fend224, FlastTime224, Vp224, Vs224, Vt224, n0224, n1224, n2224, n3224, n4224, n5224, gg0224, gg1224, gg2224, gg3224⟩ (by rw [own_eq226]; exact hw225)) hZ (own_w hw 28 rfl) (own_w hw 5 rfl) (by decide) (by decide)) q227a q227c (g := (mkF m 85 (own_l179 qs p2 p3 p4 p5 qa qb qc b218 b219) [(.long (2 : Int64)), (.long qc), (.ref b219)])) rfl (by rw [hml]; rfl) (Steps.refl _) (argsL := [(.long qc), (.long (2 : Int64))]) (rest := []) (lenOf own_pd2 rfl) rfl (by show 2 * 0 + _ ≤ _; exact Nat.le_of_eq rfl) (hb hby at_85) (fun _ _ => ⟨rfl, rfl, (by decide : 5 + 0 ≤ _), (by decide : 23 + 0 ≤ _)⟩)
        dsimp only [Pt.U, Pt.locs, Pt.cells, Pt.slots] at X227 l227 y227 z227 st227 hQ227
        replace y227 : _ = 5 := y227
        replace z227 : _ = 23 := z227
        subst y227 z227
        obtain ⟨rfl, Nq227, Kq227, B227⟩ := hQ227
        have N227 := own_frl l227 N224 Nq227
        refine own_pre (fun t k => st227.trans k) ?_
        have V218_227 := V218_224.keep Kq227 (ninS ne_b218_b219 (ninS ne_b218_ap220 (ninS ne_b218_ar220 (ninS ne_b218_at220 nin0))))
        have Zs227 : n0 ≤ T227.heap.size := Nat.le_trans Zs224 Kq227.1
        have Kc227 : Keep h0 T227.heap [] := Kc224.trans Kq227 (allS (Or.inr sz_b219) (allS (Or.inr sz_ap220) (allS (Or.inr sz_ar220) (allS (Or.inr sz_at220) all0))))
        obtain ⟨Ea227, Fplaces227, Fstarts227, Ftimes227, Fentries227, Fcount227, Fend227, FlastTime227, Vp227, Vs227, Vt227, n0227, n1227, n2227, n3227, n4227, n5227, gg0227, gg1227, gg2227, gg3227⟩ := B227
        rw [show ((2 : Int32) + (1 : Int32)) = (3 : Int32) from by decide] at Fcount227
        refine own_pre (A := (T227.setTop (mkF m 101 (own_l179 qs p2 p3 p4 p5 qa qb qc b218 b219) [(.long (3 : Int64)), (.long qa), (.ref b219)]))) ?_ ?_
        · intro t k
          refine XS.iload X227.here hx rfl (hb hby at_88) rfl ?_
          refine XS.iconst X227.here hx rfl (hb hby at_90) ?_
          refine XS.icmpNo X227.here hx rfl (hb hby at_91) rfl (tlt (by decide : (3 : Int32) < (4 : Int32))).2.2.2 ?_
          refine XS.aload X227.here hx rfl (hb hby at_94) rfl rfl ?_
          refine XS.lload X227.here hx rfl (hb hby at_96) rfl ?_
          show Steps p.tables e below (T227.setTop (mkF m 98 (own_l179 qs p2 p3 p4 p5 qa qb qc b218 b219) [(.long qa), (.ref b219)])) _
          refine X227.ldc2Long hx hown (mvT hZ (own_w hw 40 rfl)) (g := (mkF m 98 (own_l179 qs p2 p3 p4 p5 qa qb qc b218 b219) [(.long qa), (.ref b219)])) rfl (hb hby at_98) _ ?_
          exact k
        have own_eq229 : (((qs + qa) + qb) + qc) - qs = ((qa + qb) + qc) - (0 : Int64) := by first | exact own_sub0 _ _ | (simp only [Int64.add_assoc]; exact own_sub0 _ _)
        by_cases hw228 : (((qa + qb) + qc) - (0 : Int64)) < (65536 : Int64)
        · skip
          obtain ⟨cq230, kq230, q230a, q230b, q230c⟩ := isOf hZ rfl Ea227
          obtain ⟨_, _, ⟨T230, L230, k230, n230⟩, -, X230, ⟨Lc230, hQ230, l230, y230, z230⟩, st230⟩ := X227.virtualBack hx (y := (⟨"com/example/coho/coho/eventlog/SegmentIndex", "add", "(JJ)V"⟩ : MethodName)) (z := (⟨"com/example/coho/coho/eventlog/SegmentIndex", "add", "(JJ)V"⟩ : MethodName)) hown (mvT hZ (own_w hw 24 rfl)) (mvT hZ (own_w hw 25 rfl)) (notFace_of_selects (args := #[]) (mvT hZ (own_w hw 27 rfl))) (mvT hZ (own_w hw 27 rfl)) (mvT hZ (own_w hw 26 rfl)) (by decide) (backOf (W := 0) (rm3_1A l Z a0 hw [] b219 qa (3 : Int64) ap220 ar220 at220 kp220 ks220 (3 : Int32) (((qs + qa) + qb) + qc) (2 : Int64) (0 : Int32) (0 : Int32) (0 : Int32) (0 : Int32) qs (0 : Int64) (0 : Int64) (0 : Int64) T227.heap n0 Zs227 ⟨Ea227, Fplaces227, Fstarts227, Ftimes227, Fentries227, Fcount227, Fend227, FlastTime227, Vp227, Vs227, Vt227, n0227, n1227, n2227, n3227, n4227, n5227, gg0227, gg1227, gg2227, gg3227⟩ (by rw [own_eq229]; exact hw228)) hZ (own_w hw 28 rfl) (own_w hw 5 rfl) (by decide) (by decide)) q230a q230c (g := (mkF m 101 (own_l179 qs p2 p3 p4 p5 qa qb qc b218 b219) [(.long (3 : Int64)), (.long qa), (.ref b219)])) rfl (by rw [hml]; rfl) (Steps.refl _) (argsL := [(.long qa), (.long (3 : Int64))]) (rest := []) (lenOf own_pd2 rfl) rfl (by show 2 * 0 + _ ≤ _; exact Nat.le_of_eq rfl) (hb hby at_101) (fun _ _ => ⟨rfl, rfl, (by decide : 5 + 0 ≤ _), (by decide : 23 + 0 ≤ _)⟩)
          dsimp only [Pt.U, Pt.locs, Pt.cells, Pt.slots] at X230 l230 y230 z230 st230 hQ230
          replace y230 : _ = 5 := y230
          replace z230 : _ = 23 := z230
          subst y230 z230
          obtain ⟨rfl, Nq230, Kq230, B230⟩ := hQ230
          have N230 := own_frl l230 N227 Nq230
          refine own_pre (fun t k => st230.trans k) ?_
          have V218_230 := V218_227.keep Kq230 (ninS ne_b218_b219 (ninS ne_b218_ap220 (ninS ne_b218_ar220 (ninS ne_b218_at220 nin0))))
          have Zs230 : n0 ≤ T230.heap.size := Nat.le_trans Zs227 Kq230.1
          have Kc230 : Keep h0 T230.heap [] := Kc227.trans Kq230 (allS (Or.inr sz_b219) (allS (Or.inr sz_ap220) (allS (Or.inr sz_ar220) (allS (Or.inr sz_at220) all0))))
          obtain ⟨Ea230, Fplaces230, Fstarts230, Ftimes230, Fentries230, Fcount230, Fend230, FlastTime230, Vp230, Vs230, Vt230, n0230, n1230, n2230, n3230, n4230, n5230, gg0230, gg1230, gg2230, gg3230⟩ := B230
          rw [show ((3 : Int32) + (1 : Int32)) = (4 : Int32) from by decide] at Fcount230
          refine own_pre (A := (T230.setTop (mkF m 218 (own_l186 qs p2 p3 p4 p5 qa qb qc b218 b219) []))) ?_ ?_
          · intro t k
            refine XS.lload X230.here hx rfl (hb hby at_104) rfl ?_
            refine XS.lstore X230.here hx rfl (hb hby at_106) rfl (l' := (own_l180 qs p2 p3 p4 p5 qa qb qc b218 b219)) rfl ?_
            refine XS.lload X230.here hx rfl (hb hby at_108) rfl ?_
            refine XS.lload X230.here hx rfl (hb hby at_110) rfl ?_
            refine XS.ladd X230.here hx rfl (hb hby at_112) rfl ?_
            refine XS.lstore X230.here hx rfl (hb hby at_113) rfl (l' := (own_l181 qs p2 p3 p4 p5 qa qb qc b218 b219)) rfl ?_
            refine XS.lload X230.here hx rfl (hb hby at_115) rfl ?_
            refine XS.lload X230.here hx rfl (hb hby at_117) rfl ?_
            refine XS.ladd X230.here hx rfl (hb hby at_119) rfl ?_
            refine XS.lload X230.here hx rfl (hb hby at_120) rfl ?_
            refine XS.ladd X230.here hx rfl (hb hby at_122) rfl ?_
            refine XS.lstore X230.here hx rfl (hb hby at_123) rfl (l' := (own_l182 qs p2 p3 p4 p5 qa qb qc b218 b219)) rfl ?_
            refine XS.lconst X230.here hx rfl (hb hby at_125) ?_
            refine XS.lstore X230.here hx rfl (hb hby at_126) rfl (l' := (own_l183 qs p2 p3 p4 p5 qa qb qc b218 b219)) rfl ?_
            refine XS.iload X230.here hx rfl (hb hby at_128) rfl ?_
            refine XS.iconst X230.here hx rfl (hb hby at_130) ?_
            refine XS.icmpNo X230.here hx rfl (hb hby at_131) rfl (tlt (by decide : (1 : Int32) < (4 : Int32))).2.2.2 ?_
            refine XS.lload X230.here hx rfl (hb hby at_134) rfl ?_
            refine XS.lload X230.here hx rfl (hb hby at_136) rfl ?_
            refine XS.lsub X230.here hx rfl (hb hby at_138) rfl ?_
            refine XS.lload X230.here hx rfl (hb hby at_139) rfl ?_
            refine XS.lcmp X230.here hx rfl (hb hby at_141) rfl ?_
            refine XS.ifYes X230.here hx rfl (pc0 := 142) (pc' := 149) rfl (hb hby at_142) rfl ((if0 _ _).trans (tlt ((lw_lt (qa - (0 : Int64)) (65536 : Int64)).mpr hw222)).1) (by decide) (by decide) ?_
            refine XS.iconst X230.here hx rfl (hb hby at_149) ?_
            refine XS.istore X230.here hx rfl (hb hby at_150) rfl (l' := (own_l184 qs p2 p3 p4 p5 qa qb qc b218 b219)) rfl ?_
            refine XS.iload X230.here hx rfl (hb hby at_152) rfl ?_
            refine XS.ifYes X230.here hx rfl (pc0 := 154) (pc' := 161) rfl (hb hby at_154) rfl ((if0 _ _).trans (teq (by decide : (0 : Int32) = (0 : Int32))).1) (by decide) (by decide) ?_
            refine XS.iload X230.here hx rfl (hb hby at_161) rfl ?_
            refine XS.iconst X230.here hx rfl (hb hby at_163) ?_
            refine XS.icmpNo X230.here hx rfl (hb hby at_164) rfl (tlt (by decide : (2 : Int32) < (4 : Int32))).2.2.2 ?_
            refine XS.lload X230.here hx rfl (hb hby at_167) rfl ?_
            refine XS.lload X230.here hx rfl (hb hby at_169) rfl ?_
            refine XS.lsub X230.here hx rfl (hb hby at_171) rfl ?_
            refine XS.lload X230.here hx rfl (hb hby at_172) rfl ?_
            refine XS.lcmp X230.here hx rfl (hb hby at_174) rfl ?_
            refine XS.ifYes X230.here hx rfl (pc0 := 175) (pc' := 182) rfl (hb hby at_175) rfl ((if0 _ _).trans (tlt ((lw_lt ((qa + qb) - (0 : Int64)) (65536 : Int64)).mpr hw225)).1) (by decide) (by decide) ?_
            refine XS.iconst X230.here hx rfl (hb hby at_182) ?_
            refine XS.istore X230.here hx rfl (hb hby at_183) rfl (l' := (own_l185 qs p2 p3 p4 p5 qa qb qc b218 b219)) rfl ?_
            refine XS.iload X230.here hx rfl (hb hby at_185) rfl ?_
            refine XS.ifYes X230.here hx rfl (pc0 := 187) (pc' := 194) rfl (hb hby at_187) rfl ((if0 _ _).trans (teq (by decide : (0 : Int32) = (0 : Int32))).1) (by decide) (by decide) ?_
            refine XS.iload X230.here hx rfl (hb hby at_194) rfl ?_
            refine XS.iconst X230.here hx rfl (hb hby at_196) ?_
            refine XS.icmpNo X230.here hx rfl (hb hby at_197) rfl (tlt (by decide : (3 : Int32) < (4 : Int32))).2.2.2 ?_
            refine XS.lload X230.here hx rfl (hb hby at_200) rfl ?_
            refine XS.lload X230.here hx rfl (hb hby at_202) rfl ?_
            refine XS.lsub X230.here hx rfl (hb hby at_204) rfl ?_
            refine XS.lload X230.here hx rfl (hb hby at_205) rfl ?_
            refine XS.lcmp X230.here hx rfl (hb hby at_207) rfl ?_
            refine XS.ifYes X230.here hx rfl (pc0 := 208) (pc' := 215) rfl (hb hby at_208) rfl ((if0 _ _).trans (tlt ((lw_lt (((qa + qb) + qc) - (0 : Int64)) (65536 : Int64)).mpr hw228)).1) (by decide) (by decide) ?_
            refine XS.iconst X230.here hx rfl (hb hby at_215) ?_
            refine XS.istore X230.here hx rfl (hb hby at_216) rfl (l' := (own_l186 qs p2 p3 p4 p5 qa qb qc b218 b219)) rfl ?_
            exact k
          exact own_suf_000 (h0 := h0) (n0 := n0) X230 hx hZ hw hby hml hown Bd.returns Bd.notSynchronized rfl N230 Zs230 Kc230 Ea230 Fentries230 Fcount230 Fend230 Fplaces230 Vp230 V218_230 ne_b218_b219.symm ne_b218_ap220.symm gn_b218 sz_b218
        · skip
          obtain ⟨cq231, kq231, q231a, q231b, q231c⟩ := isOf hZ rfl Ea227
          obtain ⟨_, _, ⟨T231, L231, k231, n231⟩, -, X231, ⟨Lc231, hQ231, l231, y231, z231⟩, st231⟩ := X227.virtualBack hx (y := (⟨"com/example/coho/coho/eventlog/SegmentIndex", "add", "(JJ)V"⟩ : MethodName)) (z := (⟨"com/example/coho/coho/eventlog/SegmentIndex", "add", "(JJ)V"⟩ : MethodName)) hown (mvT hZ (own_w hw 24 rfl)) (mvT hZ (own_w hw 25 rfl)) (notFace_of_selects (args := #[]) (mvT hZ (own_w hw 27 rfl))) (mvT hZ (own_w hw 27 rfl)) (mvT hZ (own_w hw 26 rfl)) (by decide) (backOf (W := 0) (rm3_1B l Z a0 hw [] b219 qa (3 : Int64) ap220 ar220 at220 kp220 ks220 (3 : Int32) (((qs + qa) + qb) + qc) (2 : Int64) (0 : Int32) (0 : Int32) (0 : Int32) (0 : Int32) qs (0 : Int64) (0 : Int64) (0 : Int64) T227.heap n0 Zs227 ⟨Ea227, Fplaces227, Fstarts227, Ftimes227, Fentries227, Fcount227, Fend227, FlastTime227, Vp227, Vs227, Vt227, n0227, n1227, n2227, n3227, n4227, n5227, gg0227, gg1227, gg2227, gg3227⟩ (by rw [own_eq229]; exact hw228)) hZ (own_w hw 28 rfl) (own_w hw 5 rfl) (by decide) (by decide)) q231a q231c (g := (mkF m 101 (own_l179 qs p2 p3 p4 p5 qa qb qc b218 b219) [(.long (3 : Int64)), (.long qa), (.ref b219)])) rfl (by rw [hml]; rfl) (Steps.refl _) (argsL := [(.long qa), (.long (3 : Int64))]) (rest := []) (lenOf own_pd2 rfl) rfl (by show 2 * 0 + _ ≤ _; exact Nat.le_of_eq rfl) (hb hby at_101) (fun _ _ => ⟨rfl, rfl, (by decide : 5 + 0 ≤ _), (by decide : 23 + 0 ≤ _)⟩)
          dsimp only [Pt.U, Pt.locs, Pt.cells, Pt.slots] at X231 l231 y231 z231 st231 hQ231
          replace y231 : _ = 5 := y231
          replace z231 : _ = 23 := z231
          subst y231 z231
          obtain ⟨rfl, Nq231, Kq231, B231⟩ := hQ231
          have N231 := own_frl l231 N227 Nq231
          refine own_pre (fun t k => st231.trans k) ?_
          have V218_231 := V218_227.keep Kq231 (ninS ne_b218_b219 (ninS ne_b218_ap220 (ninS ne_b218_ar220 (ninS ne_b218_at220 nin0))))
          have Zs231 : n0 ≤ T231.heap.size := Nat.le_trans Zs227 Kq231.1
          have Kc231 : Keep h0 T231.heap [] := Kc227.trans Kq231 (allS (Or.inr sz_b219) (allS (Or.inr sz_ap220) (allS (Or.inr sz_ar220) (allS (Or.inr sz_at220) all0))))
          obtain ⟨Ea231, Fplaces231, Fstarts231, Ftimes231, Fentries231, Fcount231, Fend231, FlastTime231, Vp231, Vs231, Vt231, n0231, n1231, n2231, n3231, n4231, n5231, gg0231, gg1231, gg2231, gg3231⟩ := B231
          rw [show ((3 : Int32) + (1 : Int32)) = (4 : Int32) from by decide] at Fcount231
          refine own_pre (A := (T231.setTop (mkF m 218 (own_l187 qs p2 p3 p4 p5 qa qb qc b218 b219) []))) ?_ ?_
          · intro t k
            refine XS.lload X231.here hx rfl (hb hby at_104) rfl ?_
            refine XS.lstore X231.here hx rfl (hb hby at_106) rfl (l' := (own_l180 qs p2 p3 p4 p5 qa qb qc b218 b219)) rfl ?_
            refine XS.lload X231.here hx rfl (hb hby at_108) rfl ?_
            refine XS.lload X231.here hx rfl (hb hby at_110) rfl ?_
            refine XS.ladd X231.here hx rfl (hb hby at_112) rfl ?_
            refine XS.lstore X231.here hx rfl (hb hby at_113) rfl (l' := (own_l181 qs p2 p3 p4 p5 qa qb qc b218 b219)) rfl ?_
            refine XS.lload X231.here hx rfl (hb hby at_115) rfl ?_
            refine XS.lload X231.here hx rfl (hb hby at_117) rfl ?_
            refine XS.ladd X231.here hx rfl (hb hby at_119) rfl ?_
            refine XS.lload X231.here hx rfl (hb hby at_120) rfl ?_
            refine XS.ladd X231.here hx rfl (hb hby at_122) rfl ?_
            refine XS.lstore X231.here hx rfl (hb hby at_123) rfl (l' := (own_l182 qs p2 p3 p4 p5 qa qb qc b218 b219)) rfl ?_
            refine XS.lconst X231.here hx rfl (hb hby at_125) ?_
            refine XS.lstore X231.here hx rfl (hb hby at_126) rfl (l' := (own_l183 qs p2 p3 p4 p5 qa qb qc b218 b219)) rfl ?_
            refine XS.iload X231.here hx rfl (hb hby at_128) rfl ?_
            refine XS.iconst X231.here hx rfl (hb hby at_130) ?_
            refine XS.icmpNo X231.here hx rfl (hb hby at_131) rfl (tlt (by decide : (1 : Int32) < (4 : Int32))).2.2.2 ?_
            refine XS.lload X231.here hx rfl (hb hby at_134) rfl ?_
            refine XS.lload X231.here hx rfl (hb hby at_136) rfl ?_
            refine XS.lsub X231.here hx rfl (hb hby at_138) rfl ?_
            refine XS.lload X231.here hx rfl (hb hby at_139) rfl ?_
            refine XS.lcmp X231.here hx rfl (hb hby at_141) rfl ?_
            refine XS.ifYes X231.here hx rfl (pc0 := 142) (pc' := 149) rfl (hb hby at_142) rfl ((if0 _ _).trans (tlt ((lw_lt (qa - (0 : Int64)) (65536 : Int64)).mpr hw222)).1) (by decide) (by decide) ?_
            refine XS.iconst X231.here hx rfl (hb hby at_149) ?_
            refine XS.istore X231.here hx rfl (hb hby at_150) rfl (l' := (own_l184 qs p2 p3 p4 p5 qa qb qc b218 b219)) rfl ?_
            refine XS.iload X231.here hx rfl (hb hby at_152) rfl ?_
            refine XS.ifYes X231.here hx rfl (pc0 := 154) (pc' := 161) rfl (hb hby at_154) rfl ((if0 _ _).trans (teq (by decide : (0 : Int32) = (0 : Int32))).1) (by decide) (by decide) ?_
            refine XS.iload X231.here hx rfl (hb hby at_161) rfl ?_
            refine XS.iconst X231.here hx rfl (hb hby at_163) ?_
            refine XS.icmpNo X231.here hx rfl (hb hby at_164) rfl (tlt (by decide : (2 : Int32) < (4 : Int32))).2.2.2 ?_
            refine XS.lload X231.here hx rfl (hb hby at_167) rfl ?_
            refine XS.lload X231.here hx rfl (hb hby at_169) rfl ?_
            refine XS.lsub X231.here hx rfl (hb hby at_171) rfl ?_
            refine XS.lload X231.here hx rfl (hb hby at_172) rfl ?_
            refine XS.lcmp X231.here hx rfl (hb hby at_174) rfl ?_
            refine XS.ifYes X231.here hx rfl (pc0 := 175) (pc' := 182) rfl (hb hby at_175) rfl ((if0 _ _).trans (tlt ((lw_lt ((qa + qb) - (0 : Int64)) (65536 : Int64)).mpr hw225)).1) (by decide) (by decide) ?_
            refine XS.iconst X231.here hx rfl (hb hby at_182) ?_
            refine XS.istore X231.here hx rfl (hb hby at_183) rfl (l' := (own_l185 qs p2 p3 p4 p5 qa qb qc b218 b219)) rfl ?_
            refine XS.iload X231.here hx rfl (hb hby at_185) rfl ?_
            refine XS.ifYes X231.here hx rfl (pc0 := 187) (pc' := 194) rfl (hb hby at_187) rfl ((if0 _ _).trans (teq (by decide : (0 : Int32) = (0 : Int32))).1) (by decide) (by decide) ?_
            refine XS.iload X231.here hx rfl (hb hby at_194) rfl ?_
            refine XS.iconst X231.here hx rfl (hb hby at_196) ?_
            refine XS.icmpNo X231.here hx rfl (hb hby at_197) rfl (tlt (by decide : (3 : Int32) < (4 : Int32))).2.2.2 ?_
            refine XS.lload X231.here hx rfl (hb hby at_200) rfl ?_
            refine XS.lload X231.here hx rfl (hb hby at_202) rfl ?_
            refine XS.lsub X231.here hx rfl (hb hby at_204) rfl ?_
            refine XS.lload X231.here hx rfl (hb hby at_205) rfl ?_
            refine XS.lcmp X231.here hx rfl (hb hby at_207) rfl ?_
            refine XS.ifNo X231.here hx rfl (hb hby at_208) rfl ((if0 _ _).trans (flt (fun q => hw228 ((lw_lt (((qa + qb) + qc) - (0 : Int64)) (65536 : Int64)).mp q))).1) ?_
            refine XS.iconst X231.here hx rfl (hb hby at_211) ?_
            refine XS.goto X231.here hx rfl (pc0 := 212) (pc' := 216) rfl (hb hby at_212) (by decide) (by decide) ?_
            refine XS.istore X231.here hx rfl (hb hby at_216) rfl (l' := (own_l187 qs p2 p3 p4 p5 qa qb qc b218 b219)) rfl ?_
            exact k
          exact own_suf_001 (h0 := h0) (n0 := n0) X231 hx hZ hw hby hml hown Bd.returns Bd.notSynchronized rfl N231 Zs231 Kc231 Ea231 Fentries231 Fcount231 Fend231 Fplaces231 Vp231 V218_231 ne_b218_b219.symm ne_b218_ap220.symm gn_b218 sz_b218
      · skip
        obtain ⟨cq232, kq232, q232a, q232b, q232c⟩ := isOf hZ rfl Ea224
        obtain ⟨_, _, ⟨T232, L232, k232, n232⟩, -, X232, ⟨Lc232, hQ232, l232, y232, z232⟩, st232⟩ := X224.virtualBack hx (y := (⟨"com/example/coho/coho/eventlog/SegmentIndex", "add", "(JJ)V"⟩ : MethodName)) (z := (⟨"com/example/coho/coho/eventlog/SegmentIndex", "add", "(JJ)V"⟩ : MethodName)) hown (mvT hZ (own_w hw 24 rfl)) (mvT hZ (own_w hw 25 rfl)) (notFace_of_selects (args := #[]) (mvT hZ (own_w hw 27 rfl))) (mvT hZ (own_w hw 27 rfl)) (mvT hZ (own_w hw 26 rfl)) (by decide) (backOf (W := 0) (rm3_1B l Z a0 hw [] b219 qc (2 : Int64) ap220 ar220 at220 kp220 ks220 (2 : Int32) ((qs + qa) + qb) (1 : Int64) (0 : Int32) (0 : Int32) (0 : Int32) (0 : Int32) qs (0 : Int64) (0 : Int64) (0 : Int64) T224.heap n0 Zs224 ⟨Ea224, Fplaces224, Fstarts224, Ftimes224, Fentries224, Fcount224, Fend224, FlastTime224, Vp224, Vs224, Vt224, n0224, n1224, n2224, n3224, n4224, n5224, gg0224, gg1224, gg2224, gg3224⟩ (by rw [own_eq226]; exact hw225)) hZ (own_w hw 28 rfl) (own_w hw 5 rfl) (by decide) (by decide)) q232a q232c (g := (mkF m 85 (own_l179 qs p2 p3 p4 p5 qa qb qc b218 b219) [(.long (2 : Int64)), (.long qc), (.ref b219)])) rfl (by rw [hml]; rfl) (Steps.refl _) (argsL := [(.long qc), (.long (2 : Int64))]) (rest := []) (lenOf own_pd2 rfl) rfl (by show 2 * 0 + _ ≤ _; exact Nat.le_of_eq rfl) (hb hby at_85) (fun _ _ => ⟨rfl, rfl, (by decide : 5 + 0 ≤ _), (by decide : 23 + 0 ≤ _)⟩)
        dsimp only [Pt.U, Pt.locs, Pt.cells, Pt.slots] at X232 l232 y232 z232 st232 hQ232
        replace y232 : _ = 5 := y232
        replace z232 : _ = 23 := z232
        subst y232 z232
        obtain ⟨rfl, Nq232, Kq232, B232⟩ := hQ232
        have N232 := own_frl l232 N224 Nq232
        refine own_pre (fun t k => st232.trans k) ?_
        have V218_232 := V218_224.keep Kq232 (ninS ne_b218_b219 (ninS ne_b218_ap220 (ninS ne_b218_ar220 (ninS ne_b218_at220 nin0))))
        have Zs232 : n0 ≤ T232.heap.size := Nat.le_trans Zs224 Kq232.1
        have Kc232 : Keep h0 T232.heap [] := Kc224.trans Kq232 (allS (Or.inr sz_b219) (allS (Or.inr sz_ap220) (allS (Or.inr sz_ar220) (allS (Or.inr sz_at220) all0))))
        obtain ⟨Ea232, Fplaces232, Fstarts232, Ftimes232, Fentries232, Fcount232, Fend232, FlastTime232, Vp232, Vs232, Vt232, n0232, n1232, n2232, n3232, n4232, n5232, gg0232, gg1232, gg2232, gg3232⟩ := B232
        rw [show ((2 : Int32) + (1 : Int32)) = (3 : Int32) from by decide] at Fcount232
        refine own_pre (A := (T232.setTop (mkF m 101 (own_l179 qs p2 p3 p4 p5 qa qb qc b218 b219) [(.long (3 : Int64)), (.long qa), (.ref b219)]))) ?_ ?_
        · intro t k
          refine XS.iload X232.here hx rfl (hb hby at_88) rfl ?_
          refine XS.iconst X232.here hx rfl (hb hby at_90) ?_
          refine XS.icmpNo X232.here hx rfl (hb hby at_91) rfl (tlt (by decide : (3 : Int32) < (4 : Int32))).2.2.2 ?_
          refine XS.aload X232.here hx rfl (hb hby at_94) rfl rfl ?_
          refine XS.lload X232.here hx rfl (hb hby at_96) rfl ?_
          show Steps p.tables e below (T232.setTop (mkF m 98 (own_l179 qs p2 p3 p4 p5 qa qb qc b218 b219) [(.long qa), (.ref b219)])) _
          refine X232.ldc2Long hx hown (mvT hZ (own_w hw 40 rfl)) (g := (mkF m 98 (own_l179 qs p2 p3 p4 p5 qa qb qc b218 b219) [(.long qa), (.ref b219)])) rfl (hb hby at_98) _ ?_
          exact k
        have own_eq234 : (((qs + qa) + qb) + qc) - ((qs + qa) + qb) = ((qa + qb) + qc) - (qa + qb) := by first | exact own_sub _ _ _ | (simp only [Int64.add_assoc]; exact own_sub _ _ _)
        by_cases hw233 : (((qa + qb) + qc) - (qa + qb)) < (65536 : Int64)
        · skip
          obtain ⟨cq235, kq235, q235a, q235b, q235c⟩ := isOf hZ rfl Ea232
          obtain ⟨_, _, ⟨T235, L235, k235, n235⟩, -, X235, ⟨Lc235, hQ235, l235, y235, z235⟩, st235⟩ := X232.virtualBack hx (y := (⟨"com/example/coho/coho/eventlog/SegmentIndex", "add", "(JJ)V"⟩ : MethodName)) (z := (⟨"com/example/coho/coho/eventlog/SegmentIndex", "add", "(JJ)V"⟩ : MethodName)) hown (mvT hZ (own_w hw 24 rfl)) (mvT hZ (own_w hw 25 rfl)) (notFace_of_selects (args := #[]) (mvT hZ (own_w hw 27 rfl))) (mvT hZ (own_w hw 27 rfl)) (mvT hZ (own_w hw 26 rfl)) (by decide) (backOf (W := 0) (rm3_2A l Z a0 hw [] b219 qa (3 : Int64) ap220 ar220 at220 kp220 ks220 (3 : Int32) (((qs + qa) + qb) + qc) (2 : Int64) (0 : Int32) (2 : Int32) (0 : Int32) (0 : Int32) qs ((qs + qa) + qb) (0 : Int64) (0 : Int64) T232.heap n0 Zs232 ⟨Ea232, Fplaces232, Fstarts232, Ftimes232, Fentries232, Fcount232, Fend232, FlastTime232, Vp232, Vs232, Vt232, n0232, n1232, n2232, n3232, n4232, n5232, gg0232, gg1232, gg2232, gg3232⟩ (by rw [own_eq234]; exact hw233)) hZ (own_w hw 28 rfl) (own_w hw 5 rfl) (by decide) (by decide)) q235a q235c (g := (mkF m 101 (own_l179 qs p2 p3 p4 p5 qa qb qc b218 b219) [(.long (3 : Int64)), (.long qa), (.ref b219)])) rfl (by rw [hml]; rfl) (Steps.refl _) (argsL := [(.long qa), (.long (3 : Int64))]) (rest := []) (lenOf own_pd2 rfl) rfl (by show 2 * 0 + _ ≤ _; exact Nat.le_of_eq rfl) (hb hby at_101) (fun _ _ => ⟨rfl, rfl, (by decide : 5 + 0 ≤ _), (by decide : 23 + 0 ≤ _)⟩)
          dsimp only [Pt.U, Pt.locs, Pt.cells, Pt.slots] at X235 l235 y235 z235 st235 hQ235
          replace y235 : _ = 5 := y235
          replace z235 : _ = 23 := z235
          subst y235 z235
          obtain ⟨rfl, Nq235, Kq235, B235⟩ := hQ235
          have N235 := own_frl l235 N232 Nq235
          refine own_pre (fun t k => st235.trans k) ?_
          have V218_235 := V218_232.keep Kq235 (ninS ne_b218_b219 (ninS ne_b218_ap220 (ninS ne_b218_ar220 (ninS ne_b218_at220 nin0))))
          have Zs235 : n0 ≤ T235.heap.size := Nat.le_trans Zs232 Kq235.1
          have Kc235 : Keep h0 T235.heap [] := Kc232.trans Kq235 (allS (Or.inr sz_b219) (allS (Or.inr sz_ap220) (allS (Or.inr sz_ar220) (allS (Or.inr sz_at220) all0))))
          obtain ⟨Ea235, Fplaces235, Fstarts235, Ftimes235, Fentries235, Fcount235, Fend235, FlastTime235, Vp235, Vs235, Vt235, n0235, n1235, n2235, n3235, n4235, n5235, gg0235, gg1235, gg2235, gg3235⟩ := B235
          rw [show ((3 : Int32) + (1 : Int32)) = (4 : Int32) from by decide] at Fcount235
          refine own_pre (A := (T235.setTop (mkF m 218 (own_l190 qs p2 p3 p4 p5 qa qb qc b218 b219) []))) ?_ ?_
          · intro t k
            refine XS.lload X235.here hx rfl (hb hby at_104) rfl ?_
            refine XS.lstore X235.here hx rfl (hb hby at_106) rfl (l' := (own_l180 qs p2 p3 p4 p5 qa qb qc b218 b219)) rfl ?_
            refine XS.lload X235.here hx rfl (hb hby at_108) rfl ?_
            refine XS.lload X235.here hx rfl (hb hby at_110) rfl ?_
            refine XS.ladd X235.here hx rfl (hb hby at_112) rfl ?_
            refine XS.lstore X235.here hx rfl (hb hby at_113) rfl (l' := (own_l181 qs p2 p3 p4 p5 qa qb qc b218 b219)) rfl ?_
            refine XS.lload X235.here hx rfl (hb hby at_115) rfl ?_
            refine XS.lload X235.here hx rfl (hb hby at_117) rfl ?_
            refine XS.ladd X235.here hx rfl (hb hby at_119) rfl ?_
            refine XS.lload X235.here hx rfl (hb hby at_120) rfl ?_
            refine XS.ladd X235.here hx rfl (hb hby at_122) rfl ?_
            refine XS.lstore X235.here hx rfl (hb hby at_123) rfl (l' := (own_l182 qs p2 p3 p4 p5 qa qb qc b218 b219)) rfl ?_
            refine XS.lconst X235.here hx rfl (hb hby at_125) ?_
            refine XS.lstore X235.here hx rfl (hb hby at_126) rfl (l' := (own_l183 qs p2 p3 p4 p5 qa qb qc b218 b219)) rfl ?_
            refine XS.iload X235.here hx rfl (hb hby at_128) rfl ?_
            refine XS.iconst X235.here hx rfl (hb hby at_130) ?_
            refine XS.icmpNo X235.here hx rfl (hb hby at_131) rfl (tlt (by decide : (1 : Int32) < (4 : Int32))).2.2.2 ?_
            refine XS.lload X235.here hx rfl (hb hby at_134) rfl ?_
            refine XS.lload X235.here hx rfl (hb hby at_136) rfl ?_
            refine XS.lsub X235.here hx rfl (hb hby at_138) rfl ?_
            refine XS.lload X235.here hx rfl (hb hby at_139) rfl ?_
            refine XS.lcmp X235.here hx rfl (hb hby at_141) rfl ?_
            refine XS.ifYes X235.here hx rfl (pc0 := 142) (pc' := 149) rfl (hb hby at_142) rfl ((if0 _ _).trans (tlt ((lw_lt (qa - (0 : Int64)) (65536 : Int64)).mpr hw222)).1) (by decide) (by decide) ?_
            refine XS.iconst X235.here hx rfl (hb hby at_149) ?_
            refine XS.istore X235.here hx rfl (hb hby at_150) rfl (l' := (own_l184 qs p2 p3 p4 p5 qa qb qc b218 b219)) rfl ?_
            refine XS.iload X235.here hx rfl (hb hby at_152) rfl ?_
            refine XS.ifYes X235.here hx rfl (pc0 := 154) (pc' := 161) rfl (hb hby at_154) rfl ((if0 _ _).trans (teq (by decide : (0 : Int32) = (0 : Int32))).1) (by decide) (by decide) ?_
            refine XS.iload X235.here hx rfl (hb hby at_161) rfl ?_
            refine XS.iconst X235.here hx rfl (hb hby at_163) ?_
            refine XS.icmpNo X235.here hx rfl (hb hby at_164) rfl (tlt (by decide : (2 : Int32) < (4 : Int32))).2.2.2 ?_
            refine XS.lload X235.here hx rfl (hb hby at_167) rfl ?_
            refine XS.lload X235.here hx rfl (hb hby at_169) rfl ?_
            refine XS.lsub X235.here hx rfl (hb hby at_171) rfl ?_
            refine XS.lload X235.here hx rfl (hb hby at_172) rfl ?_
            refine XS.lcmp X235.here hx rfl (hb hby at_174) rfl ?_
            refine XS.ifNo X235.here hx rfl (hb hby at_175) rfl ((if0 _ _).trans (flt (fun q => hw225 ((lw_lt ((qa + qb) - (0 : Int64)) (65536 : Int64)).mp q))).1) ?_
            refine XS.iconst X235.here hx rfl (hb hby at_178) ?_
            refine XS.goto X235.here hx rfl (pc0 := 179) (pc' := 183) rfl (hb hby at_179) (by decide) (by decide) ?_
            refine XS.istore X235.here hx rfl (hb hby at_183) rfl (l' := (own_l188 qs p2 p3 p4 p5 qa qb qc b218 b219)) rfl ?_
            refine XS.iload X235.here hx rfl (hb hby at_185) rfl ?_
            refine XS.ifNo X235.here hx rfl (hb hby at_187) rfl ((if0 _ _).trans (feq (by decide : ¬ ((1 : Int32) = (0 : Int32)))).1) ?_
            refine XS.lload X235.here hx rfl (hb hby at_190) rfl ?_
            refine XS.lstore X235.here hx rfl (hb hby at_192) rfl (l' := (own_l189 qs p2 p3 p4 p5 qa qb qc b218 b219)) rfl ?_
            refine XS.iload X235.here hx rfl (hb hby at_194) rfl ?_
            refine XS.iconst X235.here hx rfl (hb hby at_196) ?_
            refine XS.icmpNo X235.here hx rfl (hb hby at_197) rfl (tlt (by decide : (3 : Int32) < (4 : Int32))).2.2.2 ?_
            refine XS.lload X235.here hx rfl (hb hby at_200) rfl ?_
            refine XS.lload X235.here hx rfl (hb hby at_202) rfl ?_
            refine XS.lsub X235.here hx rfl (hb hby at_204) rfl ?_
            refine XS.lload X235.here hx rfl (hb hby at_205) rfl ?_
            refine XS.lcmp X235.here hx rfl (hb hby at_207) rfl ?_
            refine XS.ifYes X235.here hx rfl (pc0 := 208) (pc' := 215) rfl (hb hby at_208) rfl ((if0 _ _).trans (tlt ((lw_lt (((qa + qb) + qc) - (qa + qb)) (65536 : Int64)).mpr hw233)).1) (by decide) (by decide) ?_
            refine XS.iconst X235.here hx rfl (hb hby at_215) ?_
            refine XS.istore X235.here hx rfl (hb hby at_216) rfl (l' := (own_l190 qs p2 p3 p4 p5 qa qb qc b218 b219)) rfl ?_
            exact k
          exact own_suf_010 (h0 := h0) (n0 := n0) X235 hx hZ hw hby hml hown Bd.returns Bd.notSynchronized rfl N235 Zs235 Kc235 Ea235 Fentries235 Fcount235 Fend235 Fplaces235 Vp235 V218_235 ne_b218_b219.symm ne_b218_ap220.symm gn_b218 sz_b218
        · skip
          obtain ⟨cq236, kq236, q236a, q236b, q236c⟩ := isOf hZ rfl Ea232
          obtain ⟨_, _, ⟨T236, L236, k236, n236⟩, -, X236, ⟨Lc236, hQ236, l236, y236, z236⟩, st236⟩ := X232.virtualBack hx (y := (⟨"com/example/coho/coho/eventlog/SegmentIndex", "add", "(JJ)V"⟩ : MethodName)) (z := (⟨"com/example/coho/coho/eventlog/SegmentIndex", "add", "(JJ)V"⟩ : MethodName)) hown (mvT hZ (own_w hw 24 rfl)) (mvT hZ (own_w hw 25 rfl)) (notFace_of_selects (args := #[]) (mvT hZ (own_w hw 27 rfl))) (mvT hZ (own_w hw 27 rfl)) (mvT hZ (own_w hw 26 rfl)) (by decide) (backOf (W := 0) (rm3_2B l Z a0 hw [] b219 qa (3 : Int64) ap220 ar220 at220 kp220 ks220 (3 : Int32) (((qs + qa) + qb) + qc) (2 : Int64) (0 : Int32) (2 : Int32) (0 : Int32) (0 : Int32) qs ((qs + qa) + qb) (0 : Int64) (0 : Int64) T232.heap n0 Zs232 ⟨Ea232, Fplaces232, Fstarts232, Ftimes232, Fentries232, Fcount232, Fend232, FlastTime232, Vp232, Vs232, Vt232, n0232, n1232, n2232, n3232, n4232, n5232, gg0232, gg1232, gg2232, gg3232⟩ (by rw [own_eq234]; exact hw233)) hZ (own_w hw 28 rfl) (own_w hw 5 rfl) (by decide) (by decide)) q236a q236c (g := (mkF m 101 (own_l179 qs p2 p3 p4 p5 qa qb qc b218 b219) [(.long (3 : Int64)), (.long qa), (.ref b219)])) rfl (by rw [hml]; rfl) (Steps.refl _) (argsL := [(.long qa), (.long (3 : Int64))]) (rest := []) (lenOf own_pd2 rfl) rfl (by show 2 * 0 + _ ≤ _; exact Nat.le_of_eq rfl) (hb hby at_101) (fun _ _ => ⟨rfl, rfl, (by decide : 5 + 0 ≤ _), (by decide : 23 + 0 ≤ _)⟩)
          dsimp only [Pt.U, Pt.locs, Pt.cells, Pt.slots] at X236 l236 y236 z236 st236 hQ236
          replace y236 : _ = 5 := y236
          replace z236 : _ = 23 := z236
          subst y236 z236
          obtain ⟨rfl, Nq236, Kq236, B236⟩ := hQ236
          have N236 := own_frl l236 N232 Nq236
          refine own_pre (fun t k => st236.trans k) ?_
          have V218_236 := V218_232.keep Kq236 (ninS ne_b218_b219 (ninS ne_b218_ap220 (ninS ne_b218_ar220 (ninS ne_b218_at220 nin0))))
          have Zs236 : n0 ≤ T236.heap.size := Nat.le_trans Zs232 Kq236.1
          have Kc236 : Keep h0 T236.heap [] := Kc232.trans Kq236 (allS (Or.inr sz_b219) (allS (Or.inr sz_ap220) (allS (Or.inr sz_ar220) (allS (Or.inr sz_at220) all0))))
          obtain ⟨Ea236, Fplaces236, Fstarts236, Ftimes236, Fentries236, Fcount236, Fend236, FlastTime236, Vp236, Vs236, Vt236, n0236, n1236, n2236, n3236, n4236, n5236, gg0236, gg1236, gg2236, gg3236⟩ := B236
          rw [show ((3 : Int32) + (1 : Int32)) = (4 : Int32) from by decide] at Fcount236
          refine own_pre (A := (T236.setTop (mkF m 218 (own_l191 qs p2 p3 p4 p5 qa qb qc b218 b219) []))) ?_ ?_
          · intro t k
            refine XS.lload X236.here hx rfl (hb hby at_104) rfl ?_
            refine XS.lstore X236.here hx rfl (hb hby at_106) rfl (l' := (own_l180 qs p2 p3 p4 p5 qa qb qc b218 b219)) rfl ?_
            refine XS.lload X236.here hx rfl (hb hby at_108) rfl ?_
            refine XS.lload X236.here hx rfl (hb hby at_110) rfl ?_
            refine XS.ladd X236.here hx rfl (hb hby at_112) rfl ?_
            refine XS.lstore X236.here hx rfl (hb hby at_113) rfl (l' := (own_l181 qs p2 p3 p4 p5 qa qb qc b218 b219)) rfl ?_
            refine XS.lload X236.here hx rfl (hb hby at_115) rfl ?_
            refine XS.lload X236.here hx rfl (hb hby at_117) rfl ?_
            refine XS.ladd X236.here hx rfl (hb hby at_119) rfl ?_
            refine XS.lload X236.here hx rfl (hb hby at_120) rfl ?_
            refine XS.ladd X236.here hx rfl (hb hby at_122) rfl ?_
            refine XS.lstore X236.here hx rfl (hb hby at_123) rfl (l' := (own_l182 qs p2 p3 p4 p5 qa qb qc b218 b219)) rfl ?_
            refine XS.lconst X236.here hx rfl (hb hby at_125) ?_
            refine XS.lstore X236.here hx rfl (hb hby at_126) rfl (l' := (own_l183 qs p2 p3 p4 p5 qa qb qc b218 b219)) rfl ?_
            refine XS.iload X236.here hx rfl (hb hby at_128) rfl ?_
            refine XS.iconst X236.here hx rfl (hb hby at_130) ?_
            refine XS.icmpNo X236.here hx rfl (hb hby at_131) rfl (tlt (by decide : (1 : Int32) < (4 : Int32))).2.2.2 ?_
            refine XS.lload X236.here hx rfl (hb hby at_134) rfl ?_
            refine XS.lload X236.here hx rfl (hb hby at_136) rfl ?_
            refine XS.lsub X236.here hx rfl (hb hby at_138) rfl ?_
            refine XS.lload X236.here hx rfl (hb hby at_139) rfl ?_
            refine XS.lcmp X236.here hx rfl (hb hby at_141) rfl ?_
            refine XS.ifYes X236.here hx rfl (pc0 := 142) (pc' := 149) rfl (hb hby at_142) rfl ((if0 _ _).trans (tlt ((lw_lt (qa - (0 : Int64)) (65536 : Int64)).mpr hw222)).1) (by decide) (by decide) ?_
            refine XS.iconst X236.here hx rfl (hb hby at_149) ?_
            refine XS.istore X236.here hx rfl (hb hby at_150) rfl (l' := (own_l184 qs p2 p3 p4 p5 qa qb qc b218 b219)) rfl ?_
            refine XS.iload X236.here hx rfl (hb hby at_152) rfl ?_
            refine XS.ifYes X236.here hx rfl (pc0 := 154) (pc' := 161) rfl (hb hby at_154) rfl ((if0 _ _).trans (teq (by decide : (0 : Int32) = (0 : Int32))).1) (by decide) (by decide) ?_
            refine XS.iload X236.here hx rfl (hb hby at_161) rfl ?_
            refine XS.iconst X236.here hx rfl (hb hby at_163) ?_
            refine XS.icmpNo X236.here hx rfl (hb hby at_164) rfl (tlt (by decide : (2 : Int32) < (4 : Int32))).2.2.2 ?_
            refine XS.lload X236.here hx rfl (hb hby at_167) rfl ?_
            refine XS.lload X236.here hx rfl (hb hby at_169) rfl ?_
            refine XS.lsub X236.here hx rfl (hb hby at_171) rfl ?_
            refine XS.lload X236.here hx rfl (hb hby at_172) rfl ?_
            refine XS.lcmp X236.here hx rfl (hb hby at_174) rfl ?_
            refine XS.ifNo X236.here hx rfl (hb hby at_175) rfl ((if0 _ _).trans (flt (fun q => hw225 ((lw_lt ((qa + qb) - (0 : Int64)) (65536 : Int64)).mp q))).1) ?_
            refine XS.iconst X236.here hx rfl (hb hby at_178) ?_
            refine XS.goto X236.here hx rfl (pc0 := 179) (pc' := 183) rfl (hb hby at_179) (by decide) (by decide) ?_
            refine XS.istore X236.here hx rfl (hb hby at_183) rfl (l' := (own_l188 qs p2 p3 p4 p5 qa qb qc b218 b219)) rfl ?_
            refine XS.iload X236.here hx rfl (hb hby at_185) rfl ?_
            refine XS.ifNo X236.here hx rfl (hb hby at_187) rfl ((if0 _ _).trans (feq (by decide : ¬ ((1 : Int32) = (0 : Int32)))).1) ?_
            refine XS.lload X236.here hx rfl (hb hby at_190) rfl ?_
            refine XS.lstore X236.here hx rfl (hb hby at_192) rfl (l' := (own_l189 qs p2 p3 p4 p5 qa qb qc b218 b219)) rfl ?_
            refine XS.iload X236.here hx rfl (hb hby at_194) rfl ?_
            refine XS.iconst X236.here hx rfl (hb hby at_196) ?_
            refine XS.icmpNo X236.here hx rfl (hb hby at_197) rfl (tlt (by decide : (3 : Int32) < (4 : Int32))).2.2.2 ?_
            refine XS.lload X236.here hx rfl (hb hby at_200) rfl ?_
            refine XS.lload X236.here hx rfl (hb hby at_202) rfl ?_
            refine XS.lsub X236.here hx rfl (hb hby at_204) rfl ?_
            refine XS.lload X236.here hx rfl (hb hby at_205) rfl ?_
            refine XS.lcmp X236.here hx rfl (hb hby at_207) rfl ?_
            refine XS.ifNo X236.here hx rfl (hb hby at_208) rfl ((if0 _ _).trans (flt (fun q => hw233 ((lw_lt (((qa + qb) + qc) - (qa + qb)) (65536 : Int64)).mp q))).1) ?_
            refine XS.iconst X236.here hx rfl (hb hby at_211) ?_
            refine XS.goto X236.here hx rfl (pc0 := 212) (pc' := 216) rfl (hb hby at_212) (by decide) (by decide) ?_
            refine XS.istore X236.here hx rfl (hb hby at_216) rfl (l' := (own_l191 qs p2 p3 p4 p5 qa qb qc b218 b219)) rfl ?_
            exact k
          exact own_suf_011 (h0 := h0) (n0 := n0) X236 hx hZ hw hby hml hown Bd.returns Bd.notSynchronized rfl N236 Zs236 Kc236 Ea236 Fentries236 Fcount236 Fend236 Fplaces236 Vp236 V218_236 ne_b218_b219.symm ne_b218_ap220.symm gn_b218 sz_b218
    · skip
      obtain ⟨cq237, kq237, q237a, q237b, q237c⟩ := isOf hZ rfl Ea221
      obtain ⟨_, _, ⟨T237, L237, k237, n237⟩, -, X237, ⟨Lc237, hQ237, l237, y237, z237⟩, st237⟩ := X221.virtualBack hx (y := (⟨"com/example/coho/coho/eventlog/SegmentIndex", "add", "(JJ)V"⟩ : MethodName)) (z := (⟨"com/example/coho/coho/eventlog/SegmentIndex", "add", "(JJ)V"⟩ : MethodName)) hown (mvT hZ (own_w hw 24 rfl)) (mvT hZ (own_w hw 25 rfl)) (notFace_of_selects (args := #[]) (mvT hZ (own_w hw 27 rfl))) (mvT hZ (own_w hw 27 rfl)) (mvT hZ (own_w hw 26 rfl)) (by decide) (backOf (W := 0) (rm3_1B l Z a0 hw [] b219 qb (1 : Int64) ap220 ar220 at220 kp220 ks220 (1 : Int32) (qs + qa) (0 : Int64) (0 : Int32) (0 : Int32) (0 : Int32) (0 : Int32) qs (0 : Int64) (0 : Int64) (0 : Int64) T221.heap n0 Zs221 ⟨Ea221, Fplaces221, Fstarts221, Ftimes221, Fentries221, Fcount221, Fend221, FlastTime221, Vp221, Vs221, Vt221, n0221, n1221, n2221, n3221, n4221, n5221, gg0221, gg1221, gg2221, gg3221⟩ (by rw [own_eq223]; exact hw222)) hZ (own_w hw 28 rfl) (own_w hw 5 rfl) (by decide) (by decide)) q237a q237c (g := (mkF m 69 (own_l179 qs p2 p3 p4 p5 qa qb qc b218 b219) [(.long (1 : Int64)), (.long qb), (.ref b219)])) rfl (by rw [hml]; rfl) (Steps.refl _) (argsL := [(.long qb), (.long (1 : Int64))]) (rest := []) (lenOf own_pd2 rfl) rfl (by show 2 * 0 + _ ≤ _; exact Nat.le_of_eq rfl) (hb hby at_69) (fun _ _ => ⟨rfl, rfl, (by decide : 5 + 0 ≤ _), (by decide : 23 + 0 ≤ _)⟩)
      dsimp only [Pt.U, Pt.locs, Pt.cells, Pt.slots] at X237 l237 y237 z237 st237 hQ237
      replace y237 : _ = 5 := y237
      replace z237 : _ = 23 := z237
      subst y237 z237
      obtain ⟨rfl, Nq237, Kq237, B237⟩ := hQ237
      have N237 := own_frl l237 N221 Nq237
      refine own_pre (fun t k => st237.trans k) ?_
      have V218_237 := V218_221.keep Kq237 (ninS ne_b218_b219 (ninS ne_b218_ap220 (ninS ne_b218_ar220 (ninS ne_b218_at220 nin0))))
      have Zs237 : n0 ≤ T237.heap.size := Nat.le_trans Zs221 Kq237.1
      have Kc237 : Keep h0 T237.heap [] := Kc221.trans Kq237 (allS (Or.inr sz_b219) (allS (Or.inr sz_ap220) (allS (Or.inr sz_ar220) (allS (Or.inr sz_at220) all0))))
      obtain ⟨Ea237, Fplaces237, Fstarts237, Ftimes237, Fentries237, Fcount237, Fend237, FlastTime237, Vp237, Vs237, Vt237, n0237, n1237, n2237, n3237, n4237, n5237, gg0237, gg1237, gg2237, gg3237⟩ := B237
      rw [show ((1 : Int32) + (1 : Int32)) = (2 : Int32) from by decide] at Fcount237
      refine own_pre (A := (T237.setTop (mkF m 85 (own_l179 qs p2 p3 p4 p5 qa qb qc b218 b219) [(.long (2 : Int64)), (.long qc), (.ref b219)]))) ?_ ?_
      · intro t k
        refine XS.iload X237.here hx rfl (hb hby at_72) rfl ?_
        refine XS.iconst X237.here hx rfl (hb hby at_74) ?_
        refine XS.icmpNo X237.here hx rfl (hb hby at_75) rfl (tlt (by decide : (2 : Int32) < (4 : Int32))).2.2.2 ?_
        refine XS.aload X237.here hx rfl (hb hby at_78) rfl rfl ?_
        refine XS.lload X237.here hx rfl (hb hby at_80) rfl ?_
        show Steps p.tables e below (T237.setTop (mkF m 82 (own_l179 qs p2 p3 p4 p5 qa qb qc b218 b219) [(.long qc), (.ref b219)])) _
        refine X237.ldc2Long hx hown (mvT hZ (own_w hw 34 rfl)) (g := (mkF m 82 (own_l179 qs p2 p3 p4 p5 qa qb qc b218 b219) [(.long qc), (.ref b219)])) rfl (hb hby at_82) _ ?_
        exact k
      have own_eq239 : ((qs + qa) + qb) - (qs + qa) = (qa + qb) - qa := by first | exact own_sub _ _ _ | (simp only [Int64.add_assoc]; exact own_sub _ _ _)
      by_cases hw238 : ((qa + qb) - qa) < (65536 : Int64)
      · skip
        obtain ⟨cq240, kq240, q240a, q240b, q240c⟩ := isOf hZ rfl Ea237
        obtain ⟨_, _, ⟨T240, L240, k240, n240⟩, -, X240, ⟨Lc240, hQ240, l240, y240, z240⟩, st240⟩ := X237.virtualBack hx (y := (⟨"com/example/coho/coho/eventlog/SegmentIndex", "add", "(JJ)V"⟩ : MethodName)) (z := (⟨"com/example/coho/coho/eventlog/SegmentIndex", "add", "(JJ)V"⟩ : MethodName)) hown (mvT hZ (own_w hw 24 rfl)) (mvT hZ (own_w hw 25 rfl)) (notFace_of_selects (args := #[]) (mvT hZ (own_w hw 27 rfl))) (mvT hZ (own_w hw 27 rfl)) (mvT hZ (own_w hw 26 rfl)) (by decide) (backOf (W := 0) (rm3_2A l Z a0 hw [] b219 qc (2 : Int64) ap220 ar220 at220 kp220 ks220 (2 : Int32) ((qs + qa) + qb) (1 : Int64) (0 : Int32) (1 : Int32) (0 : Int32) (0 : Int32) qs (qs + qa) (0 : Int64) (0 : Int64) T237.heap n0 Zs237 ⟨Ea237, Fplaces237, Fstarts237, Ftimes237, Fentries237, Fcount237, Fend237, FlastTime237, Vp237, Vs237, Vt237, n0237, n1237, n2237, n3237, n4237, n5237, gg0237, gg1237, gg2237, gg3237⟩ (by rw [own_eq239]; exact hw238)) hZ (own_w hw 28 rfl) (own_w hw 5 rfl) (by decide) (by decide)) q240a q240c (g := (mkF m 85 (own_l179 qs p2 p3 p4 p5 qa qb qc b218 b219) [(.long (2 : Int64)), (.long qc), (.ref b219)])) rfl (by rw [hml]; rfl) (Steps.refl _) (argsL := [(.long qc), (.long (2 : Int64))]) (rest := []) (lenOf own_pd2 rfl) rfl (by show 2 * 0 + _ ≤ _; exact Nat.le_of_eq rfl) (hb hby at_85) (fun _ _ => ⟨rfl, rfl, (by decide : 5 + 0 ≤ _), (by decide : 23 + 0 ≤ _)⟩)
        dsimp only [Pt.U, Pt.locs, Pt.cells, Pt.slots] at X240 l240 y240 z240 st240 hQ240
        replace y240 : _ = 5 := y240
        replace z240 : _ = 23 := z240
        subst y240 z240
        obtain ⟨rfl, Nq240, Kq240, B240⟩ := hQ240
        have N240 := own_frl l240 N237 Nq240
        refine own_pre (fun t k => st240.trans k) ?_
        have V218_240 := V218_237.keep Kq240 (ninS ne_b218_b219 (ninS ne_b218_ap220 (ninS ne_b218_ar220 (ninS ne_b218_at220 nin0))))
        have Zs240 : n0 ≤ T240.heap.size := Nat.le_trans Zs237 Kq240.1
        have Kc240 : Keep h0 T240.heap [] := Kc237.trans Kq240 (allS (Or.inr sz_b219) (allS (Or.inr sz_ap220) (allS (Or.inr sz_ar220) (allS (Or.inr sz_at220) all0))))
        obtain ⟨Ea240, Fplaces240, Fstarts240, Ftimes240, Fentries240, Fcount240, Fend240, FlastTime240, Vp240, Vs240, Vt240, n0240, n1240, n2240, n3240, n4240, n5240, gg0240, gg1240, gg2240, gg3240⟩ := B240
        rw [show ((2 : Int32) + (1 : Int32)) = (3 : Int32) from by decide] at Fcount240
        refine own_pre (A := (T240.setTop (mkF m 101 (own_l179 qs p2 p3 p4 p5 qa qb qc b218 b219) [(.long (3 : Int64)), (.long qa), (.ref b219)]))) ?_ ?_
        · intro t k
          refine XS.iload X240.here hx rfl (hb hby at_88) rfl ?_
          refine XS.iconst X240.here hx rfl (hb hby at_90) ?_
          refine XS.icmpNo X240.here hx rfl (hb hby at_91) rfl (tlt (by decide : (3 : Int32) < (4 : Int32))).2.2.2 ?_
          refine XS.aload X240.here hx rfl (hb hby at_94) rfl rfl ?_
          refine XS.lload X240.here hx rfl (hb hby at_96) rfl ?_
          show Steps p.tables e below (T240.setTop (mkF m 98 (own_l179 qs p2 p3 p4 p5 qa qb qc b218 b219) [(.long qa), (.ref b219)])) _
          refine X240.ldc2Long hx hown (mvT hZ (own_w hw 40 rfl)) (g := (mkF m 98 (own_l179 qs p2 p3 p4 p5 qa qb qc b218 b219) [(.long qa), (.ref b219)])) rfl (hb hby at_98) _ ?_
          exact k
        have own_eq242 : (((qs + qa) + qb) + qc) - (qs + qa) = ((qa + qb) + qc) - qa := by first | exact own_sub _ _ _ | (simp only [Int64.add_assoc]; exact own_sub _ _ _)
        by_cases hw241 : (((qa + qb) + qc) - qa) < (65536 : Int64)
        · skip
          obtain ⟨cq243, kq243, q243a, q243b, q243c⟩ := isOf hZ rfl Ea240
          obtain ⟨_, _, ⟨T243, L243, k243, n243⟩, -, X243, ⟨Lc243, hQ243, l243, y243, z243⟩, st243⟩ := X240.virtualBack hx (y := (⟨"com/example/coho/coho/eventlog/SegmentIndex", "add", "(JJ)V"⟩ : MethodName)) (z := (⟨"com/example/coho/coho/eventlog/SegmentIndex", "add", "(JJ)V"⟩ : MethodName)) hown (mvT hZ (own_w hw 24 rfl)) (mvT hZ (own_w hw 25 rfl)) (notFace_of_selects (args := #[]) (mvT hZ (own_w hw 27 rfl))) (mvT hZ (own_w hw 27 rfl)) (mvT hZ (own_w hw 26 rfl)) (by decide) (backOf (W := 0) (rm3_2A l Z a0 hw [] b219 qa (3 : Int64) ap220 ar220 at220 kp220 ks220 (3 : Int32) (((qs + qa) + qb) + qc) (2 : Int64) (0 : Int32) (1 : Int32) (0 : Int32) (0 : Int32) qs (qs + qa) (0 : Int64) (0 : Int64) T240.heap n0 Zs240 ⟨Ea240, Fplaces240, Fstarts240, Ftimes240, Fentries240, Fcount240, Fend240, FlastTime240, Vp240, Vs240, Vt240, n0240, n1240, n2240, n3240, n4240, n5240, gg0240, gg1240, gg2240, gg3240⟩ (by rw [own_eq242]; exact hw241)) hZ (own_w hw 28 rfl) (own_w hw 5 rfl) (by decide) (by decide)) q243a q243c (g := (mkF m 101 (own_l179 qs p2 p3 p4 p5 qa qb qc b218 b219) [(.long (3 : Int64)), (.long qa), (.ref b219)])) rfl (by rw [hml]; rfl) (Steps.refl _) (argsL := [(.long qa), (.long (3 : Int64))]) (rest := []) (lenOf own_pd2 rfl) rfl (by show 2 * 0 + _ ≤ _; exact Nat.le_of_eq rfl) (hb hby at_101) (fun _ _ => ⟨rfl, rfl, (by decide : 5 + 0 ≤ _), (by decide : 23 + 0 ≤ _)⟩)
          dsimp only [Pt.U, Pt.locs, Pt.cells, Pt.slots] at X243 l243 y243 z243 st243 hQ243
          replace y243 : _ = 5 := y243
          replace z243 : _ = 23 := z243
          subst y243 z243
          obtain ⟨rfl, Nq243, Kq243, B243⟩ := hQ243
          have N243 := own_frl l243 N240 Nq243
          refine own_pre (fun t k => st243.trans k) ?_
          have V218_243 := V218_240.keep Kq243 (ninS ne_b218_b219 (ninS ne_b218_ap220 (ninS ne_b218_ar220 (ninS ne_b218_at220 nin0))))
          have Zs243 : n0 ≤ T243.heap.size := Nat.le_trans Zs240 Kq243.1
          have Kc243 : Keep h0 T243.heap [] := Kc240.trans Kq243 (allS (Or.inr sz_b219) (allS (Or.inr sz_ap220) (allS (Or.inr sz_ar220) (allS (Or.inr sz_at220) all0))))
          obtain ⟨Ea243, Fplaces243, Fstarts243, Ftimes243, Fentries243, Fcount243, Fend243, FlastTime243, Vp243, Vs243, Vt243, n0243, n1243, n2243, n3243, n4243, n5243, gg0243, gg1243, gg2243, gg3243⟩ := B243
          rw [show ((3 : Int32) + (1 : Int32)) = (4 : Int32) from by decide] at Fcount243
          refine own_pre (A := (T243.setTop (mkF m 218 (own_l195 qs p2 p3 p4 p5 qa qb qc b218 b219) []))) ?_ ?_
          · intro t k
            refine XS.lload X243.here hx rfl (hb hby at_104) rfl ?_
            refine XS.lstore X243.here hx rfl (hb hby at_106) rfl (l' := (own_l180 qs p2 p3 p4 p5 qa qb qc b218 b219)) rfl ?_
            refine XS.lload X243.here hx rfl (hb hby at_108) rfl ?_
            refine XS.lload X243.here hx rfl (hb hby at_110) rfl ?_
            refine XS.ladd X243.here hx rfl (hb hby at_112) rfl ?_
            refine XS.lstore X243.here hx rfl (hb hby at_113) rfl (l' := (own_l181 qs p2 p3 p4 p5 qa qb qc b218 b219)) rfl ?_
            refine XS.lload X243.here hx rfl (hb hby at_115) rfl ?_
            refine XS.lload X243.here hx rfl (hb hby at_117) rfl ?_
            refine XS.ladd X243.here hx rfl (hb hby at_119) rfl ?_
            refine XS.lload X243.here hx rfl (hb hby at_120) rfl ?_
            refine XS.ladd X243.here hx rfl (hb hby at_122) rfl ?_
            refine XS.lstore X243.here hx rfl (hb hby at_123) rfl (l' := (own_l182 qs p2 p3 p4 p5 qa qb qc b218 b219)) rfl ?_
            refine XS.lconst X243.here hx rfl (hb hby at_125) ?_
            refine XS.lstore X243.here hx rfl (hb hby at_126) rfl (l' := (own_l183 qs p2 p3 p4 p5 qa qb qc b218 b219)) rfl ?_
            refine XS.iload X243.here hx rfl (hb hby at_128) rfl ?_
            refine XS.iconst X243.here hx rfl (hb hby at_130) ?_
            refine XS.icmpNo X243.here hx rfl (hb hby at_131) rfl (tlt (by decide : (1 : Int32) < (4 : Int32))).2.2.2 ?_
            refine XS.lload X243.here hx rfl (hb hby at_134) rfl ?_
            refine XS.lload X243.here hx rfl (hb hby at_136) rfl ?_
            refine XS.lsub X243.here hx rfl (hb hby at_138) rfl ?_
            refine XS.lload X243.here hx rfl (hb hby at_139) rfl ?_
            refine XS.lcmp X243.here hx rfl (hb hby at_141) rfl ?_
            refine XS.ifNo X243.here hx rfl (hb hby at_142) rfl ((if0 _ _).trans (flt (fun q => hw222 ((lw_lt (qa - (0 : Int64)) (65536 : Int64)).mp q))).1) ?_
            refine XS.iconst X243.here hx rfl (hb hby at_145) ?_
            refine XS.goto X243.here hx rfl (pc0 := 146) (pc' := 150) rfl (hb hby at_146) (by decide) (by decide) ?_
            refine XS.istore X243.here hx rfl (hb hby at_150) rfl (l' := (own_l192 qs p2 p3 p4 p5 qa qb qc b218 b219)) rfl ?_
            refine XS.iload X243.here hx rfl (hb hby at_152) rfl ?_
            refine XS.ifNo X243.here hx rfl (hb hby at_154) rfl ((if0 _ _).trans (feq (by decide : ¬ ((1 : Int32) = (0 : Int32)))).1) ?_
            refine XS.lload X243.here hx rfl (hb hby at_157) rfl ?_
            refine XS.lstore X243.here hx rfl (hb hby at_159) rfl (l' := (own_l193 qs p2 p3 p4 p5 qa qb qc b218 b219)) rfl ?_
            refine XS.iload X243.here hx rfl (hb hby at_161) rfl ?_
            refine XS.iconst X243.here hx rfl (hb hby at_163) ?_
            refine XS.icmpNo X243.here hx rfl (hb hby at_164) rfl (tlt (by decide : (2 : Int32) < (4 : Int32))).2.2.2 ?_
            refine XS.lload X243.here hx rfl (hb hby at_167) rfl ?_
            refine XS.lload X243.here hx rfl (hb hby at_169) rfl ?_
            refine XS.lsub X243.here hx rfl (hb hby at_171) rfl ?_
            refine XS.lload X243.here hx rfl (hb hby at_172) rfl ?_
            refine XS.lcmp X243.here hx rfl (hb hby at_174) rfl ?_
            refine XS.ifYes X243.here hx rfl (pc0 := 175) (pc' := 182) rfl (hb hby at_175) rfl ((if0 _ _).trans (tlt ((lw_lt ((qa + qb) - qa) (65536 : Int64)).mpr hw238)).1) (by decide) (by decide) ?_
            refine XS.iconst X243.here hx rfl (hb hby at_182) ?_
            refine XS.istore X243.here hx rfl (hb hby at_183) rfl (l' := (own_l194 qs p2 p3 p4 p5 qa qb qc b218 b219)) rfl ?_
            refine XS.iload X243.here hx rfl (hb hby at_185) rfl ?_
            refine XS.ifYes X243.here hx rfl (pc0 := 187) (pc' := 194) rfl (hb hby at_187) rfl ((if0 _ _).trans (teq (by decide : (0 : Int32) = (0 : Int32))).1) (by decide) (by decide) ?_
            refine XS.iload X243.here hx rfl (hb hby at_194) rfl ?_
            refine XS.iconst X243.here hx rfl (hb hby at_196) ?_
            refine XS.icmpNo X243.here hx rfl (hb hby at_197) rfl (tlt (by decide : (3 : Int32) < (4 : Int32))).2.2.2 ?_
            refine XS.lload X243.here hx rfl (hb hby at_200) rfl ?_
            refine XS.lload X243.here hx rfl (hb hby at_202) rfl ?_
            refine XS.lsub X243.here hx rfl (hb hby at_204) rfl ?_
            refine XS.lload X243.here hx rfl (hb hby at_205) rfl ?_
            refine XS.lcmp X243.here hx rfl (hb hby at_207) rfl ?_
            refine XS.ifYes X243.here hx rfl (pc0 := 208) (pc' := 215) rfl (hb hby at_208) rfl ((if0 _ _).trans (tlt ((lw_lt (((qa + qb) + qc) - qa) (65536 : Int64)).mpr hw241)).1) (by decide) (by decide) ?_
            refine XS.iconst X243.here hx rfl (hb hby at_215) ?_
            refine XS.istore X243.here hx rfl (hb hby at_216) rfl (l' := (own_l195 qs p2 p3 p4 p5 qa qb qc b218 b219)) rfl ?_
            exact k
          exact own_suf_100 (h0 := h0) (n0 := n0) X243 hx hZ hw hby hml hown Bd.returns Bd.notSynchronized rfl N243 Zs243 Kc243 Ea243 Fentries243 Fcount243 Fend243 Fplaces243 Vp243 V218_243 ne_b218_b219.symm ne_b218_ap220.symm gn_b218 sz_b218
        · skip
          obtain ⟨cq244, kq244, q244a, q244b, q244c⟩ := isOf hZ rfl Ea240
          obtain ⟨_, _, ⟨T244, L244, k244, n244⟩, -, X244, ⟨Lc244, hQ244, l244, y244, z244⟩, st244⟩ := X240.virtualBack hx (y := (⟨"com/example/coho/coho/eventlog/SegmentIndex", "add", "(JJ)V"⟩ : MethodName)) (z := (⟨"com/example/coho/coho/eventlog/SegmentIndex", "add", "(JJ)V"⟩ : MethodName)) hown (mvT hZ (own_w hw 24 rfl)) (mvT hZ (own_w hw 25 rfl)) (notFace_of_selects (args := #[]) (mvT hZ (own_w hw 27 rfl))) (mvT hZ (own_w hw 27 rfl)) (mvT hZ (own_w hw 26 rfl)) (by decide) (backOf (W := 0) (rm3_2B l Z a0 hw [] b219 qa (3 : Int64) ap220 ar220 at220 kp220 ks220 (3 : Int32) (((qs + qa) + qb) + qc) (2 : Int64) (0 : Int32) (1 : Int32) (0 : Int32) (0 : Int32) qs (qs + qa) (0 : Int64) (0 : Int64) T240.heap n0 Zs240 ⟨Ea240, Fplaces240, Fstarts240, Ftimes240, Fentries240, Fcount240, Fend240, FlastTime240, Vp240, Vs240, Vt240, n0240, n1240, n2240, n3240, n4240, n5240, gg0240, gg1240, gg2240, gg3240⟩ (by rw [own_eq242]; exact hw241)) hZ (own_w hw 28 rfl) (own_w hw 5 rfl) (by decide) (by decide)) q244a q244c (g := (mkF m 101 (own_l179 qs p2 p3 p4 p5 qa qb qc b218 b219) [(.long (3 : Int64)), (.long qa), (.ref b219)])) rfl (by rw [hml]; rfl) (Steps.refl _) (argsL := [(.long qa), (.long (3 : Int64))]) (rest := []) (lenOf own_pd2 rfl) rfl (by show 2 * 0 + _ ≤ _; exact Nat.le_of_eq rfl) (hb hby at_101) (fun _ _ => ⟨rfl, rfl, (by decide : 5 + 0 ≤ _), (by decide : 23 + 0 ≤ _)⟩)
          dsimp only [Pt.U, Pt.locs, Pt.cells, Pt.slots] at X244 l244 y244 z244 st244 hQ244
          replace y244 : _ = 5 := y244
          replace z244 : _ = 23 := z244
          subst y244 z244
          obtain ⟨rfl, Nq244, Kq244, B244⟩ := hQ244
          have N244 := own_frl l244 N240 Nq244
          refine own_pre (fun t k => st244.trans k) ?_
          have V218_244 := V218_240.keep Kq244 (ninS ne_b218_b219 (ninS ne_b218_ap220 (ninS ne_b218_ar220 (ninS ne_b218_at220 nin0))))
          have Zs244 : n0 ≤ T244.heap.size := Nat.le_trans Zs240 Kq244.1
          have Kc244 : Keep h0 T244.heap [] := Kc240.trans Kq244 (allS (Or.inr sz_b219) (allS (Or.inr sz_ap220) (allS (Or.inr sz_ar220) (allS (Or.inr sz_at220) all0))))
          obtain ⟨Ea244, Fplaces244, Fstarts244, Ftimes244, Fentries244, Fcount244, Fend244, FlastTime244, Vp244, Vs244, Vt244, n0244, n1244, n2244, n3244, n4244, n5244, gg0244, gg1244, gg2244, gg3244⟩ := B244
          rw [show ((3 : Int32) + (1 : Int32)) = (4 : Int32) from by decide] at Fcount244
          refine own_pre (A := (T244.setTop (mkF m 218 (own_l196 qs p2 p3 p4 p5 qa qb qc b218 b219) []))) ?_ ?_
          · intro t k
            refine XS.lload X244.here hx rfl (hb hby at_104) rfl ?_
            refine XS.lstore X244.here hx rfl (hb hby at_106) rfl (l' := (own_l180 qs p2 p3 p4 p5 qa qb qc b218 b219)) rfl ?_
            refine XS.lload X244.here hx rfl (hb hby at_108) rfl ?_
            refine XS.lload X244.here hx rfl (hb hby at_110) rfl ?_
            refine XS.ladd X244.here hx rfl (hb hby at_112) rfl ?_
            refine XS.lstore X244.here hx rfl (hb hby at_113) rfl (l' := (own_l181 qs p2 p3 p4 p5 qa qb qc b218 b219)) rfl ?_
            refine XS.lload X244.here hx rfl (hb hby at_115) rfl ?_
            refine XS.lload X244.here hx rfl (hb hby at_117) rfl ?_
            refine XS.ladd X244.here hx rfl (hb hby at_119) rfl ?_
            refine XS.lload X244.here hx rfl (hb hby at_120) rfl ?_
            refine XS.ladd X244.here hx rfl (hb hby at_122) rfl ?_
            refine XS.lstore X244.here hx rfl (hb hby at_123) rfl (l' := (own_l182 qs p2 p3 p4 p5 qa qb qc b218 b219)) rfl ?_
            refine XS.lconst X244.here hx rfl (hb hby at_125) ?_
            refine XS.lstore X244.here hx rfl (hb hby at_126) rfl (l' := (own_l183 qs p2 p3 p4 p5 qa qb qc b218 b219)) rfl ?_
            refine XS.iload X244.here hx rfl (hb hby at_128) rfl ?_
            refine XS.iconst X244.here hx rfl (hb hby at_130) ?_
            refine XS.icmpNo X244.here hx rfl (hb hby at_131) rfl (tlt (by decide : (1 : Int32) < (4 : Int32))).2.2.2 ?_
            refine XS.lload X244.here hx rfl (hb hby at_134) rfl ?_
            refine XS.lload X244.here hx rfl (hb hby at_136) rfl ?_
            refine XS.lsub X244.here hx rfl (hb hby at_138) rfl ?_
            refine XS.lload X244.here hx rfl (hb hby at_139) rfl ?_
            refine XS.lcmp X244.here hx rfl (hb hby at_141) rfl ?_
            refine XS.ifNo X244.here hx rfl (hb hby at_142) rfl ((if0 _ _).trans (flt (fun q => hw222 ((lw_lt (qa - (0 : Int64)) (65536 : Int64)).mp q))).1) ?_
            refine XS.iconst X244.here hx rfl (hb hby at_145) ?_
            refine XS.goto X244.here hx rfl (pc0 := 146) (pc' := 150) rfl (hb hby at_146) (by decide) (by decide) ?_
            refine XS.istore X244.here hx rfl (hb hby at_150) rfl (l' := (own_l192 qs p2 p3 p4 p5 qa qb qc b218 b219)) rfl ?_
            refine XS.iload X244.here hx rfl (hb hby at_152) rfl ?_
            refine XS.ifNo X244.here hx rfl (hb hby at_154) rfl ((if0 _ _).trans (feq (by decide : ¬ ((1 : Int32) = (0 : Int32)))).1) ?_
            refine XS.lload X244.here hx rfl (hb hby at_157) rfl ?_
            refine XS.lstore X244.here hx rfl (hb hby at_159) rfl (l' := (own_l193 qs p2 p3 p4 p5 qa qb qc b218 b219)) rfl ?_
            refine XS.iload X244.here hx rfl (hb hby at_161) rfl ?_
            refine XS.iconst X244.here hx rfl (hb hby at_163) ?_
            refine XS.icmpNo X244.here hx rfl (hb hby at_164) rfl (tlt (by decide : (2 : Int32) < (4 : Int32))).2.2.2 ?_
            refine XS.lload X244.here hx rfl (hb hby at_167) rfl ?_
            refine XS.lload X244.here hx rfl (hb hby at_169) rfl ?_
            refine XS.lsub X244.here hx rfl (hb hby at_171) rfl ?_
            refine XS.lload X244.here hx rfl (hb hby at_172) rfl ?_
            refine XS.lcmp X244.here hx rfl (hb hby at_174) rfl ?_
            refine XS.ifYes X244.here hx rfl (pc0 := 175) (pc' := 182) rfl (hb hby at_175) rfl ((if0 _ _).trans (tlt ((lw_lt ((qa + qb) - qa) (65536 : Int64)).mpr hw238)).1) (by decide) (by decide) ?_
            refine XS.iconst X244.here hx rfl (hb hby at_182) ?_
            refine XS.istore X244.here hx rfl (hb hby at_183) rfl (l' := (own_l194 qs p2 p3 p4 p5 qa qb qc b218 b219)) rfl ?_
            refine XS.iload X244.here hx rfl (hb hby at_185) rfl ?_
            refine XS.ifYes X244.here hx rfl (pc0 := 187) (pc' := 194) rfl (hb hby at_187) rfl ((if0 _ _).trans (teq (by decide : (0 : Int32) = (0 : Int32))).1) (by decide) (by decide) ?_
            refine XS.iload X244.here hx rfl (hb hby at_194) rfl ?_
            refine XS.iconst X244.here hx rfl (hb hby at_196) ?_
            refine XS.icmpNo X244.here hx rfl (hb hby at_197) rfl (tlt (by decide : (3 : Int32) < (4 : Int32))).2.2.2 ?_
            refine XS.lload X244.here hx rfl (hb hby at_200) rfl ?_
            refine XS.lload X244.here hx rfl (hb hby at_202) rfl ?_
            refine XS.lsub X244.here hx rfl (hb hby at_204) rfl ?_
            refine XS.lload X244.here hx rfl (hb hby at_205) rfl ?_
            refine XS.lcmp X244.here hx rfl (hb hby at_207) rfl ?_
            refine XS.ifNo X244.here hx rfl (hb hby at_208) rfl ((if0 _ _).trans (flt (fun q => hw241 ((lw_lt (((qa + qb) + qc) - qa) (65536 : Int64)).mp q))).1) ?_
            refine XS.iconst X244.here hx rfl (hb hby at_211) ?_
            refine XS.goto X244.here hx rfl (pc0 := 212) (pc' := 216) rfl (hb hby at_212) (by decide) (by decide) ?_
            refine XS.istore X244.here hx rfl (hb hby at_216) rfl (l' := (own_l196 qs p2 p3 p4 p5 qa qb qc b218 b219)) rfl ?_
            exact k
          exact own_suf_101 (h0 := h0) (n0 := n0) X244 hx hZ hw hby hml hown Bd.returns Bd.notSynchronized rfl N244 Zs244 Kc244 Ea244 Fentries244 Fcount244 Fend244 Fplaces244 Vp244 V218_244 ne_b218_b219.symm ne_b218_ap220.symm gn_b218 sz_b218
      · skip
        obtain ⟨cq245, kq245, q245a, q245b, q245c⟩ := isOf hZ rfl Ea237
        obtain ⟨_, _, ⟨T245, L245, k245, n245⟩, -, X245, ⟨Lc245, hQ245, l245, y245, z245⟩, st245⟩ := X237.virtualBack hx (y := (⟨"com/example/coho/coho/eventlog/SegmentIndex", "add", "(JJ)V"⟩ : MethodName)) (z := (⟨"com/example/coho/coho/eventlog/SegmentIndex", "add", "(JJ)V"⟩ : MethodName)) hown (mvT hZ (own_w hw 24 rfl)) (mvT hZ (own_w hw 25 rfl)) (notFace_of_selects (args := #[]) (mvT hZ (own_w hw 27 rfl))) (mvT hZ (own_w hw 27 rfl)) (mvT hZ (own_w hw 26 rfl)) (by decide) (backOf (W := 0) (rm3_2B l Z a0 hw [] b219 qc (2 : Int64) ap220 ar220 at220 kp220 ks220 (2 : Int32) ((qs + qa) + qb) (1 : Int64) (0 : Int32) (1 : Int32) (0 : Int32) (0 : Int32) qs (qs + qa) (0 : Int64) (0 : Int64) T237.heap n0 Zs237 ⟨Ea237, Fplaces237, Fstarts237, Ftimes237, Fentries237, Fcount237, Fend237, FlastTime237, Vp237, Vs237, Vt237, n0237, n1237, n2237, n3237, n4237, n5237, gg0237, gg1237, gg2237, gg3237⟩ (by rw [own_eq239]; exact hw238)) hZ (own_w hw 28 rfl) (own_w hw 5 rfl) (by decide) (by decide)) q245a q245c (g := (mkF m 85 (own_l179 qs p2 p3 p4 p5 qa qb qc b218 b219) [(.long (2 : Int64)), (.long qc), (.ref b219)])) rfl (by rw [hml]; rfl) (Steps.refl _) (argsL := [(.long qc), (.long (2 : Int64))]) (rest := []) (lenOf own_pd2 rfl) rfl (by show 2 * 0 + _ ≤ _; exact Nat.le_of_eq rfl) (hb hby at_85) (fun _ _ => ⟨rfl, rfl, (by decide : 5 + 0 ≤ _), (by decide : 23 + 0 ≤ _)⟩)
        dsimp only [Pt.U, Pt.locs, Pt.cells, Pt.slots] at X245 l245 y245 z245 st245 hQ245
        replace y245 : _ = 5 := y245
        replace z245 : _ = 23 := z245
        subst y245 z245
        obtain ⟨rfl, Nq245, Kq245, B245⟩ := hQ245
        have N245 := own_frl l245 N237 Nq245
        refine own_pre (fun t k => st245.trans k) ?_
        have V218_245 := V218_237.keep Kq245 (ninS ne_b218_b219 (ninS ne_b218_ap220 (ninS ne_b218_ar220 (ninS ne_b218_at220 nin0))))
        have Zs245 : n0 ≤ T245.heap.size := Nat.le_trans Zs237 Kq245.1
        have Kc245 : Keep h0 T245.heap [] := Kc237.trans Kq245 (allS (Or.inr sz_b219) (allS (Or.inr sz_ap220) (allS (Or.inr sz_ar220) (allS (Or.inr sz_at220) all0))))
        obtain ⟨Ea245, Fplaces245, Fstarts245, Ftimes245, Fentries245, Fcount245, Fend245, FlastTime245, Vp245, Vs245, Vt245, n0245, n1245, n2245, n3245, n4245, n5245, gg0245, gg1245, gg2245, gg3245⟩ := B245
        rw [show ((2 : Int32) + (1 : Int32)) = (3 : Int32) from by decide] at Fcount245
        refine own_pre (A := (T245.setTop (mkF m 101 (own_l179 qs p2 p3 p4 p5 qa qb qc b218 b219) [(.long (3 : Int64)), (.long qa), (.ref b219)]))) ?_ ?_
        · intro t k
          refine XS.iload X245.here hx rfl (hb hby at_88) rfl ?_
          refine XS.iconst X245.here hx rfl (hb hby at_90) ?_
          refine XS.icmpNo X245.here hx rfl (hb hby at_91) rfl (tlt (by decide : (3 : Int32) < (4 : Int32))).2.2.2 ?_
          refine XS.aload X245.here hx rfl (hb hby at_94) rfl rfl ?_
          refine XS.lload X245.here hx rfl (hb hby at_96) rfl ?_
          show Steps p.tables e below (T245.setTop (mkF m 98 (own_l179 qs p2 p3 p4 p5 qa qb qc b218 b219) [(.long qa), (.ref b219)])) _
          refine X245.ldc2Long hx hown (mvT hZ (own_w hw 40 rfl)) (g := (mkF m 98 (own_l179 qs p2 p3 p4 p5 qa qb qc b218 b219) [(.long qa), (.ref b219)])) rfl (hb hby at_98) _ ?_
          exact k
        have own_eq247 : (((qs + qa) + qb) + qc) - ((qs + qa) + qb) = ((qa + qb) + qc) - (qa + qb) := by first | exact own_sub _ _ _ | (simp only [Int64.add_assoc]; exact own_sub _ _ _)
        by_cases hw246 : (((qa + qb) + qc) - (qa + qb)) < (65536 : Int64)
        · skip
          obtain ⟨cq248, kq248, q248a, q248b, q248c⟩ := isOf hZ rfl Ea245
          obtain ⟨_, _, ⟨T248, L248, k248, n248⟩, -, X248, ⟨Lc248, hQ248, l248, y248, z248⟩, st248⟩ := X245.virtualBack hx (y := (⟨"com/example/coho/coho/eventlog/SegmentIndex", "add", "(JJ)V"⟩ : MethodName)) (z := (⟨"com/example/coho/coho/eventlog/SegmentIndex", "add", "(JJ)V"⟩ : MethodName)) hown (mvT hZ (own_w hw 24 rfl)) (mvT hZ (own_w hw 25 rfl)) (notFace_of_selects (args := #[]) (mvT hZ (own_w hw 27 rfl))) (mvT hZ (own_w hw 27 rfl)) (mvT hZ (own_w hw 26 rfl)) (by decide) (backOf (W := 0) (rm3_3A l Z a0 hw [] b219 qa (3 : Int64) ap220 ar220 at220 kp220 ks220 (3 : Int32) (((qs + qa) + qb) + qc) (2 : Int64) (0 : Int32) (1 : Int32) (2 : Int32) (0 : Int32) qs (qs + qa) ((qs + qa) + qb) (0 : Int64) T245.heap n0 Zs245 ⟨Ea245, Fplaces245, Fstarts245, Ftimes245, Fentries245, Fcount245, Fend245, FlastTime245, Vp245, Vs245, Vt245, n0245, n1245, n2245, n3245, n4245, n5245, gg0245, gg1245, gg2245, gg3245⟩ (by rw [own_eq247]; exact hw246)) hZ (own_w hw 28 rfl) (own_w hw 5 rfl) (by decide) (by decide)) q248a q248c (g := (mkF m 101 (own_l179 qs p2 p3 p4 p5 qa qb qc b218 b219) [(.long (3 : Int64)), (.long qa), (.ref b219)])) rfl (by rw [hml]; rfl) (Steps.refl _) (argsL := [(.long qa), (.long (3 : Int64))]) (rest := []) (lenOf own_pd2 rfl) rfl (by show 2 * 0 + _ ≤ _; exact Nat.le_of_eq rfl) (hb hby at_101) (fun _ _ => ⟨rfl, rfl, (by decide : 5 + 0 ≤ _), (by decide : 23 + 0 ≤ _)⟩)
          dsimp only [Pt.U, Pt.locs, Pt.cells, Pt.slots] at X248 l248 y248 z248 st248 hQ248
          replace y248 : _ = 5 := y248
          replace z248 : _ = 23 := z248
          subst y248 z248
          obtain ⟨rfl, Nq248, Kq248, B248⟩ := hQ248
          have N248 := own_frl l248 N245 Nq248
          refine own_pre (fun t k => st248.trans k) ?_
          have V218_248 := V218_245.keep Kq248 (ninS ne_b218_b219 (ninS ne_b218_ap220 (ninS ne_b218_ar220 (ninS ne_b218_at220 nin0))))
          have Zs248 : n0 ≤ T248.heap.size := Nat.le_trans Zs245 Kq248.1
          have Kc248 : Keep h0 T248.heap [] := Kc245.trans Kq248 (allS (Or.inr sz_b219) (allS (Or.inr sz_ap220) (allS (Or.inr sz_ar220) (allS (Or.inr sz_at220) all0))))
          obtain ⟨Ea248, Fplaces248, Fstarts248, Ftimes248, Fentries248, Fcount248, Fend248, FlastTime248, Vp248, Vs248, Vt248, n0248, n1248, n2248, n3248, n4248, n5248, gg0248, gg1248, gg2248, gg3248⟩ := B248
          rw [show ((3 : Int32) + (1 : Int32)) = (4 : Int32) from by decide] at Fcount248
          refine own_pre (A := (T248.setTop (mkF m 218 (own_l199 qs p2 p3 p4 p5 qa qb qc b218 b219) []))) ?_ ?_
          · intro t k
            refine XS.lload X248.here hx rfl (hb hby at_104) rfl ?_
            refine XS.lstore X248.here hx rfl (hb hby at_106) rfl (l' := (own_l180 qs p2 p3 p4 p5 qa qb qc b218 b219)) rfl ?_
            refine XS.lload X248.here hx rfl (hb hby at_108) rfl ?_
            refine XS.lload X248.here hx rfl (hb hby at_110) rfl ?_
            refine XS.ladd X248.here hx rfl (hb hby at_112) rfl ?_
            refine XS.lstore X248.here hx rfl (hb hby at_113) rfl (l' := (own_l181 qs p2 p3 p4 p5 qa qb qc b218 b219)) rfl ?_
            refine XS.lload X248.here hx rfl (hb hby at_115) rfl ?_
            refine XS.lload X248.here hx rfl (hb hby at_117) rfl ?_
            refine XS.ladd X248.here hx rfl (hb hby at_119) rfl ?_
            refine XS.lload X248.here hx rfl (hb hby at_120) rfl ?_
            refine XS.ladd X248.here hx rfl (hb hby at_122) rfl ?_
            refine XS.lstore X248.here hx rfl (hb hby at_123) rfl (l' := (own_l182 qs p2 p3 p4 p5 qa qb qc b218 b219)) rfl ?_
            refine XS.lconst X248.here hx rfl (hb hby at_125) ?_
            refine XS.lstore X248.here hx rfl (hb hby at_126) rfl (l' := (own_l183 qs p2 p3 p4 p5 qa qb qc b218 b219)) rfl ?_
            refine XS.iload X248.here hx rfl (hb hby at_128) rfl ?_
            refine XS.iconst X248.here hx rfl (hb hby at_130) ?_
            refine XS.icmpNo X248.here hx rfl (hb hby at_131) rfl (tlt (by decide : (1 : Int32) < (4 : Int32))).2.2.2 ?_
            refine XS.lload X248.here hx rfl (hb hby at_134) rfl ?_
            refine XS.lload X248.here hx rfl (hb hby at_136) rfl ?_
            refine XS.lsub X248.here hx rfl (hb hby at_138) rfl ?_
            refine XS.lload X248.here hx rfl (hb hby at_139) rfl ?_
            refine XS.lcmp X248.here hx rfl (hb hby at_141) rfl ?_
            refine XS.ifNo X248.here hx rfl (hb hby at_142) rfl ((if0 _ _).trans (flt (fun q => hw222 ((lw_lt (qa - (0 : Int64)) (65536 : Int64)).mp q))).1) ?_
            refine XS.iconst X248.here hx rfl (hb hby at_145) ?_
            refine XS.goto X248.here hx rfl (pc0 := 146) (pc' := 150) rfl (hb hby at_146) (by decide) (by decide) ?_
            refine XS.istore X248.here hx rfl (hb hby at_150) rfl (l' := (own_l192 qs p2 p3 p4 p5 qa qb qc b218 b219)) rfl ?_
            refine XS.iload X248.here hx rfl (hb hby at_152) rfl ?_
            refine XS.ifNo X248.here hx rfl (hb hby at_154) rfl ((if0 _ _).trans (feq (by decide : ¬ ((1 : Int32) = (0 : Int32)))).1) ?_
            refine XS.lload X248.here hx rfl (hb hby at_157) rfl ?_
            refine XS.lstore X248.here hx rfl (hb hby at_159) rfl (l' := (own_l193 qs p2 p3 p4 p5 qa qb qc b218 b219)) rfl ?_
            refine XS.iload X248.here hx rfl (hb hby at_161) rfl ?_
            refine XS.iconst X248.here hx rfl (hb hby at_163) ?_
            refine XS.icmpNo X248.here hx rfl (hb hby at_164) rfl (tlt (by decide : (2 : Int32) < (4 : Int32))).2.2.2 ?_
            refine XS.lload X248.here hx rfl (hb hby at_167) rfl ?_
            refine XS.lload X248.here hx rfl (hb hby at_169) rfl ?_
            refine XS.lsub X248.here hx rfl (hb hby at_171) rfl ?_
            refine XS.lload X248.here hx rfl (hb hby at_172) rfl ?_
            refine XS.lcmp X248.here hx rfl (hb hby at_174) rfl ?_
            refine XS.ifNo X248.here hx rfl (hb hby at_175) rfl ((if0 _ _).trans (flt (fun q => hw238 ((lw_lt ((qa + qb) - qa) (65536 : Int64)).mp q))).1) ?_
            refine XS.iconst X248.here hx rfl (hb hby at_178) ?_
            refine XS.goto X248.here hx rfl (pc0 := 179) (pc' := 183) rfl (hb hby at_179) (by decide) (by decide) ?_
            refine XS.istore X248.here hx rfl (hb hby at_183) rfl (l' := (own_l197 qs p2 p3 p4 p5 qa qb qc b218 b219)) rfl ?_
            refine XS.iload X248.here hx rfl (hb hby at_185) rfl ?_
            refine XS.ifNo X248.here hx rfl (hb hby at_187) rfl ((if0 _ _).trans (feq (by decide : ¬ ((1 : Int32) = (0 : Int32)))).1) ?_
            refine XS.lload X248.here hx rfl (hb hby at_190) rfl ?_
            refine XS.lstore X248.here hx rfl (hb hby at_192) rfl (l' := (own_l198 qs p2 p3 p4 p5 qa qb qc b218 b219)) rfl ?_
            refine XS.iload X248.here hx rfl (hb hby at_194) rfl ?_
            refine XS.iconst X248.here hx rfl (hb hby at_196) ?_
            refine XS.icmpNo X248.here hx rfl (hb hby at_197) rfl (tlt (by decide : (3 : Int32) < (4 : Int32))).2.2.2 ?_
            refine XS.lload X248.here hx rfl (hb hby at_200) rfl ?_
            refine XS.lload X248.here hx rfl (hb hby at_202) rfl ?_
            refine XS.lsub X248.here hx rfl (hb hby at_204) rfl ?_
            refine XS.lload X248.here hx rfl (hb hby at_205) rfl ?_
            refine XS.lcmp X248.here hx rfl (hb hby at_207) rfl ?_
            refine XS.ifYes X248.here hx rfl (pc0 := 208) (pc' := 215) rfl (hb hby at_208) rfl ((if0 _ _).trans (tlt ((lw_lt (((qa + qb) + qc) - (qa + qb)) (65536 : Int64)).mpr hw246)).1) (by decide) (by decide) ?_
            refine XS.iconst X248.here hx rfl (hb hby at_215) ?_
            refine XS.istore X248.here hx rfl (hb hby at_216) rfl (l' := (own_l199 qs p2 p3 p4 p5 qa qb qc b218 b219)) rfl ?_
            exact k
          exact own_suf_110 (h0 := h0) (n0 := n0) X248 hx hZ hw hby hml hown Bd.returns Bd.notSynchronized rfl N248 Zs248 Kc248 Ea248 Fentries248 Fcount248 Fend248 Fplaces248 Vp248 V218_248 ne_b218_b219.symm ne_b218_ap220.symm gn_b218 sz_b218
        · skip
          obtain ⟨cq259, kq259, q259a, q259b, q259c⟩ := isOf hZ rfl Ea245
          obtain ⟨_, _, ⟨T259, L259, k259, n259⟩, -, X259, ⟨Lc259, hQ259, l259, y259, z259⟩, st259⟩ := X245.virtualBack hx (y := (⟨"com/example/coho/coho/eventlog/SegmentIndex", "add", "(JJ)V"⟩ : MethodName)) (z := (⟨"com/example/coho/coho/eventlog/SegmentIndex", "add", "(JJ)V"⟩ : MethodName)) hown (mvT hZ (own_w hw 24 rfl)) (mvT hZ (own_w hw 25 rfl)) (notFace_of_selects (args := #[]) (mvT hZ (own_w hw 27 rfl))) (mvT hZ (own_w hw 27 rfl)) (mvT hZ (own_w hw 26 rfl)) (by decide) (backOf (W := 0) (rm3_3B l Z a0 hw [] b219 qa (3 : Int64) ap220 ar220 at220 kp220 ks220 (3 : Int32) (((qs + qa) + qb) + qc) (2 : Int64) (0 : Int32) (1 : Int32) (2 : Int32) (0 : Int32) qs (qs + qa) ((qs + qa) + qb) (0 : Int64) T245.heap n0 Zs245 ⟨Ea245, Fplaces245, Fstarts245, Ftimes245, Fentries245, Fcount245, Fend245, FlastTime245, Vp245, Vs245, Vt245, n0245, n1245, n2245, n3245, n4245, n5245, gg0245, gg1245, gg2245, gg3245⟩ (by rw [own_eq247]; exact hw246)) hZ (own_w hw 28 rfl) (own_w hw 5 rfl) (by decide) (by decide)) q259a q259c (g := (mkF m 101 (own_l179 qs p2 p3 p4 p5 qa qb qc b218 b219) [(.long (3 : Int64)), (.long qa), (.ref b219)])) rfl (by rw [hml]; rfl) (Steps.refl _) (argsL := [(.long qa), (.long (3 : Int64))]) (rest := []) (lenOf own_pd2 rfl) rfl (by show 2 * 0 + _ ≤ _; exact Nat.le_of_eq rfl) (hb hby at_101) (fun _ _ => ⟨rfl, rfl, (by decide : 5 + 0 ≤ _), (by decide : 23 + 0 ≤ _)⟩)
          dsimp only [Pt.U, Pt.locs, Pt.cells, Pt.slots] at X259 l259 y259 z259 st259 hQ259
          replace y259 : _ = 5 := y259
          replace z259 : _ = 23 := z259
          subst y259 z259
          obtain ⟨rfl, Nq259, Kq259, B259⟩ := hQ259
          have N259 := own_frl l259 N245 Nq259
          refine own_pre (fun t k => st259.trans k) ?_
          have V218_259 := V218_245.keep Kq259 (ninS ne_b218_b219 (ninS ne_b218_ap220 (ninS ne_b218_ar220 (ninS ne_b218_at220 nin0))))
          have Zs259 : n0 ≤ T259.heap.size := Nat.le_trans Zs245 Kq259.1
          have Kc259 : Keep h0 T259.heap [] := Kc245.trans Kq259 (allS (Or.inr sz_b219) (allS (Or.inr sz_ap220) (allS (Or.inr sz_ar220) (allS (Or.inr sz_at220) all0))))
          obtain ⟨Ea259, Fplaces259, Fstarts259, Ftimes259, Fentries259, Fcount259, Fend259, FlastTime259, Vp259, Vs259, Vt259, n0259, n1259, n2259, n3259, n4259, n5259, gg0259, gg1259, gg2259, gg3259⟩ := B259
          rw [show ((3 : Int32) + (1 : Int32)) = (4 : Int32) from by decide] at Fcount259
          refine own_pre (A := (T259.setTop (mkF m 218 (own_l200 qs p2 p3 p4 p5 qa qb qc b218 b219) []))) ?_ ?_
          · intro t k
            refine XS.lload X259.here hx rfl (hb hby at_104) rfl ?_
            refine XS.lstore X259.here hx rfl (hb hby at_106) rfl (l' := (own_l180 qs p2 p3 p4 p5 qa qb qc b218 b219)) rfl ?_
            refine XS.lload X259.here hx rfl (hb hby at_108) rfl ?_
            refine XS.lload X259.here hx rfl (hb hby at_110) rfl ?_
            refine XS.ladd X259.here hx rfl (hb hby at_112) rfl ?_
            refine XS.lstore X259.here hx rfl (hb hby at_113) rfl (l' := (own_l181 qs p2 p3 p4 p5 qa qb qc b218 b219)) rfl ?_
            refine XS.lload X259.here hx rfl (hb hby at_115) rfl ?_
            refine XS.lload X259.here hx rfl (hb hby at_117) rfl ?_
            refine XS.ladd X259.here hx rfl (hb hby at_119) rfl ?_
            refine XS.lload X259.here hx rfl (hb hby at_120) rfl ?_
            refine XS.ladd X259.here hx rfl (hb hby at_122) rfl ?_
            refine XS.lstore X259.here hx rfl (hb hby at_123) rfl (l' := (own_l182 qs p2 p3 p4 p5 qa qb qc b218 b219)) rfl ?_
            refine XS.lconst X259.here hx rfl (hb hby at_125) ?_
            refine XS.lstore X259.here hx rfl (hb hby at_126) rfl (l' := (own_l183 qs p2 p3 p4 p5 qa qb qc b218 b219)) rfl ?_
            refine XS.iload X259.here hx rfl (hb hby at_128) rfl ?_
            refine XS.iconst X259.here hx rfl (hb hby at_130) ?_
            refine XS.icmpNo X259.here hx rfl (hb hby at_131) rfl (tlt (by decide : (1 : Int32) < (4 : Int32))).2.2.2 ?_
            refine XS.lload X259.here hx rfl (hb hby at_134) rfl ?_
            refine XS.lload X259.here hx rfl (hb hby at_136) rfl ?_
            refine XS.lsub X259.here hx rfl (hb hby at_138) rfl ?_
            refine XS.lload X259.here hx rfl (hb hby at_139) rfl ?_
            refine XS.lcmp X259.here hx rfl (hb hby at_141) rfl ?_
            refine XS.ifNo X259.here hx rfl (hb hby at_142) rfl ((if0 _ _).trans (flt (fun q => hw222 ((lw_lt (qa - (0 : Int64)) (65536 : Int64)).mp q))).1) ?_
            refine XS.iconst X259.here hx rfl (hb hby at_145) ?_
            refine XS.goto X259.here hx rfl (pc0 := 146) (pc' := 150) rfl (hb hby at_146) (by decide) (by decide) ?_
            refine XS.istore X259.here hx rfl (hb hby at_150) rfl (l' := (own_l192 qs p2 p3 p4 p5 qa qb qc b218 b219)) rfl ?_
            refine XS.iload X259.here hx rfl (hb hby at_152) rfl ?_
            refine XS.ifNo X259.here hx rfl (hb hby at_154) rfl ((if0 _ _).trans (feq (by decide : ¬ ((1 : Int32) = (0 : Int32)))).1) ?_
            refine XS.lload X259.here hx rfl (hb hby at_157) rfl ?_
            refine XS.lstore X259.here hx rfl (hb hby at_159) rfl (l' := (own_l193 qs p2 p3 p4 p5 qa qb qc b218 b219)) rfl ?_
            refine XS.iload X259.here hx rfl (hb hby at_161) rfl ?_
            refine XS.iconst X259.here hx rfl (hb hby at_163) ?_
            refine XS.icmpNo X259.here hx rfl (hb hby at_164) rfl (tlt (by decide : (2 : Int32) < (4 : Int32))).2.2.2 ?_
            refine XS.lload X259.here hx rfl (hb hby at_167) rfl ?_
            refine XS.lload X259.here hx rfl (hb hby at_169) rfl ?_
            refine XS.lsub X259.here hx rfl (hb hby at_171) rfl ?_
            refine XS.lload X259.here hx rfl (hb hby at_172) rfl ?_
            refine XS.lcmp X259.here hx rfl (hb hby at_174) rfl ?_
            refine XS.ifNo X259.here hx rfl (hb hby at_175) rfl ((if0 _ _).trans (flt (fun q => hw238 ((lw_lt ((qa + qb) - qa) (65536 : Int64)).mp q))).1) ?_
            refine XS.iconst X259.here hx rfl (hb hby at_178) ?_
            refine XS.goto X259.here hx rfl (pc0 := 179) (pc' := 183) rfl (hb hby at_179) (by decide) (by decide) ?_
            refine XS.istore X259.here hx rfl (hb hby at_183) rfl (l' := (own_l197 qs p2 p3 p4 p5 qa qb qc b218 b219)) rfl ?_
            refine XS.iload X259.here hx rfl (hb hby at_185) rfl ?_
            refine XS.ifNo X259.here hx rfl (hb hby at_187) rfl ((if0 _ _).trans (feq (by decide : ¬ ((1 : Int32) = (0 : Int32)))).1) ?_
            refine XS.lload X259.here hx rfl (hb hby at_190) rfl ?_
            refine XS.lstore X259.here hx rfl (hb hby at_192) rfl (l' := (own_l198 qs p2 p3 p4 p5 qa qb qc b218 b219)) rfl ?_
            refine XS.iload X259.here hx rfl (hb hby at_194) rfl ?_
            refine XS.iconst X259.here hx rfl (hb hby at_196) ?_
            refine XS.icmpNo X259.here hx rfl (hb hby at_197) rfl (tlt (by decide : (3 : Int32) < (4 : Int32))).2.2.2 ?_
            refine XS.lload X259.here hx rfl (hb hby at_200) rfl ?_
            refine XS.lload X259.here hx rfl (hb hby at_202) rfl ?_
            refine XS.lsub X259.here hx rfl (hb hby at_204) rfl ?_
            refine XS.lload X259.here hx rfl (hb hby at_205) rfl ?_
            refine XS.lcmp X259.here hx rfl (hb hby at_207) rfl ?_
            refine XS.ifNo X259.here hx rfl (hb hby at_208) rfl ((if0 _ _).trans (flt (fun q => hw246 ((lw_lt (((qa + qb) + qc) - (qa + qb)) (65536 : Int64)).mp q))).1) ?_
            refine XS.iconst X259.here hx rfl (hb hby at_211) ?_
            refine XS.goto X259.here hx rfl (pc0 := 212) (pc' := 216) rfl (hb hby at_212) (by decide) (by decide) ?_
            refine XS.istore X259.here hx rfl (hb hby at_216) rfl (l' := (own_l200 qs p2 p3 p4 p5 qa qb qc b218 b219)) rfl ?_
            exact k
          exact own_suf_111 (h0 := h0) (n0 := n0) X259 hx hZ hw hby hml hown Bd.returns Bd.notSynchronized rfl N259 Zs259 Kc259 Ea259 Fentries259 Fcount259 Fend259 Fplaces259 Vp259 V218_259 ne_b218_b219.symm ne_b218_ap220.symm gn_b218 sz_b218
set_option maxRecDepth 65536 in
set_option maxHeartbeats 40000000 in
theorem comes_1 {Post : Tables → Env → Array Value → State → Outcome → State → Prop} (hpost : ∀ tb e args s v u, (limb_1_1.after args s (.returned v) u = true ∧ limb_1_2.after args s (.returned v) u = true ∧ True) → FrameEnd s (.returned v) u (Jvm.fieldLocs frame_1_writes args s ++ Jvm.arrayLocs frame_1_arrays args s ++ Jvm.staticLocs frame_1_statics s) 24 128 → Post tb e args s (.returned v) u) :
    ArmFor flags0 classFile x code maxLocals ret World_1 tables_1 room_1 Calls_1 rest_1 Pre_1 Post := by
  intro l hfl _ _ p e ha hc hk s m args below hf hA hF happ hP
  obtain ⟨hcalls, hrest, hpre⟩ := hP
  obtain ⟨-, -, -, hnamed, -, -, -, hat⟩ := (Spec.applies_iff hf).mp happ
  obtain ⟨hg, hn⟩ := and_e (Cond.before_iff.mp (show (Jvm.Cond.and given_1 narrow_1).before args s = true from hpre))
  obtain ⟨gg1, gg2⟩ := and_e hg
  obtain ⟨gg3, gg4⟩ := and_e gg2
  obtain ⟨gg5, gg6⟩ := and_e gg4
  obtain ⟨gg7, gg8⟩ := and_e gg6
  obtain ⟨gg9, gg10⟩ := and_e gg8
  obtain ⟨w0, w1, w2, w3, w4, rfl⟩ : ∃ w0 w1 w2 w3 w4 : Value, args = #[w0, w1, w2, w3, w4] := by
    have hs : args.size = 5 := by simpa [Cond.value, given_1] using gg1
    obtain ⟨L⟩ := args
    match L, hs with
    | [w0, w1, w2, w3, w4], _ => exact ⟨w0, w1, w2, w3, w4, rfl⟩
  have hw := fun d (hd : d ∈ tables_1) => atoms_spec (ws := Jvm.Cond.code x code maxLocals ret :: tables_1) hat d (List.mem_cons_of_mem _ hd)
  obtain ⟨i0, ei0⟩ := isL_v gg3
  obtain rfl : w0 = (.long i0) := Option.some.inj ei0
  obtain ⟨i1, ei1⟩ := is_v gg5
  obtain rfl : w1 = (.int i1) := Option.some.inj ei1
  obtain ⟨i2, ei2⟩ := is_v gg7
  obtain rfl : w2 = (.int i2) := Option.some.inj ei2
  obtain ⟨i3, ei3⟩ := is_v gg9
  obtain rfl : w3 = (.int i3) := Option.some.inj ei3
  obtain ⟨i4, ei4⟩ := is_v gg10
  obtain rfl : w4 = (.int i4) := Option.some.inj ei4
  obtain ⟨n, o, h1, h2, h3, _, L, rfl, ⟨rfl, N⟩, hq⟩ := rm0 l s _ hw tables_1 i0 i1 i2 i3 i4 s.heap s.heap.size (Nat.le_refl _) p e ha hc hk s m _ below hf ((Spec.applies_iff_loose hf).mp happ).1 ⟨rfl, State.Warmed39.refl s, rfl⟩ trivial
  refine ⟨n, _, h1, h2, h3, hpost _ _ _ _ _ _ ⟨Cond.after_iff.mpr rfl, Cond.after_iff.mpr (eq_i res_at (Term.int_eval (1)) rfl), trivial⟩ ⟨hq.1, hq.2.1, (hq.2.2.sift fun y hy => Or.inr (N y hy)).mono (by decide) (by decide)⟩⟩
theorem main_1_1 : Claimed_1_1 := comes_1 fun _ _ _ _ _ _ h hF => ⟨h.1, hF⟩
theorem main_1_2 : Claimed_1_2 := comes_1 fun _ _ _ _ _ _ h hF => ⟨h.2.1, hF⟩
end Jvm.Pilot.@@N@@
namespace Jvm.Pilot.@@N@@
open Jvm Jvm.ClassFile Sem Op Lib Jvm.Free Jvm.Stand Jvm.Pilot.@@N@@.Jvm.D
/-! MADE BY PROGRAM (witnessworld.py) out of the Statement's table words and the real class files: 11 classes; the members and pool entries that the words name. The judged class is class 1, her method 1. -/
namespace start1
open Jvm.ClassFile
def u (s : String) : CpInfo := .utf8 (stringToUtf16 s)
/-- a pool by its gaps: so many unusable entries, then the entry; so many at the end -/
def gap : Nat → List CpInfo → List CpInfo
  | 0, r => r
  | n + 1, r => .unusable :: gap n r
def poolList (es : List (Nat × CpInfo)) (last : Nat) : List CpInfo := es.foldr (fun e r => gap e.1 (e.2 :: r)) (gap last [])
def pool (es : List (Nat × CpInfo)) (last : Nat) : Array CpInfo := ⟨poolList es last⟩
def fileOf (pool : Array CpInfo) (this : Nat) (attrs : Array Attribute := #[]) (ms : Array MethodInfo := #[]) (fl : Nat := 33) (sup : Nat := 0) (ifs : Array Nat := #[]) (fds : Array FieldInfo := #[]) : ClassFile where
  minorVersion := 0
  majorVersion := 65
  constantPool := pool
  accessFlags := fl
  thisClass := this
  superClass := sup
  interfaces := ifs
  fields := fds
  methods := ms
  attributes := attrs
def plain (name : String) (sup : Option ClassId) : Class where
  name := name
  kind := .ordinary
  loader := none
  accessFlags := 33
  super := sup
  interfaces := #[]
  cf := none
  fields := #[]
  methods := #[]
  instanceTypes := #[]
  staticTypes := #[]
  resolved := #[]
  callSites := []
  init := .initialized
  statics := none
  mirror := none

def pool0 : Array CpInfo := pool [(5, u "<init>"), (0, u "()V"), (1, .class_ 10), (1, u "java/lang/Object")] 113

def k0c0 : Code := { maxStack := 0, maxLocals := 1, code := object_method_1_code, exceptionTable := #[], attributes := #[] }
def k0m0 : Method := { name := "<init>", desc := "()V", sig := { parameters := [], returnType := none }, accessFlags := 1, code := some k0c0 }
/-- java/lang/Object -/
def k0 : Class := { plain "java/lang/Object" none with
  accessFlags := 33
  interfaces := #[]
  cf := some (fileOf pool0 8 #[] #[{ accessFlags := 1, nameIndex := 5, descriptorIndex := 6, attributes := #[] }] 33 0 #[] #[])
  fields := #[]
  methods := #[k0m0]
  instanceTypes := #[]
  staticTypes := #[]
  resolved := Array.replicate 124 none
  statics := none }

def pool1 : Array CpInfo := pool [(2, .class_ 4), (1, u "java/lang/Object"), (0, u "<init>"), (0, u "()V"), (0, .integer 131071), (0, .long 65536), (1, .class_ 11), (0, u "com/example/coho/coho/eventlog/SegmentIndex"), (0, .methodref 10 13), (0, .nameAndType 5 14), (0, u "(J)V"), (0, .methodref 10 16), (0, .nameAndType 17 18), (0, u "add"), (0, u "(JJ)V"), (0, .long 2), (1, .long 3), (1, .methodref 10 24), (0, .nameAndType 25 26), (0, u "placeAfter"), (0, u "(I)J"), (0, .class_ 28), (0, u "com/example/coho/coho/eventlog/SegmentIndexPlaceAfterPinLaw"), (2, u "law"), (0, u "(JIIII)Z")] 5

def k1m0 : Method := { name := "<init>", desc := "()V", sig := { parameters := [], returnType := none }, accessFlags := 1, code := none }
def k1c1 : Code := { maxStack := 5, maxLocals := 33, code := code, exceptionTable := #[], attributes := #[] }
def k1m1 : Method := { name := "law", desc := "(JIIII)Z", sig := { parameters := [.long, .int, .int, .int, .int], returnType := some .boolean }, accessFlags := 9, code := some k1c1 }
/-- com/example/coho/coho/eventlog/SegmentIndexPlaceAfterPinLaw -/
def k1 : Class := { plain "com/example/coho/coho/eventlog/SegmentIndexPlaceAfterPinLaw" (some 0) with
  accessFlags := 49
  interfaces := #[]
  cf := some (fileOf pool1 27 #[] #[{ accessFlags := 1, nameIndex := 5, descriptorIndex := 6, attributes := #[] }, { accessFlags := 9, nameIndex := 31, descriptorIndex := 32, attributes := #[] }] 49 2 #[] #[])
  fields := #[]
  methods := #[k1m0, k1m1]
  instanceTypes := #[]
  staticTypes := #[]
  resolved := Array.replicate 38 none
  statics := none }

def pool2 : Array CpInfo := pool [(1, .methodref 2 3), (0, .class_ 4), (0, .nameAndType 5 6), (0, u "java/lang/Object"), (0, u "<init>"), (0, u "()V"), (0, .fieldref 8 9), (0, .class_ 10), (0, .nameAndType 11 12), (0, u "com/example/coho/coho/eventlog/SegmentIndex"), (0, u "places"), (0, u "[I"), (0, .fieldref 8 14), (0, .nameAndType 15 16), (0, u "starts"), (0, u "[J"), (0, .fieldref 8 18), (0, .nameAndType 19 16), (0, u "times"), (2, .long 9223372036854775808), (1, .fieldref 8 25), (0, .nameAndType 26 27), (0, u "lastTime"), (0, u "J"), (0, .fieldref 8 29), (0, .nameAndType 30 27), (0, u "end"), (0, .fieldref 8 32), (0, .nameAndType 33 34), (0, u "entries"), (0, u "I"), (0, .long 65536), (5, .fieldref 8 42), (0, .nameAndType 43 34), (0, u "count"), (20, u "STRIDE"), (2, u "(J)V"), (2, u "add"), (0, u "(JJ)V"), (7, u "(I)J"), (2, u "placeAfter")] 30

def k2c0 : Code := { maxStack := 3, maxLocals := 3, code := prog_34_method_1_code, exceptionTable := #[], attributes := #[] }
def k2m0 : Method := { name := "<init>", desc := "(J)V", sig := { parameters := [.long], returnType := none }, accessFlags := 0, code := some k2c0 }
def k2c1 : Code := { maxStack := 5, maxLocals := 5, code := prog_34_method_2_code, exceptionTable := #[], attributes := #[] }
def k2m1 : Method := { name := "add", desc := "(JJ)V", sig := { parameters := [.long, .long], returnType := none }, accessFlags := 0, code := some k2c1 }
def k2c2 : Code := { maxStack := 3, maxLocals := 2, code := prog_34_method_9_code, exceptionTable := #[], attributes := #[] }
def k2m2 : Method := { name := "placeAfter", desc := "(I)J", sig := { parameters := [.int], returnType := some .long }, accessFlags := 0, code := some k2c2 }
/-- com/example/coho/coho/eventlog/SegmentIndex -/
def k2 : Class := { plain "com/example/coho/coho/eventlog/SegmentIndex" (some 0) with
  accessFlags := 32
  interfaces := #[]
  cf := some (fileOf pool2 8 #[] #[{ accessFlags := 0, nameIndex := 5, descriptorIndex := 67, attributes := #[] }, { accessFlags := 0, nameIndex := 70, descriptorIndex := 71, attributes := #[] }, { accessFlags := 0, nameIndex := 82, descriptorIndex := 79, attributes := #[] }] 32 2 #[] #[{ accessFlags := 24, nameIndex := 64, descriptorIndex := 34, attributes := #[] }, { accessFlags := 2, nameIndex := 11, descriptorIndex := 12, attributes := #[] }, { accessFlags := 2, nameIndex := 15, descriptorIndex := 16, attributes := #[] }, { accessFlags := 2, nameIndex := 19, descriptorIndex := 16, attributes := #[] }, { accessFlags := 2, nameIndex := 33, descriptorIndex := 34, attributes := #[] }, { accessFlags := 2, nameIndex := 43, descriptorIndex := 34, attributes := #[] }, { accessFlags := 2, nameIndex := 30, descriptorIndex := 27, attributes := #[] }, { accessFlags := 2, nameIndex := 26, descriptorIndex := 27, attributes := #[] }])
  fields := #[{ name := "STRIDE", type := .int, accessFlags := 24, slot := 0, constantValue := 0 }, { name := "places", type := (.array .int), accessFlags := 2, slot := 0, constantValue := 0 }, { name := "starts", type := (.array .long), accessFlags := 2, slot := 1, constantValue := 0 }, { name := "times", type := (.array .long), accessFlags := 2, slot := 2, constantValue := 0 }, { name := "entries", type := .int, accessFlags := 2, slot := 3, constantValue := 0 }, { name := "count", type := .int, accessFlags := 2, slot := 4, constantValue := 0 }, { name := "end", type := .long, accessFlags := 2, slot := 5, constantValue := 0 }, { name := "lastTime", type := .long, accessFlags := 2, slot := 6, constantValue := 0 }]
  methods := #[k2m0, k2m1, k2m2]
  instanceTypes := #[(.array .int), (.array .long), (.array .long), .int, .int, .long, .long]
  staticTypes := #[.int]
  resolved := Array.replicate 113 none
  statics := none }

def pool3 : Array CpInfo := pool [(1, u "java/lang/Cloneable"), (0, .class_ 1), (0, u "java/lang/Object"), (0, .class_ 3)] 3

/-- java/lang/Cloneable -/
def k3 : Class := { plain "java/lang/Cloneable" (some 0) with
  accessFlags := 1537
  interfaces := #[]
  cf := some (fileOf pool3 2 #[] #[] 1537 4 #[] #[])
  fields := #[]
  methods := #[]
  instanceTypes := #[]
  staticTypes := #[]
  resolved := Array.replicate 8 none
  statics := none }

def pool4 : Array CpInfo := pool [(1, u "java/io/Serializable"), (0, .class_ 1), (0, u "java/lang/Object"), (0, .class_ 3)] 3

/-- java/io/Serializable -/
def k4 : Class := { plain "java/io/Serializable" (some 0) with
  accessFlags := 1537
  interfaces := #[]
  cf := some (fileOf pool4 2 #[] #[] 1537 4 #[] #[])
  fields := #[]
  methods := #[]
  instanceTypes := #[]
  staticTypes := #[]
  resolved := Array.replicate 8 none
  statics := none }

/-- the primitive byte -/
def k5 : Class := { plain "byte" none with kind := .primitive 'B', accessFlags := 0x411 }
/-- [B -/
def k6 : Class := { plain "[B" (some 0) with kind := .array 5 .byte, interfaces := #[3, 4], accessFlags := 1041 }

/-- the primitive int -/
def k7 : Class := { plain "int" none with kind := .primitive 'I', accessFlags := 0x411 }
/-- [I -/
def k8 : Class := { plain "[I" (some 0) with kind := .array 7 .int, interfaces := #[3, 4], accessFlags := 1041 }

/-- the primitive long -/
def k9 : Class := { plain "long" none with kind := .primitive 'J', accessFlags := 0x411 }
/-- [J -/
def k10 : Class := { plain "[J" (some 0) with kind := .array 9 .long, interfaces := #[3, 4], accessFlags := 1041 }

def heap : Heap := #[]
def classes : Array Class := #[k0, k1, k2, k3, k4, k5, k6, k7, k8, k9, k10]
def interned : List (Array UInt16 × Addr) := []
def slotsUsed : Nat := 0
def theMethod : MethodId := ⟨1, 1⟩
def args0 : Array Value := #[.long 5, .int 7, .int 9, .int 3, .int 4]
def aboutOver (below : List Frame) : State where
  vm := { classes := classes, interned := interned.toArray }
  heap := heap
  slotsUsed := slotsUsed
  threads := #[{ frames := .invoking theMethod args0 :: below }]
def below0 : List Frame := [.native { method := ⟨0, 0⟩, args := #[] }]
def about1 : State := aboutOver below0
def p0 : Program := .bare "" "" ""
def e0 : Env := launch0.env 0 0 0
theorem w_frames : about1.frames = Frame.invoking theMethod args0 :: below0 := rfl
set_option maxRecDepth 65536 in
theorem w_args : argsFit about1.vm theMethod args0 = true := by decide +kernel
set_option maxRecDepth 65536 in
theorem w_heap : heapFits about1 = true := by decide +kernel
set_option maxRecDepth 65536 in
theorem w_runnable : about1.curStatus? = some .runnable := by decide +kernel
set_option maxRecDepth 65536 in
theorem w_alone : about1.alone = true := by decide +kernel
set_option maxRecDepth 65536 in
theorem w_named : about1.methodNamed? x = some theMethod := by decide +kernel
set_option maxRecDepth 65536 in
theorem w_hears : about1.hears theMethod below0 = true := by decide +kernel
set_option maxRecDepth 65536 in
theorem w_ripe : about1.ripe theMethod args0 below0 = true := by decide +kernel
theorem w_running : about1.status = .running := rfl
set_option maxRecDepth 65536 in
theorem w_room : about1.hasRoom e0.platform room_1 = true :=
  launch0.hasRoom_least _ room_1 (by decide +kernel) (by decide +kernel) (by decide +kernel) (by decide +kernel) (by decide +kernel) (by decide +kernel)
theorem allAtoms_all (ts : List Jvm.Cond) (a : Array Jvm.Value) (st : Jvm.State) : (allAtoms ts).before a st = ts.all (fun c => c.before a st) := by
  induction ts with
  | nil => rfl
  | cons c t ih =>
    show (Jvm.Cond.and c (allAtoms t)).before a st = _
    rw [Jvm.Cond.before_and, ih, List.all_cons]
def words1 : List Jvm.Cond := Jvm.Cond.code x code maxLocals ret :: tables_1
/-- a 'code' word, met by the world's own term for the bytes: nothing is compared byte by byte -/
theorem code_word {y : MethodName} {bytes : ByteArray} {mx : Nat} {rt : Option FieldType} {a : Array Value} {s : State} {m : MethodId} {meth : Method} {c : Code} (h1 : s.methodNamed? y = some m) (h2 : s.vm.method? m = some meth) (h3 : meth.code = some c) (h4 : c.code = bytes)
    (h5 : (c.maxLocals == mx && c.exceptionTable.isEmpty && decide (c.maxStack ≤ mostOperands) && decide (meth.sig.returnType = rt) && !meth.locks && decide (parseMethodDescriptor y.desc = some meth.sig)) = true) : (Jvm.Cond.code y bytes mx rt).before a s = true := by
  simp only [Bool.and_eq_true, beq_iff_eq, Bool.not_eq_true', decide_eq_true_eq] at h5
  obtain ⟨⟨⟨⟨⟨g1, g2⟩, g3⟩, g4⟩, g5⟩, g6⟩ := h5
  simp [Cond.before, Cond.holds, Cond.value, h1, h2, h3, h4, g1, g2, g3, g4, g5, g6]
def isCode : Jvm.Cond → Bool
  | .code _ _ _ _ => true
  | _ => false
theorem all_split {L : List Jvm.Cond} {P : Jvm.Cond → Bool} (h1 : L.all (fun c => isCode c || P c) = true) (h2 : ∀ c ∈ L.filter isCode, P c = true) : L.all P = true := by
  refine List.all_eq_true.mpr fun c hc => ?_
  have h := List.all_eq_true.mp h1 c hc
  rcases Bool.eq_false_or_eq_true (isCode c) with hi | hi
  · exact h2 c (List.mem_filter.mpr ⟨hc, hi⟩)
  · simpa [hi] using h
set_option maxRecDepth 65536 in
theorem w_c0 : (Jvm.Cond.code x code maxLocals ret).before args0 about1 = true := code_word (m := ⟨1, 1⟩) (meth := k1m1) (c := k1c1) (by decide +kernel) rfl rfl rfl (by decide +kernel)
set_option maxRecDepth 65536 in
theorem w_c1 : (Jvm.Cond.code ({ cls := "com/example/coho/coho/eventlog/SegmentIndex", name := "<init>", desc := "(J)V" } : Jvm.MethodName) prog_34_method_1_code (3 : Nat) (Option.none : Option Jvm.ClassFile.FieldType)).before args0 about1 = true := code_word (m := ⟨2, 0⟩) (meth := k2m0) (c := k2c0) (by decide +kernel) rfl rfl rfl (by decide +kernel)
set_option maxRecDepth 65536 in
theorem w_c2 : (Jvm.Cond.code ({ cls := "java/lang/Object", name := "<init>", desc := "()V" } : Jvm.MethodName) object_method_1_code (1 : Nat) (Option.none : Option Jvm.ClassFile.FieldType)).before args0 about1 = true := code_word (m := ⟨0, 0⟩) (meth := k0m0) (c := k0c0) (by decide +kernel) rfl rfl rfl (by decide +kernel)
set_option maxRecDepth 65536 in
theorem w_c3 : (Jvm.Cond.code ({ cls := "com/example/coho/coho/eventlog/SegmentIndex", name := "add", desc := "(JJ)V" } : Jvm.MethodName) prog_34_method_2_code (5 : Nat) (Option.none : Option Jvm.ClassFile.FieldType)).before args0 about1 = true := code_word (m := ⟨2, 1⟩) (meth := k2m1) (c := k2c1) (by decide +kernel) rfl rfl rfl (by decide +kernel)
set_option maxRecDepth 65536 in
theorem w_c4 : (Jvm.Cond.code ({ cls := "com/example/coho/coho/eventlog/SegmentIndex", name := "placeAfter", desc := "(I)J" } : Jvm.MethodName) prog_34_method_9_code (2 : Nat) (Option.some Jvm.ClassFile.FieldType.long)).before args0 about1 = true := code_word (m := ⟨2, 2⟩) (meth := k2m2) (c := k2c2) (by decide +kernel) rfl rfl rfl (by decide +kernel)
def codes1 : List Jvm.Cond := [Jvm.Cond.code x code maxLocals ret, Jvm.Cond.code ({ cls := "com/example/coho/coho/eventlog/SegmentIndex", name := "<init>", desc := "(J)V" } : Jvm.MethodName) prog_34_method_1_code (3 : Nat) (Option.none : Option Jvm.ClassFile.FieldType), Jvm.Cond.code ({ cls := "java/lang/Object", name := "<init>", desc := "()V" } : Jvm.MethodName) object_method_1_code (1 : Nat) (Option.none : Option Jvm.ClassFile.FieldType), Jvm.Cond.code ({ cls := "com/example/coho/coho/eventlog/SegmentIndex", name := "add", desc := "(JJ)V" } : Jvm.MethodName) prog_34_method_2_code (5 : Nat) (Option.none : Option Jvm.ClassFile.FieldType), Jvm.Cond.code ({ cls := "com/example/coho/coho/eventlog/SegmentIndex", name := "placeAfter", desc := "(I)J" } : Jvm.MethodName) prog_34_method_9_code (2 : Nat) (Option.some Jvm.ClassFile.FieldType.long)]
set_option maxRecDepth 65536 in
theorem codes_eq : words1.filter isCode = codes1 := rfl
theorem w_codes : ∀ c ∈ words1.filter isCode, c.before args0 about1 = true := by
  rw [codes_eq]
  intro c hc
  simp only [codes1, List.mem_cons, List.not_mem_nil, or_false] at hc
  rcases hc with rfl | rfl | rfl | rfl | rfl
  · exact w_c0
  · exact w_c1
  · exact w_c2
  · exact w_c3
  · exact w_c4
set_option maxRecDepth 65536 in
theorem w_t1 : (words1.take 24).all (fun c => isCode c || c.before args0 about1) = true := by decide +kernel
set_option maxRecDepth 65536 in
theorem w_t2 : (words1.drop 24).all (fun c => isCode c || c.before args0 about1) = true := by decide +kernel
theorem w_tables : (allAtoms (Jvm.Cond.code x code maxLocals ret :: tables_1)).before args0 about1 = true := by
  rw [allAtoms_all]
  show words1.all (fun c => c.before args0 about1) = true
  refine all_split ?_ w_codes
  rw [← List.take_append_drop 24 words1, List.all_append, w_t1, w_t2]
  rfl
set_option maxRecDepth 65536 in
theorem w_case : (Jvm.Cond.and given_1 narrow_1).before args0 about1 = true := by decide +kernel
theorem w_applies : (headSpec (Jvm.Cond.code x code maxLocals ret :: tables_1) room_1).applies x e0.platform about1 = true :=
  (Spec.applies_iff w_frames).mpr ⟨w_running, w_runnable, w_alone, w_named, w_hears, w_ripe, w_room, w_tables⟩
theorem atStart : AtStart classFile x code maxLocals ret World_1 tables_1 room_1 Calls_1 rest_1 Pre_1 launch0 p0 e0 about1 theMethod args0 below0 :=
  ⟨lists_1, trivial, launch0.admits_env _ _ _, launch0.least_env, fairChoices_fair.cas, fairChoices_fair.clock, w_frames, w_args, w_heap, w_applies, trivial, trivial, w_case⟩
end start1
theorem witness_1 : WitnessClaimed_1 := ⟨start1.p0, start1.e0, start1.about1, start1.theMethod, start1.args0, start1.below0, start1.atStart⟩
end Jvm.Pilot.@@N@@
