import JvmDerived
import JvmDerived.Pilot.@@N@@Statement
import JvmDerived.Pilot.@@N@@Code
set_option linter.unusedVariables false
set_option linter.unusedSimpArgs false

namespace Jvm.Pilot.@@N@@
open Jvm Jvm.ClassFile Sem Op Lib Jvm.Free Jvm.Stand Jvm.LawKit Jvm.RoadKit Bundle Jvm.Pilot.@@N@@.Jvm.D
theorem own_pre {tb : Tables} {e : Env} {below : List Frame} {A B : State} {C : State → Outcome → Prop} (k : ∀ t, Steps tb e below A t → Steps tb e below B t) (h : ∃ s₂ o, Steps tb e below A s₂ ∧ C s₂ o) : ∃ s₂ o, Steps tb e below B s₂ ∧ C s₂ o := by
  obtain ⟨s2, o, h1, h2⟩ := h
  exact ⟨s2, o, k _ h1, h2⟩
theorem own_frl {k : Nat} {L A B : List Loc} (l : L = A ++ B) (N : Fr k A) (M : Fr k B) : Fr k L := by rw [l]; exact Fr.app N M
theorem own_lrem {p : Program} {l : Launch} {e : Env} {R : Room} {s : State} {m : MethodId} {args : Array Value} {below : List Frame} {meth : Method} {c : Code} {T : State} {locs : List Loc} {cells slots : Nat} {g : JFrame} {target : State} (X : Stand p l e R s m args below meth c T locs cells slots) (hx : p.tables.exec = Jvm.exec) (hg : g.method = m) {x y : Int64} {rest : List Value} (hd : decode c.code g.pc = .ok (.lrem, 1)) (hs : g.stack = .long y :: .long x :: rest) (hy : y ≠ 0)
    (hr : Steps p.tables e below (T.setTop { g with pc := g.pc + 1, stack := .long (x % y) :: rest }) target) : Steps p.tables e below (T.setTop g) target :=
  XS.lrem X.here hx hg hd hs hy (by rw [lrem_mod]; exact hr)
theorem own_w {wl : List Jvm.Cond} {a0 : Array Value} {Z : State} (h : ∀ d ∈ wl, d.before a0 Z = true) (i : Nat) {d : Jvm.Cond} (g : wl[i]? = some d) : d.before a0 Z = true := h d (List.mem_of_getElem? g)

theorem own_pd0 : parseMethodDescriptor "([CI[BII)I" = some ⟨[(.array .char), .int, (.array .byte), .int, .int], some .int⟩ := by decide +kernel
theorem own_pd1 : parseMethodDescriptor "([CIILjava/lang/Void;)V" = some ⟨[(.array .char), .int, .int, (.object "java/lang/Void")], none⟩ := by decide +kernel
theorem own_pd2 : parseMethodDescriptor "([CII)[B" = some ⟨[(.array .char), .int, .int], some (.array .byte)⟩ := by decide +kernel
theorem own_pd3 : parseMethodDescriptor "([BI)B" = some ⟨[(.array .byte), .int], some .byte⟩ := by decide +kernel
theorem own_pd4 : parseMethodDescriptor "()B" = some ⟨[], some .byte⟩ := by decide +kernel
theorem own_pd5 : parseMethodDescriptor "(IILjava/util/function/BiFunction;)I" = some ⟨[.int, .int, (.object "java/util/function/BiFunction")], some .int⟩ := by decide +kernel
theorem own_pd6 : parseMethodDescriptor "(II)V" = some ⟨[.int, .int], none⟩ := by decide +kernel
theorem own_pd7 : parseMethodDescriptor "()Z" = some ⟨[], some .boolean⟩ := by decide +kernel
theorem own_pd8 : parseMethodDescriptor "([BI)C" = some ⟨[(.array .byte), .int], some .char⟩ := by decide +kernel
theorem own_pd9 : parseMethodDescriptor "()I" = some ⟨[], some .int⟩ := by decide +kernel
theorem own_pd10 : parseMethodDescriptor "(I)C" = some ⟨[.int], some .char⟩ := by decide +kernel
theorem own_pd11 : parseMethodDescriptor "([C)V" = some ⟨[(.array .char)], none⟩ := by decide +kernel
theorem own_pd12 : parseMethodDescriptor "(Ljava/lang/String;Ljava/lang/String;)V" = some ⟨[(.object "java/lang/String"), (.object "java/lang/String")], none⟩ := by decide +kernel
theorem own_pd13 : parseMethodDescriptor "(C)Z" = some ⟨[.char], some .boolean⟩ := by decide +kernel
theorem own_ch_le (c : Int32) (h : 0 ≤ c.toInt ∧ c.toInt < 128) : ¬ (255 : Int32) < c := by
  rw [Int32.lt_iff_toInt_lt]; have z : (255 : Int32).toInt = 255 := by decide
  omega
theorem own_ch_b (c : Int32) (h : 0 ≤ c.toInt ∧ c.toInt < 128) : c.toInt8.toInt32 = c := by
  have h1 := c_i2b c
  apply Int32.toInt_inj.mp
  omega
theorem own_ch_nb (c : Int32) (h : 0 ≤ c.toInt ∧ c.toInt < 128) : nar .byte c = c := own_ch_b c h
theorem own_ch_c (c : Int32) (h : 0 ≤ c.toInt ∧ c.toInt < 128) : c.toUInt32.toUInt16.toUInt32.toInt32 = c := by
  have h1 := c_i2c c
  apply Int32.toInt_inj.mp
  omega
theorem own_ch_nc (c : Int32) (h : 0 ≤ c.toInt ∧ c.toInt < 128) : nar .char c = c := own_ch_c c h
theorem own_ch_ret (c : Int32) (h : 0 ≤ c.toInt ∧ c.toInt < 128) : narrow .char (.int c) = .int c := by
  show Value.int (nar .char c) = .int c
  rw [own_ch_nc c h]
theorem own_ch_m (c : Int32) (h : 0 ≤ c.toInt ∧ c.toInt < 128) : (c &&& (255 : Int32)) = c := by
  apply Int32.toInt_inj.mp
  rw [c_mask c (255 : Int32) 8 (by decide) (by decide)]
  omega
theorem own_ch_in (c : Int32) (h : 0 ≤ c.toInt ∧ c.toInt < 128) : ¬ c < 0 ∧ c < (128 : Int32) := by
  have z : (0 : Int32).toInt = 0 := by decide
  have w : (128 : Int32).toInt = 128 := by decide
  simp only [Int32.lt_iff_toInt_lt, z, w]; omega
theorem own_backS {l : Launch} {R : Room} {p : Program} {e : Env} {below : List Frame} {s Z : State} {vm0 : Vm} {args a0 : Array Value} {h : Heap} {EL : List (String × Nat)} {ax : Addr} {y : MethodName} {bytes : ByteArray} {maxL : Nat} {ret : Option FieldType} {rm : Room} {len W : Nat} {as' : Array Value} {Q : Option Value → Heap → List Loc → Prop}
    (hM : MetFree l y (head1 [Cond.code y bytes maxL ret] rm) (fun a U => a = as' ∧ Z.Warmed39 U.vm ∧ U.heap = h ∧ CHv Z EL U.vm h ∧ Safe Z EL U.vm h ax) (fun _ _ _ _ _ => True) (fun _ U o U' => ∃ v L, o = .returned v ∧ Q v U'.heap L ∧ ReturnedEndW U o U' L rm.cells rm.slots))
    (hZ : Z.Warmed39 vm0) (wc : (Cond.code y bytes maxL ret).before a0 Z = true) (wz : (Cond.initialized y.cls).before a0 Z = true) (hf : rm.frames + 1 ≤ R.frames) (hl : W + (maxL + 11) + rm.locals ≤ R.locals) (hEL : EW Z a0 EL) (H : CHv Z EL vm0 h) (S : Safe Z EL vm0 h ax) (hax : ax < h.size) :
    BackS l R p e below (s.setVm vm0) args y len W (fun A a => a = as' ∧ A.U.heap = h ∧ A.cells + rm.cells ≤ R.cells ∧ A.slots + rm.slots ≤ R.slots)
      (fun A _ v B => ∃ L, Q v B.U.heap L ∧ B.locs = A.locs ++ L ∧ B.cells = A.cells + rm.cells ∧ B.slots = A.slots + rm.slots) := by
  refine BackS.of_freeW (bytes := bytes) (maxL := maxL) (ret := ret) (E := fun _ _ o t L k n => k = rm.cells ∧ n = rm.slots ∧ ∃ v, o = .returned v ∧ Q v t.heap L) hM hf hl ?_ ?_ (fun _ _ _ _ _ _ _ _ _ => trivial) ?_ ?_
  · intro m meth c A a Y hp
    have hU : Z.Warmed39 A.U.vm := wtrans (s := s.setVm vm0) hZ Y.warmed
    exact ⟨by show (Cond.and _ .tt).before a A.U = true; rw [Cond.before_and, mv hU wc]; rfl, mv hU wc, mv hU wz, hp.2.2.1, hp.2.2.2⟩
  · intro m meth c A a g mk Y hp
    have q := CHv.at Y hZ hEL H
    exact ⟨hp.1, wtrans (s := s.setVm vm0) hZ Y.warmed, hp.2.1, q.1, q.safe hax S⟩
  · rintro _ _ _ _ ⟨v, L, h1, h2, h3⟩
    exact ⟨L, _, _, h3, rfl, rfl, v, h1, h2⟩
  · rintro m meth c A a g mk v t L k n Y hp _ _ ⟨e1, e2, v', e3, e4⟩
    cases e3; subst e1 e2
    exact ⟨L, e4, rfl, rfl, rfl⟩
def own_EL : List (String × Nat) := [("java/lang/String", 7)]
theorem own_wS : ∀ d ∈ Bundle.stringAtoms, d ∈ tables_1 := by decide +kernel
theorem d5_0 : decode jdk_52_method_21_code 0 = .ok (.iconst 0, 1) := by decide +kernel
theorem d5_1 : decode jdk_52_method_21_code 1 = .ok (.istore 5, 2) := by decide +kernel
theorem d5_3 : decode jdk_52_method_21_code 3 = .ok (.iload 5, 2) := by decide +kernel
theorem d5_5 : decode jdk_52_method_21_code 5 = .ok (.iload 4, 2) := by decide +kernel
theorem d5_7 : decode jdk_52_method_21_code 7 = .ok (.if_icmp .ge 37, 3) := by decide +kernel
theorem d5_10 : decode jdk_52_method_21_code 10 = .ok (.aload_n 0, 1) := by decide +kernel
theorem d5_11 : decode jdk_52_method_21_code 11 = .ok (.iload_n 1, 1) := by decide +kernel
theorem d5_12 : decode jdk_52_method_21_code 12 = .ok (.caload, 1) := by decide +kernel
theorem d5_13 : decode jdk_52_method_21_code 13 = .ok (.istore 6, 2) := by decide +kernel
theorem d5_15 : decode jdk_52_method_21_code 15 = .ok (.iload 6, 2) := by decide +kernel
theorem d5_17 : decode jdk_52_method_21_code 17 = .ok (.sipush 255, 3) := by decide +kernel
theorem d5_20 : decode jdk_52_method_21_code 20 = .ok (.if_icmp .le 6, 3) := by decide +kernel
theorem d5_26 : decode jdk_52_method_21_code 26 = .ok (.aload_n 2, 1) := by decide +kernel
theorem d5_27 : decode jdk_52_method_21_code 27 = .ok (.iload_n 3, 1) := by decide +kernel
theorem d5_28 : decode jdk_52_method_21_code 28 = .ok (.iload 6, 2) := by decide +kernel
theorem d5_30 : decode jdk_52_method_21_code 30 = .ok (.i2b, 1) := by decide +kernel
theorem d5_31 : decode jdk_52_method_21_code 31 = .ok (.bastore, 1) := by decide +kernel
theorem d5_32 : decode jdk_52_method_21_code 32 = .ok (.iinc 1 1, 3) := by decide +kernel
theorem d5_35 : decode jdk_52_method_21_code 35 = .ok (.iinc 3 1, 3) := by decide +kernel
theorem d5_38 : decode jdk_52_method_21_code 38 = .ok (.iinc 5 1, 3) := by decide +kernel
theorem d5_41 : decode jdk_52_method_21_code 41 = .ok (.goto (-38), 3) := by decide +kernel
theorem d5_44 : decode jdk_52_method_21_code 44 = .ok (.iload 4, 2) := by decide +kernel
theorem d5_46 : decode jdk_52_method_21_code 46 = .ok (.ireturn, 1) := by decide +kernel
theorem own_pn5 : plainName "java/lang/StringUTF16" = true := by first | (simp [plainName, overriddenIn]; done) | decide +kernel
theorem own_ef5 (m : MethodId) (x0 : Addr) (x1 : Int32) (x2 : Addr) (x3 : Int32) (x4 : Int32) : entryFrame m #[(.ref x0), (.int x1), (.ref x2), (.int x3), (.int x4)] 7 = mkF m 0 #[.val (.ref x0), .val (.int x1), .val (.ref x2), .val (.int x3), .val (.int x4), .unset, .unset] [] := by first | (simp [entryFrame, mkF, argsToLocals, Value.category]; done) | rfl
abbrev own_l0 (x0 : Addr) (x1 : Addr) (x2 : Int32) : Array Slot := #[.val (.ref x0), .val (.int ((0 : Int32) + (1 : Int32))), .val (.ref x1), .val (.int (0 : Int32)), .val (.int (1 : Int32)), .val (.int (0 : Int32)), .val (.int x2)]
abbrev own_l1 (x0 : Addr) (x1 : Addr) (x2 : Int32) : Array Slot := #[.val (.ref x0), .val (.int (1 : Int32)), .val (.ref x1), .val (.int ((0 : Int32) + (1 : Int32))), .val (.int (1 : Int32)), .val (.int (0 : Int32)), .val (.int x2)]
abbrev own_l2 (x0 : Addr) (x1 : Addr) (x2 : Int32) : Array Slot := #[.val (.ref x0), .val (.int (1 : Int32)), .val (.ref x1), .val (.int (1 : Int32)), .val (.int (1 : Int32)), .val (.int ((0 : Int32) + (1 : Int32))), .val (.int x2)]
def own_Q5_1 (Z : State) (asr : Addr) (ads : Addr) (ks : ClassId) (kd : ClassId) (ca : Int32) (h0 : Heap) (n0 : Nat) (v : Option Value) (h : Heap) (L : List Loc) : Prop := Fr n0 L ∧ v = some (.int (1 : Int32)) ∧ Keep h0 h [ads] ∧ Arv Z h ads kd .byte (1 : Int32) [(.int ca)] (.int (0 : Int32))
set_option maxRecDepth 65536 in
set_option maxHeartbeats 40000000 in
theorem rm5_1 (l : Launch) (Z : State) (a0 : Array Value) (hw : ∀ d ∈ tables_1, d.before a0 Z = true) (ws : List Jvm.Cond) (asr : Addr) (ads : Addr) (ks : ClassId) (kd : ClassId) (ca : Int32) (h0 : Heap) (n0 : Nat) (Z0 : n0 ≤ h0.size) (Vs : Arv Z h0 asr ks .char (1 : Int32) [(.int ca)] (.int (0 : Int32))) (Vd : Arv Z h0 ads kd .byte (1 : Int32) [(.int (0 : Int32))] (.int (0 : Int32))) (gd : n0 ≤ ads) (nsd : asr ≠ ads) (hp_ca : 0 ≤ ca.toInt ∧ ca.toInt < 128) :
    MetFree l (⟨"java/lang/StringUTF16", "compress", "([CI[BII)I"⟩ : MethodName) (head1 (Jvm.Cond.code (⟨"java/lang/StringUTF16", "compress", "([CI[BII)I"⟩ : MethodName) jdk_52_method_21_code 7 (some .int) :: ws) ({ frames := 0, cells := 0, slots := 0, locals := 0 } : Room)) (fun a U => a = #[(.ref asr), (.int (0 : Int32)), (.ref ads), (.int (0 : Int32)), (.int (1 : Int32))] ∧ Z.Warmed39 U.vm ∧ U.heap = h0) (fun _ _ _ _ _ => True) (fun _ U o U' => ∃ v L, o = .returned v ∧ own_Q5_1 Z asr ads ks kd ca h0 n0 v U'.heap L ∧ FrameEnd U o U' L ({ frames := 0, cells := 0, slots := 0, locals := 0 } : Room).cells ({ frames := 0, cells := 0, slots := 0, locals := 0 } : Room).slots) := by
  refine MetFree.of_bodySF (plainFor_of_name own_pn5) hisR ?_
  intro p e s m args below meth c s₁ Bd hml0 hP hK
  obtain ⟨rfl, hZ, hh⟩ := hP
  have hx := Bd.exec
  have hby := Bd.bytes
  have hml : c.maxLocals = 7 := hml0
  have hown : s.vm.findClass "java/lang/StringUTF16" = some m.cls := findClass_of_methodNamed Bd.named
  have hnm := (name_of_methodNamed Bd.named Bd.method).1
  have X0 : Stand p l e ({ frames := 0, cells := 0, slots := 0, locals := 0 } : Room) s m #[(.ref asr), (.int (0 : Int32)), (.ref ads), (.int (0 : Int32)), (.int (1 : Int32))] below meth c s₁ [] 0 0 := Stand.of_body Bd
  have e0 : s₁.heap = h0 := by rw [← hh, Bd.state]; rfl
  have N0 := Fr.nil n0
  refine own_pre (A := (s₁.setTop (mkF m 0 #[.val (.ref asr), .val (.int (0 : Int32)), .val (.ref ads), .val (.int (0 : Int32)), .val (.int (1 : Int32)), .unset, .unset] []))) (fun t k => castTop (own_ef5 m asr (0 : Int32) ads (0 : Int32) (1 : Int32)) k) ?_
  refine own_pre (A := (s₁.setTop (mkF m 31 #[.val (.ref asr), .val (.int (0 : Int32)), .val (.ref ads), .val (.int (0 : Int32)), .val (.int (1 : Int32)), .val (.int (0 : Int32)), .val (.int ca)] [(.int ca), (.int (0 : Int32)), (.ref ads)]))) ?_ ?_
  · intro t k
    refine XS.iconst X0.here hx rfl (hb hby d5_0) ?_
    refine XS.istore X0.here hx rfl (hb hby d5_1) rfl (l' := #[.val (.ref asr), .val (.int (0 : Int32)), .val (.ref ads), .val (.int (0 : Int32)), .val (.int (1 : Int32)), .val (.int (0 : Int32)), .unset]) rfl ?_
    refine XS.iload X0.here hx rfl (hb hby d5_3) rfl ?_
    refine XS.iload X0.here hx rfl (hb hby d5_5) rfl ?_
    refine XS.icmpNo X0.here hx rfl (hb hby d5_7) rfl (tlt (by decide : (0 : Int32) < (1 : Int32))).2.1 ?_
    refine XS.aloadN X0.here hx rfl (hb hby d5_10) rfl rfl ?_
    refine XS.iloadN X0.here hx rfl (hb hby d5_11) rfl ?_
    show Steps p.tables e below (s₁.setTop (mkF m 12 #[.val (.ref asr), .val (.int (0 : Int32)), .val (.ref ads), .val (.int (0 : Int32)), .val (.int (1 : Int32)), .val (.int (0 : Int32)), .unset] [(.int (0 : Int32)), (.ref asr)])) _
    obtain ⟨cl1, Ar1, q1, S1, N1, H1, G1⟩ := id Vs
    have hin1 : ¬ ((0 : Int32) < 0 ∨ cl1.slots.size ≤ ((0 : Int32)).toNatClampNeg) := inb_of S1 ⟨by decide, by decide⟩
    refine X0.caload hx (j := (0 : Int32)) (v := (.int ca)) (by rw [e0]; exact Ar1.1) (State.isArrayOf_alike hZ.alike Ar1.2.1) Ar1.2.2 hin1 (H1.at hin1 rfl) (g := (mkF m 12 #[.val (.ref asr), .val (.int (0 : Int32)), .val (.ref ads), .val (.int (0 : Int32)), .val (.int (1 : Int32)), .val (.int (0 : Int32)), .unset] [(.int (0 : Int32)), (.ref asr)])) rfl rfl (hb hby d5_12) _ ?_
    refine XS.istore X0.here hx rfl (hb hby d5_13) rfl (l' := #[.val (.ref asr), .val (.int (0 : Int32)), .val (.ref ads), .val (.int (0 : Int32)), .val (.int (1 : Int32)), .val (.int (0 : Int32)), .val (.int ca)]) rfl ?_
    refine XS.iload X0.here hx rfl (hb hby d5_15) rfl ?_
    refine XS.sipush X0.here hx rfl (hb hby d5_17) ?_
    refine XS.icmpYes X0.here hx rfl (pc0 := 20) (pc' := 26) rfl (hb hby d5_20) rfl (flt (own_ch_le ca hp_ca)).2.2.2 (by decide) (by decide) ?_
    refine XS.aloadN X0.here hx rfl (hb hby d5_26) rfl rfl ?_
    refine XS.iloadN X0.here hx rfl (hb hby d5_27) rfl ?_
    refine XS.iload X0.here hx rfl (hb hby d5_28) rfl ?_
    refine XS.i2b X0.here hx rfl (hb hby d5_30) rfl ?_
    show Steps p.tables e below (s₁.setTop (mkF m 31 #[.val (.ref asr), .val (.int (0 : Int32)), .val (.ref ads), .val (.int (0 : Int32)), .val (.int (1 : Int32)), .val (.int (0 : Int32)), .val (.int ca)] [(.int (ca.toInt8.toInt32)), (.int (0 : Int32)), (.ref ads)])) _
    rw [own_ch_b ca hp_ca]
    exact k
  obtain ⟨cl2, Ar2, q2, S2, N2, H2, G2⟩ := Vd
  have hin2 : ¬ ((0 : Int32) < 0 ∨ cl2.slots.size ≤ ((0 : Int32)).toNatClampNeg) := inb_of S2 ⟨by decide, by decide⟩
  obtain ⟨T2, h2, X2, e2, W2, st2⟩ := stB X0 hx hZ e0 Ar2 (j := (0 : Int32)) hin2 (g := (mkF m 31 #[.val (.ref asr), .val (.int (0 : Int32)), .val (.ref ads), .val (.int (0 : Int32)), .val (.int (1 : Int32)), .val (.int (0 : Int32)), .val (.int ca)] [(.int ca), (.int (0 : Int32)), (.ref ads)])) rfl rfl (hb hby d5_31)
  have V2 : Arv Z h2 ads kd .byte (1 : Int32) [(.int ca)] (.int (0 : Int32)) := by have q := Arv.set Ar2 q2 S2 N2 H2 G2 (fits_nar_byte _) W2 0 rfl (Nat.le_of_ble_eq_true rfl); (first | rw [own_ch_nb ca hp_ca] at q | rw [own_ch_b ca hp_ca] at q); exact q
  have Kc2 : Keep h0 h2 [ads] := (Keep.refl h0 [ads]).wr W2 (Or.inl (List.mem_of_getElem? (i := 0) rfl))
  have N2 := Fr.snoc X2 N0 gd
  refine own_pre (fun t k => st2 t k) ?_
  refine own_pre (A := (T2.setTop (mkF m 46 #[.val (.ref asr), .val (.int (1 : Int32)), .val (.ref ads), .val (.int (1 : Int32)), .val (.int (1 : Int32)), .val (.int (1 : Int32)), .val (.int ca)] [(.int (1 : Int32))]))) ?_ ?_
  · intro t k
    refine XS.iinc X2.here hx rfl (hb hby d5_32) rfl (l' := (own_l0 asr ads ca)) rfl ?_
    show Steps  p.tables e below (T2.setTop (mkF m 35 #[.val (.ref asr), .val (.int ((0 : Int32) + (1 : Int32))), .val (.ref ads), .val (.int (0 : Int32)), .val (.int (1 : Int32)), .val (.int (0 : Int32)), .val (.int ca)] [])) _
    rw [show ((0 : Int32) + (1 : Int32)) = (1 : Int32) from by decide]
    refine XS.iinc X2.here hx rfl (hb hby d5_35) rfl (l' := (own_l1 asr ads ca)) rfl ?_
    show Steps  p.tables e below (T2.setTop (mkF m 38 #[.val (.ref asr), .val (.int (1 : Int32)), .val (.ref ads), .val (.int ((0 : Int32) + (1 : Int32))), .val (.int (1 : Int32)), .val (.int (0 : Int32)), .val (.int ca)] [])) _
    rw [show ((0 : Int32) + (1 : Int32)) = (1 : Int32) from by decide]
    refine XS.iinc X2.here hx rfl (hb hby d5_38) rfl (l' := (own_l2 asr ads ca)) rfl ?_
    show Steps  p.tables e below (T2.setTop (mkF m 41 #[.val (.ref asr), .val (.int (1 : Int32)), .val (.ref ads), .val (.int (1 : Int32)), .val (.int (1 : Int32)), .val (.int ((0 : Int32) + (1 : Int32))), .val (.int ca)] [])) _
    rw [show ((0 : Int32) + (1 : Int32)) = (1 : Int32) from by decide]
    refine XS.goto X2.here hx rfl (pc0 := 41) (pc' := 3) rfl (hb hby d5_41) (by decide) (by decide) ?_
    refine XS.iload X2.here hx rfl (hb hby d5_3) rfl ?_
    refine XS.iload X2.here hx rfl (hb hby d5_5) rfl ?_
    refine XS.icmpYes X2.here hx rfl (pc0 := 7) (pc' := 44) rfl (hb hby d5_7) rfl (flt (by decide : ¬ ((1 : Int32) < (1 : Int32)))).2.1 (by decide) (by decide) ?_
    refine XS.iload X2.here hx rfl (hb hby d5_44) rfl ?_
    exact k
  obtain ⟨fs, hr, hrun, hended, hW, hsame⟩ := X2.leave (hlocks := BodyLoose.notSynchronized Bd) (v := some (.int (1 : Int32))) (fun h => by rw [Bd.returns] at h; cases h)
  refine ⟨_, _, retOut X2 hx Bd.returns rfl (Or.inl ⟨rfl, Or.inl rfl, _, rfl⟩) (hb hby d5_46) hr, hrun, hended, _, _, rfl, ?_, ⟨_, rfl⟩, hW, hsame.mono (by decide) (by decide)⟩
  show own_Q5_1 Z asr ads ks kd ca h0 n0 _ T2.heap _
  rw [e2]
  exact ⟨N2, rfl, Kc2, V2⟩
theorem d4_0 : decode jdk_52_method_16_code 0 = .ok (.iload_n 2, 1) := by decide +kernel
theorem d4_1 : decode jdk_52_method_16_code 1 = .ok (.newarray .byte, 2) := by decide +kernel
theorem d4_3 : decode jdk_52_method_16_code 3 = .ok (.astore_n 3, 1) := by decide +kernel
theorem d4_4 : decode jdk_52_method_16_code 4 = .ok (.aload_n 0, 1) := by decide +kernel
theorem d4_5 : decode jdk_52_method_16_code 5 = .ok (.iload_n 1, 1) := by decide +kernel
theorem d4_6 : decode jdk_52_method_16_code 6 = .ok (.aload_n 3, 1) := by decide +kernel
theorem d4_7 : decode jdk_52_method_16_code 7 = .ok (.iconst 0, 1) := by decide +kernel
theorem d4_8 : decode jdk_52_method_16_code 8 = .ok (.iload_n 2, 1) := by decide +kernel
theorem d4_9 : decode jdk_52_method_16_code 9 = .ok (.invokestatic 115, 3) := by decide +kernel
theorem d4_12 : decode jdk_52_method_16_code 12 = .ok (.istore 4, 2) := by decide +kernel
theorem d4_14 : decode jdk_52_method_16_code 14 = .ok (.iload 4, 2) := by decide +kernel
theorem d4_16 : decode jdk_52_method_16_code 16 = .ok (.iload_n 2, 1) := by decide +kernel
theorem d4_17 : decode jdk_52_method_16_code 17 = .ok (.if_icmp .eq 40, 3) := by decide +kernel
theorem d4_57 : decode jdk_52_method_16_code 57 = .ok (.aload_n 3, 1) := by decide +kernel
theorem d4_58 : decode jdk_52_method_16_code 58 = .ok (.areturn, 1) := by decide +kernel
theorem own_pn4 : plainName "java/lang/StringUTF16" = true := by first | (simp [plainName, overriddenIn]; done) | decide +kernel
theorem own_ef4 (m : MethodId) (x0 : Addr) (x1 : Int32) (x2 : Int32) : entryFrame m #[(.ref x0), (.int x1), (.int x2)] 6 = mkF m 0 #[.val (.ref x0), .val (.int x1), .val (.int x2), .unset, .unset, .unset] [] := by first | (simp [entryFrame, mkF, argsToLocals, Value.category]; done) | rfl
def own_Q4_1 (Z : State) (asr : Addr) (ks : ClassId) (ca : Int32) (h0 : Heap) (n0 : Nat) (v : Option Value) (h : Heap) (L : List Loc) : Prop := Fr n0 L ∧ ∃ (ad : Addr) (kd : ClassId), v = some (.ref ad) ∧ n0 ≤ ad ∧ h0.size ≤ ad ∧ Arv Z h ad kd .byte (1 : Int32) [(.int ca)] (.int (0 : Int32)) ∧ Keep h0 h []
set_option maxRecDepth 65536 in
set_option maxHeartbeats 40000000 in
theorem rm4_1 (l : Launch) (Z : State) (a0 : Array Value) (hw : ∀ d ∈ tables_1, d.before a0 Z = true) (ws : List Jvm.Cond) (asr : Addr) (ks : ClassId) (ca : Int32) (h0 : Heap) (n0 : Nat) (Z0 : n0 ≤ h0.size) (Vs : Arv Z h0 asr ks .char (1 : Int32) [(.int ca)] (.int (0 : Int32))) (hp_ca : 0 ≤ ca.toInt ∧ ca.toInt < 128) :
    MetFree l (⟨"java/lang/StringUTF16", "compress", "([CII)[B"⟩ : MethodName) (head1 (Jvm.Cond.code (⟨"java/lang/StringUTF16", "compress", "([CII)[B"⟩ : MethodName) jdk_52_method_16_code 6 (some (.array .byte)) :: ws) ({ frames := 1, cells := 1, slots := 1, locals := 18 } : Room)) (fun a U => a = #[(.ref asr), (.int (0 : Int32)), (.int (1 : Int32))] ∧ Z.Warmed39 U.vm ∧ U.heap = h0) (fun _ _ _ _ _ => True) (fun _ U o U' => ∃ v L, o = .returned v ∧ own_Q4_1 Z asr ks ca h0 n0 v U'.heap L ∧ FrameEnd U o U' L ({ frames := 1, cells := 1, slots := 1, locals := 18 } : Room).cells ({ frames := 1, cells := 1, slots := 1, locals := 18 } : Room).slots) := by
  refine MetFree.of_bodySF (plainFor_of_name own_pn4) hisR ?_
  intro p e s m args below meth c s₁ Bd hml0 hP hK
  obtain ⟨rfl, hZ, hh⟩ := hP
  have hx := Bd.exec
  have hby := Bd.bytes
  have hml : c.maxLocals = 6 := hml0
  have hown : s.vm.findClass "java/lang/StringUTF16" = some m.cls := findClass_of_methodNamed Bd.named
  have hnm := (name_of_methodNamed Bd.named Bd.method).1
  have X0 : Stand p l e ({ frames := 1, cells := 1, slots := 1, locals := 18 } : Room) s m #[(.ref asr), (.int (0 : Int32)), (.int (1 : Int32))] below meth c s₁ [] 0 0 := Stand.of_body Bd
  have e0 : s₁.heap = h0 := by rw [← hh, Bd.state]; rfl
  have N0 := Fr.nil n0
  refine own_pre (A := (s₁.setTop (mkF m 0 #[.val (.ref asr), .val (.int (0 : Int32)), .val (.int (1 : Int32)), .unset, .unset, .unset] []))) (fun t k => castTop (own_ef4 m asr (0 : Int32) (1 : Int32)) k) ?_
  refine own_pre (A := (s₁.setTop (mkF m 1 #[.val (.ref asr), .val (.int (0 : Int32)), .val (.int (1 : Int32)), .unset, .unset, .unset] [(.int (1 : Int32))]))) ?_ ?_
  · intro t k
    refine XS.iloadN X0.here hx rfl (hb hby d4_0) rfl ?_
    exact k
  obtain ⟨T3, h3, k3, X3, e3, E3, A3, st3⟩ := newP X0 hx hZ (own_w hw 19 rfl) e0 (g := (mkF m 1 #[.val (.ref asr), .val (.int (0 : Int32)), .val (.int (1 : Int32)), .unset, .unset, .unset] [(.int (1 : Int32))])) rfl (hb hby d4_1) rfl (by decide) (cap := 1) (by decide) (by decide) (by decide) (by decide)
  obtain ⟨b3, g3⟩ : ∃ z, z = h0.size := ⟨_, rfl⟩
  rw [← g3] at A3 st3
  have ne_asr_b3 : asr ≠ b3 := Nat.ne_of_lt (Nat.lt_of_lt_of_le Vs.lt (Nat.le_of_eq g3.symm))
  have gn_b3 : n0 ≤ b3 := Nat.le_trans Z0 (Nat.le_of_eq g3.symm)
  have sz_b3 : h0.size ≤ b3 := Nat.le_trans (Keep.refl h0 []).1 (Nat.le_of_eq g3.symm)
  have Vs_3 := Vs.ext E3
  have Zs3 : n0 ≤ h3.size := Nat.le_trans Z0 E3.1
  have Kc3 : Keep h0 h3 [] := (Keep.refl h0 []).ext E3
  have V3 : Arv Z h3 b3 k3 .byte (1 : Int32) [(.int (0 : Int32))] (.int (0 : Int32)) := (Arv.new A3 (by decide)).pad (pad_rep [] (.int (0 : Int32)) 1)
  refine own_pre (fun t k => st3 t k) ?_
  refine own_pre (A := (T3.setTop (mkF m 9 #[.val (.ref asr), .val (.int (0 : Int32)), .val (.int (1 : Int32)), .val (.ref b3), .unset, .unset] [(.int (1 : Int32)), (.int (0 : Int32)), (.ref b3), (.int (0 : Int32)), (.ref asr)]))) ?_ ?_
  · intro t k
    refine XS.astoreN X3.here hx rfl (hb hby d4_3) rfl rfl (l' := #[.val (.ref asr), .val (.int (0 : Int32)), .val (.int (1 : Int32)), .val (.ref b3), .unset, .unset]) rfl ?_
    refine XS.aloadN X3.here hx rfl (hb hby d4_4) rfl rfl ?_
    refine XS.iloadN X3.here hx rfl (hb hby d4_5) rfl ?_
    refine XS.aloadN X3.here hx rfl (hb hby d4_6) rfl rfl ?_
    refine XS.iconst X3.here hx rfl (hb hby d4_7) ?_
    refine XS.iloadN X3.here hx rfl (hb hby d4_8) rfl ?_
    exact k
  obtain ⟨_, _, ⟨T4, L4, k4, n4⟩, -, X4, ⟨Lc4, hQ4, l4, y4, z4⟩, st4⟩ := Jvm.LawKit.callS X3 hx (y := (⟨"java/lang/StringUTF16", "compress", "([CI[BII)I"⟩ : MethodName)) hown (mvT hZ (own_w hw 20 rfl)) (mvT hZ (own_w hw 21 rfl)) (mvT hZ (own_w hw 17 rfl)) (mvT hZ (own_w hw 22 rfl)) (by decide) (backOf (W := 0) (rm5_1 l Z a0 hw [] asr b3 ks k3 ca h3 n0 Zs3 Vs_3 V3 gn_b3 ne_asr_b3 hp_ca) hZ (own_w hw 22 rfl) (own_w hw 17 rfl) (by decide) (by decide)) (g := (mkF m 9 #[.val (.ref asr), .val (.int (0 : Int32)), .val (.int (1 : Int32)), .val (.ref b3), .unset, .unset] [(.int (1 : Int32)), (.int (0 : Int32)), (.ref b3), (.int (0 : Int32)), (.ref asr)])) rfl (by rw [hml]; rfl) (argsL := [(.ref asr), (.int (0 : Int32)), (.ref b3), (.int (0 : Int32)), (.int (1 : Int32))]) (rest := []) (lenOf own_pd0 rfl) rfl (by show 2 * 0 + _ ≤ _; exact Nat.le_of_eq rfl) (hb hby d4_9) (fun _ _ => ⟨rfl, e3, (by decide : 1 + 0 ≤ _), (by decide : 1 + 0 ≤ _)⟩)
  dsimp only [Pt.U, Pt.locs, Pt.cells, Pt.slots] at X4 l4 y4 z4 st4 hQ4
  replace y4 : _ = 1 := y4
  replace z4 : _ = 1 := z4
  subst y4 z4
  obtain ⟨Nq4, rfl, Kq4, Vq4⟩ := hQ4
  have N4 := own_frl l4 N0 Nq4
  refine own_pre (fun t k => st4 t k) ?_
  have Kc4 : Keep h0 T4.heap [] := Kc3.trans Kq4 (allS (Or.inr sz_b3) all0)
  refine own_pre (A := (T4.setTop (mkF m 58 #[.val (.ref asr), .val (.int (0 : Int32)), .val (.int (1 : Int32)), .val (.ref b3), .val (.int (1 : Int32)), .unset] [(.ref b3)]))) ?_ ?_
  · intro t k
    refine XS.istore X4.here hx rfl (hb hby d4_12) rfl (l' := #[.val (.ref asr), .val (.int (0 : Int32)), .val (.int (1 : Int32)), .val (.ref b3), .val (.int (1 : Int32)), .unset]) rfl ?_
    refine XS.iload X4.here hx rfl (hb hby d4_14) rfl ?_
    refine XS.iloadN X4.here hx rfl (hb hby d4_16) rfl ?_
    refine XS.icmpYes X4.here hx rfl (pc0 := 17) (pc' := 57) rfl (hb hby d4_17) rfl (teq (by decide : (1 : Int32) = (1 : Int32))).1 (by decide) (by decide) ?_
    refine XS.aloadN X4.here hx rfl (hb hby d4_57) rfl rfl ?_
    exact k
  obtain ⟨fs, hr, hrun, hended, hW, hsame⟩ := X4.leave (hlocks := BodyLoose.notSynchronized Bd) (v := some (.ref b3)) (fun h => by rw [Bd.returns] at h; cases h)
  refine ⟨_, _, retOut X4 hx Bd.returns rfl (Or.inr (Or.inr (Or.inr (Or.inr ⟨rfl, rfl, rfl⟩)))) (hb hby d4_58) hr, hrun, hended, _, _, rfl, ?_, ⟨_, rfl⟩, hW, hsame.mono (by decide) (by decide)⟩
  show own_Q4_1 Z asr ks ca h0 n0 _ T4.heap _
  exact ⟨N4, b3, k3, rfl, gn_b3, sz_b3, Vq4, Kc4⟩
theorem d6_0 : decode jdk_52_method_15_code 0 = .ok (.iload_n 1, 1) := by decide +kernel
theorem d6_1 : decode jdk_52_method_15_code 1 = .ok (.aload_n 0, 1) := by decide +kernel
theorem d6_2 : decode jdk_52_method_15_code 2 = .ok (.arraylength, 1) := by decide +kernel
theorem d6_3 : decode jdk_52_method_15_code 3 = .ok (.isub, 1) := by decide +kernel
theorem d6_4 : decode jdk_52_method_15_code 4 = .ok (.bipush 31, 2) := by decide +kernel
theorem d6_6 : decode jdk_52_method_15_code 6 = .ok (.iushr, 1) := by decide +kernel
theorem d6_7 : decode jdk_52_method_15_code 7 = .ok (.i2b, 1) := by decide +kernel
theorem d6_8 : decode jdk_52_method_15_code 8 = .ok (.ireturn, 1) := by decide +kernel
theorem own_pn6 : plainName "java/lang/StringUTF16" = true := by first | (simp [plainName, overriddenIn]; done) | decide +kernel
theorem own_ef6 (m : MethodId) (x0 : Addr) (x1 : Int32) : entryFrame m #[(.ref x0), (.int x1)] 2 = mkF m 0 #[.val (.ref x0), .val (.int x1)] [] := by first | (simp [entryFrame, mkF, argsToLocals, Value.category]; done) | rfl
def own_Q6_1 (Z : State) (ad : Addr) (kd : ClassId) (ca : Int32) (h0 : Heap) (n0 : Nat) (v : Option Value) (h : Heap) (L : List Loc) : Prop := Fr n0 L ∧ v = some (.int (0 : Int32)) ∧ h = h0
set_option maxRecDepth 65536 in
set_option maxHeartbeats 40000000 in
theorem rm6_1 (l : Launch) (Z : State) (a0 : Array Value) (hw : ∀ d ∈ tables_1, d.before a0 Z = true) (ws : List Jvm.Cond) (ad : Addr) (kd : ClassId) (ca : Int32) (h0 : Heap) (n0 : Nat) (Z0 : n0 ≤ h0.size) (Vd : Arv Z h0 ad kd .byte (1 : Int32) [(.int ca)] (.int (0 : Int32))) :
    MetFree l (⟨"java/lang/StringUTF16", "coderFromArrayLen", "([BI)B"⟩ : MethodName) (head1 (Jvm.Cond.code (⟨"java/lang/StringUTF16", "coderFromArrayLen", "([BI)B"⟩ : MethodName) jdk_52_method_15_code 2 (some .byte) :: ws) ({ frames := 0, cells := 0, slots := 0, locals := 0 } : Room)) (fun a U => a = #[(.ref ad), (.int (1 : Int32))] ∧ Z.Warmed39 U.vm ∧ U.heap = h0) (fun _ _ _ _ _ => True) (fun _ U o U' => ∃ v L, o = .returned v ∧ own_Q6_1 Z ad kd ca h0 n0 v U'.heap L ∧ FrameEnd U o U' L ({ frames := 0, cells := 0, slots := 0, locals := 0 } : Room).cells ({ frames := 0, cells := 0, slots := 0, locals := 0 } : Room).slots) := by
  refine MetFree.of_bodySF (plainFor_of_name own_pn6) hisR ?_
  intro p e s m args below meth c s₁ Bd hml0 hP hK
  obtain ⟨rfl, hZ, hh⟩ := hP
  have hx := Bd.exec
  have hby := Bd.bytes
  have hml : c.maxLocals = 2 := hml0
  have hown : s.vm.findClass "java/lang/StringUTF16" = some m.cls := findClass_of_methodNamed Bd.named
  have hnm := (name_of_methodNamed Bd.named Bd.method).1
  have X0 : Stand p l e ({ frames := 0, cells := 0, slots := 0, locals := 0 } : Room) s m #[(.ref ad), (.int (1 : Int32))] below meth c s₁ [] 0 0 := Stand.of_body Bd
  have e0 : s₁.heap = h0 := by rw [← hh, Bd.state]; rfl
  have N0 := Fr.nil n0
  refine own_pre (A := (s₁.setTop (mkF m 0 #[.val (.ref ad), .val (.int (1 : Int32))] []))) (fun t k => castTop (own_ef6 m ad (1 : Int32)) k) ?_
  refine own_pre (A := (s₁.setTop (mkF m 8 #[.val (.ref ad), .val (.int (1 : Int32))] [(.int (0 : Int32))]))) ?_ ?_
  · intro t k
    refine XS.iloadN X0.here hx rfl (hb hby d6_0) rfl ?_
    refine XS.aloadN X0.here hx rfl (hb hby d6_1) rfl rfl ?_
    show Steps p.tables e below (s₁.setTop (mkF m 2 #[.val (.ref ad), .val (.int (1 : Int32))] [(.ref ad), (.int (1 : Int32))])) _
    obtain ⟨cl5, Ar5, -, S5, N5, -, -⟩ := id Vd
    refine X0.arraylength hx (by rw [e0]; exact Ar5.1) (State.isArrayOf_alike hZ.alike Ar5.2.1) (g := (mkF m 2 #[.val (.ref ad), .val (.int (1 : Int32))] [(.ref ad), (.int (1 : Int32))])) rfl rfl (hb hby d6_2) _ ?_
    rw [len_of S5 N5]
    refine XS.isub X0.here hx rfl (hb hby d6_3) rfl ?_
    show Steps p.tables e below (s₁.setTop (mkF m 4 #[.val (.ref ad), .val (.int (1 : Int32))] [(.int ((1 : Int32) - (1 : Int32)))])) _
    rw [show ((1 : Int32) - (1 : Int32)) = (0 : Int32) from by decide]
    refine XS.bipush X0.here hx rfl (hb hby d6_4) ?_
    refine XS.iushr X0.here hx rfl (hb hby d6_6) rfl ?_
    show Steps p.tables e below (s₁.setTop (mkF m 7 #[.val (.ref ad), .val (.int (1 : Int32))] [(.int (((0 : Int32).toUInt32 >>> ((31 : Int32) &&& 31).toUInt32).toInt32))])) _
    rw [show (((0 : Int32).toUInt32 >>> ((31 : Int32) &&& 31).toUInt32).toInt32) = (0 : Int32) from by decide]
    refine XS.i2b X0.here hx rfl (hb hby d6_7) rfl ?_
    show Steps p.tables e below (s₁.setTop (mkF m 8 #[.val (.ref ad), .val (.int (1 : Int32))] [(.int ((0 : Int32).toInt8.toInt32))])) _
    rw [show ((0 : Int32).toInt8.toInt32) = (0 : Int32) from by decide]
    exact k
  obtain ⟨fs, hr, hrun, hended, hW, hsame⟩ := X0.leave (hlocks := BodyLoose.notSynchronized Bd) (v := some (.int (0 : Int32))) (fun h => by rw [Bd.returns] at h; cases h)
  refine ⟨_, _, retOut X0 hx Bd.returns rfl (Or.inl ⟨rfl, Or.inr (Or.inr (Or.inl rfl)), _, rfl⟩) (hb hby d6_8) hr, hrun, hended, _, _, rfl, ?_, ⟨_, rfl⟩, hW, hsame.mono (by decide) (by decide)⟩
  show own_Q6_1 Z ad kd ca h0 n0 _ s₁.heap _
  rw [e0]
  exact ⟨N0, rfl, rfl⟩
abbrev own_l3 (x0 : Addr) (x1 : Addr) (x2 : Int32) : Array Slot := #[.val (.ref x0), .val (.int ((0 : Int32) + (1 : Int32))), .val (.ref x1), .val (.int (0 : Int32)), .val (.int (2 : Int32)), .val (.int (0 : Int32)), .val (.int x2)]
abbrev own_l4 (x0 : Addr) (x1 : Addr) (x2 : Int32) : Array Slot := #[.val (.ref x0), .val (.int (1 : Int32)), .val (.ref x1), .val (.int ((0 : Int32) + (1 : Int32))), .val (.int (2 : Int32)), .val (.int (0 : Int32)), .val (.int x2)]
abbrev own_l5 (x0 : Addr) (x1 : Addr) (x2 : Int32) : Array Slot := #[.val (.ref x0), .val (.int (1 : Int32)), .val (.ref x1), .val (.int (1 : Int32)), .val (.int (2 : Int32)), .val (.int ((0 : Int32) + (1 : Int32))), .val (.int x2)]
abbrev own_l6 (x0 : Addr) (x1 : Addr) (x2 : Int32) : Array Slot := #[.val (.ref x0), .val (.int ((1 : Int32) + (1 : Int32))), .val (.ref x1), .val (.int (1 : Int32)), .val (.int (2 : Int32)), .val (.int (1 : Int32)), .val (.int x2)]
abbrev own_l7 (x0 : Addr) (x1 : Addr) (x2 : Int32) : Array Slot := #[.val (.ref x0), .val (.int (2 : Int32)), .val (.ref x1), .val (.int ((1 : Int32) + (1 : Int32))), .val (.int (2 : Int32)), .val (.int (1 : Int32)), .val (.int x2)]
abbrev own_l8 (x0 : Addr) (x1 : Addr) (x2 : Int32) : Array Slot := #[.val (.ref x0), .val (.int (2 : Int32)), .val (.ref x1), .val (.int (2 : Int32)), .val (.int (2 : Int32)), .val (.int ((1 : Int32) + (1 : Int32))), .val (.int x2)]
def own_Q5_2 (Z : State) (asr : Addr) (ads : Addr) (ks : ClassId) (kd : ClassId) (ca : Int32) (cb : Int32) (h0 : Heap) (n0 : Nat) (v : Option Value) (h : Heap) (L : List Loc) : Prop := Fr n0 L ∧ v = some (.int (2 : Int32)) ∧ Keep h0 h [ads] ∧ Arv Z h ads kd .byte (2 : Int32) [(.int ca), (.int cb)] (.int (0 : Int32))
set_option maxRecDepth 65536 in
set_option maxHeartbeats 40000000 in
theorem rm5_2 (l : Launch) (Z : State) (a0 : Array Value) (hw : ∀ d ∈ tables_1, d.before a0 Z = true) (ws : List Jvm.Cond) (asr : Addr) (ads : Addr) (ks : ClassId) (kd : ClassId) (ca : Int32) (cb : Int32) (h0 : Heap) (n0 : Nat) (Z0 : n0 ≤ h0.size) (Vs : Arv Z h0 asr ks .char (2 : Int32) [(.int ca), (.int cb)] (.int (0 : Int32))) (Vd : Arv Z h0 ads kd .byte (2 : Int32) [(.int (0 : Int32)), (.int (0 : Int32))] (.int (0 : Int32))) (gd : n0 ≤ ads) (nsd : asr ≠ ads) (hp_ca : 0 ≤ ca.toInt ∧ ca.toInt < 128) (hp_cb : 0 ≤ cb.toInt ∧ cb.toInt < 128) :
    MetFree l (⟨"java/lang/StringUTF16", "compress", "([CI[BII)I"⟩ : MethodName) (head1 (Jvm.Cond.code (⟨"java/lang/StringUTF16", "compress", "([CI[BII)I"⟩ : MethodName) jdk_52_method_21_code 7 (some .int) :: ws) ({ frames := 0, cells := 0, slots := 0, locals := 0 } : Room)) (fun a U => a = #[(.ref asr), (.int (0 : Int32)), (.ref ads), (.int (0 : Int32)), (.int (2 : Int32))] ∧ Z.Warmed39 U.vm ∧ U.heap = h0) (fun _ _ _ _ _ => True) (fun _ U o U' => ∃ v L, o = .returned v ∧ own_Q5_2 Z asr ads ks kd ca cb h0 n0 v U'.heap L ∧ FrameEnd U o U' L ({ frames := 0, cells := 0, slots := 0, locals := 0 } : Room).cells ({ frames := 0, cells := 0, slots := 0, locals := 0 } : Room).slots) := by
  refine MetFree.of_bodySF (plainFor_of_name own_pn5) hisR ?_
  intro p e s m args below meth c s₁ Bd hml0 hP hK
  obtain ⟨rfl, hZ, hh⟩ := hP
  have hx := Bd.exec
  have hby := Bd.bytes
  have hml : c.maxLocals = 7 := hml0
  have hown : s.vm.findClass "java/lang/StringUTF16" = some m.cls := findClass_of_methodNamed Bd.named
  have hnm := (name_of_methodNamed Bd.named Bd.method).1
  have X0 : Stand p l e ({ frames := 0, cells := 0, slots := 0, locals := 0 } : Room) s m #[(.ref asr), (.int (0 : Int32)), (.ref ads), (.int (0 : Int32)), (.int (2 : Int32))] below meth c s₁ [] 0 0 := Stand.of_body Bd
  have e0 : s₁.heap = h0 := by rw [← hh, Bd.state]; rfl
  have N0 := Fr.nil n0
  refine own_pre (A := (s₁.setTop (mkF m 0 #[.val (.ref asr), .val (.int (0 : Int32)), .val (.ref ads), .val (.int (0 : Int32)), .val (.int (2 : Int32)), .unset, .unset] []))) (fun t k => castTop (own_ef5 m asr (0 : Int32) ads (0 : Int32) (2 : Int32)) k) ?_
  refine own_pre (A := (s₁.setTop (mkF m 31 #[.val (.ref asr), .val (.int (0 : Int32)), .val (.ref ads), .val (.int (0 : Int32)), .val (.int (2 : Int32)), .val (.int (0 : Int32)), .val (.int ca)] [(.int ca), (.int (0 : Int32)), (.ref ads)]))) ?_ ?_
  · intro t k
    refine XS.iconst X0.here hx rfl (hb hby d5_0) ?_
    refine XS.istore X0.here hx rfl (hb hby d5_1) rfl (l' := #[.val (.ref asr), .val (.int (0 : Int32)), .val (.ref ads), .val (.int (0 : Int32)), .val (.int (2 : Int32)), .val (.int (0 : Int32)), .unset]) rfl ?_
    refine XS.iload X0.here hx rfl (hb hby d5_3) rfl ?_
    refine XS.iload X0.here hx rfl (hb hby d5_5) rfl ?_
    refine XS.icmpNo X0.here hx rfl (hb hby d5_7) rfl (tlt (by decide : (0 : Int32) < (2 : Int32))).2.1 ?_
    refine XS.aloadN X0.here hx rfl (hb hby d5_10) rfl rfl ?_
    refine XS.iloadN X0.here hx rfl (hb hby d5_11) rfl ?_
    show Steps p.tables e below (s₁.setTop (mkF m 12 #[.val (.ref asr), .val (.int (0 : Int32)), .val (.ref ads), .val (.int (0 : Int32)), .val (.int (2 : Int32)), .val (.int (0 : Int32)), .unset] [(.int (0 : Int32)), (.ref asr)])) _
    obtain ⟨cl6, Ar6, q6, S6, N6, H6, G6⟩ := id Vs
    have hin6 : ¬ ((0 : Int32) < 0 ∨ cl6.slots.size ≤ ((0 : Int32)).toNatClampNeg) := inb_of S6 ⟨by decide, by decide⟩
    refine X0.caload hx (j := (0 : Int32)) (v := (.int ca)) (by rw [e0]; exact Ar6.1) (State.isArrayOf_alike hZ.alike Ar6.2.1) Ar6.2.2 hin6 (H6.at hin6 rfl) (g := (mkF m 12 #[.val (.ref asr), .val (.int (0 : Int32)), .val (.ref ads), .val (.int (0 : Int32)), .val (.int (2 : Int32)), .val (.int (0 : Int32)), .unset] [(.int (0 : Int32)), (.ref asr)])) rfl rfl (hb hby d5_12) _ ?_
    refine XS.istore X0.here hx rfl (hb hby d5_13) rfl (l' := #[.val (.ref asr), .val (.int (0 : Int32)), .val (.ref ads), .val (.int (0 : Int32)), .val (.int (2 : Int32)), .val (.int (0 : Int32)), .val (.int ca)]) rfl ?_
    refine XS.iload X0.here hx rfl (hb hby d5_15) rfl ?_
    refine XS.sipush X0.here hx rfl (hb hby d5_17) ?_
    refine XS.icmpYes X0.here hx rfl (pc0 := 20) (pc' := 26) rfl (hb hby d5_20) rfl (flt (own_ch_le ca hp_ca)).2.2.2 (by decide) (by decide) ?_
    refine XS.aloadN X0.here hx rfl (hb hby d5_26) rfl rfl ?_
    refine XS.iloadN X0.here hx rfl (hb hby d5_27) rfl ?_
    refine XS.iload X0.here hx rfl (hb hby d5_28) rfl ?_
    refine XS.i2b X0.here hx rfl (hb hby d5_30) rfl ?_
    show Steps p.tables e below (s₁.setTop (mkF m 31 #[.val (.ref asr), .val (.int (0 : Int32)), .val (.ref ads), .val (.int (0 : Int32)), .val (.int (2 : Int32)), .val (.int (0 : Int32)), .val (.int ca)] [(.int (ca.toInt8.toInt32)), (.int (0 : Int32)), (.ref ads)])) _
    rw [own_ch_b ca hp_ca]
    exact k
  obtain ⟨cl7, Ar7, q7, S7, N7, H7, G7⟩ := Vd
  have hin7 : ¬ ((0 : Int32) < 0 ∨ cl7.slots.size ≤ ((0 : Int32)).toNatClampNeg) := inb_of S7 ⟨by decide, by decide⟩
  obtain ⟨T7, h7, X7, e7, W7, st7⟩ := stB X0 hx hZ e0 Ar7 (j := (0 : Int32)) hin7 (g := (mkF m 31 #[.val (.ref asr), .val (.int (0 : Int32)), .val (.ref ads), .val (.int (0 : Int32)), .val (.int (2 : Int32)), .val (.int (0 : Int32)), .val (.int ca)] [(.int ca), (.int (0 : Int32)), (.ref ads)])) rfl rfl (hb hby d5_31)
  have V7 : Arv Z h7 ads kd .byte (2 : Int32) [(.int ca), (.int (0 : Int32))] (.int (0 : Int32)) := by have q := Arv.set Ar7 q7 S7 N7 H7 G7 (fits_nar_byte _) W7 0 rfl (Nat.le_of_ble_eq_true rfl); (first | rw [own_ch_nb ca hp_ca] at q | rw [own_ch_b ca hp_ca] at q); exact q
  have Vs_7 := Vs.other W7 nsd
  have Kc7 : Keep h0 h7 [ads] := (Keep.refl h0 [ads]).wr W7 (Or.inl (List.mem_of_getElem? (i := 0) rfl))
  have N7 := Fr.snoc X7 N0 gd
  refine own_pre (fun t k => st7 t k) ?_
  refine own_pre (A := (T7.setTop (mkF m 31 #[.val (.ref asr), .val (.int (1 : Int32)), .val (.ref ads), .val (.int (1 : Int32)), .val (.int (2 : Int32)), .val (.int (1 : Int32)), .val (.int cb)] [(.int cb), (.int (1 : Int32)), (.ref ads)]))) ?_ ?_
  · intro t k
    refine XS.iinc X7.here hx rfl (hb hby d5_32) rfl (l' := (own_l3 asr ads ca)) rfl ?_
    show Steps  p.tables e below (T7.setTop (mkF m 35 #[.val (.ref asr), .val (.int ((0 : Int32) + (1 : Int32))), .val (.ref ads), .val (.int (0 : Int32)), .val (.int (2 : Int32)), .val (.int (0 : Int32)), .val (.int ca)] [])) _
    rw [show ((0 : Int32) + (1 : Int32)) = (1 : Int32) from by decide]
    refine XS.iinc X7.here hx rfl (hb hby d5_35) rfl (l' := (own_l4 asr ads ca)) rfl ?_
    show Steps  p.tables e below (T7.setTop (mkF m 38 #[.val (.ref asr), .val (.int (1 : Int32)), .val (.ref ads), .val (.int ((0 : Int32) + (1 : Int32))), .val (.int (2 : Int32)), .val (.int (0 : Int32)), .val (.int ca)] [])) _
    rw [show ((0 : Int32) + (1 : Int32)) = (1 : Int32) from by decide]
    refine XS.iinc X7.here hx rfl (hb hby d5_38) rfl (l' := (own_l5 asr ads ca)) rfl ?_
    show Steps  p.tables e below (T7.setTop (mkF m 41 #[.val (.ref asr), .val (.int (1 : Int32)), .val (.ref ads), .val (.int (1 : Int32)), .val (.int (2 : Int32)), .val (.int ((0 : Int32) + (1 : Int32))), .val (.int ca)] [])) _
    rw [show ((0 : Int32) + (1 : Int32)) = (1 : Int32) from by decide]
    refine XS.goto X7.here hx rfl (pc0 := 41) (pc' := 3) rfl (hb hby d5_41) (by decide) (by decide) ?_
    refine XS.iload X7.here hx rfl (hb hby d5_3) rfl ?_
    refine XS.iload X7.here hx rfl (hb hby d5_5) rfl ?_
    refine XS.icmpNo X7.here hx rfl (hb hby d5_7) rfl (tlt (by decide : (1 : Int32) < (2 : Int32))).2.1 ?_
    refine XS.aloadN X7.here hx rfl (hb hby d5_10) rfl rfl ?_
    refine XS.iloadN X7.here hx rfl (hb hby d5_11) rfl ?_
    show Steps p.tables e below (T7.setTop (mkF m 12 #[.val (.ref asr), .val (.int (1 : Int32)), .val (.ref ads), .val (.int (1 : Int32)), .val (.int (2 : Int32)), .val (.int (1 : Int32)), .val (.int ca)] [(.int (1 : Int32)), (.ref asr)])) _
    obtain ⟨cl8, Ar8, q8, S8, N8, H8, G8⟩ := id Vs_7
    have hin8 : ¬ ((1 : Int32) < 0 ∨ cl8.slots.size ≤ ((1 : Int32)).toNatClampNeg) := inb_of S8 ⟨by decide, by decide⟩
    refine X7.caload hx (j := (1 : Int32)) (v := (.int cb)) (by rw [e7]; exact Ar8.1) (State.isArrayOf_alike hZ.alike Ar8.2.1) Ar8.2.2 hin8 (H8.at hin8 rfl) (g := (mkF m 12 #[.val (.ref asr), .val (.int (1 : Int32)), .val (.ref ads), .val (.int (1 : Int32)), .val (.int (2 : Int32)), .val (.int (1 : Int32)), .val (.int ca)] [(.int (1 : Int32)), (.ref asr)])) rfl rfl (hb hby d5_12) _ ?_
    refine XS.istore X7.here hx rfl (hb hby d5_13) rfl (l' := #[.val (.ref asr), .val (.int (1 : Int32)), .val (.ref ads), .val (.int (1 : Int32)), .val (.int (2 : Int32)), .val (.int (1 : Int32)), .val (.int cb)]) rfl ?_
    refine XS.iload X7.here hx rfl (hb hby d5_15) rfl ?_
    refine XS.sipush X7.here hx rfl (hb hby d5_17) ?_
    refine XS.icmpYes X7.here hx rfl (pc0 := 20) (pc' := 26) rfl (hb hby d5_20) rfl (flt (own_ch_le cb hp_cb)).2.2.2 (by decide) (by decide) ?_
    refine XS.aloadN X7.here hx rfl (hb hby d5_26) rfl rfl ?_
    refine XS.iloadN X7.here hx rfl (hb hby d5_27) rfl ?_
    refine XS.iload X7.here hx rfl (hb hby d5_28) rfl ?_
    refine XS.i2b X7.here hx rfl (hb hby d5_30) rfl ?_
    show Steps p.tables e below (T7.setTop (mkF m 31 #[.val (.ref asr), .val (.int (1 : Int32)), .val (.ref ads), .val (.int (1 : Int32)), .val (.int (2 : Int32)), .val (.int (1 : Int32)), .val (.int cb)] [(.int (cb.toInt8.toInt32)), (.int (1 : Int32)), (.ref ads)])) _
    rw [own_ch_b cb hp_cb]
    exact k
  obtain ⟨cl9, Ar9, q9, S9, N9, H9, G9⟩ := V7
  have hin9 : ¬ ((1 : Int32) < 0 ∨ cl9.slots.size ≤ ((1 : Int32)).toNatClampNeg) := inb_of S9 ⟨by decide, by decide⟩
  obtain ⟨T9, h9, X9, e9, W9, st9⟩ := stB X7 hx hZ e7 Ar9 (j := (1 : Int32)) hin9 (g := (mkF m 31 #[.val (.ref asr), .val (.int (1 : Int32)), .val (.ref ads), .val (.int (1 : Int32)), .val (.int (2 : Int32)), .val (.int (1 : Int32)), .val (.int cb)] [(.int cb), (.int (1 : Int32)), (.ref ads)])) rfl rfl (hb hby d5_31)
  have V9 : Arv Z h9 ads kd .byte (2 : Int32) [(.int ca), (.int cb)] (.int (0 : Int32)) := by have q := Arv.set Ar9 q9 S9 N9 H9 G9 (fits_nar_byte _) W9 1 rfl (Nat.le_of_ble_eq_true rfl); (first | rw [own_ch_nb cb hp_cb] at q | rw [own_ch_b cb hp_cb] at q); exact q
  have Kc9 : Keep h0 h9 [ads] := Kc7.wr W9 (Or.inl (List.mem_of_getElem? (i := 0) rfl))
  have N9 := Fr.snoc X9 N7 gd
  refine own_pre (fun t k => st9 t k) ?_
  refine own_pre (A := (T9.setTop (mkF m 46 #[.val (.ref asr), .val (.int (2 : Int32)), .val (.ref ads), .val (.int (2 : Int32)), .val (.int (2 : Int32)), .val (.int (2 : Int32)), .val (.int cb)] [(.int (2 : Int32))]))) ?_ ?_
  · intro t k
    refine XS.iinc X9.here hx rfl (hb hby d5_32) rfl (l' := (own_l6 asr ads cb)) rfl ?_
    show Steps  p.tables e below (T9.setTop (mkF m 35 #[.val (.ref asr), .val (.int ((1 : Int32) + (1 : Int32))), .val (.ref ads), .val (.int (1 : Int32)), .val (.int (2 : Int32)), .val (.int (1 : Int32)), .val (.int cb)] [])) _
    rw [show ((1 : Int32) + (1 : Int32)) = (2 : Int32) from by decide]
    refine XS.iinc X9.here hx rfl (hb hby d5_35) rfl (l' := (own_l7 asr ads cb)) rfl ?_
    show Steps  p.tables e below (T9.setTop (mkF m 38 #[.val (.ref asr), .val (.int (2 : Int32)), .val (.ref ads), .val (.int ((1 : Int32) + (1 : Int32))), .val (.int (2 : Int32)), .val (.int (1 : Int32)), .val (.int cb)] [])) _
    rw [show ((1 : Int32) + (1 : Int32)) = (2 : Int32) from by decide]
    refine XS.iinc X9.here hx rfl (hb hby d5_38) rfl (l' := (own_l8 asr ads cb)) rfl ?_
    show Steps  p.tables e below (T9.setTop (mkF m 41 #[.val (.ref asr), .val (.int (2 : Int32)), .val (.ref ads), .val (.int (2 : Int32)), .val (.int (2 : Int32)), .val (.int ((1 : Int32) + (1 : Int32))), .val (.int cb)] [])) _
    rw [show ((1 : Int32) + (1 : Int32)) = (2 : Int32) from by decide]
    refine XS.goto X9.here hx rfl (pc0 := 41) (pc' := 3) rfl (hb hby d5_41) (by decide) (by decide) ?_
    refine XS.iload X9.here hx rfl (hb hby d5_3) rfl ?_
    refine XS.iload X9.here hx rfl (hb hby d5_5) rfl ?_
    refine XS.icmpYes X9.here hx rfl (pc0 := 7) (pc' := 44) rfl (hb hby d5_7) rfl (flt (by decide : ¬ ((2 : Int32) < (2 : Int32)))).2.1 (by decide) (by decide) ?_
    refine XS.iload X9.here hx rfl (hb hby d5_44) rfl ?_
    exact k
  obtain ⟨fs, hr, hrun, hended, hW, hsame⟩ := X9.leave (hlocks := BodyLoose.notSynchronized Bd) (v := some (.int (2 : Int32))) (fun h => by rw [Bd.returns] at h; cases h)
  refine ⟨_, _, retOut X9 hx Bd.returns rfl (Or.inl ⟨rfl, Or.inl rfl, _, rfl⟩) (hb hby d5_46) hr, hrun, hended, _, _, rfl, ?_, ⟨_, rfl⟩, hW, hsame.mono (by decide) (by decide)⟩
  show own_Q5_2 Z asr ads ks kd ca cb h0 n0 _ T9.heap _
  rw [e9]
  exact ⟨N9, rfl, Kc9, V9⟩
def own_Q4_2 (Z : State) (asr : Addr) (ks : ClassId) (ca : Int32) (cb : Int32) (h0 : Heap) (n0 : Nat) (v : Option Value) (h : Heap) (L : List Loc) : Prop := Fr n0 L ∧ ∃ (ad : Addr) (kd : ClassId), v = some (.ref ad) ∧ n0 ≤ ad ∧ h0.size ≤ ad ∧ Arv Z h ad kd .byte (2 : Int32) [(.int ca), (.int cb)] (.int (0 : Int32)) ∧ Keep h0 h []
set_option maxRecDepth 65536 in
set_option maxHeartbeats 40000000 in
theorem rm4_2 (l : Launch) (Z : State) (a0 : Array Value) (hw : ∀ d ∈ tables_1, d.before a0 Z = true) (ws : List Jvm.Cond) (asr : Addr) (ks : ClassId) (ca : Int32) (cb : Int32) (h0 : Heap) (n0 : Nat) (Z0 : n0 ≤ h0.size) (Vs : Arv Z h0 asr ks .char (2 : Int32) [(.int ca), (.int cb)] (.int (0 : Int32))) (hp_ca : 0 ≤ ca.toInt ∧ ca.toInt < 128) (hp_cb : 0 ≤ cb.toInt ∧ cb.toInt < 128) :
    MetFree l (⟨"java/lang/StringUTF16", "compress", "([CII)[B"⟩ : MethodName) (head1 (Jvm.Cond.code (⟨"java/lang/StringUTF16", "compress", "([CII)[B"⟩ : MethodName) jdk_52_method_16_code 6 (some (.array .byte)) :: ws) ({ frames := 1, cells := 1, slots := 2, locals := 18 } : Room)) (fun a U => a = #[(.ref asr), (.int (0 : Int32)), (.int (2 : Int32))] ∧ Z.Warmed39 U.vm ∧ U.heap = h0) (fun _ _ _ _ _ => True) (fun _ U o U' => ∃ v L, o = .returned v ∧ own_Q4_2 Z asr ks ca cb h0 n0 v U'.heap L ∧ FrameEnd U o U' L ({ frames := 1, cells := 1, slots := 2, locals := 18 } : Room).cells ({ frames := 1, cells := 1, slots := 2, locals := 18 } : Room).slots) := by
  refine MetFree.of_bodySF (plainFor_of_name own_pn4) hisR ?_
  intro p e s m args below meth c s₁ Bd hml0 hP hK
  obtain ⟨rfl, hZ, hh⟩ := hP
  have hx := Bd.exec
  have hby := Bd.bytes
  have hml : c.maxLocals = 6 := hml0
  have hown : s.vm.findClass "java/lang/StringUTF16" = some m.cls := findClass_of_methodNamed Bd.named
  have hnm := (name_of_methodNamed Bd.named Bd.method).1
  have X0 : Stand p l e ({ frames := 1, cells := 1, slots := 2, locals := 18 } : Room) s m #[(.ref asr), (.int (0 : Int32)), (.int (2 : Int32))] below meth c s₁ [] 0 0 := Stand.of_body Bd
  have e0 : s₁.heap = h0 := by rw [← hh, Bd.state]; rfl
  have N0 := Fr.nil n0
  refine own_pre (A := (s₁.setTop (mkF m 0 #[.val (.ref asr), .val (.int (0 : Int32)), .val (.int (2 : Int32)), .unset, .unset, .unset] []))) (fun t k => castTop (own_ef4 m asr (0 : Int32) (2 : Int32)) k) ?_
  refine own_pre (A := (s₁.setTop (mkF m 1 #[.val (.ref asr), .val (.int (0 : Int32)), .val (.int (2 : Int32)), .unset, .unset, .unset] [(.int (2 : Int32))]))) ?_ ?_
  · intro t k
    refine XS.iloadN X0.here hx rfl (hb hby d4_0) rfl ?_
    exact k
  obtain ⟨T10, h10, k10, X10, e10, E10, A10, st10⟩ := newP X0 hx hZ (own_w hw 19 rfl) e0 (g := (mkF m 1 #[.val (.ref asr), .val (.int (0 : Int32)), .val (.int (2 : Int32)), .unset, .unset, .unset] [(.int (2 : Int32))])) rfl (hb hby d4_1) rfl (by decide) (cap := 2) (by decide) (by decide) (by decide) (by decide)
  obtain ⟨b10, g10⟩ : ∃ z, z = h0.size := ⟨_, rfl⟩
  rw [← g10] at A10 st10
  have ne_asr_b10 : asr ≠ b10 := Nat.ne_of_lt (Nat.lt_of_lt_of_le Vs.lt (Nat.le_of_eq g10.symm))
  have gn_b10 : n0 ≤ b10 := Nat.le_trans Z0 (Nat.le_of_eq g10.symm)
  have sz_b10 : h0.size ≤ b10 := Nat.le_trans (Keep.refl h0 []).1 (Nat.le_of_eq g10.symm)
  have Vs_10 := Vs.ext E10
  have Zs10 : n0 ≤ h10.size := Nat.le_trans Z0 E10.1
  have Kc10 : Keep h0 h10 [] := (Keep.refl h0 []).ext E10
  have V10 : Arv Z h10 b10 k10 .byte (2 : Int32) [(.int (0 : Int32)), (.int (0 : Int32))] (.int (0 : Int32)) := (Arv.new A10 (by decide)).pad (pad_rep [] (.int (0 : Int32)) 2)
  refine own_pre (fun t k => st10 t k) ?_
  refine own_pre (A := (T10.setTop (mkF m 9 #[.val (.ref asr), .val (.int (0 : Int32)), .val (.int (2 : Int32)), .val (.ref b10), .unset, .unset] [(.int (2 : Int32)), (.int (0 : Int32)), (.ref b10), (.int (0 : Int32)), (.ref asr)]))) ?_ ?_
  · intro t k
    refine XS.astoreN X10.here hx rfl (hb hby d4_3) rfl rfl (l' := #[.val (.ref asr), .val (.int (0 : Int32)), .val (.int (2 : Int32)), .val (.ref b10), .unset, .unset]) rfl ?_
    refine XS.aloadN X10.here hx rfl (hb hby d4_4) rfl rfl ?_
    refine XS.iloadN X10.here hx rfl (hb hby d4_5) rfl ?_
    refine XS.aloadN X10.here hx rfl (hb hby d4_6) rfl rfl ?_
    refine XS.iconst X10.here hx rfl (hb hby d4_7) ?_
    refine XS.iloadN X10.here hx rfl (hb hby d4_8) rfl ?_
    exact k
  obtain ⟨_, _, ⟨T11, L11, k11, n11⟩, -, X11, ⟨Lc11, hQ11, l11, y11, z11⟩, st11⟩ := Jvm.LawKit.callS X10 hx (y := (⟨"java/lang/StringUTF16", "compress", "([CI[BII)I"⟩ : MethodName)) hown (mvT hZ (own_w hw 20 rfl)) (mvT hZ (own_w hw 21 rfl)) (mvT hZ (own_w hw 17 rfl)) (mvT hZ (own_w hw 22 rfl)) (by decide) (backOf (W := 0) (rm5_2 l Z a0 hw [] asr b10 ks k10 ca cb h10 n0 Zs10 Vs_10 V10 gn_b10 ne_asr_b10 hp_ca hp_cb) hZ (own_w hw 22 rfl) (own_w hw 17 rfl) (by decide) (by decide)) (g := (mkF m 9 #[.val (.ref asr), .val (.int (0 : Int32)), .val (.int (2 : Int32)), .val (.ref b10), .unset, .unset] [(.int (2 : Int32)), (.int (0 : Int32)), (.ref b10), (.int (0 : Int32)), (.ref asr)])) rfl (by rw [hml]; rfl) (argsL := [(.ref asr), (.int (0 : Int32)), (.ref b10), (.int (0 : Int32)), (.int (2 : Int32))]) (rest := []) (lenOf own_pd0 rfl) rfl (by show 2 * 0 + _ ≤ _; exact Nat.le_of_eq rfl) (hb hby d4_9) (fun _ _ => ⟨rfl, e10, (by decide : 1 + 0 ≤ _), (by decide : 2 + 0 ≤ _)⟩)
  dsimp only [Pt.U, Pt.locs, Pt.cells, Pt.slots] at X11 l11 y11 z11 st11 hQ11
  replace y11 : _ = 1 := y11
  replace z11 : _ = 2 := z11
  subst y11 z11
  obtain ⟨Nq11, rfl, Kq11, Vq11⟩ := hQ11
  have N11 := own_frl l11 N0 Nq11
  refine own_pre (fun t k => st11 t k) ?_
  have Kc11 : Keep h0 T11.heap [] := Kc10.trans Kq11 (allS (Or.inr sz_b10) all0)
  refine own_pre (A := (T11.setTop (mkF m 58 #[.val (.ref asr), .val (.int (0 : Int32)), .val (.int (2 : Int32)), .val (.ref b10), .val (.int (2 : Int32)), .unset] [(.ref b10)]))) ?_ ?_
  · intro t k
    refine XS.istore X11.here hx rfl (hb hby d4_12) rfl (l' := #[.val (.ref asr), .val (.int (0 : Int32)), .val (.int (2 : Int32)), .val (.ref b10), .val (.int (2 : Int32)), .unset]) rfl ?_
    refine XS.iload X11.here hx rfl (hb hby d4_14) rfl ?_
    refine XS.iloadN X11.here hx rfl (hb hby d4_16) rfl ?_
    refine XS.icmpYes X11.here hx rfl (pc0 := 17) (pc' := 57) rfl (hb hby d4_17) rfl (teq (by decide : (2 : Int32) = (2 : Int32))).1 (by decide) (by decide) ?_
    refine XS.aloadN X11.here hx rfl (hb hby d4_57) rfl rfl ?_
    exact k
  obtain ⟨fs, hr, hrun, hended, hW, hsame⟩ := X11.leave (hlocks := BodyLoose.notSynchronized Bd) (v := some (.ref b10)) (fun h => by rw [Bd.returns] at h; cases h)
  refine ⟨_, _, retOut X11 hx Bd.returns rfl (Or.inr (Or.inr (Or.inr (Or.inr ⟨rfl, rfl, rfl⟩)))) (hb hby d4_58) hr, hrun, hended, _, _, rfl, ?_, ⟨_, rfl⟩, hW, hsame.mono (by decide) (by decide)⟩
  show own_Q4_2 Z asr ks ca cb h0 n0 _ T11.heap _
  exact ⟨N11, b10, k10, rfl, gn_b10, sz_b10, Vq11, Kc11⟩
def own_Q6_2 (Z : State) (ad : Addr) (kd : ClassId) (ca : Int32) (cb : Int32) (h0 : Heap) (n0 : Nat) (v : Option Value) (h : Heap) (L : List Loc) : Prop := Fr n0 L ∧ v = some (.int (0 : Int32)) ∧ h = h0
set_option maxRecDepth 65536 in
set_option maxHeartbeats 40000000 in
theorem rm6_2 (l : Launch) (Z : State) (a0 : Array Value) (hw : ∀ d ∈ tables_1, d.before a0 Z = true) (ws : List Jvm.Cond) (ad : Addr) (kd : ClassId) (ca : Int32) (cb : Int32) (h0 : Heap) (n0 : Nat) (Z0 : n0 ≤ h0.size) (Vd : Arv Z h0 ad kd .byte (2 : Int32) [(.int ca), (.int cb)] (.int (0 : Int32))) :
    MetFree l (⟨"java/lang/StringUTF16", "coderFromArrayLen", "([BI)B"⟩ : MethodName) (head1 (Jvm.Cond.code (⟨"java/lang/StringUTF16", "coderFromArrayLen", "([BI)B"⟩ : MethodName) jdk_52_method_15_code 2 (some .byte) :: ws) ({ frames := 0, cells := 0, slots := 0, locals := 0 } : Room)) (fun a U => a = #[(.ref ad), (.int (2 : Int32))] ∧ Z.Warmed39 U.vm ∧ U.heap = h0) (fun _ _ _ _ _ => True) (fun _ U o U' => ∃ v L, o = .returned v ∧ own_Q6_2 Z ad kd ca cb h0 n0 v U'.heap L ∧ FrameEnd U o U' L ({ frames := 0, cells := 0, slots := 0, locals := 0 } : Room).cells ({ frames := 0, cells := 0, slots := 0, locals := 0 } : Room).slots) := by
  refine MetFree.of_bodySF (plainFor_of_name own_pn6) hisR ?_
  intro p e s m args below meth c s₁ Bd hml0 hP hK
  obtain ⟨rfl, hZ, hh⟩ := hP
  have hx := Bd.exec
  have hby := Bd.bytes
  have hml : c.maxLocals = 2 := hml0
  have hown : s.vm.findClass "java/lang/StringUTF16" = some m.cls := findClass_of_methodNamed Bd.named
  have hnm := (name_of_methodNamed Bd.named Bd.method).1
  have X0 : Stand p l e ({ frames := 0, cells := 0, slots := 0, locals := 0 } : Room) s m #[(.ref ad), (.int (2 : Int32))] below meth c s₁ [] 0 0 := Stand.of_body Bd
  have e0 : s₁.heap = h0 := by rw [← hh, Bd.state]; rfl
  have N0 := Fr.nil n0
  refine own_pre (A := (s₁.setTop (mkF m 0 #[.val (.ref ad), .val (.int (2 : Int32))] []))) (fun t k => castTop (own_ef6 m ad (2 : Int32)) k) ?_
  refine own_pre (A := (s₁.setTop (mkF m 8 #[.val (.ref ad), .val (.int (2 : Int32))] [(.int (0 : Int32))]))) ?_ ?_
  · intro t k
    refine XS.iloadN X0.here hx rfl (hb hby d6_0) rfl ?_
    refine XS.aloadN X0.here hx rfl (hb hby d6_1) rfl rfl ?_
    show Steps p.tables e below (s₁.setTop (mkF m 2 #[.val (.ref ad), .val (.int (2 : Int32))] [(.ref ad), (.int (2 : Int32))])) _
    obtain ⟨cl12, Ar12, -, S12, N12, -, -⟩ := id Vd
    refine X0.arraylength hx (by rw [e0]; exact Ar12.1) (State.isArrayOf_alike hZ.alike Ar12.2.1) (g := (mkF m 2 #[.val (.ref ad), .val (.int (2 : Int32))] [(.ref ad), (.int (2 : Int32))])) rfl rfl (hb hby d6_2) _ ?_
    rw [len_of S12 N12]
    refine XS.isub X0.here hx rfl (hb hby d6_3) rfl ?_
    show Steps p.tables e below (s₁.setTop (mkF m 4 #[.val (.ref ad), .val (.int (2 : Int32))] [(.int ((2 : Int32) - (2 : Int32)))])) _
    rw [show ((2 : Int32) - (2 : Int32)) = (0 : Int32) from by decide]
    refine XS.bipush X0.here hx rfl (hb hby d6_4) ?_
    refine XS.iushr X0.here hx rfl (hb hby d6_6) rfl ?_
    show Steps p.tables e below (s₁.setTop (mkF m 7 #[.val (.ref ad), .val (.int (2 : Int32))] [(.int (((0 : Int32).toUInt32 >>> ((31 : Int32) &&& 31).toUInt32).toInt32))])) _
    rw [show (((0 : Int32).toUInt32 >>> ((31 : Int32) &&& 31).toUInt32).toInt32) = (0 : Int32) from by decide]
    refine XS.i2b X0.here hx rfl (hb hby d6_7) rfl ?_
    show Steps p.tables e below (s₁.setTop (mkF m 8 #[.val (.ref ad), .val (.int (2 : Int32))] [(.int ((0 : Int32).toInt8.toInt32))])) _
    rw [show ((0 : Int32).toInt8.toInt32) = (0 : Int32) from by decide]
    exact k
  obtain ⟨fs, hr, hrun, hended, hW, hsame⟩ := X0.leave (hlocks := BodyLoose.notSynchronized Bd) (v := some (.int (0 : Int32))) (fun h => by rw [Bd.returns] at h; cases h)
  refine ⟨_, _, retOut X0 hx Bd.returns rfl (Or.inl ⟨rfl, Or.inr (Or.inr (Or.inl rfl)), _, rfl⟩) (hb hby d6_8) hr, hrun, hended, _, _, rfl, ?_, ⟨_, rfl⟩, hW, hsame.mono (by decide) (by decide)⟩
  show own_Q6_2 Z ad kd ca cb h0 n0 _ s₁.heap _
  rw [e0]
  exact ⟨N0, rfl, rfl⟩
abbrev own_l9 (x0 : Addr) (x1 : Addr) (x2 : Int32) : Array Slot := #[.val (.ref x0), .val (.int ((0 : Int32) + (1 : Int32))), .val (.ref x1), .val (.int (0 : Int32)), .val (.int (3 : Int32)), .val (.int (0 : Int32)), .val (.int x2)]
abbrev own_l10 (x0 : Addr) (x1 : Addr) (x2 : Int32) : Array Slot := #[.val (.ref x0), .val (.int (1 : Int32)), .val (.ref x1), .val (.int ((0 : Int32) + (1 : Int32))), .val (.int (3 : Int32)), .val (.int (0 : Int32)), .val (.int x2)]
abbrev own_l11 (x0 : Addr) (x1 : Addr) (x2 : Int32) : Array Slot := #[.val (.ref x0), .val (.int (1 : Int32)), .val (.ref x1), .val (.int (1 : Int32)), .val (.int (3 : Int32)), .val (.int ((0 : Int32) + (1 : Int32))), .val (.int x2)]
abbrev own_l12 (x0 : Addr) (x1 : Addr) (x2 : Int32) : Array Slot := #[.val (.ref x0), .val (.int ((1 : Int32) + (1 : Int32))), .val (.ref x1), .val (.int (1 : Int32)), .val (.int (3 : Int32)), .val (.int (1 : Int32)), .val (.int x2)]
abbrev own_l13 (x0 : Addr) (x1 : Addr) (x2 : Int32) : Array Slot := #[.val (.ref x0), .val (.int (2 : Int32)), .val (.ref x1), .val (.int ((1 : Int32) + (1 : Int32))), .val (.int (3 : Int32)), .val (.int (1 : Int32)), .val (.int x2)]
abbrev own_l14 (x0 : Addr) (x1 : Addr) (x2 : Int32) : Array Slot := #[.val (.ref x0), .val (.int (2 : Int32)), .val (.ref x1), .val (.int (2 : Int32)), .val (.int (3 : Int32)), .val (.int ((1 : Int32) + (1 : Int32))), .val (.int x2)]
abbrev own_l15 (x0 : Addr) (x1 : Addr) (x2 : Int32) : Array Slot := #[.val (.ref x0), .val (.int ((2 : Int32) + (1 : Int32))), .val (.ref x1), .val (.int (2 : Int32)), .val (.int (3 : Int32)), .val (.int (2 : Int32)), .val (.int x2)]
abbrev own_l16 (x0 : Addr) (x1 : Addr) (x2 : Int32) : Array Slot := #[.val (.ref x0), .val (.int (3 : Int32)), .val (.ref x1), .val (.int ((2 : Int32) + (1 : Int32))), .val (.int (3 : Int32)), .val (.int (2 : Int32)), .val (.int x2)]
abbrev own_l17 (x0 : Addr) (x1 : Addr) (x2 : Int32) : Array Slot := #[.val (.ref x0), .val (.int (3 : Int32)), .val (.ref x1), .val (.int (3 : Int32)), .val (.int (3 : Int32)), .val (.int ((2 : Int32) + (1 : Int32))), .val (.int x2)]
def own_Q5_3 (Z : State) (asr : Addr) (ads : Addr) (ks : ClassId) (kd : ClassId) (ca : Int32) (cb : Int32) (cd : Int32) (h0 : Heap) (n0 : Nat) (v : Option Value) (h : Heap) (L : List Loc) : Prop := Fr n0 L ∧ v = some (.int (3 : Int32)) ∧ Keep h0 h [ads] ∧ Arv Z h ads kd .byte (3 : Int32) [(.int ca), (.int cb), (.int cd)] (.int (0 : Int32))
set_option maxRecDepth 65536 in
set_option maxHeartbeats 40000000 in
theorem rm5_3 (l : Launch) (Z : State) (a0 : Array Value) (hw : ∀ d ∈ tables_1, d.before a0 Z = true) (ws : List Jvm.Cond) (asr : Addr) (ads : Addr) (ks : ClassId) (kd : ClassId) (ca : Int32) (cb : Int32) (cd : Int32) (h0 : Heap) (n0 : Nat) (Z0 : n0 ≤ h0.size) (Vs : Arv Z h0 asr ks .char (3 : Int32) [(.int ca), (.int cb), (.int cd)] (.int (0 : Int32))) (Vd : Arv Z h0 ads kd .byte (3 : Int32) [(.int (0 : Int32)), (.int (0 : Int32)), (.int (0 : Int32))] (.int (0 : Int32))) (gd : n0 ≤ ads) (nsd : asr ≠ ads) (hp_ca : 0 ≤ ca.toInt ∧ ca.toInt < 128) (hp_cb : 0 ≤ cb.toInt ∧ cb.toInt < 128) (hp_cd : 0 ≤ cd.toInt ∧ cd.toInt < 128) :
    MetFree l (⟨"java/lang/StringUTF16", "compress", "([CI[BII)I"⟩ : MethodName) (head1 (Jvm.Cond.code (⟨"java/lang/StringUTF16", "compress", "([CI[BII)I"⟩ : MethodName) jdk_52_method_21_code 7 (some .int) :: ws) ({ frames := 0, cells := 0, slots := 0, locals := 0 } : Room)) (fun a U => a = #[(.ref asr), (.int (0 : Int32)), (.ref ads), (.int (0 : Int32)), (.int (3 : Int32))] ∧ Z.Warmed39 U.vm ∧ U.heap = h0) (fun _ _ _ _ _ => True) (fun _ U o U' => ∃ v L, o = .returned v ∧ own_Q5_3 Z asr ads ks kd ca cb cd h0 n0 v U'.heap L ∧ FrameEnd U o U' L ({ frames := 0, cells := 0, slots := 0, locals := 0 } : Room).cells ({ frames := 0, cells := 0, slots := 0, locals := 0 } : Room).slots) := by
  refine MetFree.of_bodySF (plainFor_of_name own_pn5) hisR ?_
  intro p e s m args below meth c s₁ Bd hml0 hP hK
  obtain ⟨rfl, hZ, hh⟩ := hP
  have hx := Bd.exec
  have hby := Bd.bytes
  have hml : c.maxLocals = 7 := hml0
  have hown : s.vm.findClass "java/lang/StringUTF16" = some m.cls := findClass_of_methodNamed Bd.named
  have hnm := (name_of_methodNamed Bd.named Bd.method).1
  have X0 : Stand p l e ({ frames := 0, cells := 0, slots := 0, locals := 0 } : Room) s m #[(.ref asr), (.int (0 : Int32)), (.ref ads), (.int (0 : Int32)), (.int (3 : Int32))] below meth c s₁ [] 0 0 := Stand.of_body Bd
  have e0 : s₁.heap = h0 := by rw [← hh, Bd.state]; rfl
  have N0 := Fr.nil n0
  refine own_pre (A := (s₁.setTop (mkF m 0 #[.val (.ref asr), .val (.int (0 : Int32)), .val (.ref ads), .val (.int (0 : Int32)), .val (.int (3 : Int32)), .unset, .unset] []))) (fun t k => castTop (own_ef5 m asr (0 : Int32) ads (0 : Int32) (3 : Int32)) k) ?_
  refine own_pre (A := (s₁.setTop (mkF m 31 #[.val (.ref asr), .val (.int (0 : Int32)), .val (.ref ads), .val (.int (0 : Int32)), .val (.int (3 : Int32)), .val (.int (0 : Int32)), .val (.int ca)] [(.int ca), (.int (0 : Int32)), (.ref ads)]))) ?_ ?_
  · intro t k
    refine XS.iconst X0.here hx rfl (hb hby d5_0) ?_
    refine XS.istore X0.here hx rfl (hb hby d5_1) rfl (l' := #[.val (.ref asr), .val (.int (0 : Int32)), .val (.ref ads), .val (.int (0 : Int32)), .val (.int (3 : Int32)), .val (.int (0 : Int32)), .unset]) rfl ?_
    refine XS.iload X0.here hx rfl (hb hby d5_3) rfl ?_
    refine XS.iload X0.here hx rfl (hb hby d5_5) rfl ?_
    refine XS.icmpNo X0.here hx rfl (hb hby d5_7) rfl (tlt (by decide : (0 : Int32) < (3 : Int32))).2.1 ?_
    refine XS.aloadN X0.here hx rfl (hb hby d5_10) rfl rfl ?_
    refine XS.iloadN X0.here hx rfl (hb hby d5_11) rfl ?_
    show Steps p.tables e below (s₁.setTop (mkF m 12 #[.val (.ref asr), .val (.int (0 : Int32)), .val (.ref ads), .val (.int (0 : Int32)), .val (.int (3 : Int32)), .val (.int (0 : Int32)), .unset] [(.int (0 : Int32)), (.ref asr)])) _
    obtain ⟨cl13, Ar13, q13, S13, N13, H13, G13⟩ := id Vs
    have hin13 : ¬ ((0 : Int32) < 0 ∨ cl13.slots.size ≤ ((0 : Int32)).toNatClampNeg) := inb_of S13 ⟨by decide, by decide⟩
    refine X0.caload hx (j := (0 : Int32)) (v := (.int ca)) (by rw [e0]; exact Ar13.1) (State.isArrayOf_alike hZ.alike Ar13.2.1) Ar13.2.2 hin13 (H13.at hin13 rfl) (g := (mkF m 12 #[.val (.ref asr), .val (.int (0 : Int32)), .val (.ref ads), .val (.int (0 : Int32)), .val (.int (3 : Int32)), .val (.int (0 : Int32)), .unset] [(.int (0 : Int32)), (.ref asr)])) rfl rfl (hb hby d5_12) _ ?_
    refine XS.istore X0.here hx rfl (hb hby d5_13) rfl (l' := #[.val (.ref asr), .val (.int (0 : Int32)), .val (.ref ads), .val (.int (0 : Int32)), .val (.int (3 : Int32)), .val (.int (0 : Int32)), .val (.int ca)]) rfl ?_
    refine XS.iload X0.here hx rfl (hb hby d5_15) rfl ?_
    refine XS.sipush X0.here hx rfl (hb hby d5_17) ?_
    refine XS.icmpYes X0.here hx rfl (pc0 := 20) (pc' := 26) rfl (hb hby d5_20) rfl (flt (own_ch_le ca hp_ca)).2.2.2 (by decide) (by decide) ?_
    refine XS.aloadN X0.here hx rfl (hb hby d5_26) rfl rfl ?_
    refine XS.iloadN X0.here hx rfl (hb hby d5_27) rfl ?_
    refine XS.iload X0.here hx rfl (hb hby d5_28) rfl ?_
    refine XS.i2b X0.here hx rfl (hb hby d5_30) rfl ?_
    show Steps p.tables e below (s₁.setTop (mkF m 31 #[.val (.ref asr), .val (.int (0 : Int32)), .val (.ref ads), .val (.int (0 : Int32)), .val (.int (3 : Int32)), .val (.int (0 : Int32)), .val (.int ca)] [(.int (ca.toInt8.toInt32)), (.int (0 : Int32)), (.ref ads)])) _
    rw [own_ch_b ca hp_ca]
    exact k
  obtain ⟨cl14, Ar14, q14, S14, N14, H14, G14⟩ := Vd
  have hin14 : ¬ ((0 : Int32) < 0 ∨ cl14.slots.size ≤ ((0 : Int32)).toNatClampNeg) := inb_of S14 ⟨by decide, by decide⟩
  obtain ⟨T14, h14, X14, e14, W14, st14⟩ := stB X0 hx hZ e0 Ar14 (j := (0 : Int32)) hin14 (g := (mkF m 31 #[.val (.ref asr), .val (.int (0 : Int32)), .val (.ref ads), .val (.int (0 : Int32)), .val (.int (3 : Int32)), .val (.int (0 : Int32)), .val (.int ca)] [(.int ca), (.int (0 : Int32)), (.ref ads)])) rfl rfl (hb hby d5_31)
  have V14 : Arv Z h14 ads kd .byte (3 : Int32) [(.int ca), (.int (0 : Int32)), (.int (0 : Int32))] (.int (0 : Int32)) := by have q := Arv.set Ar14 q14 S14 N14 H14 G14 (fits_nar_byte _) W14 0 rfl (Nat.le_of_ble_eq_true rfl); (first | rw [own_ch_nb ca hp_ca] at q | rw [own_ch_b ca hp_ca] at q); exact q
  have Vs_14 := Vs.other W14 nsd
  have Kc14 : Keep h0 h14 [ads] := (Keep.refl h0 [ads]).wr W14 (Or.inl (List.mem_of_getElem? (i := 0) rfl))
  have N14 := Fr.snoc X14 N0 gd
  refine own_pre (fun t k => st14 t k) ?_
  refine own_pre (A := (T14.setTop (mkF m 31 #[.val (.ref asr), .val (.int (1 : Int32)), .val (.ref ads), .val (.int (1 : Int32)), .val (.int (3 : Int32)), .val (.int (1 : Int32)), .val (.int cb)] [(.int cb), (.int (1 : Int32)), (.ref ads)]))) ?_ ?_
  · intro t k
    refine XS.iinc X14.here hx rfl (hb hby d5_32) rfl (l' := (own_l9 asr ads ca)) rfl ?_
    show Steps  p.tables e below (T14.setTop (mkF m 35 #[.val (.ref asr), .val (.int ((0 : Int32) + (1 : Int32))), .val (.ref ads), .val (.int (0 : Int32)), .val (.int (3 : Int32)), .val (.int (0 : Int32)), .val (.int ca)] [])) _
    rw [show ((0 : Int32) + (1 : Int32)) = (1 : Int32) from by decide]
    refine XS.iinc X14.here hx rfl (hb hby d5_35) rfl (l' := (own_l10 asr ads ca)) rfl ?_
    show Steps  p.tables e below (T14.setTop (mkF m 38 #[.val (.ref asr), .val (.int (1 : Int32)), .val (.ref ads), .val (.int ((0 : Int32) + (1 : Int32))), .val (.int (3 : Int32)), .val (.int (0 : Int32)), .val (.int ca)] [])) _
    rw [show ((0 : Int32) + (1 : Int32)) = (1 : Int32) from by decide]
    refine XS.iinc X14.here hx rfl (hb hby d5_38) rfl (l' := (own_l11 asr ads ca)) rfl ?_
    show Steps  p.tables e below (T14.setTop (mkF m 41 #[.val (.ref asr), .val (.int (1 : Int32)), .val (.ref ads), .val (.int (1 : Int32)), .val (.int (3 : Int32)), .val (.int ((0 : Int32) + (1 : Int32))), .val (.int ca)] [])) _
    rw [show ((0 : Int32) + (1 : Int32)) = (1 : Int32) from by decide]
    refine XS.goto X14.here hx rfl (pc0 := 41) (pc' := 3) rfl (hb hby d5_41) (by decide) (by decide) ?_
    refine XS.iload X14.here hx rfl (hb hby d5_3) rfl ?_
    refine XS.iload X14.here hx rfl (hb hby d5_5) rfl ?_
    refine XS.icmpNo X14.here hx rfl (hb hby d5_7) rfl (tlt (by decide : (1 : Int32) < (3 : Int32))).2.1 ?_
    refine XS.aloadN X14.here hx rfl (hb hby d5_10) rfl rfl ?_
    refine XS.iloadN X14.here hx rfl (hb hby d5_11) rfl ?_
    show Steps p.tables e below (T14.setTop (mkF m 12 #[.val (.ref asr), .val (.int (1 : Int32)), .val (.ref ads), .val (.int (1 : Int32)), .val (.int (3 : Int32)), .val (.int (1 : Int32)), .val (.int ca)] [(.int (1 : Int32)), (.ref asr)])) _
    obtain ⟨cl15, Ar15, q15, S15, N15, H15, G15⟩ := id Vs_14
    have hin15 : ¬ ((1 : Int32) < 0 ∨ cl15.slots.size ≤ ((1 : Int32)).toNatClampNeg) := inb_of S15 ⟨by decide, by decide⟩
    refine X14.caload hx (j := (1 : Int32)) (v := (.int cb)) (by rw [e14]; exact Ar15.1) (State.isArrayOf_alike hZ.alike Ar15.2.1) Ar15.2.2 hin15 (H15.at hin15 rfl) (g := (mkF m 12 #[.val (.ref asr), .val (.int (1 : Int32)), .val (.ref ads), .val (.int (1 : Int32)), .val (.int (3 : Int32)), .val (.int (1 : Int32)), .val (.int ca)] [(.int (1 : Int32)), (.ref asr)])) rfl rfl (hb hby d5_12) _ ?_
    refine XS.istore X14.here hx rfl (hb hby d5_13) rfl (l' := #[.val (.ref asr), .val (.int (1 : Int32)), .val (.ref ads), .val (.int (1 : Int32)), .val (.int (3 : Int32)), .val (.int (1 : Int32)), .val (.int cb)]) rfl ?_
    refine XS.iload X14.here hx rfl (hb hby d5_15) rfl ?_
    refine XS.sipush X14.here hx rfl (hb hby d5_17) ?_
    refine XS.icmpYes X14.here hx rfl (pc0 := 20) (pc' := 26) rfl (hb hby d5_20) rfl (flt (own_ch_le cb hp_cb)).2.2.2 (by decide) (by decide) ?_
    refine XS.aloadN X14.here hx rfl (hb hby d5_26) rfl rfl ?_
    refine XS.iloadN X14.here hx rfl (hb hby d5_27) rfl ?_
    refine XS.iload X14.here hx rfl (hb hby d5_28) rfl ?_
    refine XS.i2b X14.here hx rfl (hb hby d5_30) rfl ?_
    show Steps p.tables e below (T14.setTop (mkF m 31 #[.val (.ref asr), .val (.int (1 : Int32)), .val (.ref ads), .val (.int (1 : Int32)), .val (.int (3 : Int32)), .val (.int (1 : Int32)), .val (.int cb)] [(.int (cb.toInt8.toInt32)), (.int (1 : Int32)), (.ref ads)])) _
    rw [own_ch_b cb hp_cb]
    exact k
  obtain ⟨cl16, Ar16, q16, S16, N16, H16, G16⟩ := V14
  have hin16 : ¬ ((1 : Int32) < 0 ∨ cl16.slots.size ≤ ((1 : Int32)).toNatClampNeg) := inb_of S16 ⟨by decide, by decide⟩
  obtain ⟨T16, h16, X16, e16, W16, st16⟩ := stB X14 hx hZ e14 Ar16 (j := (1 : Int32)) hin16 (g := (mkF m 31 #[.val (.ref asr), .val (.int (1 : Int32)), .val (.ref ads), .val (.int (1 : Int32)), .val (.int (3 : Int32)), .val (.int (1 : Int32)), .val (.int cb)] [(.int cb), (.int (1 : Int32)), (.ref ads)])) rfl rfl (hb hby d5_31)
  have V16 : Arv Z h16 ads kd .byte (3 : Int32) [(.int ca), (.int cb), (.int (0 : Int32))] (.int (0 : Int32)) := by have q := Arv.set Ar16 q16 S16 N16 H16 G16 (fits_nar_byte _) W16 1 rfl (Nat.le_of_ble_eq_true rfl); (first | rw [own_ch_nb cb hp_cb] at q | rw [own_ch_b cb hp_cb] at q); exact q
  have Vs_16 := Vs_14.other W16 nsd
  have Kc16 : Keep h0 h16 [ads] := Kc14.wr W16 (Or.inl (List.mem_of_getElem? (i := 0) rfl))
  have N16 := Fr.snoc X16 N14 gd
  refine own_pre (fun t k => st16 t k) ?_
  refine own_pre (A := (T16.setTop (mkF m 31 #[.val (.ref asr), .val (.int (2 : Int32)), .val (.ref ads), .val (.int (2 : Int32)), .val (.int (3 : Int32)), .val (.int (2 : Int32)), .val (.int cd)] [(.int cd), (.int (2 : Int32)), (.ref ads)]))) ?_ ?_
  · intro t k
    refine XS.iinc X16.here hx rfl (hb hby d5_32) rfl (l' := (own_l12 asr ads cb)) rfl ?_
    show Steps  p.tables e below (T16.setTop (mkF m 35 #[.val (.ref asr), .val (.int ((1 : Int32) + (1 : Int32))), .val (.ref ads), .val (.int (1 : Int32)), .val (.int (3 : Int32)), .val (.int (1 : Int32)), .val (.int cb)] [])) _
    rw [show ((1 : Int32) + (1 : Int32)) = (2 : Int32) from by decide]
    refine XS.iinc X16.here hx rfl (hb hby d5_35) rfl (l' := (own_l13 asr ads cb)) rfl ?_
    show Steps  p.tables e below (T16.setTop (mkF m 38 #[.val (.ref asr), .val (.int (2 : Int32)), .val (.ref ads), .val (.int ((1 : Int32) + (1 : Int32))), .val (.int (3 : Int32)), .val (.int (1 : Int32)), .val (.int cb)] [])) _
    rw [show ((1 : Int32) + (1 : Int32)) = (2 : Int32) from by decide]
    refine XS.iinc X16.here hx rfl (hb hby d5_38) rfl (l' := (own_l14 asr ads cb)) rfl ?_
    show Steps  p.tables e below (T16.setTop (mkF m 41 #[.val (.ref asr), .val (.int (2 : Int32)), .val (.ref ads), .val (.int (2 : Int32)), .val (.int (3 : Int32)), .val (.int ((1 : Int32) + (1 : Int32))), .val (.int cb)] [])) _
    rw [show ((1 : Int32) + (1 : Int32)) = (2 : Int32) from by decide]
    refine XS.goto X16.here hx rfl (pc0 := 41) (pc' := 3) rfl (hb hby d5_41) (by decide) (by decide) ?_
    refine XS.iload X16.here hx rfl (hb hby d5_3) rfl ?_
    refine XS.iload X16.here hx rfl (hb hby d5_5) rfl ?_
    refine XS.icmpNo X16.here hx rfl (hb hby d5_7) rfl (tlt (by decide : (2 : Int32) < (3 : Int32))).2.1 ?_
    refine XS.aloadN X16.here hx rfl (hb hby d5_10) rfl rfl ?_
    refine XS.iloadN X16.here hx rfl (hb hby d5_11) rfl ?_
    show Steps p.tables e below (T16.setTop (mkF m 12 #[.val (.ref asr), .val (.int (2 : Int32)), .val (.ref ads), .val (.int (2 : Int32)), .val (.int (3 : Int32)), .val (.int (2 : Int32)), .val (.int cb)] [(.int (2 : Int32)), (.ref asr)])) _
    obtain ⟨cl17, Ar17, q17, S17, N17, H17, G17⟩ := id Vs_16
    have hin17 : ¬ ((2 : Int32) < 0 ∨ cl17.slots.size ≤ ((2 : Int32)).toNatClampNeg) := inb_of S17 ⟨by decide, by decide⟩
    refine X16.caload hx (j := (2 : Int32)) (v := (.int cd)) (by rw [e16]; exact Ar17.1) (State.isArrayOf_alike hZ.alike Ar17.2.1) Ar17.2.2 hin17 (H17.at hin17 rfl) (g := (mkF m 12 #[.val (.ref asr), .val (.int (2 : Int32)), .val (.ref ads), .val (.int (2 : Int32)), .val (.int (3 : Int32)), .val (.int (2 : Int32)), .val (.int cb)] [(.int (2 : Int32)), (.ref asr)])) rfl rfl (hb hby d5_12) _ ?_
    refine XS.istore X16.here hx rfl (hb hby d5_13) rfl (l' := #[.val (.ref asr), .val (.int (2 : Int32)), .val (.ref ads), .val (.int (2 : Int32)), .val (.int (3 : Int32)), .val (.int (2 : Int32)), .val (.int cd)]) rfl ?_
    refine XS.iload X16.here hx rfl (hb hby d5_15) rfl ?_
    refine XS.sipush X16.here hx rfl (hb hby d5_17) ?_
    refine XS.icmpYes X16.here hx rfl (pc0 := 20) (pc' := 26) rfl (hb hby d5_20) rfl (flt (own_ch_le cd hp_cd)).2.2.2 (by decide) (by decide) ?_
    refine XS.aloadN X16.here hx rfl (hb hby d5_26) rfl rfl ?_
    refine XS.iloadN X16.here hx rfl (hb hby d5_27) rfl ?_
    refine XS.iload X16.here hx rfl (hb hby d5_28) rfl ?_
    refine XS.i2b X16.here hx rfl (hb hby d5_30) rfl ?_
    show Steps p.tables e below (T16.setTop (mkF m 31 #[.val (.ref asr), .val (.int (2 : Int32)), .val (.ref ads), .val (.int (2 : Int32)), .val (.int (3 : Int32)), .val (.int (2 : Int32)), .val (.int cd)] [(.int (cd.toInt8.toInt32)), (.int (2 : Int32)), (.ref ads)])) _
    rw [own_ch_b cd hp_cd]
    exact k
  obtain ⟨cl18, Ar18, q18, S18, N18, H18, G18⟩ := V16
  have hin18 : ¬ ((2 : Int32) < 0 ∨ cl18.slots.size ≤ ((2 : Int32)).toNatClampNeg) := inb_of S18 ⟨by decide, by decide⟩
  obtain ⟨T18, h18, X18, e18, W18, st18⟩ := stB X16 hx hZ e16 Ar18 (j := (2 : Int32)) hin18 (g := (mkF m 31 #[.val (.ref asr), .val (.int (2 : Int32)), .val (.ref ads), .val (.int (2 : Int32)), .val (.int (3 : Int32)), .val (.int (2 : Int32)), .val (.int cd)] [(.int cd), (.int (2 : Int32)), (.ref ads)])) rfl rfl (hb hby d5_31)
  have V18 : Arv Z h18 ads kd .byte (3 : Int32) [(.int ca), (.int cb), (.int cd)] (.int (0 : Int32)) := by have q := Arv.set Ar18 q18 S18 N18 H18 G18 (fits_nar_byte _) W18 2 rfl (Nat.le_of_ble_eq_true rfl); (first | rw [own_ch_nb cd hp_cd] at q | rw [own_ch_b cd hp_cd] at q); exact q
  have Kc18 : Keep h0 h18 [ads] := Kc16.wr W18 (Or.inl (List.mem_of_getElem? (i := 0) rfl))
  have N18 := Fr.snoc X18 N16 gd
  refine own_pre (fun t k => st18 t k) ?_
  refine own_pre (A := (T18.setTop (mkF m 46 #[.val (.ref asr), .val (.int (3 : Int32)), .val (.ref ads), .val (.int (3 : Int32)), .val (.int (3 : Int32)), .val (.int (3 : Int32)), .val (.int cd)] [(.int (3 : Int32))]))) ?_ ?_
  · intro t k
    refine XS.iinc X18.here hx rfl (hb hby d5_32) rfl (l' := (own_l15 asr ads cd)) rfl ?_
    show Steps  p.tables e below (T18.setTop (mkF m 35 #[.val (.ref asr), .val (.int ((2 : Int32) + (1 : Int32))), .val (.ref ads), .val (.int (2 : Int32)), .val (.int (3 : Int32)), .val (.int (2 : Int32)), .val (.int cd)] [])) _
    rw [show ((2 : Int32) + (1 : Int32)) = (3 : Int32) from by decide]
    refine XS.iinc X18.here hx rfl (hb hby d5_35) rfl (l' := (own_l16 asr ads cd)) rfl ?_
    show Steps  p.tables e below (T18.setTop (mkF m 38 #[.val (.ref asr), .val (.int (3 : Int32)), .val (.ref ads), .val (.int ((2 : Int32) + (1 : Int32))), .val (.int (3 : Int32)), .val (.int (2 : Int32)), .val (.int cd)] [])) _
    rw [show ((2 : Int32) + (1 : Int32)) = (3 : Int32) from by decide]
    refine XS.iinc X18.here hx rfl (hb hby d5_38) rfl (l' := (own_l17 asr ads cd)) rfl ?_
    show Steps  p.tables e below (T18.setTop (mkF m 41 #[.val (.ref asr), .val (.int (3 : Int32)), .val (.ref ads), .val (.int (3 : Int32)), .val (.int (3 : Int32)), .val (.int ((2 : Int32) + (1 : Int32))), .val (.int cd)] [])) _
    rw [show ((2 : Int32) + (1 : Int32)) = (3 : Int32) from by decide]
    refine XS.goto X18.here hx rfl (pc0 := 41) (pc' := 3) rfl (hb hby d5_41) (by decide) (by decide) ?_
    refine XS.iload X18.here hx rfl (hb hby d5_3) rfl ?_
    refine XS.iload X18.here hx rfl (hb hby d5_5) rfl ?_
    refine XS.icmpYes X18.here hx rfl (pc0 := 7) (pc' := 44) rfl (hb hby d5_7) rfl (flt (by decide : ¬ ((3 : Int32) < (3 : Int32)))).2.1 (by decide) (by decide) ?_
    refine XS.iload X18.here hx rfl (hb hby d5_44) rfl ?_
    exact k
  obtain ⟨fs, hr, hrun, hended, hW, hsame⟩ := X18.leave (hlocks := BodyLoose.notSynchronized Bd) (v := some (.int (3 : Int32))) (fun h => by rw [Bd.returns] at h; cases h)
  refine ⟨_, _, retOut X18 hx Bd.returns rfl (Or.inl ⟨rfl, Or.inl rfl, _, rfl⟩) (hb hby d5_46) hr, hrun, hended, _, _, rfl, ?_, ⟨_, rfl⟩, hW, hsame.mono (by decide) (by decide)⟩
  show own_Q5_3 Z asr ads ks kd ca cb cd h0 n0 _ T18.heap _
  rw [e18]
  exact ⟨N18, rfl, Kc18, V18⟩
def own_Q4_3 (Z : State) (asr : Addr) (ks : ClassId) (ca : Int32) (cb : Int32) (cd : Int32) (h0 : Heap) (n0 : Nat) (v : Option Value) (h : Heap) (L : List Loc) : Prop := Fr n0 L ∧ ∃ (ad : Addr) (kd : ClassId), v = some (.ref ad) ∧ n0 ≤ ad ∧ h0.size ≤ ad ∧ Arv Z h ad kd .byte (3 : Int32) [(.int ca), (.int cb), (.int cd)] (.int (0 : Int32)) ∧ Keep h0 h []
set_option maxRecDepth 65536 in
set_option maxHeartbeats 40000000 in
theorem rm4_3 (l : Launch) (Z : State) (a0 : Array Value) (hw : ∀ d ∈ tables_1, d.before a0 Z = true) (ws : List Jvm.Cond) (asr : Addr) (ks : ClassId) (ca : Int32) (cb : Int32) (cd : Int32) (h0 : Heap) (n0 : Nat) (Z0 : n0 ≤ h0.size) (Vs : Arv Z h0 asr ks .char (3 : Int32) [(.int ca), (.int cb), (.int cd)] (.int (0 : Int32))) (hp_ca : 0 ≤ ca.toInt ∧ ca.toInt < 128) (hp_cb : 0 ≤ cb.toInt ∧ cb.toInt < 128) (hp_cd : 0 ≤ cd.toInt ∧ cd.toInt < 128) :
    MetFree l (⟨"java/lang/StringUTF16", "compress", "([CII)[B"⟩ : MethodName) (head1 (Jvm.Cond.code (⟨"java/lang/StringUTF16", "compress", "([CII)[B"⟩ : MethodName) jdk_52_method_16_code 6 (some (.array .byte)) :: ws) ({ frames := 1, cells := 1, slots := 3, locals := 18 } : Room)) (fun a U => a = #[(.ref asr), (.int (0 : Int32)), (.int (3 : Int32))] ∧ Z.Warmed39 U.vm ∧ U.heap = h0) (fun _ _ _ _ _ => True) (fun _ U o U' => ∃ v L, o = .returned v ∧ own_Q4_3 Z asr ks ca cb cd h0 n0 v U'.heap L ∧ FrameEnd U o U' L ({ frames := 1, cells := 1, slots := 3, locals := 18 } : Room).cells ({ frames := 1, cells := 1, slots := 3, locals := 18 } : Room).slots) := by
  refine MetFree.of_bodySF (plainFor_of_name own_pn4) hisR ?_
  intro p e s m args below meth c s₁ Bd hml0 hP hK
  obtain ⟨rfl, hZ, hh⟩ := hP
  have hx := Bd.exec
  have hby := Bd.bytes
  have hml : c.maxLocals = 6 := hml0
  have hown : s.vm.findClass "java/lang/StringUTF16" = some m.cls := findClass_of_methodNamed Bd.named
  have hnm := (name_of_methodNamed Bd.named Bd.method).1
  have X0 : Stand p l e ({ frames := 1, cells := 1, slots := 3, locals := 18 } : Room) s m #[(.ref asr), (.int (0 : Int32)), (.int (3 : Int32))] below meth c s₁ [] 0 0 := Stand.of_body Bd
  have e0 : s₁.heap = h0 := by rw [← hh, Bd.state]; rfl
  have N0 := Fr.nil n0
  refine own_pre (A := (s₁.setTop (mkF m 0 #[.val (.ref asr), .val (.int (0 : Int32)), .val (.int (3 : Int32)), .unset, .unset, .unset] []))) (fun t k => castTop (own_ef4 m asr (0 : Int32) (3 : Int32)) k) ?_
  refine own_pre (A := (s₁.setTop (mkF m 1 #[.val (.ref asr), .val (.int (0 : Int32)), .val (.int (3 : Int32)), .unset, .unset, .unset] [(.int (3 : Int32))]))) ?_ ?_
  · intro t k
    refine XS.iloadN X0.here hx rfl (hb hby d4_0) rfl ?_
    exact k
  obtain ⟨T19, h19, k19, X19, e19, E19, A19, st19⟩ := newP X0 hx hZ (own_w hw 19 rfl) e0 (g := (mkF m 1 #[.val (.ref asr), .val (.int (0 : Int32)), .val (.int (3 : Int32)), .unset, .unset, .unset] [(.int (3 : Int32))])) rfl (hb hby d4_1) rfl (by decide) (cap := 3) (by decide) (by decide) (by decide) (by decide)
  obtain ⟨b19, g19⟩ : ∃ z, z = h0.size := ⟨_, rfl⟩
  rw [← g19] at A19 st19
  have ne_asr_b19 : asr ≠ b19 := Nat.ne_of_lt (Nat.lt_of_lt_of_le Vs.lt (Nat.le_of_eq g19.symm))
  have gn_b19 : n0 ≤ b19 := Nat.le_trans Z0 (Nat.le_of_eq g19.symm)
  have sz_b19 : h0.size ≤ b19 := Nat.le_trans (Keep.refl h0 []).1 (Nat.le_of_eq g19.symm)
  have Vs_19 := Vs.ext E19
  have Zs19 : n0 ≤ h19.size := Nat.le_trans Z0 E19.1
  have Kc19 : Keep h0 h19 [] := (Keep.refl h0 []).ext E19
  have V19 : Arv Z h19 b19 k19 .byte (3 : Int32) [(.int (0 : Int32)), (.int (0 : Int32)), (.int (0 : Int32))] (.int (0 : Int32)) := (Arv.new A19 (by decide)).pad (pad_rep [] (.int (0 : Int32)) 3)
  refine own_pre (fun t k => st19 t k) ?_
  refine own_pre (A := (T19.setTop (mkF m 9 #[.val (.ref asr), .val (.int (0 : Int32)), .val (.int (3 : Int32)), .val (.ref b19), .unset, .unset] [(.int (3 : Int32)), (.int (0 : Int32)), (.ref b19), (.int (0 : Int32)), (.ref asr)]))) ?_ ?_
  · intro t k
    refine XS.astoreN X19.here hx rfl (hb hby d4_3) rfl rfl (l' := #[.val (.ref asr), .val (.int (0 : Int32)), .val (.int (3 : Int32)), .val (.ref b19), .unset, .unset]) rfl ?_
    refine XS.aloadN X19.here hx rfl (hb hby d4_4) rfl rfl ?_
    refine XS.iloadN X19.here hx rfl (hb hby d4_5) rfl ?_
    refine XS.aloadN X19.here hx rfl (hb hby d4_6) rfl rfl ?_
    refine XS.iconst X19.here hx rfl (hb hby d4_7) ?_
    refine XS.iloadN X19.here hx rfl (hb hby d4_8) rfl ?_
    exact k
  obtain ⟨_, _, ⟨T20, L20, k20, n20⟩, -, X20, ⟨Lc20, hQ20, l20, y20, z20⟩, st20⟩ := Jvm.LawKit.callS X19 hx (y := (⟨"java/lang/StringUTF16", "compress", "([CI[BII)I"⟩ : MethodName)) hown (mvT hZ (own_w hw 20 rfl)) (mvT hZ (own_w hw 21 rfl)) (mvT hZ (own_w hw 17 rfl)) (mvT hZ (own_w hw 22 rfl)) (by decide) (backOf (W := 0) (rm5_3 l Z a0 hw [] asr b19 ks k19 ca cb cd h19 n0 Zs19 Vs_19 V19 gn_b19 ne_asr_b19 hp_ca hp_cb hp_cd) hZ (own_w hw 22 rfl) (own_w hw 17 rfl) (by decide) (by decide)) (g := (mkF m 9 #[.val (.ref asr), .val (.int (0 : Int32)), .val (.int (3 : Int32)), .val (.ref b19), .unset, .unset] [(.int (3 : Int32)), (.int (0 : Int32)), (.ref b19), (.int (0 : Int32)), (.ref asr)])) rfl (by rw [hml]; rfl) (argsL := [(.ref asr), (.int (0 : Int32)), (.ref b19), (.int (0 : Int32)), (.int (3 : Int32))]) (rest := []) (lenOf own_pd0 rfl) rfl (by show 2 * 0 + _ ≤ _; exact Nat.le_of_eq rfl) (hb hby d4_9) (fun _ _ => ⟨rfl, e19, (by decide : 1 + 0 ≤ _), (by decide : 3 + 0 ≤ _)⟩)
  dsimp only [Pt.U, Pt.locs, Pt.cells, Pt.slots] at X20 l20 y20 z20 st20 hQ20
  replace y20 : _ = 1 := y20
  replace z20 : _ = 3 := z20
  subst y20 z20
  obtain ⟨Nq20, rfl, Kq20, Vq20⟩ := hQ20
  have N20 := own_frl l20 N0 Nq20
  refine own_pre (fun t k => st20 t k) ?_
  have Kc20 : Keep h0 T20.heap [] := Kc19.trans Kq20 (allS (Or.inr sz_b19) all0)
  refine own_pre (A := (T20.setTop (mkF m 58 #[.val (.ref asr), .val (.int (0 : Int32)), .val (.int (3 : Int32)), .val (.ref b19), .val (.int (3 : Int32)), .unset] [(.ref b19)]))) ?_ ?_
  · intro t k
    refine XS.istore X20.here hx rfl (hb hby d4_12) rfl (l' := #[.val (.ref asr), .val (.int (0 : Int32)), .val (.int (3 : Int32)), .val (.ref b19), .val (.int (3 : Int32)), .unset]) rfl ?_
    refine XS.iload X20.here hx rfl (hb hby d4_14) rfl ?_
    refine XS.iloadN X20.here hx rfl (hb hby d4_16) rfl ?_
    refine XS.icmpYes X20.here hx rfl (pc0 := 17) (pc' := 57) rfl (hb hby d4_17) rfl (teq (by decide : (3 : Int32) = (3 : Int32))).1 (by decide) (by decide) ?_
    refine XS.aloadN X20.here hx rfl (hb hby d4_57) rfl rfl ?_
    exact k
  obtain ⟨fs, hr, hrun, hended, hW, hsame⟩ := X20.leave (hlocks := BodyLoose.notSynchronized Bd) (v := some (.ref b19)) (fun h => by rw [Bd.returns] at h; cases h)
  refine ⟨_, _, retOut X20 hx Bd.returns rfl (Or.inr (Or.inr (Or.inr (Or.inr ⟨rfl, rfl, rfl⟩)))) (hb hby d4_58) hr, hrun, hended, _, _, rfl, ?_, ⟨_, rfl⟩, hW, hsame.mono (by decide) (by decide)⟩
  show own_Q4_3 Z asr ks ca cb cd h0 n0 _ T20.heap _
  exact ⟨N20, b19, k19, rfl, gn_b19, sz_b19, Vq20, Kc20⟩
def own_Q6_3 (Z : State) (ad : Addr) (kd : ClassId) (ca : Int32) (cb : Int32) (cd : Int32) (h0 : Heap) (n0 : Nat) (v : Option Value) (h : Heap) (L : List Loc) : Prop := Fr n0 L ∧ v = some (.int (0 : Int32)) ∧ h = h0
set_option maxRecDepth 65536 in
set_option maxHeartbeats 40000000 in
theorem rm6_3 (l : Launch) (Z : State) (a0 : Array Value) (hw : ∀ d ∈ tables_1, d.before a0 Z = true) (ws : List Jvm.Cond) (ad : Addr) (kd : ClassId) (ca : Int32) (cb : Int32) (cd : Int32) (h0 : Heap) (n0 : Nat) (Z0 : n0 ≤ h0.size) (Vd : Arv Z h0 ad kd .byte (3 : Int32) [(.int ca), (.int cb), (.int cd)] (.int (0 : Int32))) :
    MetFree l (⟨"java/lang/StringUTF16", "coderFromArrayLen", "([BI)B"⟩ : MethodName) (head1 (Jvm.Cond.code (⟨"java/lang/StringUTF16", "coderFromArrayLen", "([BI)B"⟩ : MethodName) jdk_52_method_15_code 2 (some .byte) :: ws) ({ frames := 0, cells := 0, slots := 0, locals := 0 } : Room)) (fun a U => a = #[(.ref ad), (.int (3 : Int32))] ∧ Z.Warmed39 U.vm ∧ U.heap = h0) (fun _ _ _ _ _ => True) (fun _ U o U' => ∃ v L, o = .returned v ∧ own_Q6_3 Z ad kd ca cb cd h0 n0 v U'.heap L ∧ FrameEnd U o U' L ({ frames := 0, cells := 0, slots := 0, locals := 0 } : Room).cells ({ frames := 0, cells := 0, slots := 0, locals := 0 } : Room).slots) := by
  refine MetFree.of_bodySF (plainFor_of_name own_pn6) hisR ?_
  intro p e s m args below meth c s₁ Bd hml0 hP hK
  obtain ⟨rfl, hZ, hh⟩ := hP
  have hx := Bd.exec
  have hby := Bd.bytes
  have hml : c.maxLocals = 2 := hml0
  have hown : s.vm.findClass "java/lang/StringUTF16" = some m.cls := findClass_of_methodNamed Bd.named
  have hnm := (name_of_methodNamed Bd.named Bd.method).1
  have X0 : Stand p l e ({ frames := 0, cells := 0, slots := 0, locals := 0 } : Room) s m #[(.ref ad), (.int (3 : Int32))] below meth c s₁ [] 0 0 := Stand.of_body Bd
  have e0 : s₁.heap = h0 := by rw [← hh, Bd.state]; rfl
  have N0 := Fr.nil n0
  refine own_pre (A := (s₁.setTop (mkF m 0 #[.val (.ref ad), .val (.int (3 : Int32))] []))) (fun t k => castTop (own_ef6 m ad (3 : Int32)) k) ?_
  refine own_pre (A := (s₁.setTop (mkF m 8 #[.val (.ref ad), .val (.int (3 : Int32))] [(.int (0 : Int32))]))) ?_ ?_
  · intro t k
    refine XS.iloadN X0.here hx rfl (hb hby d6_0) rfl ?_
    refine XS.aloadN X0.here hx rfl (hb hby d6_1) rfl rfl ?_
    show Steps p.tables e below (s₁.setTop (mkF m 2 #[.val (.ref ad), .val (.int (3 : Int32))] [(.ref ad), (.int (3 : Int32))])) _
    obtain ⟨cl21, Ar21, -, S21, N21, -, -⟩ := id Vd
    refine X0.arraylength hx (by rw [e0]; exact Ar21.1) (State.isArrayOf_alike hZ.alike Ar21.2.1) (g := (mkF m 2 #[.val (.ref ad), .val (.int (3 : Int32))] [(.ref ad), (.int (3 : Int32))])) rfl rfl (hb hby d6_2) _ ?_
    rw [len_of S21 N21]
    refine XS.isub X0.here hx rfl (hb hby d6_3) rfl ?_
    show Steps p.tables e below (s₁.setTop (mkF m 4 #[.val (.ref ad), .val (.int (3 : Int32))] [(.int ((3 : Int32) - (3 : Int32)))])) _
    rw [show ((3 : Int32) - (3 : Int32)) = (0 : Int32) from by decide]
    refine XS.bipush X0.here hx rfl (hb hby d6_4) ?_
    refine XS.iushr X0.here hx rfl (hb hby d6_6) rfl ?_
    show Steps p.tables e below (s₁.setTop (mkF m 7 #[.val (.ref ad), .val (.int (3 : Int32))] [(.int (((0 : Int32).toUInt32 >>> ((31 : Int32) &&& 31).toUInt32).toInt32))])) _
    rw [show (((0 : Int32).toUInt32 >>> ((31 : Int32) &&& 31).toUInt32).toInt32) = (0 : Int32) from by decide]
    refine XS.i2b X0.here hx rfl (hb hby d6_7) rfl ?_
    show Steps p.tables e below (s₁.setTop (mkF m 8 #[.val (.ref ad), .val (.int (3 : Int32))] [(.int ((0 : Int32).toInt8.toInt32))])) _
    rw [show ((0 : Int32).toInt8.toInt32) = (0 : Int32) from by decide]
    exact k
  obtain ⟨fs, hr, hrun, hended, hW, hsame⟩ := X0.leave (hlocks := BodyLoose.notSynchronized Bd) (v := some (.int (0 : Int32))) (fun h => by rw [Bd.returns] at h; cases h)
  refine ⟨_, _, retOut X0 hx Bd.returns rfl (Or.inl ⟨rfl, Or.inr (Or.inr (Or.inl rfl)), _, rfl⟩) (hb hby d6_8) hr, hrun, hended, _, _, rfl, ?_, ⟨_, rfl⟩, hW, hsame.mono (by decide) (by decide)⟩
  show own_Q6_3 Z ad kd ca cb cd h0 n0 _ s₁.heap _
  rw [e0]
  exact ⟨N0, rfl, rfl⟩
theorem d2_0 : decode jdk_42_method_149_code 0 = .ok (.aload_n 0, 1) := by decide +kernel
theorem d2_1 : decode jdk_42_method_149_code 1 = .ok (.invokespecial 1, 3) := by decide +kernel
theorem d2_4 : decode jdk_42_method_149_code 4 = .ok (.iload_n 3, 1) := by decide +kernel
theorem d2_5 : decode jdk_42_method_149_code 5 = .ok (.ifCond .ne 22, 3) := by decide +kernel
theorem d2_8 : decode jdk_42_method_149_code 8 = .ok (.aload_n 0, 1) := by decide +kernel
theorem d2_9 : decode jdk_42_method_149_code 9 = .ok (.ldc 7, 2) := by decide +kernel
theorem d2_11 : decode jdk_42_method_149_code 11 = .ok (.getfield 9, 3) := by decide +kernel
theorem d2_14 : decode jdk_42_method_149_code 14 = .ok (.putfield 9, 3) := by decide +kernel
theorem d2_17 : decode jdk_42_method_149_code 17 = .ok (.aload_n 0, 1) := by decide +kernel
theorem d2_18 : decode jdk_42_method_149_code 18 = .ok (.ldc 7, 2) := by decide +kernel
theorem d2_20 : decode jdk_42_method_149_code 20 = .ok (.getfield 15, 3) := by decide +kernel
theorem d2_23 : decode jdk_42_method_149_code 23 = .ok (.putfield 15, 3) := by decide +kernel
theorem d2_26 : decode jdk_42_method_149_code 26 = .ok (.return_, 1) := by decide +kernel
theorem d2_27 : decode jdk_42_method_149_code 27 = .ok (.getstatic 38, 3) := by decide +kernel
theorem d2_30 : decode jdk_42_method_149_code 30 = .ok (.ifCond .eq 28, 3) := by decide +kernel
theorem d2_33 : decode jdk_42_method_149_code 33 = .ok (.aload_n 1, 1) := by decide +kernel
theorem d2_34 : decode jdk_42_method_149_code 34 = .ok (.iload_n 2, 1) := by decide +kernel
theorem d2_35 : decode jdk_42_method_149_code 35 = .ok (.iload_n 3, 1) := by decide +kernel
theorem d2_36 : decode jdk_42_method_149_code 36 = .ok (.invokestatic 177, 3) := by decide +kernel
theorem d2_39 : decode jdk_42_method_149_code 39 = .ok (.astore 5, 2) := by decide +kernel
theorem d2_41 : decode jdk_42_method_149_code 41 = .ok (.aload_n 0, 1) := by decide +kernel
theorem d2_42 : decode jdk_42_method_149_code 42 = .ok (.aload 5, 2) := by decide +kernel
theorem d2_44 : decode jdk_42_method_149_code 44 = .ok (.iload_n 3, 1) := by decide +kernel
theorem d2_45 : decode jdk_42_method_149_code 45 = .ok (.invokestatic 47, 3) := by decide +kernel
theorem d2_48 : decode jdk_42_method_149_code 48 = .ok (.putfield 15, 3) := by decide +kernel
theorem d2_51 : decode jdk_42_method_149_code 51 = .ok (.aload_n 0, 1) := by decide +kernel
theorem d2_52 : decode jdk_42_method_149_code 52 = .ok (.aload 5, 2) := by decide +kernel
theorem d2_54 : decode jdk_42_method_149_code 54 = .ok (.putfield 9, 3) := by decide +kernel
theorem d2_57 : decode jdk_42_method_149_code 57 = .ok (.return_, 1) := by decide +kernel
theorem own_pn2 : plainName "java/lang/String" = true := by first | (simp [plainName, overriddenIn]; done) | decide +kernel
theorem own_ef2n (m : MethodId) (x0 : Addr) (x1 : Addr) (x2 : Int32) (x3 : Int32) : entryFrame m #[(.ref x0), (.ref x1), (.int x2), (.int x3), .null] 6 = mkF m 0 #[.val (.ref x0), .val (.ref x1), .val (.int x2), .val (.int x3), .val .null, .unset] [] := by first | (simp [entryFrame, mkF, argsToLocals, Value.category]; done) | rfl
def own_Q2_0 (Z : State) (ax : Addr) (asr : Addr) (ks : ClassId) (pG : Int32) (h0 : Heap) (n0 : Nat) (v : Option Value) (h : Heap) (L : List Loc) : Prop := v = none ∧ Fr n0 L ∧ Keep h0 h [ax] ∧ ∃ (ad : Addr) (kd : ClassId), Fld Z h ax "java/lang/String" "value" "[B" (.ref ad) ∧ Fld Z h ax "java/lang/String" "coder" "B" (.int (0 : Int32)) ∧ Arv Z h ad kd .byte (0 : Int32) [] (.int (0 : Int32)) ∧ ax ≠ ad
set_option maxRecDepth 65536 in
set_option maxHeartbeats 40000000 in
theorem rm2_0 (l : Launch) (Z : State) (a0 : Array Value) (hw : ∀ d ∈ tables_1, d.before a0 Z = true) (ws : List Jvm.Cond) (ax : Addr) (asr : Addr) (ks : ClassId) (pG : Int32) (h0 : Heap) (n0 : Nat) (Z0 : n0 ≤ h0.size) (hEL : EW Z a0 own_EL) (Ea : Exa Z h0 ax "java/lang/String") (Fv : Fld Z h0 ax "java/lang/String" "value" "[B" .null) (Fc : Fld Z h0 ax "java/lang/String" "coder" "B" (.int (0 : Int32))) (ga : n0 ≤ ax) (Vs : Arv Z h0 asr ks .char (0 : Int32) [] (.int (0 : Int32))) (nas : ax ≠ asr) (O2 : Sta Z Z.heap "java/lang/String" "COMPACT_STRINGS" "Z" (.int pG)) (hG : ¬ pG = (0 : Int32)) (X00 : Old Z n0 h0) :
    MetFree l (⟨"java/lang/String", "<init>", "([CIILjava/lang/Void;)V"⟩ : MethodName) (head1 (Jvm.Cond.code (⟨"java/lang/String", "<init>", "([CIILjava/lang/Void;)V"⟩ : MethodName) jdk_42_method_149_code 6 none :: ws) ({ frames := 1, cells := 2, slots := 4, locals := 12 } : Room)) (fun a U => a = #[(.ref ax), (.ref asr), (.int (0 : Int32)), (.int (0 : Int32)), .null] ∧ Z.Warmed39 U.vm ∧ U.heap = h0 ∧ CHv Z own_EL U.vm h0 ∧ Safe Z own_EL U.vm h0 ax) (fun _ _ _ _ _ => True) (fun _ U o U' => ∃ v L, o = .returned v ∧ own_Q2_0 Z ax asr ks pG h0 n0 v U'.heap L ∧ ReturnedEndW U o U' L ({ frames := 1, cells := 2, slots := 4, locals := 12 } : Room).cells ({ frames := 1, cells := 2, slots := 4, locals := 12 } : Room).slots) := by
  refine MetFree.of_bodySF (plainFor_of_name own_pn2) hisR ?_
  intro p e s m args below meth c s₁ Bd hml0 hP hK
  obtain ⟨rfl, hZ, hh, CH0, sfa⟩ := hP
  have hx := Bd.exec
  have hby := Bd.bytes
  have hml : c.maxLocals = 6 := hml0
  have hown : s.vm.findClass "java/lang/String" = some m.cls := findClass_of_methodNamed Bd.named
  have hnm := (name_of_methodNamed Bd.named Bd.method).1
  have own_wS' : ∀ d ∈ Bundle.stringAtoms, d.before a0 Z = true := fun d hd => hw d (own_wS d hd)
  have X0 : Stand p l e ({ frames := 1, cells := 2, slots := 4, locals := 12 } : Room) (s.setVm s.vm) m #[(.ref ax), (.ref asr), (.int (0 : Int32)), (.int (0 : Int32)), .null] below meth c s₁ [] 0 0 := Stand.of_body Bd
  have e0 : s₁.heap = h0 := by rw [← hh, Bd.state]; rfl
  have N0 := Fr.nil n0
  have hS0 : s.Since s.vm 0 := (State.WarmedH.refl s).since 0
  have hk0 : 0 ≤ h0.size := Nat.zero_le _
  refine own_pre (A := (s₁.setTop (mkF m 0 #[.val (.ref ax), .val (.ref asr), .val (.int (0 : Int32)), .val (.int (0 : Int32)), .val .null, .unset] []))) (fun t k => castTop (own_ef2n m ax asr (0 : Int32) (0 : Int32)) k) ?_
  refine own_pre (A := (s₁.setTop (mkF m 1 #[.val (.ref ax), .val (.ref asr), .val (.int (0 : Int32)), .val (.int (0 : Int32)), .val .null, .unset] [(.ref ax)]))) ?_ ?_
  · intro t k
    refine XS.aloadN X0.here hx rfl (hb hby d2_0) rfl rfl ?_
    exact k
  obtain ⟨T22, X22, e22, st22⟩ := initO X0 hx hZ hown (own_w hw 11 rfl) (own_w hw 12 rfl) (own_w hw 13 rfl) e0 (g := (mkF m 1 #[.val (.ref ax), .val (.ref asr), .val (.int (0 : Int32)), .val (.int (0 : Int32)), .val .null, .unset] [(.ref ax)])) rfl (by rw [hml]; rfl) rfl (hb hby d2_1) (by decide) (W := 0) (by show 2 * 0 + _ ≤ _; exact Nat.le_of_eq rfl) (by decide)
  refine own_pre (fun t k => st22 t k) ?_
  refine own_pre (A := (T22.setTop (mkF m 9 #[.val (.ref ax), .val (.ref asr), .val (.int (0 : Int32)), .val (.int (0 : Int32)), .val .null, .unset] [(.ref ax)]))) ?_ ?_
  · intro t k
    refine XS.iloadN X22.here hx rfl (hb hby d2_4) rfl ?_
    refine XS.ifNo X22.here hx rfl (hb hby d2_5) rfl ((if0 _ _).trans (teq (by decide : (0 : Int32) = (0 : Int32))).2) ?_
    refine XS.aloadN X22.here hx rfl (hb hby d2_8) rfl rfl ?_
    exact k
  obtain ⟨a23, T23, h23, k23, b23, kb23, X23, e23, E23, hS23, hk23, hZ23, hown23, Ea23, Fc23, Fv23, Vb23, la23, lb23, hC23, hL23, hne23, st23⟩ := ldcCH (s := s) (vm0 := s.vm) X22 hx hZ hown (own_w hw 83 rfl) own_wS' e22 hS0 hk0 hEL (List.mem_of_getElem? (i := 0) rfl) CH0 (vs := []) (z := (0 : Int32)) ⟨fun c hc => (by cases hc), rfl⟩ (by decide) (by decide) (g := (mkF m 9 #[.val (.ref ax), .val (.ref asr), .val (.int (0 : Int32)), .val (.int (0 : Int32)), .val .null, .unset] [(.ref ax)])) rfl (hb hby d2_9) (n := 0) (by decide) (by decide) (by decide) (by decide)
  have Ea_23 := Ea.ext E23
  have Fv_23 := Fv.ext E23
  have Fc_23 := Fc.ext E23
  have Kc23 : Keep h0 h23 [ax] := (Keep.refl h0 [ax]).ext E23
  refine own_pre (fun t k => st23 t k) ?_
  have sf_ax_23 := hC23.safe Ea.lt sfa
  have ne_ax_a23 := (hne23 _ sf_ax_23).1
  have ne_ax_b23 := (hne23 _ sf_ax_23).2
  obtain ⟨T24, X24, e24, st24⟩ := getF X23 hx hZ23 hown23 (host := "") (Or.inl (own_w hw 28 rfl)) Via.refl e23 Fv23 (g := (mkF m 11 #[.val (.ref ax), .val (.ref asr), .val (.int (0 : Int32)), .val (.int (0 : Int32)), .val .null, .unset] [(.ref a23), (.ref ax)])) rfl rfl (hb hby d2_11)
  refine own_pre (fun t k => st24 t k) ?_
  obtain ⟨T25, h25, X25, e25, W25, st25⟩ := putF X24 hx hZ23 hown23 (host := "") (Or.inl (own_w hw 28 rfl)) Via.refl e24 Fv_23 Ea_23 (Or.inr ⟨(own_w hw 29 rfl), rfl, hnm⟩) (own_w hw 1 rfl) (ty := (.array .byte)) (by decide) rfl rfl (g := (mkF m 14 #[.val (.ref ax), .val (.ref asr), .val (.int (0 : Int32)), .val (.int (0 : Int32)), .val .null, .unset] [(.ref b23), (.ref ax)])) rfl rfl (hb hby d2_14)
  have Ea_25 := Ea_23.wr W25
  have Fc_25 := Fc_23.other W25 (Or.inr (slot_ne (Or.inr (own_w hw 27 rfl)) (Or.inr (own_w hw 29 rfl)) (by decide) (t := .byte) (t' := (.array .byte)) (by decide) (by decide)))
  have Fc23_25 := Fc23.other W25 (Or.inl ne_ax_a23.symm)
  have Vb23_25 := Vb23.other W25 ne_ax_b23.symm
  have hk25 := Nat.le_trans hk23 (Keep.of_wr W25).1
  have Kc25 : Keep h0 h25 [ax] := Kc23.wr W25 (Or.inl (List.mem_of_getElem? (i := 0) rfl))
  have N25 := Fr.snoc X25 N0 ga
  have Fw25 := Fv_23.same W25
  refine own_pre (fun t k => st25 t k) ?_
  refine own_pre (A := (T25.setTop (mkF m 18 #[.val (.ref ax), .val (.ref asr), .val (.int (0 : Int32)), .val (.int (0 : Int32)), .val .null, .unset] [(.ref ax)]))) ?_ ?_
  · intro t k
    refine XS.aloadN X25.here hx rfl (hb hby d2_17) rfl rfl ?_
    exact k
  refine own_pre (fun t k => ldcAgain (s := s) (vm0 := T23.vm) X25 hx hZ23 hown23 (own_w hw 83 rfl) hL23 (g := (mkF m 18 #[.val (.ref ax), .val (.ref asr), .val (.int (0 : Int32)), .val (.int (0 : Int32)), .val .null, .unset] [(.ref ax)])) rfl (hb hby d2_18) t k) ?_
  obtain ⟨T27, X27, e27, st27⟩ := getF X25 hx hZ23 hown23 (host := "") (Or.inl (own_w hw 26 rfl)) Via.refl e25 Fc23_25 (g := (mkF m 20 #[.val (.ref ax), .val (.ref asr), .val (.int (0 : Int32)), .val (.int (0 : Int32)), .val .null, .unset] [(.ref a23), (.ref ax)])) rfl rfl (hb hby d2_20)
  refine own_pre (fun t k => st27 t k) ?_
  obtain ⟨T28, h28, X28, e28, W28, st28⟩ := putFN X27 hx hZ23 hown23 (own_w hw 26 rfl) Via.refl e27 Fc_25 Ea_25 (Or.inr ⟨(own_w hw 27 rfl), rfl, hnm⟩) (own_w hw 1 rfl) (ty := .byte) (v' := (.int (0 : Int32))) (by decide) rfl rfl (g := (mkF m 23 #[.val (.ref ax), .val (.ref asr), .val (.int (0 : Int32)), .val (.int (0 : Int32)), .val .null, .unset] [(.int (0 : Int32)), (.ref ax)])) rfl rfl (hb hby d2_23)
  have Fw25_28 := Fw25.other W28 (Or.inr (slot_ne (Or.inr (own_w hw 29 rfl)) (Or.inr (own_w hw 27 rfl)) (by decide) (t := (.array .byte)) (t' := .byte) (by decide) (by decide)))
  have Vb23_28 := Vb23_25.other W28 ne_ax_b23.symm
  have hk28 := Nat.le_trans hk25 (Keep.of_wr W28).1
  have Kc28 : Keep h0 h28 [ax] := Kc25.wr W28 (Or.inl (List.mem_of_getElem? (i := 0) rfl))
  have N28 := Fr.snoc X28 N25 ga
  have Fw28 := Fc_25.same W28
  refine own_pre (fun t k => st28 t k) ?_
  obtain ⟨fs, hr, hrun, hended, hRE⟩ := X28.leaveW (hlocks := BodyLoose.notSynchronized Bd) hS23 (by rw [e28]; exact hk28) (v := none) (fun _ => rfl)
  refine ⟨_, _, X28.returnOut hx Bd.returns (hb hby d2_26) hr, hrun, hended, _, _, rfl, ?_, hRE.1, hRE.2.1, hRE.2.2.1, hRE.2.2.2.mono (by decide) (by decide)⟩
  show own_Q2_0 Z ax asr ks pG h0 n0 _ T28.heap _
  rw [e28]
  exact ⟨rfl, N28, Kc28, b23, kb23, Fw25_28, Fw28, Vb23_28, ne_ax_b23⟩
theorem d1_0 : decode jdk_42_method_3_code 0 = .ok (.aload_n 0, 1) := by decide +kernel
theorem d1_1 : decode jdk_42_method_3_code 1 = .ok (.aload_n 1, 1) := by decide +kernel
theorem d1_2 : decode jdk_42_method_3_code 2 = .ok (.iconst 0, 1) := by decide +kernel
theorem d1_3 : decode jdk_42_method_3_code 3 = .ok (.aload_n 1, 1) := by decide +kernel
theorem d1_4 : decode jdk_42_method_3_code 4 = .ok (.arraylength, 1) := by decide +kernel
theorem d1_5 : decode jdk_42_method_3_code 5 = .ok (.aconst_null, 1) := by decide +kernel
theorem d1_6 : decode jdk_42_method_3_code 6 = .ok (.invokespecial 27, 3) := by decide +kernel
theorem d1_9 : decode jdk_42_method_3_code 9 = .ok (.return_, 1) := by decide +kernel
theorem own_pn1 : plainName "java/lang/String" = true := by first | (simp [plainName, overriddenIn]; done) | decide +kernel
theorem own_ef1 (m : MethodId) (x0 : Addr) (x1 : Addr) : entryFrame m #[(.ref x0), (.ref x1)] 2 = mkF m 0 #[.val (.ref x0), .val (.ref x1)] [] := by first | (simp [entryFrame, mkF, argsToLocals, Value.category]; done) | rfl
def own_Q1_0 (Z : State) (ax : Addr) (asr : Addr) (ks : ClassId) (pG : Int32) (h0 : Heap) (n0 : Nat) (v : Option Value) (h : Heap) (L : List Loc) : Prop := v = none ∧ Fr n0 L ∧ Keep h0 h [ax] ∧ ∃ (ad : Addr) (kd : ClassId), Fld Z h ax "java/lang/String" "value" "[B" (.ref ad) ∧ Fld Z h ax "java/lang/String" "coder" "B" (.int (0 : Int32)) ∧ Arv Z h ad kd .byte (0 : Int32) [] (.int (0 : Int32)) ∧ ax ≠ ad
set_option maxRecDepth 65536 in
set_option maxHeartbeats 40000000 in
theorem rm1_0 (l : Launch) (Z : State) (a0 : Array Value) (hw : ∀ d ∈ tables_1, d.before a0 Z = true) (ws : List Jvm.Cond) (ax : Addr) (asr : Addr) (ks : ClassId) (pG : Int32) (h0 : Heap) (n0 : Nat) (Z0 : n0 ≤ h0.size) (hEL : EW Z a0 own_EL) (Ea : Exa Z h0 ax "java/lang/String") (Fv : Fld Z h0 ax "java/lang/String" "value" "[B" .null) (Fc : Fld Z h0 ax "java/lang/String" "coder" "B" (.int (0 : Int32))) (ga : n0 ≤ ax) (Vs : Arv Z h0 asr ks .char (0 : Int32) [] (.int (0 : Int32))) (nas : ax ≠ asr) (O2 : Sta Z Z.heap "java/lang/String" "COMPACT_STRINGS" "Z" (.int pG)) (hG : ¬ pG = (0 : Int32)) (X00 : Old Z n0 h0) :
    MetFree l (⟨"java/lang/String", "<init>", "([C)V"⟩ : MethodName) (head1 (Jvm.Cond.code (⟨"java/lang/String", "<init>", "([C)V"⟩ : MethodName) jdk_42_method_3_code 2 none :: ws) ({ frames := 2, cells := 2, slots := 4, locals := 29 } : Room)) (fun a U => a = #[(.ref ax), (.ref asr)] ∧ Z.Warmed39 U.vm ∧ U.heap = h0 ∧ CHv Z own_EL U.vm h0 ∧ Safe Z own_EL U.vm h0 ax) (fun _ _ _ _ _ => True) (fun _ U o U' => ∃ v L, o = .returned v ∧ own_Q1_0 Z ax asr ks pG h0 n0 v U'.heap L ∧ ReturnedEndW U o U' L ({ frames := 2, cells := 2, slots := 4, locals := 29 } : Room).cells ({ frames := 2, cells := 2, slots := 4, locals := 29 } : Room).slots) := by
  refine MetFree.of_bodySF (plainFor_of_name own_pn1) hisR ?_
  intro p e s m args below meth c s₁ Bd hml0 hP hK
  obtain ⟨rfl, hZ, hh, CH0, sfa⟩ := hP
  have hx := Bd.exec
  have hby := Bd.bytes
  have hml : c.maxLocals = 2 := hml0
  have hown : s.vm.findClass "java/lang/String" = some m.cls := findClass_of_methodNamed Bd.named
  have hnm := (name_of_methodNamed Bd.named Bd.method).1
  have own_wS' : ∀ d ∈ Bundle.stringAtoms, d.before a0 Z = true := fun d hd => hw d (own_wS d hd)
  have X0 : Stand p l e ({ frames := 2, cells := 2, slots := 4, locals := 29 } : Room) (s.setVm s.vm) m #[(.ref ax), (.ref asr)] below meth c s₁ [] 0 0 := Stand.of_body Bd
  have e0 : s₁.heap = h0 := by rw [← hh, Bd.state]; rfl
  have N0 := Fr.nil n0
  have hS0 : s.Since s.vm 0 := (State.WarmedH.refl s).since 0
  have hk0 : 0 ≤ h0.size := Nat.zero_le _
  refine own_pre (A := (s₁.setTop (mkF m 0 #[.val (.ref ax), .val (.ref asr)] []))) (fun t k => castTop (own_ef1 m ax asr) k) ?_
  refine own_pre (A := (s₁.setTop (mkF m 6 #[.val (.ref ax), .val (.ref asr)] [.null, (.int (0 : Int32)), (.int (0 : Int32)), (.ref asr), (.ref ax)]))) ?_ ?_
  · intro t k
    refine XS.aloadN X0.here hx rfl (hb hby d1_0) rfl rfl ?_
    refine XS.aloadN X0.here hx rfl (hb hby d1_1) rfl rfl ?_
    refine XS.iconst X0.here hx rfl (hb hby d1_2) ?_
    refine XS.aloadN X0.here hx rfl (hb hby d1_3) rfl rfl ?_
    show Steps p.tables e below (s₁.setTop (mkF m 4 #[.val (.ref ax), .val (.ref asr)] [(.ref asr), (.int (0 : Int32)), (.ref asr), (.ref ax)])) _
    obtain ⟨cl29, Ar29, -, S29, N29, -, -⟩ := id Vs
    refine X0.arraylength hx (by rw [e0]; exact Ar29.1) (State.isArrayOf_alike hZ.alike Ar29.2.1) (g := (mkF m 4 #[.val (.ref ax), .val (.ref asr)] [(.ref asr), (.int (0 : Int32)), (.ref asr), (.ref ax)])) rfl rfl (hb hby d1_4) _ ?_
    rw [len_of S29 N29]
    refine XS.aconstNull X0.here hx rfl (hb hby d1_5) ?_
    exact k
  obtain ⟨_, _, ⟨T30, L30, k30, n30⟩, -, X30', hs30, hg30, ⟨Lc30, hQ30, l30, y30, z30⟩, st30⟩ := X0.specialBackS hx (y := (⟨"java/lang/String", "<init>", "([CIILjava/lang/Void;)V"⟩ : MethodName)) rfl hown (mvT hZ (own_w hw 7 rfl)) (mvT hZ (own_w hw 8 rfl)) (mvT hZ (own_w hw 10 rfl)) (by decide) (own_backS (W := 0) (rm2_0 l Z a0 hw [] ax asr ks  pG h0 n0 Z0 hEL Ea Fv Fc ga Vs nas O2 hG X00) hZ (own_w hw 10 rfl) (own_w hw 2 rfl) (by decide) (by decide) hEL CH0 sfa Ea.lt) (g := (mkF m 6 #[.val (.ref ax), .val (.ref asr)] [.null, (.int (0 : Int32)), (.int (0 : Int32)), (.ref asr), (.ref ax)])) rfl (by rw [hml]; rfl) (Steps.refl _) (a := ax) (argsL := [(.ref asr), (.int (0 : Int32)), (.int (0 : Int32)), .null]) (rest := []) (lenOf own_pd1 rfl) rfl (by show 2 * 0 + _ ≤ _; exact Nat.le_of_eq rfl) (hb hby d1_6) (fun _ _ => ⟨rfl, e0, (by decide : 0 + 2 ≤ _), (by decide : 0 + 4 ≤ _)⟩)
  dsimp only [Pt.U, Pt.locs, Pt.cells, Pt.slots] at X30' hs30 hg30 l30 y30 z30 st30 hQ30
  replace y30 : _ = 2 := y30
  replace z30 : _ = 4 := z30
  subst y30 z30
  obtain ⟨X30, hS30, hZ30, hown30⟩ := rebS (n1 := s₁.heap.size) hS0 (by rw [e0]; exact hk0) X30' hs30 hg30 hZ hown
  obtain ⟨rfl, Nq30, Kq30, ad30, kq30, Fv30, Fc30, Vq30, nq30⟩ := hQ30
  have N30 := own_frl l30 N0 Nq30
  refine own_pre (fun t k => st30.trans k) ?_
  have Kc30 : Keep h0 T30.heap [ax] := (Keep.refl h0 [ax]).trans Kq30 (allS (Or.inl (List.mem_of_getElem? (i := 0) rfl)) all0)
  obtain ⟨fs, hr, hrun, hended, hRE⟩ := X30.leaveW (hlocks := BodyLoose.notSynchronized Bd) hS30 (Nat.le_refl _) (v := none) (fun _ => rfl)
  refine ⟨_, _, X30.returnOut hx Bd.returns (hb hby d1_9) hr, hrun, hended, _, _, rfl, ?_, hRE.1, hRE.2.1, hRE.2.2.1, hRE.2.2.2.mono (by decide) (by decide)⟩
  show own_Q1_0 Z ax asr ks pG h0 n0 _ T30.heap _
  exact ⟨rfl, N30, Kc30, ad30, kq30, Fv30, Fc30, Vq30, nq30⟩
def own_Q2_1 (Z : State) (ax : Addr) (asr : Addr) (ks : ClassId) (ca : Int32) (pG : Int32) (h0 : Heap) (n0 : Nat) (v : Option Value) (h : Heap) (L : List Loc) : Prop := v = none ∧ Fr n0 L ∧ Keep h0 h [ax] ∧ ∃ (ad : Addr) (kd : ClassId), Fld Z h ax "java/lang/String" "value" "[B" (.ref ad) ∧ Fld Z h ax "java/lang/String" "coder" "B" (.int (0 : Int32)) ∧ Arv Z h ad kd .byte (1 : Int32) [(.int ca)] (.int (0 : Int32)) ∧ ax ≠ ad
set_option maxRecDepth 65536 in
set_option maxHeartbeats 40000000 in
theorem rm2_1 (l : Launch) (Z : State) (a0 : Array Value) (hw : ∀ d ∈ tables_1, d.before a0 Z = true) (ws : List Jvm.Cond) (ax : Addr) (asr : Addr) (ks : ClassId) (ca : Int32) (pG : Int32) (h0 : Heap) (n0 : Nat) (Z0 : n0 ≤ h0.size) (Ea : Exa Z h0 ax "java/lang/String") (Fv : Fld Z h0 ax "java/lang/String" "value" "[B" .null) (Fc : Fld Z h0 ax "java/lang/String" "coder" "B" (.int (0 : Int32))) (ga : n0 ≤ ax) (Vs : Arv Z h0 asr ks .char (1 : Int32) [(.int ca)] (.int (0 : Int32))) (nas : ax ≠ asr) (hp_ca : 0 ≤ ca.toInt ∧ ca.toInt < 128) (O2 : Sta Z Z.heap "java/lang/String" "COMPACT_STRINGS" "Z" (.int pG)) (hG : ¬ pG = (0 : Int32)) (X00 : Old Z n0 h0) :
    MetFree l (⟨"java/lang/String", "<init>", "([CIILjava/lang/Void;)V"⟩ : MethodName) (head1 (Jvm.Cond.code (⟨"java/lang/String", "<init>", "([CIILjava/lang/Void;)V"⟩ : MethodName) jdk_42_method_149_code 6 none :: ws) ({ frames := 2, cells := 1, slots := 1, locals := 35 } : Room)) (fun a U => a = #[(.ref ax), (.ref asr), (.int (0 : Int32)), (.int (1 : Int32)), .null] ∧ Z.Warmed39 U.vm ∧ U.heap = h0) (fun _ _ _ _ _ => True) (fun _ U o U' => ∃ v L, o = .returned v ∧ own_Q2_1 Z ax asr ks ca pG h0 n0 v U'.heap L ∧ FrameEnd U o U' L ({ frames := 2, cells := 1, slots := 1, locals := 35 } : Room).cells ({ frames := 2, cells := 1, slots := 1, locals := 35 } : Room).slots) := by
  refine MetFree.of_bodySF (plainFor_of_name own_pn2) hisR ?_
  intro p e s m args below meth c s₁ Bd hml0 hP hK
  obtain ⟨rfl, hZ, hh⟩ := hP
  have hx := Bd.exec
  have hby := Bd.bytes
  have hml : c.maxLocals = 6 := hml0
  have hown : s.vm.findClass "java/lang/String" = some m.cls := findClass_of_methodNamed Bd.named
  have hnm := (name_of_methodNamed Bd.named Bd.method).1
  have X0 : Stand p l e ({ frames := 2, cells := 1, slots := 1, locals := 35 } : Room) s m #[(.ref ax), (.ref asr), (.int (0 : Int32)), (.int (1 : Int32)), .null] below meth c s₁ [] 0 0 := Stand.of_body Bd
  have e0 : s₁.heap = h0 := by rw [← hh, Bd.state]; rfl
  have N0 := Fr.nil n0
  refine own_pre (A := (s₁.setTop (mkF m 0 #[.val (.ref ax), .val (.ref asr), .val (.int (0 : Int32)), .val (.int (1 : Int32)), .val .null, .unset] []))) (fun t k => castTop (own_ef2n m ax asr (0 : Int32) (1 : Int32)) k) ?_
  refine own_pre (A := (s₁.setTop (mkF m 1 #[.val (.ref ax), .val (.ref asr), .val (.int (0 : Int32)), .val (.int (1 : Int32)), .val .null, .unset] [(.ref ax)]))) ?_ ?_
  · intro t k
    refine XS.aloadN X0.here hx rfl (hb hby d2_0) rfl rfl ?_
    exact k
  obtain ⟨T31, X31, e31, st31⟩ := initO X0 hx hZ hown (own_w hw 11 rfl) (own_w hw 12 rfl) (own_w hw 13 rfl) e0 (g := (mkF m 1 #[.val (.ref ax), .val (.ref asr), .val (.int (0 : Int32)), .val (.int (1 : Int32)), .val .null, .unset] [(.ref ax)])) rfl (by rw [hml]; rfl) rfl (hb hby d2_1) (by decide) (W := 0) (by show 2 * 0 + _ ≤ _; exact Nat.le_of_eq rfl) (by decide)
  refine own_pre (fun t k => st31 t k) ?_
  refine own_pre (A := (T31.setTop (mkF m 27 #[.val (.ref ax), .val (.ref asr), .val (.int (0 : Int32)), .val (.int (1 : Int32)), .val .null, .unset] []))) ?_ ?_
  · intro t k
    refine XS.iloadN X31.here hx rfl (hb hby d2_4) rfl ?_
    refine XS.ifYes X31.here hx rfl (pc0 := 5) (pc' := 27) rfl (hb hby d2_5) rfl ((if0 _ _).trans (feq (by decide : ¬ ((1 : Int32) = (0 : Int32)))).2) (by decide) (by decide) ?_
    exact k
  obtain ⟨T32, X32, e32, st32⟩ := getS2 X31 hx hZ hown (host := "") (Or.inl (own_w hw 14 rfl)) Via.refl e31 (O2.ext X00.2) (g := (mkF m 27 #[.val (.ref ax), .val (.ref asr), .val (.int (0 : Int32)), .val (.int (1 : Int32)), .val .null, .unset] [])) rfl (hb hby d2_27)
  refine own_pre (fun t k => st32 t k) ?_
  refine own_pre (A := (T32.setTop (mkF m 36 #[.val (.ref ax), .val (.ref asr), .val (.int (0 : Int32)), .val (.int (1 : Int32)), .val .null, .unset] [(.int (1 : Int32)), (.int (0 : Int32)), (.ref asr)]))) ?_ ?_
  · intro t k
    refine XS.ifNo X32.here hx rfl (hb hby d2_30) rfl ((if0 _ _).trans (feq hG).1) ?_
    refine XS.aloadN X32.here hx rfl (hb hby d2_33) rfl rfl ?_
    refine XS.iloadN X32.here hx rfl (hb hby d2_34) rfl ?_
    refine XS.iloadN X32.here hx rfl (hb hby d2_35) rfl ?_
    exact k
  obtain ⟨_, _, ⟨T33, L33, k33, n33⟩, -, X33, ⟨Lc33, hQ33, l33, y33, z33⟩, st33⟩ := Jvm.LawKit.callS X32 hx (y := (⟨"java/lang/StringUTF16", "compress", "([CII)[B"⟩ : MethodName)) hown (mvT hZ (own_w hw 15 rfl)) (mvT hZ (own_w hw 16 rfl)) (mvT hZ (own_w hw 17 rfl)) (mvT hZ (own_w hw 18 rfl)) (by decide) (backOf (W := 0) (rm4_1 l Z a0 hw [] asr ks ca h0 n0 Z0 Vs hp_ca) hZ (own_w hw 18 rfl) (own_w hw 17 rfl) (by decide) (by decide)) (g := (mkF m 36 #[.val (.ref ax), .val (.ref asr), .val (.int (0 : Int32)), .val (.int (1 : Int32)), .val .null, .unset] [(.int (1 : Int32)), (.int (0 : Int32)), (.ref asr)])) rfl (by rw [hml]; rfl) (argsL := [(.ref asr), (.int (0 : Int32)), (.int (1 : Int32))]) (rest := []) (lenOf own_pd2 rfl) rfl (by show 2 * 0 + _ ≤ _; exact Nat.le_of_eq rfl) (hb hby d2_36) (fun _ _ => ⟨rfl, e32, (by decide : 0 + 1 ≤ _), (by decide : 0 + 1 ≤ _)⟩)
  dsimp only [Pt.U, Pt.locs, Pt.cells, Pt.slots] at X33 l33 y33 z33 st33 hQ33
  replace y33 : _ = 1 := y33
  replace z33 : _ = 1 := z33
  subst y33 z33
  obtain ⟨Nq33, ad33, kq33, rfl, gq33, zz33, Vq33, Kq33⟩ := hQ33
  have N33 := own_frl l33 N0 Nq33
  refine own_pre (fun t k => st33 t k) ?_
  have ne_ax_ad33 : ax ≠ ad33 := Nat.ne_of_lt (Nat.lt_of_lt_of_le Ea.lt zz33)
  have Ea_33 := Ea.keep Kq33
  have Fv_33 := Fv.keep Kq33 nin0
  have Fc_33 := Fc.keep Kq33 nin0
  have Zs33 : n0 ≤ T33.heap.size := Nat.le_trans Z0 Kq33.1
  have Kc33 : Keep h0 T33.heap [ax] := (Keep.refl h0 [ax]).trans Kq33 all0
  refine own_pre (A := (T33.setTop (mkF m 45 #[.val (.ref ax), .val (.ref asr), .val (.int (0 : Int32)), .val (.int (1 : Int32)), .val .null, .val (.ref ad33)] [(.int (1 : Int32)), (.ref ad33), (.ref ax)]))) ?_ ?_
  · intro t k
    refine XS.astore X33.here hx rfl (hb hby d2_39) rfl rfl (l' := #[.val (.ref ax), .val (.ref asr), .val (.int (0 : Int32)), .val (.int (1 : Int32)), .val .null, .val (.ref ad33)]) rfl ?_
    refine XS.aloadN X33.here hx rfl (hb hby d2_41) rfl rfl ?_
    refine XS.aload X33.here hx rfl (hb hby d2_42) rfl rfl ?_
    refine XS.iloadN X33.here hx rfl (hb hby d2_44) rfl ?_
    exact k
  obtain ⟨_, _, ⟨T34, L34, k34, n34⟩, -, X34, ⟨Lc34, hQ34, l34, y34, z34⟩, st34⟩ := Jvm.LawKit.callS X33 hx (y := (⟨"java/lang/StringUTF16", "coderFromArrayLen", "([BI)B"⟩ : MethodName)) hown (mvT hZ (own_w hw 23 rfl)) (mvT hZ (own_w hw 24 rfl)) (mvT hZ (own_w hw 17 rfl)) (mvT hZ (own_w hw 25 rfl)) (by decide) (backOf (W := 1) (rm6_1 l Z a0 hw [] ad33 kq33 ca T33.heap n0 Zs33 Vq33) hZ (own_w hw 25 rfl) (own_w hw 17 rfl) (by decide) (by decide)) (g := (mkF m 45 #[.val (.ref ax), .val (.ref asr), .val (.int (0 : Int32)), .val (.int (1 : Int32)), .val .null, .val (.ref ad33)] [(.int (1 : Int32)), (.ref ad33), (.ref ax)])) rfl (by rw [hml]; rfl) (argsL := [(.ref ad33), (.int (1 : Int32))]) (rest := [(.ref ax)]) (lenOf own_pd3 rfl) rfl (by show 2 * 0 + _ ≤ _; exact Nat.le_of_eq rfl) (hb hby d2_45) (fun _ _ => ⟨rfl, rfl, (by decide : 1 + 0 ≤ _), (by decide : 1 + 0 ≤ _)⟩)
  dsimp only [Pt.U, Pt.locs, Pt.cells, Pt.slots] at X34 l34 y34 z34 st34 hQ34
  replace y34 : _ = 1 := y34
  replace z34 : _ = 1 := z34
  subst y34 z34
  obtain ⟨Nq34, rfl, eq34⟩ := hQ34
  have N34 := own_frl l34 N33 Nq34
  refine own_pre (fun t k => st34 t k) ?_
  obtain ⟨T35, h35, X35, e35, W35, st35⟩ := putFN X34 hx hZ hown (own_w hw 26 rfl) Via.refl eq34 Fc_33 Ea_33 (Or.inr ⟨(own_w hw 27 rfl), rfl, hnm⟩) (own_w hw 1 rfl) (ty := .byte) (v' := (.int (0 : Int32))) (by decide) rfl rfl (g := (mkF m 48 #[.val (.ref ax), .val (.ref asr), .val (.int (0 : Int32)), .val (.int (1 : Int32)), .val .null, .val (.ref ad33)] [(.int (0 : Int32)), (.ref ax)])) rfl rfl (hb hby d2_48)
  have Ea_35 := Ea_33.wr W35
  have Fv_35 := Fv_33.other W35 (Or.inr (slot_ne (Or.inr (own_w hw 29 rfl)) (Or.inr (own_w hw 27 rfl)) (by decide) (t := (.array .byte)) (t' := .byte) (by decide) (by decide)))
  have Vq33_35 := Vq33.other W35 ne_ax_ad33.symm
  have Kc35 : Keep h0 h35 [ax] := Kc33.wr W35 (Or.inl (List.mem_of_getElem? (i := 0) rfl))
  have N35 := Fr.snoc X35 N34 ga
  have Fw35 := Fc_33.same W35
  refine own_pre (fun t k => st35 t k) ?_
  refine own_pre (A := (T35.setTop (mkF m 54 #[.val (.ref ax), .val (.ref asr), .val (.int (0 : Int32)), .val (.int (1 : Int32)), .val .null, .val (.ref ad33)] [(.ref ad33), (.ref ax)]))) ?_ ?_
  · intro t k
    refine XS.aloadN X35.here hx rfl (hb hby d2_51) rfl rfl ?_
    refine XS.aload X35.here hx rfl (hb hby d2_52) rfl rfl ?_
    exact k
  obtain ⟨T36, h36, X36, e36, W36, st36⟩ := putF X35 hx hZ hown (host := "") (Or.inl (own_w hw 28 rfl)) Via.refl e35 Fv_35 Ea_35 (Or.inr ⟨(own_w hw 29 rfl), rfl, hnm⟩) (own_w hw 1 rfl) (ty := (.array .byte)) (by decide) rfl rfl (g := (mkF m 54 #[.val (.ref ax), .val (.ref asr), .val (.int (0 : Int32)), .val (.int (1 : Int32)), .val .null, .val (.ref ad33)] [(.ref ad33), (.ref ax)])) rfl rfl (hb hby d2_54)
  have Fw35_36 := Fw35.other W36 (Or.inr (slot_ne (Or.inr (own_w hw 27 rfl)) (Or.inr (own_w hw 29 rfl)) (by decide) (t := .byte) (t' := (.array .byte)) (by decide) (by decide)))
  have Vq33_36 := Vq33_35.other W36 ne_ax_ad33.symm
  have Kc36 : Keep h0 h36 [ax] := Kc35.wr W36 (Or.inl (List.mem_of_getElem? (i := 0) rfl))
  have N36 := Fr.snoc X36 N35 ga
  have Fw36 := Fv_35.same W36
  refine own_pre (fun t k => st36 t k) ?_
  obtain ⟨fs, hr, hrun, hended, hW, hsame⟩ := X36.leave (hlocks := BodyLoose.notSynchronized Bd) (v := none) (fun _ => rfl)
  refine ⟨_, _, X36.returnOut hx Bd.returns (hb hby d2_57) hr, hrun, hended, _, _, rfl, ?_, ⟨_, rfl⟩, hW, hsame.mono (by decide) (by decide)⟩
  show own_Q2_1 Z ax asr ks ca pG h0 n0 _ T36.heap _
  rw [e36]
  exact ⟨rfl, N36, Kc36, ad33, kq33, Fw36, Fw35_36, Vq33_36, ne_ax_ad33⟩
def own_Q1_1 (Z : State) (ax : Addr) (asr : Addr) (ks : ClassId) (ca : Int32) (pG : Int32) (h0 : Heap) (n0 : Nat) (v : Option Value) (h : Heap) (L : List Loc) : Prop := v = none ∧ Fr n0 L ∧ Keep h0 h [ax] ∧ ∃ (ad : Addr) (kd : ClassId), Fld Z h ax "java/lang/String" "value" "[B" (.ref ad) ∧ Fld Z h ax "java/lang/String" "coder" "B" (.int (0 : Int32)) ∧ Arv Z h ad kd .byte (1 : Int32) [(.int ca)] (.int (0 : Int32)) ∧ ax ≠ ad
set_option maxRecDepth 65536 in
set_option maxHeartbeats 40000000 in
theorem rm1_1 (l : Launch) (Z : State) (a0 : Array Value) (hw : ∀ d ∈ tables_1, d.before a0 Z = true) (ws : List Jvm.Cond) (ax : Addr) (asr : Addr) (ks : ClassId) (ca : Int32) (pG : Int32) (h0 : Heap) (n0 : Nat) (Z0 : n0 ≤ h0.size) (Ea : Exa Z h0 ax "java/lang/String") (Fv : Fld Z h0 ax "java/lang/String" "value" "[B" .null) (Fc : Fld Z h0 ax "java/lang/String" "coder" "B" (.int (0 : Int32))) (ga : n0 ≤ ax) (Vs : Arv Z h0 asr ks .char (1 : Int32) [(.int ca)] (.int (0 : Int32))) (nas : ax ≠ asr) (hp_ca : 0 ≤ ca.toInt ∧ ca.toInt < 128) (O2 : Sta Z Z.heap "java/lang/String" "COMPACT_STRINGS" "Z" (.int pG)) (hG : ¬ pG = (0 : Int32)) (X00 : Old Z n0 h0) :
    MetFree l (⟨"java/lang/String", "<init>", "([C)V"⟩ : MethodName) (head1 (Jvm.Cond.code (⟨"java/lang/String", "<init>", "([C)V"⟩ : MethodName) jdk_42_method_3_code 2 none :: ws) ({ frames := 3, cells := 1, slots := 1, locals := 52 } : Room)) (fun a U => a = #[(.ref ax), (.ref asr)] ∧ Z.Warmed39 U.vm ∧ U.heap = h0) (fun _ _ _ _ _ => True) (fun _ U o U' => ∃ v L, o = .returned v ∧ own_Q1_1 Z ax asr ks ca pG h0 n0 v U'.heap L ∧ FrameEnd U o U' L ({ frames := 3, cells := 1, slots := 1, locals := 52 } : Room).cells ({ frames := 3, cells := 1, slots := 1, locals := 52 } : Room).slots) := by
  refine MetFree.of_bodySF (plainFor_of_name own_pn1) hisR ?_
  intro p e s m args below meth c s₁ Bd hml0 hP hK
  obtain ⟨rfl, hZ, hh⟩ := hP
  have hx := Bd.exec
  have hby := Bd.bytes
  have hml : c.maxLocals = 2 := hml0
  have hown : s.vm.findClass "java/lang/String" = some m.cls := findClass_of_methodNamed Bd.named
  have hnm := (name_of_methodNamed Bd.named Bd.method).1
  have X0 : Stand p l e ({ frames := 3, cells := 1, slots := 1, locals := 52 } : Room) s m #[(.ref ax), (.ref asr)] below meth c s₁ [] 0 0 := Stand.of_body Bd
  have e0 : s₁.heap = h0 := by rw [← hh, Bd.state]; rfl
  have N0 := Fr.nil n0
  refine own_pre (A := (s₁.setTop (mkF m 0 #[.val (.ref ax), .val (.ref asr)] []))) (fun t k => castTop (own_ef1 m ax asr) k) ?_
  refine own_pre (A := (s₁.setTop (mkF m 6 #[.val (.ref ax), .val (.ref asr)] [.null, (.int (1 : Int32)), (.int (0 : Int32)), (.ref asr), (.ref ax)]))) ?_ ?_
  · intro t k
    refine XS.aloadN X0.here hx rfl (hb hby d1_0) rfl rfl ?_
    refine XS.aloadN X0.here hx rfl (hb hby d1_1) rfl rfl ?_
    refine XS.iconst X0.here hx rfl (hb hby d1_2) ?_
    refine XS.aloadN X0.here hx rfl (hb hby d1_3) rfl rfl ?_
    show Steps p.tables e below (s₁.setTop (mkF m 4 #[.val (.ref ax), .val (.ref asr)] [(.ref asr), (.int (0 : Int32)), (.ref asr), (.ref ax)])) _
    obtain ⟨cl37, Ar37, -, S37, N37, -, -⟩ := id Vs
    refine X0.arraylength hx (by rw [e0]; exact Ar37.1) (State.isArrayOf_alike hZ.alike Ar37.2.1) (g := (mkF m 4 #[.val (.ref ax), .val (.ref asr)] [(.ref asr), (.int (0 : Int32)), (.ref asr), (.ref ax)])) rfl rfl (hb hby d1_4) _ ?_
    rw [len_of S37 N37]
    refine XS.aconstNull X0.here hx rfl (hb hby d1_5) ?_
    exact k
  obtain ⟨_, _, ⟨T38, L38, k38, n38⟩, -, X38, ⟨Lc38, hQ38, l38, y38, z38⟩, st38⟩ := X0.specialBack hx (y := (⟨"java/lang/String", "<init>", "([CIILjava/lang/Void;)V"⟩ : MethodName)) rfl hown (mvT hZ (own_w hw 7 rfl)) (mvT hZ (own_w hw 8 rfl)) (mvT hZ (own_w hw 10 rfl)) (by decide) (backOf (W := 0) (rm2_1 l Z a0 hw [] ax asr ks ca pG h0 n0 Z0 Ea Fv Fc ga Vs nas hp_ca O2 hG X00) hZ (own_w hw 10 rfl) (own_w hw 2 rfl) (by decide) (by decide)) (g := (mkF m 6 #[.val (.ref ax), .val (.ref asr)] [.null, (.int (1 : Int32)), (.int (0 : Int32)), (.ref asr), (.ref ax)])) rfl (by rw [hml]; rfl) (Steps.refl _) (a := ax) (argsL := [(.ref asr), (.int (0 : Int32)), (.int (1 : Int32)), .null]) (rest := []) (lenOf own_pd1 rfl) rfl (by show 2 * 0 + _ ≤ _; exact Nat.le_of_eq rfl) (hb hby d1_6) (fun _ _ => ⟨rfl, e0, (by decide : 0 + 1 ≤ _), (by decide : 0 + 1 ≤ _)⟩)
  dsimp only [Pt.U, Pt.locs, Pt.cells, Pt.slots] at X38 l38 y38 z38 st38 hQ38
  replace y38 : _ = 1 := y38
  replace z38 : _ = 1 := z38
  subst y38 z38
  obtain ⟨rfl, Nq38, Kq38, ad38, kq38, Fv38, Fc38, Vq38, nq38⟩ := hQ38
  have N38 := own_frl l38 N0 Nq38
  refine own_pre (fun t k => st38.trans k) ?_
  have Kc38 : Keep h0 T38.heap [ax] := (Keep.refl h0 [ax]).trans Kq38 (allS (Or.inl (List.mem_of_getElem? (i := 0) rfl)) all0)
  obtain ⟨fs, hr, hrun, hended, hW, hsame⟩ := X38.leave (hlocks := BodyLoose.notSynchronized Bd) (v := none) (fun _ => rfl)
  refine ⟨_, _, X38.returnOut hx Bd.returns (hb hby d1_9) hr, hrun, hended, _, _, rfl, ?_, ⟨_, rfl⟩, hW, hsame.mono (by decide) (by decide)⟩
  show own_Q1_1 Z ax asr ks ca pG h0 n0 _ T38.heap _
  exact ⟨rfl, N38, Kc38, ad38, kq38, Fv38, Fc38, Vq38, nq38⟩
def own_Q2_2 (Z : State) (ax : Addr) (asr : Addr) (ks : ClassId) (ca : Int32) (cb : Int32) (pG : Int32) (h0 : Heap) (n0 : Nat) (v : Option Value) (h : Heap) (L : List Loc) : Prop := v = none ∧ Fr n0 L ∧ Keep h0 h [ax] ∧ ∃ (ad : Addr) (kd : ClassId), Fld Z h ax "java/lang/String" "value" "[B" (.ref ad) ∧ Fld Z h ax "java/lang/String" "coder" "B" (.int (0 : Int32)) ∧ Arv Z h ad kd .byte (2 : Int32) [(.int ca), (.int cb)] (.int (0 : Int32)) ∧ ax ≠ ad
set_option maxRecDepth 65536 in
set_option maxHeartbeats 40000000 in
theorem rm2_2 (l : Launch) (Z : State) (a0 : Array Value) (hw : ∀ d ∈ tables_1, d.before a0 Z = true) (ws : List Jvm.Cond) (ax : Addr) (asr : Addr) (ks : ClassId) (ca : Int32) (cb : Int32) (pG : Int32) (h0 : Heap) (n0 : Nat) (Z0 : n0 ≤ h0.size) (Ea : Exa Z h0 ax "java/lang/String") (Fv : Fld Z h0 ax "java/lang/String" "value" "[B" .null) (Fc : Fld Z h0 ax "java/lang/String" "coder" "B" (.int (0 : Int32))) (ga : n0 ≤ ax) (Vs : Arv Z h0 asr ks .char (2 : Int32) [(.int ca), (.int cb)] (.int (0 : Int32))) (nas : ax ≠ asr) (hp_ca : 0 ≤ ca.toInt ∧ ca.toInt < 128) (hp_cb : 0 ≤ cb.toInt ∧ cb.toInt < 128) (O2 : Sta Z Z.heap "java/lang/String" "COMPACT_STRINGS" "Z" (.int pG)) (hG : ¬ pG = (0 : Int32)) (X00 : Old Z n0 h0) :
    MetFree l (⟨"java/lang/String", "<init>", "([CIILjava/lang/Void;)V"⟩ : MethodName) (head1 (Jvm.Cond.code (⟨"java/lang/String", "<init>", "([CIILjava/lang/Void;)V"⟩ : MethodName) jdk_42_method_149_code 6 none :: ws) ({ frames := 2, cells := 1, slots := 2, locals := 35 } : Room)) (fun a U => a = #[(.ref ax), (.ref asr), (.int (0 : Int32)), (.int (2 : Int32)), .null] ∧ Z.Warmed39 U.vm ∧ U.heap = h0) (fun _ _ _ _ _ => True) (fun _ U o U' => ∃ v L, o = .returned v ∧ own_Q2_2 Z ax asr ks ca cb pG h0 n0 v U'.heap L ∧ FrameEnd U o U' L ({ frames := 2, cells := 1, slots := 2, locals := 35 } : Room).cells ({ frames := 2, cells := 1, slots := 2, locals := 35 } : Room).slots) := by
  refine MetFree.of_bodySF (plainFor_of_name own_pn2) hisR ?_
  intro p e s m args below meth c s₁ Bd hml0 hP hK
  obtain ⟨rfl, hZ, hh⟩ := hP
  have hx := Bd.exec
  have hby := Bd.bytes
  have hml : c.maxLocals = 6 := hml0
  have hown : s.vm.findClass "java/lang/String" = some m.cls := findClass_of_methodNamed Bd.named
  have hnm := (name_of_methodNamed Bd.named Bd.method).1
  have X0 : Stand p l e ({ frames := 2, cells := 1, slots := 2, locals := 35 } : Room) s m #[(.ref ax), (.ref asr), (.int (0 : Int32)), (.int (2 : Int32)), .null] below meth c s₁ [] 0 0 := Stand.of_body Bd
  have e0 : s₁.heap = h0 := by rw [← hh, Bd.state]; rfl
  have N0 := Fr.nil n0
  refine own_pre (A := (s₁.setTop (mkF m 0 #[.val (.ref ax), .val (.ref asr), .val (.int (0 : Int32)), .val (.int (2 : Int32)), .val .null, .unset] []))) (fun t k => castTop (own_ef2n m ax asr (0 : Int32) (2 : Int32)) k) ?_
  refine own_pre (A := (s₁.setTop (mkF m 1 #[.val (.ref ax), .val (.ref asr), .val (.int (0 : Int32)), .val (.int (2 : Int32)), .val .null, .unset] [(.ref ax)]))) ?_ ?_
  · intro t k
    refine XS.aloadN X0.here hx rfl (hb hby d2_0) rfl rfl ?_
    exact k
  obtain ⟨T39, X39, e39, st39⟩ := initO X0 hx hZ hown (own_w hw 11 rfl) (own_w hw 12 rfl) (own_w hw 13 rfl) e0 (g := (mkF m 1 #[.val (.ref ax), .val (.ref asr), .val (.int (0 : Int32)), .val (.int (2 : Int32)), .val .null, .unset] [(.ref ax)])) rfl (by rw [hml]; rfl) rfl (hb hby d2_1) (by decide) (W := 0) (by show 2 * 0 + _ ≤ _; exact Nat.le_of_eq rfl) (by decide)
  refine own_pre (fun t k => st39 t k) ?_
  refine own_pre (A := (T39.setTop (mkF m 27 #[.val (.ref ax), .val (.ref asr), .val (.int (0 : Int32)), .val (.int (2 : Int32)), .val .null, .unset] []))) ?_ ?_
  · intro t k
    refine XS.iloadN X39.here hx rfl (hb hby d2_4) rfl ?_
    refine XS.ifYes X39.here hx rfl (pc0 := 5) (pc' := 27) rfl (hb hby d2_5) rfl ((if0 _ _).trans (feq (by decide : ¬ ((2 : Int32) = (0 : Int32)))).2) (by decide) (by decide) ?_
    exact k
  obtain ⟨T40, X40, e40, st40⟩ := getS2 X39 hx hZ hown (host := "") (Or.inl (own_w hw 14 rfl)) Via.refl e39 (O2.ext X00.2) (g := (mkF m 27 #[.val (.ref ax), .val (.ref asr), .val (.int (0 : Int32)), .val (.int (2 : Int32)), .val .null, .unset] [])) rfl (hb hby d2_27)
  refine own_pre (fun t k => st40 t k) ?_
  refine own_pre (A := (T40.setTop (mkF m 36 #[.val (.ref ax), .val (.ref asr), .val (.int (0 : Int32)), .val (.int (2 : Int32)), .val .null, .unset] [(.int (2 : Int32)), (.int (0 : Int32)), (.ref asr)]))) ?_ ?_
  · intro t k
    refine XS.ifNo X40.here hx rfl (hb hby d2_30) rfl ((if0 _ _).trans (feq hG).1) ?_
    refine XS.aloadN X40.here hx rfl (hb hby d2_33) rfl rfl ?_
    refine XS.iloadN X40.here hx rfl (hb hby d2_34) rfl ?_
    refine XS.iloadN X40.here hx rfl (hb hby d2_35) rfl ?_
    exact k
  obtain ⟨_, _, ⟨T41, L41, k41, n41⟩, -, X41, ⟨Lc41, hQ41, l41, y41, z41⟩, st41⟩ := Jvm.LawKit.callS X40 hx (y := (⟨"java/lang/StringUTF16", "compress", "([CII)[B"⟩ : MethodName)) hown (mvT hZ (own_w hw 15 rfl)) (mvT hZ (own_w hw 16 rfl)) (mvT hZ (own_w hw 17 rfl)) (mvT hZ (own_w hw 18 rfl)) (by decide) (backOf (W := 0) (rm4_2 l Z a0 hw [] asr ks ca cb h0 n0 Z0 Vs hp_ca hp_cb) hZ (own_w hw 18 rfl) (own_w hw 17 rfl) (by decide) (by decide)) (g := (mkF m 36 #[.val (.ref ax), .val (.ref asr), .val (.int (0 : Int32)), .val (.int (2 : Int32)), .val .null, .unset] [(.int (2 : Int32)), (.int (0 : Int32)), (.ref asr)])) rfl (by rw [hml]; rfl) (argsL := [(.ref asr), (.int (0 : Int32)), (.int (2 : Int32))]) (rest := []) (lenOf own_pd2 rfl) rfl (by show 2 * 0 + _ ≤ _; exact Nat.le_of_eq rfl) (hb hby d2_36) (fun _ _ => ⟨rfl, e40, (by decide : 0 + 1 ≤ _), (by decide : 0 + 2 ≤ _)⟩)
  dsimp only [Pt.U, Pt.locs, Pt.cells, Pt.slots] at X41 l41 y41 z41 st41 hQ41
  replace y41 : _ = 1 := y41
  replace z41 : _ = 2 := z41
  subst y41 z41
  obtain ⟨Nq41, ad41, kq41, rfl, gq41, zz41, Vq41, Kq41⟩ := hQ41
  have N41 := own_frl l41 N0 Nq41
  refine own_pre (fun t k => st41 t k) ?_
  have ne_ax_ad41 : ax ≠ ad41 := Nat.ne_of_lt (Nat.lt_of_lt_of_le Ea.lt zz41)
  have Ea_41 := Ea.keep Kq41
  have Fv_41 := Fv.keep Kq41 nin0
  have Fc_41 := Fc.keep Kq41 nin0
  have Zs41 : n0 ≤ T41.heap.size := Nat.le_trans Z0 Kq41.1
  have Kc41 : Keep h0 T41.heap [ax] := (Keep.refl h0 [ax]).trans Kq41 all0
  refine own_pre (A := (T41.setTop (mkF m 45 #[.val (.ref ax), .val (.ref asr), .val (.int (0 : Int32)), .val (.int (2 : Int32)), .val .null, .val (.ref ad41)] [(.int (2 : Int32)), (.ref ad41), (.ref ax)]))) ?_ ?_
  · intro t k
    refine XS.astore X41.here hx rfl (hb hby d2_39) rfl rfl (l' := #[.val (.ref ax), .val (.ref asr), .val (.int (0 : Int32)), .val (.int (2 : Int32)), .val .null, .val (.ref ad41)]) rfl ?_
    refine XS.aloadN X41.here hx rfl (hb hby d2_41) rfl rfl ?_
    refine XS.aload X41.here hx rfl (hb hby d2_42) rfl rfl ?_
    refine XS.iloadN X41.here hx rfl (hb hby d2_44) rfl ?_
    exact k
  obtain ⟨_, _, ⟨T42, L42, k42, n42⟩, -, X42, ⟨Lc42, hQ42, l42, y42, z42⟩, st42⟩ := Jvm.LawKit.callS X41 hx (y := (⟨"java/lang/StringUTF16", "coderFromArrayLen", "([BI)B"⟩ : MethodName)) hown (mvT hZ (own_w hw 23 rfl)) (mvT hZ (own_w hw 24 rfl)) (mvT hZ (own_w hw 17 rfl)) (mvT hZ (own_w hw 25 rfl)) (by decide) (backOf (W := 1) (rm6_2 l Z a0 hw [] ad41 kq41 ca cb T41.heap n0 Zs41 Vq41) hZ (own_w hw 25 rfl) (own_w hw 17 rfl) (by decide) (by decide)) (g := (mkF m 45 #[.val (.ref ax), .val (.ref asr), .val (.int (0 : Int32)), .val (.int (2 : Int32)), .val .null, .val (.ref ad41)] [(.int (2 : Int32)), (.ref ad41), (.ref ax)])) rfl (by rw [hml]; rfl) (argsL := [(.ref ad41), (.int (2 : Int32))]) (rest := [(.ref ax)]) (lenOf own_pd3 rfl) rfl (by show 2 * 0 + _ ≤ _; exact Nat.le_of_eq rfl) (hb hby d2_45) (fun _ _ => ⟨rfl, rfl, (by decide : 1 + 0 ≤ _), (by decide : 2 + 0 ≤ _)⟩)
  dsimp only [Pt.U, Pt.locs, Pt.cells, Pt.slots] at X42 l42 y42 z42 st42 hQ42
  replace y42 : _ = 1 := y42
  replace z42 : _ = 2 := z42
  subst y42 z42
  obtain ⟨Nq42, rfl, eq42⟩ := hQ42
  have N42 := own_frl l42 N41 Nq42
  refine own_pre (fun t k => st42 t k) ?_
  obtain ⟨T43, h43, X43, e43, W43, st43⟩ := putFN X42 hx hZ hown (own_w hw 26 rfl) Via.refl eq42 Fc_41 Ea_41 (Or.inr ⟨(own_w hw 27 rfl), rfl, hnm⟩) (own_w hw 1 rfl) (ty := .byte) (v' := (.int (0 : Int32))) (by decide) rfl rfl (g := (mkF m 48 #[.val (.ref ax), .val (.ref asr), .val (.int (0 : Int32)), .val (.int (2 : Int32)), .val .null, .val (.ref ad41)] [(.int (0 : Int32)), (.ref ax)])) rfl rfl (hb hby d2_48)
  have Ea_43 := Ea_41.wr W43
  have Fv_43 := Fv_41.other W43 (Or.inr (slot_ne (Or.inr (own_w hw 29 rfl)) (Or.inr (own_w hw 27 rfl)) (by decide) (t := (.array .byte)) (t' := .byte) (by decide) (by decide)))
  have Vq41_43 := Vq41.other W43 ne_ax_ad41.symm
  have Kc43 : Keep h0 h43 [ax] := Kc41.wr W43 (Or.inl (List.mem_of_getElem? (i := 0) rfl))
  have N43 := Fr.snoc X43 N42 ga
  have Fw43 := Fc_41.same W43
  refine own_pre (fun t k => st43 t k) ?_
  refine own_pre (A := (T43.setTop (mkF m 54 #[.val (.ref ax), .val (.ref asr), .val (.int (0 : Int32)), .val (.int (2 : Int32)), .val .null, .val (.ref ad41)] [(.ref ad41), (.ref ax)]))) ?_ ?_
  · intro t k
    refine XS.aloadN X43.here hx rfl (hb hby d2_51) rfl rfl ?_
    refine XS.aload X43.here hx rfl (hb hby d2_52) rfl rfl ?_
    exact k
  obtain ⟨T44, h44, X44, e44, W44, st44⟩ := putF X43 hx hZ hown (host := "") (Or.inl (own_w hw 28 rfl)) Via.refl e43 Fv_43 Ea_43 (Or.inr ⟨(own_w hw 29 rfl), rfl, hnm⟩) (own_w hw 1 rfl) (ty := (.array .byte)) (by decide) rfl rfl (g := (mkF m 54 #[.val (.ref ax), .val (.ref asr), .val (.int (0 : Int32)), .val (.int (2 : Int32)), .val .null, .val (.ref ad41)] [(.ref ad41), (.ref ax)])) rfl rfl (hb hby d2_54)
  have Fw43_44 := Fw43.other W44 (Or.inr (slot_ne (Or.inr (own_w hw 27 rfl)) (Or.inr (own_w hw 29 rfl)) (by decide) (t := .byte) (t' := (.array .byte)) (by decide) (by decide)))
  have Vq41_44 := Vq41_43.other W44 ne_ax_ad41.symm
  have Kc44 : Keep h0 h44 [ax] := Kc43.wr W44 (Or.inl (List.mem_of_getElem? (i := 0) rfl))
  have N44 := Fr.snoc X44 N43 ga
  have Fw44 := Fv_43.same W44
  refine own_pre (fun t k => st44 t k) ?_
  obtain ⟨fs, hr, hrun, hended, hW, hsame⟩ := X44.leave (hlocks := BodyLoose.notSynchronized Bd) (v := none) (fun _ => rfl)
  refine ⟨_, _, X44.returnOut hx Bd.returns (hb hby d2_57) hr, hrun, hended, _, _, rfl, ?_, ⟨_, rfl⟩, hW, hsame.mono (by decide) (by decide)⟩
  show own_Q2_2 Z ax asr ks ca cb pG h0 n0 _ T44.heap _
  rw [e44]
  exact ⟨rfl, N44, Kc44, ad41, kq41, Fw44, Fw43_44, Vq41_44, ne_ax_ad41⟩
def own_Q1_2 (Z : State) (ax : Addr) (asr : Addr) (ks : ClassId) (ca : Int32) (cb : Int32) (pG : Int32) (h0 : Heap) (n0 : Nat) (v : Option Value) (h : Heap) (L : List Loc) : Prop := v = none ∧ Fr n0 L ∧ Keep h0 h [ax] ∧ ∃ (ad : Addr) (kd : ClassId), Fld Z h ax "java/lang/String" "value" "[B" (.ref ad) ∧ Fld Z h ax "java/lang/String" "coder" "B" (.int (0 : Int32)) ∧ Arv Z h ad kd .byte (2 : Int32) [(.int ca), (.int cb)] (.int (0 : Int32)) ∧ ax ≠ ad
set_option maxRecDepth 65536 in
set_option maxHeartbeats 40000000 in
theorem rm1_2 (l : Launch) (Z : State) (a0 : Array Value) (hw : ∀ d ∈ tables_1, d.before a0 Z = true) (ws : List Jvm.Cond) (ax : Addr) (asr : Addr) (ks : ClassId) (ca : Int32) (cb : Int32) (pG : Int32) (h0 : Heap) (n0 : Nat) (Z0 : n0 ≤ h0.size) (Ea : Exa Z h0 ax "java/lang/String") (Fv : Fld Z h0 ax "java/lang/String" "value" "[B" .null) (Fc : Fld Z h0 ax "java/lang/String" "coder" "B" (.int (0 : Int32))) (ga : n0 ≤ ax) (Vs : Arv Z h0 asr ks .char (2 : Int32) [(.int ca), (.int cb)] (.int (0 : Int32))) (nas : ax ≠ asr) (hp_ca : 0 ≤ ca.toInt ∧ ca.toInt < 128) (hp_cb : 0 ≤ cb.toInt ∧ cb.toInt < 128) (O2 : Sta Z Z.heap "java/lang/String" "COMPACT_STRINGS" "Z" (.int pG)) (hG : ¬ pG = (0 : Int32)) (X00 : Old Z n0 h0) :
    MetFree l (⟨"java/lang/String", "<init>", "([C)V"⟩ : MethodName) (head1 (Jvm.Cond.code (⟨"java/lang/String", "<init>", "([C)V"⟩ : MethodName) jdk_42_method_3_code 2 none :: ws) ({ frames := 3, cells := 1, slots := 2, locals := 52 } : Room)) (fun a U => a = #[(.ref ax), (.ref asr)] ∧ Z.Warmed39 U.vm ∧ U.heap = h0) (fun _ _ _ _ _ => True) (fun _ U o U' => ∃ v L, o = .returned v ∧ own_Q1_2 Z ax asr ks ca cb pG h0 n0 v U'.heap L ∧ FrameEnd U o U' L ({ frames := 3, cells := 1, slots := 2, locals := 52 } : Room).cells ({ frames := 3, cells := 1, slots := 2, locals := 52 } : Room).slots) := by
  refine MetFree.of_bodySF (plainFor_of_name own_pn1) hisR ?_
  intro p e s m args below meth c s₁ Bd hml0 hP hK
  obtain ⟨rfl, hZ, hh⟩ := hP
  have hx := Bd.exec
  have hby := Bd.bytes
  have hml : c.maxLocals = 2 := hml0
  have hown : s.vm.findClass "java/lang/String" = some m.cls := findClass_of_methodNamed Bd.named
  have hnm := (name_of_methodNamed Bd.named Bd.method).1
  have X0 : Stand p l e ({ frames := 3, cells := 1, slots := 2, locals := 52 } : Room) s m #[(.ref ax), (.ref asr)] below meth c s₁ [] 0 0 := Stand.of_body Bd
  have e0 : s₁.heap = h0 := by rw [← hh, Bd.state]; rfl
  have N0 := Fr.nil n0
  refine own_pre (A := (s₁.setTop (mkF m 0 #[.val (.ref ax), .val (.ref asr)] []))) (fun t k => castTop (own_ef1 m ax asr) k) ?_
  refine own_pre (A := (s₁.setTop (mkF m 6 #[.val (.ref ax), .val (.ref asr)] [.null, (.int (2 : Int32)), (.int (0 : Int32)), (.ref asr), (.ref ax)]))) ?_ ?_
  · intro t k
    refine XS.aloadN X0.here hx rfl (hb hby d1_0) rfl rfl ?_
    refine XS.aloadN X0.here hx rfl (hb hby d1_1) rfl rfl ?_
    refine XS.iconst X0.here hx rfl (hb hby d1_2) ?_
    refine XS.aloadN X0.here hx rfl (hb hby d1_3) rfl rfl ?_
    show Steps p.tables e below (s₁.setTop (mkF m 4 #[.val (.ref ax), .val (.ref asr)] [(.ref asr), (.int (0 : Int32)), (.ref asr), (.ref ax)])) _
    obtain ⟨cl45, Ar45, -, S45, N45, -, -⟩ := id Vs
    refine X0.arraylength hx (by rw [e0]; exact Ar45.1) (State.isArrayOf_alike hZ.alike Ar45.2.1) (g := (mkF m 4 #[.val (.ref ax), .val (.ref asr)] [(.ref asr), (.int (0 : Int32)), (.ref asr), (.ref ax)])) rfl rfl (hb hby d1_4) _ ?_
    rw [len_of S45 N45]
    refine XS.aconstNull X0.here hx rfl (hb hby d1_5) ?_
    exact k
  obtain ⟨_, _, ⟨T46, L46, k46, n46⟩, -, X46, ⟨Lc46, hQ46, l46, y46, z46⟩, st46⟩ := X0.specialBack hx (y := (⟨"java/lang/String", "<init>", "([CIILjava/lang/Void;)V"⟩ : MethodName)) rfl hown (mvT hZ (own_w hw 7 rfl)) (mvT hZ (own_w hw 8 rfl)) (mvT hZ (own_w hw 10 rfl)) (by decide) (backOf (W := 0) (rm2_2 l Z a0 hw [] ax asr ks ca cb pG h0 n0 Z0 Ea Fv Fc ga Vs nas hp_ca hp_cb O2 hG X00) hZ (own_w hw 10 rfl) (own_w hw 2 rfl) (by decide) (by decide)) (g := (mkF m 6 #[.val (.ref ax), .val (.ref asr)] [.null, (.int (2 : Int32)), (.int (0 : Int32)), (.ref asr), (.ref ax)])) rfl (by rw [hml]; rfl) (Steps.refl _) (a := ax) (argsL := [(.ref asr), (.int (0 : Int32)), (.int (2 : Int32)), .null]) (rest := []) (lenOf own_pd1 rfl) rfl (by show 2 * 0 + _ ≤ _; exact Nat.le_of_eq rfl) (hb hby d1_6) (fun _ _ => ⟨rfl, e0, (by decide : 0 + 1 ≤ _), (by decide : 0 + 2 ≤ _)⟩)
  dsimp only [Pt.U, Pt.locs, Pt.cells, Pt.slots] at X46 l46 y46 z46 st46 hQ46
  replace y46 : _ = 1 := y46
  replace z46 : _ = 2 := z46
  subst y46 z46
  obtain ⟨rfl, Nq46, Kq46, ad46, kq46, Fv46, Fc46, Vq46, nq46⟩ := hQ46
  have N46 := own_frl l46 N0 Nq46
  refine own_pre (fun t k => st46.trans k) ?_
  have Kc46 : Keep h0 T46.heap [ax] := (Keep.refl h0 [ax]).trans Kq46 (allS (Or.inl (List.mem_of_getElem? (i := 0) rfl)) all0)
  obtain ⟨fs, hr, hrun, hended, hW, hsame⟩ := X46.leave (hlocks := BodyLoose.notSynchronized Bd) (v := none) (fun _ => rfl)
  refine ⟨_, _, X46.returnOut hx Bd.returns (hb hby d1_9) hr, hrun, hended, _, _, rfl, ?_, ⟨_, rfl⟩, hW, hsame.mono (by decide) (by decide)⟩
  show own_Q1_2 Z ax asr ks ca cb pG h0 n0 _ T46.heap _
  exact ⟨rfl, N46, Kc46, ad46, kq46, Fv46, Fc46, Vq46, nq46⟩
def own_Q2_3 (Z : State) (ax : Addr) (asr : Addr) (ks : ClassId) (ca : Int32) (cb : Int32) (cd : Int32) (pG : Int32) (h0 : Heap) (n0 : Nat) (v : Option Value) (h : Heap) (L : List Loc) : Prop := v = none ∧ Fr n0 L ∧ Keep h0 h [ax] ∧ ∃ (ad : Addr) (kd : ClassId), Fld Z h ax "java/lang/String" "value" "[B" (.ref ad) ∧ Fld Z h ax "java/lang/String" "coder" "B" (.int (0 : Int32)) ∧ Arv Z h ad kd .byte (3 : Int32) [(.int ca), (.int cb), (.int cd)] (.int (0 : Int32)) ∧ ax ≠ ad
set_option maxRecDepth 65536 in
set_option maxHeartbeats 40000000 in
theorem rm2_3 (l : Launch) (Z : State) (a0 : Array Value) (hw : ∀ d ∈ tables_1, d.before a0 Z = true) (ws : List Jvm.Cond) (ax : Addr) (asr : Addr) (ks : ClassId) (ca : Int32) (cb : Int32) (cd : Int32) (pG : Int32) (h0 : Heap) (n0 : Nat) (Z0 : n0 ≤ h0.size) (Ea : Exa Z h0 ax "java/lang/String") (Fv : Fld Z h0 ax "java/lang/String" "value" "[B" .null) (Fc : Fld Z h0 ax "java/lang/String" "coder" "B" (.int (0 : Int32))) (ga : n0 ≤ ax) (Vs : Arv Z h0 asr ks .char (3 : Int32) [(.int ca), (.int cb), (.int cd)] (.int (0 : Int32))) (nas : ax ≠ asr) (hp_ca : 0 ≤ ca.toInt ∧ ca.toInt < 128) (hp_cb : 0 ≤ cb.toInt ∧ cb.toInt < 128) (hp_cd : 0 ≤ cd.toInt ∧ cd.toInt < 128) (O2 : Sta Z Z.heap "java/lang/String" "COMPACT_STRINGS" "Z" (.int pG)) (hG : ¬ pG = (0 : Int32)) (X00 : Old Z n0 h0) :
    MetFree l (⟨"java/lang/String", "<init>", "([CIILjava/lang/Void;)V"⟩ : MethodName) (head1 (Jvm.Cond.code (⟨"java/lang/String", "<init>", "([CIILjava/lang/Void;)V"⟩ : MethodName) jdk_42_method_149_code 6 none :: ws) ({ frames := 2, cells := 1, slots := 3, locals := 35 } : Room)) (fun a U => a = #[(.ref ax), (.ref asr), (.int (0 : Int32)), (.int (3 : Int32)), .null] ∧ Z.Warmed39 U.vm ∧ U.heap = h0) (fun _ _ _ _ _ => True) (fun _ U o U' => ∃ v L, o = .returned v ∧ own_Q2_3 Z ax asr ks ca cb cd pG h0 n0 v U'.heap L ∧ FrameEnd U o U' L ({ frames := 2, cells := 1, slots := 3, locals := 35 } : Room).cells ({ frames := 2, cells := 1, slots := 3, locals := 35 } : Room).slots) := by
  refine MetFree.of_bodySF (plainFor_of_name own_pn2) hisR ?_
  intro p e s m args below meth c s₁ Bd hml0 hP hK
  obtain ⟨rfl, hZ, hh⟩ := hP
  have hx := Bd.exec
  have hby := Bd.bytes
  have hml : c.maxLocals = 6 := hml0
  have hown : s.vm.findClass "java/lang/String" = some m.cls := findClass_of_methodNamed Bd.named
  have hnm := (name_of_methodNamed Bd.named Bd.method).1
  have X0 : Stand p l e ({ frames := 2, cells := 1, slots := 3, locals := 35 } : Room) s m #[(.ref ax), (.ref asr), (.int (0 : Int32)), (.int (3 : Int32)), .null] below meth c s₁ [] 0 0 := Stand.of_body Bd
  have e0 : s₁.heap = h0 := by rw [← hh, Bd.state]; rfl
  have N0 := Fr.nil n0
  refine own_pre (A := (s₁.setTop (mkF m 0 #[.val (.ref ax), .val (.ref asr), .val (.int (0 : Int32)), .val (.int (3 : Int32)), .val .null, .unset] []))) (fun t k => castTop (own_ef2n m ax asr (0 : Int32) (3 : Int32)) k) ?_
  refine own_pre (A := (s₁.setTop (mkF m 1 #[.val (.ref ax), .val (.ref asr), .val (.int (0 : Int32)), .val (.int (3 : Int32)), .val .null, .unset] [(.ref ax)]))) ?_ ?_
  · intro t k
    refine XS.aloadN X0.here hx rfl (hb hby d2_0) rfl rfl ?_
    exact k
  obtain ⟨T47, X47, e47, st47⟩ := initO X0 hx hZ hown (own_w hw 11 rfl) (own_w hw 12 rfl) (own_w hw 13 rfl) e0 (g := (mkF m 1 #[.val (.ref ax), .val (.ref asr), .val (.int (0 : Int32)), .val (.int (3 : Int32)), .val .null, .unset] [(.ref ax)])) rfl (by rw [hml]; rfl) rfl (hb hby d2_1) (by decide) (W := 0) (by show 2 * 0 + _ ≤ _; exact Nat.le_of_eq rfl) (by decide)
  refine own_pre (fun t k => st47 t k) ?_
  refine own_pre (A := (T47.setTop (mkF m 27 #[.val (.ref ax), .val (.ref asr), .val (.int (0 : Int32)), .val (.int (3 : Int32)), .val .null, .unset] []))) ?_ ?_
  · intro t k
    refine XS.iloadN X47.here hx rfl (hb hby d2_4) rfl ?_
    refine XS.ifYes X47.here hx rfl (pc0 := 5) (pc' := 27) rfl (hb hby d2_5) rfl ((if0 _ _).trans (feq (by decide : ¬ ((3 : Int32) = (0 : Int32)))).2) (by decide) (by decide) ?_
    exact k
  obtain ⟨T48, X48, e48, st48⟩ := getS2 X47 hx hZ hown (host := "") (Or.inl (own_w hw 14 rfl)) Via.refl e47 (O2.ext X00.2) (g := (mkF m 27 #[.val (.ref ax), .val (.ref asr), .val (.int (0 : Int32)), .val (.int (3 : Int32)), .val .null, .unset] [])) rfl (hb hby d2_27)
  refine own_pre (fun t k => st48 t k) ?_
  refine own_pre (A := (T48.setTop (mkF m 36 #[.val (.ref ax), .val (.ref asr), .val (.int (0 : Int32)), .val (.int (3 : Int32)), .val .null, .unset] [(.int (3 : Int32)), (.int (0 : Int32)), (.ref asr)]))) ?_ ?_
  · intro t k
    refine XS.ifNo X48.here hx rfl (hb hby d2_30) rfl ((if0 _ _).trans (feq hG).1) ?_
    refine XS.aloadN X48.here hx rfl (hb hby d2_33) rfl rfl ?_
    refine XS.iloadN X48.here hx rfl (hb hby d2_34) rfl ?_
    refine XS.iloadN X48.here hx rfl (hb hby d2_35) rfl ?_
    exact k
  obtain ⟨_, _, ⟨T49, L49, k49, n49⟩, -, X49, ⟨Lc49, hQ49, l49, y49, z49⟩, st49⟩ := Jvm.LawKit.callS X48 hx (y := (⟨"java/lang/StringUTF16", "compress", "([CII)[B"⟩ : MethodName)) hown (mvT hZ (own_w hw 15 rfl)) (mvT hZ (own_w hw 16 rfl)) (mvT hZ (own_w hw 17 rfl)) (mvT hZ (own_w hw 18 rfl)) (by decide) (backOf (W := 0) (rm4_3 l Z a0 hw [] asr ks ca cb cd h0 n0 Z0 Vs hp_ca hp_cb hp_cd) hZ (own_w hw 18 rfl) (own_w hw 17 rfl) (by decide) (by decide)) (g := (mkF m 36 #[.val (.ref ax), .val (.ref asr), .val (.int (0 : Int32)), .val (.int (3 : Int32)), .val .null, .unset] [(.int (3 : Int32)), (.int (0 : Int32)), (.ref asr)])) rfl (by rw [hml]; rfl) (argsL := [(.ref asr), (.int (0 : Int32)), (.int (3 : Int32))]) (rest := []) (lenOf own_pd2 rfl) rfl (by show 2 * 0 + _ ≤ _; exact Nat.le_of_eq rfl) (hb hby d2_36) (fun _ _ => ⟨rfl, e48, (by decide : 0 + 1 ≤ _), (by decide : 0 + 3 ≤ _)⟩)
  dsimp only [Pt.U, Pt.locs, Pt.cells, Pt.slots] at X49 l49 y49 z49 st49 hQ49
  replace y49 : _ = 1 := y49
  replace z49 : _ = 3 := z49
  subst y49 z49
  obtain ⟨Nq49, ad49, kq49, rfl, gq49, zz49, Vq49, Kq49⟩ := hQ49
  have N49 := own_frl l49 N0 Nq49
  refine own_pre (fun t k => st49 t k) ?_
  have ne_ax_ad49 : ax ≠ ad49 := Nat.ne_of_lt (Nat.lt_of_lt_of_le Ea.lt zz49)
  have Ea_49 := Ea.keep Kq49
  have Fv_49 := Fv.keep Kq49 nin0
  have Fc_49 := Fc.keep Kq49 nin0
  have Zs49 : n0 ≤ T49.heap.size := Nat.le_trans Z0 Kq49.1
  have Kc49 : Keep h0 T49.heap [ax] := (Keep.refl h0 [ax]).trans Kq49 all0
  refine own_pre (A := (T49.setTop (mkF m 45 #[.val (.ref ax), .val (.ref asr), .val (.int (0 : Int32)), .val (.int (3 : Int32)), .val .null, .val (.ref ad49)] [(.int (3 : Int32)), (.ref ad49), (.ref ax)]))) ?_ ?_
  · intro t k
    refine XS.astore X49.here hx rfl (hb hby d2_39) rfl rfl (l' := #[.val (.ref ax), .val (.ref asr), .val (.int (0 : Int32)), .val (.int (3 : Int32)), .val .null, .val (.ref ad49)]) rfl ?_
    refine XS.aloadN X49.here hx rfl (hb hby d2_41) rfl rfl ?_
    refine XS.aload X49.here hx rfl (hb hby d2_42) rfl rfl ?_
    refine XS.iloadN X49.here hx rfl (hb hby d2_44) rfl ?_
    exact k
  obtain ⟨_, _, ⟨T50, L50, k50, n50⟩, -, X50, ⟨Lc50, hQ50, l50, y50, z50⟩, st50⟩ := Jvm.LawKit.callS X49 hx (y := (⟨"java/lang/StringUTF16", "coderFromArrayLen", "([BI)B"⟩ : MethodName)) hown (mvT hZ (own_w hw 23 rfl)) (mvT hZ (own_w hw 24 rfl)) (mvT hZ (own_w hw 17 rfl)) (mvT hZ (own_w hw 25 rfl)) (by decide) (backOf (W := 1) (rm6_3 l Z a0 hw [] ad49 kq49 ca cb cd T49.heap n0 Zs49 Vq49) hZ (own_w hw 25 rfl) (own_w hw 17 rfl) (by decide) (by decide)) (g := (mkF m 45 #[.val (.ref ax), .val (.ref asr), .val (.int (0 : Int32)), .val (.int (3 : Int32)), .val .null, .val (.ref ad49)] [(.int (3 : Int32)), (.ref ad49), (.ref ax)])) rfl (by rw [hml]; rfl) (argsL := [(.ref ad49), (.int (3 : Int32))]) (rest := [(.ref ax)]) (lenOf own_pd3 rfl) rfl (by show 2 * 0 + _ ≤ _; exact Nat.le_of_eq rfl) (hb hby d2_45) (fun _ _ => ⟨rfl, rfl, (by decide : 1 + 0 ≤ _), (by decide : 3 + 0 ≤ _)⟩)
  dsimp only [Pt.U, Pt.locs, Pt.cells, Pt.slots] at X50 l50 y50 z50 st50 hQ50
  replace y50 : _ = 1 := y50
  replace z50 : _ = 3 := z50
  subst y50 z50
  obtain ⟨Nq50, rfl, eq50⟩ := hQ50
  have N50 := own_frl l50 N49 Nq50
  refine own_pre (fun t k => st50 t k) ?_
  obtain ⟨T51, h51, X51, e51, W51, st51⟩ := putFN X50 hx hZ hown (own_w hw 26 rfl) Via.refl eq50 Fc_49 Ea_49 (Or.inr ⟨(own_w hw 27 rfl), rfl, hnm⟩) (own_w hw 1 rfl) (ty := .byte) (v' := (.int (0 : Int32))) (by decide) rfl rfl (g := (mkF m 48 #[.val (.ref ax), .val (.ref asr), .val (.int (0 : Int32)), .val (.int (3 : Int32)), .val .null, .val (.ref ad49)] [(.int (0 : Int32)), (.ref ax)])) rfl rfl (hb hby d2_48)
  have Ea_51 := Ea_49.wr W51
  have Fv_51 := Fv_49.other W51 (Or.inr (slot_ne (Or.inr (own_w hw 29 rfl)) (Or.inr (own_w hw 27 rfl)) (by decide) (t := (.array .byte)) (t' := .byte) (by decide) (by decide)))
  have Vq49_51 := Vq49.other W51 ne_ax_ad49.symm
  have Kc51 : Keep h0 h51 [ax] := Kc49.wr W51 (Or.inl (List.mem_of_getElem? (i := 0) rfl))
  have N51 := Fr.snoc X51 N50 ga
  have Fw51 := Fc_49.same W51
  refine own_pre (fun t k => st51 t k) ?_
  refine own_pre (A := (T51.setTop (mkF m 54 #[.val (.ref ax), .val (.ref asr), .val (.int (0 : Int32)), .val (.int (3 : Int32)), .val .null, .val (.ref ad49)] [(.ref ad49), (.ref ax)]))) ?_ ?_
  · intro t k
    refine XS.aloadN X51.here hx rfl (hb hby d2_51) rfl rfl ?_
    refine XS.aload X51.here hx rfl (hb hby d2_52) rfl rfl ?_
    exact k
  obtain ⟨T52, h52, X52, e52, W52, st52⟩ := putF X51 hx hZ hown (host := "") (Or.inl (own_w hw 28 rfl)) Via.refl e51 Fv_51 Ea_51 (Or.inr ⟨(own_w hw 29 rfl), rfl, hnm⟩) (own_w hw 1 rfl) (ty := (.array .byte)) (by decide) rfl rfl (g := (mkF m 54 #[.val (.ref ax), .val (.ref asr), .val (.int (0 : Int32)), .val (.int (3 : Int32)), .val .null, .val (.ref ad49)] [(.ref ad49), (.ref ax)])) rfl rfl (hb hby d2_54)
  have Fw51_52 := Fw51.other W52 (Or.inr (slot_ne (Or.inr (own_w hw 27 rfl)) (Or.inr (own_w hw 29 rfl)) (by decide) (t := .byte) (t' := (.array .byte)) (by decide) (by decide)))
  have Vq49_52 := Vq49_51.other W52 ne_ax_ad49.symm
  have Kc52 : Keep h0 h52 [ax] := Kc51.wr W52 (Or.inl (List.mem_of_getElem? (i := 0) rfl))
  have N52 := Fr.snoc X52 N51 ga
  have Fw52 := Fv_51.same W52
  refine own_pre (fun t k => st52 t k) ?_
  obtain ⟨fs, hr, hrun, hended, hW, hsame⟩ := X52.leave (hlocks := BodyLoose.notSynchronized Bd) (v := none) (fun _ => rfl)
  refine ⟨_, _, X52.returnOut hx Bd.returns (hb hby d2_57) hr, hrun, hended, _, _, rfl, ?_, ⟨_, rfl⟩, hW, hsame.mono (by decide) (by decide)⟩
  show own_Q2_3 Z ax asr ks ca cb cd pG h0 n0 _ T52.heap _
  rw [e52]
  exact ⟨rfl, N52, Kc52, ad49, kq49, Fw52, Fw51_52, Vq49_52, ne_ax_ad49⟩
def own_Q1_3 (Z : State) (ax : Addr) (asr : Addr) (ks : ClassId) (ca : Int32) (cb : Int32) (cd : Int32) (pG : Int32) (h0 : Heap) (n0 : Nat) (v : Option Value) (h : Heap) (L : List Loc) : Prop := v = none ∧ Fr n0 L ∧ Keep h0 h [ax] ∧ ∃ (ad : Addr) (kd : ClassId), Fld Z h ax "java/lang/String" "value" "[B" (.ref ad) ∧ Fld Z h ax "java/lang/String" "coder" "B" (.int (0 : Int32)) ∧ Arv Z h ad kd .byte (3 : Int32) [(.int ca), (.int cb), (.int cd)] (.int (0 : Int32)) ∧ ax ≠ ad
set_option maxRecDepth 65536 in
set_option maxHeartbeats 40000000 in
theorem rm1_3 (l : Launch) (Z : State) (a0 : Array Value) (hw : ∀ d ∈ tables_1, d.before a0 Z = true) (ws : List Jvm.Cond) (ax : Addr) (asr : Addr) (ks : ClassId) (ca : Int32) (cb : Int32) (cd : Int32) (pG : Int32) (h0 : Heap) (n0 : Nat) (Z0 : n0 ≤ h0.size) (Ea : Exa Z h0 ax "java/lang/String") (Fv : Fld Z h0 ax "java/lang/String" "value" "[B" .null) (Fc : Fld Z h0 ax "java/lang/String" "coder" "B" (.int (0 : Int32))) (ga : n0 ≤ ax) (Vs : Arv Z h0 asr ks .char (3 : Int32) [(.int ca), (.int cb), (.int cd)] (.int (0 : Int32))) (nas : ax ≠ asr) (hp_ca : 0 ≤ ca.toInt ∧ ca.toInt < 128) (hp_cb : 0 ≤ cb.toInt ∧ cb.toInt < 128) (hp_cd : 0 ≤ cd.toInt ∧ cd.toInt < 128) (O2 : Sta Z Z.heap "java/lang/String" "COMPACT_STRINGS" "Z" (.int pG)) (hG : ¬ pG = (0 : Int32)) (X00 : Old Z n0 h0) :
    MetFree l (⟨"java/lang/String", "<init>", "([C)V"⟩ : MethodName) (head1 (Jvm.Cond.code (⟨"java/lang/String", "<init>", "([C)V"⟩ : MethodName) jdk_42_method_3_code 2 none :: ws) ({ frames := 3, cells := 1, slots := 3, locals := 52 } : Room)) (fun a U => a = #[(.ref ax), (.ref asr)] ∧ Z.Warmed39 U.vm ∧ U.heap = h0) (fun _ _ _ _ _ => True) (fun _ U o U' => ∃ v L, o = .returned v ∧ own_Q1_3 Z ax asr ks ca cb cd pG h0 n0 v U'.heap L ∧ FrameEnd U o U' L ({ frames := 3, cells := 1, slots := 3, locals := 52 } : Room).cells ({ frames := 3, cells := 1, slots := 3, locals := 52 } : Room).slots) := by
  refine MetFree.of_bodySF (plainFor_of_name own_pn1) hisR ?_
  intro p e s m args below meth c s₁ Bd hml0 hP hK
  obtain ⟨rfl, hZ, hh⟩ := hP
  have hx := Bd.exec
  have hby := Bd.bytes
  have hml : c.maxLocals = 2 := hml0
  have hown : s.vm.findClass "java/lang/String" = some m.cls := findClass_of_methodNamed Bd.named
  have hnm := (name_of_methodNamed Bd.named Bd.method).1
  have X0 : Stand p l e ({ frames := 3, cells := 1, slots := 3, locals := 52 } : Room) s m #[(.ref ax), (.ref asr)] below meth c s₁ [] 0 0 := Stand.of_body Bd
  have e0 : s₁.heap = h0 := by rw [← hh, Bd.state]; rfl
  have N0 := Fr.nil n0
  refine own_pre (A := (s₁.setTop (mkF m 0 #[.val (.ref ax), .val (.ref asr)] []))) (fun t k => castTop (own_ef1 m ax asr) k) ?_
  refine own_pre (A := (s₁.setTop (mkF m 6 #[.val (.ref ax), .val (.ref asr)] [.null, (.int (3 : Int32)), (.int (0 : Int32)), (.ref asr), (.ref ax)]))) ?_ ?_
  · intro t k
    refine XS.aloadN X0.here hx rfl (hb hby d1_0) rfl rfl ?_
    refine XS.aloadN X0.here hx rfl (hb hby d1_1) rfl rfl ?_
    refine XS.iconst X0.here hx rfl (hb hby d1_2) ?_
    refine XS.aloadN X0.here hx rfl (hb hby d1_3) rfl rfl ?_
    show Steps p.tables e below (s₁.setTop (mkF m 4 #[.val (.ref ax), .val (.ref asr)] [(.ref asr), (.int (0 : Int32)), (.ref asr), (.ref ax)])) _
    obtain ⟨cl53, Ar53, -, S53, N53, -, -⟩ := id Vs
    refine X0.arraylength hx (by rw [e0]; exact Ar53.1) (State.isArrayOf_alike hZ.alike Ar53.2.1) (g := (mkF m 4 #[.val (.ref ax), .val (.ref asr)] [(.ref asr), (.int (0 : Int32)), (.ref asr), (.ref ax)])) rfl rfl (hb hby d1_4) _ ?_
    rw [len_of S53 N53]
    refine XS.aconstNull X0.here hx rfl (hb hby d1_5) ?_
    exact k
  obtain ⟨_, _, ⟨T54, L54, k54, n54⟩, -, X54, ⟨Lc54, hQ54, l54, y54, z54⟩, st54⟩ := X0.specialBack hx (y := (⟨"java/lang/String", "<init>", "([CIILjava/lang/Void;)V"⟩ : MethodName)) rfl hown (mvT hZ (own_w hw 7 rfl)) (mvT hZ (own_w hw 8 rfl)) (mvT hZ (own_w hw 10 rfl)) (by decide) (backOf (W := 0) (rm2_3 l Z a0 hw [] ax asr ks ca cb cd pG h0 n0 Z0 Ea Fv Fc ga Vs nas hp_ca hp_cb hp_cd O2 hG X00) hZ (own_w hw 10 rfl) (own_w hw 2 rfl) (by decide) (by decide)) (g := (mkF m 6 #[.val (.ref ax), .val (.ref asr)] [.null, (.int (3 : Int32)), (.int (0 : Int32)), (.ref asr), (.ref ax)])) rfl (by rw [hml]; rfl) (Steps.refl _) (a := ax) (argsL := [(.ref asr), (.int (0 : Int32)), (.int (3 : Int32)), .null]) (rest := []) (lenOf own_pd1 rfl) rfl (by show 2 * 0 + _ ≤ _; exact Nat.le_of_eq rfl) (hb hby d1_6) (fun _ _ => ⟨rfl, e0, (by decide : 0 + 1 ≤ _), (by decide : 0 + 3 ≤ _)⟩)
  dsimp only [Pt.U, Pt.locs, Pt.cells, Pt.slots] at X54 l54 y54 z54 st54 hQ54
  replace y54 : _ = 1 := y54
  replace z54 : _ = 3 := z54
  subst y54 z54
  obtain ⟨rfl, Nq54, Kq54, ad54, kq54, Fv54, Fc54, Vq54, nq54⟩ := hQ54
  have N54 := own_frl l54 N0 Nq54
  refine own_pre (fun t k => st54.trans k) ?_
  have Kc54 : Keep h0 T54.heap [ax] := (Keep.refl h0 [ax]).trans Kq54 (allS (Or.inl (List.mem_of_getElem? (i := 0) rfl)) all0)
  obtain ⟨fs, hr, hrun, hended, hW, hsame⟩ := X54.leave (hlocks := BodyLoose.notSynchronized Bd) (v := none) (fun _ => rfl)
  refine ⟨_, _, X54.returnOut hx Bd.returns (hb hby d1_9) hr, hrun, hended, _, _, rfl, ?_, ⟨_, rfl⟩, hW, hsame.mono (by decide) (by decide)⟩
  show own_Q1_3 Z ax asr ks ca cb cd pG h0 n0 _ T54.heap _
  exact ⟨rfl, N54, Kc54, ad54, kq54, Fv54, Fc54, Vq54, nq54⟩
theorem d9_0 : decode jdk_42_method_152_code 0 = .ok (.getstatic 38, 3) := by decide +kernel
theorem d9_3 : decode jdk_42_method_152_code 3 = .ok (.ifCond .eq 10, 3) := by decide +kernel
theorem d9_6 : decode jdk_42_method_152_code 6 = .ok (.aload_n 0, 1) := by decide +kernel
theorem d9_7 : decode jdk_42_method_152_code 7 = .ok (.getfield 15, 3) := by decide +kernel
theorem d9_10 : decode jdk_42_method_152_code 10 = .ok (.goto 4, 3) := by decide +kernel
theorem d9_14 : decode jdk_42_method_152_code 14 = .ok (.ireturn, 1) := by decide +kernel
theorem own_pn9 : plainName "java/lang/String" = true := by first | (simp [plainName, overriddenIn]; done) | decide +kernel
theorem own_ef9 (m : MethodId) (x0 : Addr) : entryFrame m #[(.ref x0)] 1 = mkF m 0 #[.val (.ref x0)] [] := by first | (simp [entryFrame, mkF, argsToLocals, Value.category]; done) | rfl
def own_Q9 (Z : State) (ax : Addr) (pG : Int32) (h0 : Heap) (n0 : Nat) (v : Option Value) (h : Heap) (L : List Loc) : Prop := Fr n0 L ∧ v = some (.int (0 : Int32)) ∧ h = h0
set_option maxRecDepth 65536 in
set_option maxHeartbeats 40000000 in
theorem rm9 (l : Launch) (Z : State) (a0 : Array Value) (hw : ∀ d ∈ tables_1, d.before a0 Z = true) (ws : List Jvm.Cond) (ax : Addr) (pG : Int32) (h0 : Heap) (n0 : Nat) (Z0 : n0 ≤ h0.size) (Fc : Fld Z h0 ax "java/lang/String" "coder" "B" (.int (0 : Int32))) (O2 : Sta Z Z.heap "java/lang/String" "COMPACT_STRINGS" "Z" (.int pG)) (hG : ¬ pG = (0 : Int32)) (X00 : Old Z n0 h0) :
    MetFree l (⟨"java/lang/String", "coder", "()B"⟩ : MethodName) (head1 (Jvm.Cond.code (⟨"java/lang/String", "coder", "()B"⟩ : MethodName) jdk_42_method_152_code 1 (some .byte) :: ws) ({ frames := 0, cells := 0, slots := 0, locals := 0 } : Room)) (fun a U => a = #[(.ref ax)] ∧ Z.Warmed39 U.vm ∧ U.heap = h0) (fun _ _ _ _ _ => True) (fun _ U o U' => ∃ v L, o = .returned v ∧ own_Q9 Z ax pG h0 n0 v U'.heap L ∧ FrameEnd U o U' L ({ frames := 0, cells := 0, slots := 0, locals := 0 } : Room).cells ({ frames := 0, cells := 0, slots := 0, locals := 0 } : Room).slots) := by
  refine MetFree.of_bodySF (plainFor_of_name own_pn9) hisR ?_
  intro p e s m args below meth c s₁ Bd hml0 hP hK
  obtain ⟨rfl, hZ, hh⟩ := hP
  have hx := Bd.exec
  have hby := Bd.bytes
  have hml : c.maxLocals = 1 := hml0
  have hown : s.vm.findClass "java/lang/String" = some m.cls := findClass_of_methodNamed Bd.named
  have hnm := (name_of_methodNamed Bd.named Bd.method).1
  have X0 : Stand p l e ({ frames := 0, cells := 0, slots := 0, locals := 0 } : Room) s m #[(.ref ax)] below meth c s₁ [] 0 0 := Stand.of_body Bd
  have e0 : s₁.heap = h0 := by rw [← hh, Bd.state]; rfl
  have N0 := Fr.nil n0
  refine own_pre (A := (s₁.setTop (mkF m 0 #[.val (.ref ax)] []))) (fun t k => castTop (own_ef9 m ax) k) ?_
  obtain ⟨T55, X55, e55, st55⟩ := getS2 X0 hx hZ hown (host := "") (Or.inl (own_w hw 14 rfl)) Via.refl e0 (O2.ext X00.2) (g := (mkF m 0 #[.val (.ref ax)] [])) rfl (hb hby d9_0)
  refine own_pre (fun t k => st55 t k) ?_
  refine own_pre (A := (T55.setTop (mkF m 7 #[.val (.ref ax)] [(.ref ax)]))) ?_ ?_
  · intro t k
    refine XS.ifNo X55.here hx rfl (hb hby d9_3) rfl ((if0 _ _).trans (feq hG).1) ?_
    refine XS.aloadN X55.here hx rfl (hb hby d9_6) rfl rfl ?_
    exact k
  obtain ⟨T56, X56, e56, st56⟩ := getF X55 hx hZ hown (host := "") (Or.inl (own_w hw 26 rfl)) Via.refl e55 Fc (g := (mkF m 7 #[.val (.ref ax)] [(.ref ax)])) rfl rfl (hb hby d9_7)
  refine own_pre (fun t k => st56 t k) ?_
  refine own_pre (A := (T56.setTop (mkF m 14 #[.val (.ref ax)] [(.int (0 : Int32))]))) ?_ ?_
  · intro t k
    refine XS.goto X56.here hx rfl (pc0 := 10) (pc' := 14) rfl (hb hby d9_10) (by decide) (by decide) ?_
    exact k
  obtain ⟨fs, hr, hrun, hended, hW, hsame⟩ := X56.leave (hlocks := BodyLoose.notSynchronized Bd) (v := some (.int (0 : Int32))) (fun h => by rw [Bd.returns] at h; cases h)
  refine ⟨_, _, retOut X56 hx Bd.returns rfl (Or.inl ⟨rfl, Or.inr (Or.inr (Or.inl rfl)), _, rfl⟩) (hb hby d9_14) hr, hrun, hended, _, _, rfl, ?_, ⟨_, rfl⟩, hW, hsame.mono (by decide) (by decide)⟩
  show own_Q9 Z ax pG h0 n0 _ T56.heap _
  rw [e56]
  exact ⟨N0, rfl, rfl⟩
theorem d11_0 : decode jdk_42_method_154_code 0 = .ok (.getstatic 38, 3) := by decide +kernel
theorem d11_3 : decode jdk_42_method_154_code 3 = .ok (.ifCond .eq 14, 3) := by decide +kernel
theorem d11_6 : decode jdk_42_method_154_code 6 = .ok (.aload_n 0, 1) := by decide +kernel
theorem d11_7 : decode jdk_42_method_154_code 7 = .ok (.getfield 15, 3) := by decide +kernel
theorem d11_10 : decode jdk_42_method_154_code 10 = .ok (.ifCond .ne 7, 3) := by decide +kernel
theorem d11_13 : decode jdk_42_method_154_code 13 = .ok (.iconst 1, 1) := by decide +kernel
theorem d11_14 : decode jdk_42_method_154_code 14 = .ok (.goto 4, 3) := by decide +kernel
theorem d11_18 : decode jdk_42_method_154_code 18 = .ok (.ireturn, 1) := by decide +kernel
theorem own_pn11 : plainName "java/lang/String" = true := by first | (simp [plainName, overriddenIn]; done) | decide +kernel
theorem own_ef11 (m : MethodId) (x0 : Addr) : entryFrame m #[(.ref x0)] 1 = mkF m 0 #[.val (.ref x0)] [] := by first | (simp [entryFrame, mkF, argsToLocals, Value.category]; done) | rfl
def own_Q11 (Z : State) (ax : Addr) (pG : Int32) (h0 : Heap) (n0 : Nat) (v : Option Value) (h : Heap) (L : List Loc) : Prop := Fr n0 L ∧ v = some (.int (1 : Int32)) ∧ h = h0
set_option maxRecDepth 65536 in
set_option maxHeartbeats 40000000 in
theorem rm11 (l : Launch) (Z : State) (a0 : Array Value) (hw : ∀ d ∈ tables_1, d.before a0 Z = true) (ws : List Jvm.Cond) (ax : Addr) (pG : Int32) (h0 : Heap) (n0 : Nat) (Z0 : n0 ≤ h0.size) (Fc : Fld Z h0 ax "java/lang/String" "coder" "B" (.int (0 : Int32))) (O2 : Sta Z Z.heap "java/lang/String" "COMPACT_STRINGS" "Z" (.int pG)) (hG : ¬ pG = (0 : Int32)) (X00 : Old Z n0 h0) :
    MetFree l (⟨"java/lang/String", "isLatin1", "()Z"⟩ : MethodName) (head1 (Jvm.Cond.code (⟨"java/lang/String", "isLatin1", "()Z"⟩ : MethodName) jdk_42_method_154_code 1 (some .boolean) :: ws) ({ frames := 0, cells := 0, slots := 0, locals := 0 } : Room)) (fun a U => a = #[(.ref ax)] ∧ Z.Warmed39 U.vm ∧ U.heap = h0) (fun _ _ _ _ _ => True) (fun _ U o U' => ∃ v L, o = .returned v ∧ own_Q11 Z ax pG h0 n0 v U'.heap L ∧ FrameEnd U o U' L ({ frames := 0, cells := 0, slots := 0, locals := 0 } : Room).cells ({ frames := 0, cells := 0, slots := 0, locals := 0 } : Room).slots) := by
  refine MetFree.of_bodySF (plainFor_of_name own_pn11) hisR ?_
  intro p e s m args below meth c s₁ Bd hml0 hP hK
  obtain ⟨rfl, hZ, hh⟩ := hP
  have hx := Bd.exec
  have hby := Bd.bytes
  have hml : c.maxLocals = 1 := hml0
  have hown : s.vm.findClass "java/lang/String" = some m.cls := findClass_of_methodNamed Bd.named
  have hnm := (name_of_methodNamed Bd.named Bd.method).1
  have X0 : Stand p l e ({ frames := 0, cells := 0, slots := 0, locals := 0 } : Room) s m #[(.ref ax)] below meth c s₁ [] 0 0 := Stand.of_body Bd
  have e0 : s₁.heap = h0 := by rw [← hh, Bd.state]; rfl
  have N0 := Fr.nil n0
  refine own_pre (A := (s₁.setTop (mkF m 0 #[.val (.ref ax)] []))) (fun t k => castTop (own_ef11 m ax) k) ?_
  obtain ⟨T57, X57, e57, st57⟩ := getS2 X0 hx hZ hown (host := "") (Or.inl (own_w hw 14 rfl)) Via.refl e0 (O2.ext X00.2) (g := (mkF m 0 #[.val (.ref ax)] [])) rfl (hb hby d11_0)
  refine own_pre (fun t k => st57 t k) ?_
  refine own_pre (A := (T57.setTop (mkF m 7 #[.val (.ref ax)] [(.ref ax)]))) ?_ ?_
  · intro t k
    refine XS.ifNo X57.here hx rfl (hb hby d11_3) rfl ((if0 _ _).trans (feq hG).1) ?_
    refine XS.aloadN X57.here hx rfl (hb hby d11_6) rfl rfl ?_
    exact k
  obtain ⟨T58, X58, e58, st58⟩ := getF X57 hx hZ hown (host := "") (Or.inl (own_w hw 26 rfl)) Via.refl e57 Fc (g := (mkF m 7 #[.val (.ref ax)] [(.ref ax)])) rfl rfl (hb hby d11_7)
  refine own_pre (fun t k => st58 t k) ?_
  refine own_pre (A := (T58.setTop (mkF m 18 #[.val (.ref ax)] [(.int (1 : Int32))]))) ?_ ?_
  · intro t k
    refine XS.ifNo X58.here hx rfl (hb hby d11_10) rfl ((if0 _ _).trans (teq (by decide : (0 : Int32) = (0 : Int32))).2) ?_
    refine XS.iconst X58.here hx rfl (hb hby d11_13) ?_
    refine XS.goto X58.here hx rfl (pc0 := 14) (pc' := 18) rfl (hb hby d11_14) (by decide) (by decide) ?_
    exact k
  obtain ⟨fs, hr, hrun, hended, hW, hsame⟩ := X58.leave (hlocks := BodyLoose.notSynchronized Bd) (v := some (.int (1 : Int32))) (fun h => by rw [Bd.returns] at h; cases h)
  refine ⟨_, _, retOut X58 hx Bd.returns rfl (Or.inl ⟨rfl, Or.inr (Or.inl rfl), _, rfl⟩) (hb hby d11_18) hr, hrun, hended, _, _, rfl, ?_, ⟨_, rfl⟩, hW, hsame.mono (by decide) (by decide)⟩
  show own_Q11 Z ax pG h0 n0 _ T58.heap _
  rw [e58]
  exact ⟨N0, rfl, rfl⟩
theorem d8_0 : decode jdk_42_method_54_code 0 = .ok (.aload_n 0, 1) := by decide +kernel
theorem d8_1 : decode jdk_42_method_54_code 1 = .ok (.getfield 9, 3) := by decide +kernel
theorem d8_4 : decode jdk_42_method_54_code 4 = .ok (.arraylength, 1) := by decide +kernel
theorem d8_5 : decode jdk_42_method_54_code 5 = .ok (.aload_n 0, 1) := by decide +kernel
theorem d8_6 : decode jdk_42_method_54_code 6 = .ok (.invokevirtual 335, 3) := by decide +kernel
theorem d8_9 : decode jdk_42_method_54_code 9 = .ok (.ishr, 1) := by decide +kernel
theorem d8_10 : decode jdk_42_method_54_code 10 = .ok (.ireturn, 1) := by decide +kernel
theorem own_pn8 : plainName "java/lang/String" = true := by first | (simp [plainName, overriddenIn]; done) | decide +kernel
theorem own_ef8 (m : MethodId) (x0 : Addr) : entryFrame m #[(.ref x0)] 1 = mkF m 0 #[.val (.ref x0)] [] := by first | (simp [entryFrame, mkF, argsToLocals, Value.category]; done) | rfl
def own_Q8_0 (Z : State) (ax : Addr) (ad : Addr) (kd : ClassId) (pG : Int32) (h0 : Heap) (n0 : Nat) (v : Option Value) (h : Heap) (L : List Loc) : Prop := Fr n0 L ∧ v = some (.int (0 : Int32)) ∧ h = h0
set_option maxRecDepth 65536 in
set_option maxHeartbeats 40000000 in
theorem rm8_0 (l : Launch) (Z : State) (a0 : Array Value) (hw : ∀ d ∈ tables_1, d.before a0 Z = true) (ws : List Jvm.Cond) (ax : Addr) (ad : Addr) (kd : ClassId) (pG : Int32) (h0 : Heap) (n0 : Nat) (Z0 : n0 ≤ h0.size) (Ea : Exa Z h0 ax "java/lang/String") (Fv : Fld Z h0 ax "java/lang/String" "value" "[B" (.ref ad)) (Fc : Fld Z h0 ax "java/lang/String" "coder" "B" (.int (0 : Int32))) (Vd : Arv Z h0 ad kd .byte (0 : Int32) [] (.int (0 : Int32))) (O2 : Sta Z Z.heap "java/lang/String" "COMPACT_STRINGS" "Z" (.int pG)) (hG : ¬ pG = (0 : Int32)) (X00 : Old Z n0 h0) :
    MetFree l (⟨"java/lang/String", "length", "()I"⟩ : MethodName) (head1 (Jvm.Cond.code (⟨"java/lang/String", "length", "()I"⟩ : MethodName) jdk_42_method_54_code 1 (some .int) :: ws) ({ frames := 1, cells := 0, slots := 0, locals := 13 } : Room)) (fun a U => a = #[(.ref ax)] ∧ Z.Warmed39 U.vm ∧ U.heap = h0) (fun _ _ _ _ _ => True) (fun _ U o U' => ∃ v L, o = .returned v ∧ own_Q8_0 Z ax ad kd pG h0 n0 v U'.heap L ∧ FrameEnd U o U' L ({ frames := 1, cells := 0, slots := 0, locals := 13 } : Room).cells ({ frames := 1, cells := 0, slots := 0, locals := 13 } : Room).slots) := by
  refine MetFree.of_bodySF (plainFor_of_name own_pn8) hisR ?_
  intro p e s m args below meth c s₁ Bd hml0 hP hK
  obtain ⟨rfl, hZ, hh⟩ := hP
  have hx := Bd.exec
  have hby := Bd.bytes
  have hml : c.maxLocals = 1 := hml0
  have hown : s.vm.findClass "java/lang/String" = some m.cls := findClass_of_methodNamed Bd.named
  have hnm := (name_of_methodNamed Bd.named Bd.method).1
  have X0 : Stand p l e ({ frames := 1, cells := 0, slots := 0, locals := 13 } : Room) s m #[(.ref ax)] below meth c s₁ [] 0 0 := Stand.of_body Bd
  have e0 : s₁.heap = h0 := by rw [← hh, Bd.state]; rfl
  have N0 := Fr.nil n0
  refine own_pre (A := (s₁.setTop (mkF m 0 #[.val (.ref ax)] []))) (fun t k => castTop (own_ef8 m ax) k) ?_
  refine own_pre (A := (s₁.setTop (mkF m 1 #[.val (.ref ax)] [(.ref ax)]))) ?_ ?_
  · intro t k
    refine XS.aloadN X0.here hx rfl (hb hby d8_0) rfl rfl ?_
    exact k
  obtain ⟨T59, X59, e59, st59⟩ := getF X0 hx hZ hown (host := "") (Or.inl (own_w hw 28 rfl)) Via.refl e0 Fv (g := (mkF m 1 #[.val (.ref ax)] [(.ref ax)])) rfl rfl (hb hby d8_1)
  refine own_pre (fun t k => st59 t k) ?_
  refine own_pre (A := (T59.setTop (mkF m 6 #[.val (.ref ax)] [(.ref ax), (.int (0 : Int32))]))) ?_ ?_
  · intro t k
    show Steps p.tables e below (T59.setTop (mkF m 4 #[.val (.ref ax)] [(.ref ad)])) _
    obtain ⟨cl60, Ar60, -, S60, N60, -, -⟩ := id Vd
    refine X59.arraylength hx (by rw [e59]; exact Ar60.1) (State.isArrayOf_alike hZ.alike Ar60.2.1) (g := (mkF m 4 #[.val (.ref ax)] [(.ref ad)])) rfl rfl (hb hby d8_4) _ ?_
    rw [len_of S60 N60]
    refine XS.aloadN X59.here hx rfl (hb hby d8_5) rfl rfl ?_
    exact k
  obtain ⟨cq61, kq61, q61a, q61b, q61c⟩ := isOf hZ e59 Ea
  obtain ⟨_, _, ⟨T61, L61, k61, n61⟩, -, X61, ⟨Lc61, hQ61, l61, y61, z61⟩, st61⟩ := X59.virtualBack hx (y := (⟨"java/lang/String", "coder", "()B"⟩ : MethodName)) (z := (⟨"java/lang/String", "coder", "()B"⟩ : MethodName)) hown (mvT hZ (own_w hw 48 rfl)) (mvT hZ (own_w hw 49 rfl)) (notFace_of_selects (args := #[]) (mvT hZ (own_w hw 51 rfl))) (mvT hZ (own_w hw 51 rfl)) (mvT hZ (own_w hw 50 rfl)) (by decide) (backOf (W := 1) (rm9 l Z a0 hw [] ax pG h0 n0 Z0 Fc O2 hG X00) hZ (own_w hw 52 rfl) (own_w hw 2 rfl) (by decide) (by decide)) q61a q61c (g := (mkF m 6 #[.val (.ref ax)] [(.ref ax), (.int (0 : Int32))])) rfl (by rw [hml]; rfl) (Steps.refl _) (argsL := []) (rest := [(.int (0 : Int32))]) (lenOf own_pd4 rfl) rfl (by show 2 * 0 + _ ≤ _; exact Nat.le_of_eq rfl) (hb hby d8_6) (fun _ _ => ⟨rfl, e59, (by decide : 0 + 0 ≤ _), (by decide : 0 + 0 ≤ _)⟩)
  dsimp only [Pt.U, Pt.locs, Pt.cells, Pt.slots] at X61 l61 y61 z61 st61 hQ61
  replace y61 : _ = 0 := y61
  replace z61 : _ = 0 := z61
  subst y61 z61
  obtain ⟨Nq61, rfl, eq61⟩ := hQ61
  have N61 := own_frl l61 N0 Nq61
  refine own_pre (fun t k => st61.trans k) ?_
  refine own_pre (A := (T61.setTop (mkF m 10 #[.val (.ref ax)] [(.int (0 : Int32))]))) ?_ ?_
  · intro t k
    refine XS.ishr X61.here hx rfl (hb hby d8_9) rfl ?_
    show Steps p.tables e below (T61.setTop (mkF m 10 #[.val (.ref ax)] [(.int ((0 : Int32) >>> ((0 : Int32) &&& 31)))])) _
    rw [show ((0 : Int32) >>> ((0 : Int32) &&& 31)) = (0 : Int32) from by decide]
    exact k
  obtain ⟨fs, hr, hrun, hended, hW, hsame⟩ := X61.leave (hlocks := BodyLoose.notSynchronized Bd) (v := some (.int (0 : Int32))) (fun h => by rw [Bd.returns] at h; cases h)
  refine ⟨_, _, retOut X61 hx Bd.returns rfl (Or.inl ⟨rfl, Or.inl rfl, _, rfl⟩) (hb hby d8_10) hr, hrun, hended, _, _, rfl, ?_, ⟨_, rfl⟩, hW, hsame.mono (by decide) (by decide)⟩
  show own_Q8_0 Z ax ad kd  pG h0 n0 _ T61.heap _
  rw [eq61]
  exact ⟨N61, rfl, rfl⟩
def own_Q8_1 (Z : State) (ax : Addr) (ad : Addr) (kd : ClassId) (ca : Int32) (pG : Int32) (h0 : Heap) (n0 : Nat) (v : Option Value) (h : Heap) (L : List Loc) : Prop := Fr n0 L ∧ v = some (.int (1 : Int32)) ∧ h = h0
set_option maxRecDepth 65536 in
set_option maxHeartbeats 40000000 in
theorem rm8_1 (l : Launch) (Z : State) (a0 : Array Value) (hw : ∀ d ∈ tables_1, d.before a0 Z = true) (ws : List Jvm.Cond) (ax : Addr) (ad : Addr) (kd : ClassId) (ca : Int32) (pG : Int32) (h0 : Heap) (n0 : Nat) (Z0 : n0 ≤ h0.size) (Ea : Exa Z h0 ax "java/lang/String") (Fv : Fld Z h0 ax "java/lang/String" "value" "[B" (.ref ad)) (Fc : Fld Z h0 ax "java/lang/String" "coder" "B" (.int (0 : Int32))) (Vd : Arv Z h0 ad kd .byte (1 : Int32) [(.int ca)] (.int (0 : Int32))) (O2 : Sta Z Z.heap "java/lang/String" "COMPACT_STRINGS" "Z" (.int pG)) (hG : ¬ pG = (0 : Int32)) (X00 : Old Z n0 h0) :
    MetFree l (⟨"java/lang/String", "length", "()I"⟩ : MethodName) (head1 (Jvm.Cond.code (⟨"java/lang/String", "length", "()I"⟩ : MethodName) jdk_42_method_54_code 1 (some .int) :: ws) ({ frames := 1, cells := 0, slots := 0, locals := 13 } : Room)) (fun a U => a = #[(.ref ax)] ∧ Z.Warmed39 U.vm ∧ U.heap = h0) (fun _ _ _ _ _ => True) (fun _ U o U' => ∃ v L, o = .returned v ∧ own_Q8_1 Z ax ad kd ca pG h0 n0 v U'.heap L ∧ FrameEnd U o U' L ({ frames := 1, cells := 0, slots := 0, locals := 13 } : Room).cells ({ frames := 1, cells := 0, slots := 0, locals := 13 } : Room).slots) := by
  refine MetFree.of_bodySF (plainFor_of_name own_pn8) hisR ?_
  intro p e s m args below meth c s₁ Bd hml0 hP hK
  obtain ⟨rfl, hZ, hh⟩ := hP
  have hx := Bd.exec
  have hby := Bd.bytes
  have hml : c.maxLocals = 1 := hml0
  have hown : s.vm.findClass "java/lang/String" = some m.cls := findClass_of_methodNamed Bd.named
  have hnm := (name_of_methodNamed Bd.named Bd.method).1
  have X0 : Stand p l e ({ frames := 1, cells := 0, slots := 0, locals := 13 } : Room) s m #[(.ref ax)] below meth c s₁ [] 0 0 := Stand.of_body Bd
  have e0 : s₁.heap = h0 := by rw [← hh, Bd.state]; rfl
  have N0 := Fr.nil n0
  refine own_pre (A := (s₁.setTop (mkF m 0 #[.val (.ref ax)] []))) (fun t k => castTop (own_ef8 m ax) k) ?_
  refine own_pre (A := (s₁.setTop (mkF m 1 #[.val (.ref ax)] [(.ref ax)]))) ?_ ?_
  · intro t k
    refine XS.aloadN X0.here hx rfl (hb hby d8_0) rfl rfl ?_
    exact k
  obtain ⟨T62, X62, e62, st62⟩ := getF X0 hx hZ hown (host := "") (Or.inl (own_w hw 28 rfl)) Via.refl e0 Fv (g := (mkF m 1 #[.val (.ref ax)] [(.ref ax)])) rfl rfl (hb hby d8_1)
  refine own_pre (fun t k => st62 t k) ?_
  refine own_pre (A := (T62.setTop (mkF m 6 #[.val (.ref ax)] [(.ref ax), (.int (1 : Int32))]))) ?_ ?_
  · intro t k
    show Steps p.tables e below (T62.setTop (mkF m 4 #[.val (.ref ax)] [(.ref ad)])) _
    obtain ⟨cl63, Ar63, -, S63, N63, -, -⟩ := id Vd
    refine X62.arraylength hx (by rw [e62]; exact Ar63.1) (State.isArrayOf_alike hZ.alike Ar63.2.1) (g := (mkF m 4 #[.val (.ref ax)] [(.ref ad)])) rfl rfl (hb hby d8_4) _ ?_
    rw [len_of S63 N63]
    refine XS.aloadN X62.here hx rfl (hb hby d8_5) rfl rfl ?_
    exact k
  obtain ⟨cq64, kq64, q64a, q64b, q64c⟩ := isOf hZ e62 Ea
  obtain ⟨_, _, ⟨T64, L64, k64, n64⟩, -, X64, ⟨Lc64, hQ64, l64, y64, z64⟩, st64⟩ := X62.virtualBack hx (y := (⟨"java/lang/String", "coder", "()B"⟩ : MethodName)) (z := (⟨"java/lang/String", "coder", "()B"⟩ : MethodName)) hown (mvT hZ (own_w hw 48 rfl)) (mvT hZ (own_w hw 49 rfl)) (notFace_of_selects (args := #[]) (mvT hZ (own_w hw 51 rfl))) (mvT hZ (own_w hw 51 rfl)) (mvT hZ (own_w hw 50 rfl)) (by decide) (backOf (W := 1) (rm9 l Z a0 hw [] ax pG h0 n0 Z0 Fc O2 hG X00) hZ (own_w hw 52 rfl) (own_w hw 2 rfl) (by decide) (by decide)) q64a q64c (g := (mkF m 6 #[.val (.ref ax)] [(.ref ax), (.int (1 : Int32))])) rfl (by rw [hml]; rfl) (Steps.refl _) (argsL := []) (rest := [(.int (1 : Int32))]) (lenOf own_pd4 rfl) rfl (by show 2 * 0 + _ ≤ _; exact Nat.le_of_eq rfl) (hb hby d8_6) (fun _ _ => ⟨rfl, e62, (by decide : 0 + 0 ≤ _), (by decide : 0 + 0 ≤ _)⟩)
  dsimp only [Pt.U, Pt.locs, Pt.cells, Pt.slots] at X64 l64 y64 z64 st64 hQ64
  replace y64 : _ = 0 := y64
  replace z64 : _ = 0 := z64
  subst y64 z64
  obtain ⟨Nq64, rfl, eq64⟩ := hQ64
  have N64 := own_frl l64 N0 Nq64
  refine own_pre (fun t k => st64.trans k) ?_
  refine own_pre (A := (T64.setTop (mkF m 10 #[.val (.ref ax)] [(.int (1 : Int32))]))) ?_ ?_
  · intro t k
    refine XS.ishr X64.here hx rfl (hb hby d8_9) rfl ?_
    show Steps p.tables e below (T64.setTop (mkF m 10 #[.val (.ref ax)] [(.int ((1 : Int32) >>> ((0 : Int32) &&& 31)))])) _
    rw [show ((1 : Int32) >>> ((0 : Int32) &&& 31)) = (1 : Int32) from by decide]
    exact k
  obtain ⟨fs, hr, hrun, hended, hW, hsame⟩ := X64.leave (hlocks := BodyLoose.notSynchronized Bd) (v := some (.int (1 : Int32))) (fun h => by rw [Bd.returns] at h; cases h)
  refine ⟨_, _, retOut X64 hx Bd.returns rfl (Or.inl ⟨rfl, Or.inl rfl, _, rfl⟩) (hb hby d8_10) hr, hrun, hended, _, _, rfl, ?_, ⟨_, rfl⟩, hW, hsame.mono (by decide) (by decide)⟩
  show own_Q8_1 Z ax ad kd ca pG h0 n0 _ T64.heap _
  rw [eq64]
  exact ⟨N64, rfl, rfl⟩
def own_Q8_2 (Z : State) (ax : Addr) (ad : Addr) (kd : ClassId) (ca : Int32) (cb : Int32) (pG : Int32) (h0 : Heap) (n0 : Nat) (v : Option Value) (h : Heap) (L : List Loc) : Prop := Fr n0 L ∧ v = some (.int (2 : Int32)) ∧ h = h0
set_option maxRecDepth 65536 in
set_option maxHeartbeats 40000000 in
theorem rm8_2 (l : Launch) (Z : State) (a0 : Array Value) (hw : ∀ d ∈ tables_1, d.before a0 Z = true) (ws : List Jvm.Cond) (ax : Addr) (ad : Addr) (kd : ClassId) (ca : Int32) (cb : Int32) (pG : Int32) (h0 : Heap) (n0 : Nat) (Z0 : n0 ≤ h0.size) (Ea : Exa Z h0 ax "java/lang/String") (Fv : Fld Z h0 ax "java/lang/String" "value" "[B" (.ref ad)) (Fc : Fld Z h0 ax "java/lang/String" "coder" "B" (.int (0 : Int32))) (Vd : Arv Z h0 ad kd .byte (2 : Int32) [(.int ca), (.int cb)] (.int (0 : Int32))) (O2 : Sta Z Z.heap "java/lang/String" "COMPACT_STRINGS" "Z" (.int pG)) (hG : ¬ pG = (0 : Int32)) (X00 : Old Z n0 h0) :
    MetFree l (⟨"java/lang/String", "length", "()I"⟩ : MethodName) (head1 (Jvm.Cond.code (⟨"java/lang/String", "length", "()I"⟩ : MethodName) jdk_42_method_54_code 1 (some .int) :: ws) ({ frames := 1, cells := 0, slots := 0, locals := 13 } : Room)) (fun a U => a = #[(.ref ax)] ∧ Z.Warmed39 U.vm ∧ U.heap = h0) (fun _ _ _ _ _ => True) (fun _ U o U' => ∃ v L, o = .returned v ∧ own_Q8_2 Z ax ad kd ca cb pG h0 n0 v U'.heap L ∧ FrameEnd U o U' L ({ frames := 1, cells := 0, slots := 0, locals := 13 } : Room).cells ({ frames := 1, cells := 0, slots := 0, locals := 13 } : Room).slots) := by
  refine MetFree.of_bodySF (plainFor_of_name own_pn8) hisR ?_
  intro p e s m args below meth c s₁ Bd hml0 hP hK
  obtain ⟨rfl, hZ, hh⟩ := hP
  have hx := Bd.exec
  have hby := Bd.bytes
  have hml : c.maxLocals = 1 := hml0
  have hown : s.vm.findClass "java/lang/String" = some m.cls := findClass_of_methodNamed Bd.named
  have hnm := (name_of_methodNamed Bd.named Bd.method).1
  have X0 : Stand p l e ({ frames := 1, cells := 0, slots := 0, locals := 13 } : Room) s m #[(.ref ax)] below meth c s₁ [] 0 0 := Stand.of_body Bd
  have e0 : s₁.heap = h0 := by rw [← hh, Bd.state]; rfl
  have N0 := Fr.nil n0
  refine own_pre (A := (s₁.setTop (mkF m 0 #[.val (.ref ax)] []))) (fun t k => castTop (own_ef8 m ax) k) ?_
  refine own_pre (A := (s₁.setTop (mkF m 1 #[.val (.ref ax)] [(.ref ax)]))) ?_ ?_
  · intro t k
    refine XS.aloadN X0.here hx rfl (hb hby d8_0) rfl rfl ?_
    exact k
  obtain ⟨T65, X65, e65, st65⟩ := getF X0 hx hZ hown (host := "") (Or.inl (own_w hw 28 rfl)) Via.refl e0 Fv (g := (mkF m 1 #[.val (.ref ax)] [(.ref ax)])) rfl rfl (hb hby d8_1)
  refine own_pre (fun t k => st65 t k) ?_
  refine own_pre (A := (T65.setTop (mkF m 6 #[.val (.ref ax)] [(.ref ax), (.int (2 : Int32))]))) ?_ ?_
  · intro t k
    show Steps p.tables e below (T65.setTop (mkF m 4 #[.val (.ref ax)] [(.ref ad)])) _
    obtain ⟨cl66, Ar66, -, S66, N66, -, -⟩ := id Vd
    refine X65.arraylength hx (by rw [e65]; exact Ar66.1) (State.isArrayOf_alike hZ.alike Ar66.2.1) (g := (mkF m 4 #[.val (.ref ax)] [(.ref ad)])) rfl rfl (hb hby d8_4) _ ?_
    rw [len_of S66 N66]
    refine XS.aloadN X65.here hx rfl (hb hby d8_5) rfl rfl ?_
    exact k
  obtain ⟨cq67, kq67, q67a, q67b, q67c⟩ := isOf hZ e65 Ea
  obtain ⟨_, _, ⟨T67, L67, k67, n67⟩, -, X67, ⟨Lc67, hQ67, l67, y67, z67⟩, st67⟩ := X65.virtualBack hx (y := (⟨"java/lang/String", "coder", "()B"⟩ : MethodName)) (z := (⟨"java/lang/String", "coder", "()B"⟩ : MethodName)) hown (mvT hZ (own_w hw 48 rfl)) (mvT hZ (own_w hw 49 rfl)) (notFace_of_selects (args := #[]) (mvT hZ (own_w hw 51 rfl))) (mvT hZ (own_w hw 51 rfl)) (mvT hZ (own_w hw 50 rfl)) (by decide) (backOf (W := 1) (rm9 l Z a0 hw [] ax pG h0 n0 Z0 Fc O2 hG X00) hZ (own_w hw 52 rfl) (own_w hw 2 rfl) (by decide) (by decide)) q67a q67c (g := (mkF m 6 #[.val (.ref ax)] [(.ref ax), (.int (2 : Int32))])) rfl (by rw [hml]; rfl) (Steps.refl _) (argsL := []) (rest := [(.int (2 : Int32))]) (lenOf own_pd4 rfl) rfl (by show 2 * 0 + _ ≤ _; exact Nat.le_of_eq rfl) (hb hby d8_6) (fun _ _ => ⟨rfl, e65, (by decide : 0 + 0 ≤ _), (by decide : 0 + 0 ≤ _)⟩)
  dsimp only [Pt.U, Pt.locs, Pt.cells, Pt.slots] at X67 l67 y67 z67 st67 hQ67
  replace y67 : _ = 0 := y67
  replace z67 : _ = 0 := z67
  subst y67 z67
  obtain ⟨Nq67, rfl, eq67⟩ := hQ67
  have N67 := own_frl l67 N0 Nq67
  refine own_pre (fun t k => st67.trans k) ?_
  refine own_pre (A := (T67.setTop (mkF m 10 #[.val (.ref ax)] [(.int (2 : Int32))]))) ?_ ?_
  · intro t k
    refine XS.ishr X67.here hx rfl (hb hby d8_9) rfl ?_
    show Steps p.tables e below (T67.setTop (mkF m 10 #[.val (.ref ax)] [(.int ((2 : Int32) >>> ((0 : Int32) &&& 31)))])) _
    rw [show ((2 : Int32) >>> ((0 : Int32) &&& 31)) = (2 : Int32) from by decide]
    exact k
  obtain ⟨fs, hr, hrun, hended, hW, hsame⟩ := X67.leave (hlocks := BodyLoose.notSynchronized Bd) (v := some (.int (2 : Int32))) (fun h => by rw [Bd.returns] at h; cases h)
  refine ⟨_, _, retOut X67 hx Bd.returns rfl (Or.inl ⟨rfl, Or.inl rfl, _, rfl⟩) (hb hby d8_10) hr, hrun, hended, _, _, rfl, ?_, ⟨_, rfl⟩, hW, hsame.mono (by decide) (by decide)⟩
  show own_Q8_2 Z ax ad kd ca cb pG h0 n0 _ T67.heap _
  rw [eq67]
  exact ⟨N67, rfl, rfl⟩
def own_Q8_3 (Z : State) (ax : Addr) (ad : Addr) (kd : ClassId) (ca : Int32) (cb : Int32) (cd : Int32) (pG : Int32) (h0 : Heap) (n0 : Nat) (v : Option Value) (h : Heap) (L : List Loc) : Prop := Fr n0 L ∧ v = some (.int (3 : Int32)) ∧ h = h0
set_option maxRecDepth 65536 in
set_option maxHeartbeats 40000000 in
theorem rm8_3 (l : Launch) (Z : State) (a0 : Array Value) (hw : ∀ d ∈ tables_1, d.before a0 Z = true) (ws : List Jvm.Cond) (ax : Addr) (ad : Addr) (kd : ClassId) (ca : Int32) (cb : Int32) (cd : Int32) (pG : Int32) (h0 : Heap) (n0 : Nat) (Z0 : n0 ≤ h0.size) (Ea : Exa Z h0 ax "java/lang/String") (Fv : Fld Z h0 ax "java/lang/String" "value" "[B" (.ref ad)) (Fc : Fld Z h0 ax "java/lang/String" "coder" "B" (.int (0 : Int32))) (Vd : Arv Z h0 ad kd .byte (3 : Int32) [(.int ca), (.int cb), (.int cd)] (.int (0 : Int32))) (O2 : Sta Z Z.heap "java/lang/String" "COMPACT_STRINGS" "Z" (.int pG)) (hG : ¬ pG = (0 : Int32)) (X00 : Old Z n0 h0) :
    MetFree l (⟨"java/lang/String", "length", "()I"⟩ : MethodName) (head1 (Jvm.Cond.code (⟨"java/lang/String", "length", "()I"⟩ : MethodName) jdk_42_method_54_code 1 (some .int) :: ws) ({ frames := 1, cells := 0, slots := 0, locals := 13 } : Room)) (fun a U => a = #[(.ref ax)] ∧ Z.Warmed39 U.vm ∧ U.heap = h0) (fun _ _ _ _ _ => True) (fun _ U o U' => ∃ v L, o = .returned v ∧ own_Q8_3 Z ax ad kd ca cb cd pG h0 n0 v U'.heap L ∧ FrameEnd U o U' L ({ frames := 1, cells := 0, slots := 0, locals := 13 } : Room).cells ({ frames := 1, cells := 0, slots := 0, locals := 13 } : Room).slots) := by
  refine MetFree.of_bodySF (plainFor_of_name own_pn8) hisR ?_
  intro p e s m args below meth c s₁ Bd hml0 hP hK
  obtain ⟨rfl, hZ, hh⟩ := hP
  have hx := Bd.exec
  have hby := Bd.bytes
  have hml : c.maxLocals = 1 := hml0
  have hown : s.vm.findClass "java/lang/String" = some m.cls := findClass_of_methodNamed Bd.named
  have hnm := (name_of_methodNamed Bd.named Bd.method).1
  have X0 : Stand p l e ({ frames := 1, cells := 0, slots := 0, locals := 13 } : Room) s m #[(.ref ax)] below meth c s₁ [] 0 0 := Stand.of_body Bd
  have e0 : s₁.heap = h0 := by rw [← hh, Bd.state]; rfl
  have N0 := Fr.nil n0
  refine own_pre (A := (s₁.setTop (mkF m 0 #[.val (.ref ax)] []))) (fun t k => castTop (own_ef8 m ax) k) ?_
  refine own_pre (A := (s₁.setTop (mkF m 1 #[.val (.ref ax)] [(.ref ax)]))) ?_ ?_
  · intro t k
    refine XS.aloadN X0.here hx rfl (hb hby d8_0) rfl rfl ?_
    exact k
  obtain ⟨T68, X68, e68, st68⟩ := getF X0 hx hZ hown (host := "") (Or.inl (own_w hw 28 rfl)) Via.refl e0 Fv (g := (mkF m 1 #[.val (.ref ax)] [(.ref ax)])) rfl rfl (hb hby d8_1)
  refine own_pre (fun t k => st68 t k) ?_
  refine own_pre (A := (T68.setTop (mkF m 6 #[.val (.ref ax)] [(.ref ax), (.int (3 : Int32))]))) ?_ ?_
  · intro t k
    show Steps p.tables e below (T68.setTop (mkF m 4 #[.val (.ref ax)] [(.ref ad)])) _
    obtain ⟨cl69, Ar69, -, S69, N69, -, -⟩ := id Vd
    refine X68.arraylength hx (by rw [e68]; exact Ar69.1) (State.isArrayOf_alike hZ.alike Ar69.2.1) (g := (mkF m 4 #[.val (.ref ax)] [(.ref ad)])) rfl rfl (hb hby d8_4) _ ?_
    rw [len_of S69 N69]
    refine XS.aloadN X68.here hx rfl (hb hby d8_5) rfl rfl ?_
    exact k
  obtain ⟨cq70, kq70, q70a, q70b, q70c⟩ := isOf hZ e68 Ea
  obtain ⟨_, _, ⟨T70, L70, k70, n70⟩, -, X70, ⟨Lc70, hQ70, l70, y70, z70⟩, st70⟩ := X68.virtualBack hx (y := (⟨"java/lang/String", "coder", "()B"⟩ : MethodName)) (z := (⟨"java/lang/String", "coder", "()B"⟩ : MethodName)) hown (mvT hZ (own_w hw 48 rfl)) (mvT hZ (own_w hw 49 rfl)) (notFace_of_selects (args := #[]) (mvT hZ (own_w hw 51 rfl))) (mvT hZ (own_w hw 51 rfl)) (mvT hZ (own_w hw 50 rfl)) (by decide) (backOf (W := 1) (rm9 l Z a0 hw [] ax pG h0 n0 Z0 Fc O2 hG X00) hZ (own_w hw 52 rfl) (own_w hw 2 rfl) (by decide) (by decide)) q70a q70c (g := (mkF m 6 #[.val (.ref ax)] [(.ref ax), (.int (3 : Int32))])) rfl (by rw [hml]; rfl) (Steps.refl _) (argsL := []) (rest := [(.int (3 : Int32))]) (lenOf own_pd4 rfl) rfl (by show 2 * 0 + _ ≤ _; exact Nat.le_of_eq rfl) (hb hby d8_6) (fun _ _ => ⟨rfl, e68, (by decide : 0 + 0 ≤ _), (by decide : 0 + 0 ≤ _)⟩)
  dsimp only [Pt.U, Pt.locs, Pt.cells, Pt.slots] at X70 l70 y70 z70 st70 hQ70
  replace y70 : _ = 0 := y70
  replace z70 : _ = 0 := z70
  subst y70 z70
  obtain ⟨Nq70, rfl, eq70⟩ := hQ70
  have N70 := own_frl l70 N0 Nq70
  refine own_pre (fun t k => st70.trans k) ?_
  refine own_pre (A := (T70.setTop (mkF m 10 #[.val (.ref ax)] [(.int (3 : Int32))]))) ?_ ?_
  · intro t k
    refine XS.ishr X70.here hx rfl (hb hby d8_9) rfl ?_
    show Steps p.tables e below (T70.setTop (mkF m 10 #[.val (.ref ax)] [(.int ((3 : Int32) >>> ((0 : Int32) &&& 31)))])) _
    rw [show ((3 : Int32) >>> ((0 : Int32) &&& 31)) = (3 : Int32) from by decide]
    exact k
  obtain ⟨fs, hr, hrun, hended, hW, hsame⟩ := X70.leave (hlocks := BodyLoose.notSynchronized Bd) (v := some (.int (3 : Int32))) (fun h => by rw [Bd.returns] at h; cases h)
  refine ⟨_, _, retOut X70 hx Bd.returns rfl (Or.inl ⟨rfl, Or.inl rfl, _, rfl⟩) (hb hby d8_10) hr, hrun, hended, _, _, rfl, ?_, ⟨_, rfl⟩, hW, hsame.mono (by decide) (by decide)⟩
  show own_Q8_3 Z ax ad kd ca cb cd pG h0 n0 _ T70.heap _
  rw [eq70]
  exact ⟨N70, rfl, rfl⟩
theorem d14_0 : decode jdk_41_method_11_code 0 = .ok (.iload_n 0, 1) := by decide +kernel
theorem d14_1 : decode jdk_41_method_11_code 1 = .ok (.ifCond .lt 8, 3) := by decide +kernel
theorem d14_4 : decode jdk_41_method_11_code 4 = .ok (.iload_n 0, 1) := by decide +kernel
theorem d14_5 : decode jdk_41_method_11_code 5 = .ok (.iload_n 1, 1) := by decide +kernel
theorem d14_6 : decode jdk_41_method_11_code 6 = .ok (.if_icmp .lt 10, 3) := by decide +kernel
theorem d14_16 : decode jdk_41_method_11_code 16 = .ok (.iload_n 0, 1) := by decide +kernel
theorem d14_17 : decode jdk_41_method_11_code 17 = .ok (.ireturn, 1) := by decide +kernel
theorem own_pn14 : plainName "jdk/internal/util/Preconditions" = true := by first | (simp [plainName, overriddenIn]; done) | decide +kernel
theorem own_ef14n (m : MethodId) (x0 : Int32) (x1 : Int32) : entryFrame m #[(.int x0), (.int x1), .null] 3 = mkF m 0 #[.val (.int x0), .val (.int x1), .val .null] [] := by first | (simp [entryFrame, mkF, argsToLocals, Value.category]; done) | rfl
def own_Q14_0_1n (Z : State)  (h0 : Heap) (n0 : Nat) (v : Option Value) (h : Heap) (L : List Loc) : Prop := Fr n0 L ∧ v = some (.int (0 : Int32)) ∧ h = h0
set_option maxRecDepth 65536 in
set_option maxHeartbeats 40000000 in
theorem rm14_0_1n (l : Launch) (Z : State) (a0 : Array Value) (hw : ∀ d ∈ tables_1, d.before a0 Z = true) (ws : List Jvm.Cond)  (h0 : Heap) (n0 : Nat) (Z0 : n0 ≤ h0.size) :
    MetFree l (⟨"jdk/internal/util/Preconditions", "checkIndex", "(IILjava/util/function/BiFunction;)I"⟩ : MethodName) (head1 (Jvm.Cond.code (⟨"jdk/internal/util/Preconditions", "checkIndex", "(IILjava/util/function/BiFunction;)I"⟩ : MethodName) jdk_41_method_11_code 3 (some .int) :: ws) ({ frames := 0, cells := 0, slots := 0, locals := 0 } : Room)) (fun a U => a = #[(.int (0 : Int32)), (.int (1 : Int32)), .null] ∧ Z.Warmed39 U.vm ∧ U.heap = h0) (fun _ _ _ _ _ => True) (fun _ U o U' => ∃ v L, o = .returned v ∧ own_Q14_0_1n Z  h0 n0 v U'.heap L ∧ FrameEnd U o U' L ({ frames := 0, cells := 0, slots := 0, locals := 0 } : Room).cells ({ frames := 0, cells := 0, slots := 0, locals := 0 } : Room).slots) := by
  refine MetFree.of_bodySF (plainFor_of_name own_pn14) hisR ?_
  intro p e s m args below meth c s₁ Bd hml0 hP hK
  obtain ⟨rfl, hZ, hh⟩ := hP
  have hx := Bd.exec
  have hby := Bd.bytes
  have hml : c.maxLocals = 3 := hml0
  have hown : s.vm.findClass "jdk/internal/util/Preconditions" = some m.cls := findClass_of_methodNamed Bd.named
  have hnm := (name_of_methodNamed Bd.named Bd.method).1
  have X0 : Stand p l e ({ frames := 0, cells := 0, slots := 0, locals := 0 } : Room) s m #[(.int (0 : Int32)), (.int (1 : Int32)), .null] below meth c s₁ [] 0 0 := Stand.of_body Bd
  have e0 : s₁.heap = h0 := by rw [← hh, Bd.state]; rfl
  have N0 := Fr.nil n0
  refine own_pre (A := (s₁.setTop (mkF m 0 #[.val (.int (0 : Int32)), .val (.int (1 : Int32)), .val .null] []))) (fun t k => castTop (own_ef14n m (0 : Int32) (1 : Int32)) k) ?_
  refine own_pre (A := (s₁.setTop (mkF m 17 #[.val (.int (0 : Int32)), .val (.int (1 : Int32)), .val .null] [(.int (0 : Int32))]))) ?_ ?_
  · intro t k
    refine XS.iloadN X0.here hx rfl (hb hby d14_0) rfl ?_
    refine XS.ifNo X0.here hx rfl (hb hby d14_1) rfl ((if0 _ _).trans (flt (by decide : ¬ ((0 : Int32) < (0 : Int32)))).1) ?_
    refine XS.iloadN X0.here hx rfl (hb hby d14_4) rfl ?_
    refine XS.iloadN X0.here hx rfl (hb hby d14_5) rfl ?_
    refine XS.icmpYes X0.here hx rfl (pc0 := 6) (pc' := 16) rfl (hb hby d14_6) rfl (tlt (by decide : (0 : Int32) < (1 : Int32))).1 (by decide) (by decide) ?_
    refine XS.iloadN X0.here hx rfl (hb hby d14_16) rfl ?_
    exact k
  obtain ⟨fs, hr, hrun, hended, hW, hsame⟩ := X0.leave (hlocks := BodyLoose.notSynchronized Bd) (v := some (.int (0 : Int32))) (fun h => by rw [Bd.returns] at h; cases h)
  refine ⟨_, _, retOut X0 hx Bd.returns rfl (Or.inl ⟨rfl, Or.inl rfl, _, rfl⟩) (hb hby d14_17) hr, hrun, hended, _, _, rfl, ?_, ⟨_, rfl⟩, hW, hsame.mono (by decide) (by decide)⟩
  show own_Q14_0_1n Z  h0 n0 _ s₁.heap _
  rw [e0]
  exact ⟨N0, rfl, rfl⟩
theorem own_ef14 (m : MethodId) (x0 : Int32) (x1 : Int32) (x2 : Addr) : entryFrame m #[(.int x0), (.int x1), (.ref x2)] 3 = mkF m 0 #[.val (.int x0), .val (.int x1), .val (.ref x2)] [] := by first | (simp [entryFrame, mkF, argsToLocals, Value.category]; done) | rfl
def own_Q14_0_1r (Z : State) (af : Addr) (h0 : Heap) (n0 : Nat) (v : Option Value) (h : Heap) (L : List Loc) : Prop := Fr n0 L ∧ v = some (.int (0 : Int32)) ∧ h = h0
set_option maxRecDepth 65536 in
set_option maxHeartbeats 40000000 in
theorem rm14_0_1r (l : Launch) (Z : State) (a0 : Array Value) (hw : ∀ d ∈ tables_1, d.before a0 Z = true) (ws : List Jvm.Cond) (af : Addr) (h0 : Heap) (n0 : Nat) (Z0 : n0 ≤ h0.size) :
    MetFree l (⟨"jdk/internal/util/Preconditions", "checkIndex", "(IILjava/util/function/BiFunction;)I"⟩ : MethodName) (head1 (Jvm.Cond.code (⟨"jdk/internal/util/Preconditions", "checkIndex", "(IILjava/util/function/BiFunction;)I"⟩ : MethodName) jdk_41_method_11_code 3 (some .int) :: ws) ({ frames := 0, cells := 0, slots := 0, locals := 0 } : Room)) (fun a U => a = #[(.int (0 : Int32)), (.int (1 : Int32)), (.ref af)] ∧ Z.Warmed39 U.vm ∧ U.heap = h0) (fun _ _ _ _ _ => True) (fun _ U o U' => ∃ v L, o = .returned v ∧ own_Q14_0_1r Z af h0 n0 v U'.heap L ∧ FrameEnd U o U' L ({ frames := 0, cells := 0, slots := 0, locals := 0 } : Room).cells ({ frames := 0, cells := 0, slots := 0, locals := 0 } : Room).slots) := by
  refine MetFree.of_bodySF (plainFor_of_name own_pn14) hisR ?_
  intro p e s m args below meth c s₁ Bd hml0 hP hK
  obtain ⟨rfl, hZ, hh⟩ := hP
  have hx := Bd.exec
  have hby := Bd.bytes
  have hml : c.maxLocals = 3 := hml0
  have hown : s.vm.findClass "jdk/internal/util/Preconditions" = some m.cls := findClass_of_methodNamed Bd.named
  have hnm := (name_of_methodNamed Bd.named Bd.method).1
  have X0 : Stand p l e ({ frames := 0, cells := 0, slots := 0, locals := 0 } : Room) s m #[(.int (0 : Int32)), (.int (1 : Int32)), (.ref af)] below meth c s₁ [] 0 0 := Stand.of_body Bd
  have e0 : s₁.heap = h0 := by rw [← hh, Bd.state]; rfl
  have N0 := Fr.nil n0
  refine own_pre (A := (s₁.setTop (mkF m 0 #[.val (.int (0 : Int32)), .val (.int (1 : Int32)), .val (.ref af)] []))) (fun t k => castTop (own_ef14 m (0 : Int32) (1 : Int32) af) k) ?_
  refine own_pre (A := (s₁.setTop (mkF m 17 #[.val (.int (0 : Int32)), .val (.int (1 : Int32)), .val (.ref af)] [(.int (0 : Int32))]))) ?_ ?_
  · intro t k
    refine XS.iloadN X0.here hx rfl (hb hby d14_0) rfl ?_
    refine XS.ifNo X0.here hx rfl (hb hby d14_1) rfl ((if0 _ _).trans (flt (by decide : ¬ ((0 : Int32) < (0 : Int32)))).1) ?_
    refine XS.iloadN X0.here hx rfl (hb hby d14_4) rfl ?_
    refine XS.iloadN X0.here hx rfl (hb hby d14_5) rfl ?_
    refine XS.icmpYes X0.here hx rfl (pc0 := 6) (pc' := 16) rfl (hb hby d14_6) rfl (tlt (by decide : (0 : Int32) < (1 : Int32))).1 (by decide) (by decide) ?_
    refine XS.iloadN X0.here hx rfl (hb hby d14_16) rfl ?_
    exact k
  obtain ⟨fs, hr, hrun, hended, hW, hsame⟩ := X0.leave (hlocks := BodyLoose.notSynchronized Bd) (v := some (.int (0 : Int32))) (fun h => by rw [Bd.returns] at h; cases h)
  refine ⟨_, _, retOut X0 hx Bd.returns rfl (Or.inl ⟨rfl, Or.inl rfl, _, rfl⟩) (hb hby d14_17) hr, hrun, hended, _, _, rfl, ?_, ⟨_, rfl⟩, hW, hsame.mono (by decide) (by decide)⟩
  show own_Q14_0_1r Z af h0 n0 _ s₁.heap _
  rw [e0]
  exact ⟨N0, rfl, rfl⟩
theorem d13_0 : decode jdk_42_method_155_code 0 = .ok (.iload_n 0, 1) := by decide +kernel
theorem d13_1 : decode jdk_42_method_155_code 1 = .ok (.iload_n 1, 1) := by decide +kernel
theorem d13_2 : decode jdk_42_method_155_code 2 = .ok (.getstatic 1053, 3) := by decide +kernel
theorem d13_5 : decode jdk_42_method_155_code 5 = .ok (.invokestatic 1059, 3) := by decide +kernel
theorem d13_8 : decode jdk_42_method_155_code 8 = .ok (.pop, 1) := by decide +kernel
theorem d13_9 : decode jdk_42_method_155_code 9 = .ok (.return_, 1) := by decide +kernel
theorem own_pn13 : plainName "java/lang/String" = true := by first | (simp [plainName, overriddenIn]; done) | decide +kernel
theorem own_ef13 (m : MethodId) (x0 : Int32) (x1 : Int32) : entryFrame m #[(.int x0), (.int x1)] 2 = mkF m 0 #[.val (.int x0), .val (.int x1)] [] := by first | (simp [entryFrame, mkF, argsToLocals, Value.category]; done) | rfl
def own_Q13_0_1 (Z : State) (vF : Value) (h0 : Heap) (n0 : Nat) (v : Option Value) (h : Heap) (L : List Loc) : Prop := v = none ∧ Fr n0 L ∧ h = h0
set_option maxRecDepth 65536 in
set_option maxHeartbeats 40000000 in
theorem rm13_0_1 (l : Launch) (Z : State) (a0 : Array Value) (hw : ∀ d ∈ tables_1, d.before a0 Z = true) (ws : List Jvm.Cond) (vF : Value) (h0 : Heap) (n0 : Nat) (Z0 : n0 ≤ h0.size) (O4 : Sta Z Z.heap "jdk/internal/util/Preconditions" "SIOOBE_FORMATTER" "Ljava/util/function/BiFunction;" vF) (rF : vF.isRef = true) (X00 : Old Z n0 h0) :
    MetFree l (⟨"java/lang/String", "checkIndex", "(II)V"⟩ : MethodName) (head1 (Jvm.Cond.code (⟨"java/lang/String", "checkIndex", "(II)V"⟩ : MethodName) jdk_42_method_155_code 2 none :: ws) ({ frames := 1, cells := 0, slots := 0, locals := 14 } : Room)) (fun a U => a = #[(.int (0 : Int32)), (.int (1 : Int32))] ∧ Z.Warmed39 U.vm ∧ U.heap = h0) (fun _ _ _ _ _ => True) (fun _ U o U' => ∃ v L, o = .returned v ∧ own_Q13_0_1 Z vF h0 n0 v U'.heap L ∧ FrameEnd U o U' L ({ frames := 1, cells := 0, slots := 0, locals := 14 } : Room).cells ({ frames := 1, cells := 0, slots := 0, locals := 14 } : Room).slots) := by
  refine MetFree.of_bodySF (plainFor_of_name own_pn13) hisR ?_
  intro p e s m args below meth c s₁ Bd hml0 hP hK
  obtain ⟨rfl, hZ, hh⟩ := hP
  have hx := Bd.exec
  have hby := Bd.bytes
  have hml : c.maxLocals = 2 := hml0
  have hown : s.vm.findClass "java/lang/String" = some m.cls := findClass_of_methodNamed Bd.named
  have hnm := (name_of_methodNamed Bd.named Bd.method).1
  have X0 : Stand p l e ({ frames := 1, cells := 0, slots := 0, locals := 14 } : Room) s m #[(.int (0 : Int32)), (.int (1 : Int32))] below meth c s₁ [] 0 0 := Stand.of_body Bd
  have e0 : s₁.heap = h0 := by rw [← hh, Bd.state]; rfl
  have N0 := Fr.nil n0
  refine own_pre (A := (s₁.setTop (mkF m 0 #[.val (.int (0 : Int32)), .val (.int (1 : Int32))] []))) (fun t k => castTop (own_ef13 m (0 : Int32) (1 : Int32)) k) ?_
  rcases ref_cases rF with rfl | ⟨af, rfl⟩
  · skip
    refine own_pre (A := (s₁.setTop (mkF m 2 #[.val (.int (0 : Int32)), .val (.int (1 : Int32))] [(.int (1 : Int32)), (.int (0 : Int32))]))) ?_ ?_
    · intro t k
      refine XS.iloadN X0.here hx rfl (hb hby d13_0) rfl ?_
      refine XS.iloadN X0.here hx rfl (hb hby d13_1) rfl ?_
      exact k
    obtain ⟨T71, X71, e71, st71⟩ := getS2 X0 hx hZ hown (host := "") (Or.inl (own_w hw 70 rfl)) Via.refl e0 (O4.ext X00.2) (g := (mkF m 2 #[.val (.int (0 : Int32)), .val (.int (1 : Int32))] [(.int (1 : Int32)), (.int (0 : Int32))])) rfl (hb hby d13_2)
    refine own_pre (fun t k => st71 t k) ?_
    obtain ⟨_, _, ⟨T72, L72, k72, n72⟩, -, X72, ⟨Lc72, hQ72, l72, y72, z72⟩, st72⟩ := Jvm.LawKit.callS X71 hx (y := (⟨"jdk/internal/util/Preconditions", "checkIndex", "(IILjava/util/function/BiFunction;)I"⟩ : MethodName)) hown (mvT hZ (own_w hw 72 rfl)) (mvT hZ (own_w hw 73 rfl)) (mvT hZ (own_w hw 71 rfl)) (mvT hZ (own_w hw 74 rfl)) (by decide) (backOf (W := 0) (rm14_0_1n l Z a0 hw []  h0 n0 Z0 ) hZ (own_w hw 74 rfl) (own_w hw 71 rfl) (by decide) (by decide)) (g := (mkF m 5 #[.val (.int (0 : Int32)), .val (.int (1 : Int32))] [.null, (.int (1 : Int32)), (.int (0 : Int32))])) rfl (by rw [hml]; rfl) (argsL := [(.int (0 : Int32)), (.int (1 : Int32)), .null]) (rest := []) (lenOf own_pd5 rfl) rfl (by show 2 * 0 + _ ≤ _; exact Nat.le_of_eq rfl) (hb hby d13_5) (fun _ _ => ⟨rfl, e71, (by decide : 0 + 0 ≤ _), (by decide : 0 + 0 ≤ _)⟩)
    dsimp only [Pt.U, Pt.locs, Pt.cells, Pt.slots] at X72 l72 y72 z72 st72 hQ72
    replace y72 : _ = 0 := y72
    replace z72 : _ = 0 := z72
    subst y72 z72
    obtain ⟨Nq72, rfl, eq72⟩ := hQ72
    have N72 := own_frl l72 N0 Nq72
    refine own_pre (fun t k => st72 t k) ?_
    refine own_pre (A := (T72.setTop (mkF m 9 #[.val (.int (0 : Int32)), .val (.int (1 : Int32))] []))) ?_ ?_
    · intro t k
      refine XS.pop X72.here hx rfl (hb hby d13_8) rfl rfl ?_
      exact k
    obtain ⟨fs, hr, hrun, hended, hW, hsame⟩ := X72.leave (hlocks := BodyLoose.notSynchronized Bd) (v := none) (fun _ => rfl)
    refine ⟨_, _, X72.returnOut hx Bd.returns (hb hby d13_9) hr, hrun, hended, _, _, rfl, ?_, ⟨_, rfl⟩, hW, hsame.mono (by decide) (by decide)⟩
    show own_Q13_0_1 Z .null h0 n0 _ T72.heap _
    rw [eq72]
    exact ⟨rfl, N72, rfl⟩
  · skip
    refine own_pre (A := (s₁.setTop (mkF m 2 #[.val (.int (0 : Int32)), .val (.int (1 : Int32))] [(.int (1 : Int32)), (.int (0 : Int32))]))) ?_ ?_
    · intro t k
      refine XS.iloadN X0.here hx rfl (hb hby d13_0) rfl ?_
      refine XS.iloadN X0.here hx rfl (hb hby d13_1) rfl ?_
      exact k
    obtain ⟨T73, X73, e73, st73⟩ := getS2 X0 hx hZ hown (host := "") (Or.inl (own_w hw 70 rfl)) Via.refl e0 (O4.ext X00.2) (g := (mkF m 2 #[.val (.int (0 : Int32)), .val (.int (1 : Int32))] [(.int (1 : Int32)), (.int (0 : Int32))])) rfl (hb hby d13_2)
    refine own_pre (fun t k => st73 t k) ?_
    obtain ⟨_, _, ⟨T74, L74, k74, n74⟩, -, X74, ⟨Lc74, hQ74, l74, y74, z74⟩, st74⟩ := Jvm.LawKit.callS X73 hx (y := (⟨"jdk/internal/util/Preconditions", "checkIndex", "(IILjava/util/function/BiFunction;)I"⟩ : MethodName)) hown (mvT hZ (own_w hw 72 rfl)) (mvT hZ (own_w hw 73 rfl)) (mvT hZ (own_w hw 71 rfl)) (mvT hZ (own_w hw 74 rfl)) (by decide) (backOf (W := 0) (rm14_0_1r l Z a0 hw [] af h0 n0 Z0 ) hZ (own_w hw 74 rfl) (own_w hw 71 rfl) (by decide) (by decide)) (g := (mkF m 5 #[.val (.int (0 : Int32)), .val (.int (1 : Int32))] [(.ref af), (.int (1 : Int32)), (.int (0 : Int32))])) rfl (by rw [hml]; rfl) (argsL := [(.int (0 : Int32)), (.int (1 : Int32)), (.ref af)]) (rest := []) (lenOf own_pd5 rfl) rfl (by show 2 * 0 + _ ≤ _; exact Nat.le_of_eq rfl) (hb hby d13_5) (fun _ _ => ⟨rfl, e73, (by decide : 0 + 0 ≤ _), (by decide : 0 + 0 ≤ _)⟩)
    dsimp only [Pt.U, Pt.locs, Pt.cells, Pt.slots] at X74 l74 y74 z74 st74 hQ74
    replace y74 : _ = 0 := y74
    replace z74 : _ = 0 := z74
    subst y74 z74
    obtain ⟨Nq74, rfl, eq74⟩ := hQ74
    have N74 := own_frl l74 N0 Nq74
    refine own_pre (fun t k => st74 t k) ?_
    refine own_pre (A := (T74.setTop (mkF m 9 #[.val (.int (0 : Int32)), .val (.int (1 : Int32))] []))) ?_ ?_
    · intro t k
      refine XS.pop X74.here hx rfl (hb hby d13_8) rfl rfl ?_
      exact k
    obtain ⟨fs, hr, hrun, hended, hW, hsame⟩ := X74.leave (hlocks := BodyLoose.notSynchronized Bd) (v := none) (fun _ => rfl)
    refine ⟨_, _, X74.returnOut hx Bd.returns (hb hby d13_9) hr, hrun, hended, _, _, rfl, ?_, ⟨_, rfl⟩, hW, hsame.mono (by decide) (by decide)⟩
    show own_Q13_0_1 Z (.ref af) h0 n0 _ T74.heap _
    rw [eq74]
    exact ⟨rfl, N74, rfl⟩
theorem d12_0 : decode jdk_43_method_2_code 0 = .ok (.iload_n 1, 1) := by decide +kernel
theorem d12_1 : decode jdk_43_method_2_code 1 = .ok (.aload_n 0, 1) := by decide +kernel
theorem d12_2 : decode jdk_43_method_2_code 2 = .ok (.arraylength, 1) := by decide +kernel
theorem d12_3 : decode jdk_43_method_2_code 3 = .ok (.invokestatic 9, 3) := by decide +kernel
theorem d12_6 : decode jdk_43_method_2_code 6 = .ok (.aload_n 0, 1) := by decide +kernel
theorem d12_7 : decode jdk_43_method_2_code 7 = .ok (.iload_n 1, 1) := by decide +kernel
theorem d12_8 : decode jdk_43_method_2_code 8 = .ok (.baload, 1) := by decide +kernel
theorem d12_9 : decode jdk_43_method_2_code 9 = .ok (.sipush 255, 3) := by decide +kernel
theorem d12_12 : decode jdk_43_method_2_code 12 = .ok (.iand, 1) := by decide +kernel
theorem d12_13 : decode jdk_43_method_2_code 13 = .ok (.i2c, 1) := by decide +kernel
theorem d12_14 : decode jdk_43_method_2_code 14 = .ok (.ireturn, 1) := by decide +kernel
theorem own_pn12 : plainName "java/lang/StringLatin1" = true := by first | (simp [plainName, overriddenIn]; done) | decide +kernel
theorem own_ef12 (m : MethodId) (x0 : Addr) (x1 : Int32) : entryFrame m #[(.ref x0), (.int x1)] 2 = mkF m 0 #[.val (.ref x0), .val (.int x1)] [] := by first | (simp [entryFrame, mkF, argsToLocals, Value.category]; done) | rfl
def own_Q12_0_1 (Z : State) (ad : Addr) (kd : ClassId) (ca : Int32) (vF : Value) (h0 : Heap) (n0 : Nat) (v : Option Value) (h : Heap) (L : List Loc) : Prop := Fr n0 L ∧ v = some (.int ca) ∧ h = h0
set_option maxRecDepth 65536 in
set_option maxHeartbeats 40000000 in
theorem rm12_0_1 (l : Launch) (Z : State) (a0 : Array Value) (hw : ∀ d ∈ tables_1, d.before a0 Z = true) (ws : List Jvm.Cond) (ad : Addr) (kd : ClassId) (ca : Int32) (vF : Value) (h0 : Heap) (n0 : Nat) (Z0 : n0 ≤ h0.size) (Vd : Arv Z h0 ad kd .byte (1 : Int32) [(.int ca)] (.int (0 : Int32))) (hp_ca : 0 ≤ ca.toInt ∧ ca.toInt < 128) (O4 : Sta Z Z.heap "jdk/internal/util/Preconditions" "SIOOBE_FORMATTER" "Ljava/util/function/BiFunction;" vF) (rF : vF.isRef = true) (X00 : Old Z n0 h0) :
    MetFree l (⟨"java/lang/StringLatin1", "charAt", "([BI)C"⟩ : MethodName) (head1 (Jvm.Cond.code (⟨"java/lang/StringLatin1", "charAt", "([BI)C"⟩ : MethodName) jdk_43_method_2_code 2 (some .char) :: ws) ({ frames := 2, cells := 0, slots := 0, locals := 27 } : Room)) (fun a U => a = #[(.ref ad), (.int (0 : Int32))] ∧ Z.Warmed39 U.vm ∧ U.heap = h0) (fun _ _ _ _ _ => True) (fun _ U o U' => ∃ v L, o = .returned v ∧ own_Q12_0_1 Z ad kd ca vF h0 n0 v U'.heap L ∧ FrameEnd U o U' L ({ frames := 2, cells := 0, slots := 0, locals := 27 } : Room).cells ({ frames := 2, cells := 0, slots := 0, locals := 27 } : Room).slots) := by
  refine MetFree.of_bodySF (plainFor_of_name own_pn12) hisR ?_
  intro p e s m args below meth c s₁ Bd hml0 hP hK
  obtain ⟨rfl, hZ, hh⟩ := hP
  have hx := Bd.exec
  have hby := Bd.bytes
  have hml : c.maxLocals = 2 := hml0
  have hown : s.vm.findClass "java/lang/StringLatin1" = some m.cls := findClass_of_methodNamed Bd.named
  have hnm := (name_of_methodNamed Bd.named Bd.method).1
  have X0 : Stand p l e ({ frames := 2, cells := 0, slots := 0, locals := 27 } : Room) s m #[(.ref ad), (.int (0 : Int32))] below meth c s₁ [] 0 0 := Stand.of_body Bd
  have e0 : s₁.heap = h0 := by rw [← hh, Bd.state]; rfl
  have N0 := Fr.nil n0
  refine own_pre (A := (s₁.setTop (mkF m 0 #[.val (.ref ad), .val (.int (0 : Int32))] []))) (fun t k => castTop (own_ef12 m ad (0 : Int32)) k) ?_
  refine own_pre (A := (s₁.setTop (mkF m 3 #[.val (.ref ad), .val (.int (0 : Int32))] [(.int (1 : Int32)), (.int (0 : Int32))]))) ?_ ?_
  · intro t k
    refine XS.iloadN X0.here hx rfl (hb hby d12_0) rfl ?_
    refine XS.aloadN X0.here hx rfl (hb hby d12_1) rfl rfl ?_
    show Steps p.tables e below (s₁.setTop (mkF m 2 #[.val (.ref ad), .val (.int (0 : Int32))] [(.ref ad), (.int (0 : Int32))])) _
    obtain ⟨cl75, Ar75, -, S75, N75, -, -⟩ := id Vd
    refine X0.arraylength hx (by rw [e0]; exact Ar75.1) (State.isArrayOf_alike hZ.alike Ar75.2.1) (g := (mkF m 2 #[.val (.ref ad), .val (.int (0 : Int32))] [(.ref ad), (.int (0 : Int32))])) rfl rfl (hb hby d12_2) _ ?_
    rw [len_of S75 N75]
    exact k
  obtain ⟨_, _, ⟨T76, L76, k76, n76⟩, -, X76, ⟨Lc76, hQ76, l76, y76, z76⟩, st76⟩ := Jvm.LawKit.callS X0 hx (y := (⟨"java/lang/String", "checkIndex", "(II)V"⟩ : MethodName)) hown (mvT hZ (own_w hw 67 rfl)) (mvT hZ (own_w hw 68 rfl)) (mvT hZ (own_w hw 2 rfl)) (mvT hZ (own_w hw 69 rfl)) (by decide) (backOf (W := 0) (rm13_0_1 l Z a0 hw [] vF h0 n0 Z0 O4 rF X00) hZ (own_w hw 69 rfl) (own_w hw 2 rfl) (by decide) (by decide)) (g := (mkF m 3 #[.val (.ref ad), .val (.int (0 : Int32))] [(.int (1 : Int32)), (.int (0 : Int32))])) rfl (by rw [hml]; rfl) (argsL := [(.int (0 : Int32)), (.int (1 : Int32))]) (rest := []) (lenOf own_pd6 rfl) rfl (by show 2 * 0 + _ ≤ _; exact Nat.le_of_eq rfl) (hb hby d12_3) (fun _ _ => ⟨rfl, e0, (by decide : 0 + 0 ≤ _), (by decide : 0 + 0 ≤ _)⟩)
  dsimp only [Pt.U, Pt.locs, Pt.cells, Pt.slots] at X76 l76 y76 z76 st76 hQ76
  replace y76 : _ = 0 := y76
  replace z76 : _ = 0 := z76
  subst y76 z76
  obtain ⟨rfl, Nq76, eq76⟩ := hQ76
  have N76 := own_frl l76 N0 Nq76
  refine own_pre (fun t k => st76 t k) ?_
  refine own_pre (A := (T76.setTop (mkF m 14 #[.val (.ref ad), .val (.int (0 : Int32))] [(.int ca)]))) ?_ ?_
  · intro t k
    refine XS.aloadN X76.here hx rfl (hb hby d12_6) rfl rfl ?_
    refine XS.iloadN X76.here hx rfl (hb hby d12_7) rfl ?_
    show Steps p.tables e below (T76.setTop (mkF m 8 #[.val (.ref ad), .val (.int (0 : Int32))] [(.int (0 : Int32)), (.ref ad)])) _
    obtain ⟨cl77, Ar77, q77, S77, N77, H77, G77⟩ := id Vd
    have hin77 : ¬ ((0 : Int32) < 0 ∨ cl77.slots.size ≤ ((0 : Int32)).toNatClampNeg) := inb_of S77 ⟨by decide, by decide⟩
    refine X76.baloadBytes hx (j := (0 : Int32)) (v := (.int ca)) (by rw [eq76]; exact Ar77.1) (State.isArrayOf_alike hZ.alike Ar77.2.1) Ar77.2.2 hin77 (H77.at hin77 rfl) (g := (mkF m 8 #[.val (.ref ad), .val (.int (0 : Int32))] [(.int (0 : Int32)), (.ref ad)])) rfl rfl (hb hby d12_8) _ ?_
    refine XS.sipush X76.here hx rfl (hb hby d12_9) ?_
    refine XS.iand X76.here hx rfl (hb hby d12_12) rfl ?_
    show Steps p.tables e below (T76.setTop (mkF m 13 #[.val (.ref ad), .val (.int (0 : Int32))] [(.int (ca &&& (255 : Int32)))])) _
    rw [own_ch_m ca hp_ca]
    refine XS.i2c X76.here hx rfl (hb hby d12_13) rfl ?_
    show Steps p.tables e below (T76.setTop (mkF m 14 #[.val (.ref ad), .val (.int (0 : Int32))] [(.int (ca.toUInt32.toUInt16.toUInt32.toInt32))])) _
    rw [own_ch_c ca hp_ca]
    exact k
  obtain ⟨fs, hr, hrun, hended, hW, hsame⟩ := X76.leave (hlocks := BodyLoose.notSynchronized Bd) (v := some (.int ca)) (fun h => by rw [Bd.returns] at h; cases h)
  refine ⟨_, _, retOut X76 hx Bd.returns (own_ch_ret ca hp_ca) (Or.inl ⟨rfl, Or.inr (Or.inr (Or.inr (Or.inl rfl))), _, rfl⟩) (hb hby d12_14) hr, hrun, hended, _, _, rfl, ?_, ⟨_, rfl⟩, hW, hsame.mono (by decide) (by decide)⟩
  show own_Q12_0_1 Z ad kd ca vF h0 n0 _ T76.heap _
  rw [eq76]
  exact ⟨N76, rfl, rfl⟩
theorem d10_0 : decode jdk_42_method_56_code 0 = .ok (.aload_n 0, 1) := by decide +kernel
theorem d10_1 : decode jdk_42_method_56_code 1 = .ok (.invokevirtual 492, 3) := by decide +kernel
theorem d10_4 : decode jdk_42_method_56_code 4 = .ok (.ifCond .eq 12, 3) := by decide +kernel
theorem d10_7 : decode jdk_42_method_56_code 7 = .ok (.aload_n 0, 1) := by decide +kernel
theorem d10_8 : decode jdk_42_method_56_code 8 = .ok (.getfield 9, 3) := by decide +kernel
theorem d10_11 : decode jdk_42_method_56_code 11 = .ok (.iload_n 1, 1) := by decide +kernel
theorem d10_12 : decode jdk_42_method_56_code 12 = .ok (.invokestatic 495, 3) := by decide +kernel
theorem d10_15 : decode jdk_42_method_56_code 15 = .ok (.ireturn, 1) := by decide +kernel
theorem own_pn10 : plainName "java/lang/String" = true := by first | (simp [plainName, overriddenIn]; done) | decide +kernel
theorem own_ef10 (m : MethodId) (x0 : Addr) (x1 : Int32) : entryFrame m #[(.ref x0), (.int x1)] 2 = mkF m 0 #[.val (.ref x0), .val (.int x1)] [] := by first | (simp [entryFrame, mkF, argsToLocals, Value.category]; done) | rfl
def own_Q10_0_1 (Z : State) (ax : Addr) (ad : Addr) (kd : ClassId) (ca : Int32) (pG : Int32) (vF : Value) (h0 : Heap) (n0 : Nat) (v : Option Value) (h : Heap) (L : List Loc) : Prop := Fr n0 L ∧ v = some (.int ca) ∧ h = h0
set_option maxRecDepth 65536 in
set_option maxHeartbeats 40000000 in
theorem rm10_0_1 (l : Launch) (Z : State) (a0 : Array Value) (hw : ∀ d ∈ tables_1, d.before a0 Z = true) (ws : List Jvm.Cond) (ax : Addr) (ad : Addr) (kd : ClassId) (ca : Int32) (pG : Int32) (vF : Value) (h0 : Heap) (n0 : Nat) (Z0 : n0 ≤ h0.size) (Ea : Exa Z h0 ax "java/lang/String") (Fv : Fld Z h0 ax "java/lang/String" "value" "[B" (.ref ad)) (Fc : Fld Z h0 ax "java/lang/String" "coder" "B" (.int (0 : Int32))) (Vd : Arv Z h0 ad kd .byte (1 : Int32) [(.int ca)] (.int (0 : Int32))) (hp_ca : 0 ≤ ca.toInt ∧ ca.toInt < 128) (O2 : Sta Z Z.heap "java/lang/String" "COMPACT_STRINGS" "Z" (.int pG)) (hG : ¬ pG = (0 : Int32)) (X00 : Old Z n0 h0) (O4 : Sta Z Z.heap "jdk/internal/util/Preconditions" "SIOOBE_FORMATTER" "Ljava/util/function/BiFunction;" vF) (rF : vF.isRef = true) :
    MetFree l (⟨"java/lang/String", "charAt", "(I)C"⟩ : MethodName) (head1 (Jvm.Cond.code (⟨"java/lang/String", "charAt", "(I)C"⟩ : MethodName) jdk_42_method_56_code 2 (some .char) :: ws) ({ frames := 3, cells := 0, slots := 0, locals := 40 } : Room)) (fun a U => a = #[(.ref ax), (.int (0 : Int32))] ∧ Z.Warmed39 U.vm ∧ U.heap = h0) (fun _ _ _ _ _ => True) (fun _ U o U' => ∃ v L, o = .returned v ∧ own_Q10_0_1 Z ax ad kd ca pG vF h0 n0 v U'.heap L ∧ FrameEnd U o U' L ({ frames := 3, cells := 0, slots := 0, locals := 40 } : Room).cells ({ frames := 3, cells := 0, slots := 0, locals := 40 } : Room).slots) := by
  refine MetFree.of_bodySF (plainFor_of_name own_pn10) hisR ?_
  intro p e s m args below meth c s₁ Bd hml0 hP hK
  obtain ⟨rfl, hZ, hh⟩ := hP
  have hx := Bd.exec
  have hby := Bd.bytes
  have hml : c.maxLocals = 2 := hml0
  have hown : s.vm.findClass "java/lang/String" = some m.cls := findClass_of_methodNamed Bd.named
  have hnm := (name_of_methodNamed Bd.named Bd.method).1
  have X0 : Stand p l e ({ frames := 3, cells := 0, slots := 0, locals := 40 } : Room) s m #[(.ref ax), (.int (0 : Int32))] below meth c s₁ [] 0 0 := Stand.of_body Bd
  have e0 : s₁.heap = h0 := by rw [← hh, Bd.state]; rfl
  have N0 := Fr.nil n0
  refine own_pre (A := (s₁.setTop (mkF m 0 #[.val (.ref ax), .val (.int (0 : Int32))] []))) (fun t k => castTop (own_ef10 m ax (0 : Int32)) k) ?_
  refine own_pre (A := (s₁.setTop (mkF m 1 #[.val (.ref ax), .val (.int (0 : Int32))] [(.ref ax)]))) ?_ ?_
  · intro t k
    refine XS.aloadN X0.here hx rfl (hb hby d10_0) rfl rfl ?_
    exact k
  obtain ⟨cq78, kq78, q78a, q78b, q78c⟩ := isOf hZ e0 Ea
  obtain ⟨_, _, ⟨T78, L78, k78, n78⟩, -, X78, ⟨Lc78, hQ78, l78, y78, z78⟩, st78⟩ := X0.virtualBack hx (y := (⟨"java/lang/String", "isLatin1", "()Z"⟩ : MethodName)) (z := (⟨"java/lang/String", "isLatin1", "()Z"⟩ : MethodName)) hown (mvT hZ (own_w hw 58 rfl)) (mvT hZ (own_w hw 59 rfl)) (notFace_of_selects (args := #[]) (mvT hZ (own_w hw 61 rfl))) (mvT hZ (own_w hw 61 rfl)) (mvT hZ (own_w hw 60 rfl)) (by decide) (backOf (W := 0) (rm11 l Z a0 hw [] ax pG h0 n0 Z0 Fc O2 hG X00) hZ (own_w hw 62 rfl) (own_w hw 2 rfl) (by decide) (by decide)) q78a q78c (g := (mkF m 1 #[.val (.ref ax), .val (.int (0 : Int32))] [(.ref ax)])) rfl (by rw [hml]; rfl) (Steps.refl _) (argsL := []) (rest := []) (lenOf own_pd7 rfl) rfl (by show 2 * 0 + _ ≤ _; exact Nat.le_of_eq rfl) (hb hby d10_1) (fun _ _ => ⟨rfl, e0, (by decide : 0 + 0 ≤ _), (by decide : 0 + 0 ≤ _)⟩)
  dsimp only [Pt.U, Pt.locs, Pt.cells, Pt.slots] at X78 l78 y78 z78 st78 hQ78
  replace y78 : _ = 0 := y78
  replace z78 : _ = 0 := z78
  subst y78 z78
  obtain ⟨Nq78, rfl, eq78⟩ := hQ78
  have N78 := own_frl l78 N0 Nq78
  refine own_pre (fun t k => st78.trans k) ?_
  refine own_pre (A := (T78.setTop (mkF m 8 #[.val (.ref ax), .val (.int (0 : Int32))] [(.ref ax)]))) ?_ ?_
  · intro t k
    refine XS.ifNo X78.here hx rfl (hb hby d10_4) rfl ((if0 _ _).trans (feq (by decide : ¬ ((1 : Int32) = (0 : Int32)))).1) ?_
    refine XS.aloadN X78.here hx rfl (hb hby d10_7) rfl rfl ?_
    exact k
  obtain ⟨T79, X79, e79, st79⟩ := getF X78 hx hZ hown (host := "") (Or.inl (own_w hw 28 rfl)) Via.refl eq78 Fv (g := (mkF m 8 #[.val (.ref ax), .val (.int (0 : Int32))] [(.ref ax)])) rfl rfl (hb hby d10_8)
  refine own_pre (fun t k => st79 t k) ?_
  refine own_pre (A := (T79.setTop (mkF m 12 #[.val (.ref ax), .val (.int (0 : Int32))] [(.int (0 : Int32)), (.ref ad)]))) ?_ ?_
  · intro t k
    refine XS.iloadN X79.here hx rfl (hb hby d10_11) rfl ?_
    exact k
  obtain ⟨_, _, ⟨T80, L80, k80, n80⟩, -, X80, ⟨Lc80, hQ80, l80, y80, z80⟩, st80⟩ := Jvm.LawKit.callS X79 hx (y := (⟨"java/lang/StringLatin1", "charAt", "([BI)C"⟩ : MethodName)) hown (mvT hZ (own_w hw 63 rfl)) (mvT hZ (own_w hw 64 rfl)) (mvT hZ (own_w hw 65 rfl)) (mvT hZ (own_w hw 66 rfl)) (by decide) (backOf (W := 0) (rm12_0_1 l Z a0 hw [] ad kd ca vF h0 n0 Z0 Vd hp_ca O4 rF X00) hZ (own_w hw 66 rfl) (own_w hw 65 rfl) (by decide) (by decide)) (g := (mkF m 12 #[.val (.ref ax), .val (.int (0 : Int32))] [(.int (0 : Int32)), (.ref ad)])) rfl (by rw [hml]; rfl) (argsL := [(.ref ad), (.int (0 : Int32))]) (rest := []) (lenOf own_pd8 rfl) rfl (by show 2 * 0 + _ ≤ _; exact Nat.le_of_eq rfl) (hb hby d10_12) (fun _ _ => ⟨rfl, e79, (by decide : 0 + 0 ≤ _), (by decide : 0 + 0 ≤ _)⟩)
  dsimp only [Pt.U, Pt.locs, Pt.cells, Pt.slots] at X80 l80 y80 z80 st80 hQ80
  replace y80 : _ = 0 := y80
  replace z80 : _ = 0 := z80
  subst y80 z80
  obtain ⟨Nq80, rfl, eq80⟩ := hQ80
  have N80 := own_frl l80 N78 Nq80
  refine own_pre (fun t k => st80 t k) ?_
  obtain ⟨fs, hr, hrun, hended, hW, hsame⟩ := X80.leave (hlocks := BodyLoose.notSynchronized Bd) (v := some (.int ca)) (fun h => by rw [Bd.returns] at h; cases h)
  refine ⟨_, _, retOut X80 hx Bd.returns (own_ch_ret ca hp_ca) (Or.inl ⟨rfl, Or.inr (Or.inr (Or.inr (Or.inl rfl))), _, rfl⟩) (hb hby d10_15) hr, hrun, hended, _, _, rfl, ?_, ⟨_, rfl⟩, hW, hsame.mono (by decide) (by decide)⟩
  show own_Q10_0_1 Z ax ad kd ca pG vF h0 n0 _ T80.heap _
  rw [eq80]
  exact ⟨N80, rfl, rfl⟩
def own_Q14_0_2n (Z : State)  (h0 : Heap) (n0 : Nat) (v : Option Value) (h : Heap) (L : List Loc) : Prop := Fr n0 L ∧ v = some (.int (0 : Int32)) ∧ h = h0
set_option maxRecDepth 65536 in
set_option maxHeartbeats 40000000 in
theorem rm14_0_2n (l : Launch) (Z : State) (a0 : Array Value) (hw : ∀ d ∈ tables_1, d.before a0 Z = true) (ws : List Jvm.Cond)  (h0 : Heap) (n0 : Nat) (Z0 : n0 ≤ h0.size) :
    MetFree l (⟨"jdk/internal/util/Preconditions", "checkIndex", "(IILjava/util/function/BiFunction;)I"⟩ : MethodName) (head1 (Jvm.Cond.code (⟨"jdk/internal/util/Preconditions", "checkIndex", "(IILjava/util/function/BiFunction;)I"⟩ : MethodName) jdk_41_method_11_code 3 (some .int) :: ws) ({ frames := 0, cells := 0, slots := 0, locals := 0 } : Room)) (fun a U => a = #[(.int (0 : Int32)), (.int (2 : Int32)), .null] ∧ Z.Warmed39 U.vm ∧ U.heap = h0) (fun _ _ _ _ _ => True) (fun _ U o U' => ∃ v L, o = .returned v ∧ own_Q14_0_2n Z  h0 n0 v U'.heap L ∧ FrameEnd U o U' L ({ frames := 0, cells := 0, slots := 0, locals := 0 } : Room).cells ({ frames := 0, cells := 0, slots := 0, locals := 0 } : Room).slots) := by
  refine MetFree.of_bodySF (plainFor_of_name own_pn14) hisR ?_
  intro p e s m args below meth c s₁ Bd hml0 hP hK
  obtain ⟨rfl, hZ, hh⟩ := hP
  have hx := Bd.exec
  have hby := Bd.bytes
  have hml : c.maxLocals = 3 := hml0
  have hown : s.vm.findClass "jdk/internal/util/Preconditions" = some m.cls := findClass_of_methodNamed Bd.named
  have hnm := (name_of_methodNamed Bd.named Bd.method).1
  have X0 : Stand p l e ({ frames := 0, cells := 0, slots := 0, locals := 0 } : Room) s m #[(.int (0 : Int32)), (.int (2 : Int32)), .null] below meth c s₁ [] 0 0 := Stand.of_body Bd
  have e0 : s₁.heap = h0 := by rw [← hh, Bd.state]; rfl
  have N0 := Fr.nil n0
  refine own_pre (A := (s₁.setTop (mkF m 0 #[.val (.int (0 : Int32)), .val (.int (2 : Int32)), .val .null] []))) (fun t k => castTop (own_ef14n m (0 : Int32) (2 : Int32)) k) ?_
  refine own_pre (A := (s₁.setTop (mkF m 17 #[.val (.int (0 : Int32)), .val (.int (2 : Int32)), .val .null] [(.int (0 : Int32))]))) ?_ ?_
  · intro t k
    refine XS.iloadN X0.here hx rfl (hb hby d14_0) rfl ?_
    refine XS.ifNo X0.here hx rfl (hb hby d14_1) rfl ((if0 _ _).trans (flt (by decide : ¬ ((0 : Int32) < (0 : Int32)))).1) ?_
    refine XS.iloadN X0.here hx rfl (hb hby d14_4) rfl ?_
    refine XS.iloadN X0.here hx rfl (hb hby d14_5) rfl ?_
    refine XS.icmpYes X0.here hx rfl (pc0 := 6) (pc' := 16) rfl (hb hby d14_6) rfl (tlt (by decide : (0 : Int32) < (2 : Int32))).1 (by decide) (by decide) ?_
    refine XS.iloadN X0.here hx rfl (hb hby d14_16) rfl ?_
    exact k
  obtain ⟨fs, hr, hrun, hended, hW, hsame⟩ := X0.leave (hlocks := BodyLoose.notSynchronized Bd) (v := some (.int (0 : Int32))) (fun h => by rw [Bd.returns] at h; cases h)
  refine ⟨_, _, retOut X0 hx Bd.returns rfl (Or.inl ⟨rfl, Or.inl rfl, _, rfl⟩) (hb hby d14_17) hr, hrun, hended, _, _, rfl, ?_, ⟨_, rfl⟩, hW, hsame.mono (by decide) (by decide)⟩
  show own_Q14_0_2n Z  h0 n0 _ s₁.heap _
  rw [e0]
  exact ⟨N0, rfl, rfl⟩
def own_Q14_0_2r (Z : State) (af : Addr) (h0 : Heap) (n0 : Nat) (v : Option Value) (h : Heap) (L : List Loc) : Prop := Fr n0 L ∧ v = some (.int (0 : Int32)) ∧ h = h0
set_option maxRecDepth 65536 in
set_option maxHeartbeats 40000000 in
theorem rm14_0_2r (l : Launch) (Z : State) (a0 : Array Value) (hw : ∀ d ∈ tables_1, d.before a0 Z = true) (ws : List Jvm.Cond) (af : Addr) (h0 : Heap) (n0 : Nat) (Z0 : n0 ≤ h0.size) :
    MetFree l (⟨"jdk/internal/util/Preconditions", "checkIndex", "(IILjava/util/function/BiFunction;)I"⟩ : MethodName) (head1 (Jvm.Cond.code (⟨"jdk/internal/util/Preconditions", "checkIndex", "(IILjava/util/function/BiFunction;)I"⟩ : MethodName) jdk_41_method_11_code 3 (some .int) :: ws) ({ frames := 0, cells := 0, slots := 0, locals := 0 } : Room)) (fun a U => a = #[(.int (0 : Int32)), (.int (2 : Int32)), (.ref af)] ∧ Z.Warmed39 U.vm ∧ U.heap = h0) (fun _ _ _ _ _ => True) (fun _ U o U' => ∃ v L, o = .returned v ∧ own_Q14_0_2r Z af h0 n0 v U'.heap L ∧ FrameEnd U o U' L ({ frames := 0, cells := 0, slots := 0, locals := 0 } : Room).cells ({ frames := 0, cells := 0, slots := 0, locals := 0 } : Room).slots) := by
  refine MetFree.of_bodySF (plainFor_of_name own_pn14) hisR ?_
  intro p e s m args below meth c s₁ Bd hml0 hP hK
  obtain ⟨rfl, hZ, hh⟩ := hP
  have hx := Bd.exec
  have hby := Bd.bytes
  have hml : c.maxLocals = 3 := hml0
  have hown : s.vm.findClass "jdk/internal/util/Preconditions" = some m.cls := findClass_of_methodNamed Bd.named
  have hnm := (name_of_methodNamed Bd.named Bd.method).1
  have X0 : Stand p l e ({ frames := 0, cells := 0, slots := 0, locals := 0 } : Room) s m #[(.int (0 : Int32)), (.int (2 : Int32)), (.ref af)] below meth c s₁ [] 0 0 := Stand.of_body Bd
  have e0 : s₁.heap = h0 := by rw [← hh, Bd.state]; rfl
  have N0 := Fr.nil n0
  refine own_pre (A := (s₁.setTop (mkF m 0 #[.val (.int (0 : Int32)), .val (.int (2 : Int32)), .val (.ref af)] []))) (fun t k => castTop (own_ef14 m (0 : Int32) (2 : Int32) af) k) ?_
  refine own_pre (A := (s₁.setTop (mkF m 17 #[.val (.int (0 : Int32)), .val (.int (2 : Int32)), .val (.ref af)] [(.int (0 : Int32))]))) ?_ ?_
  · intro t k
    refine XS.iloadN X0.here hx rfl (hb hby d14_0) rfl ?_
    refine XS.ifNo X0.here hx rfl (hb hby d14_1) rfl ((if0 _ _).trans (flt (by decide : ¬ ((0 : Int32) < (0 : Int32)))).1) ?_
    refine XS.iloadN X0.here hx rfl (hb hby d14_4) rfl ?_
    refine XS.iloadN X0.here hx rfl (hb hby d14_5) rfl ?_
    refine XS.icmpYes X0.here hx rfl (pc0 := 6) (pc' := 16) rfl (hb hby d14_6) rfl (tlt (by decide : (0 : Int32) < (2 : Int32))).1 (by decide) (by decide) ?_
    refine XS.iloadN X0.here hx rfl (hb hby d14_16) rfl ?_
    exact k
  obtain ⟨fs, hr, hrun, hended, hW, hsame⟩ := X0.leave (hlocks := BodyLoose.notSynchronized Bd) (v := some (.int (0 : Int32))) (fun h => by rw [Bd.returns] at h; cases h)
  refine ⟨_, _, retOut X0 hx Bd.returns rfl (Or.inl ⟨rfl, Or.inl rfl, _, rfl⟩) (hb hby d14_17) hr, hrun, hended, _, _, rfl, ?_, ⟨_, rfl⟩, hW, hsame.mono (by decide) (by decide)⟩
  show own_Q14_0_2r Z af h0 n0 _ s₁.heap _
  rw [e0]
  exact ⟨N0, rfl, rfl⟩
def own_Q13_0_2 (Z : State) (vF : Value) (h0 : Heap) (n0 : Nat) (v : Option Value) (h : Heap) (L : List Loc) : Prop := v = none ∧ Fr n0 L ∧ h = h0
set_option maxRecDepth 65536 in
set_option maxHeartbeats 40000000 in
theorem rm13_0_2 (l : Launch) (Z : State) (a0 : Array Value) (hw : ∀ d ∈ tables_1, d.before a0 Z = true) (ws : List Jvm.Cond) (vF : Value) (h0 : Heap) (n0 : Nat) (Z0 : n0 ≤ h0.size) (O4 : Sta Z Z.heap "jdk/internal/util/Preconditions" "SIOOBE_FORMATTER" "Ljava/util/function/BiFunction;" vF) (rF : vF.isRef = true) (X00 : Old Z n0 h0) :
    MetFree l (⟨"java/lang/String", "checkIndex", "(II)V"⟩ : MethodName) (head1 (Jvm.Cond.code (⟨"java/lang/String", "checkIndex", "(II)V"⟩ : MethodName) jdk_42_method_155_code 2 none :: ws) ({ frames := 1, cells := 0, slots := 0, locals := 14 } : Room)) (fun a U => a = #[(.int (0 : Int32)), (.int (2 : Int32))] ∧ Z.Warmed39 U.vm ∧ U.heap = h0) (fun _ _ _ _ _ => True) (fun _ U o U' => ∃ v L, o = .returned v ∧ own_Q13_0_2 Z vF h0 n0 v U'.heap L ∧ FrameEnd U o U' L ({ frames := 1, cells := 0, slots := 0, locals := 14 } : Room).cells ({ frames := 1, cells := 0, slots := 0, locals := 14 } : Room).slots) := by
  refine MetFree.of_bodySF (plainFor_of_name own_pn13) hisR ?_
  intro p e s m args below meth c s₁ Bd hml0 hP hK
  obtain ⟨rfl, hZ, hh⟩ := hP
  have hx := Bd.exec
  have hby := Bd.bytes
  have hml : c.maxLocals = 2 := hml0
  have hown : s.vm.findClass "java/lang/String" = some m.cls := findClass_of_methodNamed Bd.named
  have hnm := (name_of_methodNamed Bd.named Bd.method).1
  have X0 : Stand p l e ({ frames := 1, cells := 0, slots := 0, locals := 14 } : Room) s m #[(.int (0 : Int32)), (.int (2 : Int32))] below meth c s₁ [] 0 0 := Stand.of_body Bd
  have e0 : s₁.heap = h0 := by rw [← hh, Bd.state]; rfl
  have N0 := Fr.nil n0
  refine own_pre (A := (s₁.setTop (mkF m 0 #[.val (.int (0 : Int32)), .val (.int (2 : Int32))] []))) (fun t k => castTop (own_ef13 m (0 : Int32) (2 : Int32)) k) ?_
  rcases ref_cases rF with rfl | ⟨af, rfl⟩
  · skip
    refine own_pre (A := (s₁.setTop (mkF m 2 #[.val (.int (0 : Int32)), .val (.int (2 : Int32))] [(.int (2 : Int32)), (.int (0 : Int32))]))) ?_ ?_
    · intro t k
      refine XS.iloadN X0.here hx rfl (hb hby d13_0) rfl ?_
      refine XS.iloadN X0.here hx rfl (hb hby d13_1) rfl ?_
      exact k
    obtain ⟨T81, X81, e81, st81⟩ := getS2 X0 hx hZ hown (host := "") (Or.inl (own_w hw 70 rfl)) Via.refl e0 (O4.ext X00.2) (g := (mkF m 2 #[.val (.int (0 : Int32)), .val (.int (2 : Int32))] [(.int (2 : Int32)), (.int (0 : Int32))])) rfl (hb hby d13_2)
    refine own_pre (fun t k => st81 t k) ?_
    obtain ⟨_, _, ⟨T82, L82, k82, n82⟩, -, X82, ⟨Lc82, hQ82, l82, y82, z82⟩, st82⟩ := Jvm.LawKit.callS X81 hx (y := (⟨"jdk/internal/util/Preconditions", "checkIndex", "(IILjava/util/function/BiFunction;)I"⟩ : MethodName)) hown (mvT hZ (own_w hw 72 rfl)) (mvT hZ (own_w hw 73 rfl)) (mvT hZ (own_w hw 71 rfl)) (mvT hZ (own_w hw 74 rfl)) (by decide) (backOf (W := 0) (rm14_0_2n l Z a0 hw []  h0 n0 Z0 ) hZ (own_w hw 74 rfl) (own_w hw 71 rfl) (by decide) (by decide)) (g := (mkF m 5 #[.val (.int (0 : Int32)), .val (.int (2 : Int32))] [.null, (.int (2 : Int32)), (.int (0 : Int32))])) rfl (by rw [hml]; rfl) (argsL := [(.int (0 : Int32)), (.int (2 : Int32)), .null]) (rest := []) (lenOf own_pd5 rfl) rfl (by show 2 * 0 + _ ≤ _; exact Nat.le_of_eq rfl) (hb hby d13_5) (fun _ _ => ⟨rfl, e81, (by decide : 0 + 0 ≤ _), (by decide : 0 + 0 ≤ _)⟩)
    dsimp only [Pt.U, Pt.locs, Pt.cells, Pt.slots] at X82 l82 y82 z82 st82 hQ82
    replace y82 : _ = 0 := y82
    replace z82 : _ = 0 := z82
    subst y82 z82
    obtain ⟨Nq82, rfl, eq82⟩ := hQ82
    have N82 := own_frl l82 N0 Nq82
    refine own_pre (fun t k => st82 t k) ?_
    refine own_pre (A := (T82.setTop (mkF m 9 #[.val (.int (0 : Int32)), .val (.int (2 : Int32))] []))) ?_ ?_
    · intro t k
      refine XS.pop X82.here hx rfl (hb hby d13_8) rfl rfl ?_
      exact k
    obtain ⟨fs, hr, hrun, hended, hW, hsame⟩ := X82.leave (hlocks := BodyLoose.notSynchronized Bd) (v := none) (fun _ => rfl)
    refine ⟨_, _, X82.returnOut hx Bd.returns (hb hby d13_9) hr, hrun, hended, _, _, rfl, ?_, ⟨_, rfl⟩, hW, hsame.mono (by decide) (by decide)⟩
    show own_Q13_0_2 Z .null h0 n0 _ T82.heap _
    rw [eq82]
    exact ⟨rfl, N82, rfl⟩
  · skip
    refine own_pre (A := (s₁.setTop (mkF m 2 #[.val (.int (0 : Int32)), .val (.int (2 : Int32))] [(.int (2 : Int32)), (.int (0 : Int32))]))) ?_ ?_
    · intro t k
      refine XS.iloadN X0.here hx rfl (hb hby d13_0) rfl ?_
      refine XS.iloadN X0.here hx rfl (hb hby d13_1) rfl ?_
      exact k
    obtain ⟨T83, X83, e83, st83⟩ := getS2 X0 hx hZ hown (host := "") (Or.inl (own_w hw 70 rfl)) Via.refl e0 (O4.ext X00.2) (g := (mkF m 2 #[.val (.int (0 : Int32)), .val (.int (2 : Int32))] [(.int (2 : Int32)), (.int (0 : Int32))])) rfl (hb hby d13_2)
    refine own_pre (fun t k => st83 t k) ?_
    obtain ⟨_, _, ⟨T84, L84, k84, n84⟩, -, X84, ⟨Lc84, hQ84, l84, y84, z84⟩, st84⟩ := Jvm.LawKit.callS X83 hx (y := (⟨"jdk/internal/util/Preconditions", "checkIndex", "(IILjava/util/function/BiFunction;)I"⟩ : MethodName)) hown (mvT hZ (own_w hw 72 rfl)) (mvT hZ (own_w hw 73 rfl)) (mvT hZ (own_w hw 71 rfl)) (mvT hZ (own_w hw 74 rfl)) (by decide) (backOf (W := 0) (rm14_0_2r l Z a0 hw [] af h0 n0 Z0 ) hZ (own_w hw 74 rfl) (own_w hw 71 rfl) (by decide) (by decide)) (g := (mkF m 5 #[.val (.int (0 : Int32)), .val (.int (2 : Int32))] [(.ref af), (.int (2 : Int32)), (.int (0 : Int32))])) rfl (by rw [hml]; rfl) (argsL := [(.int (0 : Int32)), (.int (2 : Int32)), (.ref af)]) (rest := []) (lenOf own_pd5 rfl) rfl (by show 2 * 0 + _ ≤ _; exact Nat.le_of_eq rfl) (hb hby d13_5) (fun _ _ => ⟨rfl, e83, (by decide : 0 + 0 ≤ _), (by decide : 0 + 0 ≤ _)⟩)
    dsimp only [Pt.U, Pt.locs, Pt.cells, Pt.slots] at X84 l84 y84 z84 st84 hQ84
    replace y84 : _ = 0 := y84
    replace z84 : _ = 0 := z84
    subst y84 z84
    obtain ⟨Nq84, rfl, eq84⟩ := hQ84
    have N84 := own_frl l84 N0 Nq84
    refine own_pre (fun t k => st84 t k) ?_
    refine own_pre (A := (T84.setTop (mkF m 9 #[.val (.int (0 : Int32)), .val (.int (2 : Int32))] []))) ?_ ?_
    · intro t k
      refine XS.pop X84.here hx rfl (hb hby d13_8) rfl rfl ?_
      exact k
    obtain ⟨fs, hr, hrun, hended, hW, hsame⟩ := X84.leave (hlocks := BodyLoose.notSynchronized Bd) (v := none) (fun _ => rfl)
    refine ⟨_, _, X84.returnOut hx Bd.returns (hb hby d13_9) hr, hrun, hended, _, _, rfl, ?_, ⟨_, rfl⟩, hW, hsame.mono (by decide) (by decide)⟩
    show own_Q13_0_2 Z (.ref af) h0 n0 _ T84.heap _
    rw [eq84]
    exact ⟨rfl, N84, rfl⟩
def own_Q12_0_2 (Z : State) (ad : Addr) (kd : ClassId) (ca : Int32) (cb : Int32) (vF : Value) (h0 : Heap) (n0 : Nat) (v : Option Value) (h : Heap) (L : List Loc) : Prop := Fr n0 L ∧ v = some (.int ca) ∧ h = h0
set_option maxRecDepth 65536 in
set_option maxHeartbeats 40000000 in
theorem rm12_0_2 (l : Launch) (Z : State) (a0 : Array Value) (hw : ∀ d ∈ tables_1, d.before a0 Z = true) (ws : List Jvm.Cond) (ad : Addr) (kd : ClassId) (ca : Int32) (cb : Int32) (vF : Value) (h0 : Heap) (n0 : Nat) (Z0 : n0 ≤ h0.size) (Vd : Arv Z h0 ad kd .byte (2 : Int32) [(.int ca), (.int cb)] (.int (0 : Int32))) (hp_ca : 0 ≤ ca.toInt ∧ ca.toInt < 128) (hp_cb : 0 ≤ cb.toInt ∧ cb.toInt < 128) (O4 : Sta Z Z.heap "jdk/internal/util/Preconditions" "SIOOBE_FORMATTER" "Ljava/util/function/BiFunction;" vF) (rF : vF.isRef = true) (X00 : Old Z n0 h0) :
    MetFree l (⟨"java/lang/StringLatin1", "charAt", "([BI)C"⟩ : MethodName) (head1 (Jvm.Cond.code (⟨"java/lang/StringLatin1", "charAt", "([BI)C"⟩ : MethodName) jdk_43_method_2_code 2 (some .char) :: ws) ({ frames := 2, cells := 0, slots := 0, locals := 27 } : Room)) (fun a U => a = #[(.ref ad), (.int (0 : Int32))] ∧ Z.Warmed39 U.vm ∧ U.heap = h0) (fun _ _ _ _ _ => True) (fun _ U o U' => ∃ v L, o = .returned v ∧ own_Q12_0_2 Z ad kd ca cb vF h0 n0 v U'.heap L ∧ FrameEnd U o U' L ({ frames := 2, cells := 0, slots := 0, locals := 27 } : Room).cells ({ frames := 2, cells := 0, slots := 0, locals := 27 } : Room).slots) := by
  refine MetFree.of_bodySF (plainFor_of_name own_pn12) hisR ?_
  intro p e s m args below meth c s₁ Bd hml0 hP hK
  obtain ⟨rfl, hZ, hh⟩ := hP
  have hx := Bd.exec
  have hby := Bd.bytes
  have hml : c.maxLocals = 2 := hml0
  have hown : s.vm.findClass "java/lang/StringLatin1" = some m.cls := findClass_of_methodNamed Bd.named
  have hnm := (name_of_methodNamed Bd.named Bd.method).1
  have X0 : Stand p l e ({ frames := 2, cells := 0, slots := 0, locals := 27 } : Room) s m #[(.ref ad), (.int (0 : Int32))] below meth c s₁ [] 0 0 := Stand.of_body Bd
  have e0 : s₁.heap = h0 := by rw [← hh, Bd.state]; rfl
  have N0 := Fr.nil n0
  refine own_pre (A := (s₁.setTop (mkF m 0 #[.val (.ref ad), .val (.int (0 : Int32))] []))) (fun t k => castTop (own_ef12 m ad (0 : Int32)) k) ?_
  refine own_pre (A := (s₁.setTop (mkF m 3 #[.val (.ref ad), .val (.int (0 : Int32))] [(.int (2 : Int32)), (.int (0 : Int32))]))) ?_ ?_
  · intro t k
    refine XS.iloadN X0.here hx rfl (hb hby d12_0) rfl ?_
    refine XS.aloadN X0.here hx rfl (hb hby d12_1) rfl rfl ?_
    show Steps p.tables e below (s₁.setTop (mkF m 2 #[.val (.ref ad), .val (.int (0 : Int32))] [(.ref ad), (.int (0 : Int32))])) _
    obtain ⟨cl85, Ar85, -, S85, N85, -, -⟩ := id Vd
    refine X0.arraylength hx (by rw [e0]; exact Ar85.1) (State.isArrayOf_alike hZ.alike Ar85.2.1) (g := (mkF m 2 #[.val (.ref ad), .val (.int (0 : Int32))] [(.ref ad), (.int (0 : Int32))])) rfl rfl (hb hby d12_2) _ ?_
    rw [len_of S85 N85]
    exact k
  obtain ⟨_, _, ⟨T86, L86, k86, n86⟩, -, X86, ⟨Lc86, hQ86, l86, y86, z86⟩, st86⟩ := Jvm.LawKit.callS X0 hx (y := (⟨"java/lang/String", "checkIndex", "(II)V"⟩ : MethodName)) hown (mvT hZ (own_w hw 67 rfl)) (mvT hZ (own_w hw 68 rfl)) (mvT hZ (own_w hw 2 rfl)) (mvT hZ (own_w hw 69 rfl)) (by decide) (backOf (W := 0) (rm13_0_2 l Z a0 hw [] vF h0 n0 Z0 O4 rF X00) hZ (own_w hw 69 rfl) (own_w hw 2 rfl) (by decide) (by decide)) (g := (mkF m 3 #[.val (.ref ad), .val (.int (0 : Int32))] [(.int (2 : Int32)), (.int (0 : Int32))])) rfl (by rw [hml]; rfl) (argsL := [(.int (0 : Int32)), (.int (2 : Int32))]) (rest := []) (lenOf own_pd6 rfl) rfl (by show 2 * 0 + _ ≤ _; exact Nat.le_of_eq rfl) (hb hby d12_3) (fun _ _ => ⟨rfl, e0, (by decide : 0 + 0 ≤ _), (by decide : 0 + 0 ≤ _)⟩)
  dsimp only [Pt.U, Pt.locs, Pt.cells, Pt.slots] at X86 l86 y86 z86 st86 hQ86
  replace y86 : _ = 0 := y86
  replace z86 : _ = 0 := z86
  subst y86 z86
  obtain ⟨rfl, Nq86, eq86⟩ := hQ86
  have N86 := own_frl l86 N0 Nq86
  refine own_pre (fun t k => st86 t k) ?_
  refine own_pre (A := (T86.setTop (mkF m 14 #[.val (.ref ad), .val (.int (0 : Int32))] [(.int ca)]))) ?_ ?_
  · intro t k
    refine XS.aloadN X86.here hx rfl (hb hby d12_6) rfl rfl ?_
    refine XS.iloadN X86.here hx rfl (hb hby d12_7) rfl ?_
    show Steps p.tables e below (T86.setTop (mkF m 8 #[.val (.ref ad), .val (.int (0 : Int32))] [(.int (0 : Int32)), (.ref ad)])) _
    obtain ⟨cl87, Ar87, q87, S87, N87, H87, G87⟩ := id Vd
    have hin87 : ¬ ((0 : Int32) < 0 ∨ cl87.slots.size ≤ ((0 : Int32)).toNatClampNeg) := inb_of S87 ⟨by decide, by decide⟩
    refine X86.baloadBytes hx (j := (0 : Int32)) (v := (.int ca)) (by rw [eq86]; exact Ar87.1) (State.isArrayOf_alike hZ.alike Ar87.2.1) Ar87.2.2 hin87 (H87.at hin87 rfl) (g := (mkF m 8 #[.val (.ref ad), .val (.int (0 : Int32))] [(.int (0 : Int32)), (.ref ad)])) rfl rfl (hb hby d12_8) _ ?_
    refine XS.sipush X86.here hx rfl (hb hby d12_9) ?_
    refine XS.iand X86.here hx rfl (hb hby d12_12) rfl ?_
    show Steps p.tables e below (T86.setTop (mkF m 13 #[.val (.ref ad), .val (.int (0 : Int32))] [(.int (ca &&& (255 : Int32)))])) _
    rw [own_ch_m ca hp_ca]
    refine XS.i2c X86.here hx rfl (hb hby d12_13) rfl ?_
    show Steps p.tables e below (T86.setTop (mkF m 14 #[.val (.ref ad), .val (.int (0 : Int32))] [(.int (ca.toUInt32.toUInt16.toUInt32.toInt32))])) _
    rw [own_ch_c ca hp_ca]
    exact k
  obtain ⟨fs, hr, hrun, hended, hW, hsame⟩ := X86.leave (hlocks := BodyLoose.notSynchronized Bd) (v := some (.int ca)) (fun h => by rw [Bd.returns] at h; cases h)
  refine ⟨_, _, retOut X86 hx Bd.returns (own_ch_ret ca hp_ca) (Or.inl ⟨rfl, Or.inr (Or.inr (Or.inr (Or.inl rfl))), _, rfl⟩) (hb hby d12_14) hr, hrun, hended, _, _, rfl, ?_, ⟨_, rfl⟩, hW, hsame.mono (by decide) (by decide)⟩
  show own_Q12_0_2 Z ad kd ca cb vF h0 n0 _ T86.heap _
  rw [eq86]
  exact ⟨N86, rfl, rfl⟩
def own_Q10_0_2 (Z : State) (ax : Addr) (ad : Addr) (kd : ClassId) (ca : Int32) (cb : Int32) (pG : Int32) (vF : Value) (h0 : Heap) (n0 : Nat) (v : Option Value) (h : Heap) (L : List Loc) : Prop := Fr n0 L ∧ v = some (.int ca) ∧ h = h0
set_option maxRecDepth 65536 in
set_option maxHeartbeats 40000000 in
theorem rm10_0_2 (l : Launch) (Z : State) (a0 : Array Value) (hw : ∀ d ∈ tables_1, d.before a0 Z = true) (ws : List Jvm.Cond) (ax : Addr) (ad : Addr) (kd : ClassId) (ca : Int32) (cb : Int32) (pG : Int32) (vF : Value) (h0 : Heap) (n0 : Nat) (Z0 : n0 ≤ h0.size) (Ea : Exa Z h0 ax "java/lang/String") (Fv : Fld Z h0 ax "java/lang/String" "value" "[B" (.ref ad)) (Fc : Fld Z h0 ax "java/lang/String" "coder" "B" (.int (0 : Int32))) (Vd : Arv Z h0 ad kd .byte (2 : Int32) [(.int ca), (.int cb)] (.int (0 : Int32))) (hp_ca : 0 ≤ ca.toInt ∧ ca.toInt < 128) (hp_cb : 0 ≤ cb.toInt ∧ cb.toInt < 128) (O2 : Sta Z Z.heap "java/lang/String" "COMPACT_STRINGS" "Z" (.int pG)) (hG : ¬ pG = (0 : Int32)) (X00 : Old Z n0 h0) (O4 : Sta Z Z.heap "jdk/internal/util/Preconditions" "SIOOBE_FORMATTER" "Ljava/util/function/BiFunction;" vF) (rF : vF.isRef = true) :
    MetFree l (⟨"java/lang/String", "charAt", "(I)C"⟩ : MethodName) (head1 (Jvm.Cond.code (⟨"java/lang/String", "charAt", "(I)C"⟩ : MethodName) jdk_42_method_56_code 2 (some .char) :: ws) ({ frames := 3, cells := 0, slots := 0, locals := 40 } : Room)) (fun a U => a = #[(.ref ax), (.int (0 : Int32))] ∧ Z.Warmed39 U.vm ∧ U.heap = h0) (fun _ _ _ _ _ => True) (fun _ U o U' => ∃ v L, o = .returned v ∧ own_Q10_0_2 Z ax ad kd ca cb pG vF h0 n0 v U'.heap L ∧ FrameEnd U o U' L ({ frames := 3, cells := 0, slots := 0, locals := 40 } : Room).cells ({ frames := 3, cells := 0, slots := 0, locals := 40 } : Room).slots) := by
  refine MetFree.of_bodySF (plainFor_of_name own_pn10) hisR ?_
  intro p e s m args below meth c s₁ Bd hml0 hP hK
  obtain ⟨rfl, hZ, hh⟩ := hP
  have hx := Bd.exec
  have hby := Bd.bytes
  have hml : c.maxLocals = 2 := hml0
  have hown : s.vm.findClass "java/lang/String" = some m.cls := findClass_of_methodNamed Bd.named
  have hnm := (name_of_methodNamed Bd.named Bd.method).1
  have X0 : Stand p l e ({ frames := 3, cells := 0, slots := 0, locals := 40 } : Room) s m #[(.ref ax), (.int (0 : Int32))] below meth c s₁ [] 0 0 := Stand.of_body Bd
  have e0 : s₁.heap = h0 := by rw [← hh, Bd.state]; rfl
  have N0 := Fr.nil n0
  refine own_pre (A := (s₁.setTop (mkF m 0 #[.val (.ref ax), .val (.int (0 : Int32))] []))) (fun t k => castTop (own_ef10 m ax (0 : Int32)) k) ?_
  refine own_pre (A := (s₁.setTop (mkF m 1 #[.val (.ref ax), .val (.int (0 : Int32))] [(.ref ax)]))) ?_ ?_
  · intro t k
    refine XS.aloadN X0.here hx rfl (hb hby d10_0) rfl rfl ?_
    exact k
  obtain ⟨cq88, kq88, q88a, q88b, q88c⟩ := isOf hZ e0 Ea
  obtain ⟨_, _, ⟨T88, L88, k88, n88⟩, -, X88, ⟨Lc88, hQ88, l88, y88, z88⟩, st88⟩ := X0.virtualBack hx (y := (⟨"java/lang/String", "isLatin1", "()Z"⟩ : MethodName)) (z := (⟨"java/lang/String", "isLatin1", "()Z"⟩ : MethodName)) hown (mvT hZ (own_w hw 58 rfl)) (mvT hZ (own_w hw 59 rfl)) (notFace_of_selects (args := #[]) (mvT hZ (own_w hw 61 rfl))) (mvT hZ (own_w hw 61 rfl)) (mvT hZ (own_w hw 60 rfl)) (by decide) (backOf (W := 0) (rm11 l Z a0 hw [] ax pG h0 n0 Z0 Fc O2 hG X00) hZ (own_w hw 62 rfl) (own_w hw 2 rfl) (by decide) (by decide)) q88a q88c (g := (mkF m 1 #[.val (.ref ax), .val (.int (0 : Int32))] [(.ref ax)])) rfl (by rw [hml]; rfl) (Steps.refl _) (argsL := []) (rest := []) (lenOf own_pd7 rfl) rfl (by show 2 * 0 + _ ≤ _; exact Nat.le_of_eq rfl) (hb hby d10_1) (fun _ _ => ⟨rfl, e0, (by decide : 0 + 0 ≤ _), (by decide : 0 + 0 ≤ _)⟩)
  dsimp only [Pt.U, Pt.locs, Pt.cells, Pt.slots] at X88 l88 y88 z88 st88 hQ88
  replace y88 : _ = 0 := y88
  replace z88 : _ = 0 := z88
  subst y88 z88
  obtain ⟨Nq88, rfl, eq88⟩ := hQ88
  have N88 := own_frl l88 N0 Nq88
  refine own_pre (fun t k => st88.trans k) ?_
  refine own_pre (A := (T88.setTop (mkF m 8 #[.val (.ref ax), .val (.int (0 : Int32))] [(.ref ax)]))) ?_ ?_
  · intro t k
    refine XS.ifNo X88.here hx rfl (hb hby d10_4) rfl ((if0 _ _).trans (feq (by decide : ¬ ((1 : Int32) = (0 : Int32)))).1) ?_
    refine XS.aloadN X88.here hx rfl (hb hby d10_7) rfl rfl ?_
    exact k
  obtain ⟨T89, X89, e89, st89⟩ := getF X88 hx hZ hown (host := "") (Or.inl (own_w hw 28 rfl)) Via.refl eq88 Fv (g := (mkF m 8 #[.val (.ref ax), .val (.int (0 : Int32))] [(.ref ax)])) rfl rfl (hb hby d10_8)
  refine own_pre (fun t k => st89 t k) ?_
  refine own_pre (A := (T89.setTop (mkF m 12 #[.val (.ref ax), .val (.int (0 : Int32))] [(.int (0 : Int32)), (.ref ad)]))) ?_ ?_
  · intro t k
    refine XS.iloadN X89.here hx rfl (hb hby d10_11) rfl ?_
    exact k
  obtain ⟨_, _, ⟨T90, L90, k90, n90⟩, -, X90, ⟨Lc90, hQ90, l90, y90, z90⟩, st90⟩ := Jvm.LawKit.callS X89 hx (y := (⟨"java/lang/StringLatin1", "charAt", "([BI)C"⟩ : MethodName)) hown (mvT hZ (own_w hw 63 rfl)) (mvT hZ (own_w hw 64 rfl)) (mvT hZ (own_w hw 65 rfl)) (mvT hZ (own_w hw 66 rfl)) (by decide) (backOf (W := 0) (rm12_0_2 l Z a0 hw [] ad kd ca cb vF h0 n0 Z0 Vd hp_ca hp_cb O4 rF X00) hZ (own_w hw 66 rfl) (own_w hw 65 rfl) (by decide) (by decide)) (g := (mkF m 12 #[.val (.ref ax), .val (.int (0 : Int32))] [(.int (0 : Int32)), (.ref ad)])) rfl (by rw [hml]; rfl) (argsL := [(.ref ad), (.int (0 : Int32))]) (rest := []) (lenOf own_pd8 rfl) rfl (by show 2 * 0 + _ ≤ _; exact Nat.le_of_eq rfl) (hb hby d10_12) (fun _ _ => ⟨rfl, e89, (by decide : 0 + 0 ≤ _), (by decide : 0 + 0 ≤ _)⟩)
  dsimp only [Pt.U, Pt.locs, Pt.cells, Pt.slots] at X90 l90 y90 z90 st90 hQ90
  replace y90 : _ = 0 := y90
  replace z90 : _ = 0 := z90
  subst y90 z90
  obtain ⟨Nq90, rfl, eq90⟩ := hQ90
  have N90 := own_frl l90 N88 Nq90
  refine own_pre (fun t k => st90 t k) ?_
  obtain ⟨fs, hr, hrun, hended, hW, hsame⟩ := X90.leave (hlocks := BodyLoose.notSynchronized Bd) (v := some (.int ca)) (fun h => by rw [Bd.returns] at h; cases h)
  refine ⟨_, _, retOut X90 hx Bd.returns (own_ch_ret ca hp_ca) (Or.inl ⟨rfl, Or.inr (Or.inr (Or.inr (Or.inl rfl))), _, rfl⟩) (hb hby d10_15) hr, hrun, hended, _, _, rfl, ?_, ⟨_, rfl⟩, hW, hsame.mono (by decide) (by decide)⟩
  show own_Q10_0_2 Z ax ad kd ca cb pG vF h0 n0 _ T90.heap _
  rw [eq90]
  exact ⟨N90, rfl, rfl⟩
def own_Q14_1_2n (Z : State)  (h0 : Heap) (n0 : Nat) (v : Option Value) (h : Heap) (L : List Loc) : Prop := Fr n0 L ∧ v = some (.int (1 : Int32)) ∧ h = h0
set_option maxRecDepth 65536 in
set_option maxHeartbeats 40000000 in
theorem rm14_1_2n (l : Launch) (Z : State) (a0 : Array Value) (hw : ∀ d ∈ tables_1, d.before a0 Z = true) (ws : List Jvm.Cond)  (h0 : Heap) (n0 : Nat) (Z0 : n0 ≤ h0.size) :
    MetFree l (⟨"jdk/internal/util/Preconditions", "checkIndex", "(IILjava/util/function/BiFunction;)I"⟩ : MethodName) (head1 (Jvm.Cond.code (⟨"jdk/internal/util/Preconditions", "checkIndex", "(IILjava/util/function/BiFunction;)I"⟩ : MethodName) jdk_41_method_11_code 3 (some .int) :: ws) ({ frames := 0, cells := 0, slots := 0, locals := 0 } : Room)) (fun a U => a = #[(.int (1 : Int32)), (.int (2 : Int32)), .null] ∧ Z.Warmed39 U.vm ∧ U.heap = h0) (fun _ _ _ _ _ => True) (fun _ U o U' => ∃ v L, o = .returned v ∧ own_Q14_1_2n Z  h0 n0 v U'.heap L ∧ FrameEnd U o U' L ({ frames := 0, cells := 0, slots := 0, locals := 0 } : Room).cells ({ frames := 0, cells := 0, slots := 0, locals := 0 } : Room).slots) := by
  refine MetFree.of_bodySF (plainFor_of_name own_pn14) hisR ?_
  intro p e s m args below meth c s₁ Bd hml0 hP hK
  obtain ⟨rfl, hZ, hh⟩ := hP
  have hx := Bd.exec
  have hby := Bd.bytes
  have hml : c.maxLocals = 3 := hml0
  have hown : s.vm.findClass "jdk/internal/util/Preconditions" = some m.cls := findClass_of_methodNamed Bd.named
  have hnm := (name_of_methodNamed Bd.named Bd.method).1
  have X0 : Stand p l e ({ frames := 0, cells := 0, slots := 0, locals := 0 } : Room) s m #[(.int (1 : Int32)), (.int (2 : Int32)), .null] below meth c s₁ [] 0 0 := Stand.of_body Bd
  have e0 : s₁.heap = h0 := by rw [← hh, Bd.state]; rfl
  have N0 := Fr.nil n0
  refine own_pre (A := (s₁.setTop (mkF m 0 #[.val (.int (1 : Int32)), .val (.int (2 : Int32)), .val .null] []))) (fun t k => castTop (own_ef14n m (1 : Int32) (2 : Int32)) k) ?_
  refine own_pre (A := (s₁.setTop (mkF m 17 #[.val (.int (1 : Int32)), .val (.int (2 : Int32)), .val .null] [(.int (1 : Int32))]))) ?_ ?_
  · intro t k
    refine XS.iloadN X0.here hx rfl (hb hby d14_0) rfl ?_
    refine XS.ifNo X0.here hx rfl (hb hby d14_1) rfl ((if0 _ _).trans (flt (by decide : ¬ ((1 : Int32) < (0 : Int32)))).1) ?_
    refine XS.iloadN X0.here hx rfl (hb hby d14_4) rfl ?_
    refine XS.iloadN X0.here hx rfl (hb hby d14_5) rfl ?_
    refine XS.icmpYes X0.here hx rfl (pc0 := 6) (pc' := 16) rfl (hb hby d14_6) rfl (tlt (by decide : (1 : Int32) < (2 : Int32))).1 (by decide) (by decide) ?_
    refine XS.iloadN X0.here hx rfl (hb hby d14_16) rfl ?_
    exact k
  obtain ⟨fs, hr, hrun, hended, hW, hsame⟩ := X0.leave (hlocks := BodyLoose.notSynchronized Bd) (v := some (.int (1 : Int32))) (fun h => by rw [Bd.returns] at h; cases h)
  refine ⟨_, _, retOut X0 hx Bd.returns rfl (Or.inl ⟨rfl, Or.inl rfl, _, rfl⟩) (hb hby d14_17) hr, hrun, hended, _, _, rfl, ?_, ⟨_, rfl⟩, hW, hsame.mono (by decide) (by decide)⟩
  show own_Q14_1_2n Z  h0 n0 _ s₁.heap _
  rw [e0]
  exact ⟨N0, rfl, rfl⟩
def own_Q14_1_2r (Z : State) (af : Addr) (h0 : Heap) (n0 : Nat) (v : Option Value) (h : Heap) (L : List Loc) : Prop := Fr n0 L ∧ v = some (.int (1 : Int32)) ∧ h = h0
set_option maxRecDepth 65536 in
set_option maxHeartbeats 40000000 in
theorem rm14_1_2r (l : Launch) (Z : State) (a0 : Array Value) (hw : ∀ d ∈ tables_1, d.before a0 Z = true) (ws : List Jvm.Cond) (af : Addr) (h0 : Heap) (n0 : Nat) (Z0 : n0 ≤ h0.size) :
    MetFree l (⟨"jdk/internal/util/Preconditions", "checkIndex", "(IILjava/util/function/BiFunction;)I"⟩ : MethodName) (head1 (Jvm.Cond.code (⟨"jdk/internal/util/Preconditions", "checkIndex", "(IILjava/util/function/BiFunction;)I"⟩ : MethodName) jdk_41_method_11_code 3 (some .int) :: ws) ({ frames := 0, cells := 0, slots := 0, locals := 0 } : Room)) (fun a U => a = #[(.int (1 : Int32)), (.int (2 : Int32)), (.ref af)] ∧ Z.Warmed39 U.vm ∧ U.heap = h0) (fun _ _ _ _ _ => True) (fun _ U o U' => ∃ v L, o = .returned v ∧ own_Q14_1_2r Z af h0 n0 v U'.heap L ∧ FrameEnd U o U' L ({ frames := 0, cells := 0, slots := 0, locals := 0 } : Room).cells ({ frames := 0, cells := 0, slots := 0, locals := 0 } : Room).slots) := by
  refine MetFree.of_bodySF (plainFor_of_name own_pn14) hisR ?_
  intro p e s m args below meth c s₁ Bd hml0 hP hK
  obtain ⟨rfl, hZ, hh⟩ := hP
  have hx := Bd.exec
  have hby := Bd.bytes
  have hml : c.maxLocals = 3 := hml0
  have hown : s.vm.findClass "jdk/internal/util/Preconditions" = some m.cls := findClass_of_methodNamed Bd.named
  have hnm := (name_of_methodNamed Bd.named Bd.method).1
  have X0 : Stand p l e ({ frames := 0, cells := 0, slots := 0, locals := 0 } : Room) s m #[(.int (1 : Int32)), (.int (2 : Int32)), (.ref af)] below meth c s₁ [] 0 0 := Stand.of_body Bd
  have e0 : s₁.heap = h0 := by rw [← hh, Bd.state]; rfl
  have N0 := Fr.nil n0
  refine own_pre (A := (s₁.setTop (mkF m 0 #[.val (.int (1 : Int32)), .val (.int (2 : Int32)), .val (.ref af)] []))) (fun t k => castTop (own_ef14 m (1 : Int32) (2 : Int32) af) k) ?_
  refine own_pre (A := (s₁.setTop (mkF m 17 #[.val (.int (1 : Int32)), .val (.int (2 : Int32)), .val (.ref af)] [(.int (1 : Int32))]))) ?_ ?_
  · intro t k
    refine XS.iloadN X0.here hx rfl (hb hby d14_0) rfl ?_
    refine XS.ifNo X0.here hx rfl (hb hby d14_1) rfl ((if0 _ _).trans (flt (by decide : ¬ ((1 : Int32) < (0 : Int32)))).1) ?_
    refine XS.iloadN X0.here hx rfl (hb hby d14_4) rfl ?_
    refine XS.iloadN X0.here hx rfl (hb hby d14_5) rfl ?_
    refine XS.icmpYes X0.here hx rfl (pc0 := 6) (pc' := 16) rfl (hb hby d14_6) rfl (tlt (by decide : (1 : Int32) < (2 : Int32))).1 (by decide) (by decide) ?_
    refine XS.iloadN X0.here hx rfl (hb hby d14_16) rfl ?_
    exact k
  obtain ⟨fs, hr, hrun, hended, hW, hsame⟩ := X0.leave (hlocks := BodyLoose.notSynchronized Bd) (v := some (.int (1 : Int32))) (fun h => by rw [Bd.returns] at h; cases h)
  refine ⟨_, _, retOut X0 hx Bd.returns rfl (Or.inl ⟨rfl, Or.inl rfl, _, rfl⟩) (hb hby d14_17) hr, hrun, hended, _, _, rfl, ?_, ⟨_, rfl⟩, hW, hsame.mono (by decide) (by decide)⟩
  show own_Q14_1_2r Z af h0 n0 _ s₁.heap _
  rw [e0]
  exact ⟨N0, rfl, rfl⟩
def own_Q13_1_2 (Z : State) (vF : Value) (h0 : Heap) (n0 : Nat) (v : Option Value) (h : Heap) (L : List Loc) : Prop := v = none ∧ Fr n0 L ∧ h = h0
set_option maxRecDepth 65536 in
set_option maxHeartbeats 40000000 in
theorem rm13_1_2 (l : Launch) (Z : State) (a0 : Array Value) (hw : ∀ d ∈ tables_1, d.before a0 Z = true) (ws : List Jvm.Cond) (vF : Value) (h0 : Heap) (n0 : Nat) (Z0 : n0 ≤ h0.size) (O4 : Sta Z Z.heap "jdk/internal/util/Preconditions" "SIOOBE_FORMATTER" "Ljava/util/function/BiFunction;" vF) (rF : vF.isRef = true) (X00 : Old Z n0 h0) :
    MetFree l (⟨"java/lang/String", "checkIndex", "(II)V"⟩ : MethodName) (head1 (Jvm.Cond.code (⟨"java/lang/String", "checkIndex", "(II)V"⟩ : MethodName) jdk_42_method_155_code 2 none :: ws) ({ frames := 1, cells := 0, slots := 0, locals := 14 } : Room)) (fun a U => a = #[(.int (1 : Int32)), (.int (2 : Int32))] ∧ Z.Warmed39 U.vm ∧ U.heap = h0) (fun _ _ _ _ _ => True) (fun _ U o U' => ∃ v L, o = .returned v ∧ own_Q13_1_2 Z vF h0 n0 v U'.heap L ∧ FrameEnd U o U' L ({ frames := 1, cells := 0, slots := 0, locals := 14 } : Room).cells ({ frames := 1, cells := 0, slots := 0, locals := 14 } : Room).slots) := by
  refine MetFree.of_bodySF (plainFor_of_name own_pn13) hisR ?_
  intro p e s m args below meth c s₁ Bd hml0 hP hK
  obtain ⟨rfl, hZ, hh⟩ := hP
  have hx := Bd.exec
  have hby := Bd.bytes
  have hml : c.maxLocals = 2 := hml0
  have hown : s.vm.findClass "java/lang/String" = some m.cls := findClass_of_methodNamed Bd.named
  have hnm := (name_of_methodNamed Bd.named Bd.method).1
  have X0 : Stand p l e ({ frames := 1, cells := 0, slots := 0, locals := 14 } : Room) s m #[(.int (1 : Int32)), (.int (2 : Int32))] below meth c s₁ [] 0 0 := Stand.of_body Bd
  have e0 : s₁.heap = h0 := by rw [← hh, Bd.state]; rfl
  have N0 := Fr.nil n0
  refine own_pre (A := (s₁.setTop (mkF m 0 #[.val (.int (1 : Int32)), .val (.int (2 : Int32))] []))) (fun t k => castTop (own_ef13 m (1 : Int32) (2 : Int32)) k) ?_
  rcases ref_cases rF with rfl | ⟨af, rfl⟩
  · skip
    refine own_pre (A := (s₁.setTop (mkF m 2 #[.val (.int (1 : Int32)), .val (.int (2 : Int32))] [(.int (2 : Int32)), (.int (1 : Int32))]))) ?_ ?_
    · intro t k
      refine XS.iloadN X0.here hx rfl (hb hby d13_0) rfl ?_
      refine XS.iloadN X0.here hx rfl (hb hby d13_1) rfl ?_
      exact k
    obtain ⟨T91, X91, e91, st91⟩ := getS2 X0 hx hZ hown (host := "") (Or.inl (own_w hw 70 rfl)) Via.refl e0 (O4.ext X00.2) (g := (mkF m 2 #[.val (.int (1 : Int32)), .val (.int (2 : Int32))] [(.int (2 : Int32)), (.int (1 : Int32))])) rfl (hb hby d13_2)
    refine own_pre (fun t k => st91 t k) ?_
    obtain ⟨_, _, ⟨T92, L92, k92, n92⟩, -, X92, ⟨Lc92, hQ92, l92, y92, z92⟩, st92⟩ := Jvm.LawKit.callS X91 hx (y := (⟨"jdk/internal/util/Preconditions", "checkIndex", "(IILjava/util/function/BiFunction;)I"⟩ : MethodName)) hown (mvT hZ (own_w hw 72 rfl)) (mvT hZ (own_w hw 73 rfl)) (mvT hZ (own_w hw 71 rfl)) (mvT hZ (own_w hw 74 rfl)) (by decide) (backOf (W := 0) (rm14_1_2n l Z a0 hw []  h0 n0 Z0 ) hZ (own_w hw 74 rfl) (own_w hw 71 rfl) (by decide) (by decide)) (g := (mkF m 5 #[.val (.int (1 : Int32)), .val (.int (2 : Int32))] [.null, (.int (2 : Int32)), (.int (1 : Int32))])) rfl (by rw [hml]; rfl) (argsL := [(.int (1 : Int32)), (.int (2 : Int32)), .null]) (rest := []) (lenOf own_pd5 rfl) rfl (by show 2 * 0 + _ ≤ _; exact Nat.le_of_eq rfl) (hb hby d13_5) (fun _ _ => ⟨rfl, e91, (by decide : 0 + 0 ≤ _), (by decide : 0 + 0 ≤ _)⟩)
    dsimp only [Pt.U, Pt.locs, Pt.cells, Pt.slots] at X92 l92 y92 z92 st92 hQ92
    replace y92 : _ = 0 := y92
    replace z92 : _ = 0 := z92
    subst y92 z92
    obtain ⟨Nq92, rfl, eq92⟩ := hQ92
    have N92 := own_frl l92 N0 Nq92
    refine own_pre (fun t k => st92 t k) ?_
    refine own_pre (A := (T92.setTop (mkF m 9 #[.val (.int (1 : Int32)), .val (.int (2 : Int32))] []))) ?_ ?_
    · intro t k
      refine XS.pop X92.here hx rfl (hb hby d13_8) rfl rfl ?_
      exact k
    obtain ⟨fs, hr, hrun, hended, hW, hsame⟩ := X92.leave (hlocks := BodyLoose.notSynchronized Bd) (v := none) (fun _ => rfl)
    refine ⟨_, _, X92.returnOut hx Bd.returns (hb hby d13_9) hr, hrun, hended, _, _, rfl, ?_, ⟨_, rfl⟩, hW, hsame.mono (by decide) (by decide)⟩
    show own_Q13_1_2 Z .null h0 n0 _ T92.heap _
    rw [eq92]
    exact ⟨rfl, N92, rfl⟩
  · skip
    refine own_pre (A := (s₁.setTop (mkF m 2 #[.val (.int (1 : Int32)), .val (.int (2 : Int32))] [(.int (2 : Int32)), (.int (1 : Int32))]))) ?_ ?_
    · intro t k
      refine XS.iloadN X0.here hx rfl (hb hby d13_0) rfl ?_
      refine XS.iloadN X0.here hx rfl (hb hby d13_1) rfl ?_
      exact k
    obtain ⟨T93, X93, e93, st93⟩ := getS2 X0 hx hZ hown (host := "") (Or.inl (own_w hw 70 rfl)) Via.refl e0 (O4.ext X00.2) (g := (mkF m 2 #[.val (.int (1 : Int32)), .val (.int (2 : Int32))] [(.int (2 : Int32)), (.int (1 : Int32))])) rfl (hb hby d13_2)
    refine own_pre (fun t k => st93 t k) ?_
    obtain ⟨_, _, ⟨T94, L94, k94, n94⟩, -, X94, ⟨Lc94, hQ94, l94, y94, z94⟩, st94⟩ := Jvm.LawKit.callS X93 hx (y := (⟨"jdk/internal/util/Preconditions", "checkIndex", "(IILjava/util/function/BiFunction;)I"⟩ : MethodName)) hown (mvT hZ (own_w hw 72 rfl)) (mvT hZ (own_w hw 73 rfl)) (mvT hZ (own_w hw 71 rfl)) (mvT hZ (own_w hw 74 rfl)) (by decide) (backOf (W := 0) (rm14_1_2r l Z a0 hw [] af h0 n0 Z0 ) hZ (own_w hw 74 rfl) (own_w hw 71 rfl) (by decide) (by decide)) (g := (mkF m 5 #[.val (.int (1 : Int32)), .val (.int (2 : Int32))] [(.ref af), (.int (2 : Int32)), (.int (1 : Int32))])) rfl (by rw [hml]; rfl) (argsL := [(.int (1 : Int32)), (.int (2 : Int32)), (.ref af)]) (rest := []) (lenOf own_pd5 rfl) rfl (by show 2 * 0 + _ ≤ _; exact Nat.le_of_eq rfl) (hb hby d13_5) (fun _ _ => ⟨rfl, e93, (by decide : 0 + 0 ≤ _), (by decide : 0 + 0 ≤ _)⟩)
    dsimp only [Pt.U, Pt.locs, Pt.cells, Pt.slots] at X94 l94 y94 z94 st94 hQ94
    replace y94 : _ = 0 := y94
    replace z94 : _ = 0 := z94
    subst y94 z94
    obtain ⟨Nq94, rfl, eq94⟩ := hQ94
    have N94 := own_frl l94 N0 Nq94
    refine own_pre (fun t k => st94 t k) ?_
    refine own_pre (A := (T94.setTop (mkF m 9 #[.val (.int (1 : Int32)), .val (.int (2 : Int32))] []))) ?_ ?_
    · intro t k
      refine XS.pop X94.here hx rfl (hb hby d13_8) rfl rfl ?_
      exact k
    obtain ⟨fs, hr, hrun, hended, hW, hsame⟩ := X94.leave (hlocks := BodyLoose.notSynchronized Bd) (v := none) (fun _ => rfl)
    refine ⟨_, _, X94.returnOut hx Bd.returns (hb hby d13_9) hr, hrun, hended, _, _, rfl, ?_, ⟨_, rfl⟩, hW, hsame.mono (by decide) (by decide)⟩
    show own_Q13_1_2 Z (.ref af) h0 n0 _ T94.heap _
    rw [eq94]
    exact ⟨rfl, N94, rfl⟩
def own_Q12_1_2 (Z : State) (ad : Addr) (kd : ClassId) (ca : Int32) (cb : Int32) (vF : Value) (h0 : Heap) (n0 : Nat) (v : Option Value) (h : Heap) (L : List Loc) : Prop := Fr n0 L ∧ v = some (.int cb) ∧ h = h0
set_option maxRecDepth 65536 in
set_option maxHeartbeats 40000000 in
theorem rm12_1_2 (l : Launch) (Z : State) (a0 : Array Value) (hw : ∀ d ∈ tables_1, d.before a0 Z = true) (ws : List Jvm.Cond) (ad : Addr) (kd : ClassId) (ca : Int32) (cb : Int32) (vF : Value) (h0 : Heap) (n0 : Nat) (Z0 : n0 ≤ h0.size) (Vd : Arv Z h0 ad kd .byte (2 : Int32) [(.int ca), (.int cb)] (.int (0 : Int32))) (hp_ca : 0 ≤ ca.toInt ∧ ca.toInt < 128) (hp_cb : 0 ≤ cb.toInt ∧ cb.toInt < 128) (O4 : Sta Z Z.heap "jdk/internal/util/Preconditions" "SIOOBE_FORMATTER" "Ljava/util/function/BiFunction;" vF) (rF : vF.isRef = true) (X00 : Old Z n0 h0) :
    MetFree l (⟨"java/lang/StringLatin1", "charAt", "([BI)C"⟩ : MethodName) (head1 (Jvm.Cond.code (⟨"java/lang/StringLatin1", "charAt", "([BI)C"⟩ : MethodName) jdk_43_method_2_code 2 (some .char) :: ws) ({ frames := 2, cells := 0, slots := 0, locals := 27 } : Room)) (fun a U => a = #[(.ref ad), (.int (1 : Int32))] ∧ Z.Warmed39 U.vm ∧ U.heap = h0) (fun _ _ _ _ _ => True) (fun _ U o U' => ∃ v L, o = .returned v ∧ own_Q12_1_2 Z ad kd ca cb vF h0 n0 v U'.heap L ∧ FrameEnd U o U' L ({ frames := 2, cells := 0, slots := 0, locals := 27 } : Room).cells ({ frames := 2, cells := 0, slots := 0, locals := 27 } : Room).slots) := by
  refine MetFree.of_bodySF (plainFor_of_name own_pn12) hisR ?_
  intro p e s m args below meth c s₁ Bd hml0 hP hK
  obtain ⟨rfl, hZ, hh⟩ := hP
  have hx := Bd.exec
  have hby := Bd.bytes
  have hml : c.maxLocals = 2 := hml0
  have hown : s.vm.findClass "java/lang/StringLatin1" = some m.cls := findClass_of_methodNamed Bd.named
  have hnm := (name_of_methodNamed Bd.named Bd.method).1
  have X0 : Stand p l e ({ frames := 2, cells := 0, slots := 0, locals := 27 } : Room) s m #[(.ref ad), (.int (1 : Int32))] below meth c s₁ [] 0 0 := Stand.of_body Bd
  have e0 : s₁.heap = h0 := by rw [← hh, Bd.state]; rfl
  have N0 := Fr.nil n0
  refine own_pre (A := (s₁.setTop (mkF m 0 #[.val (.ref ad), .val (.int (1 : Int32))] []))) (fun t k => castTop (own_ef12 m ad (1 : Int32)) k) ?_
  refine own_pre (A := (s₁.setTop (mkF m 3 #[.val (.ref ad), .val (.int (1 : Int32))] [(.int (2 : Int32)), (.int (1 : Int32))]))) ?_ ?_
  · intro t k
    refine XS.iloadN X0.here hx rfl (hb hby d12_0) rfl ?_
    refine XS.aloadN X0.here hx rfl (hb hby d12_1) rfl rfl ?_
    show Steps p.tables e below (s₁.setTop (mkF m 2 #[.val (.ref ad), .val (.int (1 : Int32))] [(.ref ad), (.int (1 : Int32))])) _
    obtain ⟨cl95, Ar95, -, S95, N95, -, -⟩ := id Vd
    refine X0.arraylength hx (by rw [e0]; exact Ar95.1) (State.isArrayOf_alike hZ.alike Ar95.2.1) (g := (mkF m 2 #[.val (.ref ad), .val (.int (1 : Int32))] [(.ref ad), (.int (1 : Int32))])) rfl rfl (hb hby d12_2) _ ?_
    rw [len_of S95 N95]
    exact k
  obtain ⟨_, _, ⟨T96, L96, k96, n96⟩, -, X96, ⟨Lc96, hQ96, l96, y96, z96⟩, st96⟩ := Jvm.LawKit.callS X0 hx (y := (⟨"java/lang/String", "checkIndex", "(II)V"⟩ : MethodName)) hown (mvT hZ (own_w hw 67 rfl)) (mvT hZ (own_w hw 68 rfl)) (mvT hZ (own_w hw 2 rfl)) (mvT hZ (own_w hw 69 rfl)) (by decide) (backOf (W := 0) (rm13_1_2 l Z a0 hw [] vF h0 n0 Z0 O4 rF X00) hZ (own_w hw 69 rfl) (own_w hw 2 rfl) (by decide) (by decide)) (g := (mkF m 3 #[.val (.ref ad), .val (.int (1 : Int32))] [(.int (2 : Int32)), (.int (1 : Int32))])) rfl (by rw [hml]; rfl) (argsL := [(.int (1 : Int32)), (.int (2 : Int32))]) (rest := []) (lenOf own_pd6 rfl) rfl (by show 2 * 0 + _ ≤ _; exact Nat.le_of_eq rfl) (hb hby d12_3) (fun _ _ => ⟨rfl, e0, (by decide : 0 + 0 ≤ _), (by decide : 0 + 0 ≤ _)⟩)
  dsimp only [Pt.U, Pt.locs, Pt.cells, Pt.slots] at X96 l96 y96 z96 st96 hQ96
  replace y96 : _ = 0 := y96
  replace z96 : _ = 0 := z96
  subst y96 z96
  obtain ⟨rfl, Nq96, eq96⟩ := hQ96
  have N96 := own_frl l96 N0 Nq96
  refine own_pre (fun t k => st96 t k) ?_
  refine own_pre (A := (T96.setTop (mkF m 14 #[.val (.ref ad), .val (.int (1 : Int32))] [(.int cb)]))) ?_ ?_
  · intro t k
    refine XS.aloadN X96.here hx rfl (hb hby d12_6) rfl rfl ?_
    refine XS.iloadN X96.here hx rfl (hb hby d12_7) rfl ?_
    show Steps p.tables e below (T96.setTop (mkF m 8 #[.val (.ref ad), .val (.int (1 : Int32))] [(.int (1 : Int32)), (.ref ad)])) _
    obtain ⟨cl97, Ar97, q97, S97, N97, H97, G97⟩ := id Vd
    have hin97 : ¬ ((1 : Int32) < 0 ∨ cl97.slots.size ≤ ((1 : Int32)).toNatClampNeg) := inb_of S97 ⟨by decide, by decide⟩
    refine X96.baloadBytes hx (j := (1 : Int32)) (v := (.int cb)) (by rw [eq96]; exact Ar97.1) (State.isArrayOf_alike hZ.alike Ar97.2.1) Ar97.2.2 hin97 (H97.at hin97 rfl) (g := (mkF m 8 #[.val (.ref ad), .val (.int (1 : Int32))] [(.int (1 : Int32)), (.ref ad)])) rfl rfl (hb hby d12_8) _ ?_
    refine XS.sipush X96.here hx rfl (hb hby d12_9) ?_
    refine XS.iand X96.here hx rfl (hb hby d12_12) rfl ?_
    show Steps p.tables e below (T96.setTop (mkF m 13 #[.val (.ref ad), .val (.int (1 : Int32))] [(.int (cb &&& (255 : Int32)))])) _
    rw [own_ch_m cb hp_cb]
    refine XS.i2c X96.here hx rfl (hb hby d12_13) rfl ?_
    show Steps p.tables e below (T96.setTop (mkF m 14 #[.val (.ref ad), .val (.int (1 : Int32))] [(.int (cb.toUInt32.toUInt16.toUInt32.toInt32))])) _
    rw [own_ch_c cb hp_cb]
    exact k
  obtain ⟨fs, hr, hrun, hended, hW, hsame⟩ := X96.leave (hlocks := BodyLoose.notSynchronized Bd) (v := some (.int cb)) (fun h => by rw [Bd.returns] at h; cases h)
  refine ⟨_, _, retOut X96 hx Bd.returns (own_ch_ret cb hp_cb) (Or.inl ⟨rfl, Or.inr (Or.inr (Or.inr (Or.inl rfl))), _, rfl⟩) (hb hby d12_14) hr, hrun, hended, _, _, rfl, ?_, ⟨_, rfl⟩, hW, hsame.mono (by decide) (by decide)⟩
  show own_Q12_1_2 Z ad kd ca cb vF h0 n0 _ T96.heap _
  rw [eq96]
  exact ⟨N96, rfl, rfl⟩
def own_Q10_1_2 (Z : State) (ax : Addr) (ad : Addr) (kd : ClassId) (ca : Int32) (cb : Int32) (pG : Int32) (vF : Value) (h0 : Heap) (n0 : Nat) (v : Option Value) (h : Heap) (L : List Loc) : Prop := Fr n0 L ∧ v = some (.int cb) ∧ h = h0
set_option maxRecDepth 65536 in
set_option maxHeartbeats 40000000 in
theorem rm10_1_2 (l : Launch) (Z : State) (a0 : Array Value) (hw : ∀ d ∈ tables_1, d.before a0 Z = true) (ws : List Jvm.Cond) (ax : Addr) (ad : Addr) (kd : ClassId) (ca : Int32) (cb : Int32) (pG : Int32) (vF : Value) (h0 : Heap) (n0 : Nat) (Z0 : n0 ≤ h0.size) (Ea : Exa Z h0 ax "java/lang/String") (Fv : Fld Z h0 ax "java/lang/String" "value" "[B" (.ref ad)) (Fc : Fld Z h0 ax "java/lang/String" "coder" "B" (.int (0 : Int32))) (Vd : Arv Z h0 ad kd .byte (2 : Int32) [(.int ca), (.int cb)] (.int (0 : Int32))) (hp_ca : 0 ≤ ca.toInt ∧ ca.toInt < 128) (hp_cb : 0 ≤ cb.toInt ∧ cb.toInt < 128) (O2 : Sta Z Z.heap "java/lang/String" "COMPACT_STRINGS" "Z" (.int pG)) (hG : ¬ pG = (0 : Int32)) (X00 : Old Z n0 h0) (O4 : Sta Z Z.heap "jdk/internal/util/Preconditions" "SIOOBE_FORMATTER" "Ljava/util/function/BiFunction;" vF) (rF : vF.isRef = true) :
    MetFree l (⟨"java/lang/String", "charAt", "(I)C"⟩ : MethodName) (head1 (Jvm.Cond.code (⟨"java/lang/String", "charAt", "(I)C"⟩ : MethodName) jdk_42_method_56_code 2 (some .char) :: ws) ({ frames := 3, cells := 0, slots := 0, locals := 40 } : Room)) (fun a U => a = #[(.ref ax), (.int (1 : Int32))] ∧ Z.Warmed39 U.vm ∧ U.heap = h0) (fun _ _ _ _ _ => True) (fun _ U o U' => ∃ v L, o = .returned v ∧ own_Q10_1_2 Z ax ad kd ca cb pG vF h0 n0 v U'.heap L ∧ FrameEnd U o U' L ({ frames := 3, cells := 0, slots := 0, locals := 40 } : Room).cells ({ frames := 3, cells := 0, slots := 0, locals := 40 } : Room).slots) := by
  refine MetFree.of_bodySF (plainFor_of_name own_pn10) hisR ?_
  intro p e s m args below meth c s₁ Bd hml0 hP hK
  obtain ⟨rfl, hZ, hh⟩ := hP
  have hx := Bd.exec
  have hby := Bd.bytes
  have hml : c.maxLocals = 2 := hml0
  have hown : s.vm.findClass "java/lang/String" = some m.cls := findClass_of_methodNamed Bd.named
  have hnm := (name_of_methodNamed Bd.named Bd.method).1
  have X0 : Stand p l e ({ frames := 3, cells := 0, slots := 0, locals := 40 } : Room) s m #[(.ref ax), (.int (1 : Int32))] below meth c s₁ [] 0 0 := Stand.of_body Bd
  have e0 : s₁.heap = h0 := by rw [← hh, Bd.state]; rfl
  have N0 := Fr.nil n0
  refine own_pre (A := (s₁.setTop (mkF m 0 #[.val (.ref ax), .val (.int (1 : Int32))] []))) (fun t k => castTop (own_ef10 m ax (1 : Int32)) k) ?_
  refine own_pre (A := (s₁.setTop (mkF m 1 #[.val (.ref ax), .val (.int (1 : Int32))] [(.ref ax)]))) ?_ ?_
  · intro t k
    refine XS.aloadN X0.here hx rfl (hb hby d10_0) rfl rfl ?_
    exact k
  obtain ⟨cq98, kq98, q98a, q98b, q98c⟩ := isOf hZ e0 Ea
  obtain ⟨_, _, ⟨T98, L98, k98, n98⟩, -, X98, ⟨Lc98, hQ98, l98, y98, z98⟩, st98⟩ := X0.virtualBack hx (y := (⟨"java/lang/String", "isLatin1", "()Z"⟩ : MethodName)) (z := (⟨"java/lang/String", "isLatin1", "()Z"⟩ : MethodName)) hown (mvT hZ (own_w hw 58 rfl)) (mvT hZ (own_w hw 59 rfl)) (notFace_of_selects (args := #[]) (mvT hZ (own_w hw 61 rfl))) (mvT hZ (own_w hw 61 rfl)) (mvT hZ (own_w hw 60 rfl)) (by decide) (backOf (W := 0) (rm11 l Z a0 hw [] ax pG h0 n0 Z0 Fc O2 hG X00) hZ (own_w hw 62 rfl) (own_w hw 2 rfl) (by decide) (by decide)) q98a q98c (g := (mkF m 1 #[.val (.ref ax), .val (.int (1 : Int32))] [(.ref ax)])) rfl (by rw [hml]; rfl) (Steps.refl _) (argsL := []) (rest := []) (lenOf own_pd7 rfl) rfl (by show 2 * 0 + _ ≤ _; exact Nat.le_of_eq rfl) (hb hby d10_1) (fun _ _ => ⟨rfl, e0, (by decide : 0 + 0 ≤ _), (by decide : 0 + 0 ≤ _)⟩)
  dsimp only [Pt.U, Pt.locs, Pt.cells, Pt.slots] at X98 l98 y98 z98 st98 hQ98
  replace y98 : _ = 0 := y98
  replace z98 : _ = 0 := z98
  subst y98 z98
  obtain ⟨Nq98, rfl, eq98⟩ := hQ98
  have N98 := own_frl l98 N0 Nq98
  refine own_pre (fun t k => st98.trans k) ?_
  refine own_pre (A := (T98.setTop (mkF m 8 #[.val (.ref ax), .val (.int (1 : Int32))] [(.ref ax)]))) ?_ ?_
  · intro t k
    refine XS.ifNo X98.here hx rfl (hb hby d10_4) rfl ((if0 _ _).trans (feq (by decide : ¬ ((1 : Int32) = (0 : Int32)))).1) ?_
    refine XS.aloadN X98.here hx rfl (hb hby d10_7) rfl rfl ?_
    exact k
  obtain ⟨T99, X99, e99, st99⟩ := getF X98 hx hZ hown (host := "") (Or.inl (own_w hw 28 rfl)) Via.refl eq98 Fv (g := (mkF m 8 #[.val (.ref ax), .val (.int (1 : Int32))] [(.ref ax)])) rfl rfl (hb hby d10_8)
  refine own_pre (fun t k => st99 t k) ?_
  refine own_pre (A := (T99.setTop (mkF m 12 #[.val (.ref ax), .val (.int (1 : Int32))] [(.int (1 : Int32)), (.ref ad)]))) ?_ ?_
  · intro t k
    refine XS.iloadN X99.here hx rfl (hb hby d10_11) rfl ?_
    exact k
  obtain ⟨_, _, ⟨T100, L100, k100, n100⟩, -, X100, ⟨Lc100, hQ100, l100, y100, z100⟩, st100⟩ := Jvm.LawKit.callS X99 hx (y := (⟨"java/lang/StringLatin1", "charAt", "([BI)C"⟩ : MethodName)) hown (mvT hZ (own_w hw 63 rfl)) (mvT hZ (own_w hw 64 rfl)) (mvT hZ (own_w hw 65 rfl)) (mvT hZ (own_w hw 66 rfl)) (by decide) (backOf (W := 0) (rm12_1_2 l Z a0 hw [] ad kd ca cb vF h0 n0 Z0 Vd hp_ca hp_cb O4 rF X00) hZ (own_w hw 66 rfl) (own_w hw 65 rfl) (by decide) (by decide)) (g := (mkF m 12 #[.val (.ref ax), .val (.int (1 : Int32))] [(.int (1 : Int32)), (.ref ad)])) rfl (by rw [hml]; rfl) (argsL := [(.ref ad), (.int (1 : Int32))]) (rest := []) (lenOf own_pd8 rfl) rfl (by show 2 * 0 + _ ≤ _; exact Nat.le_of_eq rfl) (hb hby d10_12) (fun _ _ => ⟨rfl, e99, (by decide : 0 + 0 ≤ _), (by decide : 0 + 0 ≤ _)⟩)
  dsimp only [Pt.U, Pt.locs, Pt.cells, Pt.slots] at X100 l100 y100 z100 st100 hQ100
  replace y100 : _ = 0 := y100
  replace z100 : _ = 0 := z100
  subst y100 z100
  obtain ⟨Nq100, rfl, eq100⟩ := hQ100
  have N100 := own_frl l100 N98 Nq100
  refine own_pre (fun t k => st100 t k) ?_
  obtain ⟨fs, hr, hrun, hended, hW, hsame⟩ := X100.leave (hlocks := BodyLoose.notSynchronized Bd) (v := some (.int cb)) (fun h => by rw [Bd.returns] at h; cases h)
  refine ⟨_, _, retOut X100 hx Bd.returns (own_ch_ret cb hp_cb) (Or.inl ⟨rfl, Or.inr (Or.inr (Or.inr (Or.inl rfl))), _, rfl⟩) (hb hby d10_15) hr, hrun, hended, _, _, rfl, ?_, ⟨_, rfl⟩, hW, hsame.mono (by decide) (by decide)⟩
  show own_Q10_1_2 Z ax ad kd ca cb pG vF h0 n0 _ T100.heap _
  rw [eq100]
  exact ⟨N100, rfl, rfl⟩
def own_Q14_0_3n (Z : State)  (h0 : Heap) (n0 : Nat) (v : Option Value) (h : Heap) (L : List Loc) : Prop := Fr n0 L ∧ v = some (.int (0 : Int32)) ∧ h = h0
set_option maxRecDepth 65536 in
set_option maxHeartbeats 40000000 in
theorem rm14_0_3n (l : Launch) (Z : State) (a0 : Array Value) (hw : ∀ d ∈ tables_1, d.before a0 Z = true) (ws : List Jvm.Cond)  (h0 : Heap) (n0 : Nat) (Z0 : n0 ≤ h0.size) :
    MetFree l (⟨"jdk/internal/util/Preconditions", "checkIndex", "(IILjava/util/function/BiFunction;)I"⟩ : MethodName) (head1 (Jvm.Cond.code (⟨"jdk/internal/util/Preconditions", "checkIndex", "(IILjava/util/function/BiFunction;)I"⟩ : MethodName) jdk_41_method_11_code 3 (some .int) :: ws) ({ frames := 0, cells := 0, slots := 0, locals := 0 } : Room)) (fun a U => a = #[(.int (0 : Int32)), (.int (3 : Int32)), .null] ∧ Z.Warmed39 U.vm ∧ U.heap = h0) (fun _ _ _ _ _ => True) (fun _ U o U' => ∃ v L, o = .returned v ∧ own_Q14_0_3n Z  h0 n0 v U'.heap L ∧ FrameEnd U o U' L ({ frames := 0, cells := 0, slots := 0, locals := 0 } : Room).cells ({ frames := 0, cells := 0, slots := 0, locals := 0 } : Room).slots) := by
  refine MetFree.of_bodySF (plainFor_of_name own_pn14) hisR ?_
  intro p e s m args below meth c s₁ Bd hml0 hP hK
  obtain ⟨rfl, hZ, hh⟩ := hP
  have hx := Bd.exec
  have hby := Bd.bytes
  have hml : c.maxLocals = 3 := hml0
  have hown : s.vm.findClass "jdk/internal/util/Preconditions" = some m.cls := findClass_of_methodNamed Bd.named
  have hnm := (name_of_methodNamed Bd.named Bd.method).1
  have X0 : Stand p l e ({ frames := 0, cells := 0, slots := 0, locals := 0 } : Room) s m #[(.int (0 : Int32)), (.int (3 : Int32)), .null] below meth c s₁ [] 0 0 := Stand.of_body Bd
  have e0 : s₁.heap = h0 := by rw [← hh, Bd.state]; rfl
  have N0 := Fr.nil n0
  refine own_pre (A := (s₁.setTop (mkF m 0 #[.val (.int (0 : Int32)), .val (.int (3 : Int32)), .val .null] []))) (fun t k => castTop (own_ef14n m (0 : Int32) (3 : Int32)) k) ?_
  refine own_pre (A := (s₁.setTop (mkF m 17 #[.val (.int (0 : Int32)), .val (.int (3 : Int32)), .val .null] [(.int (0 : Int32))]))) ?_ ?_
  · intro t k
    refine XS.iloadN X0.here hx rfl (hb hby d14_0) rfl ?_
    refine XS.ifNo X0.here hx rfl (hb hby d14_1) rfl ((if0 _ _).trans (flt (by decide : ¬ ((0 : Int32) < (0 : Int32)))).1) ?_
    refine XS.iloadN X0.here hx rfl (hb hby d14_4) rfl ?_
    refine XS.iloadN X0.here hx rfl (hb hby d14_5) rfl ?_
    refine XS.icmpYes X0.here hx rfl (pc0 := 6) (pc' := 16) rfl (hb hby d14_6) rfl (tlt (by decide : (0 : Int32) < (3 : Int32))).1 (by decide) (by decide) ?_
    refine XS.iloadN X0.here hx rfl (hb hby d14_16) rfl ?_
    exact k
  obtain ⟨fs, hr, hrun, hended, hW, hsame⟩ := X0.leave (hlocks := BodyLoose.notSynchronized Bd) (v := some (.int (0 : Int32))) (fun h => by rw [Bd.returns] at h; cases h)
  refine ⟨_, _, retOut X0 hx Bd.returns rfl (Or.inl ⟨rfl, Or.inl rfl, _, rfl⟩) (hb hby d14_17) hr, hrun, hended, _, _, rfl, ?_, ⟨_, rfl⟩, hW, hsame.mono (by decide) (by decide)⟩
  show own_Q14_0_3n Z  h0 n0 _ s₁.heap _
  rw [e0]
  exact ⟨N0, rfl, rfl⟩
def own_Q14_0_3r (Z : State) (af : Addr) (h0 : Heap) (n0 : Nat) (v : Option Value) (h : Heap) (L : List Loc) : Prop := Fr n0 L ∧ v = some (.int (0 : Int32)) ∧ h = h0
set_option maxRecDepth 65536 in
set_option maxHeartbeats 40000000 in
theorem rm14_0_3r (l : Launch) (Z : State) (a0 : Array Value) (hw : ∀ d ∈ tables_1, d.before a0 Z = true) (ws : List Jvm.Cond) (af : Addr) (h0 : Heap) (n0 : Nat) (Z0 : n0 ≤ h0.size) :
    MetFree l (⟨"jdk/internal/util/Preconditions", "checkIndex", "(IILjava/util/function/BiFunction;)I"⟩ : MethodName) (head1 (Jvm.Cond.code (⟨"jdk/internal/util/Preconditions", "checkIndex", "(IILjava/util/function/BiFunction;)I"⟩ : MethodName) jdk_41_method_11_code 3 (some .int) :: ws) ({ frames := 0, cells := 0, slots := 0, locals := 0 } : Room)) (fun a U => a = #[(.int (0 : Int32)), (.int (3 : Int32)), (.ref af)] ∧ Z.Warmed39 U.vm ∧ U.heap = h0) (fun _ _ _ _ _ => True) (fun _ U o U' => ∃ v L, o = .returned v ∧ own_Q14_0_3r Z af h0 n0 v U'.heap L ∧ FrameEnd U o U' L ({ frames := 0, cells := 0, slots := 0, locals := 0 } : Room).cells ({ frames := 0, cells := 0, slots := 0, locals := 0 } : Room).slots) := by
  refine MetFree.of_bodySF (plainFor_of_name own_pn14) hisR ?_
  intro p e s m args below meth c s₁ Bd hml0 hP hK
  obtain ⟨rfl, hZ, hh⟩ := hP
  have hx := Bd.exec
  have hby := Bd.bytes
  have hml : c.maxLocals = 3 := hml0
  have hown : s.vm.findClass "jdk/internal/util/Preconditions" = some m.cls := findClass_of_methodNamed Bd.named
  have hnm := (name_of_methodNamed Bd.named Bd.method).1
  have X0 : Stand p l e ({ frames := 0, cells := 0, slots := 0, locals := 0 } : Room) s m #[(.int (0 : Int32)), (.int (3 : Int32)), (.ref af)] below meth c s₁ [] 0 0 := Stand.of_body Bd
  have e0 : s₁.heap = h0 := by rw [← hh, Bd.state]; rfl
  have N0 := Fr.nil n0
  refine own_pre (A := (s₁.setTop (mkF m 0 #[.val (.int (0 : Int32)), .val (.int (3 : Int32)), .val (.ref af)] []))) (fun t k => castTop (own_ef14 m (0 : Int32) (3 : Int32) af) k) ?_
  refine own_pre (A := (s₁.setTop (mkF m 17 #[.val (.int (0 : Int32)), .val (.int (3 : Int32)), .val (.ref af)] [(.int (0 : Int32))]))) ?_ ?_
  · intro t k
    refine XS.iloadN X0.here hx rfl (hb hby d14_0) rfl ?_
    refine XS.ifNo X0.here hx rfl (hb hby d14_1) rfl ((if0 _ _).trans (flt (by decide : ¬ ((0 : Int32) < (0 : Int32)))).1) ?_
    refine XS.iloadN X0.here hx rfl (hb hby d14_4) rfl ?_
    refine XS.iloadN X0.here hx rfl (hb hby d14_5) rfl ?_
    refine XS.icmpYes X0.here hx rfl (pc0 := 6) (pc' := 16) rfl (hb hby d14_6) rfl (tlt (by decide : (0 : Int32) < (3 : Int32))).1 (by decide) (by decide) ?_
    refine XS.iloadN X0.here hx rfl (hb hby d14_16) rfl ?_
    exact k
  obtain ⟨fs, hr, hrun, hended, hW, hsame⟩ := X0.leave (hlocks := BodyLoose.notSynchronized Bd) (v := some (.int (0 : Int32))) (fun h => by rw [Bd.returns] at h; cases h)
  refine ⟨_, _, retOut X0 hx Bd.returns rfl (Or.inl ⟨rfl, Or.inl rfl, _, rfl⟩) (hb hby d14_17) hr, hrun, hended, _, _, rfl, ?_, ⟨_, rfl⟩, hW, hsame.mono (by decide) (by decide)⟩
  show own_Q14_0_3r Z af h0 n0 _ s₁.heap _
  rw [e0]
  exact ⟨N0, rfl, rfl⟩
def own_Q13_0_3 (Z : State) (vF : Value) (h0 : Heap) (n0 : Nat) (v : Option Value) (h : Heap) (L : List Loc) : Prop := v = none ∧ Fr n0 L ∧ h = h0
set_option maxRecDepth 65536 in
set_option maxHeartbeats 40000000 in
theorem rm13_0_3 (l : Launch) (Z : State) (a0 : Array Value) (hw : ∀ d ∈ tables_1, d.before a0 Z = true) (ws : List Jvm.Cond) (vF : Value) (h0 : Heap) (n0 : Nat) (Z0 : n0 ≤ h0.size) (O4 : Sta Z Z.heap "jdk/internal/util/Preconditions" "SIOOBE_FORMATTER" "Ljava/util/function/BiFunction;" vF) (rF : vF.isRef = true) (X00 : Old Z n0 h0) :
    MetFree l (⟨"java/lang/String", "checkIndex", "(II)V"⟩ : MethodName) (head1 (Jvm.Cond.code (⟨"java/lang/String", "checkIndex", "(II)V"⟩ : MethodName) jdk_42_method_155_code 2 none :: ws) ({ frames := 1, cells := 0, slots := 0, locals := 14 } : Room)) (fun a U => a = #[(.int (0 : Int32)), (.int (3 : Int32))] ∧ Z.Warmed39 U.vm ∧ U.heap = h0) (fun _ _ _ _ _ => True) (fun _ U o U' => ∃ v L, o = .returned v ∧ own_Q13_0_3 Z vF h0 n0 v U'.heap L ∧ FrameEnd U o U' L ({ frames := 1, cells := 0, slots := 0, locals := 14 } : Room).cells ({ frames := 1, cells := 0, slots := 0, locals := 14 } : Room).slots) := by
  refine MetFree.of_bodySF (plainFor_of_name own_pn13) hisR ?_
  intro p e s m args below meth c s₁ Bd hml0 hP hK
  obtain ⟨rfl, hZ, hh⟩ := hP
  have hx := Bd.exec
  have hby := Bd.bytes
  have hml : c.maxLocals = 2 := hml0
  have hown : s.vm.findClass "java/lang/String" = some m.cls := findClass_of_methodNamed Bd.named
  have hnm := (name_of_methodNamed Bd.named Bd.method).1
  have X0 : Stand p l e ({ frames := 1, cells := 0, slots := 0, locals := 14 } : Room) s m #[(.int (0 : Int32)), (.int (3 : Int32))] below meth c s₁ [] 0 0 := Stand.of_body Bd
  have e0 : s₁.heap = h0 := by rw [← hh, Bd.state]; rfl
  have N0 := Fr.nil n0
  refine own_pre (A := (s₁.setTop (mkF m 0 #[.val (.int (0 : Int32)), .val (.int (3 : Int32))] []))) (fun t k => castTop (own_ef13 m (0 : Int32) (3 : Int32)) k) ?_
  rcases ref_cases rF with rfl | ⟨af, rfl⟩
  · skip
    refine own_pre (A := (s₁.setTop (mkF m 2 #[.val (.int (0 : Int32)), .val (.int (3 : Int32))] [(.int (3 : Int32)), (.int (0 : Int32))]))) ?_ ?_
    · intro t k
      refine XS.iloadN X0.here hx rfl (hb hby d13_0) rfl ?_
      refine XS.iloadN X0.here hx rfl (hb hby d13_1) rfl ?_
      exact k
    obtain ⟨T101, X101, e101, st101⟩ := getS2 X0 hx hZ hown (host := "") (Or.inl (own_w hw 70 rfl)) Via.refl e0 (O4.ext X00.2) (g := (mkF m 2 #[.val (.int (0 : Int32)), .val (.int (3 : Int32))] [(.int (3 : Int32)), (.int (0 : Int32))])) rfl (hb hby d13_2)
    refine own_pre (fun t k => st101 t k) ?_
    obtain ⟨_, _, ⟨T102, L102, k102, n102⟩, -, X102, ⟨Lc102, hQ102, l102, y102, z102⟩, st102⟩ := Jvm.LawKit.callS X101 hx (y := (⟨"jdk/internal/util/Preconditions", "checkIndex", "(IILjava/util/function/BiFunction;)I"⟩ : MethodName)) hown (mvT hZ (own_w hw 72 rfl)) (mvT hZ (own_w hw 73 rfl)) (mvT hZ (own_w hw 71 rfl)) (mvT hZ (own_w hw 74 rfl)) (by decide) (backOf (W := 0) (rm14_0_3n l Z a0 hw []  h0 n0 Z0 ) hZ (own_w hw 74 rfl) (own_w hw 71 rfl) (by decide) (by decide)) (g := (mkF m 5 #[.val (.int (0 : Int32)), .val (.int (3 : Int32))] [.null, (.int (3 : Int32)), (.int (0 : Int32))])) rfl (by rw [hml]; rfl) (argsL := [(.int (0 : Int32)), (.int (3 : Int32)), .null]) (rest := []) (lenOf own_pd5 rfl) rfl (by show 2 * 0 + _ ≤ _; exact Nat.le_of_eq rfl) (hb hby d13_5) (fun _ _ => ⟨rfl, e101, (by decide : 0 + 0 ≤ _), (by decide : 0 + 0 ≤ _)⟩)
    dsimp only [Pt.U, Pt.locs, Pt.cells, Pt.slots] at X102 l102 y102 z102 st102 hQ102
    replace y102 : _ = 0 := y102
    replace z102 : _ = 0 := z102
    subst y102 z102
    obtain ⟨Nq102, rfl, eq102⟩ := hQ102
    have N102 := own_frl l102 N0 Nq102
    refine own_pre (fun t k => st102 t k) ?_
    refine own_pre (A := (T102.setTop (mkF m 9 #[.val (.int (0 : Int32)), .val (.int (3 : Int32))] []))) ?_ ?_
    · intro t k
      refine XS.pop X102.here hx rfl (hb hby d13_8) rfl rfl ?_
      exact k
    obtain ⟨fs, hr, hrun, hended, hW, hsame⟩ := X102.leave (hlocks := BodyLoose.notSynchronized Bd) (v := none) (fun _ => rfl)
    refine ⟨_, _, X102.returnOut hx Bd.returns (hb hby d13_9) hr, hrun, hended, _, _, rfl, ?_, ⟨_, rfl⟩, hW, hsame.mono (by decide) (by decide)⟩
    show own_Q13_0_3 Z .null h0 n0 _ T102.heap _
    rw [eq102]
    exact ⟨rfl, N102, rfl⟩
  · skip
    refine own_pre (A := (s₁.setTop (mkF m 2 #[.val (.int (0 : Int32)), .val (.int (3 : Int32))] [(.int (3 : Int32)), (.int (0 : Int32))]))) ?_ ?_
    · intro t k
      refine XS.iloadN X0.here hx rfl (hb hby d13_0) rfl ?_
      refine XS.iloadN X0.here hx rfl (hb hby d13_1) rfl ?_
      exact k
    obtain ⟨T103, X103, e103, st103⟩ := getS2 X0 hx hZ hown (host := "") (Or.inl (own_w hw 70 rfl)) Via.refl e0 (O4.ext X00.2) (g := (mkF m 2 #[.val (.int (0 : Int32)), .val (.int (3 : Int32))] [(.int (3 : Int32)), (.int (0 : Int32))])) rfl (hb hby d13_2)
    refine own_pre (fun t k => st103 t k) ?_
    obtain ⟨_, _, ⟨T104, L104, k104, n104⟩, -, X104, ⟨Lc104, hQ104, l104, y104, z104⟩, st104⟩ := Jvm.LawKit.callS X103 hx (y := (⟨"jdk/internal/util/Preconditions", "checkIndex", "(IILjava/util/function/BiFunction;)I"⟩ : MethodName)) hown (mvT hZ (own_w hw 72 rfl)) (mvT hZ (own_w hw 73 rfl)) (mvT hZ (own_w hw 71 rfl)) (mvT hZ (own_w hw 74 rfl)) (by decide) (backOf (W := 0) (rm14_0_3r l Z a0 hw [] af h0 n0 Z0 ) hZ (own_w hw 74 rfl) (own_w hw 71 rfl) (by decide) (by decide)) (g := (mkF m 5 #[.val (.int (0 : Int32)), .val (.int (3 : Int32))] [(.ref af), (.int (3 : Int32)), (.int (0 : Int32))])) rfl (by rw [hml]; rfl) (argsL := [(.int (0 : Int32)), (.int (3 : Int32)), (.ref af)]) (rest := []) (lenOf own_pd5 rfl) rfl (by show 2 * 0 + _ ≤ _; exact Nat.le_of_eq rfl) (hb hby d13_5) (fun _ _ => ⟨rfl, e103, (by decide : 0 + 0 ≤ _), (by decide : 0 + 0 ≤ _)⟩)
    dsimp only [Pt.U, Pt.locs, Pt.cells, Pt.slots] at X104 l104 y104 z104 st104 hQ104
    replace y104 : _ = 0 := y104
    replace z104 : _ = 0 := z104
    subst y104 z104
    obtain ⟨Nq104, rfl, eq104⟩ := hQ104
    have N104 := own_frl l104 N0 Nq104
    refine own_pre (fun t k => st104 t k) ?_
    refine own_pre (A := (T104.setTop (mkF m 9 #[.val (.int (0 : Int32)), .val (.int (3 : Int32))] []))) ?_ ?_
    · intro t k
      refine XS.pop X104.here hx rfl (hb hby d13_8) rfl rfl ?_
      exact k
    obtain ⟨fs, hr, hrun, hended, hW, hsame⟩ := X104.leave (hlocks := BodyLoose.notSynchronized Bd) (v := none) (fun _ => rfl)
    refine ⟨_, _, X104.returnOut hx Bd.returns (hb hby d13_9) hr, hrun, hended, _, _, rfl, ?_, ⟨_, rfl⟩, hW, hsame.mono (by decide) (by decide)⟩
    show own_Q13_0_3 Z (.ref af) h0 n0 _ T104.heap _
    rw [eq104]
    exact ⟨rfl, N104, rfl⟩
def own_Q12_0_3 (Z : State) (ad : Addr) (kd : ClassId) (ca : Int32) (cb : Int32) (cd : Int32) (vF : Value) (h0 : Heap) (n0 : Nat) (v : Option Value) (h : Heap) (L : List Loc) : Prop := Fr n0 L ∧ v = some (.int ca) ∧ h = h0
set_option maxRecDepth 65536 in
set_option maxHeartbeats 40000000 in
theorem rm12_0_3 (l : Launch) (Z : State) (a0 : Array Value) (hw : ∀ d ∈ tables_1, d.before a0 Z = true) (ws : List Jvm.Cond) (ad : Addr) (kd : ClassId) (ca : Int32) (cb : Int32) (cd : Int32) (vF : Value) (h0 : Heap) (n0 : Nat) (Z0 : n0 ≤ h0.size) (Vd : Arv Z h0 ad kd .byte (3 : Int32) [(.int ca), (.int cb), (.int cd)] (.int (0 : Int32))) (hp_ca : 0 ≤ ca.toInt ∧ ca.toInt < 128) (hp_cb : 0 ≤ cb.toInt ∧ cb.toInt < 128) (hp_cd : 0 ≤ cd.toInt ∧ cd.toInt < 128) (O4 : Sta Z Z.heap "jdk/internal/util/Preconditions" "SIOOBE_FORMATTER" "Ljava/util/function/BiFunction;" vF) (rF : vF.isRef = true) (X00 : Old Z n0 h0) :
    MetFree l (⟨"java/lang/StringLatin1", "charAt", "([BI)C"⟩ : MethodName) (head1 (Jvm.Cond.code (⟨"java/lang/StringLatin1", "charAt", "([BI)C"⟩ : MethodName) jdk_43_method_2_code 2 (some .char) :: ws) ({ frames := 2, cells := 0, slots := 0, locals := 27 } : Room)) (fun a U => a = #[(.ref ad), (.int (0 : Int32))] ∧ Z.Warmed39 U.vm ∧ U.heap = h0) (fun _ _ _ _ _ => True) (fun _ U o U' => ∃ v L, o = .returned v ∧ own_Q12_0_3 Z ad kd ca cb cd vF h0 n0 v U'.heap L ∧ FrameEnd U o U' L ({ frames := 2, cells := 0, slots := 0, locals := 27 } : Room).cells ({ frames := 2, cells := 0, slots := 0, locals := 27 } : Room).slots) := by
  refine MetFree.of_bodySF (plainFor_of_name own_pn12) hisR ?_
  intro p e s m args below meth c s₁ Bd hml0 hP hK
  obtain ⟨rfl, hZ, hh⟩ := hP
  have hx := Bd.exec
  have hby := Bd.bytes
  have hml : c.maxLocals = 2 := hml0
  have hown : s.vm.findClass "java/lang/StringLatin1" = some m.cls := findClass_of_methodNamed Bd.named
  have hnm := (name_of_methodNamed Bd.named Bd.method).1
  have X0 : Stand p l e ({ frames := 2, cells := 0, slots := 0, locals := 27 } : Room) s m #[(.ref ad), (.int (0 : Int32))] below meth c s₁ [] 0 0 := Stand.of_body Bd
  have e0 : s₁.heap = h0 := by rw [← hh, Bd.state]; rfl
  have N0 := Fr.nil n0
  refine own_pre (A := (s₁.setTop (mkF m 0 #[.val (.ref ad), .val (.int (0 : Int32))] []))) (fun t k => castTop (own_ef12 m ad (0 : Int32)) k) ?_
  refine own_pre (A := (s₁.setTop (mkF m 3 #[.val (.ref ad), .val (.int (0 : Int32))] [(.int (3 : Int32)), (.int (0 : Int32))]))) ?_ ?_
  · intro t k
    refine XS.iloadN X0.here hx rfl (hb hby d12_0) rfl ?_
    refine XS.aloadN X0.here hx rfl (hb hby d12_1) rfl rfl ?_
    show Steps p.tables e below (s₁.setTop (mkF m 2 #[.val (.ref ad), .val (.int (0 : Int32))] [(.ref ad), (.int (0 : Int32))])) _
    obtain ⟨cl105, Ar105, -, S105, N105, -, -⟩ := id Vd
    refine X0.arraylength hx (by rw [e0]; exact Ar105.1) (State.isArrayOf_alike hZ.alike Ar105.2.1) (g := (mkF m 2 #[.val (.ref ad), .val (.int (0 : Int32))] [(.ref ad), (.int (0 : Int32))])) rfl rfl (hb hby d12_2) _ ?_
    rw [len_of S105 N105]
    exact k
  obtain ⟨_, _, ⟨T106, L106, k106, n106⟩, -, X106, ⟨Lc106, hQ106, l106, y106, z106⟩, st106⟩ := Jvm.LawKit.callS X0 hx (y := (⟨"java/lang/String", "checkIndex", "(II)V"⟩ : MethodName)) hown (mvT hZ (own_w hw 67 rfl)) (mvT hZ (own_w hw 68 rfl)) (mvT hZ (own_w hw 2 rfl)) (mvT hZ (own_w hw 69 rfl)) (by decide) (backOf (W := 0) (rm13_0_3 l Z a0 hw [] vF h0 n0 Z0 O4 rF X00) hZ (own_w hw 69 rfl) (own_w hw 2 rfl) (by decide) (by decide)) (g := (mkF m 3 #[.val (.ref ad), .val (.int (0 : Int32))] [(.int (3 : Int32)), (.int (0 : Int32))])) rfl (by rw [hml]; rfl) (argsL := [(.int (0 : Int32)), (.int (3 : Int32))]) (rest := []) (lenOf own_pd6 rfl) rfl (by show 2 * 0 + _ ≤ _; exact Nat.le_of_eq rfl) (hb hby d12_3) (fun _ _ => ⟨rfl, e0, (by decide : 0 + 0 ≤ _), (by decide : 0 + 0 ≤ _)⟩)
  dsimp only [Pt.U, Pt.locs, Pt.cells, Pt.slots] at X106 l106 y106 z106 st106 hQ106
  replace y106 : _ = 0 := y106
  replace z106 : _ = 0 := z106
  subst y106 z106
  obtain ⟨rfl, Nq106, eq106⟩ := hQ106
  have N106 := own_frl l106 N0 Nq106
  refine own_pre (fun t k => st106 t k) ?_
  refine own_pre (A := (T106.setTop (mkF m 14 #[.val (.ref ad), .val (.int (0 : Int32))] [(.int ca)]))) ?_ ?_
  · intro t k
    refine XS.aloadN X106.here hx rfl (hb hby d12_6) rfl rfl ?_
    refine XS.iloadN X106.here hx rfl (hb hby d12_7) rfl ?_
    show Steps p.tables e below (T106.setTop (mkF m 8 #[.val (.ref ad), .val (.int (0 : Int32))] [(.int (0 : Int32)), (.ref ad)])) _
    obtain ⟨cl107, Ar107, q107, S107, N107, H107, G107⟩ := id Vd
    have hin107 : ¬ ((0 : Int32) < 0 ∨ cl107.slots.size ≤ ((0 : Int32)).toNatClampNeg) := inb_of S107 ⟨by decide, by decide⟩
    refine X106.baloadBytes hx (j := (0 : Int32)) (v := (.int ca)) (by rw [eq106]; exact Ar107.1) (State.isArrayOf_alike hZ.alike Ar107.2.1) Ar107.2.2 hin107 (H107.at hin107 rfl) (g := (mkF m 8 #[.val (.ref ad), .val (.int (0 : Int32))] [(.int (0 : Int32)), (.ref ad)])) rfl rfl (hb hby d12_8) _ ?_
    refine XS.sipush X106.here hx rfl (hb hby d12_9) ?_
    refine XS.iand X106.here hx rfl (hb hby d12_12) rfl ?_
    show Steps p.tables e below (T106.setTop (mkF m 13 #[.val (.ref ad), .val (.int (0 : Int32))] [(.int (ca &&& (255 : Int32)))])) _
    rw [own_ch_m ca hp_ca]
    refine XS.i2c X106.here hx rfl (hb hby d12_13) rfl ?_
    show Steps p.tables e below (T106.setTop (mkF m 14 #[.val (.ref ad), .val (.int (0 : Int32))] [(.int (ca.toUInt32.toUInt16.toUInt32.toInt32))])) _
    rw [own_ch_c ca hp_ca]
    exact k
  obtain ⟨fs, hr, hrun, hended, hW, hsame⟩ := X106.leave (hlocks := BodyLoose.notSynchronized Bd) (v := some (.int ca)) (fun h => by rw [Bd.returns] at h; cases h)
  refine ⟨_, _, retOut X106 hx Bd.returns (own_ch_ret ca hp_ca) (Or.inl ⟨rfl, Or.inr (Or.inr (Or.inr (Or.inl rfl))), _, rfl⟩) (hb hby d12_14) hr, hrun, hended, _, _, rfl, ?_, ⟨_, rfl⟩, hW, hsame.mono (by decide) (by decide)⟩
  show own_Q12_0_3 Z ad kd ca cb cd vF h0 n0 _ T106.heap _
  rw [eq106]
  exact ⟨N106, rfl, rfl⟩
def own_Q10_0_3 (Z : State) (ax : Addr) (ad : Addr) (kd : ClassId) (ca : Int32) (cb : Int32) (cd : Int32) (pG : Int32) (vF : Value) (h0 : Heap) (n0 : Nat) (v : Option Value) (h : Heap) (L : List Loc) : Prop := Fr n0 L ∧ v = some (.int ca) ∧ h = h0
set_option maxRecDepth 65536 in
set_option maxHeartbeats 40000000 in
theorem rm10_0_3 (l : Launch) (Z : State) (a0 : Array Value) (hw : ∀ d ∈ tables_1, d.before a0 Z = true) (ws : List Jvm.Cond) (ax : Addr) (ad : Addr) (kd : ClassId) (ca : Int32) (cb : Int32) (cd : Int32) (pG : Int32) (vF : Value) (h0 : Heap) (n0 : Nat) (Z0 : n0 ≤ h0.size) (Ea : Exa Z h0 ax "java/lang/String") (Fv : Fld Z h0 ax "java/lang/String" "value" "[B" (.ref ad)) (Fc : Fld Z h0 ax "java/lang/String" "coder" "B" (.int (0 : Int32))) (Vd : Arv Z h0 ad kd .byte (3 : Int32) [(.int ca), (.int cb), (.int cd)] (.int (0 : Int32))) (hp_ca : 0 ≤ ca.toInt ∧ ca.toInt < 128) (hp_cb : 0 ≤ cb.toInt ∧ cb.toInt < 128) (hp_cd : 0 ≤ cd.toInt ∧ cd.toInt < 128) (O2 : Sta Z Z.heap "java/lang/String" "COMPACT_STRINGS" "Z" (.int pG)) (hG : ¬ pG = (0 : Int32)) (X00 : Old Z n0 h0) (O4 : Sta Z Z.heap "jdk/internal/util/Preconditions" "SIOOBE_FORMATTER" "Ljava/util/function/BiFunction;" vF) (rF : vF.isRef = true) :
    MetFree l (⟨"java/lang/String", "charAt", "(I)C"⟩ : MethodName) (head1 (Jvm.Cond.code (⟨"java/lang/String", "charAt", "(I)C"⟩ : MethodName) jdk_42_method_56_code 2 (some .char) :: ws) ({ frames := 3, cells := 0, slots := 0, locals := 40 } : Room)) (fun a U => a = #[(.ref ax), (.int (0 : Int32))] ∧ Z.Warmed39 U.vm ∧ U.heap = h0) (fun _ _ _ _ _ => True) (fun _ U o U' => ∃ v L, o = .returned v ∧ own_Q10_0_3 Z ax ad kd ca cb cd pG vF h0 n0 v U'.heap L ∧ FrameEnd U o U' L ({ frames := 3, cells := 0, slots := 0, locals := 40 } : Room).cells ({ frames := 3, cells := 0, slots := 0, locals := 40 } : Room).slots) := by
  refine MetFree.of_bodySF (plainFor_of_name own_pn10) hisR ?_
  intro p e s m args below meth c s₁ Bd hml0 hP hK
  obtain ⟨rfl, hZ, hh⟩ := hP
  have hx := Bd.exec
  have hby := Bd.bytes
  have hml : c.maxLocals = 2 := hml0
  have hown : s.vm.findClass "java/lang/String" = some m.cls := findClass_of_methodNamed Bd.named
  have hnm := (name_of_methodNamed Bd.named Bd.method).1
  have X0 : Stand p l e ({ frames := 3, cells := 0, slots := 0, locals := 40 } : Room) s m #[(.ref ax), (.int (0 : Int32))] below meth c s₁ [] 0 0 := Stand.of_body Bd
  have e0 : s₁.heap = h0 := by rw [← hh, Bd.state]; rfl
  have N0 := Fr.nil n0
  refine own_pre (A := (s₁.setTop (mkF m 0 #[.val (.ref ax), .val (.int (0 : Int32))] []))) (fun t k => castTop (own_ef10 m ax (0 : Int32)) k) ?_
  refine own_pre (A := (s₁.setTop (mkF m 1 #[.val (.ref ax), .val (.int (0 : Int32))] [(.ref ax)]))) ?_ ?_
  · intro t k
    refine XS.aloadN X0.here hx rfl (hb hby d10_0) rfl rfl ?_
    exact k
  obtain ⟨cq108, kq108, q108a, q108b, q108c⟩ := isOf hZ e0 Ea
  obtain ⟨_, _, ⟨T108, L108, k108, n108⟩, -, X108, ⟨Lc108, hQ108, l108, y108, z108⟩, st108⟩ := X0.virtualBack hx (y := (⟨"java/lang/String", "isLatin1", "()Z"⟩ : MethodName)) (z := (⟨"java/lang/String", "isLatin1", "()Z"⟩ : MethodName)) hown (mvT hZ (own_w hw 58 rfl)) (mvT hZ (own_w hw 59 rfl)) (notFace_of_selects (args := #[]) (mvT hZ (own_w hw 61 rfl))) (mvT hZ (own_w hw 61 rfl)) (mvT hZ (own_w hw 60 rfl)) (by decide) (backOf (W := 0) (rm11 l Z a0 hw [] ax pG h0 n0 Z0 Fc O2 hG X00) hZ (own_w hw 62 rfl) (own_w hw 2 rfl) (by decide) (by decide)) q108a q108c (g := (mkF m 1 #[.val (.ref ax), .val (.int (0 : Int32))] [(.ref ax)])) rfl (by rw [hml]; rfl) (Steps.refl _) (argsL := []) (rest := []) (lenOf own_pd7 rfl) rfl (by show 2 * 0 + _ ≤ _; exact Nat.le_of_eq rfl) (hb hby d10_1) (fun _ _ => ⟨rfl, e0, (by decide : 0 + 0 ≤ _), (by decide : 0 + 0 ≤ _)⟩)
  dsimp only [Pt.U, Pt.locs, Pt.cells, Pt.slots] at X108 l108 y108 z108 st108 hQ108
  replace y108 : _ = 0 := y108
  replace z108 : _ = 0 := z108
  subst y108 z108
  obtain ⟨Nq108, rfl, eq108⟩ := hQ108
  have N108 := own_frl l108 N0 Nq108
  refine own_pre (fun t k => st108.trans k) ?_
  refine own_pre (A := (T108.setTop (mkF m 8 #[.val (.ref ax), .val (.int (0 : Int32))] [(.ref ax)]))) ?_ ?_
  · intro t k
    refine XS.ifNo X108.here hx rfl (hb hby d10_4) rfl ((if0 _ _).trans (feq (by decide : ¬ ((1 : Int32) = (0 : Int32)))).1) ?_
    refine XS.aloadN X108.here hx rfl (hb hby d10_7) rfl rfl ?_
    exact k
  obtain ⟨T109, X109, e109, st109⟩ := getF X108 hx hZ hown (host := "") (Or.inl (own_w hw 28 rfl)) Via.refl eq108 Fv (g := (mkF m 8 #[.val (.ref ax), .val (.int (0 : Int32))] [(.ref ax)])) rfl rfl (hb hby d10_8)
  refine own_pre (fun t k => st109 t k) ?_
  refine own_pre (A := (T109.setTop (mkF m 12 #[.val (.ref ax), .val (.int (0 : Int32))] [(.int (0 : Int32)), (.ref ad)]))) ?_ ?_
  · intro t k
    refine XS.iloadN X109.here hx rfl (hb hby d10_11) rfl ?_
    exact k
  obtain ⟨_, _, ⟨T110, L110, k110, n110⟩, -, X110, ⟨Lc110, hQ110, l110, y110, z110⟩, st110⟩ := Jvm.LawKit.callS X109 hx (y := (⟨"java/lang/StringLatin1", "charAt", "([BI)C"⟩ : MethodName)) hown (mvT hZ (own_w hw 63 rfl)) (mvT hZ (own_w hw 64 rfl)) (mvT hZ (own_w hw 65 rfl)) (mvT hZ (own_w hw 66 rfl)) (by decide) (backOf (W := 0) (rm12_0_3 l Z a0 hw [] ad kd ca cb cd vF h0 n0 Z0 Vd hp_ca hp_cb hp_cd O4 rF X00) hZ (own_w hw 66 rfl) (own_w hw 65 rfl) (by decide) (by decide)) (g := (mkF m 12 #[.val (.ref ax), .val (.int (0 : Int32))] [(.int (0 : Int32)), (.ref ad)])) rfl (by rw [hml]; rfl) (argsL := [(.ref ad), (.int (0 : Int32))]) (rest := []) (lenOf own_pd8 rfl) rfl (by show 2 * 0 + _ ≤ _; exact Nat.le_of_eq rfl) (hb hby d10_12) (fun _ _ => ⟨rfl, e109, (by decide : 0 + 0 ≤ _), (by decide : 0 + 0 ≤ _)⟩)
  dsimp only [Pt.U, Pt.locs, Pt.cells, Pt.slots] at X110 l110 y110 z110 st110 hQ110
  replace y110 : _ = 0 := y110
  replace z110 : _ = 0 := z110
  subst y110 z110
  obtain ⟨Nq110, rfl, eq110⟩ := hQ110
  have N110 := own_frl l110 N108 Nq110
  refine own_pre (fun t k => st110 t k) ?_
  obtain ⟨fs, hr, hrun, hended, hW, hsame⟩ := X110.leave (hlocks := BodyLoose.notSynchronized Bd) (v := some (.int ca)) (fun h => by rw [Bd.returns] at h; cases h)
  refine ⟨_, _, retOut X110 hx Bd.returns (own_ch_ret ca hp_ca) (Or.inl ⟨rfl, Or.inr (Or.inr (Or.inr (Or.inl rfl))), _, rfl⟩) (hb hby d10_15) hr, hrun, hended, _, _, rfl, ?_, ⟨_, rfl⟩, hW, hsame.mono (by decide) (by decide)⟩
  show own_Q10_0_3 Z ax ad kd ca cb cd pG vF h0 n0 _ T110.heap _
  rw [eq110]
  exact ⟨N110, rfl, rfl⟩
def own_Q14_1_3n (Z : State)  (h0 : Heap) (n0 : Nat) (v : Option Value) (h : Heap) (L : List Loc) : Prop := Fr n0 L ∧ v = some (.int (1 : Int32)) ∧ h = h0
set_option maxRecDepth 65536 in
set_option maxHeartbeats 40000000 in
theorem rm14_1_3n (l : Launch) (Z : State) (a0 : Array Value) (hw : ∀ d ∈ tables_1, d.before a0 Z = true) (ws : List Jvm.Cond)  (h0 : Heap) (n0 : Nat) (Z0 : n0 ≤ h0.size) :
    MetFree l (⟨"jdk/internal/util/Preconditions", "checkIndex", "(IILjava/util/function/BiFunction;)I"⟩ : MethodName) (head1 (Jvm.Cond.code (⟨"jdk/internal/util/Preconditions", "checkIndex", "(IILjava/util/function/BiFunction;)I"⟩ : MethodName) jdk_41_method_11_code 3 (some .int) :: ws) ({ frames := 0, cells := 0, slots := 0, locals := 0 } : Room)) (fun a U => a = #[(.int (1 : Int32)), (.int (3 : Int32)), .null] ∧ Z.Warmed39 U.vm ∧ U.heap = h0) (fun _ _ _ _ _ => True) (fun _ U o U' => ∃ v L, o = .returned v ∧ own_Q14_1_3n Z  h0 n0 v U'.heap L ∧ FrameEnd U o U' L ({ frames := 0, cells := 0, slots := 0, locals := 0 } : Room).cells ({ frames := 0, cells := 0, slots := 0, locals := 0 } : Room).slots) := by
  refine MetFree.of_bodySF (plainFor_of_name own_pn14) hisR ?_
  intro p e s m args below meth c s₁ Bd hml0 hP hK
  obtain ⟨rfl, hZ, hh⟩ := hP
  have hx := Bd.exec
  have hby := Bd.bytes
  have hml : c.maxLocals = 3 := hml0
  have hown : s.vm.findClass "jdk/internal/util/Preconditions" = some m.cls := findClass_of_methodNamed Bd.named
  have hnm := (name_of_methodNamed Bd.named Bd.method).1
  have X0 : Stand p l e ({ frames := 0, cells := 0, slots := 0, locals := 0 } : Room) s m #[(.int (1 : Int32)), (.int (3 : Int32)), .null] below meth c s₁ [] 0 0 := Stand.of_body Bd
  have e0 : s₁.heap = h0 := by rw [← hh, Bd.state]; rfl
  have N0 := Fr.nil n0
  refine own_pre (A := (s₁.setTop (mkF m 0 #[.val (.int (1 : Int32)), .val (.int (3 : Int32)), .val .null] []))) (fun t k => castTop (own_ef14n m (1 : Int32) (3 : Int32)) k) ?_
  refine own_pre (A := (s₁.setTop (mkF m 17 #[.val (.int (1 : Int32)), .val (.int (3 : Int32)), .val .null] [(.int (1 : Int32))]))) ?_ ?_
  · intro t k
    refine XS.iloadN X0.here hx rfl (hb hby d14_0) rfl ?_
    refine XS.ifNo X0.here hx rfl (hb hby d14_1) rfl ((if0 _ _).trans (flt (by decide : ¬ ((1 : Int32) < (0 : Int32)))).1) ?_
    refine XS.iloadN X0.here hx rfl (hb hby d14_4) rfl ?_
    refine XS.iloadN X0.here hx rfl (hb hby d14_5) rfl ?_
    refine XS.icmpYes X0.here hx rfl (pc0 := 6) (pc' := 16) rfl (hb hby d14_6) rfl (tlt (by decide : (1 : Int32) < (3 : Int32))).1 (by decide) (by decide) ?_
    refine XS.iloadN X0.here hx rfl (hb hby d14_16) rfl ?_
    exact k
  obtain ⟨fs, hr, hrun, hended, hW, hsame⟩ := X0.leave (hlocks := BodyLoose.notSynchronized Bd) (v := some (.int (1 : Int32))) (fun h => by rw [Bd.returns] at h; cases h)
  refine ⟨_, _, retOut X0 hx Bd.returns rfl (Or.inl ⟨rfl, Or.inl rfl, _, rfl⟩) (hb hby d14_17) hr, hrun, hended, _, _, rfl, ?_, ⟨_, rfl⟩, hW, hsame.mono (by decide) (by decide)⟩
  show own_Q14_1_3n Z  h0 n0 _ s₁.heap _
  rw [e0]
  exact ⟨N0, rfl, rfl⟩
def own_Q14_1_3r (Z : State) (af : Addr) (h0 : Heap) (n0 : Nat) (v : Option Value) (h : Heap) (L : List Loc) : Prop := Fr n0 L ∧ v = some (.int (1 : Int32)) ∧ h = h0
set_option maxRecDepth 65536 in
set_option maxHeartbeats 40000000 in
theorem rm14_1_3r (l : Launch) (Z : State) (a0 : Array Value) (hw : ∀ d ∈ tables_1, d.before a0 Z = true) (ws : List Jvm.Cond) (af : Addr) (h0 : Heap) (n0 : Nat) (Z0 : n0 ≤ h0.size) :
    MetFree l (⟨"jdk/internal/util/Preconditions", "checkIndex", "(IILjava/util/function/BiFunction;)I"⟩ : MethodName) (head1 (Jvm.Cond.code (⟨"jdk/internal/util/Preconditions", "checkIndex", "(IILjava/util/function/BiFunction;)I"⟩ : MethodName) jdk_41_method_11_code 3 (some .int) :: ws) ({ frames := 0, cells := 0, slots := 0, locals := 0 } : Room)) (fun a U => a = #[(.int (1 : Int32)), (.int (3 : Int32)), (.ref af)] ∧ Z.Warmed39 U.vm ∧ U.heap = h0) (fun _ _ _ _ _ => True) (fun _ U o U' => ∃ v L, o = .returned v ∧ own_Q14_1_3r Z af h0 n0 v U'.heap L ∧ FrameEnd U o U' L ({ frames := 0, cells := 0, slots := 0, locals := 0 } : Room).cells ({ frames := 0, cells := 0, slots := 0, locals := 0 } : Room).slots) := by
  refine MetFree.of_bodySF (plainFor_of_name own_pn14) hisR ?_
  intro p e s m args below meth c s₁ Bd hml0 hP hK
  obtain ⟨rfl, hZ, hh⟩ := hP
  have hx := Bd.exec
  have hby := Bd.bytes
  have hml : c.maxLocals = 3 := hml0
  have hown : s.vm.findClass "jdk/internal/util/Preconditions" = some m.cls := findClass_of_methodNamed Bd.named
  have hnm := (name_of_methodNamed Bd.named Bd.method).1
  have X0 : Stand p l e ({ frames := 0, cells := 0, slots := 0, locals := 0 } : Room) s m #[(.int (1 : Int32)), (.int (3 : Int32)), (.ref af)] below meth c s₁ [] 0 0 := Stand.of_body Bd
  have e0 : s₁.heap = h0 := by rw [← hh, Bd.state]; rfl
  have N0 := Fr.nil n0
  refine own_pre (A := (s₁.setTop (mkF m 0 #[.val (.int (1 : Int32)), .val (.int (3 : Int32)), .val (.ref af)] []))) (fun t k => castTop (own_ef14 m (1 : Int32) (3 : Int32) af) k) ?_
  refine own_pre (A := (s₁.setTop (mkF m 17 #[.val (.int (1 : Int32)), .val (.int (3 : Int32)), .val (.ref af)] [(.int (1 : Int32))]))) ?_ ?_
  · intro t k
    refine XS.iloadN X0.here hx rfl (hb hby d14_0) rfl ?_
    refine XS.ifNo X0.here hx rfl (hb hby d14_1) rfl ((if0 _ _).trans (flt (by decide : ¬ ((1 : Int32) < (0 : Int32)))).1) ?_
    refine XS.iloadN X0.here hx rfl (hb hby d14_4) rfl ?_
    refine XS.iloadN X0.here hx rfl (hb hby d14_5) rfl ?_
    refine XS.icmpYes X0.here hx rfl (pc0 := 6) (pc' := 16) rfl (hb hby d14_6) rfl (tlt (by decide : (1 : Int32) < (3 : Int32))).1 (by decide) (by decide) ?_
    refine XS.iloadN X0.here hx rfl (hb hby d14_16) rfl ?_
    exact k
  obtain ⟨fs, hr, hrun, hended, hW, hsame⟩ := X0.leave (hlocks := BodyLoose.notSynchronized Bd) (v := some (.int (1 : Int32))) (fun h => by rw [Bd.returns] at h; cases h)
  refine ⟨_, _, retOut X0 hx Bd.returns rfl (Or.inl ⟨rfl, Or.inl rfl, _, rfl⟩) (hb hby d14_17) hr, hrun, hended, _, _, rfl, ?_, ⟨_, rfl⟩, hW, hsame.mono (by decide) (by decide)⟩
  show own_Q14_1_3r Z af h0 n0 _ s₁.heap _
  rw [e0]
  exact ⟨N0, rfl, rfl⟩
def own_Q13_1_3 (Z : State) (vF : Value) (h0 : Heap) (n0 : Nat) (v : Option Value) (h : Heap) (L : List Loc) : Prop := v = none ∧ Fr n0 L ∧ h = h0
set_option maxRecDepth 65536 in
set_option maxHeartbeats 40000000 in
theorem rm13_1_3 (l : Launch) (Z : State) (a0 : Array Value) (hw : ∀ d ∈ tables_1, d.before a0 Z = true) (ws : List Jvm.Cond) (vF : Value) (h0 : Heap) (n0 : Nat) (Z0 : n0 ≤ h0.size) (O4 : Sta Z Z.heap "jdk/internal/util/Preconditions" "SIOOBE_FORMATTER" "Ljava/util/function/BiFunction;" vF) (rF : vF.isRef = true) (X00 : Old Z n0 h0) :
    MetFree l (⟨"java/lang/String", "checkIndex", "(II)V"⟩ : MethodName) (head1 (Jvm.Cond.code (⟨"java/lang/String", "checkIndex", "(II)V"⟩ : MethodName) jdk_42_method_155_code 2 none :: ws) ({ frames := 1, cells := 0, slots := 0, locals := 14 } : Room)) (fun a U => a = #[(.int (1 : Int32)), (.int (3 : Int32))] ∧ Z.Warmed39 U.vm ∧ U.heap = h0) (fun _ _ _ _ _ => True) (fun _ U o U' => ∃ v L, o = .returned v ∧ own_Q13_1_3 Z vF h0 n0 v U'.heap L ∧ FrameEnd U o U' L ({ frames := 1, cells := 0, slots := 0, locals := 14 } : Room).cells ({ frames := 1, cells := 0, slots := 0, locals := 14 } : Room).slots) := by
  refine MetFree.of_bodySF (plainFor_of_name own_pn13) hisR ?_
  intro p e s m args below meth c s₁ Bd hml0 hP hK
  obtain ⟨rfl, hZ, hh⟩ := hP
  have hx := Bd.exec
  have hby := Bd.bytes
  have hml : c.maxLocals = 2 := hml0
  have hown : s.vm.findClass "java/lang/String" = some m.cls := findClass_of_methodNamed Bd.named
  have hnm := (name_of_methodNamed Bd.named Bd.method).1
  have X0 : Stand p l e ({ frames := 1, cells := 0, slots := 0, locals := 14 } : Room) s m #[(.int (1 : Int32)), (.int (3 : Int32))] below meth c s₁ [] 0 0 := Stand.of_body Bd
  have e0 : s₁.heap = h0 := by rw [← hh, Bd.state]; rfl
  have N0 := Fr.nil n0
  refine own_pre (A := (s₁.setTop (mkF m 0 #[.val (.int (1 : Int32)), .val (.int (3 : Int32))] []))) (fun t k => castTop (own_ef13 m (1 : Int32) (3 : Int32)) k) ?_
  rcases ref_cases rF with rfl | ⟨af, rfl⟩
  · skip
    refine own_pre (A := (s₁.setTop (mkF m 2 #[.val (.int (1 : Int32)), .val (.int (3 : Int32))] [(.int (3 : Int32)), (.int (1 : Int32))]))) ?_ ?_
    · intro t k
      refine XS.iloadN X0.here hx rfl (hb hby d13_0) rfl ?_
      refine XS.iloadN X0.here hx rfl (hb hby d13_1) rfl ?_
      exact k
    obtain ⟨T111, X111, e111, st111⟩ := getS2 X0 hx hZ hown (host := "") (Or.inl (own_w hw 70 rfl)) Via.refl e0 (O4.ext X00.2) (g := (mkF m 2 #[.val (.int (1 : Int32)), .val (.int (3 : Int32))] [(.int (3 : Int32)), (.int (1 : Int32))])) rfl (hb hby d13_2)
    refine own_pre (fun t k => st111 t k) ?_
    obtain ⟨_, _, ⟨T112, L112, k112, n112⟩, -, X112, ⟨Lc112, hQ112, l112, y112, z112⟩, st112⟩ := Jvm.LawKit.callS X111 hx (y := (⟨"jdk/internal/util/Preconditions", "checkIndex", "(IILjava/util/function/BiFunction;)I"⟩ : MethodName)) hown (mvT hZ (own_w hw 72 rfl)) (mvT hZ (own_w hw 73 rfl)) (mvT hZ (own_w hw 71 rfl)) (mvT hZ (own_w hw 74 rfl)) (by decide) (backOf (W := 0) (rm14_1_3n l Z a0 hw []  h0 n0 Z0 ) hZ (own_w hw 74 rfl) (own_w hw 71 rfl) (by decide) (by decide)) (g := (mkF m 5 #[.val (.int (1 : Int32)), .val (.int (3 : Int32))] [.null, (.int (3 : Int32)), (.int (1 : Int32))])) rfl (by rw [hml]; rfl) (argsL := [(.int (1 : Int32)), (.int (3 : Int32)), .null]) (rest := []) (lenOf own_pd5 rfl) rfl (by show 2 * 0 + _ ≤ _; exact Nat.le_of_eq rfl) (hb hby d13_5) (fun _ _ => ⟨rfl, e111, (by decide : 0 + 0 ≤ _), (by decide : 0 + 0 ≤ _)⟩)
    dsimp only [Pt.U, Pt.locs, Pt.cells, Pt.slots] at X112 l112 y112 z112 st112 hQ112
    replace y112 : _ = 0 := y112
    replace z112 : _ = 0 := z112
    subst y112 z112
    obtain ⟨Nq112, rfl, eq112⟩ := hQ112
    have N112 := own_frl l112 N0 Nq112
    refine own_pre (fun t k => st112 t k) ?_
    refine own_pre (A := (T112.setTop (mkF m 9 #[.val (.int (1 : Int32)), .val (.int (3 : Int32))] []))) ?_ ?_
    · intro t k
      refine XS.pop X112.here hx rfl (hb hby d13_8) rfl rfl ?_
      exact k
    obtain ⟨fs, hr, hrun, hended, hW, hsame⟩ := X112.leave (hlocks := BodyLoose.notSynchronized Bd) (v := none) (fun _ => rfl)
    refine ⟨_, _, X112.returnOut hx Bd.returns (hb hby d13_9) hr, hrun, hended, _, _, rfl, ?_, ⟨_, rfl⟩, hW, hsame.mono (by decide) (by decide)⟩
    show own_Q13_1_3 Z .null h0 n0 _ T112.heap _
    rw [eq112]
    exact ⟨rfl, N112, rfl⟩
  · skip
    refine own_pre (A := (s₁.setTop (mkF m 2 #[.val (.int (1 : Int32)), .val (.int (3 : Int32))] [(.int (3 : Int32)), (.int (1 : Int32))]))) ?_ ?_
    · intro t k
      refine XS.iloadN X0.here hx rfl (hb hby d13_0) rfl ?_
      refine XS.iloadN X0.here hx rfl (hb hby d13_1) rfl ?_
      exact k
    obtain ⟨T113, X113, e113, st113⟩ := getS2 X0 hx hZ hown (host := "") (Or.inl (own_w hw 70 rfl)) Via.refl e0 (O4.ext X00.2) (g := (mkF m 2 #[.val (.int (1 : Int32)), .val (.int (3 : Int32))] [(.int (3 : Int32)), (.int (1 : Int32))])) rfl (hb hby d13_2)
    refine own_pre (fun t k => st113 t k) ?_
    obtain ⟨_, _, ⟨T114, L114, k114, n114⟩, -, X114, ⟨Lc114, hQ114, l114, y114, z114⟩, st114⟩ := Jvm.LawKit.callS X113 hx (y := (⟨"jdk/internal/util/Preconditions", "checkIndex", "(IILjava/util/function/BiFunction;)I"⟩ : MethodName)) hown (mvT hZ (own_w hw 72 rfl)) (mvT hZ (own_w hw 73 rfl)) (mvT hZ (own_w hw 71 rfl)) (mvT hZ (own_w hw 74 rfl)) (by decide) (backOf (W := 0) (rm14_1_3r l Z a0 hw [] af h0 n0 Z0 ) hZ (own_w hw 74 rfl) (own_w hw 71 rfl) (by decide) (by decide)) (g := (mkF m 5 #[.val (.int (1 : Int32)), .val (.int (3 : Int32))] [(.ref af), (.int (3 : Int32)), (.int (1 : Int32))])) rfl (by rw [hml]; rfl) (argsL := [(.int (1 : Int32)), (.int (3 : Int32)), (.ref af)]) (rest := []) (lenOf own_pd5 rfl) rfl (by show 2 * 0 + _ ≤ _; exact Nat.le_of_eq rfl) (hb hby d13_5) (fun _ _ => ⟨rfl, e113, (by decide : 0 + 0 ≤ _), (by decide : 0 + 0 ≤ _)⟩)
    dsimp only [Pt.U, Pt.locs, Pt.cells, Pt.slots] at X114 l114 y114 z114 st114 hQ114
    replace y114 : _ = 0 := y114
    replace z114 : _ = 0 := z114
    subst y114 z114
    obtain ⟨Nq114, rfl, eq114⟩ := hQ114
    have N114 := own_frl l114 N0 Nq114
    refine own_pre (fun t k => st114 t k) ?_
    refine own_pre (A := (T114.setTop (mkF m 9 #[.val (.int (1 : Int32)), .val (.int (3 : Int32))] []))) ?_ ?_
    · intro t k
      refine XS.pop X114.here hx rfl (hb hby d13_8) rfl rfl ?_
      exact k
    obtain ⟨fs, hr, hrun, hended, hW, hsame⟩ := X114.leave (hlocks := BodyLoose.notSynchronized Bd) (v := none) (fun _ => rfl)
    refine ⟨_, _, X114.returnOut hx Bd.returns (hb hby d13_9) hr, hrun, hended, _, _, rfl, ?_, ⟨_, rfl⟩, hW, hsame.mono (by decide) (by decide)⟩
    show own_Q13_1_3 Z (.ref af) h0 n0 _ T114.heap _
    rw [eq114]
    exact ⟨rfl, N114, rfl⟩
def own_Q12_1_3 (Z : State) (ad : Addr) (kd : ClassId) (ca : Int32) (cb : Int32) (cd : Int32) (vF : Value) (h0 : Heap) (n0 : Nat) (v : Option Value) (h : Heap) (L : List Loc) : Prop := Fr n0 L ∧ v = some (.int cb) ∧ h = h0
set_option maxRecDepth 65536 in
set_option maxHeartbeats 40000000 in
theorem rm12_1_3 (l : Launch) (Z : State) (a0 : Array Value) (hw : ∀ d ∈ tables_1, d.before a0 Z = true) (ws : List Jvm.Cond) (ad : Addr) (kd : ClassId) (ca : Int32) (cb : Int32) (cd : Int32) (vF : Value) (h0 : Heap) (n0 : Nat) (Z0 : n0 ≤ h0.size) (Vd : Arv Z h0 ad kd .byte (3 : Int32) [(.int ca), (.int cb), (.int cd)] (.int (0 : Int32))) (hp_ca : 0 ≤ ca.toInt ∧ ca.toInt < 128) (hp_cb : 0 ≤ cb.toInt ∧ cb.toInt < 128) (hp_cd : 0 ≤ cd.toInt ∧ cd.toInt < 128) (O4 : Sta Z Z.heap "jdk/internal/util/Preconditions" "SIOOBE_FORMATTER" "Ljava/util/function/BiFunction;" vF) (rF : vF.isRef = true) (X00 : Old Z n0 h0) :
    MetFree l (⟨"java/lang/StringLatin1", "charAt", "([BI)C"⟩ : MethodName) (head1 (Jvm.Cond.code (⟨"java/lang/StringLatin1", "charAt", "([BI)C"⟩ : MethodName) jdk_43_method_2_code 2 (some .char) :: ws) ({ frames := 2, cells := 0, slots := 0, locals := 27 } : Room)) (fun a U => a = #[(.ref ad), (.int (1 : Int32))] ∧ Z.Warmed39 U.vm ∧ U.heap = h0) (fun _ _ _ _ _ => True) (fun _ U o U' => ∃ v L, o = .returned v ∧ own_Q12_1_3 Z ad kd ca cb cd vF h0 n0 v U'.heap L ∧ FrameEnd U o U' L ({ frames := 2, cells := 0, slots := 0, locals := 27 } : Room).cells ({ frames := 2, cells := 0, slots := 0, locals := 27 } : Room).slots) := by
  refine MetFree.of_bodySF (plainFor_of_name own_pn12) hisR ?_
  intro p e s m args below meth c s₁ Bd hml0 hP hK
  obtain ⟨rfl, hZ, hh⟩ := hP
  have hx := Bd.exec
  have hby := Bd.bytes
  have hml : c.maxLocals = 2 := hml0
  have hown : s.vm.findClass "java/lang/StringLatin1" = some m.cls := findClass_of_methodNamed Bd.named
  have hnm := (name_of_methodNamed Bd.named Bd.method).1
  have X0 : Stand p l e ({ frames := 2, cells := 0, slots := 0, locals := 27 } : Room) s m #[(.ref ad), (.int (1 : Int32))] below meth c s₁ [] 0 0 := Stand.of_body Bd
  have e0 : s₁.heap = h0 := by rw [← hh, Bd.state]; rfl
  have N0 := Fr.nil n0
  refine own_pre (A := (s₁.setTop (mkF m 0 #[.val (.ref ad), .val (.int (1 : Int32))] []))) (fun t k => castTop (own_ef12 m ad (1 : Int32)) k) ?_
  refine own_pre (A := (s₁.setTop (mkF m 3 #[.val (.ref ad), .val (.int (1 : Int32))] [(.int (3 : Int32)), (.int (1 : Int32))]))) ?_ ?_
  · intro t k
    refine XS.iloadN X0.here hx rfl (hb hby d12_0) rfl ?_
    refine XS.aloadN X0.here hx rfl (hb hby d12_1) rfl rfl ?_
    show Steps p.tables e below (s₁.setTop (mkF m 2 #[.val (.ref ad), .val (.int (1 : Int32))] [(.ref ad), (.int (1 : Int32))])) _
    obtain ⟨cl115, Ar115, -, S115, N115, -, -⟩ := id Vd
    refine X0.arraylength hx (by rw [e0]; exact Ar115.1) (State.isArrayOf_alike hZ.alike Ar115.2.1) (g := (mkF m 2 #[.val (.ref ad), .val (.int (1 : Int32))] [(.ref ad), (.int (1 : Int32))])) rfl rfl (hb hby d12_2) _ ?_
    rw [len_of S115 N115]
    exact k
  obtain ⟨_, _, ⟨T116, L116, k116, n116⟩, -, X116, ⟨Lc116, hQ116, l116, y116, z116⟩, st116⟩ := Jvm.LawKit.callS X0 hx (y := (⟨"java/lang/String", "checkIndex", "(II)V"⟩ : MethodName)) hown (mvT hZ (own_w hw 67 rfl)) (mvT hZ (own_w hw 68 rfl)) (mvT hZ (own_w hw 2 rfl)) (mvT hZ (own_w hw 69 rfl)) (by decide) (backOf (W := 0) (rm13_1_3 l Z a0 hw [] vF h0 n0 Z0 O4 rF X00) hZ (own_w hw 69 rfl) (own_w hw 2 rfl) (by decide) (by decide)) (g := (mkF m 3 #[.val (.ref ad), .val (.int (1 : Int32))] [(.int (3 : Int32)), (.int (1 : Int32))])) rfl (by rw [hml]; rfl) (argsL := [(.int (1 : Int32)), (.int (3 : Int32))]) (rest := []) (lenOf own_pd6 rfl) rfl (by show 2 * 0 + _ ≤ _; exact Nat.le_of_eq rfl) (hb hby d12_3) (fun _ _ => ⟨rfl, e0, (by decide : 0 + 0 ≤ _), (by decide : 0 + 0 ≤ _)⟩)
  dsimp only [Pt.U, Pt.locs, Pt.cells, Pt.slots] at X116 l116 y116 z116 st116 hQ116
  replace y116 : _ = 0 := y116
  replace z116 : _ = 0 := z116
  subst y116 z116
  obtain ⟨rfl, Nq116, eq116⟩ := hQ116
  have N116 := own_frl l116 N0 Nq116
  refine own_pre (fun t k => st116 t k) ?_
  refine own_pre (A := (T116.setTop (mkF m 14 #[.val (.ref ad), .val (.int (1 : Int32))] [(.int cb)]))) ?_ ?_
  · intro t k
    refine XS.aloadN X116.here hx rfl (hb hby d12_6) rfl rfl ?_
    refine XS.iloadN X116.here hx rfl (hb hby d12_7) rfl ?_
    show Steps p.tables e below (T116.setTop (mkF m 8 #[.val (.ref ad), .val (.int (1 : Int32))] [(.int (1 : Int32)), (.ref ad)])) _
    obtain ⟨cl117, Ar117, q117, S117, N117, H117, G117⟩ := id Vd
    have hin117 : ¬ ((1 : Int32) < 0 ∨ cl117.slots.size ≤ ((1 : Int32)).toNatClampNeg) := inb_of S117 ⟨by decide, by decide⟩
    refine X116.baloadBytes hx (j := (1 : Int32)) (v := (.int cb)) (by rw [eq116]; exact Ar117.1) (State.isArrayOf_alike hZ.alike Ar117.2.1) Ar117.2.2 hin117 (H117.at hin117 rfl) (g := (mkF m 8 #[.val (.ref ad), .val (.int (1 : Int32))] [(.int (1 : Int32)), (.ref ad)])) rfl rfl (hb hby d12_8) _ ?_
    refine XS.sipush X116.here hx rfl (hb hby d12_9) ?_
    refine XS.iand X116.here hx rfl (hb hby d12_12) rfl ?_
    show Steps p.tables e below (T116.setTop (mkF m 13 #[.val (.ref ad), .val (.int (1 : Int32))] [(.int (cb &&& (255 : Int32)))])) _
    rw [own_ch_m cb hp_cb]
    refine XS.i2c X116.here hx rfl (hb hby d12_13) rfl ?_
    show Steps p.tables e below (T116.setTop (mkF m 14 #[.val (.ref ad), .val (.int (1 : Int32))] [(.int (cb.toUInt32.toUInt16.toUInt32.toInt32))])) _
    rw [own_ch_c cb hp_cb]
    exact k
  obtain ⟨fs, hr, hrun, hended, hW, hsame⟩ := X116.leave (hlocks := BodyLoose.notSynchronized Bd) (v := some (.int cb)) (fun h => by rw [Bd.returns] at h; cases h)
  refine ⟨_, _, retOut X116 hx Bd.returns (own_ch_ret cb hp_cb) (Or.inl ⟨rfl, Or.inr (Or.inr (Or.inr (Or.inl rfl))), _, rfl⟩) (hb hby d12_14) hr, hrun, hended, _, _, rfl, ?_, ⟨_, rfl⟩, hW, hsame.mono (by decide) (by decide)⟩
  show own_Q12_1_3 Z ad kd ca cb cd vF h0 n0 _ T116.heap _
  rw [eq116]
  exact ⟨N116, rfl, rfl⟩
def own_Q10_1_3 (Z : State) (ax : Addr) (ad : Addr) (kd : ClassId) (ca : Int32) (cb : Int32) (cd : Int32) (pG : Int32) (vF : Value) (h0 : Heap) (n0 : Nat) (v : Option Value) (h : Heap) (L : List Loc) : Prop := Fr n0 L ∧ v = some (.int cb) ∧ h = h0
set_option maxRecDepth 65536 in
set_option maxHeartbeats 40000000 in
theorem rm10_1_3 (l : Launch) (Z : State) (a0 : Array Value) (hw : ∀ d ∈ tables_1, d.before a0 Z = true) (ws : List Jvm.Cond) (ax : Addr) (ad : Addr) (kd : ClassId) (ca : Int32) (cb : Int32) (cd : Int32) (pG : Int32) (vF : Value) (h0 : Heap) (n0 : Nat) (Z0 : n0 ≤ h0.size) (Ea : Exa Z h0 ax "java/lang/String") (Fv : Fld Z h0 ax "java/lang/String" "value" "[B" (.ref ad)) (Fc : Fld Z h0 ax "java/lang/String" "coder" "B" (.int (0 : Int32))) (Vd : Arv Z h0 ad kd .byte (3 : Int32) [(.int ca), (.int cb), (.int cd)] (.int (0 : Int32))) (hp_ca : 0 ≤ ca.toInt ∧ ca.toInt < 128) (hp_cb : 0 ≤ cb.toInt ∧ cb.toInt < 128) (hp_cd : 0 ≤ cd.toInt ∧ cd.toInt < 128) (O2 : Sta Z Z.heap "java/lang/String" "COMPACT_STRINGS" "Z" (.int pG)) (hG : ¬ pG = (0 : Int32)) (X00 : Old Z n0 h0) (O4 : Sta Z Z.heap "jdk/internal/util/Preconditions" "SIOOBE_FORMATTER" "Ljava/util/function/BiFunction;" vF) (rF : vF.isRef = true) :
    MetFree l (⟨"java/lang/String", "charAt", "(I)C"⟩ : MethodName) (head1 (Jvm.Cond.code (⟨"java/lang/String", "charAt", "(I)C"⟩ : MethodName) jdk_42_method_56_code 2 (some .char) :: ws) ({ frames := 3, cells := 0, slots := 0, locals := 40 } : Room)) (fun a U => a = #[(.ref ax), (.int (1 : Int32))] ∧ Z.Warmed39 U.vm ∧ U.heap = h0) (fun _ _ _ _ _ => True) (fun _ U o U' => ∃ v L, o = .returned v ∧ own_Q10_1_3 Z ax ad kd ca cb cd pG vF h0 n0 v U'.heap L ∧ FrameEnd U o U' L ({ frames := 3, cells := 0, slots := 0, locals := 40 } : Room).cells ({ frames := 3, cells := 0, slots := 0, locals := 40 } : Room).slots) := by
  refine MetFree.of_bodySF (plainFor_of_name own_pn10) hisR ?_
  intro p e s m args below meth c s₁ Bd hml0 hP hK
  obtain ⟨rfl, hZ, hh⟩ := hP
  have hx := Bd.exec
  have hby := Bd.bytes
  have hml : c.maxLocals = 2 := hml0
  have hown : s.vm.findClass "java/lang/String" = some m.cls := findClass_of_methodNamed Bd.named
  have hnm := (name_of_methodNamed Bd.named Bd.method).1
  have X0 : Stand p l e ({ frames := 3, cells := 0, slots := 0, locals := 40 } : Room) s m #[(.ref ax), (.int (1 : Int32))] below meth c s₁ [] 0 0 := Stand.of_body Bd
  have e0 : s₁.heap = h0 := by rw [← hh, Bd.state]; rfl
  have N0 := Fr.nil n0
  refine own_pre (A := (s₁.setTop (mkF m 0 #[.val (.ref ax), .val (.int (1 : Int32))] []))) (fun t k => castTop (own_ef10 m ax (1 : Int32)) k) ?_
  refine own_pre (A := (s₁.setTop (mkF m 1 #[.val (.ref ax), .val (.int (1 : Int32))] [(.ref ax)]))) ?_ ?_
  · intro t k
    refine XS.aloadN X0.here hx rfl (hb hby d10_0) rfl rfl ?_
    exact k
  obtain ⟨cq118, kq118, q118a, q118b, q118c⟩ := isOf hZ e0 Ea
  obtain ⟨_, _, ⟨T118, L118, k118, n118⟩, -, X118, ⟨Lc118, hQ118, l118, y118, z118⟩, st118⟩ := X0.virtualBack hx (y := (⟨"java/lang/String", "isLatin1", "()Z"⟩ : MethodName)) (z := (⟨"java/lang/String", "isLatin1", "()Z"⟩ : MethodName)) hown (mvT hZ (own_w hw 58 rfl)) (mvT hZ (own_w hw 59 rfl)) (notFace_of_selects (args := #[]) (mvT hZ (own_w hw 61 rfl))) (mvT hZ (own_w hw 61 rfl)) (mvT hZ (own_w hw 60 rfl)) (by decide) (backOf (W := 0) (rm11 l Z a0 hw [] ax pG h0 n0 Z0 Fc O2 hG X00) hZ (own_w hw 62 rfl) (own_w hw 2 rfl) (by decide) (by decide)) q118a q118c (g := (mkF m 1 #[.val (.ref ax), .val (.int (1 : Int32))] [(.ref ax)])) rfl (by rw [hml]; rfl) (Steps.refl _) (argsL := []) (rest := []) (lenOf own_pd7 rfl) rfl (by show 2 * 0 + _ ≤ _; exact Nat.le_of_eq rfl) (hb hby d10_1) (fun _ _ => ⟨rfl, e0, (by decide : 0 + 0 ≤ _), (by decide : 0 + 0 ≤ _)⟩)
  dsimp only [Pt.U, Pt.locs, Pt.cells, Pt.slots] at X118 l118 y118 z118 st118 hQ118
  replace y118 : _ = 0 := y118
  replace z118 : _ = 0 := z118
  subst y118 z118
  obtain ⟨Nq118, rfl, eq118⟩ := hQ118
  have N118 := own_frl l118 N0 Nq118
  refine own_pre (fun t k => st118.trans k) ?_
  refine own_pre (A := (T118.setTop (mkF m 8 #[.val (.ref ax), .val (.int (1 : Int32))] [(.ref ax)]))) ?_ ?_
  · intro t k
    refine XS.ifNo X118.here hx rfl (hb hby d10_4) rfl ((if0 _ _).trans (feq (by decide : ¬ ((1 : Int32) = (0 : Int32)))).1) ?_
    refine XS.aloadN X118.here hx rfl (hb hby d10_7) rfl rfl ?_
    exact k
  obtain ⟨T119, X119, e119, st119⟩ := getF X118 hx hZ hown (host := "") (Or.inl (own_w hw 28 rfl)) Via.refl eq118 Fv (g := (mkF m 8 #[.val (.ref ax), .val (.int (1 : Int32))] [(.ref ax)])) rfl rfl (hb hby d10_8)
  refine own_pre (fun t k => st119 t k) ?_
  refine own_pre (A := (T119.setTop (mkF m 12 #[.val (.ref ax), .val (.int (1 : Int32))] [(.int (1 : Int32)), (.ref ad)]))) ?_ ?_
  · intro t k
    refine XS.iloadN X119.here hx rfl (hb hby d10_11) rfl ?_
    exact k
  obtain ⟨_, _, ⟨T120, L120, k120, n120⟩, -, X120, ⟨Lc120, hQ120, l120, y120, z120⟩, st120⟩ := Jvm.LawKit.callS X119 hx (y := (⟨"java/lang/StringLatin1", "charAt", "([BI)C"⟩ : MethodName)) hown (mvT hZ (own_w hw 63 rfl)) (mvT hZ (own_w hw 64 rfl)) (mvT hZ (own_w hw 65 rfl)) (mvT hZ (own_w hw 66 rfl)) (by decide) (backOf (W := 0) (rm12_1_3 l Z a0 hw [] ad kd ca cb cd vF h0 n0 Z0 Vd hp_ca hp_cb hp_cd O4 rF X00) hZ (own_w hw 66 rfl) (own_w hw 65 rfl) (by decide) (by decide)) (g := (mkF m 12 #[.val (.ref ax), .val (.int (1 : Int32))] [(.int (1 : Int32)), (.ref ad)])) rfl (by rw [hml]; rfl) (argsL := [(.ref ad), (.int (1 : Int32))]) (rest := []) (lenOf own_pd8 rfl) rfl (by show 2 * 0 + _ ≤ _; exact Nat.le_of_eq rfl) (hb hby d10_12) (fun _ _ => ⟨rfl, e119, (by decide : 0 + 0 ≤ _), (by decide : 0 + 0 ≤ _)⟩)
  dsimp only [Pt.U, Pt.locs, Pt.cells, Pt.slots] at X120 l120 y120 z120 st120 hQ120
  replace y120 : _ = 0 := y120
  replace z120 : _ = 0 := z120
  subst y120 z120
  obtain ⟨Nq120, rfl, eq120⟩ := hQ120
  have N120 := own_frl l120 N118 Nq120
  refine own_pre (fun t k => st120 t k) ?_
  obtain ⟨fs, hr, hrun, hended, hW, hsame⟩ := X120.leave (hlocks := BodyLoose.notSynchronized Bd) (v := some (.int cb)) (fun h => by rw [Bd.returns] at h; cases h)
  refine ⟨_, _, retOut X120 hx Bd.returns (own_ch_ret cb hp_cb) (Or.inl ⟨rfl, Or.inr (Or.inr (Or.inr (Or.inl rfl))), _, rfl⟩) (hb hby d10_15) hr, hrun, hended, _, _, rfl, ?_, ⟨_, rfl⟩, hW, hsame.mono (by decide) (by decide)⟩
  show own_Q10_1_3 Z ax ad kd ca cb cd pG vF h0 n0 _ T120.heap _
  rw [eq120]
  exact ⟨N120, rfl, rfl⟩
def own_Q14_2_3n (Z : State)  (h0 : Heap) (n0 : Nat) (v : Option Value) (h : Heap) (L : List Loc) : Prop := Fr n0 L ∧ v = some (.int (2 : Int32)) ∧ h = h0
set_option maxRecDepth 65536 in
set_option maxHeartbeats 40000000 in
theorem rm14_2_3n (l : Launch) (Z : State) (a0 : Array Value) (hw : ∀ d ∈ tables_1, d.before a0 Z = true) (ws : List Jvm.Cond)  (h0 : Heap) (n0 : Nat) (Z0 : n0 ≤ h0.size) :
    MetFree l (⟨"jdk/internal/util/Preconditions", "checkIndex", "(IILjava/util/function/BiFunction;)I"⟩ : MethodName) (head1 (Jvm.Cond.code (⟨"jdk/internal/util/Preconditions", "checkIndex", "(IILjava/util/function/BiFunction;)I"⟩ : MethodName) jdk_41_method_11_code 3 (some .int) :: ws) ({ frames := 0, cells := 0, slots := 0, locals := 0 } : Room)) (fun a U => a = #[(.int (2 : Int32)), (.int (3 : Int32)), .null] ∧ Z.Warmed39 U.vm ∧ U.heap = h0) (fun _ _ _ _ _ => True) (fun _ U o U' => ∃ v L, o = .returned v ∧ own_Q14_2_3n Z  h0 n0 v U'.heap L ∧ FrameEnd U o U' L ({ frames := 0, cells := 0, slots := 0, locals := 0 } : Room).cells ({ frames := 0, cells := 0, slots := 0, locals := 0 } : Room).slots) := by
  refine MetFree.of_bodySF (plainFor_of_name own_pn14) hisR ?_
  intro p e s m args below meth c s₁ Bd hml0 hP hK
  obtain ⟨rfl, hZ, hh⟩ := hP
  have hx := Bd.exec
  have hby := Bd.bytes
  have hml : c.maxLocals = 3 := hml0
  have hown : s.vm.findClass "jdk/internal/util/Preconditions" = some m.cls := findClass_of_methodNamed Bd.named
  have hnm := (name_of_methodNamed Bd.named Bd.method).1
  have X0 : Stand p l e ({ frames := 0, cells := 0, slots := 0, locals := 0 } : Room) s m #[(.int (2 : Int32)), (.int (3 : Int32)), .null] below meth c s₁ [] 0 0 := Stand.of_body Bd
  have e0 : s₁.heap = h0 := by rw [← hh, Bd.state]; rfl
  have N0 := Fr.nil n0
  refine own_pre (A := (s₁.setTop (mkF m 0 #[.val (.int (2 : Int32)), .val (.int (3 : Int32)), .val .null] []))) (fun t k => castTop (own_ef14n m (2 : Int32) (3 : Int32)) k) ?_
  refine own_pre (A := (s₁.setTop (mkF m 17 #[.val (.int (2 : Int32)), .val (.int (3 : Int32)), .val .null] [(.int (2 : Int32))]))) ?_ ?_
  · intro t k
    refine XS.iloadN X0.here hx rfl (hb hby d14_0) rfl ?_
    refine XS.ifNo X0.here hx rfl (hb hby d14_1) rfl ((if0 _ _).trans (flt (by decide : ¬ ((2 : Int32) < (0 : Int32)))).1) ?_
    refine XS.iloadN X0.here hx rfl (hb hby d14_4) rfl ?_
    refine XS.iloadN X0.here hx rfl (hb hby d14_5) rfl ?_
    refine XS.icmpYes X0.here hx rfl (pc0 := 6) (pc' := 16) rfl (hb hby d14_6) rfl (tlt (by decide : (2 : Int32) < (3 : Int32))).1 (by decide) (by decide) ?_
    refine XS.iloadN X0.here hx rfl (hb hby d14_16) rfl ?_
    exact k
  obtain ⟨fs, hr, hrun, hended, hW, hsame⟩ := X0.leave (hlocks := BodyLoose.notSynchronized Bd) (v := some (.int (2 : Int32))) (fun h => by rw [Bd.returns] at h; cases h)
  refine ⟨_, _, retOut X0 hx Bd.returns rfl (Or.inl ⟨rfl, Or.inl rfl, _, rfl⟩) (hb hby d14_17) hr, hrun, hended, _, _, rfl, ?_, ⟨_, rfl⟩, hW, hsame.mono (by decide) (by decide)⟩
  show own_Q14_2_3n Z  h0 n0 _ s₁.heap _
  rw [e0]
  exact ⟨N0, rfl, rfl⟩
def own_Q14_2_3r (Z : State) (af : Addr) (h0 : Heap) (n0 : Nat) (v : Option Value) (h : Heap) (L : List Loc) : Prop := Fr n0 L ∧ v = some (.int (2 : Int32)) ∧ h = h0
set_option maxRecDepth 65536 in
set_option maxHeartbeats 40000000 in
theorem rm14_2_3r (l : Launch) (Z : State) (a0 : Array Value) (hw : ∀ d ∈ tables_1, d.before a0 Z = true) (ws : List Jvm.Cond) (af : Addr) (h0 : Heap) (n0 : Nat) (Z0 : n0 ≤ h0.size) :
    MetFree l (⟨"jdk/internal/util/Preconditions", "checkIndex", "(IILjava/util/function/BiFunction;)I"⟩ : MethodName) (head1 (Jvm.Cond.code (⟨"jdk/internal/util/Preconditions", "checkIndex", "(IILjava/util/function/BiFunction;)I"⟩ : MethodName) jdk_41_method_11_code 3 (some .int) :: ws) ({ frames := 0, cells := 0, slots := 0, locals := 0 } : Room)) (fun a U => a = #[(.int (2 : Int32)), (.int (3 : Int32)), (.ref af)] ∧ Z.Warmed39 U.vm ∧ U.heap = h0) (fun _ _ _ _ _ => True) (fun _ U o U' => ∃ v L, o = .returned v ∧ own_Q14_2_3r Z af h0 n0 v U'.heap L ∧ FrameEnd U o U' L ({ frames := 0, cells := 0, slots := 0, locals := 0 } : Room).cells ({ frames := 0, cells := 0, slots := 0, locals := 0 } : Room).slots) := by
  refine MetFree.of_bodySF (plainFor_of_name own_pn14) hisR ?_
  intro p e s m args below meth c s₁ Bd hml0 hP hK
  obtain ⟨rfl, hZ, hh⟩ := hP
  have hx := Bd.exec
  have hby := Bd.bytes
  have hml : c.maxLocals = 3 := hml0
  have hown : s.vm.findClass "jdk/internal/util/Preconditions" = some m.cls := findClass_of_methodNamed Bd.named
  have hnm := (name_of_methodNamed Bd.named Bd.method).1
  have X0 : Stand p l e ({ frames := 0, cells := 0, slots := 0, locals := 0 } : Room) s m #[(.int (2 : Int32)), (.int (3 : Int32)), (.ref af)] below meth c s₁ [] 0 0 := Stand.of_body Bd
  have e0 : s₁.heap = h0 := by rw [← hh, Bd.state]; rfl
  have N0 := Fr.nil n0
  refine own_pre (A := (s₁.setTop (mkF m 0 #[.val (.int (2 : Int32)), .val (.int (3 : Int32)), .val (.ref af)] []))) (fun t k => castTop (own_ef14 m (2 : Int32) (3 : Int32) af) k) ?_
  refine own_pre (A := (s₁.setTop (mkF m 17 #[.val (.int (2 : Int32)), .val (.int (3 : Int32)), .val (.ref af)] [(.int (2 : Int32))]))) ?_ ?_
  · intro t k
    refine XS.iloadN X0.here hx rfl (hb hby d14_0) rfl ?_
    refine XS.ifNo X0.here hx rfl (hb hby d14_1) rfl ((if0 _ _).trans (flt (by decide : ¬ ((2 : Int32) < (0 : Int32)))).1) ?_
    refine XS.iloadN X0.here hx rfl (hb hby d14_4) rfl ?_
    refine XS.iloadN X0.here hx rfl (hb hby d14_5) rfl ?_
    refine XS.icmpYes X0.here hx rfl (pc0 := 6) (pc' := 16) rfl (hb hby d14_6) rfl (tlt (by decide : (2 : Int32) < (3 : Int32))).1 (by decide) (by decide) ?_
    refine XS.iloadN X0.here hx rfl (hb hby d14_16) rfl ?_
    exact k
  obtain ⟨fs, hr, hrun, hended, hW, hsame⟩ := X0.leave (hlocks := BodyLoose.notSynchronized Bd) (v := some (.int (2 : Int32))) (fun h => by rw [Bd.returns] at h; cases h)
  refine ⟨_, _, retOut X0 hx Bd.returns rfl (Or.inl ⟨rfl, Or.inl rfl, _, rfl⟩) (hb hby d14_17) hr, hrun, hended, _, _, rfl, ?_, ⟨_, rfl⟩, hW, hsame.mono (by decide) (by decide)⟩
  show own_Q14_2_3r Z af h0 n0 _ s₁.heap _
  rw [e0]
  exact ⟨N0, rfl, rfl⟩
def own_Q13_2_3 (Z : State) (vF : Value) (h0 : Heap) (n0 : Nat) (v : Option Value) (h : Heap) (L : List Loc) : Prop := v = none ∧ Fr n0 L ∧ h = h0
set_option maxRecDepth 65536 in
set_option maxHeartbeats 40000000 in
theorem rm13_2_3 (l : Launch) (Z : State) (a0 : Array Value) (hw : ∀ d ∈ tables_1, d.before a0 Z = true) (ws : List Jvm.Cond) (vF : Value) (h0 : Heap) (n0 : Nat) (Z0 : n0 ≤ h0.size) (O4 : Sta Z Z.heap "jdk/internal/util/Preconditions" "SIOOBE_FORMATTER" "Ljava/util/function/BiFunction;" vF) (rF : vF.isRef = true) (X00 : Old Z n0 h0) :
    MetFree l (⟨"java/lang/String", "checkIndex", "(II)V"⟩ : MethodName) (head1 (Jvm.Cond.code (⟨"java/lang/String", "checkIndex", "(II)V"⟩ : MethodName) jdk_42_method_155_code 2 none :: ws) ({ frames := 1, cells := 0, slots := 0, locals := 14 } : Room)) (fun a U => a = #[(.int (2 : Int32)), (.int (3 : Int32))] ∧ Z.Warmed39 U.vm ∧ U.heap = h0) (fun _ _ _ _ _ => True) (fun _ U o U' => ∃ v L, o = .returned v ∧ own_Q13_2_3 Z vF h0 n0 v U'.heap L ∧ FrameEnd U o U' L ({ frames := 1, cells := 0, slots := 0, locals := 14 } : Room).cells ({ frames := 1, cells := 0, slots := 0, locals := 14 } : Room).slots) := by
  refine MetFree.of_bodySF (plainFor_of_name own_pn13) hisR ?_
  intro p e s m args below meth c s₁ Bd hml0 hP hK
  obtain ⟨rfl, hZ, hh⟩ := hP
  have hx := Bd.exec
  have hby := Bd.bytes
  have hml : c.maxLocals = 2 := hml0
  have hown : s.vm.findClass "java/lang/String" = some m.cls := findClass_of_methodNamed Bd.named
  have hnm := (name_of_methodNamed Bd.named Bd.method).1
  have X0 : Stand p l e ({ frames := 1, cells := 0, slots := 0, locals := 14 } : Room) s m #[(.int (2 : Int32)), (.int (3 : Int32))] below meth c s₁ [] 0 0 := Stand.of_body Bd
  have e0 : s₁.heap = h0 := by rw [← hh, Bd.state]; rfl
  have N0 := Fr.nil n0
  refine own_pre (A := (s₁.setTop (mkF m 0 #[.val (.int (2 : Int32)), .val (.int (3 : Int32))] []))) (fun t k => castTop (own_ef13 m (2 : Int32) (3 : Int32)) k) ?_
  rcases ref_cases rF with rfl | ⟨af, rfl⟩
  · skip
    refine own_pre (A := (s₁.setTop (mkF m 2 #[.val (.int (2 : Int32)), .val (.int (3 : Int32))] [(.int (3 : Int32)), (.int (2 : Int32))]))) ?_ ?_
    · intro t k
      refine XS.iloadN X0.here hx rfl (hb hby d13_0) rfl ?_
      refine XS.iloadN X0.here hx rfl (hb hby d13_1) rfl ?_
      exact k
    obtain ⟨T121, X121, e121, st121⟩ := getS2 X0 hx hZ hown (host := "") (Or.inl (own_w hw 70 rfl)) Via.refl e0 (O4.ext X00.2) (g := (mkF m 2 #[.val (.int (2 : Int32)), .val (.int (3 : Int32))] [(.int (3 : Int32)), (.int (2 : Int32))])) rfl (hb hby d13_2)
    refine own_pre (fun t k => st121 t k) ?_
    obtain ⟨_, _, ⟨T122, L122, k122, n122⟩, -, X122, ⟨Lc122, hQ122, l122, y122, z122⟩, st122⟩ := Jvm.LawKit.callS X121 hx (y := (⟨"jdk/internal/util/Preconditions", "checkIndex", "(IILjava/util/function/BiFunction;)I"⟩ : MethodName)) hown (mvT hZ (own_w hw 72 rfl)) (mvT hZ (own_w hw 73 rfl)) (mvT hZ (own_w hw 71 rfl)) (mvT hZ (own_w hw 74 rfl)) (by decide) (backOf (W := 0) (rm14_2_3n l Z a0 hw []  h0 n0 Z0 ) hZ (own_w hw 74 rfl) (own_w hw 71 rfl) (by decide) (by decide)) (g := (mkF m 5 #[.val (.int (2 : Int32)), .val (.int (3 : Int32))] [.null, (.int (3 : Int32)), (.int (2 : Int32))])) rfl (by rw [hml]; rfl) (argsL := [(.int (2 : Int32)), (.int (3 : Int32)), .null]) (rest := []) (lenOf own_pd5 rfl) rfl (by show 2 * 0 + _ ≤ _; exact Nat.le_of_eq rfl) (hb hby d13_5) (fun _ _ => ⟨rfl, e121, (by decide : 0 + 0 ≤ _), (by decide : 0 + 0 ≤ _)⟩)
    dsimp only [Pt.U, Pt.locs, Pt.cells, Pt.slots] at X122 l122 y122 z122 st122 hQ122
    replace y122 : _ = 0 := y122
    replace z122 : _ = 0 := z122
    subst y122 z122
    obtain ⟨Nq122, rfl, eq122⟩ := hQ122
    have N122 := own_frl l122 N0 Nq122
    refine own_pre (fun t k => st122 t k) ?_
    refine own_pre (A := (T122.setTop (mkF m 9 #[.val (.int (2 : Int32)), .val (.int (3 : Int32))] []))) ?_ ?_
    · intro t k
      refine XS.pop X122.here hx rfl (hb hby d13_8) rfl rfl ?_
      exact k
    obtain ⟨fs, hr, hrun, hended, hW, hsame⟩ := X122.leave (hlocks := BodyLoose.notSynchronized Bd) (v := none) (fun _ => rfl)
    refine ⟨_, _, X122.returnOut hx Bd.returns (hb hby d13_9) hr, hrun, hended, _, _, rfl, ?_, ⟨_, rfl⟩, hW, hsame.mono (by decide) (by decide)⟩
    show own_Q13_2_3 Z .null h0 n0 _ T122.heap _
    rw [eq122]
    exact ⟨rfl, N122, rfl⟩
  · skip
    refine own_pre (A := (s₁.setTop (mkF m 2 #[.val (.int (2 : Int32)), .val (.int (3 : Int32))] [(.int (3 : Int32)), (.int (2 : Int32))]))) ?_ ?_
    · intro t k
      refine XS.iloadN X0.here hx rfl (hb hby d13_0) rfl ?_
      refine XS.iloadN X0.here hx rfl (hb hby d13_1) rfl ?_
      exact k
    obtain ⟨T123, X123, e123, st123⟩ := getS2 X0 hx hZ hown (host := "") (Or.inl (own_w hw 70 rfl)) Via.refl e0 (O4.ext X00.2) (g := (mkF m 2 #[.val (.int (2 : Int32)), .val (.int (3 : Int32))] [(.int (3 : Int32)), (.int (2 : Int32))])) rfl (hb hby d13_2)
    refine own_pre (fun t k => st123 t k) ?_
    obtain ⟨_, _, ⟨T124, L124, k124, n124⟩, -, X124, ⟨Lc124, hQ124, l124, y124, z124⟩, st124⟩ := Jvm.LawKit.callS X123 hx (y := (⟨"jdk/internal/util/Preconditions", "checkIndex", "(IILjava/util/function/BiFunction;)I"⟩ : MethodName)) hown (mvT hZ (own_w hw 72 rfl)) (mvT hZ (own_w hw 73 rfl)) (mvT hZ (own_w hw 71 rfl)) (mvT hZ (own_w hw 74 rfl)) (by decide) (backOf (W := 0) (rm14_2_3r l Z a0 hw [] af h0 n0 Z0 ) hZ (own_w hw 74 rfl) (own_w hw 71 rfl) (by decide) (by decide)) (g := (mkF m 5 #[.val (.int (2 : Int32)), .val (.int (3 : Int32))] [(.ref af), (.int (3 : Int32)), (.int (2 : Int32))])) rfl (by rw [hml]; rfl) (argsL := [(.int (2 : Int32)), (.int (3 : Int32)), (.ref af)]) (rest := []) (lenOf own_pd5 rfl) rfl (by show 2 * 0 + _ ≤ _; exact Nat.le_of_eq rfl) (hb hby d13_5) (fun _ _ => ⟨rfl, e123, (by decide : 0 + 0 ≤ _), (by decide : 0 + 0 ≤ _)⟩)
    dsimp only [Pt.U, Pt.locs, Pt.cells, Pt.slots] at X124 l124 y124 z124 st124 hQ124
    replace y124 : _ = 0 := y124
    replace z124 : _ = 0 := z124
    subst y124 z124
    obtain ⟨Nq124, rfl, eq124⟩ := hQ124
    have N124 := own_frl l124 N0 Nq124
    refine own_pre (fun t k => st124 t k) ?_
    refine own_pre (A := (T124.setTop (mkF m 9 #[.val (.int (2 : Int32)), .val (.int (3 : Int32))] []))) ?_ ?_
    · intro t k
      refine XS.pop X124.here hx rfl (hb hby d13_8) rfl rfl ?_
      exact k
    obtain ⟨fs, hr, hrun, hended, hW, hsame⟩ := X124.leave (hlocks := BodyLoose.notSynchronized Bd) (v := none) (fun _ => rfl)
    refine ⟨_, _, X124.returnOut hx Bd.returns (hb hby d13_9) hr, hrun, hended, _, _, rfl, ?_, ⟨_, rfl⟩, hW, hsame.mono (by decide) (by decide)⟩
    show own_Q13_2_3 Z (.ref af) h0 n0 _ T124.heap _
    rw [eq124]
    exact ⟨rfl, N124, rfl⟩
def own_Q12_2_3 (Z : State) (ad : Addr) (kd : ClassId) (ca : Int32) (cb : Int32) (cd : Int32) (vF : Value) (h0 : Heap) (n0 : Nat) (v : Option Value) (h : Heap) (L : List Loc) : Prop := Fr n0 L ∧ v = some (.int cd) ∧ h = h0
set_option maxRecDepth 65536 in
set_option maxHeartbeats 40000000 in
theorem rm12_2_3 (l : Launch) (Z : State) (a0 : Array Value) (hw : ∀ d ∈ tables_1, d.before a0 Z = true) (ws : List Jvm.Cond) (ad : Addr) (kd : ClassId) (ca : Int32) (cb : Int32) (cd : Int32) (vF : Value) (h0 : Heap) (n0 : Nat) (Z0 : n0 ≤ h0.size) (Vd : Arv Z h0 ad kd .byte (3 : Int32) [(.int ca), (.int cb), (.int cd)] (.int (0 : Int32))) (hp_ca : 0 ≤ ca.toInt ∧ ca.toInt < 128) (hp_cb : 0 ≤ cb.toInt ∧ cb.toInt < 128) (hp_cd : 0 ≤ cd.toInt ∧ cd.toInt < 128) (O4 : Sta Z Z.heap "jdk/internal/util/Preconditions" "SIOOBE_FORMATTER" "Ljava/util/function/BiFunction;" vF) (rF : vF.isRef = true) (X00 : Old Z n0 h0) :
    MetFree l (⟨"java/lang/StringLatin1", "charAt", "([BI)C"⟩ : MethodName) (head1 (Jvm.Cond.code (⟨"java/lang/StringLatin1", "charAt", "([BI)C"⟩ : MethodName) jdk_43_method_2_code 2 (some .char) :: ws) ({ frames := 2, cells := 0, slots := 0, locals := 27 } : Room)) (fun a U => a = #[(.ref ad), (.int (2 : Int32))] ∧ Z.Warmed39 U.vm ∧ U.heap = h0) (fun _ _ _ _ _ => True) (fun _ U o U' => ∃ v L, o = .returned v ∧ own_Q12_2_3 Z ad kd ca cb cd vF h0 n0 v U'.heap L ∧ FrameEnd U o U' L ({ frames := 2, cells := 0, slots := 0, locals := 27 } : Room).cells ({ frames := 2, cells := 0, slots := 0, locals := 27 } : Room).slots) := by
  refine MetFree.of_bodySF (plainFor_of_name own_pn12) hisR ?_
  intro p e s m args below meth c s₁ Bd hml0 hP hK
  obtain ⟨rfl, hZ, hh⟩ := hP
  have hx := Bd.exec
  have hby := Bd.bytes
  have hml : c.maxLocals = 2 := hml0
  have hown : s.vm.findClass "java/lang/StringLatin1" = some m.cls := findClass_of_methodNamed Bd.named
  have hnm := (name_of_methodNamed Bd.named Bd.method).1
  have X0 : Stand p l e ({ frames := 2, cells := 0, slots := 0, locals := 27 } : Room) s m #[(.ref ad), (.int (2 : Int32))] below meth c s₁ [] 0 0 := Stand.of_body Bd
  have e0 : s₁.heap = h0 := by rw [← hh, Bd.state]; rfl
  have N0 := Fr.nil n0
  refine own_pre (A := (s₁.setTop (mkF m 0 #[.val (.ref ad), .val (.int (2 : Int32))] []))) (fun t k => castTop (own_ef12 m ad (2 : Int32)) k) ?_
  refine own_pre (A := (s₁.setTop (mkF m 3 #[.val (.ref ad), .val (.int (2 : Int32))] [(.int (3 : Int32)), (.int (2 : Int32))]))) ?_ ?_
  · intro t k
    refine XS.iloadN X0.here hx rfl (hb hby d12_0) rfl ?_
    refine XS.aloadN X0.here hx rfl (hb hby d12_1) rfl rfl ?_
    show Steps p.tables e below (s₁.setTop (mkF m 2 #[.val (.ref ad), .val (.int (2 : Int32))] [(.ref ad), (.int (2 : Int32))])) _
    obtain ⟨cl125, Ar125, -, S125, N125, -, -⟩ := id Vd
    refine X0.arraylength hx (by rw [e0]; exact Ar125.1) (State.isArrayOf_alike hZ.alike Ar125.2.1) (g := (mkF m 2 #[.val (.ref ad), .val (.int (2 : Int32))] [(.ref ad), (.int (2 : Int32))])) rfl rfl (hb hby d12_2) _ ?_
    rw [len_of S125 N125]
    exact k
  obtain ⟨_, _, ⟨T126, L126, k126, n126⟩, -, X126, ⟨Lc126, hQ126, l126, y126, z126⟩, st126⟩ := Jvm.LawKit.callS X0 hx (y := (⟨"java/lang/String", "checkIndex", "(II)V"⟩ : MethodName)) hown (mvT hZ (own_w hw 67 rfl)) (mvT hZ (own_w hw 68 rfl)) (mvT hZ (own_w hw 2 rfl)) (mvT hZ (own_w hw 69 rfl)) (by decide) (backOf (W := 0) (rm13_2_3 l Z a0 hw [] vF h0 n0 Z0 O4 rF X00) hZ (own_w hw 69 rfl) (own_w hw 2 rfl) (by decide) (by decide)) (g := (mkF m 3 #[.val (.ref ad), .val (.int (2 : Int32))] [(.int (3 : Int32)), (.int (2 : Int32))])) rfl (by rw [hml]; rfl) (argsL := [(.int (2 : Int32)), (.int (3 : Int32))]) (rest := []) (lenOf own_pd6 rfl) rfl (by show 2 * 0 + _ ≤ _; exact Nat.le_of_eq rfl) (hb hby d12_3) (fun _ _ => ⟨rfl, e0, (by decide : 0 + 0 ≤ _), (by decide : 0 + 0 ≤ _)⟩)
  dsimp only [Pt.U, Pt.locs, Pt.cells, Pt.slots] at X126 l126 y126 z126 st126 hQ126
  replace y126 : _ = 0 := y126
  replace z126 : _ = 0 := z126
  subst y126 z126
  obtain ⟨rfl, Nq126, eq126⟩ := hQ126
  have N126 := own_frl l126 N0 Nq126
  refine own_pre (fun t k => st126 t k) ?_
  refine own_pre (A := (T126.setTop (mkF m 14 #[.val (.ref ad), .val (.int (2 : Int32))] [(.int cd)]))) ?_ ?_
  · intro t k
    refine XS.aloadN X126.here hx rfl (hb hby d12_6) rfl rfl ?_
    refine XS.iloadN X126.here hx rfl (hb hby d12_7) rfl ?_
    show Steps p.tables e below (T126.setTop (mkF m 8 #[.val (.ref ad), .val (.int (2 : Int32))] [(.int (2 : Int32)), (.ref ad)])) _
    obtain ⟨cl127, Ar127, q127, S127, N127, H127, G127⟩ := id Vd
    have hin127 : ¬ ((2 : Int32) < 0 ∨ cl127.slots.size ≤ ((2 : Int32)).toNatClampNeg) := inb_of S127 ⟨by decide, by decide⟩
    refine X126.baloadBytes hx (j := (2 : Int32)) (v := (.int cd)) (by rw [eq126]; exact Ar127.1) (State.isArrayOf_alike hZ.alike Ar127.2.1) Ar127.2.2 hin127 (H127.at hin127 rfl) (g := (mkF m 8 #[.val (.ref ad), .val (.int (2 : Int32))] [(.int (2 : Int32)), (.ref ad)])) rfl rfl (hb hby d12_8) _ ?_
    refine XS.sipush X126.here hx rfl (hb hby d12_9) ?_
    refine XS.iand X126.here hx rfl (hb hby d12_12) rfl ?_
    show Steps p.tables e below (T126.setTop (mkF m 13 #[.val (.ref ad), .val (.int (2 : Int32))] [(.int (cd &&& (255 : Int32)))])) _
    rw [own_ch_m cd hp_cd]
    refine XS.i2c X126.here hx rfl (hb hby d12_13) rfl ?_
    show Steps p.tables e below (T126.setTop (mkF m 14 #[.val (.ref ad), .val (.int (2 : Int32))] [(.int (cd.toUInt32.toUInt16.toUInt32.toInt32))])) _
    rw [own_ch_c cd hp_cd]
    exact k
  obtain ⟨fs, hr, hrun, hended, hW, hsame⟩ := X126.leave (hlocks := BodyLoose.notSynchronized Bd) (v := some (.int cd)) (fun h => by rw [Bd.returns] at h; cases h)
  refine ⟨_, _, retOut X126 hx Bd.returns (own_ch_ret cd hp_cd) (Or.inl ⟨rfl, Or.inr (Or.inr (Or.inr (Or.inl rfl))), _, rfl⟩) (hb hby d12_14) hr, hrun, hended, _, _, rfl, ?_, ⟨_, rfl⟩, hW, hsame.mono (by decide) (by decide)⟩
  show own_Q12_2_3 Z ad kd ca cb cd vF h0 n0 _ T126.heap _
  rw [eq126]
  exact ⟨N126, rfl, rfl⟩
def own_Q10_2_3 (Z : State) (ax : Addr) (ad : Addr) (kd : ClassId) (ca : Int32) (cb : Int32) (cd : Int32) (pG : Int32) (vF : Value) (h0 : Heap) (n0 : Nat) (v : Option Value) (h : Heap) (L : List Loc) : Prop := Fr n0 L ∧ v = some (.int cd) ∧ h = h0
set_option maxRecDepth 65536 in
set_option maxHeartbeats 40000000 in
theorem rm10_2_3 (l : Launch) (Z : State) (a0 : Array Value) (hw : ∀ d ∈ tables_1, d.before a0 Z = true) (ws : List Jvm.Cond) (ax : Addr) (ad : Addr) (kd : ClassId) (ca : Int32) (cb : Int32) (cd : Int32) (pG : Int32) (vF : Value) (h0 : Heap) (n0 : Nat) (Z0 : n0 ≤ h0.size) (Ea : Exa Z h0 ax "java/lang/String") (Fv : Fld Z h0 ax "java/lang/String" "value" "[B" (.ref ad)) (Fc : Fld Z h0 ax "java/lang/String" "coder" "B" (.int (0 : Int32))) (Vd : Arv Z h0 ad kd .byte (3 : Int32) [(.int ca), (.int cb), (.int cd)] (.int (0 : Int32))) (hp_ca : 0 ≤ ca.toInt ∧ ca.toInt < 128) (hp_cb : 0 ≤ cb.toInt ∧ cb.toInt < 128) (hp_cd : 0 ≤ cd.toInt ∧ cd.toInt < 128) (O2 : Sta Z Z.heap "java/lang/String" "COMPACT_STRINGS" "Z" (.int pG)) (hG : ¬ pG = (0 : Int32)) (X00 : Old Z n0 h0) (O4 : Sta Z Z.heap "jdk/internal/util/Preconditions" "SIOOBE_FORMATTER" "Ljava/util/function/BiFunction;" vF) (rF : vF.isRef = true) :
    MetFree l (⟨"java/lang/String", "charAt", "(I)C"⟩ : MethodName) (head1 (Jvm.Cond.code (⟨"java/lang/String", "charAt", "(I)C"⟩ : MethodName) jdk_42_method_56_code 2 (some .char) :: ws) ({ frames := 3, cells := 0, slots := 0, locals := 40 } : Room)) (fun a U => a = #[(.ref ax), (.int (2 : Int32))] ∧ Z.Warmed39 U.vm ∧ U.heap = h0) (fun _ _ _ _ _ => True) (fun _ U o U' => ∃ v L, o = .returned v ∧ own_Q10_2_3 Z ax ad kd ca cb cd pG vF h0 n0 v U'.heap L ∧ FrameEnd U o U' L ({ frames := 3, cells := 0, slots := 0, locals := 40 } : Room).cells ({ frames := 3, cells := 0, slots := 0, locals := 40 } : Room).slots) := by
  refine MetFree.of_bodySF (plainFor_of_name own_pn10) hisR ?_
  intro p e s m args below meth c s₁ Bd hml0 hP hK
  obtain ⟨rfl, hZ, hh⟩ := hP
  have hx := Bd.exec
  have hby := Bd.bytes
  have hml : c.maxLocals = 2 := hml0
  have hown : s.vm.findClass "java/lang/String" = some m.cls := findClass_of_methodNamed Bd.named
  have hnm := (name_of_methodNamed Bd.named Bd.method).1
  have X0 : Stand p l e ({ frames := 3, cells := 0, slots := 0, locals := 40 } : Room) s m #[(.ref ax), (.int (2 : Int32))] below meth c s₁ [] 0 0 := Stand.of_body Bd
  have e0 : s₁.heap = h0 := by rw [← hh, Bd.state]; rfl
  have N0 := Fr.nil n0
  refine own_pre (A := (s₁.setTop (mkF m 0 #[.val (.ref ax), .val (.int (2 : Int32))] []))) (fun t k => castTop (own_ef10 m ax (2 : Int32)) k) ?_
  refine own_pre (A := (s₁.setTop (mkF m 1 #[.val (.ref ax), .val (.int (2 : Int32))] [(.ref ax)]))) ?_ ?_
  · intro t k
    refine XS.aloadN X0.here hx rfl (hb hby d10_0) rfl rfl ?_
    exact k
  obtain ⟨cq128, kq128, q128a, q128b, q128c⟩ := isOf hZ e0 Ea
  obtain ⟨_, _, ⟨T128, L128, k128, n128⟩, -, X128, ⟨Lc128, hQ128, l128, y128, z128⟩, st128⟩ := X0.virtualBack hx (y := (⟨"java/lang/String", "isLatin1", "()Z"⟩ : MethodName)) (z := (⟨"java/lang/String", "isLatin1", "()Z"⟩ : MethodName)) hown (mvT hZ (own_w hw 58 rfl)) (mvT hZ (own_w hw 59 rfl)) (notFace_of_selects (args := #[]) (mvT hZ (own_w hw 61 rfl))) (mvT hZ (own_w hw 61 rfl)) (mvT hZ (own_w hw 60 rfl)) (by decide) (backOf (W := 0) (rm11 l Z a0 hw [] ax pG h0 n0 Z0 Fc O2 hG X00) hZ (own_w hw 62 rfl) (own_w hw 2 rfl) (by decide) (by decide)) q128a q128c (g := (mkF m 1 #[.val (.ref ax), .val (.int (2 : Int32))] [(.ref ax)])) rfl (by rw [hml]; rfl) (Steps.refl _) (argsL := []) (rest := []) (lenOf own_pd7 rfl) rfl (by show 2 * 0 + _ ≤ _; exact Nat.le_of_eq rfl) (hb hby d10_1) (fun _ _ => ⟨rfl, e0, (by decide : 0 + 0 ≤ _), (by decide : 0 + 0 ≤ _)⟩)
  dsimp only [Pt.U, Pt.locs, Pt.cells, Pt.slots] at X128 l128 y128 z128 st128 hQ128
  replace y128 : _ = 0 := y128
  replace z128 : _ = 0 := z128
  subst y128 z128
  obtain ⟨Nq128, rfl, eq128⟩ := hQ128
  have N128 := own_frl l128 N0 Nq128
  refine own_pre (fun t k => st128.trans k) ?_
  refine own_pre (A := (T128.setTop (mkF m 8 #[.val (.ref ax), .val (.int (2 : Int32))] [(.ref ax)]))) ?_ ?_
  · intro t k
    refine XS.ifNo X128.here hx rfl (hb hby d10_4) rfl ((if0 _ _).trans (feq (by decide : ¬ ((1 : Int32) = (0 : Int32)))).1) ?_
    refine XS.aloadN X128.here hx rfl (hb hby d10_7) rfl rfl ?_
    exact k
  obtain ⟨T129, X129, e129, st129⟩ := getF X128 hx hZ hown (host := "") (Or.inl (own_w hw 28 rfl)) Via.refl eq128 Fv (g := (mkF m 8 #[.val (.ref ax), .val (.int (2 : Int32))] [(.ref ax)])) rfl rfl (hb hby d10_8)
  refine own_pre (fun t k => st129 t k) ?_
  refine own_pre (A := (T129.setTop (mkF m 12 #[.val (.ref ax), .val (.int (2 : Int32))] [(.int (2 : Int32)), (.ref ad)]))) ?_ ?_
  · intro t k
    refine XS.iloadN X129.here hx rfl (hb hby d10_11) rfl ?_
    exact k
  obtain ⟨_, _, ⟨T130, L130, k130, n130⟩, -, X130, ⟨Lc130, hQ130, l130, y130, z130⟩, st130⟩ := Jvm.LawKit.callS X129 hx (y := (⟨"java/lang/StringLatin1", "charAt", "([BI)C"⟩ : MethodName)) hown (mvT hZ (own_w hw 63 rfl)) (mvT hZ (own_w hw 64 rfl)) (mvT hZ (own_w hw 65 rfl)) (mvT hZ (own_w hw 66 rfl)) (by decide) (backOf (W := 0) (rm12_2_3 l Z a0 hw [] ad kd ca cb cd vF h0 n0 Z0 Vd hp_ca hp_cb hp_cd O4 rF X00) hZ (own_w hw 66 rfl) (own_w hw 65 rfl) (by decide) (by decide)) (g := (mkF m 12 #[.val (.ref ax), .val (.int (2 : Int32))] [(.int (2 : Int32)), (.ref ad)])) rfl (by rw [hml]; rfl) (argsL := [(.ref ad), (.int (2 : Int32))]) (rest := []) (lenOf own_pd8 rfl) rfl (by show 2 * 0 + _ ≤ _; exact Nat.le_of_eq rfl) (hb hby d10_12) (fun _ _ => ⟨rfl, e129, (by decide : 0 + 0 ≤ _), (by decide : 0 + 0 ≤ _)⟩)
  dsimp only [Pt.U, Pt.locs, Pt.cells, Pt.slots] at X130 l130 y130 z130 st130 hQ130
  replace y130 : _ = 0 := y130
  replace z130 : _ = 0 := z130
  subst y130 z130
  obtain ⟨Nq130, rfl, eq130⟩ := hQ130
  have N130 := own_frl l130 N128 Nq130
  refine own_pre (fun t k => st130 t k) ?_
  obtain ⟨fs, hr, hrun, hended, hW, hsame⟩ := X130.leave (hlocks := BodyLoose.notSynchronized Bd) (v := some (.int cd)) (fun h => by rw [Bd.returns] at h; cases h)
  refine ⟨_, _, retOut X130 hx Bd.returns (own_ch_ret cd hp_cd) (Or.inl ⟨rfl, Or.inr (Or.inr (Or.inr (Or.inl rfl))), _, rfl⟩) (hb hby d10_15) hr, hrun, hended, _, _, rfl, ?_, ⟨_, rfl⟩, hW, hsame.mono (by decide) (by decide)⟩
  show own_Q10_2_3 Z ax ad kd ca cb cd pG vF h0 n0 _ T130.heap _
  rw [eq130]
  exact ⟨N130, rfl, rfl⟩
theorem d7_0 : decode prog_40_method_1_code 0 = .ok (.aload_n 0, 1) := by decide +kernel
theorem d7_1 : decode prog_40_method_1_code 1 = .ok (.invokespecial 1, 3) := by decide +kernel
theorem d7_4 : decode prog_40_method_1_code 4 = .ok (.aload_n 0, 1) := by decide +kernel
theorem d7_5 : decode prog_40_method_1_code 5 = .ok (.sipush 128, 3) := by decide +kernel
theorem d7_8 : decode prog_40_method_1_code 8 = .ok (.newarray .boolean, 2) := by decide +kernel
theorem d7_10 : decode prog_40_method_1_code 10 = .ok (.putfield 7, 3) := by decide +kernel
theorem d7_13 : decode prog_40_method_1_code 13 = .ok (.iconst 0, 1) := by decide +kernel
theorem d7_14 : decode prog_40_method_1_code 14 = .ok (.istore_n 3, 1) := by decide +kernel
theorem d7_15 : decode prog_40_method_1_code 15 = .ok (.iload_n 3, 1) := by decide +kernel
theorem d7_16 : decode prog_40_method_1_code 16 = .ok (.aload_n 1, 1) := by decide +kernel
theorem d7_17 : decode prog_40_method_1_code 17 = .ok (.invokevirtual 13, 3) := by decide +kernel
theorem d7_20 : decode prog_40_method_1_code 20 = .ok (.if_icmp .ge 20, 3) := by decide +kernel
theorem d7_23 : decode prog_40_method_1_code 23 = .ok (.aload_n 0, 1) := by decide +kernel
theorem d7_24 : decode prog_40_method_1_code 24 = .ok (.getfield 7, 3) := by decide +kernel
theorem d7_27 : decode prog_40_method_1_code 27 = .ok (.aload_n 1, 1) := by decide +kernel
theorem d7_28 : decode prog_40_method_1_code 28 = .ok (.iload_n 3, 1) := by decide +kernel
theorem d7_29 : decode prog_40_method_1_code 29 = .ok (.invokevirtual 19, 3) := by decide +kernel
theorem d7_32 : decode prog_40_method_1_code 32 = .ok (.iconst 1, 1) := by decide +kernel
theorem d7_33 : decode prog_40_method_1_code 33 = .ok (.bastore, 1) := by decide +kernel
theorem d7_34 : decode prog_40_method_1_code 34 = .ok (.iinc 3 1, 3) := by decide +kernel
theorem d7_37 : decode prog_40_method_1_code 37 = .ok (.goto (-22), 3) := by decide +kernel
theorem d7_40 : decode prog_40_method_1_code 40 = .ok (.aload_n 0, 1) := by decide +kernel
theorem d7_41 : decode prog_40_method_1_code 41 = .ok (.aload_n 2, 1) := by decide +kernel
theorem d7_42 : decode prog_40_method_1_code 42 = .ok (.putfield 23, 3) := by decide +kernel
theorem d7_45 : decode prog_40_method_1_code 45 = .ok (.return_, 1) := by decide +kernel
theorem own_pn7 : plainName "com/example/coho/coho/identifier/CharacterSet" = true := by first | (simp [plainName, overriddenIn]; done) | decide +kernel
theorem own_ef7 (m : MethodId) (x0 : Addr) (x1 : Addr) (x2 : Addr) : entryFrame m #[(.ref x0), (.ref x1), (.ref x2)] 4 = mkF m 0 #[.val (.ref x0), .val (.ref x1), .val (.ref x2), .unset] [] := by first | (simp [entryFrame, mkF, argsToLocals, Value.category]; done) | rfl
def own_Q7_0 (Z : State) (ax : Addr) (ast : Addr) (ade : Addr) (ad : Addr) (kd : ClassId) (pG : Int32) (vF : Value) (h0 : Heap) (n0 : Nat) (v : Option Value) (h : Heap) (L : List Loc) : Prop := v = none ∧ Fr n0 L ∧ Keep h0 h [ax] ∧ ∃ (am : Addr) (km : ClassId), Fld Z h ax "com/example/coho/coho/identifier/CharacterSet" "members" "[Z" (.ref am) ∧ Arh Z h am km .boolean (128 : Int32) [] [] (.int (0 : Int32))
set_option maxRecDepth 65536 in
set_option maxHeartbeats 40000000 in
theorem rm7_0 (l : Launch) (Z : State) (a0 : Array Value) (hw : ∀ d ∈ tables_1, d.before a0 Z = true) (ws : List Jvm.Cond) (ax : Addr) (ast : Addr) (ade : Addr) (ad : Addr) (kd : ClassId) (pG : Int32) (vF : Value) (h0 : Heap) (n0 : Nat) (Z0 : n0 ≤ h0.size) (Ea : Exa Z h0 ax "com/example/coho/coho/identifier/CharacterSet") (Fm : Fld Z h0 ax "com/example/coho/coho/identifier/CharacterSet" "members" "[Z" .null) (Fd : Fld Z h0 ax "com/example/coho/coho/identifier/CharacterSet" "description" "Ljava/lang/String;" .null) (ga : n0 ≤ ax) (Es : Exa Z h0 ast "java/lang/String") (Fv : Fld Z h0 ast "java/lang/String" "value" "[B" (.ref ad)) (Fc : Fld Z h0 ast "java/lang/String" "coder" "B" (.int (0 : Int32))) (Vd : Arv Z h0 ad kd .byte (0 : Int32) [] (.int (0 : Int32))) (nas : ax ≠ ast) (nad : ax ≠ ad) (O2 : Sta Z Z.heap "java/lang/String" "COMPACT_STRINGS" "Z" (.int pG)) (hG : ¬ pG = (0 : Int32)) (X00 : Old Z n0 h0) (O4 : Sta Z Z.heap "jdk/internal/util/Preconditions" "SIOOBE_FORMATTER" "Ljava/util/function/BiFunction;" vF) (rF : vF.isRef = true) :
    MetFree l (⟨"com/example/coho/coho/identifier/CharacterSet", "<init>", "(Ljava/lang/String;Ljava/lang/String;)V"⟩ : MethodName) (head1 (Jvm.Cond.code (⟨"com/example/coho/coho/identifier/CharacterSet", "<init>", "(Ljava/lang/String;Ljava/lang/String;)V"⟩ : MethodName) prog_40_method_1_code 4 none :: ws) ({ frames := 4, cells := 1, slots := 128, locals := 54 } : Room)) (fun a U => a = #[(.ref ax), (.ref ast), (.ref ade)] ∧ Z.Warmed39 U.vm ∧ U.heap = h0) (fun _ _ _ _ _ => True) (fun _ U o U' => ∃ v L, o = .returned v ∧ own_Q7_0 Z ax ast ade ad kd pG vF h0 n0 v U'.heap L ∧ FrameEnd U o U' L ({ frames := 4, cells := 1, slots := 128, locals := 54 } : Room).cells ({ frames := 4, cells := 1, slots := 128, locals := 54 } : Room).slots) := by
  refine MetFree.of_bodySF (plainFor_of_name own_pn7) hisR ?_
  intro p e s m args below meth c s₁ Bd hml0 hP hK
  obtain ⟨rfl, hZ, hh⟩ := hP
  have hx := Bd.exec
  have hby := Bd.bytes
  have hml : c.maxLocals = 4 := hml0
  have hown : s.vm.findClass "com/example/coho/coho/identifier/CharacterSet" = some m.cls := findClass_of_methodNamed Bd.named
  have hnm := (name_of_methodNamed Bd.named Bd.method).1
  have X0 : Stand p l e ({ frames := 4, cells := 1, slots := 128, locals := 54 } : Room) s m #[(.ref ax), (.ref ast), (.ref ade)] below meth c s₁ [] 0 0 := Stand.of_body Bd
  have e0 : s₁.heap = h0 := by rw [← hh, Bd.state]; rfl
  have N0 := Fr.nil n0
  refine own_pre (A := (s₁.setTop (mkF m 0 #[.val (.ref ax), .val (.ref ast), .val (.ref ade), .unset] []))) (fun t k => castTop (own_ef7 m ax ast ade) k) ?_
  refine own_pre (A := (s₁.setTop (mkF m 1 #[.val (.ref ax), .val (.ref ast), .val (.ref ade), .unset] [(.ref ax)]))) ?_ ?_
  · intro t k
    refine XS.aloadN X0.here hx rfl (hb hby d7_0) rfl rfl ?_
    exact k
  obtain ⟨T131, X131, e131, st131⟩ := initO X0 hx hZ hown (own_w hw 39 rfl) (own_w hw 12 rfl) (own_w hw 13 rfl) e0 (g := (mkF m 1 #[.val (.ref ax), .val (.ref ast), .val (.ref ade), .unset] [(.ref ax)])) rfl (by rw [hml]; rfl) rfl (hb hby d7_1) (by decide) (W := 0) (by show 2 * 0 + _ ≤ _; exact Nat.le_of_eq rfl) (by decide)
  refine own_pre (fun t k => st131 t k) ?_
  refine own_pre (A := (T131.setTop (mkF m 8 #[.val (.ref ax), .val (.ref ast), .val (.ref ade), .unset] [(.int (128 : Int32)), (.ref ax)]))) ?_ ?_
  · intro t k
    refine XS.aloadN X131.here hx rfl (hb hby d7_4) rfl rfl ?_
    refine XS.sipush X131.here hx rfl (hb hby d7_5) ?_
    exact k
  obtain ⟨T132, h132, k132, X132, e132, E132, A132, st132⟩ := newP X131 hx hZ (own_w hw 40 rfl) e131 (g := (mkF m 8 #[.val (.ref ax), .val (.ref ast), .val (.ref ade), .unset] [(.int (128 : Int32)), (.ref ax)])) rfl (hb hby d7_8) rfl (by decide) (cap := 128) (by decide) (by decide) (by decide) (by decide)
  obtain ⟨b132, g132⟩ : ∃ z, z = h0.size := ⟨_, rfl⟩
  rw [← g132] at A132 st132
  have ne_ax_b132 : ax ≠ b132 := Nat.ne_of_lt (Nat.lt_of_lt_of_le Ea.lt (Nat.le_of_eq g132.symm))
  have Ea_132 := Ea.ext E132
  have Fm_132 := Fm.ext E132
  have Fd_132 := Fd.ext E132
  have Es_132 := Es.ext E132
  have Fv_132 := Fv.ext E132
  have Fc_132 := Fc.ext E132
  have Vd_132 := Vd.ext E132
  have X00_132 := X00.ext E132
  have Zs132 : n0 ≤ h132.size := Nat.le_trans Z0 E132.1
  have Kc132 : Keep h0 h132 [ax] := (Keep.refl h0 [ax]).ext E132
  have V132 : Arh Z h132 b132 k132 .boolean (128 : Int32) [] [] (.int (0 : Int32)) := (Arv.new A132 (by decide)).arh
  refine own_pre (fun t k => st132 t k) ?_
  obtain ⟨T133, h133, X133, e133, W133, st133⟩ := putF X132 hx hZ hown (host := "") (Or.inl (own_w hw 41 rfl)) Via.refl e132 Fm_132 Ea_132 (Or.inr ⟨(own_w hw 42 rfl), rfl, hnm⟩) (own_w hw 31 rfl) (ty := (.array .boolean)) (by decide) rfl rfl (g := (mkF m 10 #[.val (.ref ax), .val (.ref ast), .val (.ref ade), .unset] [(.ref b132), (.ref ax)])) rfl rfl (hb hby d7_10)
  have Ea_133 := Ea_132.wr W133
  have Fd_133 := Fd_132.other W133 (Or.inr (slot_ne (Or.inr (own_w hw 76 rfl)) (Or.inr (own_w hw 42 rfl)) (by decide) (t := (.object "java/lang/String")) (t' := (.array .boolean)) (by decide) (by decide)))
  have Es_133 := Es_132.wr W133
  have Fv_133 := Fv_132.other W133 (Or.inl nas.symm)
  have Fc_133 := Fc_132.other W133 (Or.inl nas.symm)
  have Vd_133 := Vd_132.other W133 nad.symm
  have X00_133 := X00_132.wr W133 ga
  have V132_133 := V132.other W133 ne_ax_b132.symm
  have Zs133 : n0 ≤ h133.size := Nat.le_trans Zs132 (Keep.of_wr W133).1
  have Kc133 : Keep h0 h133 [ax] := Kc132.wr W133 (Or.inl (List.mem_of_getElem? (i := 0) rfl))
  have N133 := Fr.snoc X133 N0 ga
  have Fw133 := Fm_132.same W133
  refine own_pre (fun t k => st133 t k) ?_
  refine own_pre (A := (T133.setTop (mkF m 17 #[.val (.ref ax), .val (.ref ast), .val (.ref ade), .val (.int (0 : Int32))] [(.ref ast), (.int (0 : Int32))]))) ?_ ?_
  · intro t k
    refine XS.iconst X133.here hx rfl (hb hby d7_13) ?_
    refine XS.istoreN X133.here hx rfl (hb hby d7_14) rfl (l' := #[.val (.ref ax), .val (.ref ast), .val (.ref ade), .val (.int (0 : Int32))]) rfl ?_
    refine XS.iloadN X133.here hx rfl (hb hby d7_15) rfl ?_
    refine XS.aloadN X133.here hx rfl (hb hby d7_16) rfl rfl ?_
    exact k
  obtain ⟨cq134, kq134, q134a, q134b, q134c⟩ := isOf hZ e133 Es_133
  obtain ⟨_, _, ⟨T134, L134, k134, n134⟩, -, X134, ⟨Lc134, hQ134, l134, y134, z134⟩, st134⟩ := X133.virtualBack hx (y := (⟨"java/lang/String", "length", "()I"⟩ : MethodName)) (z := (⟨"java/lang/String", "length", "()I"⟩ : MethodName)) hown (mvT hZ (own_w hw 43 rfl)) (mvT hZ (own_w hw 44 rfl)) (notFace_of_selects (args := #[]) (mvT hZ (own_w hw 46 rfl))) (mvT hZ (own_w hw 46 rfl)) (mvT hZ (own_w hw 45 rfl)) (by decide) (backOf (W := 1) (rm8_0 l Z a0 hw [] ast ad kd  pG h133 n0 Zs133 Es_133 Fv_133 Fc_133 Vd_133 O2 hG X00_133) hZ (own_w hw 47 rfl) (own_w hw 2 rfl) (by decide) (by decide)) q134a q134c (g := (mkF m 17 #[.val (.ref ax), .val (.ref ast), .val (.ref ade), .val (.int (0 : Int32))] [(.ref ast), (.int (0 : Int32))])) rfl (by rw [hml]; rfl) (Steps.refl _) (argsL := []) (rest := [(.int (0 : Int32))]) (lenOf own_pd9 rfl) rfl (by show 2 * 0 + _ ≤ _; exact Nat.le_of_eq rfl) (hb hby d7_17) (fun _ _ => ⟨rfl, e133, (by decide : 1 + 0 ≤ _), (by decide : 128 + 0 ≤ _)⟩)
  dsimp only [Pt.U, Pt.locs, Pt.cells, Pt.slots] at X134 l134 y134 z134 st134 hQ134
  replace y134 : _ = 1 := y134
  replace z134 : _ = 128 := z134
  subst y134 z134
  obtain ⟨Nq134, rfl, eq134⟩ := hQ134
  have N134 := own_frl l134 N133 Nq134
  refine own_pre (fun t k => st134.trans k) ?_
  refine own_pre (A := (T134.setTop (mkF m 42 #[.val (.ref ax), .val (.ref ast), .val (.ref ade), .val (.int (0 : Int32))] [(.ref ade), (.ref ax)]))) ?_ ?_
  · intro t k
    refine XS.icmpYes X134.here hx rfl (pc0 := 20) (pc' := 40) rfl (hb hby d7_20) rfl (flt (by decide : ¬ ((0 : Int32) < (0 : Int32)))).2.1 (by decide) (by decide) ?_
    refine XS.aloadN X134.here hx rfl (hb hby d7_40) rfl rfl ?_
    refine XS.aloadN X134.here hx rfl (hb hby d7_41) rfl rfl ?_
    exact k
  obtain ⟨T135, h135, X135, e135, W135, st135⟩ := putF X134 hx hZ hown (host := "") (Or.inl (own_w hw 75 rfl)) Via.refl eq134 Fd_133 Ea_133 (Or.inr ⟨(own_w hw 76 rfl), rfl, hnm⟩) (own_w hw 31 rfl) (ty := (.object "java/lang/String")) (by decide) rfl rfl (g := (mkF m 42 #[.val (.ref ax), .val (.ref ast), .val (.ref ade), .val (.int (0 : Int32))] [(.ref ade), (.ref ax)])) rfl rfl (hb hby d7_42)
  have Fw133_135 := Fw133.other W135 (Or.inr (slot_ne (Or.inr (own_w hw 42 rfl)) (Or.inr (own_w hw 76 rfl)) (by decide) (t := (.array .boolean)) (t' := (.object "java/lang/String")) (by decide) (by decide)))
  have V132_135 := V132_133.other W135 ne_ax_b132.symm
  have Kc135 : Keep h0 h135 [ax] := Kc133.wr W135 (Or.inl (List.mem_of_getElem? (i := 0) rfl))
  have N135 := Fr.snoc X135 N134 ga
  refine own_pre (fun t k => st135 t k) ?_
  obtain ⟨fs, hr, hrun, hended, hW, hsame⟩ := X135.leave (hlocks := BodyLoose.notSynchronized Bd) (v := none) (fun _ => rfl)
  refine ⟨_, _, X135.returnOut hx Bd.returns (hb hby d7_45) hr, hrun, hended, _, _, rfl, ?_, ⟨_, rfl⟩, hW, hsame.mono (by decide) (by decide)⟩
  show own_Q7_0 Z ax ast ade ad kd pG vF h0 n0 _ T135.heap _
  rw [e135]
  exact ⟨rfl, N135, Kc135, b132, k132, Fw133_135, V132_135⟩
def own_mem0 (pc : Int32)  : Int32 := (0 : Int32)
theorem own_mem0_eq (pc : Int32)  : getH [] [] (.int (0 : Int32)) pc.toNatClampNeg = .int (own_mem0 pc ) := by
  simp only [getH, own_mem0, List.getD_nil]
  repeat' split
  all_goals rfl
theorem d15_0 : decode prog_40_method_2_code 0 = .ok (.iload_n 1, 1) := by decide +kernel
theorem d15_1 : decode prog_40_method_2_code 1 = .ok (.aload_n 0, 1) := by decide +kernel
theorem d15_2 : decode prog_40_method_2_code 2 = .ok (.getfield 7, 3) := by decide +kernel
theorem d15_5 : decode prog_40_method_2_code 5 = .ok (.arraylength, 1) := by decide +kernel
theorem d15_6 : decode prog_40_method_2_code 6 = .ok (.if_icmp .ge 16, 3) := by decide +kernel
theorem d15_9 : decode prog_40_method_2_code 9 = .ok (.aload_n 0, 1) := by decide +kernel
theorem d15_10 : decode prog_40_method_2_code 10 = .ok (.getfield 7, 3) := by decide +kernel
theorem d15_13 : decode prog_40_method_2_code 13 = .ok (.iload_n 1, 1) := by decide +kernel
theorem d15_14 : decode prog_40_method_2_code 14 = .ok (.baload, 1) := by decide +kernel
theorem d15_15 : decode prog_40_method_2_code 15 = .ok (.ifCond .eq 7, 3) := by decide +kernel
theorem d15_18 : decode prog_40_method_2_code 18 = .ok (.iconst 1, 1) := by decide +kernel
theorem d15_19 : decode prog_40_method_2_code 19 = .ok (.goto 4, 3) := by decide +kernel
theorem d15_22 : decode prog_40_method_2_code 22 = .ok (.iconst 0, 1) := by decide +kernel
theorem d15_23 : decode prog_40_method_2_code 23 = .ok (.ireturn, 1) := by decide +kernel
theorem own_pn15 : plainName "com/example/coho/coho/identifier/CharacterSet" = true := by first | (simp [plainName, overriddenIn]; done) | decide +kernel
theorem own_ef15 (m : MethodId) (x0 : Addr) (x1 : Int32) : entryFrame m #[(.ref x0), (.int x1)] 2 = mkF m 0 #[.val (.ref x0), .val (.int x1)] [] := by first | (simp [entryFrame, mkF, argsToLocals, Value.category]; done) | rfl
def own_ctn0 (pc : Int32) : Int32 := (if pc < (128 : Int32) then (if (own_mem0 pc ) = (0 : Int32) then (0 : Int32) else (1 : Int32)) else (0 : Int32))
def own_Q15_0 (Z : State) (ax : Addr) (pc : Int32) (am : Addr) (km : ClassId) (h0 : Heap) (n0 : Nat) (v : Option Value) (h : Heap) (L : List Loc) : Prop := v = some (.int (own_ctn0 pc)) ∧ Fr n0 L ∧ h = h0
set_option maxRecDepth 65536 in
set_option maxHeartbeats 40000000 in
theorem rm15_0 (l : Launch) (Z : State) (a0 : Array Value) (hw : ∀ d ∈ tables_1, d.before a0 Z = true) (ws : List Jvm.Cond) (ax : Addr) (pc : Int32) (am : Addr) (km : ClassId) (h0 : Heap) (n0 : Nat) (Z0 : n0 ≤ h0.size) (Fm : Fld Z h0 ax "com/example/coho/coho/identifier/CharacterSet" "members" "[Z" (.ref am)) (Vm : Arh Z h0 am km .boolean (128 : Int32) [] [] (.int (0 : Int32))) (hpc : ¬ pc < (0 : Int32)) :
    MetFree l (⟨"com/example/coho/coho/identifier/CharacterSet", "contains", "(C)Z"⟩ : MethodName) (head1 (Jvm.Cond.code (⟨"com/example/coho/coho/identifier/CharacterSet", "contains", "(C)Z"⟩ : MethodName) prog_40_method_2_code 2 (some .boolean) :: ws) ({ frames := 0, cells := 0, slots := 0, locals := 0 } : Room)) (fun a U => a = #[(.ref ax), (.int pc)] ∧ Z.Warmed39 U.vm ∧ U.heap = h0) (fun _ _ _ _ _ => True) (fun _ U o U' => ∃ v L, o = .returned v ∧ own_Q15_0 Z ax pc am km h0 n0 v U'.heap L ∧ FrameEnd U o U' L ({ frames := 0, cells := 0, slots := 0, locals := 0 } : Room).cells ({ frames := 0, cells := 0, slots := 0, locals := 0 } : Room).slots) := by
  refine MetFree.of_bodySF (plainFor_of_name own_pn15) hisR ?_
  intro p e s m args below meth c s₁ Bd hml0 hP hK
  obtain ⟨rfl, hZ, hh⟩ := hP
  have hx := Bd.exec
  have hby := Bd.bytes
  have hml : c.maxLocals = 2 := hml0
  have hown : s.vm.findClass "com/example/coho/coho/identifier/CharacterSet" = some m.cls := findClass_of_methodNamed Bd.named
  have hnm := (name_of_methodNamed Bd.named Bd.method).1
  have X0 : Stand p l e ({ frames := 0, cells := 0, slots := 0, locals := 0 } : Room) s m #[(.ref ax), (.int pc)] below meth c s₁ [] 0 0 := Stand.of_body Bd
  have e0 : s₁.heap = h0 := by rw [← hh, Bd.state]; rfl
  have N0 := Fr.nil n0
  refine own_pre (A := (s₁.setTop (mkF m 0 #[.val (.ref ax), .val (.int pc)] []))) (fun t k => castTop (own_ef15 m ax pc) k) ?_
  refine own_pre (A := (s₁.setTop (mkF m 2 #[.val (.ref ax), .val (.int pc)] [(.ref ax), (.int pc)]))) ?_ ?_
  · intro t k
    refine XS.iloadN X0.here hx rfl (hb hby d15_0) rfl ?_
    refine XS.aloadN X0.here hx rfl (hb hby d15_1) rfl rfl ?_
    exact k
  obtain ⟨T136, X136, e136, st136⟩ := getF X0 hx hZ hown (host := "") (Or.inl (own_w hw 41 rfl)) Via.refl e0 Fm (g := (mkF m 2 #[.val (.ref ax), .val (.int pc)] [(.ref ax), (.int pc)])) rfl rfl (hb hby d15_2)
  refine own_pre (fun t k => st136 t k) ?_
  refine own_pre (A := (T136.setTop (mkF m 6 #[.val (.ref ax), .val (.int pc)] [(.int (128 : Int32)), (.int pc)]))) ?_ ?_
  · intro t k
    show Steps p.tables e below (T136.setTop (mkF m 5 #[.val (.ref ax), .val (.int pc)] [(.ref am), (.int pc)])) _
    obtain ⟨cl137, Ar137, -, S137, N137, -, -⟩ := id Vm
    refine X136.arraylength hx (by rw [e136]; exact Ar137.1) (State.isArrayOf_alike hZ.alike Ar137.2.1) (g := (mkF m 5 #[.val (.ref ax), .val (.int pc)] [(.ref am), (.int pc)])) rfl rfl (hb hby d15_5) _ ?_
    rw [len_of S137 N137]
    exact k
  by_cases hc138 : pc < (128 : Int32)
  · skip
    refine own_pre (A := (T136.setTop (mkF m 9 #[.val (.ref ax), .val (.int pc)] []))) ?_ ?_
    · intro t k
      refine XS.icmpNo X136.here hx rfl (hb hby d15_6) rfl (tlt hc138).2.1 ?_
      exact k
    refine own_pre (A := (T136.setTop (mkF m 10 #[.val (.ref ax), .val (.int pc)] [(.ref ax)]))) ?_ ?_
    · intro t k
      refine XS.aloadN X136.here hx rfl (hb hby d15_9) rfl rfl ?_
      exact k
    obtain ⟨T139, X139, e139, st139⟩ := getF X136 hx hZ hown (host := "") (Or.inl (own_w hw 41 rfl)) Via.refl e136 Fm (g := (mkF m 10 #[.val (.ref ax), .val (.int pc)] [(.ref ax)])) rfl rfl (hb hby d15_10)
    refine own_pre (fun t k => st139 t k) ?_
    refine own_pre (A := (T139.setTop (mkF m 15 #[.val (.ref ax), .val (.int pc)] [(.int (own_mem0 pc ))]))) ?_ ?_
    · intro t k
      refine XS.iloadN X139.here hx rfl (hb hby d15_13) rfl ?_
      show Steps p.tables e below (T139.setTop (mkF m 14 #[.val (.ref ax), .val (.int pc)] [(.int pc), (.ref am)])) _
      obtain ⟨cl140, Ar140, q140, S140, N140, H140, G140⟩ := id Vm
      have hin140 : ¬ (pc < 0 ∨ cl140.slots.size ≤ (pc).toNatClampNeg) := inb_of S140 ⟨hpc, hc138⟩
      refine X139.baloadBooleans hx (j := pc) (v := (.int (own_mem0 pc ))) (by rw [e139]; exact Ar140.1) (State.isArrayOf_alike hZ.alike Ar140.2.1) Ar140.2.2 hin140 (atH H140 hin140 (own_mem0_eq pc )) (g := (mkF m 14 #[.val (.ref ax), .val (.int pc)] [(.int pc), (.ref am)])) rfl rfl (hb hby d15_14) _ ?_
      exact k
    by_cases hc141 : (own_mem0 pc ) = (0 : Int32)
    · skip
      refine own_pre (A := (T139.setTop (mkF m 22 #[.val (.ref ax), .val (.int pc)] []))) ?_ ?_
      · intro t k
        refine XS.ifYes X139.here hx rfl (pc0 := 15) (pc' := 22) rfl (hb hby d15_15) rfl ((if0 _ _).trans (teq hc141).1) (by decide) (by decide) ?_
        exact k
      refine own_pre (A := (T139.setTop (mkF m 23 #[.val (.ref ax), .val (.int pc)] [(.int (0 : Int32))]))) ?_ ?_
      · intro t k
        refine XS.iconst X139.here hx rfl (hb hby d15_22) ?_
        exact k
      have hz : own_ctn0 pc = (0 : Int32) := by simp only [own_ctn0, if_pos hc138, if_pos hc141]
      obtain ⟨fs, hr, hrun, hended, hW, hsame⟩ := X139.leave (hlocks := BodyLoose.notSynchronized Bd) (v := some (.int (0 : Int32))) (fun h => by rw [Bd.returns] at h; cases h)
      refine ⟨_, _, retOut X139 hx Bd.returns rfl (Or.inl ⟨rfl, Or.inr (Or.inl rfl), _, rfl⟩) (hb hby d15_23) hr, hrun, hended, _, _, rfl, ?_, ⟨_, rfl⟩, hW, hsame.mono (by decide) (by decide)⟩
      show own_Q15_0 Z ax pc am km h0 n0 _ T139.heap _
      rw [e139]
      exact ⟨by rw [hz], N0, rfl⟩
    · skip
      refine own_pre (A := (T139.setTop (mkF m 18 #[.val (.ref ax), .val (.int pc)] []))) ?_ ?_
      · intro t k
        refine XS.ifNo X139.here hx rfl (hb hby d15_15) rfl ((if0 _ _).trans (feq hc141).1) ?_
        exact k
      refine own_pre (A := (T139.setTop (mkF m 23 #[.val (.ref ax), .val (.int pc)] [(.int (1 : Int32))]))) ?_ ?_
      · intro t k
        refine XS.iconst X139.here hx rfl (hb hby d15_18) ?_
        refine XS.goto X139.here hx rfl (pc0 := 19) (pc' := 23) rfl (hb hby d15_19) (by decide) (by decide) ?_
        exact k
      have hz : own_ctn0 pc = (1 : Int32) := by simp only [own_ctn0, if_pos hc138, if_neg hc141]
      obtain ⟨fs, hr, hrun, hended, hW, hsame⟩ := X139.leave (hlocks := BodyLoose.notSynchronized Bd) (v := some (.int (1 : Int32))) (fun h => by rw [Bd.returns] at h; cases h)
      refine ⟨_, _, retOut X139 hx Bd.returns rfl (Or.inl ⟨rfl, Or.inr (Or.inl rfl), _, rfl⟩) (hb hby d15_23) hr, hrun, hended, _, _, rfl, ?_, ⟨_, rfl⟩, hW, hsame.mono (by decide) (by decide)⟩
      show own_Q15_0 Z ax pc am km h0 n0 _ T139.heap _
      rw [e139]
      exact ⟨by rw [hz], N0, rfl⟩
  · skip
    refine own_pre (A := (T136.setTop (mkF m 22 #[.val (.ref ax), .val (.int pc)] []))) ?_ ?_
    · intro t k
      refine XS.icmpYes X136.here hx rfl (pc0 := 6) (pc' := 22) rfl (hb hby d15_6) rfl (flt hc138).2.1 (by decide) (by decide) ?_
      exact k
    refine own_pre (A := (T136.setTop (mkF m 23 #[.val (.ref ax), .val (.int pc)] [(.int (0 : Int32))]))) ?_ ?_
    · intro t k
      refine XS.iconst X136.here hx rfl (hb hby d15_22) ?_
      exact k
    have hz : own_ctn0 pc = (0 : Int32) := by simp only [own_ctn0, if_neg hc138]
    obtain ⟨fs, hr, hrun, hended, hW, hsame⟩ := X136.leave (hlocks := BodyLoose.notSynchronized Bd) (v := some (.int (0 : Int32))) (fun h => by rw [Bd.returns] at h; cases h)
    refine ⟨_, _, retOut X136 hx Bd.returns rfl (Or.inl ⟨rfl, Or.inr (Or.inl rfl), _, rfl⟩) (hb hby d15_23) hr, hrun, hended, _, _, rfl, ?_, ⟨_, rfl⟩, hW, hsame.mono (by decide) (by decide)⟩
    show own_Q15_0 Z ax pc am km h0 n0 _ T136.heap _
    rw [e136]
    exact ⟨by rw [hz], N0, rfl⟩
theorem own_fin0 (pc : Int32)   (hpc : ¬ pc < (0 : Int32)) : own_ctn0 pc  = (0 : Int32) := by
  have hn := nat_of hpc
  have w : (128 : Int32).toInt = 128 := by decide
  simp only [own_ctn0, own_mem0, ← hn, Int32.lt_iff_toInt_lt, ← Int32.toInt_inj, w]
  repeat' split
  all_goals first | rfl | omega | (simp_all; done) | (exfalso; omega)
def own_Q7_1 (Z : State) (ax : Addr) (ast : Addr) (ade : Addr) (ad : Addr) (kd : ClassId) (ca : Int32) (pG : Int32) (vF : Value) (h0 : Heap) (n0 : Nat) (v : Option Value) (h : Heap) (L : List Loc) : Prop := v = none ∧ Fr n0 L ∧ Keep h0 h [ax] ∧ ∃ (am : Addr) (km : ClassId), Fld Z h ax "com/example/coho/coho/identifier/CharacterSet" "members" "[Z" (.ref am) ∧ Arh Z h am km .boolean (128 : Int32) [(ca, (.int (1 : Int32)))] [] (.int (0 : Int32))
set_option maxRecDepth 65536 in
set_option maxHeartbeats 40000000 in
theorem rm7_1 (l : Launch) (Z : State) (a0 : Array Value) (hw : ∀ d ∈ tables_1, d.before a0 Z = true) (ws : List Jvm.Cond) (ax : Addr) (ast : Addr) (ade : Addr) (ad : Addr) (kd : ClassId) (ca : Int32) (pG : Int32) (vF : Value) (h0 : Heap) (n0 : Nat) (Z0 : n0 ≤ h0.size) (Ea : Exa Z h0 ax "com/example/coho/coho/identifier/CharacterSet") (Fm : Fld Z h0 ax "com/example/coho/coho/identifier/CharacterSet" "members" "[Z" .null) (Fd : Fld Z h0 ax "com/example/coho/coho/identifier/CharacterSet" "description" "Ljava/lang/String;" .null) (ga : n0 ≤ ax) (Es : Exa Z h0 ast "java/lang/String") (Fv : Fld Z h0 ast "java/lang/String" "value" "[B" (.ref ad)) (Fc : Fld Z h0 ast "java/lang/String" "coder" "B" (.int (0 : Int32))) (Vd : Arv Z h0 ad kd .byte (1 : Int32) [(.int ca)] (.int (0 : Int32))) (nas : ax ≠ ast) (nad : ax ≠ ad) (hp_ca : 0 ≤ ca.toInt ∧ ca.toInt < 128) (O2 : Sta Z Z.heap "java/lang/String" "COMPACT_STRINGS" "Z" (.int pG)) (hG : ¬ pG = (0 : Int32)) (X00 : Old Z n0 h0) (O4 : Sta Z Z.heap "jdk/internal/util/Preconditions" "SIOOBE_FORMATTER" "Ljava/util/function/BiFunction;" vF) (rF : vF.isRef = true) :
    MetFree l (⟨"com/example/coho/coho/identifier/CharacterSet", "<init>", "(Ljava/lang/String;Ljava/lang/String;)V"⟩ : MethodName) (head1 (Jvm.Cond.code (⟨"com/example/coho/coho/identifier/CharacterSet", "<init>", "(Ljava/lang/String;Ljava/lang/String;)V"⟩ : MethodName) prog_40_method_1_code 4 none :: ws) ({ frames := 4, cells := 1, slots := 128, locals := 54 } : Room)) (fun a U => a = #[(.ref ax), (.ref ast), (.ref ade)] ∧ Z.Warmed39 U.vm ∧ U.heap = h0) (fun _ _ _ _ _ => True) (fun _ U o U' => ∃ v L, o = .returned v ∧ own_Q7_1 Z ax ast ade ad kd ca pG vF h0 n0 v U'.heap L ∧ FrameEnd U o U' L ({ frames := 4, cells := 1, slots := 128, locals := 54 } : Room).cells ({ frames := 4, cells := 1, slots := 128, locals := 54 } : Room).slots) := by
  refine MetFree.of_bodySF (plainFor_of_name own_pn7) hisR ?_
  intro p e s m args below meth c s₁ Bd hml0 hP hK
  obtain ⟨rfl, hZ, hh⟩ := hP
  have hx := Bd.exec
  have hby := Bd.bytes
  have hml : c.maxLocals = 4 := hml0
  have hown : s.vm.findClass "com/example/coho/coho/identifier/CharacterSet" = some m.cls := findClass_of_methodNamed Bd.named
  have hnm := (name_of_methodNamed Bd.named Bd.method).1
  have X0 : Stand p l e ({ frames := 4, cells := 1, slots := 128, locals := 54 } : Room) s m #[(.ref ax), (.ref ast), (.ref ade)] below meth c s₁ [] 0 0 := Stand.of_body Bd
  have e0 : s₁.heap = h0 := by rw [← hh, Bd.state]; rfl
  have N0 := Fr.nil n0
  refine own_pre (A := (s₁.setTop (mkF m 0 #[.val (.ref ax), .val (.ref ast), .val (.ref ade), .unset] []))) (fun t k => castTop (own_ef7 m ax ast ade) k) ?_
  refine own_pre (A := (s₁.setTop (mkF m 1 #[.val (.ref ax), .val (.ref ast), .val (.ref ade), .unset] [(.ref ax)]))) ?_ ?_
  · intro t k
    refine XS.aloadN X0.here hx rfl (hb hby d7_0) rfl rfl ?_
    exact k
  obtain ⟨T142, X142, e142, st142⟩ := initO X0 hx hZ hown (own_w hw 39 rfl) (own_w hw 12 rfl) (own_w hw 13 rfl) e0 (g := (mkF m 1 #[.val (.ref ax), .val (.ref ast), .val (.ref ade), .unset] [(.ref ax)])) rfl (by rw [hml]; rfl) rfl (hb hby d7_1) (by decide) (W := 0) (by show 2 * 0 + _ ≤ _; exact Nat.le_of_eq rfl) (by decide)
  refine own_pre (fun t k => st142 t k) ?_
  refine own_pre (A := (T142.setTop (mkF m 8 #[.val (.ref ax), .val (.ref ast), .val (.ref ade), .unset] [(.int (128 : Int32)), (.ref ax)]))) ?_ ?_
  · intro t k
    refine XS.aloadN X142.here hx rfl (hb hby d7_4) rfl rfl ?_
    refine XS.sipush X142.here hx rfl (hb hby d7_5) ?_
    exact k
  obtain ⟨T143, h143, k143, X143, e143, E143, A143, st143⟩ := newP X142 hx hZ (own_w hw 40 rfl) e142 (g := (mkF m 8 #[.val (.ref ax), .val (.ref ast), .val (.ref ade), .unset] [(.int (128 : Int32)), (.ref ax)])) rfl (hb hby d7_8) rfl (by decide) (cap := 128) (by decide) (by decide) (by decide) (by decide)
  obtain ⟨b143, g143⟩ : ∃ z, z = h0.size := ⟨_, rfl⟩
  rw [← g143] at A143 st143
  have ne_ad_b143 : ad ≠ b143 := Nat.ne_of_lt (Nat.lt_of_lt_of_le Vd.lt (Nat.le_of_eq g143.symm))
  have ne_ast_b143 : ast ≠ b143 := Nat.ne_of_lt (Nat.lt_of_lt_of_le Es.lt (Nat.le_of_eq g143.symm))
  have ne_ax_b143 : ax ≠ b143 := Nat.ne_of_lt (Nat.lt_of_lt_of_le Ea.lt (Nat.le_of_eq g143.symm))
  have gn_b143 : n0 ≤ b143 := Nat.le_trans Z0 (Nat.le_of_eq g143.symm)
  have sz_b143 : h0.size ≤ b143 := Nat.le_trans (Keep.refl h0 [ax]).1 (Nat.le_of_eq g143.symm)
  have Ea_143 := Ea.ext E143
  have Fm_143 := Fm.ext E143
  have Fd_143 := Fd.ext E143
  have Es_143 := Es.ext E143
  have Fv_143 := Fv.ext E143
  have Fc_143 := Fc.ext E143
  have Vd_143 := Vd.ext E143
  have X00_143 := X00.ext E143
  have Zs143 : n0 ≤ h143.size := Nat.le_trans Z0 E143.1
  have Kc143 : Keep h0 h143 [ax] := (Keep.refl h0 [ax]).ext E143
  have V143 : Arh Z h143 b143 k143 .boolean (128 : Int32) [] [] (.int (0 : Int32)) := (Arv.new A143 (by decide)).arh
  refine own_pre (fun t k => st143 t k) ?_
  obtain ⟨T144, h144, X144, e144, W144, st144⟩ := putF X143 hx hZ hown (host := "") (Or.inl (own_w hw 41 rfl)) Via.refl e143 Fm_143 Ea_143 (Or.inr ⟨(own_w hw 42 rfl), rfl, hnm⟩) (own_w hw 31 rfl) (ty := (.array .boolean)) (by decide) rfl rfl (g := (mkF m 10 #[.val (.ref ax), .val (.ref ast), .val (.ref ade), .unset] [(.ref b143), (.ref ax)])) rfl rfl (hb hby d7_10)
  have Ea_144 := Ea_143.wr W144
  have Fd_144 := Fd_143.other W144 (Or.inr (slot_ne (Or.inr (own_w hw 76 rfl)) (Or.inr (own_w hw 42 rfl)) (by decide) (t := (.object "java/lang/String")) (t' := (.array .boolean)) (by decide) (by decide)))
  have Es_144 := Es_143.wr W144
  have Fv_144 := Fv_143.other W144 (Or.inl nas.symm)
  have Fc_144 := Fc_143.other W144 (Or.inl nas.symm)
  have Vd_144 := Vd_143.other W144 nad.symm
  have X00_144 := X00_143.wr W144 ga
  have V143_144 := V143.other W144 ne_ax_b143.symm
  have Zs144 : n0 ≤ h144.size := Nat.le_trans Zs143 (Keep.of_wr W144).1
  have Kc144 : Keep h0 h144 [ax] := Kc143.wr W144 (Or.inl (List.mem_of_getElem? (i := 0) rfl))
  have N144 := Fr.snoc X144 N0 ga
  have Fw144 := Fm_143.same W144
  refine own_pre (fun t k => st144 t k) ?_
  refine own_pre (A := (T144.setTop (mkF m 17 #[.val (.ref ax), .val (.ref ast), .val (.ref ade), .val (.int (0 : Int32))] [(.ref ast), (.int (0 : Int32))]))) ?_ ?_
  · intro t k
    refine XS.iconst X144.here hx rfl (hb hby d7_13) ?_
    refine XS.istoreN X144.here hx rfl (hb hby d7_14) rfl (l' := #[.val (.ref ax), .val (.ref ast), .val (.ref ade), .val (.int (0 : Int32))]) rfl ?_
    refine XS.iloadN X144.here hx rfl (hb hby d7_15) rfl ?_
    refine XS.aloadN X144.here hx rfl (hb hby d7_16) rfl rfl ?_
    exact k
  obtain ⟨cq145, kq145, q145a, q145b, q145c⟩ := isOf hZ e144 Es_144
  obtain ⟨_, _, ⟨T145, L145, k145, n145⟩, -, X145, ⟨Lc145, hQ145, l145, y145, z145⟩, st145⟩ := X144.virtualBack hx (y := (⟨"java/lang/String", "length", "()I"⟩ : MethodName)) (z := (⟨"java/lang/String", "length", "()I"⟩ : MethodName)) hown (mvT hZ (own_w hw 43 rfl)) (mvT hZ (own_w hw 44 rfl)) (notFace_of_selects (args := #[]) (mvT hZ (own_w hw 46 rfl))) (mvT hZ (own_w hw 46 rfl)) (mvT hZ (own_w hw 45 rfl)) (by decide) (backOf (W := 1) (rm8_1 l Z a0 hw [] ast ad kd ca pG h144 n0 Zs144 Es_144 Fv_144 Fc_144 Vd_144 O2 hG X00_144) hZ (own_w hw 47 rfl) (own_w hw 2 rfl) (by decide) (by decide)) q145a q145c (g := (mkF m 17 #[.val (.ref ax), .val (.ref ast), .val (.ref ade), .val (.int (0 : Int32))] [(.ref ast), (.int (0 : Int32))])) rfl (by rw [hml]; rfl) (Steps.refl _) (argsL := []) (rest := [(.int (0 : Int32))]) (lenOf own_pd9 rfl) rfl (by show 2 * 0 + _ ≤ _; exact Nat.le_of_eq rfl) (hb hby d7_17) (fun _ _ => ⟨rfl, e144, (by decide : 1 + 0 ≤ _), (by decide : 128 + 0 ≤ _)⟩)
  dsimp only [Pt.U, Pt.locs, Pt.cells, Pt.slots] at X145 l145 y145 z145 st145 hQ145
  replace y145 : _ = 1 := y145
  replace z145 : _ = 128 := z145
  subst y145 z145
  obtain ⟨Nq145, rfl, eq145⟩ := hQ145
  have N145 := own_frl l145 N144 Nq145
  refine own_pre (fun t k => st145.trans k) ?_
  refine own_pre (A := (T145.setTop (mkF m 24 #[.val (.ref ax), .val (.ref ast), .val (.ref ade), .val (.int (0 : Int32))] [(.ref ax)]))) ?_ ?_
  · intro t k
    refine XS.icmpNo X145.here hx rfl (hb hby d7_20) rfl (tlt (by decide : (0 : Int32) < (1 : Int32))).2.1 ?_
    refine XS.aloadN X145.here hx rfl (hb hby d7_23) rfl rfl ?_
    exact k
  obtain ⟨T146, X146, e146, st146⟩ := getF X145 hx hZ hown (host := "") (Or.inl (own_w hw 41 rfl)) Via.refl eq145 Fw144 (g := (mkF m 24 #[.val (.ref ax), .val (.ref ast), .val (.ref ade), .val (.int (0 : Int32))] [(.ref ax)])) rfl rfl (hb hby d7_24)
  refine own_pre (fun t k => st146 t k) ?_
  refine own_pre (A := (T146.setTop (mkF m 29 #[.val (.ref ax), .val (.ref ast), .val (.ref ade), .val (.int (0 : Int32))] [(.int (0 : Int32)), (.ref ast), (.ref b143)]))) ?_ ?_
  · intro t k
    refine XS.aloadN X146.here hx rfl (hb hby d7_27) rfl rfl ?_
    refine XS.iloadN X146.here hx rfl (hb hby d7_28) rfl ?_
    exact k
  obtain ⟨cq147, kq147, q147a, q147b, q147c⟩ := isOf hZ e146 Es_144
  obtain ⟨_, _, ⟨T147, L147, k147, n147⟩, -, X147, ⟨Lc147, hQ147, l147, y147, z147⟩, st147⟩ := X146.virtualBack hx (y := (⟨"java/lang/String", "charAt", "(I)C"⟩ : MethodName)) (z := (⟨"java/lang/String", "charAt", "(I)C"⟩ : MethodName)) hown (mvT hZ (own_w hw 53 rfl)) (mvT hZ (own_w hw 54 rfl)) (notFace_of_selects (args := #[]) (mvT hZ (own_w hw 56 rfl))) (mvT hZ (own_w hw 56 rfl)) (mvT hZ (own_w hw 55 rfl)) (by decide) (backOf (W := 1) (rm10_0_1 l Z a0 hw [] ast ad kd ca pG vF h144 n0 Zs144 Es_144 Fv_144 Fc_144 Vd_144 hp_ca O2 hG X00_144 O4 rF) hZ (own_w hw 57 rfl) (own_w hw 2 rfl) (by decide) (by decide)) q147a q147c (g := (mkF m 29 #[.val (.ref ax), .val (.ref ast), .val (.ref ade), .val (.int (0 : Int32))] [(.int (0 : Int32)), (.ref ast), (.ref b143)])) rfl (by rw [hml]; rfl) (Steps.refl _) (argsL := [(.int (0 : Int32))]) (rest := [(.ref b143)]) (lenOf own_pd10 rfl) rfl (by show 2 * 0 + _ ≤ _; exact Nat.le_of_eq rfl) (hb hby d7_29) (fun _ _ => ⟨rfl, e146, (by decide : 1 + 0 ≤ _), (by decide : 128 + 0 ≤ _)⟩)
  dsimp only [Pt.U, Pt.locs, Pt.cells, Pt.slots] at X147 l147 y147 z147 st147 hQ147
  replace y147 : _ = 1 := y147
  replace z147 : _ = 128 := z147
  subst y147 z147
  obtain ⟨Nq147, rfl, eq147⟩ := hQ147
  have N147 := own_frl l147 N145 Nq147
  refine own_pre (fun t k => st147.trans k) ?_
  refine own_pre (A := (T147.setTop (mkF m 33 #[.val (.ref ax), .val (.ref ast), .val (.ref ade), .val (.int (0 : Int32))] [(.int (1 : Int32)), (.int ca), (.ref b143)]))) ?_ ?_
  · intro t k
    refine XS.iconst X147.here hx rfl (hb hby d7_32) ?_
    exact k
  obtain ⟨cl148, Ar148, q148, S148, N148, H148, G148⟩ := V143_144
  have hin148 : ¬ (ca < 0 ∨ cl148.slots.size ≤ (ca).toNatClampNeg) := inb_of S148 (own_ch_in ca hp_ca)
  obtain ⟨T148, h148, X148, e148, W148, st148⟩ := stZ X147 hx hZ eq147 Ar148 (j := ca) hin148 (g := (mkF m 33 #[.val (.ref ax), .val (.ref ast), .val (.ref ade), .val (.int (0 : Int32))] [(.int (1 : Int32)), (.int ca), (.ref b143)])) rfl rfl (hb hby d7_33)
  have V148 : Arh Z h148 b143 k143 .boolean (128 : Int32) [(ca, (.int (1 : Int32)))] [] (.int (0 : Int32)) := Arh.push Ar148 q148 S148 N148 H148 G148 rfl W148 hin148
  have Ea_148 := Ea_144.wr W148
  have Fw144_148 := Fw144.other W148 (Or.inl ne_ax_b143)
  have Fd_148 := Fd_144.other W148 (Or.inl ne_ax_b143)
  have Es_148 := Es_144.wr W148
  have Fv_148 := Fv_144.other W148 (Or.inl ne_ast_b143)
  have Fc_148 := Fc_144.other W148 (Or.inl ne_ast_b143)
  have Vd_148 := Vd_144.other W148 ne_ad_b143
  have X00_148 := X00_144.wr W148 gn_b143
  have Zs148 : n0 ≤ h148.size := Nat.le_trans Zs144 (Keep.of_wr W148).1
  have Kc148 : Keep h0 h148 [ax] := Kc144.wr W148 (Or.inr sz_b143)
  have N148 := Fr.snoc X148 N147 gn_b143
  refine own_pre (fun t k => st148 t k) ?_
  refine own_pre (A := (T148.setTop (mkF m 17 #[.val (.ref ax), .val (.ref ast), .val (.ref ade), .val (.int (1 : Int32))] [(.ref ast), (.int (1 : Int32))]))) ?_ ?_
  · intro t k
    refine XS.iinc X148.here hx rfl (hb hby d7_34) rfl (l' := #[.val (.ref ax), .val (.ref ast), .val (.ref ade), .val (.int ((0 : Int32) + (1 : Int32)))]) rfl ?_
    show Steps  p.tables e below (T148.setTop (mkF m 37 #[.val (.ref ax), .val (.ref ast), .val (.ref ade), .val (.int ((0 : Int32) + (1 : Int32)))] [])) _
    rw [show ((0 : Int32) + (1 : Int32)) = (1 : Int32) from by decide]
    refine XS.goto X148.here hx rfl (pc0 := 37) (pc' := 15) rfl (hb hby d7_37) (by decide) (by decide) ?_
    refine XS.iloadN X148.here hx rfl (hb hby d7_15) rfl ?_
    refine XS.aloadN X148.here hx rfl (hb hby d7_16) rfl rfl ?_
    exact k
  obtain ⟨cq149, kq149, q149a, q149b, q149c⟩ := isOf hZ e148 Es_148
  obtain ⟨_, _, ⟨T149, L149, k149, n149⟩, -, X149, ⟨Lc149, hQ149, l149, y149, z149⟩, st149⟩ := X148.virtualBack hx (y := (⟨"java/lang/String", "length", "()I"⟩ : MethodName)) (z := (⟨"java/lang/String", "length", "()I"⟩ : MethodName)) hown (mvT hZ (own_w hw 43 rfl)) (mvT hZ (own_w hw 44 rfl)) (notFace_of_selects (args := #[]) (mvT hZ (own_w hw 46 rfl))) (mvT hZ (own_w hw 46 rfl)) (mvT hZ (own_w hw 45 rfl)) (by decide) (backOf (W := 1) (rm8_1 l Z a0 hw [] ast ad kd ca pG h148 n0 Zs148 Es_148 Fv_148 Fc_148 Vd_148 O2 hG X00_148) hZ (own_w hw 47 rfl) (own_w hw 2 rfl) (by decide) (by decide)) q149a q149c (g := (mkF m 17 #[.val (.ref ax), .val (.ref ast), .val (.ref ade), .val (.int (1 : Int32))] [(.ref ast), (.int (1 : Int32))])) rfl (by rw [hml]; rfl) (Steps.refl _) (argsL := []) (rest := [(.int (1 : Int32))]) (lenOf own_pd9 rfl) rfl (by show 2 * 0 + _ ≤ _; exact Nat.le_of_eq rfl) (hb hby d7_17) (fun _ _ => ⟨rfl, e148, (by decide : 1 + 0 ≤ _), (by decide : 128 + 0 ≤ _)⟩)
  dsimp only [Pt.U, Pt.locs, Pt.cells, Pt.slots] at X149 l149 y149 z149 st149 hQ149
  replace y149 : _ = 1 := y149
  replace z149 : _ = 128 := z149
  subst y149 z149
  obtain ⟨Nq149, rfl, eq149⟩ := hQ149
  have N149 := own_frl l149 N148 Nq149
  refine own_pre (fun t k => st149.trans k) ?_
  refine own_pre (A := (T149.setTop (mkF m 42 #[.val (.ref ax), .val (.ref ast), .val (.ref ade), .val (.int (1 : Int32))] [(.ref ade), (.ref ax)]))) ?_ ?_
  · intro t k
    refine XS.icmpYes X149.here hx rfl (pc0 := 20) (pc' := 40) rfl (hb hby d7_20) rfl (flt (by decide : ¬ ((1 : Int32) < (1 : Int32)))).2.1 (by decide) (by decide) ?_
    refine XS.aloadN X149.here hx rfl (hb hby d7_40) rfl rfl ?_
    refine XS.aloadN X149.here hx rfl (hb hby d7_41) rfl rfl ?_
    exact k
  obtain ⟨T150, h150, X150, e150, W150, st150⟩ := putF X149 hx hZ hown (host := "") (Or.inl (own_w hw 75 rfl)) Via.refl eq149 Fd_148 Ea_148 (Or.inr ⟨(own_w hw 76 rfl), rfl, hnm⟩) (own_w hw 31 rfl) (ty := (.object "java/lang/String")) (by decide) rfl rfl (g := (mkF m 42 #[.val (.ref ax), .val (.ref ast), .val (.ref ade), .val (.int (1 : Int32))] [(.ref ade), (.ref ax)])) rfl rfl (hb hby d7_42)
  have Fw144_150 := Fw144_148.other W150 (Or.inr (slot_ne (Or.inr (own_w hw 42 rfl)) (Or.inr (own_w hw 76 rfl)) (by decide) (t := (.array .boolean)) (t' := (.object "java/lang/String")) (by decide) (by decide)))
  have V148_150 := V148.other W150 ne_ax_b143.symm
  have Kc150 : Keep h0 h150 [ax] := Kc148.wr W150 (Or.inl (List.mem_of_getElem? (i := 0) rfl))
  have N150 := Fr.snoc X150 N149 ga
  refine own_pre (fun t k => st150 t k) ?_
  obtain ⟨fs, hr, hrun, hended, hW, hsame⟩ := X150.leave (hlocks := BodyLoose.notSynchronized Bd) (v := none) (fun _ => rfl)
  refine ⟨_, _, X150.returnOut hx Bd.returns (hb hby d7_45) hr, hrun, hended, _, _, rfl, ?_, ⟨_, rfl⟩, hW, hsame.mono (by decide) (by decide)⟩
  show own_Q7_1 Z ax ast ade ad kd ca pG vF h0 n0 _ T150.heap _
  rw [e150]
  exact ⟨rfl, N150, Kc150, b143, k143, Fw144_150, V148_150⟩
def own_mem1 (pc : Int32) (ca : Int32) : Int32 := (if ca.toInt = (pc.toNatClampNeg : Int) then (1 : Int32) else (0 : Int32))
theorem own_mem1_eq (pc : Int32) (ca : Int32) : getH [(ca, (.int (1 : Int32)))] [] (.int (0 : Int32)) pc.toNatClampNeg = .int (own_mem1 pc ca) := by
  simp only [getH, own_mem1, List.getD_nil]
  repeat' split
  all_goals rfl
def own_ctn1 (pc : Int32) (ca : Int32) : Int32 := (if pc < (128 : Int32) then (if (own_mem1 pc ca) = (0 : Int32) then (0 : Int32) else (1 : Int32)) else (0 : Int32))
def own_Q15_1 (Z : State) (ax : Addr) (pc : Int32) (am : Addr) (km : ClassId) (ca : Int32) (h0 : Heap) (n0 : Nat) (v : Option Value) (h : Heap) (L : List Loc) : Prop := v = some (.int (own_ctn1 pc ca)) ∧ Fr n0 L ∧ h = h0
set_option maxRecDepth 65536 in
set_option maxHeartbeats 40000000 in
theorem rm15_1 (l : Launch) (Z : State) (a0 : Array Value) (hw : ∀ d ∈ tables_1, d.before a0 Z = true) (ws : List Jvm.Cond) (ax : Addr) (pc : Int32) (am : Addr) (km : ClassId) (ca : Int32) (h0 : Heap) (n0 : Nat) (Z0 : n0 ≤ h0.size) (Fm : Fld Z h0 ax "com/example/coho/coho/identifier/CharacterSet" "members" "[Z" (.ref am)) (Vm : Arh Z h0 am km .boolean (128 : Int32) [(ca, (.int (1 : Int32)))] [] (.int (0 : Int32))) (hpc : ¬ pc < (0 : Int32)) :
    MetFree l (⟨"com/example/coho/coho/identifier/CharacterSet", "contains", "(C)Z"⟩ : MethodName) (head1 (Jvm.Cond.code (⟨"com/example/coho/coho/identifier/CharacterSet", "contains", "(C)Z"⟩ : MethodName) prog_40_method_2_code 2 (some .boolean) :: ws) ({ frames := 0, cells := 0, slots := 0, locals := 0 } : Room)) (fun a U => a = #[(.ref ax), (.int pc)] ∧ Z.Warmed39 U.vm ∧ U.heap = h0) (fun _ _ _ _ _ => True) (fun _ U o U' => ∃ v L, o = .returned v ∧ own_Q15_1 Z ax pc am km ca h0 n0 v U'.heap L ∧ FrameEnd U o U' L ({ frames := 0, cells := 0, slots := 0, locals := 0 } : Room).cells ({ frames := 0, cells := 0, slots := 0, locals := 0 } : Room).slots) := by
  refine MetFree.of_bodySF (plainFor_of_name own_pn15) hisR ?_
  intro p e s m args below meth c s₁ Bd hml0 hP hK
  obtain ⟨rfl, hZ, hh⟩ := hP
  have hx := Bd.exec
  have hby := Bd.bytes
  have hml : c.maxLocals = 2 := hml0
  have hown : s.vm.findClass "com/example/coho/coho/identifier/CharacterSet" = some m.cls := findClass_of_methodNamed Bd.named
  have hnm := (name_of_methodNamed Bd.named Bd.method).1
  have X0 : Stand p l e ({ frames := 0, cells := 0, slots := 0, locals := 0 } : Room) s m #[(.ref ax), (.int pc)] below meth c s₁ [] 0 0 := Stand.of_body Bd
  have e0 : s₁.heap = h0 := by rw [← hh, Bd.state]; rfl
  have N0 := Fr.nil n0
  refine own_pre (A := (s₁.setTop (mkF m 0 #[.val (.ref ax), .val (.int pc)] []))) (fun t k => castTop (own_ef15 m ax pc) k) ?_
  refine own_pre (A := (s₁.setTop (mkF m 2 #[.val (.ref ax), .val (.int pc)] [(.ref ax), (.int pc)]))) ?_ ?_
  · intro t k
    refine XS.iloadN X0.here hx rfl (hb hby d15_0) rfl ?_
    refine XS.aloadN X0.here hx rfl (hb hby d15_1) rfl rfl ?_
    exact k
  obtain ⟨T151, X151, e151, st151⟩ := getF X0 hx hZ hown (host := "") (Or.inl (own_w hw 41 rfl)) Via.refl e0 Fm (g := (mkF m 2 #[.val (.ref ax), .val (.int pc)] [(.ref ax), (.int pc)])) rfl rfl (hb hby d15_2)
  refine own_pre (fun t k => st151 t k) ?_
  refine own_pre (A := (T151.setTop (mkF m 6 #[.val (.ref ax), .val (.int pc)] [(.int (128 : Int32)), (.int pc)]))) ?_ ?_
  · intro t k
    show Steps p.tables e below (T151.setTop (mkF m 5 #[.val (.ref ax), .val (.int pc)] [(.ref am), (.int pc)])) _
    obtain ⟨cl152, Ar152, -, S152, N152, -, -⟩ := id Vm
    refine X151.arraylength hx (by rw [e151]; exact Ar152.1) (State.isArrayOf_alike hZ.alike Ar152.2.1) (g := (mkF m 5 #[.val (.ref ax), .val (.int pc)] [(.ref am), (.int pc)])) rfl rfl (hb hby d15_5) _ ?_
    rw [len_of S152 N152]
    exact k
  by_cases hc153 : pc < (128 : Int32)
  · skip
    refine own_pre (A := (T151.setTop (mkF m 9 #[.val (.ref ax), .val (.int pc)] []))) ?_ ?_
    · intro t k
      refine XS.icmpNo X151.here hx rfl (hb hby d15_6) rfl (tlt hc153).2.1 ?_
      exact k
    refine own_pre (A := (T151.setTop (mkF m 10 #[.val (.ref ax), .val (.int pc)] [(.ref ax)]))) ?_ ?_
    · intro t k
      refine XS.aloadN X151.here hx rfl (hb hby d15_9) rfl rfl ?_
      exact k
    obtain ⟨T154, X154, e154, st154⟩ := getF X151 hx hZ hown (host := "") (Or.inl (own_w hw 41 rfl)) Via.refl e151 Fm (g := (mkF m 10 #[.val (.ref ax), .val (.int pc)] [(.ref ax)])) rfl rfl (hb hby d15_10)
    refine own_pre (fun t k => st154 t k) ?_
    refine own_pre (A := (T154.setTop (mkF m 15 #[.val (.ref ax), .val (.int pc)] [(.int (own_mem1 pc ca))]))) ?_ ?_
    · intro t k
      refine XS.iloadN X154.here hx rfl (hb hby d15_13) rfl ?_
      show Steps p.tables e below (T154.setTop (mkF m 14 #[.val (.ref ax), .val (.int pc)] [(.int pc), (.ref am)])) _
      obtain ⟨cl155, Ar155, q155, S155, N155, H155, G155⟩ := id Vm
      have hin155 : ¬ (pc < 0 ∨ cl155.slots.size ≤ (pc).toNatClampNeg) := inb_of S155 ⟨hpc, hc153⟩
      refine X154.baloadBooleans hx (j := pc) (v := (.int (own_mem1 pc ca))) (by rw [e154]; exact Ar155.1) (State.isArrayOf_alike hZ.alike Ar155.2.1) Ar155.2.2 hin155 (atH H155 hin155 (own_mem1_eq pc ca)) (g := (mkF m 14 #[.val (.ref ax), .val (.int pc)] [(.int pc), (.ref am)])) rfl rfl (hb hby d15_14) _ ?_
      exact k
    by_cases hc156 : (own_mem1 pc ca) = (0 : Int32)
    · skip
      refine own_pre (A := (T154.setTop (mkF m 22 #[.val (.ref ax), .val (.int pc)] []))) ?_ ?_
      · intro t k
        refine XS.ifYes X154.here hx rfl (pc0 := 15) (pc' := 22) rfl (hb hby d15_15) rfl ((if0 _ _).trans (teq hc156).1) (by decide) (by decide) ?_
        exact k
      refine own_pre (A := (T154.setTop (mkF m 23 #[.val (.ref ax), .val (.int pc)] [(.int (0 : Int32))]))) ?_ ?_
      · intro t k
        refine XS.iconst X154.here hx rfl (hb hby d15_22) ?_
        exact k
      have hz : own_ctn1 pc ca = (0 : Int32) := by simp only [own_ctn1, if_pos hc153, if_pos hc156]
      obtain ⟨fs, hr, hrun, hended, hW, hsame⟩ := X154.leave (hlocks := BodyLoose.notSynchronized Bd) (v := some (.int (0 : Int32))) (fun h => by rw [Bd.returns] at h; cases h)
      refine ⟨_, _, retOut X154 hx Bd.returns rfl (Or.inl ⟨rfl, Or.inr (Or.inl rfl), _, rfl⟩) (hb hby d15_23) hr, hrun, hended, _, _, rfl, ?_, ⟨_, rfl⟩, hW, hsame.mono (by decide) (by decide)⟩
      show own_Q15_1 Z ax pc am km ca h0 n0 _ T154.heap _
      rw [e154]
      exact ⟨by rw [hz], N0, rfl⟩
    · skip
      refine own_pre (A := (T154.setTop (mkF m 18 #[.val (.ref ax), .val (.int pc)] []))) ?_ ?_
      · intro t k
        refine XS.ifNo X154.here hx rfl (hb hby d15_15) rfl ((if0 _ _).trans (feq hc156).1) ?_
        exact k
      refine own_pre (A := (T154.setTop (mkF m 23 #[.val (.ref ax), .val (.int pc)] [(.int (1 : Int32))]))) ?_ ?_
      · intro t k
        refine XS.iconst X154.here hx rfl (hb hby d15_18) ?_
        refine XS.goto X154.here hx rfl (pc0 := 19) (pc' := 23) rfl (hb hby d15_19) (by decide) (by decide) ?_
        exact k
      have hz : own_ctn1 pc ca = (1 : Int32) := by simp only [own_ctn1, if_pos hc153, if_neg hc156]
      obtain ⟨fs, hr, hrun, hended, hW, hsame⟩ := X154.leave (hlocks := BodyLoose.notSynchronized Bd) (v := some (.int (1 : Int32))) (fun h => by rw [Bd.returns] at h; cases h)
      refine ⟨_, _, retOut X154 hx Bd.returns rfl (Or.inl ⟨rfl, Or.inr (Or.inl rfl), _, rfl⟩) (hb hby d15_23) hr, hrun, hended, _, _, rfl, ?_, ⟨_, rfl⟩, hW, hsame.mono (by decide) (by decide)⟩
      show own_Q15_1 Z ax pc am km ca h0 n0 _ T154.heap _
      rw [e154]
      exact ⟨by rw [hz], N0, rfl⟩
  · skip
    refine own_pre (A := (T151.setTop (mkF m 22 #[.val (.ref ax), .val (.int pc)] []))) ?_ ?_
    · intro t k
      refine XS.icmpYes X151.here hx rfl (pc0 := 6) (pc' := 22) rfl (hb hby d15_6) rfl (flt hc153).2.1 (by decide) (by decide) ?_
      exact k
    refine own_pre (A := (T151.setTop (mkF m 23 #[.val (.ref ax), .val (.int pc)] [(.int (0 : Int32))]))) ?_ ?_
    · intro t k
      refine XS.iconst X151.here hx rfl (hb hby d15_22) ?_
      exact k
    have hz : own_ctn1 pc ca = (0 : Int32) := by simp only [own_ctn1, if_neg hc153]
    obtain ⟨fs, hr, hrun, hended, hW, hsame⟩ := X151.leave (hlocks := BodyLoose.notSynchronized Bd) (v := some (.int (0 : Int32))) (fun h => by rw [Bd.returns] at h; cases h)
    refine ⟨_, _, retOut X151 hx Bd.returns rfl (Or.inl ⟨rfl, Or.inr (Or.inl rfl), _, rfl⟩) (hb hby d15_23) hr, hrun, hended, _, _, rfl, ?_, ⟨_, rfl⟩, hW, hsame.mono (by decide) (by decide)⟩
    show own_Q15_1 Z ax pc am km ca h0 n0 _ T151.heap _
    rw [e151]
    exact ⟨by rw [hz], N0, rfl⟩
theorem own_fin1 (pc : Int32) (ca : Int32) (hp_ca : 0 ≤ ca.toInt ∧ ca.toInt < 128) (hpc : ¬ pc < (0 : Int32)) : own_ctn1 pc ca = (if pc = ca then (1 : Int32) else (0 : Int32)) := by
  have hn := nat_of hpc
  have w : (128 : Int32).toInt = 128 := by decide
  simp only [own_ctn1, own_mem1, ← hn, Int32.lt_iff_toInt_lt, ← Int32.toInt_inj, w]
  repeat' split
  all_goals first | rfl | omega | (simp_all; done) | (exfalso; omega)
def own_Q7_2 (Z : State) (ax : Addr) (ast : Addr) (ade : Addr) (ad : Addr) (kd : ClassId) (ca : Int32) (cb : Int32) (pG : Int32) (vF : Value) (h0 : Heap) (n0 : Nat) (v : Option Value) (h : Heap) (L : List Loc) : Prop := v = none ∧ Fr n0 L ∧ Keep h0 h [ax] ∧ ∃ (am : Addr) (km : ClassId), Fld Z h ax "com/example/coho/coho/identifier/CharacterSet" "members" "[Z" (.ref am) ∧ Arh Z h am km .boolean (128 : Int32) [(cb, (.int (1 : Int32))), (ca, (.int (1 : Int32)))] [] (.int (0 : Int32))
set_option maxRecDepth 65536 in
set_option maxHeartbeats 40000000 in
theorem rm7_2 (l : Launch) (Z : State) (a0 : Array Value) (hw : ∀ d ∈ tables_1, d.before a0 Z = true) (ws : List Jvm.Cond) (ax : Addr) (ast : Addr) (ade : Addr) (ad : Addr) (kd : ClassId) (ca : Int32) (cb : Int32) (pG : Int32) (vF : Value) (h0 : Heap) (n0 : Nat) (Z0 : n0 ≤ h0.size) (Ea : Exa Z h0 ax "com/example/coho/coho/identifier/CharacterSet") (Fm : Fld Z h0 ax "com/example/coho/coho/identifier/CharacterSet" "members" "[Z" .null) (Fd : Fld Z h0 ax "com/example/coho/coho/identifier/CharacterSet" "description" "Ljava/lang/String;" .null) (ga : n0 ≤ ax) (Es : Exa Z h0 ast "java/lang/String") (Fv : Fld Z h0 ast "java/lang/String" "value" "[B" (.ref ad)) (Fc : Fld Z h0 ast "java/lang/String" "coder" "B" (.int (0 : Int32))) (Vd : Arv Z h0 ad kd .byte (2 : Int32) [(.int ca), (.int cb)] (.int (0 : Int32))) (nas : ax ≠ ast) (nad : ax ≠ ad) (hp_ca : 0 ≤ ca.toInt ∧ ca.toInt < 128) (hp_cb : 0 ≤ cb.toInt ∧ cb.toInt < 128) (O2 : Sta Z Z.heap "java/lang/String" "COMPACT_STRINGS" "Z" (.int pG)) (hG : ¬ pG = (0 : Int32)) (X00 : Old Z n0 h0) (O4 : Sta Z Z.heap "jdk/internal/util/Preconditions" "SIOOBE_FORMATTER" "Ljava/util/function/BiFunction;" vF) (rF : vF.isRef = true) :
    MetFree l (⟨"com/example/coho/coho/identifier/CharacterSet", "<init>", "(Ljava/lang/String;Ljava/lang/String;)V"⟩ : MethodName) (head1 (Jvm.Cond.code (⟨"com/example/coho/coho/identifier/CharacterSet", "<init>", "(Ljava/lang/String;Ljava/lang/String;)V"⟩ : MethodName) prog_40_method_1_code 4 none :: ws) ({ frames := 4, cells := 1, slots := 128, locals := 54 } : Room)) (fun a U => a = #[(.ref ax), (.ref ast), (.ref ade)] ∧ Z.Warmed39 U.vm ∧ U.heap = h0) (fun _ _ _ _ _ => True) (fun _ U o U' => ∃ v L, o = .returned v ∧ own_Q7_2 Z ax ast ade ad kd ca cb pG vF h0 n0 v U'.heap L ∧ FrameEnd U o U' L ({ frames := 4, cells := 1, slots := 128, locals := 54 } : Room).cells ({ frames := 4, cells := 1, slots := 128, locals := 54 } : Room).slots) := by
  refine MetFree.of_bodySF (plainFor_of_name own_pn7) hisR ?_
  intro p e s m args below meth c s₁ Bd hml0 hP hK
  obtain ⟨rfl, hZ, hh⟩ := hP
  have hx := Bd.exec
  have hby := Bd.bytes
  have hml : c.maxLocals = 4 := hml0
  have hown : s.vm.findClass "com/example/coho/coho/identifier/CharacterSet" = some m.cls := findClass_of_methodNamed Bd.named
  have hnm := (name_of_methodNamed Bd.named Bd.method).1
  have X0 : Stand p l e ({ frames := 4, cells := 1, slots := 128, locals := 54 } : Room) s m #[(.ref ax), (.ref ast), (.ref ade)] below meth c s₁ [] 0 0 := Stand.of_body Bd
  have e0 : s₁.heap = h0 := by rw [← hh, Bd.state]; rfl
  have N0 := Fr.nil n0
  refine own_pre (A := (s₁.setTop (mkF m 0 #[.val (.ref ax), .val (.ref ast), .val (.ref ade), .unset] []))) (fun t k => castTop (own_ef7 m ax ast ade) k) ?_
  refine own_pre (A := (s₁.setTop (mkF m 1 #[.val (.ref ax), .val (.ref ast), .val (.ref ade), .unset] [(.ref ax)]))) ?_ ?_
  · intro t k
    refine XS.aloadN X0.here hx rfl (hb hby d7_0) rfl rfl ?_
    exact k
  obtain ⟨T157, X157, e157, st157⟩ := initO X0 hx hZ hown (own_w hw 39 rfl) (own_w hw 12 rfl) (own_w hw 13 rfl) e0 (g := (mkF m 1 #[.val (.ref ax), .val (.ref ast), .val (.ref ade), .unset] [(.ref ax)])) rfl (by rw [hml]; rfl) rfl (hb hby d7_1) (by decide) (W := 0) (by show 2 * 0 + _ ≤ _; exact Nat.le_of_eq rfl) (by decide)
  refine own_pre (fun t k => st157 t k) ?_
  refine own_pre (A := (T157.setTop (mkF m 8 #[.val (.ref ax), .val (.ref ast), .val (.ref ade), .unset] [(.int (128 : Int32)), (.ref ax)]))) ?_ ?_
  · intro t k
    refine XS.aloadN X157.here hx rfl (hb hby d7_4) rfl rfl ?_
    refine XS.sipush X157.here hx rfl (hb hby d7_5) ?_
    exact k
  obtain ⟨T158, h158, k158, X158, e158, E158, A158, st158⟩ := newP X157 hx hZ (own_w hw 40 rfl) e157 (g := (mkF m 8 #[.val (.ref ax), .val (.ref ast), .val (.ref ade), .unset] [(.int (128 : Int32)), (.ref ax)])) rfl (hb hby d7_8) rfl (by decide) (cap := 128) (by decide) (by decide) (by decide) (by decide)
  obtain ⟨b158, g158⟩ : ∃ z, z = h0.size := ⟨_, rfl⟩
  rw [← g158] at A158 st158
  have ne_ad_b158 : ad ≠ b158 := Nat.ne_of_lt (Nat.lt_of_lt_of_le Vd.lt (Nat.le_of_eq g158.symm))
  have ne_ast_b158 : ast ≠ b158 := Nat.ne_of_lt (Nat.lt_of_lt_of_le Es.lt (Nat.le_of_eq g158.symm))
  have ne_ax_b158 : ax ≠ b158 := Nat.ne_of_lt (Nat.lt_of_lt_of_le Ea.lt (Nat.le_of_eq g158.symm))
  have gn_b158 : n0 ≤ b158 := Nat.le_trans Z0 (Nat.le_of_eq g158.symm)
  have sz_b158 : h0.size ≤ b158 := Nat.le_trans (Keep.refl h0 [ax]).1 (Nat.le_of_eq g158.symm)
  have Ea_158 := Ea.ext E158
  have Fm_158 := Fm.ext E158
  have Fd_158 := Fd.ext E158
  have Es_158 := Es.ext E158
  have Fv_158 := Fv.ext E158
  have Fc_158 := Fc.ext E158
  have Vd_158 := Vd.ext E158
  have X00_158 := X00.ext E158
  have Zs158 : n0 ≤ h158.size := Nat.le_trans Z0 E158.1
  have Kc158 : Keep h0 h158 [ax] := (Keep.refl h0 [ax]).ext E158
  have V158 : Arh Z h158 b158 k158 .boolean (128 : Int32) [] [] (.int (0 : Int32)) := (Arv.new A158 (by decide)).arh
  refine own_pre (fun t k => st158 t k) ?_
  obtain ⟨T159, h159, X159, e159, W159, st159⟩ := putF X158 hx hZ hown (host := "") (Or.inl (own_w hw 41 rfl)) Via.refl e158 Fm_158 Ea_158 (Or.inr ⟨(own_w hw 42 rfl), rfl, hnm⟩) (own_w hw 31 rfl) (ty := (.array .boolean)) (by decide) rfl rfl (g := (mkF m 10 #[.val (.ref ax), .val (.ref ast), .val (.ref ade), .unset] [(.ref b158), (.ref ax)])) rfl rfl (hb hby d7_10)
  have Ea_159 := Ea_158.wr W159
  have Fd_159 := Fd_158.other W159 (Or.inr (slot_ne (Or.inr (own_w hw 76 rfl)) (Or.inr (own_w hw 42 rfl)) (by decide) (t := (.object "java/lang/String")) (t' := (.array .boolean)) (by decide) (by decide)))
  have Es_159 := Es_158.wr W159
  have Fv_159 := Fv_158.other W159 (Or.inl nas.symm)
  have Fc_159 := Fc_158.other W159 (Or.inl nas.symm)
  have Vd_159 := Vd_158.other W159 nad.symm
  have X00_159 := X00_158.wr W159 ga
  have V158_159 := V158.other W159 ne_ax_b158.symm
  have Zs159 : n0 ≤ h159.size := Nat.le_trans Zs158 (Keep.of_wr W159).1
  have Kc159 : Keep h0 h159 [ax] := Kc158.wr W159 (Or.inl (List.mem_of_getElem? (i := 0) rfl))
  have N159 := Fr.snoc X159 N0 ga
  have Fw159 := Fm_158.same W159
  refine own_pre (fun t k => st159 t k) ?_
  refine own_pre (A := (T159.setTop (mkF m 17 #[.val (.ref ax), .val (.ref ast), .val (.ref ade), .val (.int (0 : Int32))] [(.ref ast), (.int (0 : Int32))]))) ?_ ?_
  · intro t k
    refine XS.iconst X159.here hx rfl (hb hby d7_13) ?_
    refine XS.istoreN X159.here hx rfl (hb hby d7_14) rfl (l' := #[.val (.ref ax), .val (.ref ast), .val (.ref ade), .val (.int (0 : Int32))]) rfl ?_
    refine XS.iloadN X159.here hx rfl (hb hby d7_15) rfl ?_
    refine XS.aloadN X159.here hx rfl (hb hby d7_16) rfl rfl ?_
    exact k
  obtain ⟨cq160, kq160, q160a, q160b, q160c⟩ := isOf hZ e159 Es_159
  obtain ⟨_, _, ⟨T160, L160, k160, n160⟩, -, X160, ⟨Lc160, hQ160, l160, y160, z160⟩, st160⟩ := X159.virtualBack hx (y := (⟨"java/lang/String", "length", "()I"⟩ : MethodName)) (z := (⟨"java/lang/String", "length", "()I"⟩ : MethodName)) hown (mvT hZ (own_w hw 43 rfl)) (mvT hZ (own_w hw 44 rfl)) (notFace_of_selects (args := #[]) (mvT hZ (own_w hw 46 rfl))) (mvT hZ (own_w hw 46 rfl)) (mvT hZ (own_w hw 45 rfl)) (by decide) (backOf (W := 1) (rm8_2 l Z a0 hw [] ast ad kd ca cb pG h159 n0 Zs159 Es_159 Fv_159 Fc_159 Vd_159 O2 hG X00_159) hZ (own_w hw 47 rfl) (own_w hw 2 rfl) (by decide) (by decide)) q160a q160c (g := (mkF m 17 #[.val (.ref ax), .val (.ref ast), .val (.ref ade), .val (.int (0 : Int32))] [(.ref ast), (.int (0 : Int32))])) rfl (by rw [hml]; rfl) (Steps.refl _) (argsL := []) (rest := [(.int (0 : Int32))]) (lenOf own_pd9 rfl) rfl (by show 2 * 0 + _ ≤ _; exact Nat.le_of_eq rfl) (hb hby d7_17) (fun _ _ => ⟨rfl, e159, (by decide : 1 + 0 ≤ _), (by decide : 128 + 0 ≤ _)⟩)
  dsimp only [Pt.U, Pt.locs, Pt.cells, Pt.slots] at X160 l160 y160 z160 st160 hQ160
  replace y160 : _ = 1 := y160
  replace z160 : _ = 128 := z160
  subst y160 z160
  obtain ⟨Nq160, rfl, eq160⟩ := hQ160
  have N160 := own_frl l160 N159 Nq160
  refine own_pre (fun t k => st160.trans k) ?_
  refine own_pre (A := (T160.setTop (mkF m 24 #[.val (.ref ax), .val (.ref ast), .val (.ref ade), .val (.int (0 : Int32))] [(.ref ax)]))) ?_ ?_
  · intro t k
    refine XS.icmpNo X160.here hx rfl (hb hby d7_20) rfl (tlt (by decide : (0 : Int32) < (2 : Int32))).2.1 ?_
    refine XS.aloadN X160.here hx rfl (hb hby d7_23) rfl rfl ?_
    exact k
  obtain ⟨T161, X161, e161, st161⟩ := getF X160 hx hZ hown (host := "") (Or.inl (own_w hw 41 rfl)) Via.refl eq160 Fw159 (g := (mkF m 24 #[.val (.ref ax), .val (.ref ast), .val (.ref ade), .val (.int (0 : Int32))] [(.ref ax)])) rfl rfl (hb hby d7_24)
  refine own_pre (fun t k => st161 t k) ?_
  refine own_pre (A := (T161.setTop (mkF m 29 #[.val (.ref ax), .val (.ref ast), .val (.ref ade), .val (.int (0 : Int32))] [(.int (0 : Int32)), (.ref ast), (.ref b158)]))) ?_ ?_
  · intro t k
    refine XS.aloadN X161.here hx rfl (hb hby d7_27) rfl rfl ?_
    refine XS.iloadN X161.here hx rfl (hb hby d7_28) rfl ?_
    exact k
  obtain ⟨cq162, kq162, q162a, q162b, q162c⟩ := isOf hZ e161 Es_159
  obtain ⟨_, _, ⟨T162, L162, k162, n162⟩, -, X162, ⟨Lc162, hQ162, l162, y162, z162⟩, st162⟩ := X161.virtualBack hx (y := (⟨"java/lang/String", "charAt", "(I)C"⟩ : MethodName)) (z := (⟨"java/lang/String", "charAt", "(I)C"⟩ : MethodName)) hown (mvT hZ (own_w hw 53 rfl)) (mvT hZ (own_w hw 54 rfl)) (notFace_of_selects (args := #[]) (mvT hZ (own_w hw 56 rfl))) (mvT hZ (own_w hw 56 rfl)) (mvT hZ (own_w hw 55 rfl)) (by decide) (backOf (W := 1) (rm10_0_2 l Z a0 hw [] ast ad kd ca cb pG vF h159 n0 Zs159 Es_159 Fv_159 Fc_159 Vd_159 hp_ca hp_cb O2 hG X00_159 O4 rF) hZ (own_w hw 57 rfl) (own_w hw 2 rfl) (by decide) (by decide)) q162a q162c (g := (mkF m 29 #[.val (.ref ax), .val (.ref ast), .val (.ref ade), .val (.int (0 : Int32))] [(.int (0 : Int32)), (.ref ast), (.ref b158)])) rfl (by rw [hml]; rfl) (Steps.refl _) (argsL := [(.int (0 : Int32))]) (rest := [(.ref b158)]) (lenOf own_pd10 rfl) rfl (by show 2 * 0 + _ ≤ _; exact Nat.le_of_eq rfl) (hb hby d7_29) (fun _ _ => ⟨rfl, e161, (by decide : 1 + 0 ≤ _), (by decide : 128 + 0 ≤ _)⟩)
  dsimp only [Pt.U, Pt.locs, Pt.cells, Pt.slots] at X162 l162 y162 z162 st162 hQ162
  replace y162 : _ = 1 := y162
  replace z162 : _ = 128 := z162
  subst y162 z162
  obtain ⟨Nq162, rfl, eq162⟩ := hQ162
  have N162 := own_frl l162 N160 Nq162
  refine own_pre (fun t k => st162.trans k) ?_
  refine own_pre (A := (T162.setTop (mkF m 33 #[.val (.ref ax), .val (.ref ast), .val (.ref ade), .val (.int (0 : Int32))] [(.int (1 : Int32)), (.int ca), (.ref b158)]))) ?_ ?_
  · intro t k
    refine XS.iconst X162.here hx rfl (hb hby d7_32) ?_
    exact k
  obtain ⟨cl163, Ar163, q163, S163, N163, H163, G163⟩ := V158_159
  have hin163 : ¬ (ca < 0 ∨ cl163.slots.size ≤ (ca).toNatClampNeg) := inb_of S163 (own_ch_in ca hp_ca)
  obtain ⟨T163, h163, X163, e163, W163, st163⟩ := stZ X162 hx hZ eq162 Ar163 (j := ca) hin163 (g := (mkF m 33 #[.val (.ref ax), .val (.ref ast), .val (.ref ade), .val (.int (0 : Int32))] [(.int (1 : Int32)), (.int ca), (.ref b158)])) rfl rfl (hb hby d7_33)
  have V163 : Arh Z h163 b158 k158 .boolean (128 : Int32) [(ca, (.int (1 : Int32)))] [] (.int (0 : Int32)) := Arh.push Ar163 q163 S163 N163 H163 G163 rfl W163 hin163
  have Ea_163 := Ea_159.wr W163
  have Fw159_163 := Fw159.other W163 (Or.inl ne_ax_b158)
  have Fd_163 := Fd_159.other W163 (Or.inl ne_ax_b158)
  have Es_163 := Es_159.wr W163
  have Fv_163 := Fv_159.other W163 (Or.inl ne_ast_b158)
  have Fc_163 := Fc_159.other W163 (Or.inl ne_ast_b158)
  have Vd_163 := Vd_159.other W163 ne_ad_b158
  have X00_163 := X00_159.wr W163 gn_b158
  have Zs163 : n0 ≤ h163.size := Nat.le_trans Zs159 (Keep.of_wr W163).1
  have Kc163 : Keep h0 h163 [ax] := Kc159.wr W163 (Or.inr sz_b158)
  have N163 := Fr.snoc X163 N162 gn_b158
  refine own_pre (fun t k => st163 t k) ?_
  refine own_pre (A := (T163.setTop (mkF m 17 #[.val (.ref ax), .val (.ref ast), .val (.ref ade), .val (.int (1 : Int32))] [(.ref ast), (.int (1 : Int32))]))) ?_ ?_
  · intro t k
    refine XS.iinc X163.here hx rfl (hb hby d7_34) rfl (l' := #[.val (.ref ax), .val (.ref ast), .val (.ref ade), .val (.int ((0 : Int32) + (1 : Int32)))]) rfl ?_
    show Steps  p.tables e below (T163.setTop (mkF m 37 #[.val (.ref ax), .val (.ref ast), .val (.ref ade), .val (.int ((0 : Int32) + (1 : Int32)))] [])) _
    rw [show ((0 : Int32) + (1 : Int32)) = (1 : Int32) from by decide]
    refine XS.goto X163.here hx rfl (pc0 := 37) (pc' := 15) rfl (hb hby d7_37) (by decide) (by decide) ?_
    refine XS.iloadN X163.here hx rfl (hb hby d7_15) rfl ?_
    refine XS.aloadN X163.here hx rfl (hb hby d7_16) rfl rfl ?_
    exact k
  obtain ⟨cq164, kq164, q164a, q164b, q164c⟩ := isOf hZ e163 Es_163
  obtain ⟨_, _, ⟨T164, L164, k164, n164⟩, -, X164, ⟨Lc164, hQ164, l164, y164, z164⟩, st164⟩ := X163.virtualBack hx (y := (⟨"java/lang/String", "length", "()I"⟩ : MethodName)) (z := (⟨"java/lang/String", "length", "()I"⟩ : MethodName)) hown (mvT hZ (own_w hw 43 rfl)) (mvT hZ (own_w hw 44 rfl)) (notFace_of_selects (args := #[]) (mvT hZ (own_w hw 46 rfl))) (mvT hZ (own_w hw 46 rfl)) (mvT hZ (own_w hw 45 rfl)) (by decide) (backOf (W := 1) (rm8_2 l Z a0 hw [] ast ad kd ca cb pG h163 n0 Zs163 Es_163 Fv_163 Fc_163 Vd_163 O2 hG X00_163) hZ (own_w hw 47 rfl) (own_w hw 2 rfl) (by decide) (by decide)) q164a q164c (g := (mkF m 17 #[.val (.ref ax), .val (.ref ast), .val (.ref ade), .val (.int (1 : Int32))] [(.ref ast), (.int (1 : Int32))])) rfl (by rw [hml]; rfl) (Steps.refl _) (argsL := []) (rest := [(.int (1 : Int32))]) (lenOf own_pd9 rfl) rfl (by show 2 * 0 + _ ≤ _; exact Nat.le_of_eq rfl) (hb hby d7_17) (fun _ _ => ⟨rfl, e163, (by decide : 1 + 0 ≤ _), (by decide : 128 + 0 ≤ _)⟩)
  dsimp only [Pt.U, Pt.locs, Pt.cells, Pt.slots] at X164 l164 y164 z164 st164 hQ164
  replace y164 : _ = 1 := y164
  replace z164 : _ = 128 := z164
  subst y164 z164
  obtain ⟨Nq164, rfl, eq164⟩ := hQ164
  have N164 := own_frl l164 N163 Nq164
  refine own_pre (fun t k => st164.trans k) ?_
  refine own_pre (A := (T164.setTop (mkF m 24 #[.val (.ref ax), .val (.ref ast), .val (.ref ade), .val (.int (1 : Int32))] [(.ref ax)]))) ?_ ?_
  · intro t k
    refine XS.icmpNo X164.here hx rfl (hb hby d7_20) rfl (tlt (by decide : (1 : Int32) < (2 : Int32))).2.1 ?_
    refine XS.aloadN X164.here hx rfl (hb hby d7_23) rfl rfl ?_
    exact k
  obtain ⟨T165, X165, e165, st165⟩ := getF X164 hx hZ hown (host := "") (Or.inl (own_w hw 41 rfl)) Via.refl eq164 Fw159_163 (g := (mkF m 24 #[.val (.ref ax), .val (.ref ast), .val (.ref ade), .val (.int (1 : Int32))] [(.ref ax)])) rfl rfl (hb hby d7_24)
  refine own_pre (fun t k => st165 t k) ?_
  refine own_pre (A := (T165.setTop (mkF m 29 #[.val (.ref ax), .val (.ref ast), .val (.ref ade), .val (.int (1 : Int32))] [(.int (1 : Int32)), (.ref ast), (.ref b158)]))) ?_ ?_
  · intro t k
    refine XS.aloadN X165.here hx rfl (hb hby d7_27) rfl rfl ?_
    refine XS.iloadN X165.here hx rfl (hb hby d7_28) rfl ?_
    exact k
  obtain ⟨cq166, kq166, q166a, q166b, q166c⟩ := isOf hZ e165 Es_163
  obtain ⟨_, _, ⟨T166, L166, k166, n166⟩, -, X166, ⟨Lc166, hQ166, l166, y166, z166⟩, st166⟩ := X165.virtualBack hx (y := (⟨"java/lang/String", "charAt", "(I)C"⟩ : MethodName)) (z := (⟨"java/lang/String", "charAt", "(I)C"⟩ : MethodName)) hown (mvT hZ (own_w hw 53 rfl)) (mvT hZ (own_w hw 54 rfl)) (notFace_of_selects (args := #[]) (mvT hZ (own_w hw 56 rfl))) (mvT hZ (own_w hw 56 rfl)) (mvT hZ (own_w hw 55 rfl)) (by decide) (backOf (W := 1) (rm10_1_2 l Z a0 hw [] ast ad kd ca cb pG vF h163 n0 Zs163 Es_163 Fv_163 Fc_163 Vd_163 hp_ca hp_cb O2 hG X00_163 O4 rF) hZ (own_w hw 57 rfl) (own_w hw 2 rfl) (by decide) (by decide)) q166a q166c (g := (mkF m 29 #[.val (.ref ax), .val (.ref ast), .val (.ref ade), .val (.int (1 : Int32))] [(.int (1 : Int32)), (.ref ast), (.ref b158)])) rfl (by rw [hml]; rfl) (Steps.refl _) (argsL := [(.int (1 : Int32))]) (rest := [(.ref b158)]) (lenOf own_pd10 rfl) rfl (by show 2 * 0 + _ ≤ _; exact Nat.le_of_eq rfl) (hb hby d7_29) (fun _ _ => ⟨rfl, e165, (by decide : 1 + 0 ≤ _), (by decide : 128 + 0 ≤ _)⟩)
  dsimp only [Pt.U, Pt.locs, Pt.cells, Pt.slots] at X166 l166 y166 z166 st166 hQ166
  replace y166 : _ = 1 := y166
  replace z166 : _ = 128 := z166
  subst y166 z166
  obtain ⟨Nq166, rfl, eq166⟩ := hQ166
  have N166 := own_frl l166 N164 Nq166
  refine own_pre (fun t k => st166.trans k) ?_
  refine own_pre (A := (T166.setTop (mkF m 33 #[.val (.ref ax), .val (.ref ast), .val (.ref ade), .val (.int (1 : Int32))] [(.int (1 : Int32)), (.int cb), (.ref b158)]))) ?_ ?_
  · intro t k
    refine XS.iconst X166.here hx rfl (hb hby d7_32) ?_
    exact k
  obtain ⟨cl167, Ar167, q167, S167, N167, H167, G167⟩ := V163
  have hin167 : ¬ (cb < 0 ∨ cl167.slots.size ≤ (cb).toNatClampNeg) := inb_of S167 (own_ch_in cb hp_cb)
  obtain ⟨T167, h167, X167, e167, W167, st167⟩ := stZ X166 hx hZ eq166 Ar167 (j := cb) hin167 (g := (mkF m 33 #[.val (.ref ax), .val (.ref ast), .val (.ref ade), .val (.int (1 : Int32))] [(.int (1 : Int32)), (.int cb), (.ref b158)])) rfl rfl (hb hby d7_33)
  have V167 : Arh Z h167 b158 k158 .boolean (128 : Int32) [(cb, (.int (1 : Int32))), (ca, (.int (1 : Int32)))] [] (.int (0 : Int32)) := Arh.push Ar167 q167 S167 N167 H167 G167 rfl W167 hin167
  have Ea_167 := Ea_163.wr W167
  have Fw159_167 := Fw159_163.other W167 (Or.inl ne_ax_b158)
  have Fd_167 := Fd_163.other W167 (Or.inl ne_ax_b158)
  have Es_167 := Es_163.wr W167
  have Fv_167 := Fv_163.other W167 (Or.inl ne_ast_b158)
  have Fc_167 := Fc_163.other W167 (Or.inl ne_ast_b158)
  have Vd_167 := Vd_163.other W167 ne_ad_b158
  have X00_167 := X00_163.wr W167 gn_b158
  have Zs167 : n0 ≤ h167.size := Nat.le_trans Zs163 (Keep.of_wr W167).1
  have Kc167 : Keep h0 h167 [ax] := Kc163.wr W167 (Or.inr sz_b158)
  have N167 := Fr.snoc X167 N166 gn_b158
  refine own_pre (fun t k => st167 t k) ?_
  refine own_pre (A := (T167.setTop (mkF m 17 #[.val (.ref ax), .val (.ref ast), .val (.ref ade), .val (.int (2 : Int32))] [(.ref ast), (.int (2 : Int32))]))) ?_ ?_
  · intro t k
    refine XS.iinc X167.here hx rfl (hb hby d7_34) rfl (l' := #[.val (.ref ax), .val (.ref ast), .val (.ref ade), .val (.int ((1 : Int32) + (1 : Int32)))]) rfl ?_
    show Steps  p.tables e below (T167.setTop (mkF m 37 #[.val (.ref ax), .val (.ref ast), .val (.ref ade), .val (.int ((1 : Int32) + (1 : Int32)))] [])) _
    rw [show ((1 : Int32) + (1 : Int32)) = (2 : Int32) from by decide]
    refine XS.goto X167.here hx rfl (pc0 := 37) (pc' := 15) rfl (hb hby d7_37) (by decide) (by decide) ?_
    refine XS.iloadN X167.here hx rfl (hb hby d7_15) rfl ?_
    refine XS.aloadN X167.here hx rfl (hb hby d7_16) rfl rfl ?_
    exact k
  obtain ⟨cq168, kq168, q168a, q168b, q168c⟩ := isOf hZ e167 Es_167
  obtain ⟨_, _, ⟨T168, L168, k168, n168⟩, -, X168, ⟨Lc168, hQ168, l168, y168, z168⟩, st168⟩ := X167.virtualBack hx (y := (⟨"java/lang/String", "length", "()I"⟩ : MethodName)) (z := (⟨"java/lang/String", "length", "()I"⟩ : MethodName)) hown (mvT hZ (own_w hw 43 rfl)) (mvT hZ (own_w hw 44 rfl)) (notFace_of_selects (args := #[]) (mvT hZ (own_w hw 46 rfl))) (mvT hZ (own_w hw 46 rfl)) (mvT hZ (own_w hw 45 rfl)) (by decide) (backOf (W := 1) (rm8_2 l Z a0 hw [] ast ad kd ca cb pG h167 n0 Zs167 Es_167 Fv_167 Fc_167 Vd_167 O2 hG X00_167) hZ (own_w hw 47 rfl) (own_w hw 2 rfl) (by decide) (by decide)) q168a q168c (g := (mkF m 17 #[.val (.ref ax), .val (.ref ast), .val (.ref ade), .val (.int (2 : Int32))] [(.ref ast), (.int (2 : Int32))])) rfl (by rw [hml]; rfl) (Steps.refl _) (argsL := []) (rest := [(.int (2 : Int32))]) (lenOf own_pd9 rfl) rfl (by show 2 * 0 + _ ≤ _; exact Nat.le_of_eq rfl) (hb hby d7_17) (fun _ _ => ⟨rfl, e167, (by decide : 1 + 0 ≤ _), (by decide : 128 + 0 ≤ _)⟩)
  dsimp only [Pt.U, Pt.locs, Pt.cells, Pt.slots] at X168 l168 y168 z168 st168 hQ168
  replace y168 : _ = 1 := y168
  replace z168 : _ = 128 := z168
  subst y168 z168
  obtain ⟨Nq168, rfl, eq168⟩ := hQ168
  have N168 := own_frl l168 N167 Nq168
  refine own_pre (fun t k => st168.trans k) ?_
  refine own_pre (A := (T168.setTop (mkF m 42 #[.val (.ref ax), .val (.ref ast), .val (.ref ade), .val (.int (2 : Int32))] [(.ref ade), (.ref ax)]))) ?_ ?_
  · intro t k
    refine XS.icmpYes X168.here hx rfl (pc0 := 20) (pc' := 40) rfl (hb hby d7_20) rfl (flt (by decide : ¬ ((2 : Int32) < (2 : Int32)))).2.1 (by decide) (by decide) ?_
    refine XS.aloadN X168.here hx rfl (hb hby d7_40) rfl rfl ?_
    refine XS.aloadN X168.here hx rfl (hb hby d7_41) rfl rfl ?_
    exact k
  obtain ⟨T169, h169, X169, e169, W169, st169⟩ := putF X168 hx hZ hown (host := "") (Or.inl (own_w hw 75 rfl)) Via.refl eq168 Fd_167 Ea_167 (Or.inr ⟨(own_w hw 76 rfl), rfl, hnm⟩) (own_w hw 31 rfl) (ty := (.object "java/lang/String")) (by decide) rfl rfl (g := (mkF m 42 #[.val (.ref ax), .val (.ref ast), .val (.ref ade), .val (.int (2 : Int32))] [(.ref ade), (.ref ax)])) rfl rfl (hb hby d7_42)
  have Fw159_169 := Fw159_167.other W169 (Or.inr (slot_ne (Or.inr (own_w hw 42 rfl)) (Or.inr (own_w hw 76 rfl)) (by decide) (t := (.array .boolean)) (t' := (.object "java/lang/String")) (by decide) (by decide)))
  have V167_169 := V167.other W169 ne_ax_b158.symm
  have Kc169 : Keep h0 h169 [ax] := Kc167.wr W169 (Or.inl (List.mem_of_getElem? (i := 0) rfl))
  have N169 := Fr.snoc X169 N168 ga
  refine own_pre (fun t k => st169 t k) ?_
  obtain ⟨fs, hr, hrun, hended, hW, hsame⟩ := X169.leave (hlocks := BodyLoose.notSynchronized Bd) (v := none) (fun _ => rfl)
  refine ⟨_, _, X169.returnOut hx Bd.returns (hb hby d7_45) hr, hrun, hended, _, _, rfl, ?_, ⟨_, rfl⟩, hW, hsame.mono (by decide) (by decide)⟩
  show own_Q7_2 Z ax ast ade ad kd ca cb pG vF h0 n0 _ T169.heap _
  rw [e169]
  exact ⟨rfl, N169, Kc169, b158, k158, Fw159_169, V167_169⟩
def own_mem2 (pc : Int32) (ca : Int32) (cb : Int32) : Int32 := (if cb.toInt = (pc.toNatClampNeg : Int) then (1 : Int32) else (if ca.toInt = (pc.toNatClampNeg : Int) then (1 : Int32) else (0 : Int32)))
theorem own_mem2_eq (pc : Int32) (ca : Int32) (cb : Int32) : getH [(cb, (.int (1 : Int32))), (ca, (.int (1 : Int32)))] [] (.int (0 : Int32)) pc.toNatClampNeg = .int (own_mem2 pc ca cb) := by
  simp only [getH, own_mem2, List.getD_nil]
  repeat' split
  all_goals rfl
def own_ctn2 (pc : Int32) (ca : Int32) (cb : Int32) : Int32 := (if pc < (128 : Int32) then (if (own_mem2 pc ca cb) = (0 : Int32) then (0 : Int32) else (1 : Int32)) else (0 : Int32))
def own_Q15_2 (Z : State) (ax : Addr) (pc : Int32) (am : Addr) (km : ClassId) (ca : Int32) (cb : Int32) (h0 : Heap) (n0 : Nat) (v : Option Value) (h : Heap) (L : List Loc) : Prop := v = some (.int (own_ctn2 pc ca cb)) ∧ Fr n0 L ∧ h = h0
set_option maxRecDepth 65536 in
set_option maxHeartbeats 40000000 in
theorem rm15_2 (l : Launch) (Z : State) (a0 : Array Value) (hw : ∀ d ∈ tables_1, d.before a0 Z = true) (ws : List Jvm.Cond) (ax : Addr) (pc : Int32) (am : Addr) (km : ClassId) (ca : Int32) (cb : Int32) (h0 : Heap) (n0 : Nat) (Z0 : n0 ≤ h0.size) (Fm : Fld Z h0 ax "com/example/coho/coho/identifier/CharacterSet" "members" "[Z" (.ref am)) (Vm : Arh Z h0 am km .boolean (128 : Int32) [(cb, (.int (1 : Int32))), (ca, (.int (1 : Int32)))] [] (.int (0 : Int32))) (hpc : ¬ pc < (0 : Int32)) :
    MetFree l (⟨"com/example/coho/coho/identifier/CharacterSet", "contains", "(C)Z"⟩ : MethodName) (head1 (Jvm.Cond.code (⟨"com/example/coho/coho/identifier/CharacterSet", "contains", "(C)Z"⟩ : MethodName) prog_40_method_2_code 2 (some .boolean) :: ws) ({ frames := 0, cells := 0, slots := 0, locals := 0 } : Room)) (fun a U => a = #[(.ref ax), (.int pc)] ∧ Z.Warmed39 U.vm ∧ U.heap = h0) (fun _ _ _ _ _ => True) (fun _ U o U' => ∃ v L, o = .returned v ∧ own_Q15_2 Z ax pc am km ca cb h0 n0 v U'.heap L ∧ FrameEnd U o U' L ({ frames := 0, cells := 0, slots := 0, locals := 0 } : Room).cells ({ frames := 0, cells := 0, slots := 0, locals := 0 } : Room).slots) := by
  refine MetFree.of_bodySF (plainFor_of_name own_pn15) hisR ?_
  intro p e s m args below meth c s₁ Bd hml0 hP hK
  obtain ⟨rfl, hZ, hh⟩ := hP
  have hx := Bd.exec
  have hby := Bd.bytes
  have hml : c.maxLocals = 2 := hml0
  have hown : s.vm.findClass "com/example/coho/coho/identifier/CharacterSet" = some m.cls := findClass_of_methodNamed Bd.named
  have hnm := (name_of_methodNamed Bd.named Bd.method).1
  have X0 : Stand p l e ({ frames := 0, cells := 0, slots := 0, locals := 0 } : Room) s m #[(.ref ax), (.int pc)] below meth c s₁ [] 0 0 := Stand.of_body Bd
  have e0 : s₁.heap = h0 := by rw [← hh, Bd.state]; rfl
  have N0 := Fr.nil n0
  refine own_pre (A := (s₁.setTop (mkF m 0 #[.val (.ref ax), .val (.int pc)] []))) (fun t k => castTop (own_ef15 m ax pc) k) ?_
  refine own_pre (A := (s₁.setTop (mkF m 2 #[.val (.ref ax), .val (.int pc)] [(.ref ax), (.int pc)]))) ?_ ?_
  · intro t k
    refine XS.iloadN X0.here hx rfl (hb hby d15_0) rfl ?_
    refine XS.aloadN X0.here hx rfl (hb hby d15_1) rfl rfl ?_
    exact k
  obtain ⟨T170, X170, e170, st170⟩ := getF X0 hx hZ hown (host := "") (Or.inl (own_w hw 41 rfl)) Via.refl e0 Fm (g := (mkF m 2 #[.val (.ref ax), .val (.int pc)] [(.ref ax), (.int pc)])) rfl rfl (hb hby d15_2)
  refine own_pre (fun t k => st170 t k) ?_
  refine own_pre (A := (T170.setTop (mkF m 6 #[.val (.ref ax), .val (.int pc)] [(.int (128 : Int32)), (.int pc)]))) ?_ ?_
  · intro t k
    show Steps p.tables e below (T170.setTop (mkF m 5 #[.val (.ref ax), .val (.int pc)] [(.ref am), (.int pc)])) _
    obtain ⟨cl171, Ar171, -, S171, N171, -, -⟩ := id Vm
    refine X170.arraylength hx (by rw [e170]; exact Ar171.1) (State.isArrayOf_alike hZ.alike Ar171.2.1) (g := (mkF m 5 #[.val (.ref ax), .val (.int pc)] [(.ref am), (.int pc)])) rfl rfl (hb hby d15_5) _ ?_
    rw [len_of S171 N171]
    exact k
  by_cases hc172 : pc < (128 : Int32)
  · skip
    refine own_pre (A := (T170.setTop (mkF m 9 #[.val (.ref ax), .val (.int pc)] []))) ?_ ?_
    · intro t k
      refine XS.icmpNo X170.here hx rfl (hb hby d15_6) rfl (tlt hc172).2.1 ?_
      exact k
    refine own_pre (A := (T170.setTop (mkF m 10 #[.val (.ref ax), .val (.int pc)] [(.ref ax)]))) ?_ ?_
    · intro t k
      refine XS.aloadN X170.here hx rfl (hb hby d15_9) rfl rfl ?_
      exact k
    obtain ⟨T173, X173, e173, st173⟩ := getF X170 hx hZ hown (host := "") (Or.inl (own_w hw 41 rfl)) Via.refl e170 Fm (g := (mkF m 10 #[.val (.ref ax), .val (.int pc)] [(.ref ax)])) rfl rfl (hb hby d15_10)
    refine own_pre (fun t k => st173 t k) ?_
    refine own_pre (A := (T173.setTop (mkF m 15 #[.val (.ref ax), .val (.int pc)] [(.int (own_mem2 pc ca cb))]))) ?_ ?_
    · intro t k
      refine XS.iloadN X173.here hx rfl (hb hby d15_13) rfl ?_
      show Steps p.tables e below (T173.setTop (mkF m 14 #[.val (.ref ax), .val (.int pc)] [(.int pc), (.ref am)])) _
      obtain ⟨cl174, Ar174, q174, S174, N174, H174, G174⟩ := id Vm
      have hin174 : ¬ (pc < 0 ∨ cl174.slots.size ≤ (pc).toNatClampNeg) := inb_of S174 ⟨hpc, hc172⟩
      refine X173.baloadBooleans hx (j := pc) (v := (.int (own_mem2 pc ca cb))) (by rw [e173]; exact Ar174.1) (State.isArrayOf_alike hZ.alike Ar174.2.1) Ar174.2.2 hin174 (atH H174 hin174 (own_mem2_eq pc ca cb)) (g := (mkF m 14 #[.val (.ref ax), .val (.int pc)] [(.int pc), (.ref am)])) rfl rfl (hb hby d15_14) _ ?_
      exact k
    by_cases hc175 : (own_mem2 pc ca cb) = (0 : Int32)
    · skip
      refine own_pre (A := (T173.setTop (mkF m 22 #[.val (.ref ax), .val (.int pc)] []))) ?_ ?_
      · intro t k
        refine XS.ifYes X173.here hx rfl (pc0 := 15) (pc' := 22) rfl (hb hby d15_15) rfl ((if0 _ _).trans (teq hc175).1) (by decide) (by decide) ?_
        exact k
      refine own_pre (A := (T173.setTop (mkF m 23 #[.val (.ref ax), .val (.int pc)] [(.int (0 : Int32))]))) ?_ ?_
      · intro t k
        refine XS.iconst X173.here hx rfl (hb hby d15_22) ?_
        exact k
      have hz : own_ctn2 pc ca cb = (0 : Int32) := by simp only [own_ctn2, if_pos hc172, if_pos hc175]
      obtain ⟨fs, hr, hrun, hended, hW, hsame⟩ := X173.leave (hlocks := BodyLoose.notSynchronized Bd) (v := some (.int (0 : Int32))) (fun h => by rw [Bd.returns] at h; cases h)
      refine ⟨_, _, retOut X173 hx Bd.returns rfl (Or.inl ⟨rfl, Or.inr (Or.inl rfl), _, rfl⟩) (hb hby d15_23) hr, hrun, hended, _, _, rfl, ?_, ⟨_, rfl⟩, hW, hsame.mono (by decide) (by decide)⟩
      show own_Q15_2 Z ax pc am km ca cb h0 n0 _ T173.heap _
      rw [e173]
      exact ⟨by rw [hz], N0, rfl⟩
    · skip
      refine own_pre (A := (T173.setTop (mkF m 18 #[.val (.ref ax), .val (.int pc)] []))) ?_ ?_
      · intro t k
        refine XS.ifNo X173.here hx rfl (hb hby d15_15) rfl ((if0 _ _).trans (feq hc175).1) ?_
        exact k
      refine own_pre (A := (T173.setTop (mkF m 23 #[.val (.ref ax), .val (.int pc)] [(.int (1 : Int32))]))) ?_ ?_
      · intro t k
        refine XS.iconst X173.here hx rfl (hb hby d15_18) ?_
        refine XS.goto X173.here hx rfl (pc0 := 19) (pc' := 23) rfl (hb hby d15_19) (by decide) (by decide) ?_
        exact k
      have hz : own_ctn2 pc ca cb = (1 : Int32) := by simp only [own_ctn2, if_pos hc172, if_neg hc175]
      obtain ⟨fs, hr, hrun, hended, hW, hsame⟩ := X173.leave (hlocks := BodyLoose.notSynchronized Bd) (v := some (.int (1 : Int32))) (fun h => by rw [Bd.returns] at h; cases h)
      refine ⟨_, _, retOut X173 hx Bd.returns rfl (Or.inl ⟨rfl, Or.inr (Or.inl rfl), _, rfl⟩) (hb hby d15_23) hr, hrun, hended, _, _, rfl, ?_, ⟨_, rfl⟩, hW, hsame.mono (by decide) (by decide)⟩
      show own_Q15_2 Z ax pc am km ca cb h0 n0 _ T173.heap _
      rw [e173]
      exact ⟨by rw [hz], N0, rfl⟩
  · skip
    refine own_pre (A := (T170.setTop (mkF m 22 #[.val (.ref ax), .val (.int pc)] []))) ?_ ?_
    · intro t k
      refine XS.icmpYes X170.here hx rfl (pc0 := 6) (pc' := 22) rfl (hb hby d15_6) rfl (flt hc172).2.1 (by decide) (by decide) ?_
      exact k
    refine own_pre (A := (T170.setTop (mkF m 23 #[.val (.ref ax), .val (.int pc)] [(.int (0 : Int32))]))) ?_ ?_
    · intro t k
      refine XS.iconst X170.here hx rfl (hb hby d15_22) ?_
      exact k
    have hz : own_ctn2 pc ca cb = (0 : Int32) := by simp only [own_ctn2, if_neg hc172]
    obtain ⟨fs, hr, hrun, hended, hW, hsame⟩ := X170.leave (hlocks := BodyLoose.notSynchronized Bd) (v := some (.int (0 : Int32))) (fun h => by rw [Bd.returns] at h; cases h)
    refine ⟨_, _, retOut X170 hx Bd.returns rfl (Or.inl ⟨rfl, Or.inr (Or.inl rfl), _, rfl⟩) (hb hby d15_23) hr, hrun, hended, _, _, rfl, ?_, ⟨_, rfl⟩, hW, hsame.mono (by decide) (by decide)⟩
    show own_Q15_2 Z ax pc am km ca cb h0 n0 _ T170.heap _
    rw [e170]
    exact ⟨by rw [hz], N0, rfl⟩
theorem own_fin2 (pc : Int32) (ca : Int32) (cb : Int32) (hp_ca : 0 ≤ ca.toInt ∧ ca.toInt < 128) (hp_cb : 0 ≤ cb.toInt ∧ cb.toInt < 128) (hpc : ¬ pc < (0 : Int32)) : own_ctn2 pc ca cb = (if pc = ca then (1 : Int32) else (if pc = cb then (1 : Int32) else (0 : Int32))) := by
  have hn := nat_of hpc
  have w : (128 : Int32).toInt = 128 := by decide
  simp only [own_ctn2, own_mem2, ← hn, Int32.lt_iff_toInt_lt, ← Int32.toInt_inj, w]
  repeat' split
  all_goals first | rfl | omega | (simp_all; done) | (exfalso; omega)
def own_Q7_3 (Z : State) (ax : Addr) (ast : Addr) (ade : Addr) (ad : Addr) (kd : ClassId) (ca : Int32) (cb : Int32) (cd : Int32) (pG : Int32) (vF : Value) (h0 : Heap) (n0 : Nat) (v : Option Value) (h : Heap) (L : List Loc) : Prop := v = none ∧ Fr n0 L ∧ Keep h0 h [ax] ∧ ∃ (am : Addr) (km : ClassId), Fld Z h ax "com/example/coho/coho/identifier/CharacterSet" "members" "[Z" (.ref am) ∧ Arh Z h am km .boolean (128 : Int32) [(cd, (.int (1 : Int32))), (cb, (.int (1 : Int32))), (ca, (.int (1 : Int32)))] [] (.int (0 : Int32))
set_option maxRecDepth 65536 in
set_option maxHeartbeats 40000000 in
theorem rm7_3 (l : Launch) (Z : State) (a0 : Array Value) (hw : ∀ d ∈ tables_1, d.before a0 Z = true) (ws : List Jvm.Cond) (ax : Addr) (ast : Addr) (ade : Addr) (ad : Addr) (kd : ClassId) (ca : Int32) (cb : Int32) (cd : Int32) (pG : Int32) (vF : Value) (h0 : Heap) (n0 : Nat) (Z0 : n0 ≤ h0.size) (Ea : Exa Z h0 ax "com/example/coho/coho/identifier/CharacterSet") (Fm : Fld Z h0 ax "com/example/coho/coho/identifier/CharacterSet" "members" "[Z" .null) (Fd : Fld Z h0 ax "com/example/coho/coho/identifier/CharacterSet" "description" "Ljava/lang/String;" .null) (ga : n0 ≤ ax) (Es : Exa Z h0 ast "java/lang/String") (Fv : Fld Z h0 ast "java/lang/String" "value" "[B" (.ref ad)) (Fc : Fld Z h0 ast "java/lang/String" "coder" "B" (.int (0 : Int32))) (Vd : Arv Z h0 ad kd .byte (3 : Int32) [(.int ca), (.int cb), (.int cd)] (.int (0 : Int32))) (nas : ax ≠ ast) (nad : ax ≠ ad) (hp_ca : 0 ≤ ca.toInt ∧ ca.toInt < 128) (hp_cb : 0 ≤ cb.toInt ∧ cb.toInt < 128) (hp_cd : 0 ≤ cd.toInt ∧ cd.toInt < 128) (O2 : Sta Z Z.heap "java/lang/String" "COMPACT_STRINGS" "Z" (.int pG)) (hG : ¬ pG = (0 : Int32)) (X00 : Old Z n0 h0) (O4 : Sta Z Z.heap "jdk/internal/util/Preconditions" "SIOOBE_FORMATTER" "Ljava/util/function/BiFunction;" vF) (rF : vF.isRef = true) :
    MetFree l (⟨"com/example/coho/coho/identifier/CharacterSet", "<init>", "(Ljava/lang/String;Ljava/lang/String;)V"⟩ : MethodName) (head1 (Jvm.Cond.code (⟨"com/example/coho/coho/identifier/CharacterSet", "<init>", "(Ljava/lang/String;Ljava/lang/String;)V"⟩ : MethodName) prog_40_method_1_code 4 none :: ws) ({ frames := 4, cells := 1, slots := 128, locals := 54 } : Room)) (fun a U => a = #[(.ref ax), (.ref ast), (.ref ade)] ∧ Z.Warmed39 U.vm ∧ U.heap = h0) (fun _ _ _ _ _ => True) (fun _ U o U' => ∃ v L, o = .returned v ∧ own_Q7_3 Z ax ast ade ad kd ca cb cd pG vF h0 n0 v U'.heap L ∧ FrameEnd U o U' L ({ frames := 4, cells := 1, slots := 128, locals := 54 } : Room).cells ({ frames := 4, cells := 1, slots := 128, locals := 54 } : Room).slots) := by
  refine MetFree.of_bodySF (plainFor_of_name own_pn7) hisR ?_
  intro p e s m args below meth c s₁ Bd hml0 hP hK
  obtain ⟨rfl, hZ, hh⟩ := hP
  have hx := Bd.exec
  have hby := Bd.bytes
  have hml : c.maxLocals = 4 := hml0
  have hown : s.vm.findClass "com/example/coho/coho/identifier/CharacterSet" = some m.cls := findClass_of_methodNamed Bd.named
  have hnm := (name_of_methodNamed Bd.named Bd.method).1
  have X0 : Stand p l e ({ frames := 4, cells := 1, slots := 128, locals := 54 } : Room) s m #[(.ref ax), (.ref ast), (.ref ade)] below meth c s₁ [] 0 0 := Stand.of_body Bd
  have e0 : s₁.heap = h0 := by rw [← hh, Bd.state]; rfl
  have N0 := Fr.nil n0
  refine own_pre (A := (s₁.setTop (mkF m 0 #[.val (.ref ax), .val (.ref ast), .val (.ref ade), .unset] []))) (fun t k => castTop (own_ef7 m ax ast ade) k) ?_
  refine own_pre (A := (s₁.setTop (mkF m 1 #[.val (.ref ax), .val (.ref ast), .val (.ref ade), .unset] [(.ref ax)]))) ?_ ?_
  · intro t k
    refine XS.aloadN X0.here hx rfl (hb hby d7_0) rfl rfl ?_
    exact k
  obtain ⟨T176, X176, e176, st176⟩ := initO X0 hx hZ hown (own_w hw 39 rfl) (own_w hw 12 rfl) (own_w hw 13 rfl) e0 (g := (mkF m 1 #[.val (.ref ax), .val (.ref ast), .val (.ref ade), .unset] [(.ref ax)])) rfl (by rw [hml]; rfl) rfl (hb hby d7_1) (by decide) (W := 0) (by show 2 * 0 + _ ≤ _; exact Nat.le_of_eq rfl) (by decide)
  refine own_pre (fun t k => st176 t k) ?_
  refine own_pre (A := (T176.setTop (mkF m 8 #[.val (.ref ax), .val (.ref ast), .val (.ref ade), .unset] [(.int (128 : Int32)), (.ref ax)]))) ?_ ?_
  · intro t k
    refine XS.aloadN X176.here hx rfl (hb hby d7_4) rfl rfl ?_
    refine XS.sipush X176.here hx rfl (hb hby d7_5) ?_
    exact k
  obtain ⟨T177, h177, k177, X177, e177, E177, A177, st177⟩ := newP X176 hx hZ (own_w hw 40 rfl) e176 (g := (mkF m 8 #[.val (.ref ax), .val (.ref ast), .val (.ref ade), .unset] [(.int (128 : Int32)), (.ref ax)])) rfl (hb hby d7_8) rfl (by decide) (cap := 128) (by decide) (by decide) (by decide) (by decide)
  obtain ⟨b177, g177⟩ : ∃ z, z = h0.size := ⟨_, rfl⟩
  rw [← g177] at A177 st177
  have ne_ad_b177 : ad ≠ b177 := Nat.ne_of_lt (Nat.lt_of_lt_of_le Vd.lt (Nat.le_of_eq g177.symm))
  have ne_ast_b177 : ast ≠ b177 := Nat.ne_of_lt (Nat.lt_of_lt_of_le Es.lt (Nat.le_of_eq g177.symm))
  have ne_ax_b177 : ax ≠ b177 := Nat.ne_of_lt (Nat.lt_of_lt_of_le Ea.lt (Nat.le_of_eq g177.symm))
  have gn_b177 : n0 ≤ b177 := Nat.le_trans Z0 (Nat.le_of_eq g177.symm)
  have sz_b177 : h0.size ≤ b177 := Nat.le_trans (Keep.refl h0 [ax]).1 (Nat.le_of_eq g177.symm)
  have Ea_177 := Ea.ext E177
  have Fm_177 := Fm.ext E177
  have Fd_177 := Fd.ext E177
  have Es_177 := Es.ext E177
  have Fv_177 := Fv.ext E177
  have Fc_177 := Fc.ext E177
  have Vd_177 := Vd.ext E177
  have X00_177 := X00.ext E177
  have Zs177 : n0 ≤ h177.size := Nat.le_trans Z0 E177.1
  have Kc177 : Keep h0 h177 [ax] := (Keep.refl h0 [ax]).ext E177
  have V177 : Arh Z h177 b177 k177 .boolean (128 : Int32) [] [] (.int (0 : Int32)) := (Arv.new A177 (by decide)).arh
  refine own_pre (fun t k => st177 t k) ?_
  obtain ⟨T178, h178, X178, e178, W178, st178⟩ := putF X177 hx hZ hown (host := "") (Or.inl (own_w hw 41 rfl)) Via.refl e177 Fm_177 Ea_177 (Or.inr ⟨(own_w hw 42 rfl), rfl, hnm⟩) (own_w hw 31 rfl) (ty := (.array .boolean)) (by decide) rfl rfl (g := (mkF m 10 #[.val (.ref ax), .val (.ref ast), .val (.ref ade), .unset] [(.ref b177), (.ref ax)])) rfl rfl (hb hby d7_10)
  have Ea_178 := Ea_177.wr W178
  have Fd_178 := Fd_177.other W178 (Or.inr (slot_ne (Or.inr (own_w hw 76 rfl)) (Or.inr (own_w hw 42 rfl)) (by decide) (t := (.object "java/lang/String")) (t' := (.array .boolean)) (by decide) (by decide)))
  have Es_178 := Es_177.wr W178
  have Fv_178 := Fv_177.other W178 (Or.inl nas.symm)
  have Fc_178 := Fc_177.other W178 (Or.inl nas.symm)
  have Vd_178 := Vd_177.other W178 nad.symm
  have X00_178 := X00_177.wr W178 ga
  have V177_178 := V177.other W178 ne_ax_b177.symm
  have Zs178 : n0 ≤ h178.size := Nat.le_trans Zs177 (Keep.of_wr W178).1
  have Kc178 : Keep h0 h178 [ax] := Kc177.wr W178 (Or.inl (List.mem_of_getElem? (i := 0) rfl))
  have N178 := Fr.snoc X178 N0 ga
  have Fw178 := Fm_177.same W178
  refine own_pre (fun t k => st178 t k) ?_
  refine own_pre (A := (T178.setTop (mkF m 17 #[.val (.ref ax), .val (.ref ast), .val (.ref ade), .val (.int (0 : Int32))] [(.ref ast), (.int (0 : Int32))]))) ?_ ?_
  · intro t k
    refine XS.iconst X178.here hx rfl (hb hby d7_13) ?_
    refine XS.istoreN X178.here hx rfl (hb hby d7_14) rfl (l' := #[.val (.ref ax), .val (.ref ast), .val (.ref ade), .val (.int (0 : Int32))]) rfl ?_
    refine XS.iloadN X178.here hx rfl (hb hby d7_15) rfl ?_
    refine XS.aloadN X178.here hx rfl (hb hby d7_16) rfl rfl ?_
    exact k
  obtain ⟨cq179, kq179, q179a, q179b, q179c⟩ := isOf hZ e178 Es_178
  obtain ⟨_, _, ⟨T179, L179, k179, n179⟩, -, X179, ⟨Lc179, hQ179, l179, y179, z179⟩, st179⟩ := X178.virtualBack hx (y := (⟨"java/lang/String", "length", "()I"⟩ : MethodName)) (z := (⟨"java/lang/String", "length", "()I"⟩ : MethodName)) hown (mvT hZ (own_w hw 43 rfl)) (mvT hZ (own_w hw 44 rfl)) (notFace_of_selects (args := #[]) (mvT hZ (own_w hw 46 rfl))) (mvT hZ (own_w hw 46 rfl)) (mvT hZ (own_w hw 45 rfl)) (by decide) (backOf (W := 1) (rm8_3 l Z a0 hw [] ast ad kd ca cb cd pG h178 n0 Zs178 Es_178 Fv_178 Fc_178 Vd_178 O2 hG X00_178) hZ (own_w hw 47 rfl) (own_w hw 2 rfl) (by decide) (by decide)) q179a q179c (g := (mkF m 17 #[.val (.ref ax), .val (.ref ast), .val (.ref ade), .val (.int (0 : Int32))] [(.ref ast), (.int (0 : Int32))])) rfl (by rw [hml]; rfl) (Steps.refl _) (argsL := []) (rest := [(.int (0 : Int32))]) (lenOf own_pd9 rfl) rfl (by show 2 * 0 + _ ≤ _; exact Nat.le_of_eq rfl) (hb hby d7_17) (fun _ _ => ⟨rfl, e178, (by decide : 1 + 0 ≤ _), (by decide : 128 + 0 ≤ _)⟩)
  dsimp only [Pt.U, Pt.locs, Pt.cells, Pt.slots] at X179 l179 y179 z179 st179 hQ179
  replace y179 : _ = 1 := y179
  replace z179 : _ = 128 := z179
  subst y179 z179
  obtain ⟨Nq179, rfl, eq179⟩ := hQ179
  have N179 := own_frl l179 N178 Nq179
  refine own_pre (fun t k => st179.trans k) ?_
  refine own_pre (A := (T179.setTop (mkF m 24 #[.val (.ref ax), .val (.ref ast), .val (.ref ade), .val (.int (0 : Int32))] [(.ref ax)]))) ?_ ?_
  · intro t k
    refine XS.icmpNo X179.here hx rfl (hb hby d7_20) rfl (tlt (by decide : (0 : Int32) < (3 : Int32))).2.1 ?_
    refine XS.aloadN X179.here hx rfl (hb hby d7_23) rfl rfl ?_
    exact k
  obtain ⟨T180, X180, e180, st180⟩ := getF X179 hx hZ hown (host := "") (Or.inl (own_w hw 41 rfl)) Via.refl eq179 Fw178 (g := (mkF m 24 #[.val (.ref ax), .val (.ref ast), .val (.ref ade), .val (.int (0 : Int32))] [(.ref ax)])) rfl rfl (hb hby d7_24)
  refine own_pre (fun t k => st180 t k) ?_
  refine own_pre (A := (T180.setTop (mkF m 29 #[.val (.ref ax), .val (.ref ast), .val (.ref ade), .val (.int (0 : Int32))] [(.int (0 : Int32)), (.ref ast), (.ref b177)]))) ?_ ?_
  · intro t k
    refine XS.aloadN X180.here hx rfl (hb hby d7_27) rfl rfl ?_
    refine XS.iloadN X180.here hx rfl (hb hby d7_28) rfl ?_
    exact k
  obtain ⟨cq181, kq181, q181a, q181b, q181c⟩ := isOf hZ e180 Es_178
  obtain ⟨_, _, ⟨T181, L181, k181, n181⟩, -, X181, ⟨Lc181, hQ181, l181, y181, z181⟩, st181⟩ := X180.virtualBack hx (y := (⟨"java/lang/String", "charAt", "(I)C"⟩ : MethodName)) (z := (⟨"java/lang/String", "charAt", "(I)C"⟩ : MethodName)) hown (mvT hZ (own_w hw 53 rfl)) (mvT hZ (own_w hw 54 rfl)) (notFace_of_selects (args := #[]) (mvT hZ (own_w hw 56 rfl))) (mvT hZ (own_w hw 56 rfl)) (mvT hZ (own_w hw 55 rfl)) (by decide) (backOf (W := 1) (rm10_0_3 l Z a0 hw [] ast ad kd ca cb cd pG vF h178 n0 Zs178 Es_178 Fv_178 Fc_178 Vd_178 hp_ca hp_cb hp_cd O2 hG X00_178 O4 rF) hZ (own_w hw 57 rfl) (own_w hw 2 rfl) (by decide) (by decide)) q181a q181c (g := (mkF m 29 #[.val (.ref ax), .val (.ref ast), .val (.ref ade), .val (.int (0 : Int32))] [(.int (0 : Int32)), (.ref ast), (.ref b177)])) rfl (by rw [hml]; rfl) (Steps.refl _) (argsL := [(.int (0 : Int32))]) (rest := [(.ref b177)]) (lenOf own_pd10 rfl) rfl (by show 2 * 0 + _ ≤ _; exact Nat.le_of_eq rfl) (hb hby d7_29) (fun _ _ => ⟨rfl, e180, (by decide : 1 + 0 ≤ _), (by decide : 128 + 0 ≤ _)⟩)
  dsimp only [Pt.U, Pt.locs, Pt.cells, Pt.slots] at X181 l181 y181 z181 st181 hQ181
  replace y181 : _ = 1 := y181
  replace z181 : _ = 128 := z181
  subst y181 z181
  obtain ⟨Nq181, rfl, eq181⟩ := hQ181
  have N181 := own_frl l181 N179 Nq181
  refine own_pre (fun t k => st181.trans k) ?_
  refine own_pre (A := (T181.setTop (mkF m 33 #[.val (.ref ax), .val (.ref ast), .val (.ref ade), .val (.int (0 : Int32))] [(.int (1 : Int32)), (.int ca), (.ref b177)]))) ?_ ?_
  · intro t k
    refine XS.iconst X181.here hx rfl (hb hby d7_32) ?_
    exact k
  obtain ⟨cl182, Ar182, q182, S182, N182, H182, G182⟩ := V177_178
  have hin182 : ¬ (ca < 0 ∨ cl182.slots.size ≤ (ca).toNatClampNeg) := inb_of S182 (own_ch_in ca hp_ca)
  obtain ⟨T182, h182, X182, e182, W182, st182⟩ := stZ X181 hx hZ eq181 Ar182 (j := ca) hin182 (g := (mkF m 33 #[.val (.ref ax), .val (.ref ast), .val (.ref ade), .val (.int (0 : Int32))] [(.int (1 : Int32)), (.int ca), (.ref b177)])) rfl rfl (hb hby d7_33)
  have V182 : Arh Z h182 b177 k177 .boolean (128 : Int32) [(ca, (.int (1 : Int32)))] [] (.int (0 : Int32)) := Arh.push Ar182 q182 S182 N182 H182 G182 rfl W182 hin182
  have Ea_182 := Ea_178.wr W182
  have Fw178_182 := Fw178.other W182 (Or.inl ne_ax_b177)
  have Fd_182 := Fd_178.other W182 (Or.inl ne_ax_b177)
  have Es_182 := Es_178.wr W182
  have Fv_182 := Fv_178.other W182 (Or.inl ne_ast_b177)
  have Fc_182 := Fc_178.other W182 (Or.inl ne_ast_b177)
  have Vd_182 := Vd_178.other W182 ne_ad_b177
  have X00_182 := X00_178.wr W182 gn_b177
  have Zs182 : n0 ≤ h182.size := Nat.le_trans Zs178 (Keep.of_wr W182).1
  have Kc182 : Keep h0 h182 [ax] := Kc178.wr W182 (Or.inr sz_b177)
  have N182 := Fr.snoc X182 N181 gn_b177
  refine own_pre (fun t k => st182 t k) ?_
  refine own_pre (A := (T182.setTop (mkF m 17 #[.val (.ref ax), .val (.ref ast), .val (.ref ade), .val (.int (1 : Int32))] [(.ref ast), (.int (1 : Int32))]))) ?_ ?_
  · intro t k
    refine XS.iinc X182.here hx rfl (hb hby d7_34) rfl (l' := #[.val (.ref ax), .val (.ref ast), .val (.ref ade), .val (.int ((0 : Int32) + (1 : Int32)))]) rfl ?_
    show Steps  p.tables e below (T182.setTop (mkF m 37 #[.val (.ref ax), .val (.ref ast), .val (.ref ade), .val (.int ((0 : Int32) + (1 : Int32)))] [])) _
    rw [show ((0 : Int32) + (1 : Int32)) = (1 : Int32) from by decide]
    refine XS.goto X182.here hx rfl (pc0 := 37) (pc' := 15) rfl (hb hby d7_37) (by decide) (by decide) ?_
    refine XS.iloadN X182.here hx rfl (hb hby d7_15) rfl ?_
    refine XS.aloadN X182.here hx rfl (hb hby d7_16) rfl rfl ?_
    exact k
  obtain ⟨cq183, kq183, q183a, q183b, q183c⟩ := isOf hZ e182 Es_182
  obtain ⟨_, _, ⟨T183, L183, k183, n183⟩, -, X183, ⟨Lc183, hQ183, l183, y183, z183⟩, st183⟩ := X182.virtualBack hx (y := (⟨"java/lang/String", "length", "()I"⟩ : MethodName)) (z := (⟨"java/lang/String", "length", "()I"⟩ : MethodName)) hown (mvT hZ (own_w hw 43 rfl)) (mvT hZ (own_w hw 44 rfl)) (notFace_of_selects (args := #[]) (mvT hZ (own_w hw 46 rfl))) (mvT hZ (own_w hw 46 rfl)) (mvT hZ (own_w hw 45 rfl)) (by decide) (backOf (W := 1) (rm8_3 l Z a0 hw [] ast ad kd ca cb cd pG h182 n0 Zs182 Es_182 Fv_182 Fc_182 Vd_182 O2 hG X00_182) hZ (own_w hw 47 rfl) (own_w hw 2 rfl) (by decide) (by decide)) q183a q183c (g := (mkF m 17 #[.val (.ref ax), .val (.ref ast), .val (.ref ade), .val (.int (1 : Int32))] [(.ref ast), (.int (1 : Int32))])) rfl (by rw [hml]; rfl) (Steps.refl _) (argsL := []) (rest := [(.int (1 : Int32))]) (lenOf own_pd9 rfl) rfl (by show 2 * 0 + _ ≤ _; exact Nat.le_of_eq rfl) (hb hby d7_17) (fun _ _ => ⟨rfl, e182, (by decide : 1 + 0 ≤ _), (by decide : 128 + 0 ≤ _)⟩)
  dsimp only [Pt.U, Pt.locs, Pt.cells, Pt.slots] at X183 l183 y183 z183 st183 hQ183
  replace y183 : _ = 1 := y183
  replace z183 : _ = 128 := z183
  subst y183 z183
  obtain ⟨Nq183, rfl, eq183⟩ := hQ183
  have N183 := own_frl l183 N182 Nq183
  refine own_pre (fun t k => st183.trans k) ?_
  refine own_pre (A := (T183.setTop (mkF m 24 #[.val (.ref ax), .val (.ref ast), .val (.ref ade), .val (.int (1 : Int32))] [(.ref ax)]))) ?_ ?_
  · intro t k
    refine XS.icmpNo X183.here hx rfl (hb hby d7_20) rfl (tlt (by decide : (1 : Int32) < (3 : Int32))).2.1 ?_
    refine XS.aloadN X183.here hx rfl (hb hby d7_23) rfl rfl ?_
    exact k
  obtain ⟨T184, X184, e184, st184⟩ := getF X183 hx hZ hown (host := "") (Or.inl (own_w hw 41 rfl)) Via.refl eq183 Fw178_182 (g := (mkF m 24 #[.val (.ref ax), .val (.ref ast), .val (.ref ade), .val (.int (1 : Int32))] [(.ref ax)])) rfl rfl (hb hby d7_24)
  refine own_pre (fun t k => st184 t k) ?_
  refine own_pre (A := (T184.setTop (mkF m 29 #[.val (.ref ax), .val (.ref ast), .val (.ref ade), .val (.int (1 : Int32))] [(.int (1 : Int32)), (.ref ast), (.ref b177)]))) ?_ ?_
  · intro t k
    refine XS.aloadN X184.here hx rfl (hb hby d7_27) rfl rfl ?_
    refine XS.iloadN X184.here hx rfl (hb hby d7_28) rfl ?_
    exact k
  obtain ⟨cq185, kq185, q185a, q185b, q185c⟩ := isOf hZ e184 Es_182
  obtain ⟨_, _, ⟨T185, L185, k185, n185⟩, -, X185, ⟨Lc185, hQ185, l185, y185, z185⟩, st185⟩ := X184.virtualBack hx (y := (⟨"java/lang/String", "charAt", "(I)C"⟩ : MethodName)) (z := (⟨"java/lang/String", "charAt", "(I)C"⟩ : MethodName)) hown (mvT hZ (own_w hw 53 rfl)) (mvT hZ (own_w hw 54 rfl)) (notFace_of_selects (args := #[]) (mvT hZ (own_w hw 56 rfl))) (mvT hZ (own_w hw 56 rfl)) (mvT hZ (own_w hw 55 rfl)) (by decide) (backOf (W := 1) (rm10_1_3 l Z a0 hw [] ast ad kd ca cb cd pG vF h182 n0 Zs182 Es_182 Fv_182 Fc_182 Vd_182 hp_ca hp_cb hp_cd O2 hG X00_182 O4 rF) hZ (own_w hw 57 rfl) (own_w hw 2 rfl) (by decide) (by decide)) q185a q185c (g := (mkF m 29 #[.val (.ref ax), .val (.ref ast), .val (.ref ade), .val (.int (1 : Int32))] [(.int (1 : Int32)), (.ref ast), (.ref b177)])) rfl (by rw [hml]; rfl) (Steps.refl _) (argsL := [(.int (1 : Int32))]) (rest := [(.ref b177)]) (lenOf own_pd10 rfl) rfl (by show 2 * 0 + _ ≤ _; exact Nat.le_of_eq rfl) (hb hby d7_29) (fun _ _ => ⟨rfl, e184, (by decide : 1 + 0 ≤ _), (by decide : 128 + 0 ≤ _)⟩)
  dsimp only [Pt.U, Pt.locs, Pt.cells, Pt.slots] at X185 l185 y185 z185 st185 hQ185
  replace y185 : _ = 1 := y185
  replace z185 : _ = 128 := z185
  subst y185 z185
  obtain ⟨Nq185, rfl, eq185⟩ := hQ185
  have N185 := own_frl l185 N183 Nq185
  refine own_pre (fun t k => st185.trans k) ?_
  refine own_pre (A := (T185.setTop (mkF m 33 #[.val (.ref ax), .val (.ref ast), .val (.ref ade), .val (.int (1 : Int32))] [(.int (1 : Int32)), (.int cb), (.ref b177)]))) ?_ ?_
  · intro t k
    refine XS.iconst X185.here hx rfl (hb hby d7_32) ?_
    exact k
  obtain ⟨cl186, Ar186, q186, S186, N186, H186, G186⟩ := V182
  have hin186 : ¬ (cb < 0 ∨ cl186.slots.size ≤ (cb).toNatClampNeg) := inb_of S186 (own_ch_in cb hp_cb)
  obtain ⟨T186, h186, X186, e186, W186, st186⟩ := stZ X185 hx hZ eq185 Ar186 (j := cb) hin186 (g := (mkF m 33 #[.val (.ref ax), .val (.ref ast), .val (.ref ade), .val (.int (1 : Int32))] [(.int (1 : Int32)), (.int cb), (.ref b177)])) rfl rfl (hb hby d7_33)
  have V186 : Arh Z h186 b177 k177 .boolean (128 : Int32) [(cb, (.int (1 : Int32))), (ca, (.int (1 : Int32)))] [] (.int (0 : Int32)) := Arh.push Ar186 q186 S186 N186 H186 G186 rfl W186 hin186
  have Ea_186 := Ea_182.wr W186
  have Fw178_186 := Fw178_182.other W186 (Or.inl ne_ax_b177)
  have Fd_186 := Fd_182.other W186 (Or.inl ne_ax_b177)
  have Es_186 := Es_182.wr W186
  have Fv_186 := Fv_182.other W186 (Or.inl ne_ast_b177)
  have Fc_186 := Fc_182.other W186 (Or.inl ne_ast_b177)
  have Vd_186 := Vd_182.other W186 ne_ad_b177
  have X00_186 := X00_182.wr W186 gn_b177
  have Zs186 : n0 ≤ h186.size := Nat.le_trans Zs182 (Keep.of_wr W186).1
  have Kc186 : Keep h0 h186 [ax] := Kc182.wr W186 (Or.inr sz_b177)
  have N186 := Fr.snoc X186 N185 gn_b177
  refine own_pre (fun t k => st186 t k) ?_
  refine own_pre (A := (T186.setTop (mkF m 17 #[.val (.ref ax), .val (.ref ast), .val (.ref ade), .val (.int (2 : Int32))] [(.ref ast), (.int (2 : Int32))]))) ?_ ?_
  · intro t k
    refine XS.iinc X186.here hx rfl (hb hby d7_34) rfl (l' := #[.val (.ref ax), .val (.ref ast), .val (.ref ade), .val (.int ((1 : Int32) + (1 : Int32)))]) rfl ?_
    show Steps  p.tables e below (T186.setTop (mkF m 37 #[.val (.ref ax), .val (.ref ast), .val (.ref ade), .val (.int ((1 : Int32) + (1 : Int32)))] [])) _
    rw [show ((1 : Int32) + (1 : Int32)) = (2 : Int32) from by decide]
    refine XS.goto X186.here hx rfl (pc0 := 37) (pc' := 15) rfl (hb hby d7_37) (by decide) (by decide) ?_
    refine XS.iloadN X186.here hx rfl (hb hby d7_15) rfl ?_
    refine XS.aloadN X186.here hx rfl (hb hby d7_16) rfl rfl ?_
    exact k
  obtain ⟨cq187, kq187, q187a, q187b, q187c⟩ := isOf hZ e186 Es_186
  obtain ⟨_, _, ⟨T187, L187, k187, n187⟩, -, X187, ⟨Lc187, hQ187, l187, y187, z187⟩, st187⟩ := X186.virtualBack hx (y := (⟨"java/lang/String", "length", "()I"⟩ : MethodName)) (z := (⟨"java/lang/String", "length", "()I"⟩ : MethodName)) hown (mvT hZ (own_w hw 43 rfl)) (mvT hZ (own_w hw 44 rfl)) (notFace_of_selects (args := #[]) (mvT hZ (own_w hw 46 rfl))) (mvT hZ (own_w hw 46 rfl)) (mvT hZ (own_w hw 45 rfl)) (by decide) (backOf (W := 1) (rm8_3 l Z a0 hw [] ast ad kd ca cb cd pG h186 n0 Zs186 Es_186 Fv_186 Fc_186 Vd_186 O2 hG X00_186) hZ (own_w hw 47 rfl) (own_w hw 2 rfl) (by decide) (by decide)) q187a q187c (g := (mkF m 17 #[.val (.ref ax), .val (.ref ast), .val (.ref ade), .val (.int (2 : Int32))] [(.ref ast), (.int (2 : Int32))])) rfl (by rw [hml]; rfl) (Steps.refl _) (argsL := []) (rest := [(.int (2 : Int32))]) (lenOf own_pd9 rfl) rfl (by show 2 * 0 + _ ≤ _; exact Nat.le_of_eq rfl) (hb hby d7_17) (fun _ _ => ⟨rfl, e186, (by decide : 1 + 0 ≤ _), (by decide : 128 + 0 ≤ _)⟩)
  dsimp only [Pt.U, Pt.locs, Pt.cells, Pt.slots] at X187 l187 y187 z187 st187 hQ187
  replace y187 : _ = 1 := y187
  replace z187 : _ = 128 := z187
  subst y187 z187
  obtain ⟨Nq187, rfl, eq187⟩ := hQ187
  have N187 := own_frl l187 N186 Nq187
  refine own_pre (fun t k => st187.trans k) ?_
  refine own_pre (A := (T187.setTop (mkF m 24 #[.val (.ref ax), .val (.ref ast), .val (.ref ade), .val (.int (2 : Int32))] [(.ref ax)]))) ?_ ?_
  · intro t k
    refine XS.icmpNo X187.here hx rfl (hb hby d7_20) rfl (tlt (by decide : (2 : Int32) < (3 : Int32))).2.1 ?_
    refine XS.aloadN X187.here hx rfl (hb hby d7_23) rfl rfl ?_
    exact k
  obtain ⟨T188, X188, e188, st188⟩ := getF X187 hx hZ hown (host := "") (Or.inl (own_w hw 41 rfl)) Via.refl eq187 Fw178_186 (g := (mkF m 24 #[.val (.ref ax), .val (.ref ast), .val (.ref ade), .val (.int (2 : Int32))] [(.ref ax)])) rfl rfl (hb hby d7_24)
  refine own_pre (fun t k => st188 t k) ?_
  refine own_pre (A := (T188.setTop (mkF m 29 #[.val (.ref ax), .val (.ref ast), .val (.ref ade), .val (.int (2 : Int32))] [(.int (2 : Int32)), (.ref ast), (.ref b177)]))) ?_ ?_
  · intro t k
    refine XS.aloadN X188.here hx rfl (hb hby d7_27) rfl rfl ?_
    refine XS.iloadN X188.here hx rfl (hb hby d7_28) rfl ?_
    exact k
  obtain ⟨cq189, kq189, q189a, q189b, q189c⟩ := isOf hZ e188 Es_186
  obtain ⟨_, _, ⟨T189, L189, k189, n189⟩, -, X189, ⟨Lc189, hQ189, l189, y189, z189⟩, st189⟩ := X188.virtualBack hx (y := (⟨"java/lang/String", "charAt", "(I)C"⟩ : MethodName)) (z := (⟨"java/lang/String", "charAt", "(I)C"⟩ : MethodName)) hown (mvT hZ (own_w hw 53 rfl)) (mvT hZ (own_w hw 54 rfl)) (notFace_of_selects (args := #[]) (mvT hZ (own_w hw 56 rfl))) (mvT hZ (own_w hw 56 rfl)) (mvT hZ (own_w hw 55 rfl)) (by decide) (backOf (W := 1) (rm10_2_3 l Z a0 hw [] ast ad kd ca cb cd pG vF h186 n0 Zs186 Es_186 Fv_186 Fc_186 Vd_186 hp_ca hp_cb hp_cd O2 hG X00_186 O4 rF) hZ (own_w hw 57 rfl) (own_w hw 2 rfl) (by decide) (by decide)) q189a q189c (g := (mkF m 29 #[.val (.ref ax), .val (.ref ast), .val (.ref ade), .val (.int (2 : Int32))] [(.int (2 : Int32)), (.ref ast), (.ref b177)])) rfl (by rw [hml]; rfl) (Steps.refl _) (argsL := [(.int (2 : Int32))]) (rest := [(.ref b177)]) (lenOf own_pd10 rfl) rfl (by show 2 * 0 + _ ≤ _; exact Nat.le_of_eq rfl) (hb hby d7_29) (fun _ _ => ⟨rfl, e188, (by decide : 1 + 0 ≤ _), (by decide : 128 + 0 ≤ _)⟩)
  dsimp only [Pt.U, Pt.locs, Pt.cells, Pt.slots] at X189 l189 y189 z189 st189 hQ189
  replace y189 : _ = 1 := y189
  replace z189 : _ = 128 := z189
  subst y189 z189
  obtain ⟨Nq189, rfl, eq189⟩ := hQ189
  have N189 := own_frl l189 N187 Nq189
  refine own_pre (fun t k => st189.trans k) ?_
  refine own_pre (A := (T189.setTop (mkF m 33 #[.val (.ref ax), .val (.ref ast), .val (.ref ade), .val (.int (2 : Int32))] [(.int (1 : Int32)), (.int cd), (.ref b177)]))) ?_ ?_
  · intro t k
    refine XS.iconst X189.here hx rfl (hb hby d7_32) ?_
    exact k
  obtain ⟨cl190, Ar190, q190, S190, N190, H190, G190⟩ := V186
  have hin190 : ¬ (cd < 0 ∨ cl190.slots.size ≤ (cd).toNatClampNeg) := inb_of S190 (own_ch_in cd hp_cd)
  obtain ⟨T190, h190, X190, e190, W190, st190⟩ := stZ X189 hx hZ eq189 Ar190 (j := cd) hin190 (g := (mkF m 33 #[.val (.ref ax), .val (.ref ast), .val (.ref ade), .val (.int (2 : Int32))] [(.int (1 : Int32)), (.int cd), (.ref b177)])) rfl rfl (hb hby d7_33)
  have V190 : Arh Z h190 b177 k177 .boolean (128 : Int32) [(cd, (.int (1 : Int32))), (cb, (.int (1 : Int32))), (ca, (.int (1 : Int32)))] [] (.int (0 : Int32)) := Arh.push Ar190 q190 S190 N190 H190 G190 rfl W190 hin190
  have Ea_190 := Ea_186.wr W190
  have Fw178_190 := Fw178_186.other W190 (Or.inl ne_ax_b177)
  have Fd_190 := Fd_186.other W190 (Or.inl ne_ax_b177)
  have Es_190 := Es_186.wr W190
  have Fv_190 := Fv_186.other W190 (Or.inl ne_ast_b177)
  have Fc_190 := Fc_186.other W190 (Or.inl ne_ast_b177)
  have Vd_190 := Vd_186.other W190 ne_ad_b177
  have X00_190 := X00_186.wr W190 gn_b177
  have Zs190 : n0 ≤ h190.size := Nat.le_trans Zs186 (Keep.of_wr W190).1
  have Kc190 : Keep h0 h190 [ax] := Kc186.wr W190 (Or.inr sz_b177)
  have N190 := Fr.snoc X190 N189 gn_b177
  refine own_pre (fun t k => st190 t k) ?_
  refine own_pre (A := (T190.setTop (mkF m 17 #[.val (.ref ax), .val (.ref ast), .val (.ref ade), .val (.int (3 : Int32))] [(.ref ast), (.int (3 : Int32))]))) ?_ ?_
  · intro t k
    refine XS.iinc X190.here hx rfl (hb hby d7_34) rfl (l' := #[.val (.ref ax), .val (.ref ast), .val (.ref ade), .val (.int ((2 : Int32) + (1 : Int32)))]) rfl ?_
    show Steps  p.tables e below (T190.setTop (mkF m 37 #[.val (.ref ax), .val (.ref ast), .val (.ref ade), .val (.int ((2 : Int32) + (1 : Int32)))] [])) _
    rw [show ((2 : Int32) + (1 : Int32)) = (3 : Int32) from by decide]
    refine XS.goto X190.here hx rfl (pc0 := 37) (pc' := 15) rfl (hb hby d7_37) (by decide) (by decide) ?_
    refine XS.iloadN X190.here hx rfl (hb hby d7_15) rfl ?_
    refine XS.aloadN X190.here hx rfl (hb hby d7_16) rfl rfl ?_
    exact k
  obtain ⟨cq191, kq191, q191a, q191b, q191c⟩ := isOf hZ e190 Es_190
  obtain ⟨_, _, ⟨T191, L191, k191, n191⟩, -, X191, ⟨Lc191, hQ191, l191, y191, z191⟩, st191⟩ := X190.virtualBack hx (y := (⟨"java/lang/String", "length", "()I"⟩ : MethodName)) (z := (⟨"java/lang/String", "length", "()I"⟩ : MethodName)) hown (mvT hZ (own_w hw 43 rfl)) (mvT hZ (own_w hw 44 rfl)) (notFace_of_selects (args := #[]) (mvT hZ (own_w hw 46 rfl))) (mvT hZ (own_w hw 46 rfl)) (mvT hZ (own_w hw 45 rfl)) (by decide) (backOf (W := 1) (rm8_3 l Z a0 hw [] ast ad kd ca cb cd pG h190 n0 Zs190 Es_190 Fv_190 Fc_190 Vd_190 O2 hG X00_190) hZ (own_w hw 47 rfl) (own_w hw 2 rfl) (by decide) (by decide)) q191a q191c (g := (mkF m 17 #[.val (.ref ax), .val (.ref ast), .val (.ref ade), .val (.int (3 : Int32))] [(.ref ast), (.int (3 : Int32))])) rfl (by rw [hml]; rfl) (Steps.refl _) (argsL := []) (rest := [(.int (3 : Int32))]) (lenOf own_pd9 rfl) rfl (by show 2 * 0 + _ ≤ _; exact Nat.le_of_eq rfl) (hb hby d7_17) (fun _ _ => ⟨rfl, e190, (by decide : 1 + 0 ≤ _), (by decide : 128 + 0 ≤ _)⟩)
  dsimp only [Pt.U, Pt.locs, Pt.cells, Pt.slots] at X191 l191 y191 z191 st191 hQ191
  replace y191 : _ = 1 := y191
  replace z191 : _ = 128 := z191
  subst y191 z191
  obtain ⟨Nq191, rfl, eq191⟩ := hQ191
  have N191 := own_frl l191 N190 Nq191
  refine own_pre (fun t k => st191.trans k) ?_
  refine own_pre (A := (T191.setTop (mkF m 42 #[.val (.ref ax), .val (.ref ast), .val (.ref ade), .val (.int (3 : Int32))] [(.ref ade), (.ref ax)]))) ?_ ?_
  · intro t k
    refine XS.icmpYes X191.here hx rfl (pc0 := 20) (pc' := 40) rfl (hb hby d7_20) rfl (flt (by decide : ¬ ((3 : Int32) < (3 : Int32)))).2.1 (by decide) (by decide) ?_
    refine XS.aloadN X191.here hx rfl (hb hby d7_40) rfl rfl ?_
    refine XS.aloadN X191.here hx rfl (hb hby d7_41) rfl rfl ?_
    exact k
  obtain ⟨T192, h192, X192, e192, W192, st192⟩ := putF X191 hx hZ hown (host := "") (Or.inl (own_w hw 75 rfl)) Via.refl eq191 Fd_190 Ea_190 (Or.inr ⟨(own_w hw 76 rfl), rfl, hnm⟩) (own_w hw 31 rfl) (ty := (.object "java/lang/String")) (by decide) rfl rfl (g := (mkF m 42 #[.val (.ref ax), .val (.ref ast), .val (.ref ade), .val (.int (3 : Int32))] [(.ref ade), (.ref ax)])) rfl rfl (hb hby d7_42)
  have Fw178_192 := Fw178_190.other W192 (Or.inr (slot_ne (Or.inr (own_w hw 42 rfl)) (Or.inr (own_w hw 76 rfl)) (by decide) (t := (.array .boolean)) (t' := (.object "java/lang/String")) (by decide) (by decide)))
  have V190_192 := V190.other W192 ne_ax_b177.symm
  have Kc192 : Keep h0 h192 [ax] := Kc190.wr W192 (Or.inl (List.mem_of_getElem? (i := 0) rfl))
  have N192 := Fr.snoc X192 N191 ga
  refine own_pre (fun t k => st192 t k) ?_
  obtain ⟨fs, hr, hrun, hended, hW, hsame⟩ := X192.leave (hlocks := BodyLoose.notSynchronized Bd) (v := none) (fun _ => rfl)
  refine ⟨_, _, X192.returnOut hx Bd.returns (hb hby d7_45) hr, hrun, hended, _, _, rfl, ?_, ⟨_, rfl⟩, hW, hsame.mono (by decide) (by decide)⟩
  show own_Q7_3 Z ax ast ade ad kd ca cb cd pG vF h0 n0 _ T192.heap _
  rw [e192]
  exact ⟨rfl, N192, Kc192, b177, k177, Fw178_192, V190_192⟩
def own_mem3 (pc : Int32) (ca : Int32) (cb : Int32) (cd : Int32) : Int32 := (if cd.toInt = (pc.toNatClampNeg : Int) then (1 : Int32) else (if cb.toInt = (pc.toNatClampNeg : Int) then (1 : Int32) else (if ca.toInt = (pc.toNatClampNeg : Int) then (1 : Int32) else (0 : Int32))))
theorem own_mem3_eq (pc : Int32) (ca : Int32) (cb : Int32) (cd : Int32) : getH [(cd, (.int (1 : Int32))), (cb, (.int (1 : Int32))), (ca, (.int (1 : Int32)))] [] (.int (0 : Int32)) pc.toNatClampNeg = .int (own_mem3 pc ca cb cd) := by
  simp only [getH, own_mem3, List.getD_nil]
  repeat' split
  all_goals rfl
def own_ctn3 (pc : Int32) (ca : Int32) (cb : Int32) (cd : Int32) : Int32 := (if pc < (128 : Int32) then (if (own_mem3 pc ca cb cd) = (0 : Int32) then (0 : Int32) else (1 : Int32)) else (0 : Int32))
def own_Q15_3 (Z : State) (ax : Addr) (pc : Int32) (am : Addr) (km : ClassId) (ca : Int32) (cb : Int32) (cd : Int32) (h0 : Heap) (n0 : Nat) (v : Option Value) (h : Heap) (L : List Loc) : Prop := v = some (.int (own_ctn3 pc ca cb cd)) ∧ Fr n0 L ∧ h = h0
set_option maxRecDepth 65536 in
set_option maxHeartbeats 40000000 in
theorem rm15_3 (l : Launch) (Z : State) (a0 : Array Value) (hw : ∀ d ∈ tables_1, d.before a0 Z = true) (ws : List Jvm.Cond) (ax : Addr) (pc : Int32) (am : Addr) (km : ClassId) (ca : Int32) (cb : Int32) (cd : Int32) (h0 : Heap) (n0 : Nat) (Z0 : n0 ≤ h0.size) (Fm : Fld Z h0 ax "com/example/coho/coho/identifier/CharacterSet" "members" "[Z" (.ref am)) (Vm : Arh Z h0 am km .boolean (128 : Int32) [(cd, (.int (1 : Int32))), (cb, (.int (1 : Int32))), (ca, (.int (1 : Int32)))] [] (.int (0 : Int32))) (hpc : ¬ pc < (0 : Int32)) :
    MetFree l (⟨"com/example/coho/coho/identifier/CharacterSet", "contains", "(C)Z"⟩ : MethodName) (head1 (Jvm.Cond.code (⟨"com/example/coho/coho/identifier/CharacterSet", "contains", "(C)Z"⟩ : MethodName) prog_40_method_2_code 2 (some .boolean) :: ws) ({ frames := 0, cells := 0, slots := 0, locals := 0 } : Room)) (fun a U => a = #[(.ref ax), (.int pc)] ∧ Z.Warmed39 U.vm ∧ U.heap = h0) (fun _ _ _ _ _ => True) (fun _ U o U' => ∃ v L, o = .returned v ∧ own_Q15_3 Z ax pc am km ca cb cd h0 n0 v U'.heap L ∧ FrameEnd U o U' L ({ frames := 0, cells := 0, slots := 0, locals := 0 } : Room).cells ({ frames := 0, cells := 0, slots := 0, locals := 0 } : Room).slots) := by
  refine MetFree.of_bodySF (plainFor_of_name own_pn15) hisR ?_
  intro p e s m args below meth c s₁ Bd hml0 hP hK
  obtain ⟨rfl, hZ, hh⟩ := hP
  have hx := Bd.exec
  have hby := Bd.bytes
  have hml : c.maxLocals = 2 := hml0
  have hown : s.vm.findClass "com/example/coho/coho/identifier/CharacterSet" = some m.cls := findClass_of_methodNamed Bd.named
  have hnm := (name_of_methodNamed Bd.named Bd.method).1
  have X0 : Stand p l e ({ frames := 0, cells := 0, slots := 0, locals := 0 } : Room) s m #[(.ref ax), (.int pc)] below meth c s₁ [] 0 0 := Stand.of_body Bd
  have e0 : s₁.heap = h0 := by rw [← hh, Bd.state]; rfl
  have N0 := Fr.nil n0
  refine own_pre (A := (s₁.setTop (mkF m 0 #[.val (.ref ax), .val (.int pc)] []))) (fun t k => castTop (own_ef15 m ax pc) k) ?_
  refine own_pre (A := (s₁.setTop (mkF m 2 #[.val (.ref ax), .val (.int pc)] [(.ref ax), (.int pc)]))) ?_ ?_
  · intro t k
    refine XS.iloadN X0.here hx rfl (hb hby d15_0) rfl ?_
    refine XS.aloadN X0.here hx rfl (hb hby d15_1) rfl rfl ?_
    exact k
  obtain ⟨T193, X193, e193, st193⟩ := getF X0 hx hZ hown (host := "") (Or.inl (own_w hw 41 rfl)) Via.refl e0 Fm (g := (mkF m 2 #[.val (.ref ax), .val (.int pc)] [(.ref ax), (.int pc)])) rfl rfl (hb hby d15_2)
  refine own_pre (fun t k => st193 t k) ?_
  refine own_pre (A := (T193.setTop (mkF m 6 #[.val (.ref ax), .val (.int pc)] [(.int (128 : Int32)), (.int pc)]))) ?_ ?_
  · intro t k
    show Steps p.tables e below (T193.setTop (mkF m 5 #[.val (.ref ax), .val (.int pc)] [(.ref am), (.int pc)])) _
    obtain ⟨cl194, Ar194, -, S194, N194, -, -⟩ := id Vm
    refine X193.arraylength hx (by rw [e193]; exact Ar194.1) (State.isArrayOf_alike hZ.alike Ar194.2.1) (g := (mkF m 5 #[.val (.ref ax), .val (.int pc)] [(.ref am), (.int pc)])) rfl rfl (hb hby d15_5) _ ?_
    rw [len_of S194 N194]
    exact k
  by_cases hc195 : pc < (128 : Int32)
  · skip
    refine own_pre (A := (T193.setTop (mkF m 9 #[.val (.ref ax), .val (.int pc)] []))) ?_ ?_
    · intro t k
      refine XS.icmpNo X193.here hx rfl (hb hby d15_6) rfl (tlt hc195).2.1 ?_
      exact k
    refine own_pre (A := (T193.setTop (mkF m 10 #[.val (.ref ax), .val (.int pc)] [(.ref ax)]))) ?_ ?_
    · intro t k
      refine XS.aloadN X193.here hx rfl (hb hby d15_9) rfl rfl ?_
      exact k
    obtain ⟨T196, X196, e196, st196⟩ := getF X193 hx hZ hown (host := "") (Or.inl (own_w hw 41 rfl)) Via.refl e193 Fm (g := (mkF m 10 #[.val (.ref ax), .val (.int pc)] [(.ref ax)])) rfl rfl (hb hby d15_10)
    refine own_pre (fun t k => st196 t k) ?_
    refine own_pre (A := (T196.setTop (mkF m 15 #[.val (.ref ax), .val (.int pc)] [(.int (own_mem3 pc ca cb cd))]))) ?_ ?_
    · intro t k
      refine XS.iloadN X196.here hx rfl (hb hby d15_13) rfl ?_
      show Steps p.tables e below (T196.setTop (mkF m 14 #[.val (.ref ax), .val (.int pc)] [(.int pc), (.ref am)])) _
      obtain ⟨cl197, Ar197, q197, S197, N197, H197, G197⟩ := id Vm
      have hin197 : ¬ (pc < 0 ∨ cl197.slots.size ≤ (pc).toNatClampNeg) := inb_of S197 ⟨hpc, hc195⟩
      refine X196.baloadBooleans hx (j := pc) (v := (.int (own_mem3 pc ca cb cd))) (by rw [e196]; exact Ar197.1) (State.isArrayOf_alike hZ.alike Ar197.2.1) Ar197.2.2 hin197 (atH H197 hin197 (own_mem3_eq pc ca cb cd)) (g := (mkF m 14 #[.val (.ref ax), .val (.int pc)] [(.int pc), (.ref am)])) rfl rfl (hb hby d15_14) _ ?_
      exact k
    by_cases hc198 : (own_mem3 pc ca cb cd) = (0 : Int32)
    · skip
      refine own_pre (A := (T196.setTop (mkF m 22 #[.val (.ref ax), .val (.int pc)] []))) ?_ ?_
      · intro t k
        refine XS.ifYes X196.here hx rfl (pc0 := 15) (pc' := 22) rfl (hb hby d15_15) rfl ((if0 _ _).trans (teq hc198).1) (by decide) (by decide) ?_
        exact k
      refine own_pre (A := (T196.setTop (mkF m 23 #[.val (.ref ax), .val (.int pc)] [(.int (0 : Int32))]))) ?_ ?_
      · intro t k
        refine XS.iconst X196.here hx rfl (hb hby d15_22) ?_
        exact k
      have hz : own_ctn3 pc ca cb cd = (0 : Int32) := by simp only [own_ctn3, if_pos hc195, if_pos hc198]
      obtain ⟨fs, hr, hrun, hended, hW, hsame⟩ := X196.leave (hlocks := BodyLoose.notSynchronized Bd) (v := some (.int (0 : Int32))) (fun h => by rw [Bd.returns] at h; cases h)
      refine ⟨_, _, retOut X196 hx Bd.returns rfl (Or.inl ⟨rfl, Or.inr (Or.inl rfl), _, rfl⟩) (hb hby d15_23) hr, hrun, hended, _, _, rfl, ?_, ⟨_, rfl⟩, hW, hsame.mono (by decide) (by decide)⟩
      show own_Q15_3 Z ax pc am km ca cb cd h0 n0 _ T196.heap _
      rw [e196]
      exact ⟨by rw [hz], N0, rfl⟩
    · skip
      refine own_pre (A := (T196.setTop (mkF m 18 #[.val (.ref ax), .val (.int pc)] []))) ?_ ?_
      · intro t k
        refine XS.ifNo X196.here hx rfl (hb hby d15_15) rfl ((if0 _ _).trans (feq hc198).1) ?_
        exact k
      refine own_pre (A := (T196.setTop (mkF m 23 #[.val (.ref ax), .val (.int pc)] [(.int (1 : Int32))]))) ?_ ?_
      · intro t k
        refine XS.iconst X196.here hx rfl (hb hby d15_18) ?_
        refine XS.goto X196.here hx rfl (pc0 := 19) (pc' := 23) rfl (hb hby d15_19) (by decide) (by decide) ?_
        exact k
      have hz : own_ctn3 pc ca cb cd = (1 : Int32) := by simp only [own_ctn3, if_pos hc195, if_neg hc198]
      obtain ⟨fs, hr, hrun, hended, hW, hsame⟩ := X196.leave (hlocks := BodyLoose.notSynchronized Bd) (v := some (.int (1 : Int32))) (fun h => by rw [Bd.returns] at h; cases h)
      refine ⟨_, _, retOut X196 hx Bd.returns rfl (Or.inl ⟨rfl, Or.inr (Or.inl rfl), _, rfl⟩) (hb hby d15_23) hr, hrun, hended, _, _, rfl, ?_, ⟨_, rfl⟩, hW, hsame.mono (by decide) (by decide)⟩
      show own_Q15_3 Z ax pc am km ca cb cd h0 n0 _ T196.heap _
      rw [e196]
      exact ⟨by rw [hz], N0, rfl⟩
  · skip
    refine own_pre (A := (T193.setTop (mkF m 22 #[.val (.ref ax), .val (.int pc)] []))) ?_ ?_
    · intro t k
      refine XS.icmpYes X193.here hx rfl (pc0 := 6) (pc' := 22) rfl (hb hby d15_6) rfl (flt hc195).2.1 (by decide) (by decide) ?_
      exact k
    refine own_pre (A := (T193.setTop (mkF m 23 #[.val (.ref ax), .val (.int pc)] [(.int (0 : Int32))]))) ?_ ?_
    · intro t k
      refine XS.iconst X193.here hx rfl (hb hby d15_22) ?_
      exact k
    have hz : own_ctn3 pc ca cb cd = (0 : Int32) := by simp only [own_ctn3, if_neg hc195]
    obtain ⟨fs, hr, hrun, hended, hW, hsame⟩ := X193.leave (hlocks := BodyLoose.notSynchronized Bd) (v := some (.int (0 : Int32))) (fun h => by rw [Bd.returns] at h; cases h)
    refine ⟨_, _, retOut X193 hx Bd.returns rfl (Or.inl ⟨rfl, Or.inr (Or.inl rfl), _, rfl⟩) (hb hby d15_23) hr, hrun, hended, _, _, rfl, ?_, ⟨_, rfl⟩, hW, hsame.mono (by decide) (by decide)⟩
    show own_Q15_3 Z ax pc am km ca cb cd h0 n0 _ T193.heap _
    rw [e193]
    exact ⟨by rw [hz], N0, rfl⟩
theorem own_fin3 (pc : Int32) (ca : Int32) (cb : Int32) (cd : Int32) (hp_ca : 0 ≤ ca.toInt ∧ ca.toInt < 128) (hp_cb : 0 ≤ cb.toInt ∧ cb.toInt < 128) (hp_cd : 0 ≤ cd.toInt ∧ cd.toInt < 128) (hpc : ¬ pc < (0 : Int32)) : own_ctn3 pc ca cb cd = (if pc = ca then (1 : Int32) else (if pc = cb then (1 : Int32) else (if pc = cd then (1 : Int32) else (0 : Int32)))) := by
  have hn := nat_of hpc
  have w : (128 : Int32).toInt = 128 := by decide
  simp only [own_ctn3, own_mem3, ← hn, Int32.lt_iff_toInt_lt, ← Int32.toInt_inj, w]
  repeat' split
  all_goals first | rfl | omega | (simp_all; done) | (exfalso; omega)
theorem own_ch (x : Int32) : 0 ≤ ((x &&& (127 : Int32)).toUInt32.toUInt16.toUInt32.toInt32).toInt ∧ ((x &&& (127 : Int32)).toUInt32.toUInt16.toUInt32.toInt32).toInt < 128 := by
  have h1 := c_and x (127 : Int32) (by decide)
  have h2 := c_i2c (x &&& (127 : Int32))
  have w : (127 : Int32).toInt = 127 := by decide
  omega
theorem own_n4 (x : Int32) : (x &&& (3 : Int32)) = (0 : Int32) ∨ (x &&& (3 : Int32)) = (1 : Int32) ∨ (x &&& (3 : Int32)) = (2 : Int32) ∨ (x &&& (3 : Int32)) = (3 : Int32) := by
  have h1 := c_and x (3 : Int32) (by decide)
  have z : (0 : Int32).toInt = 0 := by decide
  have o : (1 : Int32).toInt = 1 := by decide
  have w : (2 : Int32).toInt = 2 := by decide
  have t : (3 : Int32).toInt = 3 := by decide
  simp only [← Int32.toInt_inj, z, o, w, t]
  omega
theorem own_pos (x : Int32) : ¬ (x.toUInt32.toUInt16.toUInt32.toInt32) < (0 : Int32) := by
  have h2 := c_i2c x
  have z : (0 : Int32).toInt = 0 := by decide
  rw [Int32.lt_iff_toInt_lt]; omega
theorem own_posc (c : Int32) (h : 0 ≤ c.toInt ∧ c.toInt < 128) : ¬ c < (0 : Int32) := (own_ch_in c h).1
theorem own_pn0 : plainName "com/example/coho/coho/identifier/CharacterSetContainsPinLaw" = true := by first | (simp [plainName, overriddenIn]; done) | decide +kernel
theorem own_ef0 (m : MethodId) (x0 : Int32) (x1 : Int32) (x2 : Int32) (x3 : Int32) (x4 : Int32) (x5 : Int32) : entryFrame m #[(.int x0), (.int x1), (.int x2), (.int x3), (.int x4), (.int x5)] maxLocals = mkF m 0 #[.val (.int x0), .val (.int x1), .val (.int x2), .val (.int x3), .val (.int x4), .val (.int x5), .unset, .unset, .unset, .unset, .unset, .unset, .unset, .unset, .unset] [] := by first | (simp [entryFrame, mkF, argsToLocals, Value.category, maxLocals]; done) | rfl
abbrev own_l18 (x0 : Int32) (x1 : Int32) (x2 : Int32) (x3 : Int32) (x4 : Int32) (x5 : Int32) : Array Slot := #[.val (.int x0), .val (.int x1), .val (.int x2), .val (.int x3), .val (.int x4), .val (.int x5), .unset, .unset, .unset, .unset, .unset, .unset, .unset, .unset, .unset]
abbrev own_l19 (x0 : Int32) (x1 : Int32) (x2 : Int32) (x3 : Int32) (x4 : Int32) (x5 : Int32) : Array Slot := #[.val (.int x0), .val (.int x1), .val (.int x2), .val (.int x3), .val (.int x4), .val (.int x5), .val (.int ((x0 &&& (127 : Int32)).toUInt32.toUInt16.toUInt32.toInt32)), .unset, .unset, .unset, .unset, .unset, .unset, .unset, .unset]
abbrev own_l20 (x0 : Int32) (x1 : Int32) (x2 : Int32) (x3 : Int32) (x4 : Int32) (x5 : Int32) : Array Slot := #[.val (.int x0), .val (.int x1), .val (.int x2), .val (.int x3), .val (.int x4), .val (.int x5), .val (.int ((x0 &&& (127 : Int32)).toUInt32.toUInt16.toUInt32.toInt32)), .val (.int ((x1 &&& (127 : Int32)).toUInt32.toUInt16.toUInt32.toInt32)), .unset, .unset, .unset, .unset, .unset, .unset, .unset]
abbrev own_l21 (x0 : Int32) (x1 : Int32) (x2 : Int32) (x3 : Int32) (x4 : Int32) (x5 : Int32) : Array Slot := #[.val (.int x0), .val (.int x1), .val (.int x2), .val (.int x3), .val (.int x4), .val (.int x5), .val (.int ((x0 &&& (127 : Int32)).toUInt32.toUInt16.toUInt32.toInt32)), .val (.int ((x1 &&& (127 : Int32)).toUInt32.toUInt16.toUInt32.toInt32)), .val (.int ((x2 &&& (127 : Int32)).toUInt32.toUInt16.toUInt32.toInt32)), .unset, .unset, .unset, .unset, .unset, .unset]
abbrev own_l22 (x0 : Int32) (x1 : Int32) (x2 : Int32) (x3 : Int32) (x4 : Int32) (x5 : Int32) : Array Slot := #[.val (.int x0), .val (.int x1), .val (.int x2), .val (.int x3), .val (.int x4), .val (.int x5), .val (.int ((x0 &&& (127 : Int32)).toUInt32.toUInt16.toUInt32.toInt32)), .val (.int ((x1 &&& (127 : Int32)).toUInt32.toUInt16.toUInt32.toInt32)), .val (.int ((x2 &&& (127 : Int32)).toUInt32.toUInt16.toUInt32.toInt32)), .val (.int (x3 &&& (3 : Int32))), .unset, .unset, .unset, .unset, .unset]
abbrev own_l23 (x0 : Int32) (x1 : Int32) (x2 : Int32) (x3 : Int32) (x4 : Int32) (x5 : Int32) (x6 : Int32) : Array Slot := #[.val (.int x0), .val (.int x1), .val (.int x2), .val (.int x3), .val (.int x4), .val (.int x5), .val (.int x6), .val (.int ((x1 &&& (127 : Int32)).toUInt32.toUInt16.toUInt32.toInt32)), .val (.int ((x2 &&& (127 : Int32)).toUInt32.toUInt16.toUInt32.toInt32)), .val (.int (x3 &&& (3 : Int32))), .unset, .unset, .unset, .unset, .unset]
abbrev own_l24 (x0 : Int32) (x1 : Int32) (x2 : Int32) (x3 : Int32) (x4 : Int32) (x5 : Int32) (x6 : Int32) (x7 : Int32) : Array Slot := #[.val (.int x0), .val (.int x1), .val (.int x2), .val (.int x3), .val (.int x4), .val (.int x5), .val (.int x6), .val (.int x7), .val (.int ((x2 &&& (127 : Int32)).toUInt32.toUInt16.toUInt32.toInt32)), .val (.int (x3 &&& (3 : Int32))), .unset, .unset, .unset, .unset, .unset]
abbrev own_l25 (x0 : Int32) (x1 : Int32) (x2 : Int32) (x3 : Int32) (x4 : Int32) (x5 : Int32) (x6 : Int32) (x7 : Int32) (x8 : Int32) : Array Slot := #[.val (.int x0), .val (.int x1), .val (.int x2), .val (.int x3), .val (.int x4), .val (.int x5), .val (.int x6), .val (.int x7), .val (.int x8), .val (.int (x3 &&& (3 : Int32))), .unset, .unset, .unset, .unset, .unset]
abbrev own_l26 (x0 : Int32) (x1 : Int32) (x2 : Int32) (x3 : Int32) (x4 : Int32) (x5 : Int32) (x6 : Int32) (x7 : Int32) (x8 : Int32) : Array Slot := #[.val (.int x0), .val (.int x1), .val (.int x2), .val (.int x3), .val (.int x4), .val (.int x5), .val (.int x6), .val (.int x7), .val (.int x8), .val (.int (0 : Int32)), .unset, .unset, .unset, .unset, .unset]
abbrev own_l27 (x0 : Int32) (x1 : Int32) (x2 : Int32) (x3 : Int32) (x4 : Int32) (x5 : Int32) (x6 : Int32) (x7 : Int32) (x8 : Int32) (x9 : Addr) : Array Slot := #[.val (.int x0), .val (.int x1), .val (.int x2), .val (.int x3), .val (.int x4), .val (.int x5), .val (.int x6), .val (.int x7), .val (.int x8), .val (.int (0 : Int32)), .val (.ref x9), .unset, .unset, .unset, .unset]
abbrev own_l28 (x0 : Int32) (x1 : Int32) (x2 : Int32) (x3 : Int32) (x4 : Int32) (x5 : Int32) (x6 : Int32) (x7 : Int32) (x8 : Int32) (x9 : Addr) (x10 : Addr) : Array Slot := #[.val (.int x0), .val (.int x1), .val (.int x2), .val (.int x3), .val (.int x4), .val (.int x5), .val (.int x6), .val (.int x7), .val (.int x8), .val (.int (0 : Int32)), .val (.ref x9), .val (.ref x10), .unset, .unset, .unset]
abbrev own_l29 (x0 : Int32) (x1 : Int32) (x2 : Int32) (x3 : Int32) (x4 : Int32) (x5 : Int32) (x6 : Int32) (x7 : Int32) (x8 : Int32) (x9 : Addr) (x10 : Addr) : Array Slot := #[.val (.int x0), .val (.int x1), .val (.int x2), .val (.int x3), .val (.int x4), .val (.int x5), .val (.int x6), .val (.int x7), .val (.int x8), .val (.int (0 : Int32)), .val (.ref x9), .val (.ref x10), .val (.int (x5 &&& (3 : Int32))), .unset, .unset]
abbrev own_l30 (x0 : Int32) (x1 : Int32) (x2 : Int32) (x3 : Int32) (x4 : Int32) (x5 : Int32) (x6 : Int32) (x7 : Int32) (x8 : Int32) (x9 : Addr) (x10 : Addr) : Array Slot := #[.val (.int x0), .val (.int x1), .val (.int x2), .val (.int x3), .val (.int x4), .val (.int x5), .val (.int x6), .val (.int x7), .val (.int x8), .val (.int (0 : Int32)), .val (.ref x9), .val (.ref x10), .val (.int (x5 &&& (3 : Int32))), .val (.int (x4.toUInt32.toUInt16.toUInt32.toInt32)), .unset]
abbrev own_l31 (x0 : Int32) (x1 : Int32) (x2 : Int32) (x3 : Int32) (x4 : Int32) (x5 : Int32) (x6 : Int32) (x7 : Int32) (x8 : Int32) (x9 : Addr) (x10 : Addr) : Array Slot := #[.val (.int x0), .val (.int x1), .val (.int x2), .val (.int x3), .val (.int x4), .val (.int x5), .val (.int x6), .val (.int x7), .val (.int x8), .val (.int (0 : Int32)), .val (.ref x9), .val (.ref x10), .val (.int (x5 &&& (3 : Int32))), .val (.int ((x4 &&& (127 : Int32)).toUInt32.toUInt16.toUInt32.toInt32)), .unset]
abbrev own_l32 (x0 : Int32) (x1 : Int32) (x2 : Int32) (x3 : Int32) (x4 : Int32) (x5 : Int32) (x6 : Int32) (x7 : Int32) (x8 : Int32) (x9 : Addr) (x10 : Addr) : Array Slot := #[.val (.int x0), .val (.int x1), .val (.int x2), .val (.int x3), .val (.int x4), .val (.int x5), .val (.int x6), .val (.int x7), .val (.int x8), .val (.int (0 : Int32)), .val (.ref x9), .val (.ref x10), .val (.int (x5 &&& (3 : Int32))), .unset, .val (.int ((x4 &&& (2147483647 : Int32)) % (3 : Int32)))]
abbrev own_l33 (x0 : Int32) (x1 : Int32) (x2 : Int32) (x3 : Int32) (x4 : Int32) (x5 : Int32) (x6 : Int32) (x7 : Int32) (x8 : Int32) (x9 : Addr) (x10 : Addr) : Array Slot := #[.val (.int x0), .val (.int x1), .val (.int x2), .val (.int x3), .val (.int x4), .val (.int x5), .val (.int x6), .val (.int x7), .val (.int x8), .val (.int (0 : Int32)), .val (.ref x9), .val (.ref x10), .val (.int (x5 &&& (3 : Int32))), .val (.int x6), .val (.int ((x4 &&& (2147483647 : Int32)) % (3 : Int32)))]
abbrev own_l34 (x0 : Int32) (x1 : Int32) (x2 : Int32) (x3 : Int32) (x4 : Int32) (x5 : Int32) (x6 : Int32) (x7 : Int32) (x8 : Int32) (x9 : Addr) (x10 : Addr) : Array Slot := #[.val (.int x0), .val (.int x1), .val (.int x2), .val (.int x3), .val (.int x4), .val (.int x5), .val (.int x6), .val (.int x7), .val (.int x8), .val (.int (0 : Int32)), .val (.ref x9), .val (.ref x10), .val (.int (x5 &&& (3 : Int32))), .val (.int x7), .val (.int ((x4 &&& (2147483647 : Int32)) % (3 : Int32)))]
abbrev own_l35 (x0 : Int32) (x1 : Int32) (x2 : Int32) (x3 : Int32) (x4 : Int32) (x5 : Int32) (x6 : Int32) (x7 : Int32) (x8 : Int32) (x9 : Addr) (x10 : Addr) : Array Slot := #[.val (.int x0), .val (.int x1), .val (.int x2), .val (.int x3), .val (.int x4), .val (.int x5), .val (.int x6), .val (.int x7), .val (.int x8), .val (.int (0 : Int32)), .val (.ref x9), .val (.ref x10), .val (.int (x5 &&& (3 : Int32))), .val (.int x8), .val (.int ((x4 &&& (2147483647 : Int32)) % (3 : Int32)))]
abbrev own_l36 (x0 : Int32) (x1 : Int32) (x2 : Int32) (x3 : Int32) (x4 : Int32) (x5 : Int32) (x6 : Int32) (x7 : Int32) (x8 : Int32) (x9 : Addr) (x10 : Addr) : Array Slot := #[.val (.int x0), .val (.int x1), .val (.int x2), .val (.int x3), .val (.int x4), .val (.int x5), .val (.int x6), .val (.int x7), .val (.int x8), .val (.int (0 : Int32)), .val (.ref x9), .val (.ref x10), .val (.int (x5 &&& (3 : Int32))), .val (.int (((128 : Int32) + (x4 &&& (127 : Int32))).toUInt32.toUInt16.toUInt32.toInt32)), .unset]
abbrev own_l37 (x0 : Int32) (x1 : Int32) (x2 : Int32) (x3 : Int32) (x4 : Int32) (x5 : Int32) (x6 : Int32) (x7 : Int32) (x8 : Int32) (x9 : Addr) (x10 : Addr) (x11 : Int32) (x12 : Slot) : Array Slot := #[.val (.int x0), .val (.int x1), .val (.int x2), .val (.int x3), .val (.int x4), .val (.int x5), .val (.int x6), .val (.int x7), .val (.int x8), .val (.int (0 : Int32)), .val (.ref x9), .val (.ref x10), .val (.int (x5 &&& (3 : Int32))), .val (.int x11), x12]
abbrev own_l38 (x0 : Int32) (x1 : Int32) (x2 : Int32) (x3 : Int32) (x4 : Int32) (x5 : Int32) (x6 : Int32) (x7 : Int32) (x8 : Int32) (x9 : Addr) (x10 : Addr) (x11 : Int32) : Array Slot := #[.val (.int x0), .val (.int x1), .val (.int x2), .val (.int x3), .val (.int x4), .val (.int x5), .val (.int x6), .val (.int x7), .val (.int x8), .val (.int (0 : Int32)), .val (.ref x9), .val (.ref x10), .val (.int (x5 &&& (3 : Int32))), .val (.int x11), .val (.int (0 : Int32))]
abbrev own_l39 (x0 : Int32) (x1 : Int32) (x2 : Int32) (x3 : Int32) (x4 : Int32) (x5 : Int32) (x6 : Int32) (x7 : Int32) (x8 : Int32) : Array Slot := #[.val (.int x0), .val (.int x1), .val (.int x2), .val (.int x3), .val (.int x4), .val (.int x5), .val (.int x6), .val (.int x7), .val (.int x8), .val (.int (1 : Int32)), .unset, .unset, .unset, .unset, .unset]
abbrev own_l40 (x0 : Int32) (x1 : Int32) (x2 : Int32) (x3 : Int32) (x4 : Int32) (x5 : Int32) (x6 : Int32) (x7 : Int32) (x8 : Int32) (x9 : Addr) : Array Slot := #[.val (.int x0), .val (.int x1), .val (.int x2), .val (.int x3), .val (.int x4), .val (.int x5), .val (.int x6), .val (.int x7), .val (.int x8), .val (.int (1 : Int32)), .val (.ref x9), .unset, .unset, .unset, .unset]
abbrev own_l41 (x0 : Int32) (x1 : Int32) (x2 : Int32) (x3 : Int32) (x4 : Int32) (x5 : Int32) (x6 : Int32) (x7 : Int32) (x8 : Int32) (x9 : Addr) (x10 : Addr) : Array Slot := #[.val (.int x0), .val (.int x1), .val (.int x2), .val (.int x3), .val (.int x4), .val (.int x5), .val (.int x6), .val (.int x7), .val (.int x8), .val (.int (1 : Int32)), .val (.ref x9), .val (.ref x10), .unset, .unset, .unset]
abbrev own_l42 (x0 : Int32) (x1 : Int32) (x2 : Int32) (x3 : Int32) (x4 : Int32) (x5 : Int32) (x6 : Int32) (x7 : Int32) (x8 : Int32) (x9 : Addr) (x10 : Addr) : Array Slot := #[.val (.int x0), .val (.int x1), .val (.int x2), .val (.int x3), .val (.int x4), .val (.int x5), .val (.int x6), .val (.int x7), .val (.int x8), .val (.int (1 : Int32)), .val (.ref x9), .val (.ref x10), .val (.int (x5 &&& (3 : Int32))), .unset, .unset]
abbrev own_l43 (x0 : Int32) (x1 : Int32) (x2 : Int32) (x3 : Int32) (x4 : Int32) (x5 : Int32) (x6 : Int32) (x7 : Int32) (x8 : Int32) (x9 : Addr) (x10 : Addr) : Array Slot := #[.val (.int x0), .val (.int x1), .val (.int x2), .val (.int x3), .val (.int x4), .val (.int x5), .val (.int x6), .val (.int x7), .val (.int x8), .val (.int (1 : Int32)), .val (.ref x9), .val (.ref x10), .val (.int (x5 &&& (3 : Int32))), .val (.int (x4.toUInt32.toUInt16.toUInt32.toInt32)), .unset]
abbrev own_l44 (x0 : Int32) (x1 : Int32) (x2 : Int32) (x3 : Int32) (x4 : Int32) (x5 : Int32) (x6 : Int32) (x7 : Int32) (x8 : Int32) (x9 : Addr) (x10 : Addr) : Array Slot := #[.val (.int x0), .val (.int x1), .val (.int x2), .val (.int x3), .val (.int x4), .val (.int x5), .val (.int x6), .val (.int x7), .val (.int x8), .val (.int (1 : Int32)), .val (.ref x9), .val (.ref x10), .val (.int (x5 &&& (3 : Int32))), .val (.int ((x4 &&& (127 : Int32)).toUInt32.toUInt16.toUInt32.toInt32)), .unset]
abbrev own_l45 (x0 : Int32) (x1 : Int32) (x2 : Int32) (x3 : Int32) (x4 : Int32) (x5 : Int32) (x6 : Int32) (x7 : Int32) (x8 : Int32) (x9 : Addr) (x10 : Addr) : Array Slot := #[.val (.int x0), .val (.int x1), .val (.int x2), .val (.int x3), .val (.int x4), .val (.int x5), .val (.int x6), .val (.int x7), .val (.int x8), .val (.int (1 : Int32)), .val (.ref x9), .val (.ref x10), .val (.int (x5 &&& (3 : Int32))), .unset, .val (.int ((x4 &&& (2147483647 : Int32)) % (3 : Int32)))]
abbrev own_l46 (x0 : Int32) (x1 : Int32) (x2 : Int32) (x3 : Int32) (x4 : Int32) (x5 : Int32) (x6 : Int32) (x7 : Int32) (x8 : Int32) (x9 : Addr) (x10 : Addr) : Array Slot := #[.val (.int x0), .val (.int x1), .val (.int x2), .val (.int x3), .val (.int x4), .val (.int x5), .val (.int x6), .val (.int x7), .val (.int x8), .val (.int (1 : Int32)), .val (.ref x9), .val (.ref x10), .val (.int (x5 &&& (3 : Int32))), .val (.int x6), .val (.int ((x4 &&& (2147483647 : Int32)) % (3 : Int32)))]
abbrev own_l47 (x0 : Int32) (x1 : Int32) (x2 : Int32) (x3 : Int32) (x4 : Int32) (x5 : Int32) (x6 : Int32) (x7 : Int32) (x8 : Int32) (x9 : Addr) (x10 : Addr) : Array Slot := #[.val (.int x0), .val (.int x1), .val (.int x2), .val (.int x3), .val (.int x4), .val (.int x5), .val (.int x6), .val (.int x7), .val (.int x8), .val (.int (1 : Int32)), .val (.ref x9), .val (.ref x10), .val (.int (x5 &&& (3 : Int32))), .val (.int x7), .val (.int ((x4 &&& (2147483647 : Int32)) % (3 : Int32)))]
abbrev own_l48 (x0 : Int32) (x1 : Int32) (x2 : Int32) (x3 : Int32) (x4 : Int32) (x5 : Int32) (x6 : Int32) (x7 : Int32) (x8 : Int32) (x9 : Addr) (x10 : Addr) : Array Slot := #[.val (.int x0), .val (.int x1), .val (.int x2), .val (.int x3), .val (.int x4), .val (.int x5), .val (.int x6), .val (.int x7), .val (.int x8), .val (.int (1 : Int32)), .val (.ref x9), .val (.ref x10), .val (.int (x5 &&& (3 : Int32))), .val (.int x8), .val (.int ((x4 &&& (2147483647 : Int32)) % (3 : Int32)))]
abbrev own_l49 (x0 : Int32) (x1 : Int32) (x2 : Int32) (x3 : Int32) (x4 : Int32) (x5 : Int32) (x6 : Int32) (x7 : Int32) (x8 : Int32) (x9 : Addr) (x10 : Addr) : Array Slot := #[.val (.int x0), .val (.int x1), .val (.int x2), .val (.int x3), .val (.int x4), .val (.int x5), .val (.int x6), .val (.int x7), .val (.int x8), .val (.int (1 : Int32)), .val (.ref x9), .val (.ref x10), .val (.int (x5 &&& (3 : Int32))), .val (.int (((128 : Int32) + (x4 &&& (127 : Int32))).toUInt32.toUInt16.toUInt32.toInt32)), .unset]
abbrev own_l50 (x0 : Int32) (x1 : Int32) (x2 : Int32) (x3 : Int32) (x4 : Int32) (x5 : Int32) (x6 : Int32) (x7 : Int32) (x8 : Int32) (x9 : Addr) (x10 : Addr) (x11 : Int32) (x12 : Slot) : Array Slot := #[.val (.int x0), .val (.int x1), .val (.int x2), .val (.int x3), .val (.int x4), .val (.int x5), .val (.int x6), .val (.int x7), .val (.int x8), .val (.int (1 : Int32)), .val (.ref x9), .val (.ref x10), .val (.int (x5 &&& (3 : Int32))), .val (.int x11), x12]
abbrev own_l51 (x0 : Int32) (x1 : Int32) (x2 : Int32) (x3 : Int32) (x4 : Int32) (x5 : Int32) (x6 : Int32) (x7 : Int32) (x8 : Int32) (x9 : Addr) (x10 : Addr) (x11 : Int32) (x12 : Int32) : Array Slot := #[.val (.int x0), .val (.int x1), .val (.int x2), .val (.int x3), .val (.int x4), .val (.int x5), .val (.int x6), .val (.int x7), .val (.int x8), .val (.int (1 : Int32)), .val (.ref x9), .val (.ref x10), .val (.int (x5 &&& (3 : Int32))), .val (.int x11), .val (.int x12)]
abbrev own_l52 (x0 : Int32) (x1 : Int32) (x2 : Int32) (x3 : Int32) (x4 : Int32) (x5 : Int32) (x6 : Int32) (x7 : Int32) (x8 : Int32) : Array Slot := #[.val (.int x0), .val (.int x1), .val (.int x2), .val (.int x3), .val (.int x4), .val (.int x5), .val (.int x6), .val (.int x7), .val (.int x8), .val (.int (2 : Int32)), .unset, .unset, .unset, .unset, .unset]
abbrev own_l53 (x0 : Int32) (x1 : Int32) (x2 : Int32) (x3 : Int32) (x4 : Int32) (x5 : Int32) (x6 : Int32) (x7 : Int32) (x8 : Int32) (x9 : Addr) : Array Slot := #[.val (.int x0), .val (.int x1), .val (.int x2), .val (.int x3), .val (.int x4), .val (.int x5), .val (.int x6), .val (.int x7), .val (.int x8), .val (.int (2 : Int32)), .val (.ref x9), .unset, .unset, .unset, .unset]
abbrev own_l54 (x0 : Int32) (x1 : Int32) (x2 : Int32) (x3 : Int32) (x4 : Int32) (x5 : Int32) (x6 : Int32) (x7 : Int32) (x8 : Int32) (x9 : Addr) (x10 : Addr) : Array Slot := #[.val (.int x0), .val (.int x1), .val (.int x2), .val (.int x3), .val (.int x4), .val (.int x5), .val (.int x6), .val (.int x7), .val (.int x8), .val (.int (2 : Int32)), .val (.ref x9), .val (.ref x10), .unset, .unset, .unset]
abbrev own_l55 (x0 : Int32) (x1 : Int32) (x2 : Int32) (x3 : Int32) (x4 : Int32) (x5 : Int32) (x6 : Int32) (x7 : Int32) (x8 : Int32) (x9 : Addr) (x10 : Addr) : Array Slot := #[.val (.int x0), .val (.int x1), .val (.int x2), .val (.int x3), .val (.int x4), .val (.int x5), .val (.int x6), .val (.int x7), .val (.int x8), .val (.int (2 : Int32)), .val (.ref x9), .val (.ref x10), .val (.int (x5 &&& (3 : Int32))), .unset, .unset]
abbrev own_l56 (x0 : Int32) (x1 : Int32) (x2 : Int32) (x3 : Int32) (x4 : Int32) (x5 : Int32) (x6 : Int32) (x7 : Int32) (x8 : Int32) (x9 : Addr) (x10 : Addr) : Array Slot := #[.val (.int x0), .val (.int x1), .val (.int x2), .val (.int x3), .val (.int x4), .val (.int x5), .val (.int x6), .val (.int x7), .val (.int x8), .val (.int (2 : Int32)), .val (.ref x9), .val (.ref x10), .val (.int (x5 &&& (3 : Int32))), .val (.int (x4.toUInt32.toUInt16.toUInt32.toInt32)), .unset]
abbrev own_l57 (x0 : Int32) (x1 : Int32) (x2 : Int32) (x3 : Int32) (x4 : Int32) (x5 : Int32) (x6 : Int32) (x7 : Int32) (x8 : Int32) (x9 : Addr) (x10 : Addr) : Array Slot := #[.val (.int x0), .val (.int x1), .val (.int x2), .val (.int x3), .val (.int x4), .val (.int x5), .val (.int x6), .val (.int x7), .val (.int x8), .val (.int (2 : Int32)), .val (.ref x9), .val (.ref x10), .val (.int (x5 &&& (3 : Int32))), .val (.int ((x4 &&& (127 : Int32)).toUInt32.toUInt16.toUInt32.toInt32)), .unset]
abbrev own_l58 (x0 : Int32) (x1 : Int32) (x2 : Int32) (x3 : Int32) (x4 : Int32) (x5 : Int32) (x6 : Int32) (x7 : Int32) (x8 : Int32) (x9 : Addr) (x10 : Addr) : Array Slot := #[.val (.int x0), .val (.int x1), .val (.int x2), .val (.int x3), .val (.int x4), .val (.int x5), .val (.int x6), .val (.int x7), .val (.int x8), .val (.int (2 : Int32)), .val (.ref x9), .val (.ref x10), .val (.int (x5 &&& (3 : Int32))), .unset, .val (.int ((x4 &&& (2147483647 : Int32)) % (3 : Int32)))]
abbrev own_l59 (x0 : Int32) (x1 : Int32) (x2 : Int32) (x3 : Int32) (x4 : Int32) (x5 : Int32) (x6 : Int32) (x7 : Int32) (x8 : Int32) (x9 : Addr) (x10 : Addr) : Array Slot := #[.val (.int x0), .val (.int x1), .val (.int x2), .val (.int x3), .val (.int x4), .val (.int x5), .val (.int x6), .val (.int x7), .val (.int x8), .val (.int (2 : Int32)), .val (.ref x9), .val (.ref x10), .val (.int (x5 &&& (3 : Int32))), .val (.int x6), .val (.int ((x4 &&& (2147483647 : Int32)) % (3 : Int32)))]
abbrev own_l60 (x0 : Int32) (x1 : Int32) (x2 : Int32) (x3 : Int32) (x4 : Int32) (x5 : Int32) (x6 : Int32) (x7 : Int32) (x8 : Int32) (x9 : Addr) (x10 : Addr) : Array Slot := #[.val (.int x0), .val (.int x1), .val (.int x2), .val (.int x3), .val (.int x4), .val (.int x5), .val (.int x6), .val (.int x7), .val (.int x8), .val (.int (2 : Int32)), .val (.ref x9), .val (.ref x10), .val (.int (x5 &&& (3 : Int32))), .val (.int x7), .val (.int ((x4 &&& (2147483647 : Int32)) % (3 : Int32)))]
abbrev own_l61 (x0 : Int32) (x1 : Int32) (x2 : Int32) (x3 : Int32) (x4 : Int32) (x5 : Int32) (x6 : Int32) (x7 : Int32) (x8 : Int32) (x9 : Addr) (x10 : Addr) : Array Slot := #[.val (.int x0), .val (.int x1), .val (.int x2), .val (.int x3), .val (.int x4), .val (.int x5), .val (.int x6), .val (.int x7), .val (.int x8), .val (.int (2 : Int32)), .val (.ref x9), .val (.ref x10), .val (.int (x5 &&& (3 : Int32))), .val (.int x8), .val (.int ((x4 &&& (2147483647 : Int32)) % (3 : Int32)))]
abbrev own_l62 (x0 : Int32) (x1 : Int32) (x2 : Int32) (x3 : Int32) (x4 : Int32) (x5 : Int32) (x6 : Int32) (x7 : Int32) (x8 : Int32) (x9 : Addr) (x10 : Addr) : Array Slot := #[.val (.int x0), .val (.int x1), .val (.int x2), .val (.int x3), .val (.int x4), .val (.int x5), .val (.int x6), .val (.int x7), .val (.int x8), .val (.int (2 : Int32)), .val (.ref x9), .val (.ref x10), .val (.int (x5 &&& (3 : Int32))), .val (.int (((128 : Int32) + (x4 &&& (127 : Int32))).toUInt32.toUInt16.toUInt32.toInt32)), .unset]
abbrev own_l63 (x0 : Int32) (x1 : Int32) (x2 : Int32) (x3 : Int32) (x4 : Int32) (x5 : Int32) (x6 : Int32) (x7 : Int32) (x8 : Int32) (x9 : Addr) (x10 : Addr) (x11 : Int32) (x12 : Slot) : Array Slot := #[.val (.int x0), .val (.int x1), .val (.int x2), .val (.int x3), .val (.int x4), .val (.int x5), .val (.int x6), .val (.int x7), .val (.int x8), .val (.int (2 : Int32)), .val (.ref x9), .val (.ref x10), .val (.int (x5 &&& (3 : Int32))), .val (.int x11), x12]
abbrev own_l64 (x0 : Int32) (x1 : Int32) (x2 : Int32) (x3 : Int32) (x4 : Int32) (x5 : Int32) (x6 : Int32) (x7 : Int32) (x8 : Int32) (x9 : Addr) (x10 : Addr) (x11 : Int32) (x12 : Int32) : Array Slot := #[.val (.int x0), .val (.int x1), .val (.int x2), .val (.int x3), .val (.int x4), .val (.int x5), .val (.int x6), .val (.int x7), .val (.int x8), .val (.int (2 : Int32)), .val (.ref x9), .val (.ref x10), .val (.int (x5 &&& (3 : Int32))), .val (.int x11), .val (.int x12)]
abbrev own_l65 (x0 : Int32) (x1 : Int32) (x2 : Int32) (x3 : Int32) (x4 : Int32) (x5 : Int32) (x6 : Int32) (x7 : Int32) (x8 : Int32) : Array Slot := #[.val (.int x0), .val (.int x1), .val (.int x2), .val (.int x3), .val (.int x4), .val (.int x5), .val (.int x6), .val (.int x7), .val (.int x8), .val (.int (3 : Int32)), .unset, .unset, .unset, .unset, .unset]
abbrev own_l66 (x0 : Int32) (x1 : Int32) (x2 : Int32) (x3 : Int32) (x4 : Int32) (x5 : Int32) (x6 : Int32) (x7 : Int32) (x8 : Int32) (x9 : Addr) : Array Slot := #[.val (.int x0), .val (.int x1), .val (.int x2), .val (.int x3), .val (.int x4), .val (.int x5), .val (.int x6), .val (.int x7), .val (.int x8), .val (.int (3 : Int32)), .val (.ref x9), .unset, .unset, .unset, .unset]
abbrev own_l67 (x0 : Int32) (x1 : Int32) (x2 : Int32) (x3 : Int32) (x4 : Int32) (x5 : Int32) (x6 : Int32) (x7 : Int32) (x8 : Int32) (x9 : Addr) (x10 : Addr) : Array Slot := #[.val (.int x0), .val (.int x1), .val (.int x2), .val (.int x3), .val (.int x4), .val (.int x5), .val (.int x6), .val (.int x7), .val (.int x8), .val (.int (3 : Int32)), .val (.ref x9), .val (.ref x10), .unset, .unset, .unset]
abbrev own_l68 (x0 : Int32) (x1 : Int32) (x2 : Int32) (x3 : Int32) (x4 : Int32) (x5 : Int32) (x6 : Int32) (x7 : Int32) (x8 : Int32) (x9 : Addr) (x10 : Addr) : Array Slot := #[.val (.int x0), .val (.int x1), .val (.int x2), .val (.int x3), .val (.int x4), .val (.int x5), .val (.int x6), .val (.int x7), .val (.int x8), .val (.int (3 : Int32)), .val (.ref x9), .val (.ref x10), .val (.int (x5 &&& (3 : Int32))), .unset, .unset]
abbrev own_l69 (x0 : Int32) (x1 : Int32) (x2 : Int32) (x3 : Int32) (x4 : Int32) (x5 : Int32) (x6 : Int32) (x7 : Int32) (x8 : Int32) (x9 : Addr) (x10 : Addr) : Array Slot := #[.val (.int x0), .val (.int x1), .val (.int x2), .val (.int x3), .val (.int x4), .val (.int x5), .val (.int x6), .val (.int x7), .val (.int x8), .val (.int (3 : Int32)), .val (.ref x9), .val (.ref x10), .val (.int (x5 &&& (3 : Int32))), .val (.int (x4.toUInt32.toUInt16.toUInt32.toInt32)), .unset]
abbrev own_l70 (x0 : Int32) (x1 : Int32) (x2 : Int32) (x3 : Int32) (x4 : Int32) (x5 : Int32) (x6 : Int32) (x7 : Int32) (x8 : Int32) (x9 : Addr) (x10 : Addr) : Array Slot := #[.val (.int x0), .val (.int x1), .val (.int x2), .val (.int x3), .val (.int x4), .val (.int x5), .val (.int x6), .val (.int x7), .val (.int x8), .val (.int (3 : Int32)), .val (.ref x9), .val (.ref x10), .val (.int (x5 &&& (3 : Int32))), .val (.int ((x4 &&& (127 : Int32)).toUInt32.toUInt16.toUInt32.toInt32)), .unset]
abbrev own_l71 (x0 : Int32) (x1 : Int32) (x2 : Int32) (x3 : Int32) (x4 : Int32) (x5 : Int32) (x6 : Int32) (x7 : Int32) (x8 : Int32) (x9 : Addr) (x10 : Addr) : Array Slot := #[.val (.int x0), .val (.int x1), .val (.int x2), .val (.int x3), .val (.int x4), .val (.int x5), .val (.int x6), .val (.int x7), .val (.int x8), .val (.int (3 : Int32)), .val (.ref x9), .val (.ref x10), .val (.int (x5 &&& (3 : Int32))), .unset, .val (.int ((x4 &&& (2147483647 : Int32)) % (3 : Int32)))]
abbrev own_l72 (x0 : Int32) (x1 : Int32) (x2 : Int32) (x3 : Int32) (x4 : Int32) (x5 : Int32) (x6 : Int32) (x7 : Int32) (x8 : Int32) (x9 : Addr) (x10 : Addr) : Array Slot := #[.val (.int x0), .val (.int x1), .val (.int x2), .val (.int x3), .val (.int x4), .val (.int x5), .val (.int x6), .val (.int x7), .val (.int x8), .val (.int (3 : Int32)), .val (.ref x9), .val (.ref x10), .val (.int (x5 &&& (3 : Int32))), .val (.int x6), .val (.int ((x4 &&& (2147483647 : Int32)) % (3 : Int32)))]
abbrev own_l73 (x0 : Int32) (x1 : Int32) (x2 : Int32) (x3 : Int32) (x4 : Int32) (x5 : Int32) (x6 : Int32) (x7 : Int32) (x8 : Int32) (x9 : Addr) (x10 : Addr) : Array Slot := #[.val (.int x0), .val (.int x1), .val (.int x2), .val (.int x3), .val (.int x4), .val (.int x5), .val (.int x6), .val (.int x7), .val (.int x8), .val (.int (3 : Int32)), .val (.ref x9), .val (.ref x10), .val (.int (x5 &&& (3 : Int32))), .val (.int x7), .val (.int ((x4 &&& (2147483647 : Int32)) % (3 : Int32)))]
abbrev own_l74 (x0 : Int32) (x1 : Int32) (x2 : Int32) (x3 : Int32) (x4 : Int32) (x5 : Int32) (x6 : Int32) (x7 : Int32) (x8 : Int32) (x9 : Addr) (x10 : Addr) : Array Slot := #[.val (.int x0), .val (.int x1), .val (.int x2), .val (.int x3), .val (.int x4), .val (.int x5), .val (.int x6), .val (.int x7), .val (.int x8), .val (.int (3 : Int32)), .val (.ref x9), .val (.ref x10), .val (.int (x5 &&& (3 : Int32))), .val (.int x8), .val (.int ((x4 &&& (2147483647 : Int32)) % (3 : Int32)))]
abbrev own_l75 (x0 : Int32) (x1 : Int32) (x2 : Int32) (x3 : Int32) (x4 : Int32) (x5 : Int32) (x6 : Int32) (x7 : Int32) (x8 : Int32) (x9 : Addr) (x10 : Addr) : Array Slot := #[.val (.int x0), .val (.int x1), .val (.int x2), .val (.int x3), .val (.int x4), .val (.int x5), .val (.int x6), .val (.int x7), .val (.int x8), .val (.int (3 : Int32)), .val (.ref x9), .val (.ref x10), .val (.int (x5 &&& (3 : Int32))), .val (.int (((128 : Int32) + (x4 &&& (127 : Int32))).toUInt32.toUInt16.toUInt32.toInt32)), .unset]
abbrev own_l76 (x0 : Int32) (x1 : Int32) (x2 : Int32) (x3 : Int32) (x4 : Int32) (x5 : Int32) (x6 : Int32) (x7 : Int32) (x8 : Int32) (x9 : Addr) (x10 : Addr) (x11 : Int32) (x12 : Slot) : Array Slot := #[.val (.int x0), .val (.int x1), .val (.int x2), .val (.int x3), .val (.int x4), .val (.int x5), .val (.int x6), .val (.int x7), .val (.int x8), .val (.int (3 : Int32)), .val (.ref x9), .val (.ref x10), .val (.int (x5 &&& (3 : Int32))), .val (.int x11), x12]
abbrev own_l77 (x0 : Int32) (x1 : Int32) (x2 : Int32) (x3 : Int32) (x4 : Int32) (x5 : Int32) (x6 : Int32) (x7 : Int32) (x8 : Int32) (x9 : Addr) (x10 : Addr) (x11 : Int32) (x12 : Int32) : Array Slot := #[.val (.int x0), .val (.int x1), .val (.int x2), .val (.int x3), .val (.int x4), .val (.int x5), .val (.int x6), .val (.int x7), .val (.int x8), .val (.int (3 : Int32)), .val (.ref x9), .val (.ref x10), .val (.int (x5 &&& (3 : Int32))), .val (.int x11), .val (.int x12)]
def own_Q0 (h0 : Heap) (n0 : Nat) (v : Option Value) (h : Heap) (L : List Loc) : Prop := v = some (.int (1 : Int32)) ∧ Fr n0 L
set_option maxRecDepth 65536 in
set_option maxHeartbeats 40000000 in
theorem rm0 (l : Launch) (Z : State) (a0 : Array Value) (hw : ∀ d ∈ tables_1, d.before a0 Z = true) (ws : List Jvm.Cond) (p0 : Int32) (p1 : Int32) (p2 : Int32) (p3 : Int32) (p4 : Int32) (p5 : Int32) (pG : Int32) (vF : Value) (h0 : Heap) (n0 : Nat) (Z0 : n0 ≤ h0.size) (hEL : EW Z a0 own_EL) (O2 : Sta Z Z.heap "java/lang/String" "COMPACT_STRINGS" "Z" (.int pG)) (hG : ¬ pG = (0 : Int32)) (X00 : Old Z n0 h0) (O4 : Sta Z Z.heap "jdk/internal/util/Preconditions" "SIOOBE_FORMATTER" "Ljava/util/function/BiFunction;" vF) (rF : vF.isRef = true) :
    MetFree l x (head1 (Jvm.Cond.code x code maxLocals ret :: ws) room_1) (fun a U => a = #[(.int p0), (.int p1), (.int p2), (.int p3), (.int p4), (.int p5)] ∧ Z.Warmed39 U.vm ∧ U.heap = h0 ∧ CHv Z own_EL U.vm h0) (fun _ _ _ _ _ => True) (fun _ U o U' => ∃ v L, o = .returned v ∧ own_Q0  h0 n0 v U'.heap L ∧ ReturnedEndW U o U' L room_1.cells room_1.slots) := by
  refine MetFree.of_bodySF (plainFor_of_name own_pn0) hisR ?_
  intro p e s m args below meth c s₁ Bd hml0 hP hK
  obtain ⟨rfl, hZ, hh, CH0⟩ := hP
  have hx := Bd.exec
  have hby := Bd.bytes
  have hml : c.maxLocals = 15 := hml0
  have hown : s.vm.findClass "com/example/coho/coho/identifier/CharacterSetContainsPinLaw" = some m.cls := findClass_of_methodNamed Bd.named
  have hnm := (name_of_methodNamed Bd.named Bd.method).1
  have own_wS' : ∀ d ∈ Bundle.stringAtoms, d.before a0 Z = true := fun d hd => hw d (own_wS d hd)
  have X0 : Stand p l e room_1 (s.setVm s.vm) m #[(.int p0), (.int p1), (.int p2), (.int p3), (.int p4), (.int p5)] below meth c s₁ [] 0 0 := Stand.of_body Bd
  have e0 : s₁.heap = h0 := by rw [← hh, Bd.state]; rfl
  have N0 := Fr.nil n0
  have hS0 : s.Since s.vm 0 := (State.WarmedH.refl s).since 0
  have hk0 : 0 ≤ h0.size := Nat.zero_le _
  refine own_pre (A := (s₁.setTop (mkF m 0 (own_l18 p0 p1 p2 p3 p4 p5) []))) (fun t k => castTop (own_ef0 m p0 p1 p2 p3 p4 p5) k) ?_
  refine own_pre (A := (s₁.setTop (mkF m 26 (own_l22 p0 p1 p2 p3 p4 p5) []))) ?_ ?_
  · intro t k
    refine XS.iloadN X0.here hx rfl (hb hby at_0) rfl ?_
    refine XS.bipush X0.here hx rfl (hb hby at_1) ?_
    refine XS.iand X0.here hx rfl (hb hby at_3) rfl ?_
    refine XS.i2c X0.here hx rfl (hb hby at_4) rfl ?_
    refine XS.istore X0.here hx rfl (hb hby at_5) rfl (l' := (own_l19 p0 p1 p2 p3 p4 p5)) rfl ?_
    refine XS.iloadN X0.here hx rfl (hb hby at_7) rfl ?_
    refine XS.bipush X0.here hx rfl (hb hby at_8) ?_
    refine XS.iand X0.here hx rfl (hb hby at_10) rfl ?_
    refine XS.i2c X0.here hx rfl (hb hby at_11) rfl ?_
    refine XS.istore X0.here hx rfl (hb hby at_12) rfl (l' := (own_l20 p0 p1 p2 p3 p4 p5)) rfl ?_
    refine XS.iloadN X0.here hx rfl (hb hby at_14) rfl ?_
    refine XS.bipush X0.here hx rfl (hb hby at_15) ?_
    refine XS.iand X0.here hx rfl (hb hby at_17) rfl ?_
    refine XS.i2c X0.here hx rfl (hb hby at_18) rfl ?_
    refine XS.istore X0.here hx rfl (hb hby at_19) rfl (l' := (own_l21 p0 p1 p2 p3 p4 p5)) rfl ?_
    refine XS.iloadN X0.here hx rfl (hb hby at_21) rfl ?_
    refine XS.iconst X0.here hx rfl (hb hby at_22) ?_
    refine XS.iand X0.here hx rfl (hb hby at_23) rfl ?_
    refine XS.istore X0.here hx rfl (hb hby at_24) rfl (l' := (own_l22 p0 p1 p2 p3 p4 p5)) rfl ?_
    exact k
  obtain ⟨ca, hca⟩ : ∃ z : Int32, z = ((p0 &&& (127 : Int32)).toUInt32.toUInt16.toUInt32.toInt32) := ⟨_, rfl⟩
  show ∃ s₂ o, Steps p.tables e below (s₁.setTop (mkF m 26 #[.val (.int p0), .val (.int p1), .val (.int p2), .val (.int p3), .val (.int p4), .val (.int p5), .val (.int ((p0 &&& (127 : Int32)).toUInt32.toUInt16.toUInt32.toInt32)), .val (.int ((p1 &&& (127 : Int32)).toUInt32.toUInt16.toUInt32.toInt32)), .val (.int ((p2 &&& (127 : Int32)).toUInt32.toUInt16.toUInt32.toInt32)), .val (.int (p3 &&& (3 : Int32))), .unset, .unset, .unset, .unset, .unset] [])) s₂ ∧ _
  rw [← hca]
  have hp_ca : 0 ≤ ca.toInt ∧ ca.toInt < 128 := by rw [hca]; exact own_ch _
  obtain ⟨cb, hcb⟩ : ∃ z : Int32, z = ((p1 &&& (127 : Int32)).toUInt32.toUInt16.toUInt32.toInt32) := ⟨_, rfl⟩
  show ∃ s₂ o, Steps p.tables e below (s₁.setTop (mkF m 26 #[.val (.int p0), .val (.int p1), .val (.int p2), .val (.int p3), .val (.int p4), .val (.int p5), .val (.int ca), .val (.int ((p1 &&& (127 : Int32)).toUInt32.toUInt16.toUInt32.toInt32)), .val (.int ((p2 &&& (127 : Int32)).toUInt32.toUInt16.toUInt32.toInt32)), .val (.int (p3 &&& (3 : Int32))), .unset, .unset, .unset, .unset, .unset] [])) s₂ ∧ _
  rw [← hcb]
  have hp_cb : 0 ≤ cb.toInt ∧ cb.toInt < 128 := by rw [hcb]; exact own_ch _
  obtain ⟨cd, hcd⟩ : ∃ z : Int32, z = ((p2 &&& (127 : Int32)).toUInt32.toUInt16.toUInt32.toInt32) := ⟨_, rfl⟩
  show ∃ s₂ o, Steps p.tables e below (s₁.setTop (mkF m 26 #[.val (.int p0), .val (.int p1), .val (.int p2), .val (.int p3), .val (.int p4), .val (.int p5), .val (.int ca), .val (.int cb), .val (.int ((p2 &&& (127 : Int32)).toUInt32.toUInt16.toUInt32.toInt32)), .val (.int (p3 &&& (3 : Int32))), .unset, .unset, .unset, .unset, .unset] [])) s₂ ∧ _
  rw [← hcd]
  have hp_cd : 0 ≤ cd.toInt ∧ cd.toInt < 128 := by rw [hcd]; exact own_ch _
  obtain ⟨pn, hpn⟩ : ∃ z : Int32, z = (p3 &&& (3 : Int32)) := ⟨_, rfl⟩
  show ∃ s₂ o, Steps p.tables e below (s₁.setTop (mkF m 26 #[.val (.int p0), .val (.int p1), .val (.int p2), .val (.int p3), .val (.int p4), .val (.int p5), .val (.int ca), .val (.int cb), .val (.int cd), .val (.int (p3 &&& (3 : Int32))), .unset, .unset, .unset, .unset, .unset] [])) s₂ ∧ _
  rw [← hpn]
  have hm : pn = (0 : Int32) ∨ pn = (1 : Int32) ∨ pn = (2 : Int32) ∨ pn = (3 : Int32) := by rw [hpn]; exact own_n4 _
  clear hpn
  rcases hm with rfl | rfl | rfl | rfl
  · skip
    refine own_pre (A := (s₁.setTop (mkF m 31 (own_l26 p0 p1 p2 p3 p4 p5 ca cb cd) []))) ?_ ?_
    · intro t k
      refine XS.iload X0.here hx rfl (hb hby at_26) rfl ?_
      refine XS.ifNo X0.here hx rfl (hb hby at_28) rfl ((if0 _ _).trans (teq (by decide : (0 : Int32) = (0 : Int32))).2) ?_
      exact k
    obtain ⟨T199, h199, X199, e199, E199, A199, D199, -, st199⟩ := newO X0 hx hZ hown (own_w hw 0 rfl) (own_w hw 1 rfl) (own_w hw 2 rfl) e0 (g := (mkF m 31 (own_l26 p0 p1 p2 p3 p4 p5 ca cb cd) [])) rfl (hb hby at_31) (by decide) (by decide)
    obtain ⟨b199, g199⟩ : ∃ z, z = h0.size := ⟨_, rfl⟩
    rw [← g199] at A199 D199 st199
    have gn_b199 : n0 ≤ b199 := Nat.le_trans Z0 (Nat.le_of_eq g199.symm)
    have X00_199 := X00.ext E199
    have sf_b199 : Safe Z own_EL s.vm h0 b199 := Safe.new (Nat.le_of_eq g199.symm)
    have sf_b199_199 := Safe.ext E199 CH0 sf_b199
    have CH199 := CHv.ext E199 CH0
    have hk199 := Nat.le_trans hk0 E199.1
    have Zs199 : n0 ≤ h199.size := Nat.le_trans Z0 E199.1
    have Kc199 : Keep h0 h199 [] := (Keep.refl h0 []).ext E199
    have F199_coder : Fld Z h199 b199 "java/lang/String" "coder" "B" (.int (0 : Int32)) := D199 (Or.inr (own_w hw 27 rfl)) (ty := .byte) (by decide)
    have F199_value : Fld Z h199 b199 "java/lang/String" "value" "[B" .null := D199 (Or.inr (own_w hw 29 rfl)) (ty := (.array .byte)) (by decide)
    refine own_pre (fun t k => st199 t k) ?_
    refine own_pre (A := (T199.setTop (mkF m 36 (own_l26 p0 p1 p2 p3 p4 p5 ca cb cd) [(.int (0 : Int32)), (.ref b199), (.ref b199)]))) ?_ ?_
    · intro t k
      refine XS.dup X199.here hx rfl (hb hby at_34) rfl rfl ?_
      refine XS.iconst X199.here hx rfl (hb hby at_35) ?_
      exact k
    obtain ⟨T200, h200, k200, X200, e200, E200, A200, st200⟩ := newP X199 hx hZ (own_w hw 3 rfl) e199 (g := (mkF m 36 (own_l26 p0 p1 p2 p3 p4 p5 ca cb cd) [(.int (0 : Int32)), (.ref b199), (.ref b199)])) rfl (hb hby at_36) rfl (by decide) (cap := 0) (by decide) (by decide) (by decide) (by decide)
    obtain ⟨b200, g200⟩ : ∃ z, z = h199.size := ⟨_, rfl⟩
    rw [← g200] at A200 st200
    have ne_b199_b200 : b199 ≠ b200 := Nat.ne_of_lt (Nat.lt_of_lt_of_le A199.lt (Nat.le_of_eq g200.symm))
    have X00_200 := X00_199.ext E200
    have A199_200 := A199.ext E200
    have F199_coder_200 := F199_coder.ext E200
    have F199_value_200 := F199_value.ext E200
    have sf_b199_200 := Safe.ext E200 CH199 sf_b199_199
    have CH200 := CHv.ext E200 CH199
    have hk200 := Nat.le_trans hk199 E200.1
    have Zs200 : n0 ≤ h200.size := Nat.le_trans Zs199 E200.1
    have V200 : Arv Z h200 b200 k200 .char (0 : Int32) [] (.int (0 : Int32)) := (Arv.new A200 (by decide)).pad (pad_rep [] (.int (0 : Int32)) 0)
    refine own_pre (fun t k => st200 t k) ?_
    obtain ⟨_, _, ⟨T201, L201, k201, n201⟩, -, X201', hs201, hg201, ⟨Lc201, hQ201, l201, y201, z201⟩, st201⟩ := X200.specialBackS hx (y := (⟨"java/lang/String", "<init>", "([C)V"⟩ : MethodName)) rfl hown (mvT hZ (own_w hw 4 rfl)) (mvT hZ (own_w hw 5 rfl)) (mvT hZ (own_w hw 6 rfl)) (by decide) (own_backS (W := 1) (rm1_0 l Z a0 hw [] b199 b200 k200  pG h200 n0 Zs200 hEL A199_200 F199_value_200 F199_coder_200 gn_b199 V200 ne_b199_b200 O2 hG X00_200) hZ (own_w hw 6 rfl) (own_w hw 2 rfl) (by decide) (by decide) hEL CH200 sf_b199_200 A199_200.lt) (g := (mkF m 38 (own_l26 p0 p1 p2 p3 p4 p5 ca cb cd) [(.ref b200), (.ref b199), (.ref b199)])) rfl (by rw [hml]; rfl) (Steps.refl _) (a := b199) (argsL := [(.ref b200)]) (rest := [(.ref b199)]) (lenOf own_pd11 rfl) rfl (by show 2 * 0 + _ ≤ _; exact Nat.le_of_eq rfl) (hb hby at_38) (fun _ _ => ⟨rfl, e200, (by decide : 2 + 2 ≤ _), (by decide : 4 + 4 ≤ _)⟩)
    dsimp only [Pt.U, Pt.locs, Pt.cells, Pt.slots] at X201' hs201 hg201 l201 y201 z201 st201 hQ201
    replace y201 : _ = 4 := y201
    replace z201 : _ = 8 := z201
    subst y201 z201
    obtain ⟨X201, hS201, hZ201, hown201⟩ := rebS (n1 := T200.heap.size) hS0 (by rw [e200]; exact hk200) X201' hs201 hg201 hZ hown
    obtain ⟨rfl, Nq201, Kq201, ad201, kq201, Fv201, Fc201, Vq201, nq201⟩ := hQ201
    have N201 := own_frl l201 N0 Nq201
    refine own_pre (fun t k => st201.trans k) ?_
    have X00_201 := X00_200.keep Kq201 (allS gn_b199 all0)
    have A199_201 := A199_200.keep Kq201
    have Zs201 : n0 ≤ T201.heap.size := Nat.le_trans Zs200 Kq201.1
    refine own_pre (A := (T201.setTop (mkF m 130 (own_l27 p0 p1 p2 p3 p4 p5 ca cb cd b199) []))) ?_ ?_
    · intro t k
      refine XS.astore X201.here hx rfl (hb hby at_41) rfl rfl (l' := (own_l27 p0 p1 p2 p3 p4 p5 ca cb cd b199)) rfl ?_
      refine XS.goto X201.here hx rfl (pc0 := 43) (pc' := 130) rfl (hb hby at_43) (by decide) (by decide) ?_
      exact k
    obtain ⟨T202, h202, X202, e202, E202, A202, D202, -, st202⟩ := newO X201 hx hZ201 hown201 (own_w hw 30 rfl) (own_w hw 31 rfl) (own_w hw 32 rfl) rfl (g := (mkF m 130 (own_l27 p0 p1 p2 p3 p4 p5 ca cb cd b199) [])) rfl (hb hby at_130) (by decide) (by decide)
    obtain ⟨b202, g202⟩ : ∃ z, z = T201.heap.size := ⟨_, rfl⟩
    rw [← g202] at A202 D202 st202
    have ne_ad201_b202 : ad201 ≠ b202 := Nat.ne_of_lt (Nat.lt_of_lt_of_le Vq201.lt (Nat.le_of_eq g202.symm))
    have ne_b199_b202 : b199 ≠ b202 := Nat.ne_of_lt (Nat.lt_of_lt_of_le A199_201.lt (Nat.le_of_eq g202.symm))
    have gn_b202 : n0 ≤ b202 := Nat.le_trans Zs201 (Nat.le_of_eq g202.symm)
    have X00_202 := X00_201.ext E202
    have A199_202 := A199_201.ext E202
    have Fv201_202 := Fv201.ext E202
    have Fc201_202 := Fc201.ext E202
    have Vq201_202 := Vq201.ext E202
    have hk202 := Nat.le_trans (Nat.le_refl _) E202.1
    have Zs202 : n0 ≤ h202.size := Nat.le_trans Zs201 E202.1
    have F202_members : Fld Z h202 b202 "com/example/coho/coho/identifier/CharacterSet" "members" "[Z" .null := D202 (Or.inr (own_w hw 42 rfl)) (ty := (.array .boolean)) (by decide)
    have F202_description : Fld Z h202 b202 "com/example/coho/coho/identifier/CharacterSet" "description" "Ljava/lang/String;" .null := D202 (Or.inr (own_w hw 76 rfl)) (ty := (.object "java/lang/String")) (by decide)
    refine own_pre (fun t k => st202 t k) ?_
    refine own_pre (A := (T202.setTop (mkF m 136 (own_l27 p0 p1 p2 p3 p4 p5 ca cb cd b199) [(.ref b199), (.ref b202), (.ref b202)]))) ?_ ?_
    · intro t k
      refine XS.dup X202.here hx rfl (hb hby at_133) rfl rfl ?_
      refine XS.aload X202.here hx rfl (hb hby at_134) rfl rfl ?_
      exact k
    obtain ⟨a203, T203, h203, k203, X203, e203, E203, hS203, hk203, hZ203, hown203, st203⟩ := ldcS (s := s) (vm0 := T201.vm) X202 hx hZ201 hown201 (own_w hw 33 rfl) own_wS' e202 hS201 hk202 (g := (mkF m 136 (own_l27 p0 p1 p2 p3 p4 p5 ca cb cd b199) [(.ref b199), (.ref b202), (.ref b202)])) rfl (hb hby at_136) (n := 4) (by decide) (by decide) (by decide) (by decide)
    have X00_203 := X00_202.ext E203
    have A199_203 := A199_202.ext E203
    have Fv201_203 := Fv201_202.ext E203
    have Fc201_203 := Fc201_202.ext E203
    have Vq201_203 := Vq201_202.ext E203
    have A202_203 := A202.ext E203
    have F202_members_203 := F202_members.ext E203
    have F202_description_203 := F202_description.ext E203
    have Zs203 : n0 ≤ h203.size := Nat.le_trans Zs202 E203.1
    refine own_pre (fun t k => st203 t k) ?_
    obtain ⟨_, _, ⟨T204, L204, k204, n204⟩, -, X204, ⟨Lc204, hQ204, l204, y204, z204⟩, st204⟩ := X203.specialBack hx (y := (⟨"com/example/coho/coho/identifier/CharacterSet", "<init>", "(Ljava/lang/String;Ljava/lang/String;)V"⟩ : MethodName)) rfl hown203 (mvT hZ203 (own_w hw 36 rfl)) (mvT hZ203 (own_w hw 37 rfl)) (mvT hZ203 (own_w hw 38 rfl)) (by decide) (backOf (W := 1) (rm7_0 l Z a0 hw [] b202 b199 a203 ad201 kq201  pG vF h203 n0 Zs203 A202_203 F202_members_203 F202_description_203 gn_b202 A199_203 Fv201_203 Fc201_203 Vq201_203 ne_b199_b202.symm ne_ad201_b202.symm O2 hG X00_203 O4 rF) hZ203 (own_w hw 38 rfl) (own_w hw 32 rfl) (by decide) (by decide)) (g := (mkF m 138 (own_l27 p0 p1 p2 p3 p4 p5 ca cb cd b199) [(.ref a203), (.ref b199), (.ref b202), (.ref b202)])) rfl (by rw [hml]; rfl) (Steps.refl _) (a := b202) (argsL := [(.ref b199), (.ref a203)]) (rest := [(.ref b202)]) (lenOf own_pd12 rfl) rfl (by show 2 * 0 + _ ≤ _; exact Nat.le_of_eq rfl) (hb hby at_138) (fun _ _ => ⟨rfl, e203, (by decide : 7 + 1 ≤ _), (by decide : 18 + 128 ≤ _)⟩)
    dsimp only [Pt.U, Pt.locs, Pt.cells, Pt.slots] at X204 l204 y204 z204 st204 hQ204
    replace y204 : _ = 8 := y204
    replace z204 : _ = 146 := z204
    subst y204 z204
    obtain ⟨rfl, Nq204, Kq204, am204, km204, Fm204, Vm204⟩ := hQ204
    have N204 := own_frl l204 N201 Nq204
    refine own_pre (fun t k => st204.trans k) ?_
    have A202_204 := A202_203.keep Kq204
    have hk204 := Nat.le_trans hk203 Kq204.1
    have Zs204 : n0 ≤ T204.heap.size := Nat.le_trans Zs203 Kq204.1
    refine own_pre (A := (T204.setTop (mkF m 151 (own_l29 p0 p1 p2 p3 p4 p5 ca cb cd b199 b202) [(.int (p5 &&& (3 : Int32)))]))) ?_ ?_
    · intro t k
      refine XS.astore X204.here hx rfl (hb hby at_141) rfl rfl (l' := (own_l28 p0 p1 p2 p3 p4 p5 ca cb cd b199 b202)) rfl ?_
      refine XS.iload X204.here hx rfl (hb hby at_143) rfl ?_
      refine XS.iconst X204.here hx rfl (hb hby at_145) ?_
      refine XS.iand X204.here hx rfl (hb hby at_146) rfl ?_
      refine XS.istore X204.here hx rfl (hb hby at_147) rfl (l' := (own_l29 p0 p1 p2 p3 p4 p5 ca cb cd b199 b202)) rfl ?_
      refine XS.iload X204.here hx rfl (hb hby at_149) rfl ?_
      exact k
    obtain ⟨v210, hv210⟩ : ∃ z : Int32, z = (if (p5 &&& (3 : Int32)) = (0 : Int32) then (p4.toUInt32.toUInt16.toUInt32.toInt32) else (if (p5 &&& (3 : Int32)) = (1 : Int32) then ((p4 &&& (127 : Int32)).toUInt32.toUInt16.toUInt32.toInt32) else (if (p5 &&& (3 : Int32)) = (2 : Int32) then (if ((p4 &&& (2147483647 : Int32)) % (3 : Int32)) = (0 : Int32) then ca else (if ((p4 &&& (2147483647 : Int32)) % (3 : Int32)) = (1 : Int32) then cb else cd)) else (((128 : Int32) + (p4 &&& (127 : Int32))).toUInt32.toUInt16.toUInt32.toInt32)))) := ⟨_, rfl⟩
    obtain ⟨sl211, hsl211⟩ : ∃ z : Slot, z = (if (p5 &&& (3 : Int32)) = (0 : Int32) then (.unset) else (if (p5 &&& (3 : Int32)) = (1 : Int32) then (.unset) else (if (p5 &&& (3 : Int32)) = (2 : Int32) then (.val (.int ((p4 &&& (2147483647 : Int32)) % (3 : Int32)))) else (.unset)))) := ⟨_, rfl⟩
    refine own_pre (A := (T204.setTop (mkF m 238 (own_l37 p0 p1 p2 p3 p4 p5 ca cb cd b199 b202 v210 sl211) []))) ?_ ?_
    · intro t k
      show Steps p.tables e below (T204.setTop (mkF m 151 (own_l29 p0 p1 p2 p3 p4 p5 ca cb cd b199 b202) [(.int (p5 &&& (3 : Int32)))])) _
      by_cases hc205 : (p5 &&& (3 : Int32)) = (0 : Int32)
      · skip
        refine XS.ifNo X204.here hx rfl (hb hby at_151) rfl ((if0 _ _).trans (teq hc205).2) ?_
        refine XS.iload X204.here hx rfl (hb hby at_154) rfl ?_
        refine XS.i2c X204.here hx rfl (hb hby at_156) rfl ?_
        refine XS.istore X204.here hx rfl (hb hby at_157) rfl (l' := (own_l30 p0 p1 p2 p3 p4 p5 ca cb cd b199 b202)) rfl ?_
        refine XS.goto X204.here hx rfl (pc0 := 159) (pc' := 238) rfl (hb hby at_159) (by decide) (by decide) ?_
        rw [show v210 = (p4.toUInt32.toUInt16.toUInt32.toInt32) from hv210.trans (by simp only [if_pos hc205])] at k
        rw [show sl211 = (.unset) from hsl211.trans (by simp only [if_pos hc205])] at k
        exact k
      · skip
        refine XS.ifYes X204.here hx rfl (pc0 := 151) (pc' := 162) rfl (hb hby at_151) rfl ((if0 _ _).trans (feq hc205).2) (by decide) (by decide) ?_
        refine XS.iload X204.here hx rfl (hb hby at_162) rfl ?_
        refine XS.iconst X204.here hx rfl (hb hby at_164) ?_
        show Steps p.tables e below (T204.setTop (mkF m 165 (own_l29 p0 p1 p2 p3 p4 p5 ca cb cd b199 b202) [(.int (1 : Int32)), (.int (p5 &&& (3 : Int32)))])) _
        by_cases hc206 : (p5 &&& (3 : Int32)) = (1 : Int32)
        · skip
          refine XS.icmpNo X204.here hx rfl (hb hby at_165) rfl (teq hc206).2 ?_
          refine XS.iload X204.here hx rfl (hb hby at_168) rfl ?_
          refine XS.bipush X204.here hx rfl (hb hby at_170) ?_
          refine XS.iand X204.here hx rfl (hb hby at_172) rfl ?_
          refine XS.i2c X204.here hx rfl (hb hby at_173) rfl ?_
          refine XS.istore X204.here hx rfl (hb hby at_174) rfl (l' := (own_l31 p0 p1 p2 p3 p4 p5 ca cb cd b199 b202)) rfl ?_
          refine XS.goto X204.here hx rfl (pc0 := 176) (pc' := 238) rfl (hb hby at_176) (by decide) (by decide) ?_
          rw [show v210 = ((p4 &&& (127 : Int32)).toUInt32.toUInt16.toUInt32.toInt32) from hv210.trans (by simp only [if_neg hc205, if_pos hc206])] at k
          rw [show sl211 = (.unset) from hsl211.trans (by simp only [if_neg hc205, if_pos hc206])] at k
          exact k
        · skip
          refine XS.icmpYes X204.here hx rfl (pc0 := 165) (pc' := 179) rfl (hb hby at_165) rfl (feq hc206).2 (by decide) (by decide) ?_
          refine XS.iload X204.here hx rfl (hb hby at_179) rfl ?_
          refine XS.iconst X204.here hx rfl (hb hby at_181) ?_
          show Steps p.tables e below (T204.setTop (mkF m 182 (own_l29 p0 p1 p2 p3 p4 p5 ca cb cd b199 b202) [(.int (2 : Int32)), (.int (p5 &&& (3 : Int32)))])) _
          by_cases hc207 : (p5 &&& (3 : Int32)) = (2 : Int32)
          · skip
            refine XS.icmpNo X204.here hx rfl (hb hby at_182) rfl (teq hc207).2 ?_
            refine XS.iload X204.here hx rfl (hb hby at_185) rfl ?_
            show Steps p.tables e below (T204.setTop (mkF m 187 (own_l29 p0 p1 p2 p3 p4 p5 ca cb cd b199 b202) [(.int p4)])) _
            refine X204.ldcInt hx hown203 (mvT hZ203 (own_w hw 82 rfl)) (g := (mkF m 187 (own_l29 p0 p1 p2 p3 p4 p5 ca cb cd b199 b202) [(.int p4)])) rfl (hb hby at_187) _ ?_
            refine XS.iand X204.here hx rfl (hb hby at_189) rfl ?_
            refine XS.iconst X204.here hx rfl (hb hby at_190) ?_
            show Steps p.tables e below (T204.setTop (mkF m 191 (own_l29 p0 p1 p2 p3 p4 p5 ca cb cd b199 b202) [(.int (3 : Int32)), (.int (p4 &&& (2147483647 : Int32)))])) _
            refine iremM X204 hx rfl (hb hby at_191) rfl (by decide) ?_
            show Steps p.tables e below (T204.setTop (mkF m 192 (own_l29 p0 p1 p2 p3 p4 p5 ca cb cd b199 b202) [(.int ((p4 &&& (2147483647 : Int32)) % (3 : Int32)))])) _
            refine XS.istore X204.here hx rfl (hb hby at_192) rfl (l' := (own_l32 p0 p1 p2 p3 p4 p5 ca cb cd b199 b202)) rfl ?_
            refine XS.iload X204.here hx rfl (hb hby at_194) rfl ?_
            show Steps p.tables e below (T204.setTop (mkF m 196 (own_l32 p0 p1 p2 p3 p4 p5 ca cb cd b199 b202) [(.int ((p4 &&& (2147483647 : Int32)) % (3 : Int32)))])) _
            by_cases hc208 : ((p4 &&& (2147483647 : Int32)) % (3 : Int32)) = (0 : Int32)
            · skip
              refine XS.ifNo X204.here hx rfl (hb hby at_196) rfl ((if0 _ _).trans (teq hc208).2) ?_
              refine XS.iload X204.here hx rfl (hb hby at_199) rfl ?_
              refine XS.istore X204.here hx rfl (hb hby at_201) rfl (l' := (own_l33 p0 p1 p2 p3 p4 p5 ca cb cd b199 b202)) rfl ?_
              refine XS.goto X204.here hx rfl (pc0 := 203) (pc' := 223) rfl (hb hby at_203) (by decide) (by decide) ?_
              refine XS.goto X204.here hx rfl (pc0 := 223) (pc' := 238) rfl (hb hby at_223) (by decide) (by decide) ?_
              rw [show v210 = ca from hv210.trans (by simp only [if_neg hc205, if_neg hc206, if_pos hc207, if_pos hc208])] at k
              rw [show sl211 = (.val (.int ((p4 &&& (2147483647 : Int32)) % (3 : Int32)))) from hsl211.trans (by simp only [if_neg hc205, if_neg hc206, if_pos hc207, if_pos hc208])] at k
              exact k
            · skip
              refine XS.ifYes X204.here hx rfl (pc0 := 196) (pc' := 206) rfl (hb hby at_196) rfl ((if0 _ _).trans (feq hc208).2) (by decide) (by decide) ?_
              refine XS.iload X204.here hx rfl (hb hby at_206) rfl ?_
              refine XS.iconst X204.here hx rfl (hb hby at_208) ?_
              show Steps p.tables e below (T204.setTop (mkF m 209 (own_l32 p0 p1 p2 p3 p4 p5 ca cb cd b199 b202) [(.int (1 : Int32)), (.int ((p4 &&& (2147483647 : Int32)) % (3 : Int32)))])) _
              by_cases hc209 : ((p4 &&& (2147483647 : Int32)) % (3 : Int32)) = (1 : Int32)
              · skip
                refine XS.icmpNo X204.here hx rfl (hb hby at_209) rfl (teq hc209).2 ?_
                refine XS.iload X204.here hx rfl (hb hby at_212) rfl ?_
                refine XS.istore X204.here hx rfl (hb hby at_214) rfl (l' := (own_l34 p0 p1 p2 p3 p4 p5 ca cb cd b199 b202)) rfl ?_
                refine XS.goto X204.here hx rfl (pc0 := 216) (pc' := 223) rfl (hb hby at_216) (by decide) (by decide) ?_
                refine XS.goto X204.here hx rfl (pc0 := 223) (pc' := 238) rfl (hb hby at_223) (by decide) (by decide) ?_
                rw [show v210 = cb from hv210.trans (by simp only [if_neg hc205, if_neg hc206, if_pos hc207, if_neg hc208, if_pos hc209])] at k
                rw [show sl211 = (.val (.int ((p4 &&& (2147483647 : Int32)) % (3 : Int32)))) from hsl211.trans (by simp only [if_neg hc205, if_neg hc206, if_pos hc207, if_neg hc208, if_pos hc209])] at k
                exact k
              · skip
                refine XS.icmpYes X204.here hx rfl (pc0 := 209) (pc' := 219) rfl (hb hby at_209) rfl (feq hc209).2 (by decide) (by decide) ?_
                refine XS.iload X204.here hx rfl (hb hby at_219) rfl ?_
                refine XS.istore X204.here hx rfl (hb hby at_221) rfl (l' := (own_l35 p0 p1 p2 p3 p4 p5 ca cb cd b199 b202)) rfl ?_
                refine XS.goto X204.here hx rfl (pc0 := 223) (pc' := 238) rfl (hb hby at_223) (by decide) (by decide) ?_
                rw [show v210 = cd from hv210.trans (by simp only [if_neg hc205, if_neg hc206, if_pos hc207, if_neg hc208, if_neg hc209])] at k
                rw [show sl211 = (.val (.int ((p4 &&& (2147483647 : Int32)) % (3 : Int32)))) from hsl211.trans (by simp only [if_neg hc205, if_neg hc206, if_pos hc207, if_neg hc208, if_neg hc209])] at k
                exact k
          · skip
            refine XS.icmpYes X204.here hx rfl (pc0 := 182) (pc' := 226) rfl (hb hby at_182) rfl (feq hc207).2 (by decide) (by decide) ?_
            refine XS.sipush X204.here hx rfl (hb hby at_226) ?_
            refine XS.iload X204.here hx rfl (hb hby at_229) rfl ?_
            refine XS.bipush X204.here hx rfl (hb hby at_231) ?_
            refine XS.iand X204.here hx rfl (hb hby at_233) rfl ?_
            refine XS.iadd X204.here hx rfl (hb hby at_234) rfl ?_
            refine XS.i2c X204.here hx rfl (hb hby at_235) rfl ?_
            refine XS.istore X204.here hx rfl (hb hby at_236) rfl (l' := (own_l36 p0 p1 p2 p3 p4 p5 ca cb cd b199 b202)) rfl ?_
            rw [show v210 = (((128 : Int32) + (p4 &&& (127 : Int32))).toUInt32.toUInt16.toUInt32.toInt32) from hv210.trans (by simp only [if_neg hc205, if_neg hc206, if_neg hc207])] at k
            rw [show sl211 = (.unset) from hsl211.trans (by simp only [if_neg hc205, if_neg hc206, if_neg hc207])] at k
            exact k
    refine own_pre (A := (T204.setTop (mkF m 284 (own_l38 p0 p1 p2 p3 p4 p5 ca cb cd b199 b202 v210) []))) ?_ ?_
    · intro t k
      refine XS.iload X204.here hx rfl (hb hby at_238) rfl ?_
      refine XS.iconst X204.here hx rfl (hb hby at_240) ?_
      refine XS.icmpYes X204.here hx rfl (pc0 := 241) (pc' := 251) rfl (hb hby at_241) rfl (tlt (by decide : (0 : Int32) < (1 : Int32))).1 (by decide) (by decide) ?_
      refine XS.iload X204.here hx rfl (hb hby at_251) rfl ?_
      refine XS.iconst X204.here hx rfl (hb hby at_253) ?_
      refine XS.icmpYes X204.here hx rfl (pc0 := 254) (pc' := 264) rfl (hb hby at_254) rfl (tlt (by decide : (0 : Int32) < (2 : Int32))).1 (by decide) (by decide) ?_
      refine XS.iload X204.here hx rfl (hb hby at_264) rfl ?_
      refine XS.iconst X204.here hx rfl (hb hby at_266) ?_
      refine XS.icmpYes X204.here hx rfl (pc0 := 267) (pc' := 281) rfl (hb hby at_267) rfl (tlt (by decide : (0 : Int32) < (3 : Int32))).1 (by decide) (by decide) ?_
      refine XS.iconst X204.here hx rfl (hb hby at_281) ?_
      refine XS.istore X204.here hx rfl (hb hby at_282) rfl (l' := (own_l38 p0 p1 p2 p3 p4 p5 ca cb cd b199 b202 v210)) (by rw [hsl211]; repeat' first | rfl | split) ?_
      exact k
    have hpc : ¬ v210 < (0 : Int32) := by
      rw [hv210]
      repeat' split
      all_goals first | with_reducible exact own_posc _ hp_ca | with_reducible exact own_posc _ hp_cb | with_reducible exact own_posc _ hp_cd | with_reducible exact own_pos _
    refine own_pre (A := (T204.setTop (mkF m 288 (own_l38 p0 p1 p2 p3 p4 p5 ca cb cd b199 b202 v210) [(.int v210), (.ref b202)]))) ?_ ?_
    · intro t k
      refine XS.aload X204.here hx rfl (hb hby at_284) rfl rfl ?_
      refine XS.iload X204.here hx rfl (hb hby at_286) rfl ?_
      exact k
    obtain ⟨cq212, kq212, q212a, q212b, q212c⟩ := isOf hZ203 rfl A202_204
    obtain ⟨_, _, ⟨T212, L212, k212, n212⟩, -, X212, ⟨Lc212, hQ212, l212, y212, z212⟩, st212⟩ := X204.virtualBack hx (y := (⟨"com/example/coho/coho/identifier/CharacterSet", "contains", "(C)Z"⟩ : MethodName)) (z := (⟨"com/example/coho/coho/identifier/CharacterSet", "contains", "(C)Z"⟩ : MethodName)) hown203 (mvT hZ203 (own_w hw 77 rfl)) (mvT hZ203 (own_w hw 78 rfl)) (notFace_of_selects (args := #[]) (mvT hZ203 (own_w hw 80 rfl))) (mvT hZ203 (own_w hw 80 rfl)) (mvT hZ203 (own_w hw 79 rfl)) (by decide) (backOf (W := 0) (rm15_0 l Z a0 hw [] b202 v210 am204 km204  T204.heap n0 Zs204 Fm204 Vm204 hpc) hZ203 (own_w hw 81 rfl) (own_w hw 32 rfl) (by decide) (by decide)) q212a q212c (g := (mkF m 288 (own_l38 p0 p1 p2 p3 p4 p5 ca cb cd b199 b202 v210) [(.int v210), (.ref b202)])) rfl (by rw [hml]; rfl) (Steps.refl _) (argsL := [(.int v210)]) (rest := []) (lenOf own_pd13 rfl) rfl (by show 2 * 0 + _ ≤ _; exact Nat.le_of_eq rfl) (hb hby at_288) (fun _ _ => ⟨rfl, rfl, (by decide : 8 + 0 ≤ _), (by decide : 146 + 0 ≤ _)⟩)
    dsimp only [Pt.U, Pt.locs, Pt.cells, Pt.slots] at X212 l212 y212 z212 st212 hQ212
    replace y212 : _ = 8 := y212
    replace z212 : _ = 146 := z212
    subst y212 z212
    obtain ⟨rfl, Nq212, eq212⟩ := hQ212
    have N212 := own_frl l212 N204 Nq212
    refine own_pre (fun t k => st212.trans k) ?_
    refine own_pre (A := (T212.setTop (mkF m 293 (own_l38 p0 p1 p2 p3 p4 p5 ca cb cd b199 b202 v210) [(.int (0 : Int32)), (.int (own_ctn0 v210 ))]))) ?_ ?_
    · intro t k
      refine XS.iload X212.here hx rfl (hb hby at_291) rfl ?_
      exact k
    obtain ⟨v214, hv214⟩ : ∃ z : Int32, z = (if (own_ctn0 v210 ) = (0 : Int32) then (1 : Int32) else (0 : Int32)) := ⟨_, rfl⟩
    refine own_pre (A := (T212.setTop (mkF m 301 (own_l38 p0 p1 p2 p3 p4 p5 ca cb cd b199 b202 v210) [(.int v214)]))) ?_ ?_
    · intro t k
      show Steps p.tables e below (T212.setTop (mkF m 293 (own_l38 p0 p1 p2 p3 p4 p5 ca cb cd b199 b202 v210) [(.int (0 : Int32)), (.int (own_ctn0 v210 ))])) _
      by_cases hc213 : (own_ctn0 v210 ) = (0 : Int32)
      · skip
        refine XS.icmpNo X212.here hx rfl (hb hby at_293) rfl (teq hc213).2 ?_
        refine XS.iconst X212.here hx rfl (hb hby at_296) ?_
        refine XS.goto X212.here hx rfl (pc0 := 297) (pc' := 301) rfl (hb hby at_297) (by decide) (by decide) ?_
        rw [show v214 = (1 : Int32) from hv214.trans (by simp only [if_pos hc213])] at k
        exact k
      · skip
        refine XS.icmpYes X212.here hx rfl (pc0 := 293) (pc' := 300) rfl (hb hby at_293) rfl (feq hc213).2 (by decide) (by decide) ?_
        refine XS.iconst X212.here hx rfl (hb hby at_300) ?_
        rw [show v214 = (0 : Int32) from hv214.trans (by simp only [if_neg hc213])] at k
        exact k
    have hz : v214 = (1 : Int32) := by rw [hv214, if_pos (own_fin0 v210   hpc)]
    rw [hz]
    obtain ⟨fs, hr, hrun, hended, hRE⟩ := X212.leaveW (hlocks := BodyLoose.notSynchronized Bd) hS203 (by rw [eq212]; exact hk204) (v := some (.int (1 : Int32))) (fun h => by rw [Bd.returns] at h; cases h)
    refine ⟨_, _, retOut X212 hx Bd.returns rfl (Or.inl ⟨rfl, Or.inr (Or.inl rfl), _, rfl⟩) (hb hby at_301) hr, hrun, hended, _, _, rfl, ?_, hRE.1, hRE.2.1, hRE.2.2.1, hRE.2.2.2.mono (by decide) (by decide)⟩
    show own_Q0 h0 n0 _ T212.heap _
    rw [eq212]
    exact ⟨rfl, N212⟩
  · skip
    refine own_pre (A := (s₁.setTop (mkF m 52 (own_l39 p0 p1 p2 p3 p4 p5 ca cb cd) []))) ?_ ?_
    · intro t k
      refine XS.iload X0.here hx rfl (hb hby at_26) rfl ?_
      refine XS.ifYes X0.here hx rfl (pc0 := 28) (pc' := 46) rfl (hb hby at_28) rfl ((if0 _ _).trans (feq (by decide : ¬ ((1 : Int32) = (0 : Int32)))).2) (by decide) (by decide) ?_
      refine XS.iload X0.here hx rfl (hb hby at_46) rfl ?_
      refine XS.iconst X0.here hx rfl (hb hby at_48) ?_
      refine XS.icmpNo X0.here hx rfl (hb hby at_49) rfl (teq (by decide : (1 : Int32) = (1 : Int32))).2 ?_
      exact k
    obtain ⟨T215, h215, X215, e215, E215, A215, D215, -, st215⟩ := newO X0 hx hZ hown (own_w hw 0 rfl) (own_w hw 1 rfl) (own_w hw 2 rfl) e0 (g := (mkF m 52 (own_l39 p0 p1 p2 p3 p4 p5 ca cb cd) [])) rfl (hb hby at_52) (by decide) (by decide)
    obtain ⟨b215, g215⟩ : ∃ z, z = h0.size := ⟨_, rfl⟩
    rw [← g215] at A215 D215 st215
    have gn_b215 : n0 ≤ b215 := Nat.le_trans Z0 (Nat.le_of_eq g215.symm)
    have X00_215 := X00.ext E215
    have hk215 := Nat.le_trans hk0 E215.1
    have Zs215 : n0 ≤ h215.size := Nat.le_trans Z0 E215.1
    have Kc215 : Keep h0 h215 [] := (Keep.refl h0 []).ext E215
    have F215_coder : Fld Z h215 b215 "java/lang/String" "coder" "B" (.int (0 : Int32)) := D215 (Or.inr (own_w hw 27 rfl)) (ty := .byte) (by decide)
    have F215_value : Fld Z h215 b215 "java/lang/String" "value" "[B" .null := D215 (Or.inr (own_w hw 29 rfl)) (ty := (.array .byte)) (by decide)
    refine own_pre (fun t k => st215 t k) ?_
    refine own_pre (A := (T215.setTop (mkF m 57 (own_l39 p0 p1 p2 p3 p4 p5 ca cb cd) [(.int (1 : Int32)), (.ref b215), (.ref b215)]))) ?_ ?_
    · intro t k
      refine XS.dup X215.here hx rfl (hb hby at_55) rfl rfl ?_
      refine XS.iconst X215.here hx rfl (hb hby at_56) ?_
      exact k
    obtain ⟨T216, h216, k216, X216, e216, E216, A216, st216⟩ := newP X215 hx hZ (own_w hw 3 rfl) e215 (g := (mkF m 57 (own_l39 p0 p1 p2 p3 p4 p5 ca cb cd) [(.int (1 : Int32)), (.ref b215), (.ref b215)])) rfl (hb hby at_57) rfl (by decide) (cap := 1) (by decide) (by decide) (by decide) (by decide)
    obtain ⟨b216, g216⟩ : ∃ z, z = h215.size := ⟨_, rfl⟩
    rw [← g216] at A216 st216
    have ne_b215_b216 : b215 ≠ b216 := Nat.ne_of_lt (Nat.lt_of_lt_of_le A215.lt (Nat.le_of_eq g216.symm))
    have gn_b216 : n0 ≤ b216 := Nat.le_trans Zs215 (Nat.le_of_eq g216.symm)
    have X00_216 := X00_215.ext E216
    have A215_216 := A215.ext E216
    have F215_coder_216 := F215_coder.ext E216
    have F215_value_216 := F215_value.ext E216
    have hk216 := Nat.le_trans hk215 E216.1
    have Zs216 : n0 ≤ h216.size := Nat.le_trans Zs215 E216.1
    have V216 : Arv Z h216 b216 k216 .char (1 : Int32) [(.int (0 : Int32))] (.int (0 : Int32)) := (Arv.new A216 (by decide)).pad (pad_rep [] (.int (0 : Int32)) 1)
    refine own_pre (fun t k => st216 t k) ?_
    refine own_pre (A := (T216.setTop (mkF m 63 (own_l39 p0 p1 p2 p3 p4 p5 ca cb cd) [(.int ca), (.int (0 : Int32)), (.ref b216), (.ref b216), (.ref b215), (.ref b215)]))) ?_ ?_
    · intro t k
      refine XS.dup X216.here hx rfl (hb hby at_59) rfl rfl ?_
      refine XS.iconst X216.here hx rfl (hb hby at_60) ?_
      refine XS.iload X216.here hx rfl (hb hby at_61) rfl ?_
      exact k
    obtain ⟨cl217, Ar217, q217, S217, N217, H217, G217⟩ := V216
    have hin217 : ¬ ((0 : Int32) < 0 ∨ cl217.slots.size ≤ ((0 : Int32)).toNatClampNeg) := inb_of S217 ⟨by decide, by decide⟩
    obtain ⟨T217, h217, X217, e217, W217, st217⟩ := stC X216 hx hZ e216 Ar217 (j := (0 : Int32)) hin217 (g := (mkF m 63 (own_l39 p0 p1 p2 p3 p4 p5 ca cb cd) [(.int ca), (.int (0 : Int32)), (.ref b216), (.ref b216), (.ref b215), (.ref b215)])) rfl rfl (hb hby at_63)
    have V217 : Arv Z h217 b216 k216 .char (1 : Int32) [(.int ca)] (.int (0 : Int32)) := by have q := Arv.set Ar217 q217 S217 N217 H217 G217 (fits_nar_char _) W217 0 rfl (Nat.le_of_ble_eq_true rfl); (first | rw [own_ch_nc ca hp_ca] at q | rw [own_ch_c ca hp_ca] at q); exact q
    have X00_217 := X00_216.wr W217 gn_b216
    have A215_217 := A215_216.wr W217
    have F215_coder_217 := F215_coder_216.other W217 (Or.inl ne_b215_b216)
    have F215_value_217 := F215_value_216.other W217 (Or.inl ne_b215_b216)
    have hk217 := Nat.le_trans hk216 (Keep.of_wr W217).1
    have Zs217 : n0 ≤ h217.size := Nat.le_trans Zs216 (Keep.of_wr W217).1
    have N217 := Fr.snoc X217 N0 gn_b216
    refine own_pre (fun t k => st217 t k) ?_
    obtain ⟨_, _, ⟨T218, L218, k218, n218⟩, -, X218, ⟨Lc218, hQ218, l218, y218, z218⟩, st218⟩ := X217.specialBack hx (y := (⟨"java/lang/String", "<init>", "([C)V"⟩ : MethodName)) rfl hown (mvT hZ (own_w hw 4 rfl)) (mvT hZ (own_w hw 5 rfl)) (mvT hZ (own_w hw 6 rfl)) (by decide) (backOf (W := 1) (rm1_1 l Z a0 hw [] b215 b216 k216 ca pG h217 n0 Zs217 A215_217 F215_value_217 F215_coder_217 gn_b215 V217 ne_b215_b216 hp_ca O2 hG X00_217) hZ (own_w hw 6 rfl) (own_w hw 2 rfl) (by decide) (by decide)) (g := (mkF m 64 (own_l39 p0 p1 p2 p3 p4 p5 ca cb cd) [(.ref b216), (.ref b215), (.ref b215)])) rfl (by rw [hml]; rfl) (Steps.refl _) (a := b215) (argsL := [(.ref b216)]) (rest := [(.ref b215)]) (lenOf own_pd11 rfl) rfl (by show 2 * 0 + _ ≤ _; exact Nat.le_of_eq rfl) (hb hby at_64) (fun _ _ => ⟨rfl, e217, (by decide : 2 + 1 ≤ _), (by decide : 5 + 1 ≤ _)⟩)
    dsimp only [Pt.U, Pt.locs, Pt.cells, Pt.slots] at X218 l218 y218 z218 st218 hQ218
    replace y218 : _ = 3 := y218
    replace z218 : _ = 6 := z218
    subst y218 z218
    obtain ⟨rfl, Nq218, Kq218, ad218, kq218, Fv218, Fc218, Vq218, nq218⟩ := hQ218
    have N218 := own_frl l218 N217 Nq218
    refine own_pre (fun t k => st218.trans k) ?_
    have X00_218 := X00_217.keep Kq218 (allS gn_b215 all0)
    have A215_218 := A215_217.keep Kq218
    have hk218 := Nat.le_trans hk217 Kq218.1
    have Zs218 : n0 ≤ T218.heap.size := Nat.le_trans Zs217 Kq218.1
    refine own_pre (A := (T218.setTop (mkF m 130 (own_l40 p0 p1 p2 p3 p4 p5 ca cb cd b215) []))) ?_ ?_
    · intro t k
      refine XS.astore X218.here hx rfl (hb hby at_67) rfl rfl (l' := (own_l40 p0 p1 p2 p3 p4 p5 ca cb cd b215)) rfl ?_
      refine XS.goto X218.here hx rfl (pc0 := 69) (pc' := 130) rfl (hb hby at_69) (by decide) (by decide) ?_
      exact k
    obtain ⟨T219, h219, X219, e219, E219, A219, D219, -, st219⟩ := newO X218 hx hZ hown (own_w hw 30 rfl) (own_w hw 31 rfl) (own_w hw 32 rfl) rfl (g := (mkF m 130 (own_l40 p0 p1 p2 p3 p4 p5 ca cb cd b215) [])) rfl (hb hby at_130) (by decide) (by decide)
    obtain ⟨b219, g219⟩ : ∃ z, z = T218.heap.size := ⟨_, rfl⟩
    rw [← g219] at A219 D219 st219
    have ne_ad218_b219 : ad218 ≠ b219 := Nat.ne_of_lt (Nat.lt_of_lt_of_le Vq218.lt (Nat.le_of_eq g219.symm))
    have ne_b215_b219 : b215 ≠ b219 := Nat.ne_of_lt (Nat.lt_of_lt_of_le A215_218.lt (Nat.le_of_eq g219.symm))
    have gn_b219 : n0 ≤ b219 := Nat.le_trans Zs218 (Nat.le_of_eq g219.symm)
    have X00_219 := X00_218.ext E219
    have A215_219 := A215_218.ext E219
    have Fv218_219 := Fv218.ext E219
    have Fc218_219 := Fc218.ext E219
    have Vq218_219 := Vq218.ext E219
    have hk219 := Nat.le_trans hk218 E219.1
    have Zs219 : n0 ≤ h219.size := Nat.le_trans Zs218 E219.1
    have F219_members : Fld Z h219 b219 "com/example/coho/coho/identifier/CharacterSet" "members" "[Z" .null := D219 (Or.inr (own_w hw 42 rfl)) (ty := (.array .boolean)) (by decide)
    have F219_description : Fld Z h219 b219 "com/example/coho/coho/identifier/CharacterSet" "description" "Ljava/lang/String;" .null := D219 (Or.inr (own_w hw 76 rfl)) (ty := (.object "java/lang/String")) (by decide)
    refine own_pre (fun t k => st219 t k) ?_
    refine own_pre (A := (T219.setTop (mkF m 136 (own_l40 p0 p1 p2 p3 p4 p5 ca cb cd b215) [(.ref b215), (.ref b219), (.ref b219)]))) ?_ ?_
    · intro t k
      refine XS.dup X219.here hx rfl (hb hby at_133) rfl rfl ?_
      refine XS.aload X219.here hx rfl (hb hby at_134) rfl rfl ?_
      exact k
    obtain ⟨a220, T220, h220, k220, X220, e220, E220, hS220, hk220, hZ220, hown220, st220⟩ := ldcS (s := s) (vm0 := s.vm) X219 hx hZ hown (own_w hw 33 rfl) own_wS' e219 hS0 hk219 (g := (mkF m 136 (own_l40 p0 p1 p2 p3 p4 p5 ca cb cd b215) [(.ref b215), (.ref b219), (.ref b219)])) rfl (hb hby at_136) (n := 4) (by decide) (by decide) (by decide) (by decide)
    have X00_220 := X00_219.ext E220
    have A215_220 := A215_219.ext E220
    have Fv218_220 := Fv218_219.ext E220
    have Fc218_220 := Fc218_219.ext E220
    have Vq218_220 := Vq218_219.ext E220
    have A219_220 := A219.ext E220
    have F219_members_220 := F219_members.ext E220
    have F219_description_220 := F219_description.ext E220
    have Zs220 : n0 ≤ h220.size := Nat.le_trans Zs219 E220.1
    refine own_pre (fun t k => st220 t k) ?_
    obtain ⟨_, _, ⟨T221, L221, k221, n221⟩, -, X221, ⟨Lc221, hQ221, l221, y221, z221⟩, st221⟩ := X220.specialBack hx (y := (⟨"com/example/coho/coho/identifier/CharacterSet", "<init>", "(Ljava/lang/String;Ljava/lang/String;)V"⟩ : MethodName)) rfl hown220 (mvT hZ220 (own_w hw 36 rfl)) (mvT hZ220 (own_w hw 37 rfl)) (mvT hZ220 (own_w hw 38 rfl)) (by decide) (backOf (W := 1) (rm7_1 l Z a0 hw [] b219 b215 a220 ad218 kq218 ca pG vF h220 n0 Zs220 A219_220 F219_members_220 F219_description_220 gn_b219 A215_220 Fv218_220 Fc218_220 Vq218_220 ne_b215_b219.symm ne_ad218_b219.symm hp_ca O2 hG X00_220 O4 rF) hZ220 (own_w hw 38 rfl) (own_w hw 32 rfl) (by decide) (by decide)) (g := (mkF m 138 (own_l40 p0 p1 p2 p3 p4 p5 ca cb cd b215) [(.ref a220), (.ref b215), (.ref b219), (.ref b219)])) rfl (by rw [hml]; rfl) (Steps.refl _) (a := b219) (argsL := [(.ref b215), (.ref a220)]) (rest := [(.ref b219)]) (lenOf own_pd12 rfl) rfl (by show 2 * 0 + _ ≤ _; exact Nat.le_of_eq rfl) (hb hby at_138) (fun _ _ => ⟨rfl, e220, (by decide : 6 + 1 ≤ _), (by decide : 16 + 128 ≤ _)⟩)
    dsimp only [Pt.U, Pt.locs, Pt.cells, Pt.slots] at X221 l221 y221 z221 st221 hQ221
    replace y221 : _ = 7 := y221
    replace z221 : _ = 144 := z221
    subst y221 z221
    obtain ⟨rfl, Nq221, Kq221, am221, km221, Fm221, Vm221⟩ := hQ221
    have N221 := own_frl l221 N218 Nq221
    refine own_pre (fun t k => st221.trans k) ?_
    have A219_221 := A219_220.keep Kq221
    have hk221 := Nat.le_trans hk220 Kq221.1
    have Zs221 : n0 ≤ T221.heap.size := Nat.le_trans Zs220 Kq221.1
    refine own_pre (A := (T221.setTop (mkF m 151 (own_l42 p0 p1 p2 p3 p4 p5 ca cb cd b215 b219) [(.int (p5 &&& (3 : Int32)))]))) ?_ ?_
    · intro t k
      refine XS.astore X221.here hx rfl (hb hby at_141) rfl rfl (l' := (own_l41 p0 p1 p2 p3 p4 p5 ca cb cd b215 b219)) rfl ?_
      refine XS.iload X221.here hx rfl (hb hby at_143) rfl ?_
      refine XS.iconst X221.here hx rfl (hb hby at_145) ?_
      refine XS.iand X221.here hx rfl (hb hby at_146) rfl ?_
      refine XS.istore X221.here hx rfl (hb hby at_147) rfl (l' := (own_l42 p0 p1 p2 p3 p4 p5 ca cb cd b215 b219)) rfl ?_
      refine XS.iload X221.here hx rfl (hb hby at_149) rfl ?_
      exact k
    obtain ⟨v227, hv227⟩ : ∃ z : Int32, z = (if (p5 &&& (3 : Int32)) = (0 : Int32) then (p4.toUInt32.toUInt16.toUInt32.toInt32) else (if (p5 &&& (3 : Int32)) = (1 : Int32) then ((p4 &&& (127 : Int32)).toUInt32.toUInt16.toUInt32.toInt32) else (if (p5 &&& (3 : Int32)) = (2 : Int32) then (if ((p4 &&& (2147483647 : Int32)) % (3 : Int32)) = (0 : Int32) then ca else (if ((p4 &&& (2147483647 : Int32)) % (3 : Int32)) = (1 : Int32) then cb else cd)) else (((128 : Int32) + (p4 &&& (127 : Int32))).toUInt32.toUInt16.toUInt32.toInt32)))) := ⟨_, rfl⟩
    obtain ⟨sl228, hsl228⟩ : ∃ z : Slot, z = (if (p5 &&& (3 : Int32)) = (0 : Int32) then (.unset) else (if (p5 &&& (3 : Int32)) = (1 : Int32) then (.unset) else (if (p5 &&& (3 : Int32)) = (2 : Int32) then (.val (.int ((p4 &&& (2147483647 : Int32)) % (3 : Int32)))) else (.unset)))) := ⟨_, rfl⟩
    refine own_pre (A := (T221.setTop (mkF m 238 (own_l50 p0 p1 p2 p3 p4 p5 ca cb cd b215 b219 v227 sl228) []))) ?_ ?_
    · intro t k
      show Steps p.tables e below (T221.setTop (mkF m 151 (own_l42 p0 p1 p2 p3 p4 p5 ca cb cd b215 b219) [(.int (p5 &&& (3 : Int32)))])) _
      by_cases hc222 : (p5 &&& (3 : Int32)) = (0 : Int32)
      · skip
        refine XS.ifNo X221.here hx rfl (hb hby at_151) rfl ((if0 _ _).trans (teq hc222).2) ?_
        refine XS.iload X221.here hx rfl (hb hby at_154) rfl ?_
        refine XS.i2c X221.here hx rfl (hb hby at_156) rfl ?_
        refine XS.istore X221.here hx rfl (hb hby at_157) rfl (l' := (own_l43 p0 p1 p2 p3 p4 p5 ca cb cd b215 b219)) rfl ?_
        refine XS.goto X221.here hx rfl (pc0 := 159) (pc' := 238) rfl (hb hby at_159) (by decide) (by decide) ?_
        rw [show v227 = (p4.toUInt32.toUInt16.toUInt32.toInt32) from hv227.trans (by simp only [if_pos hc222])] at k
        rw [show sl228 = (.unset) from hsl228.trans (by simp only [if_pos hc222])] at k
        exact k
      · skip
        refine XS.ifYes X221.here hx rfl (pc0 := 151) (pc' := 162) rfl (hb hby at_151) rfl ((if0 _ _).trans (feq hc222).2) (by decide) (by decide) ?_
        refine XS.iload X221.here hx rfl (hb hby at_162) rfl ?_
        refine XS.iconst X221.here hx rfl (hb hby at_164) ?_
        show Steps p.tables e below (T221.setTop (mkF m 165 (own_l42 p0 p1 p2 p3 p4 p5 ca cb cd b215 b219) [(.int (1 : Int32)), (.int (p5 &&& (3 : Int32)))])) _
        by_cases hc223 : (p5 &&& (3 : Int32)) = (1 : Int32)
        · skip
          refine XS.icmpNo X221.here hx rfl (hb hby at_165) rfl (teq hc223).2 ?_
          refine XS.iload X221.here hx rfl (hb hby at_168) rfl ?_
          refine XS.bipush X221.here hx rfl (hb hby at_170) ?_
          refine XS.iand X221.here hx rfl (hb hby at_172) rfl ?_
          refine XS.i2c X221.here hx rfl (hb hby at_173) rfl ?_
          refine XS.istore X221.here hx rfl (hb hby at_174) rfl (l' := (own_l44 p0 p1 p2 p3 p4 p5 ca cb cd b215 b219)) rfl ?_
          refine XS.goto X221.here hx rfl (pc0 := 176) (pc' := 238) rfl (hb hby at_176) (by decide) (by decide) ?_
          rw [show v227 = ((p4 &&& (127 : Int32)).toUInt32.toUInt16.toUInt32.toInt32) from hv227.trans (by simp only [if_neg hc222, if_pos hc223])] at k
          rw [show sl228 = (.unset) from hsl228.trans (by simp only [if_neg hc222, if_pos hc223])] at k
          exact k
        · skip
          refine XS.icmpYes X221.here hx rfl (pc0 := 165) (pc' := 179) rfl (hb hby at_165) rfl (feq hc223).2 (by decide) (by decide) ?_
          refine XS.iload X221.here hx rfl (hb hby at_179) rfl ?_
          refine XS.iconst X221.here hx rfl (hb hby at_181) ?_
          show Steps p.tables e below (T221.setTop (mkF m 182 (own_l42 p0 p1 p2 p3 p4 p5 ca cb cd b215 b219) [(.int (2 : Int32)), (.int (p5 &&& (3 : Int32)))])) _
          by_cases hc224 : (p5 &&& (3 : Int32)) = (2 : Int32)
          · skip
            refine XS.icmpNo X221.here hx rfl (hb hby at_182) rfl (teq hc224).2 ?_
            refine XS.iload X221.here hx rfl (hb hby at_185) rfl ?_
            show Steps p.tables e below (T221.setTop (mkF m 187 (own_l42 p0 p1 p2 p3 p4 p5 ca cb cd b215 b219) [(.int p4)])) _
            refine X221.ldcInt hx hown220 (mvT hZ220 (own_w hw 82 rfl)) (g := (mkF m 187 (own_l42 p0 p1 p2 p3 p4 p5 ca cb cd b215 b219) [(.int p4)])) rfl (hb hby at_187) _ ?_
            refine XS.iand X221.here hx rfl (hb hby at_189) rfl ?_
            refine XS.iconst X221.here hx rfl (hb hby at_190) ?_
            show Steps p.tables e below (T221.setTop (mkF m 191 (own_l42 p0 p1 p2 p3 p4 p5 ca cb cd b215 b219) [(.int (3 : Int32)), (.int (p4 &&& (2147483647 : Int32)))])) _
            refine iremM X221 hx rfl (hb hby at_191) rfl (by decide) ?_
            show Steps p.tables e below (T221.setTop (mkF m 192 (own_l42 p0 p1 p2 p3 p4 p5 ca cb cd b215 b219) [(.int ((p4 &&& (2147483647 : Int32)) % (3 : Int32)))])) _
            refine XS.istore X221.here hx rfl (hb hby at_192) rfl (l' := (own_l45 p0 p1 p2 p3 p4 p5 ca cb cd b215 b219)) rfl ?_
            refine XS.iload X221.here hx rfl (hb hby at_194) rfl ?_
            show Steps p.tables e below (T221.setTop (mkF m 196 (own_l45 p0 p1 p2 p3 p4 p5 ca cb cd b215 b219) [(.int ((p4 &&& (2147483647 : Int32)) % (3 : Int32)))])) _
            by_cases hc225 : ((p4 &&& (2147483647 : Int32)) % (3 : Int32)) = (0 : Int32)
            · skip
              refine XS.ifNo X221.here hx rfl (hb hby at_196) rfl ((if0 _ _).trans (teq hc225).2) ?_
              refine XS.iload X221.here hx rfl (hb hby at_199) rfl ?_
              refine XS.istore X221.here hx rfl (hb hby at_201) rfl (l' := (own_l46 p0 p1 p2 p3 p4 p5 ca cb cd b215 b219)) rfl ?_
              refine XS.goto X221.here hx rfl (pc0 := 203) (pc' := 223) rfl (hb hby at_203) (by decide) (by decide) ?_
              refine XS.goto X221.here hx rfl (pc0 := 223) (pc' := 238) rfl (hb hby at_223) (by decide) (by decide) ?_
              rw [show v227 = ca from hv227.trans (by simp only [if_neg hc222, if_neg hc223, if_pos hc224, if_pos hc225])] at k
              rw [show sl228 = (.val (.int ((p4 &&& (2147483647 : Int32)) % (3 : Int32)))) from hsl228.trans (by simp only [if_neg hc222, if_neg hc223, if_pos hc224, if_pos hc225])] at k
              exact k
            · skip
              refine XS.ifYes X221.here hx rfl (pc0 := 196) (pc' := 206) rfl (hb hby at_196) rfl ((if0 _ _).trans (feq hc225).2) (by decide) (by decide) ?_
              refine XS.iload X221.here hx rfl (hb hby at_206) rfl ?_
              refine XS.iconst X221.here hx rfl (hb hby at_208) ?_
              show Steps p.tables e below (T221.setTop (mkF m 209 (own_l45 p0 p1 p2 p3 p4 p5 ca cb cd b215 b219) [(.int (1 : Int32)), (.int ((p4 &&& (2147483647 : Int32)) % (3 : Int32)))])) _
              by_cases hc226 : ((p4 &&& (2147483647 : Int32)) % (3 : Int32)) = (1 : Int32)
              · skip
                refine XS.icmpNo X221.here hx rfl (hb hby at_209) rfl (teq hc226).2 ?_
                refine XS.iload X221.here hx rfl (hb hby at_212) rfl ?_
                refine XS.istore X221.here hx rfl (hb hby at_214) rfl (l' := (own_l47 p0 p1 p2 p3 p4 p5 ca cb cd b215 b219)) rfl ?_
                refine XS.goto X221.here hx rfl (pc0 := 216) (pc' := 223) rfl (hb hby at_216) (by decide) (by decide) ?_
                refine XS.goto X221.here hx rfl (pc0 := 223) (pc' := 238) rfl (hb hby at_223) (by decide) (by decide) ?_
                rw [show v227 = cb from hv227.trans (by simp only [if_neg hc222, if_neg hc223, if_pos hc224, if_neg hc225, if_pos hc226])] at k
                rw [show sl228 = (.val (.int ((p4 &&& (2147483647 : Int32)) % (3 : Int32)))) from hsl228.trans (by simp only [if_neg hc222, if_neg hc223, if_pos hc224, if_neg hc225, if_pos hc226])] at k
                exact k
              · skip
                refine XS.icmpYes X221.here hx rfl (pc0 := 209) (pc' := 219) rfl (hb hby at_209) rfl (feq hc226).2 (by decide) (by decide) ?_
                refine XS.iload X221.here hx rfl (hb hby at_219) rfl ?_
                refine XS.istore X221.here hx rfl (hb hby at_221) rfl (l' := (own_l48 p0 p1 p2 p3 p4 p5 ca cb cd b215 b219)) rfl ?_
                refine XS.goto X221.here hx rfl (pc0 := 223) (pc' := 238) rfl (hb hby at_223) (by decide) (by decide) ?_
                rw [show v227 = cd from hv227.trans (by simp only [if_neg hc222, if_neg hc223, if_pos hc224, if_neg hc225, if_neg hc226])] at k
                rw [show sl228 = (.val (.int ((p4 &&& (2147483647 : Int32)) % (3 : Int32)))) from hsl228.trans (by simp only [if_neg hc222, if_neg hc223, if_pos hc224, if_neg hc225, if_neg hc226])] at k
                exact k
          · skip
            refine XS.icmpYes X221.here hx rfl (pc0 := 182) (pc' := 226) rfl (hb hby at_182) rfl (feq hc224).2 (by decide) (by decide) ?_
            refine XS.sipush X221.here hx rfl (hb hby at_226) ?_
            refine XS.iload X221.here hx rfl (hb hby at_229) rfl ?_
            refine XS.bipush X221.here hx rfl (hb hby at_231) ?_
            refine XS.iand X221.here hx rfl (hb hby at_233) rfl ?_
            refine XS.iadd X221.here hx rfl (hb hby at_234) rfl ?_
            refine XS.i2c X221.here hx rfl (hb hby at_235) rfl ?_
            refine XS.istore X221.here hx rfl (hb hby at_236) rfl (l' := (own_l49 p0 p1 p2 p3 p4 p5 ca cb cd b215 b219)) rfl ?_
            rw [show v227 = (((128 : Int32) + (p4 &&& (127 : Int32))).toUInt32.toUInt16.toUInt32.toInt32) from hv227.trans (by simp only [if_neg hc222, if_neg hc223, if_neg hc224])] at k
            rw [show sl228 = (.unset) from hsl228.trans (by simp only [if_neg hc222, if_neg hc223, if_neg hc224])] at k
            exact k
    refine own_pre (A := (T221.setTop (mkF m 248 (own_l50 p0 p1 p2 p3 p4 p5 ca cb cd b215 b219 v227 sl228) [(.int ca), (.int v227)]))) ?_ ?_
    · intro t k
      refine XS.iload X221.here hx rfl (hb hby at_238) rfl ?_
      refine XS.iconst X221.here hx rfl (hb hby at_240) ?_
      refine XS.icmpNo X221.here hx rfl (hb hby at_241) rfl (flt (by decide : ¬ ((1 : Int32) < (1 : Int32)))).1 ?_
      refine XS.iload X221.here hx rfl (hb hby at_244) rfl ?_
      refine XS.iload X221.here hx rfl (hb hby at_246) rfl ?_
      exact k
    obtain ⟨v230, hv230⟩ : ∃ z : Int32, z = (if v227 = ca then (1 : Int32) else (0 : Int32)) := ⟨_, rfl⟩
    refine own_pre (A := (T221.setTop (mkF m 282 (own_l50 p0 p1 p2 p3 p4 p5 ca cb cd b215 b219 v227 sl228) [(.int v230)]))) ?_ ?_
    · intro t k
      show Steps p.tables e below (T221.setTop (mkF m 248 (own_l50 p0 p1 p2 p3 p4 p5 ca cb cd b215 b219 v227 sl228) [(.int ca), (.int v227)])) _
      by_cases hc229 : v227 = ca
      · skip
        refine XS.icmpYes X221.here hx rfl (pc0 := 248) (pc' := 277) rfl (hb hby at_248) rfl (teq hc229).1 (by decide) (by decide) ?_
        refine XS.iconst X221.here hx rfl (hb hby at_277) ?_
        refine XS.goto X221.here hx rfl (pc0 := 278) (pc' := 282) rfl (hb hby at_278) (by decide) (by decide) ?_
        rw [show v230 = (1 : Int32) from hv230.trans (by simp only [if_pos hc229])] at k
        exact k
      · skip
        refine XS.icmpNo X221.here hx rfl (hb hby at_248) rfl (feq hc229).1 ?_
        refine XS.iload X221.here hx rfl (hb hby at_251) rfl ?_
        refine XS.iconst X221.here hx rfl (hb hby at_253) ?_
        refine XS.icmpYes X221.here hx rfl (pc0 := 254) (pc' := 264) rfl (hb hby at_254) rfl (tlt (by decide : (1 : Int32) < (2 : Int32))).1 (by decide) (by decide) ?_
        refine XS.iload X221.here hx rfl (hb hby at_264) rfl ?_
        refine XS.iconst X221.here hx rfl (hb hby at_266) ?_
        refine XS.icmpYes X221.here hx rfl (pc0 := 267) (pc' := 281) rfl (hb hby at_267) rfl (tlt (by decide : (1 : Int32) < (3 : Int32))).1 (by decide) (by decide) ?_
        refine XS.iconst X221.here hx rfl (hb hby at_281) ?_
        rw [show v230 = (0 : Int32) from hv230.trans (by simp only [if_neg hc229])] at k
        exact k
    refine own_pre (A := (T221.setTop (mkF m 284 (own_l51 p0 p1 p2 p3 p4 p5 ca cb cd b215 b219 v227 v230) []))) ?_ ?_
    · intro t k
      refine XS.istore X221.here hx rfl (hb hby at_282) rfl (l' := (own_l51 p0 p1 p2 p3 p4 p5 ca cb cd b215 b219 v227 v230)) (by rw [hsl228]; repeat' first | rfl | split) ?_
      exact k
    have hpc : ¬ v227 < (0 : Int32) := by
      rw [hv227]
      repeat' split
      all_goals first | with_reducible exact own_posc _ hp_ca | with_reducible exact own_posc _ hp_cb | with_reducible exact own_posc _ hp_cd | with_reducible exact own_pos _
    refine own_pre (A := (T221.setTop (mkF m 288 (own_l51 p0 p1 p2 p3 p4 p5 ca cb cd b215 b219 v227 v230) [(.int v227), (.ref b219)]))) ?_ ?_
    · intro t k
      refine XS.aload X221.here hx rfl (hb hby at_284) rfl rfl ?_
      refine XS.iload X221.here hx rfl (hb hby at_286) rfl ?_
      exact k
    obtain ⟨cq231, kq231, q231a, q231b, q231c⟩ := isOf hZ220 rfl A219_221
    obtain ⟨_, _, ⟨T231, L231, k231, n231⟩, -, X231, ⟨Lc231, hQ231, l231, y231, z231⟩, st231⟩ := X221.virtualBack hx (y := (⟨"com/example/coho/coho/identifier/CharacterSet", "contains", "(C)Z"⟩ : MethodName)) (z := (⟨"com/example/coho/coho/identifier/CharacterSet", "contains", "(C)Z"⟩ : MethodName)) hown220 (mvT hZ220 (own_w hw 77 rfl)) (mvT hZ220 (own_w hw 78 rfl)) (notFace_of_selects (args := #[]) (mvT hZ220 (own_w hw 80 rfl))) (mvT hZ220 (own_w hw 80 rfl)) (mvT hZ220 (own_w hw 79 rfl)) (by decide) (backOf (W := 0) (rm15_1 l Z a0 hw [] b219 v227 am221 km221 ca T221.heap n0 Zs221 Fm221 Vm221 hpc) hZ220 (own_w hw 81 rfl) (own_w hw 32 rfl) (by decide) (by decide)) q231a q231c (g := (mkF m 288 (own_l51 p0 p1 p2 p3 p4 p5 ca cb cd b215 b219 v227 v230) [(.int v227), (.ref b219)])) rfl (by rw [hml]; rfl) (Steps.refl _) (argsL := [(.int v227)]) (rest := []) (lenOf own_pd13 rfl) rfl (by show 2 * 0 + _ ≤ _; exact Nat.le_of_eq rfl) (hb hby at_288) (fun _ _ => ⟨rfl, rfl, (by decide : 7 + 0 ≤ _), (by decide : 144 + 0 ≤ _)⟩)
    dsimp only [Pt.U, Pt.locs, Pt.cells, Pt.slots] at X231 l231 y231 z231 st231 hQ231
    replace y231 : _ = 7 := y231
    replace z231 : _ = 144 := z231
    subst y231 z231
    obtain ⟨rfl, Nq231, eq231⟩ := hQ231
    have N231 := own_frl l231 N221 Nq231
    refine own_pre (fun t k => st231.trans k) ?_
    refine own_pre (A := (T231.setTop (mkF m 293 (own_l51 p0 p1 p2 p3 p4 p5 ca cb cd b215 b219 v227 v230) [(.int v230), (.int (own_ctn1 v227 ca))]))) ?_ ?_
    · intro t k
      refine XS.iload X231.here hx rfl (hb hby at_291) rfl ?_
      exact k
    obtain ⟨v233, hv233⟩ : ∃ z : Int32, z = (if (own_ctn1 v227 ca) = v230 then (1 : Int32) else (0 : Int32)) := ⟨_, rfl⟩
    refine own_pre (A := (T231.setTop (mkF m 301 (own_l51 p0 p1 p2 p3 p4 p5 ca cb cd b215 b219 v227 v230) [(.int v233)]))) ?_ ?_
    · intro t k
      show Steps p.tables e below (T231.setTop (mkF m 293 (own_l51 p0 p1 p2 p3 p4 p5 ca cb cd b215 b219 v227 v230) [(.int v230), (.int (own_ctn1 v227 ca))])) _
      by_cases hc232 : (own_ctn1 v227 ca) = v230
      · skip
        refine XS.icmpNo X231.here hx rfl (hb hby at_293) rfl (teq hc232).2 ?_
        refine XS.iconst X231.here hx rfl (hb hby at_296) ?_
        refine XS.goto X231.here hx rfl (pc0 := 297) (pc' := 301) rfl (hb hby at_297) (by decide) (by decide) ?_
        rw [show v233 = (1 : Int32) from hv233.trans (by simp only [if_pos hc232])] at k
        exact k
      · skip
        refine XS.icmpYes X231.here hx rfl (pc0 := 293) (pc' := 300) rfl (hb hby at_293) rfl (feq hc232).2 (by decide) (by decide) ?_
        refine XS.iconst X231.here hx rfl (hb hby at_300) ?_
        rw [show v233 = (0 : Int32) from hv233.trans (by simp only [if_neg hc232])] at k
        exact k
    have hz : v233 = (1 : Int32) := by rw [hv233, if_pos ((own_fin1 v227 ca hp_ca hpc).trans hv230.symm)]
    rw [hz]
    obtain ⟨fs, hr, hrun, hended, hRE⟩ := X231.leaveW (hlocks := BodyLoose.notSynchronized Bd) hS220 (by rw [eq231]; exact hk221) (v := some (.int (1 : Int32))) (fun h => by rw [Bd.returns] at h; cases h)
    refine ⟨_, _, retOut X231 hx Bd.returns rfl (Or.inl ⟨rfl, Or.inr (Or.inl rfl), _, rfl⟩) (hb hby at_301) hr, hrun, hended, _, _, rfl, ?_, hRE.1, hRE.2.1, hRE.2.2.1, hRE.2.2.2.mono (by decide) (by decide)⟩
    show own_Q0 h0 n0 _ T231.heap _
    rw [eq231]
    exact ⟨rfl, N231⟩
  · skip
    refine own_pre (A := (s₁.setTop (mkF m 78 (own_l52 p0 p1 p2 p3 p4 p5 ca cb cd) []))) ?_ ?_
    · intro t k
      refine XS.iload X0.here hx rfl (hb hby at_26) rfl ?_
      refine XS.ifYes X0.here hx rfl (pc0 := 28) (pc' := 46) rfl (hb hby at_28) rfl ((if0 _ _).trans (feq (by decide : ¬ ((2 : Int32) = (0 : Int32)))).2) (by decide) (by decide) ?_
      refine XS.iload X0.here hx rfl (hb hby at_46) rfl ?_
      refine XS.iconst X0.here hx rfl (hb hby at_48) ?_
      refine XS.icmpYes X0.here hx rfl (pc0 := 49) (pc' := 72) rfl (hb hby at_49) rfl (feq (by decide : ¬ ((2 : Int32) = (1 : Int32)))).2 (by decide) (by decide) ?_
      refine XS.iload X0.here hx rfl (hb hby at_72) rfl ?_
      refine XS.iconst X0.here hx rfl (hb hby at_74) ?_
      refine XS.icmpNo X0.here hx rfl (hb hby at_75) rfl (teq (by decide : (2 : Int32) = (2 : Int32))).2 ?_
      exact k
    obtain ⟨T234, h234, X234, e234, E234, A234, D234, -, st234⟩ := newO X0 hx hZ hown (own_w hw 0 rfl) (own_w hw 1 rfl) (own_w hw 2 rfl) e0 (g := (mkF m 78 (own_l52 p0 p1 p2 p3 p4 p5 ca cb cd) [])) rfl (hb hby at_78) (by decide) (by decide)
    obtain ⟨b234, g234⟩ : ∃ z, z = h0.size := ⟨_, rfl⟩
    rw [← g234] at A234 D234 st234
    have gn_b234 : n0 ≤ b234 := Nat.le_trans Z0 (Nat.le_of_eq g234.symm)
    have X00_234 := X00.ext E234
    have hk234 := Nat.le_trans hk0 E234.1
    have Zs234 : n0 ≤ h234.size := Nat.le_trans Z0 E234.1
    have Kc234 : Keep h0 h234 [] := (Keep.refl h0 []).ext E234
    have F234_coder : Fld Z h234 b234 "java/lang/String" "coder" "B" (.int (0 : Int32)) := D234 (Or.inr (own_w hw 27 rfl)) (ty := .byte) (by decide)
    have F234_value : Fld Z h234 b234 "java/lang/String" "value" "[B" .null := D234 (Or.inr (own_w hw 29 rfl)) (ty := (.array .byte)) (by decide)
    refine own_pre (fun t k => st234 t k) ?_
    refine own_pre (A := (T234.setTop (mkF m 83 (own_l52 p0 p1 p2 p3 p4 p5 ca cb cd) [(.int (2 : Int32)), (.ref b234), (.ref b234)]))) ?_ ?_
    · intro t k
      refine XS.dup X234.here hx rfl (hb hby at_81) rfl rfl ?_
      refine XS.iconst X234.here hx rfl (hb hby at_82) ?_
      exact k
    obtain ⟨T235, h235, k235, X235, e235, E235, A235, st235⟩ := newP X234 hx hZ (own_w hw 3 rfl) e234 (g := (mkF m 83 (own_l52 p0 p1 p2 p3 p4 p5 ca cb cd) [(.int (2 : Int32)), (.ref b234), (.ref b234)])) rfl (hb hby at_83) rfl (by decide) (cap := 2) (by decide) (by decide) (by decide) (by decide)
    obtain ⟨b235, g235⟩ : ∃ z, z = h234.size := ⟨_, rfl⟩
    rw [← g235] at A235 st235
    have ne_b234_b235 : b234 ≠ b235 := Nat.ne_of_lt (Nat.lt_of_lt_of_le A234.lt (Nat.le_of_eq g235.symm))
    have gn_b235 : n0 ≤ b235 := Nat.le_trans Zs234 (Nat.le_of_eq g235.symm)
    have X00_235 := X00_234.ext E235
    have A234_235 := A234.ext E235
    have F234_coder_235 := F234_coder.ext E235
    have F234_value_235 := F234_value.ext E235
    have hk235 := Nat.le_trans hk234 E235.1
    have Zs235 : n0 ≤ h235.size := Nat.le_trans Zs234 E235.1
    have V235 : Arv Z h235 b235 k235 .char (2 : Int32) [(.int (0 : Int32)), (.int (0 : Int32))] (.int (0 : Int32)) := (Arv.new A235 (by decide)).pad (pad_rep [] (.int (0 : Int32)) 2)
    refine own_pre (fun t k => st235 t k) ?_
    refine own_pre (A := (T235.setTop (mkF m 89 (own_l52 p0 p1 p2 p3 p4 p5 ca cb cd) [(.int ca), (.int (0 : Int32)), (.ref b235), (.ref b235), (.ref b234), (.ref b234)]))) ?_ ?_
    · intro t k
      refine XS.dup X235.here hx rfl (hb hby at_85) rfl rfl ?_
      refine XS.iconst X235.here hx rfl (hb hby at_86) ?_
      refine XS.iload X235.here hx rfl (hb hby at_87) rfl ?_
      exact k
    obtain ⟨cl236, Ar236, q236, S236, N236, H236, G236⟩ := V235
    have hin236 : ¬ ((0 : Int32) < 0 ∨ cl236.slots.size ≤ ((0 : Int32)).toNatClampNeg) := inb_of S236 ⟨by decide, by decide⟩
    obtain ⟨T236, h236, X236, e236, W236, st236⟩ := stC X235 hx hZ e235 Ar236 (j := (0 : Int32)) hin236 (g := (mkF m 89 (own_l52 p0 p1 p2 p3 p4 p5 ca cb cd) [(.int ca), (.int (0 : Int32)), (.ref b235), (.ref b235), (.ref b234), (.ref b234)])) rfl rfl (hb hby at_89)
    have V236 : Arv Z h236 b235 k235 .char (2 : Int32) [(.int ca), (.int (0 : Int32))] (.int (0 : Int32)) := by have q := Arv.set Ar236 q236 S236 N236 H236 G236 (fits_nar_char _) W236 0 rfl (Nat.le_of_ble_eq_true rfl); (first | rw [own_ch_nc ca hp_ca] at q | rw [own_ch_c ca hp_ca] at q); exact q
    have X00_236 := X00_235.wr W236 gn_b235
    have A234_236 := A234_235.wr W236
    have F234_coder_236 := F234_coder_235.other W236 (Or.inl ne_b234_b235)
    have F234_value_236 := F234_value_235.other W236 (Or.inl ne_b234_b235)
    have hk236 := Nat.le_trans hk235 (Keep.of_wr W236).1
    have Zs236 : n0 ≤ h236.size := Nat.le_trans Zs235 (Keep.of_wr W236).1
    have N236 := Fr.snoc X236 N0 gn_b235
    refine own_pre (fun t k => st236 t k) ?_
    refine own_pre (A := (T236.setTop (mkF m 94 (own_l52 p0 p1 p2 p3 p4 p5 ca cb cd) [(.int cb), (.int (1 : Int32)), (.ref b235), (.ref b235), (.ref b234), (.ref b234)]))) ?_ ?_
    · intro t k
      refine XS.dup X236.here hx rfl (hb hby at_90) rfl rfl ?_
      refine XS.iconst X236.here hx rfl (hb hby at_91) ?_
      refine XS.iload X236.here hx rfl (hb hby at_92) rfl ?_
      exact k
    obtain ⟨cl237, Ar237, q237, S237, N237, H237, G237⟩ := V236
    have hin237 : ¬ ((1 : Int32) < 0 ∨ cl237.slots.size ≤ ((1 : Int32)).toNatClampNeg) := inb_of S237 ⟨by decide, by decide⟩
    obtain ⟨T237, h237, X237, e237, W237, st237⟩ := stC X236 hx hZ e236 Ar237 (j := (1 : Int32)) hin237 (g := (mkF m 94 (own_l52 p0 p1 p2 p3 p4 p5 ca cb cd) [(.int cb), (.int (1 : Int32)), (.ref b235), (.ref b235), (.ref b234), (.ref b234)])) rfl rfl (hb hby at_94)
    have V237 : Arv Z h237 b235 k235 .char (2 : Int32) [(.int ca), (.int cb)] (.int (0 : Int32)) := by have q := Arv.set Ar237 q237 S237 N237 H237 G237 (fits_nar_char _) W237 1 rfl (Nat.le_of_ble_eq_true rfl); (first | rw [own_ch_nc cb hp_cb] at q | rw [own_ch_c cb hp_cb] at q); exact q
    have X00_237 := X00_236.wr W237 gn_b235
    have A234_237 := A234_236.wr W237
    have F234_coder_237 := F234_coder_236.other W237 (Or.inl ne_b234_b235)
    have F234_value_237 := F234_value_236.other W237 (Or.inl ne_b234_b235)
    have hk237 := Nat.le_trans hk236 (Keep.of_wr W237).1
    have Zs237 : n0 ≤ h237.size := Nat.le_trans Zs236 (Keep.of_wr W237).1
    have N237 := Fr.snoc X237 N236 gn_b235
    refine own_pre (fun t k => st237 t k) ?_
    obtain ⟨_, _, ⟨T238, L238, k238, n238⟩, -, X238, ⟨Lc238, hQ238, l238, y238, z238⟩, st238⟩ := X237.specialBack hx (y := (⟨"java/lang/String", "<init>", "([C)V"⟩ : MethodName)) rfl hown (mvT hZ (own_w hw 4 rfl)) (mvT hZ (own_w hw 5 rfl)) (mvT hZ (own_w hw 6 rfl)) (by decide) (backOf (W := 1) (rm1_2 l Z a0 hw [] b234 b235 k235 ca cb pG h237 n0 Zs237 A234_237 F234_value_237 F234_coder_237 gn_b234 V237 ne_b234_b235 hp_ca hp_cb O2 hG X00_237) hZ (own_w hw 6 rfl) (own_w hw 2 rfl) (by decide) (by decide)) (g := (mkF m 95 (own_l52 p0 p1 p2 p3 p4 p5 ca cb cd) [(.ref b235), (.ref b234), (.ref b234)])) rfl (by rw [hml]; rfl) (Steps.refl _) (a := b234) (argsL := [(.ref b235)]) (rest := [(.ref b234)]) (lenOf own_pd11 rfl) rfl (by show 2 * 0 + _ ≤ _; exact Nat.le_of_eq rfl) (hb hby at_95) (fun _ _ => ⟨rfl, e237, (by decide : 2 + 1 ≤ _), (by decide : 6 + 2 ≤ _)⟩)
    dsimp only [Pt.U, Pt.locs, Pt.cells, Pt.slots] at X238 l238 y238 z238 st238 hQ238
    replace y238 : _ = 3 := y238
    replace z238 : _ = 8 := z238
    subst y238 z238
    obtain ⟨rfl, Nq238, Kq238, ad238, kq238, Fv238, Fc238, Vq238, nq238⟩ := hQ238
    have N238 := own_frl l238 N237 Nq238
    refine own_pre (fun t k => st238.trans k) ?_
    have X00_238 := X00_237.keep Kq238 (allS gn_b234 all0)
    have A234_238 := A234_237.keep Kq238
    have hk238 := Nat.le_trans hk237 Kq238.1
    have Zs238 : n0 ≤ T238.heap.size := Nat.le_trans Zs237 Kq238.1
    refine own_pre (A := (T238.setTop (mkF m 130 (own_l53 p0 p1 p2 p3 p4 p5 ca cb cd b234) []))) ?_ ?_
    · intro t k
      refine XS.astore X238.here hx rfl (hb hby at_98) rfl rfl (l' := (own_l53 p0 p1 p2 p3 p4 p5 ca cb cd b234)) rfl ?_
      refine XS.goto X238.here hx rfl (pc0 := 100) (pc' := 130) rfl (hb hby at_100) (by decide) (by decide) ?_
      exact k
    obtain ⟨T239, h239, X239, e239, E239, A239, D239, -, st239⟩ := newO X238 hx hZ hown (own_w hw 30 rfl) (own_w hw 31 rfl) (own_w hw 32 rfl) rfl (g := (mkF m 130 (own_l53 p0 p1 p2 p3 p4 p5 ca cb cd b234) [])) rfl (hb hby at_130) (by decide) (by decide)
    obtain ⟨b239, g239⟩ : ∃ z, z = T238.heap.size := ⟨_, rfl⟩
    rw [← g239] at A239 D239 st239
    have ne_ad238_b239 : ad238 ≠ b239 := Nat.ne_of_lt (Nat.lt_of_lt_of_le Vq238.lt (Nat.le_of_eq g239.symm))
    have ne_b234_b239 : b234 ≠ b239 := Nat.ne_of_lt (Nat.lt_of_lt_of_le A234_238.lt (Nat.le_of_eq g239.symm))
    have gn_b239 : n0 ≤ b239 := Nat.le_trans Zs238 (Nat.le_of_eq g239.symm)
    have X00_239 := X00_238.ext E239
    have A234_239 := A234_238.ext E239
    have Fv238_239 := Fv238.ext E239
    have Fc238_239 := Fc238.ext E239
    have Vq238_239 := Vq238.ext E239
    have hk239 := Nat.le_trans hk238 E239.1
    have Zs239 : n0 ≤ h239.size := Nat.le_trans Zs238 E239.1
    have F239_members : Fld Z h239 b239 "com/example/coho/coho/identifier/CharacterSet" "members" "[Z" .null := D239 (Or.inr (own_w hw 42 rfl)) (ty := (.array .boolean)) (by decide)
    have F239_description : Fld Z h239 b239 "com/example/coho/coho/identifier/CharacterSet" "description" "Ljava/lang/String;" .null := D239 (Or.inr (own_w hw 76 rfl)) (ty := (.object "java/lang/String")) (by decide)
    refine own_pre (fun t k => st239 t k) ?_
    refine own_pre (A := (T239.setTop (mkF m 136 (own_l53 p0 p1 p2 p3 p4 p5 ca cb cd b234) [(.ref b234), (.ref b239), (.ref b239)]))) ?_ ?_
    · intro t k
      refine XS.dup X239.here hx rfl (hb hby at_133) rfl rfl ?_
      refine XS.aload X239.here hx rfl (hb hby at_134) rfl rfl ?_
      exact k
    obtain ⟨a240, T240, h240, k240, X240, e240, E240, hS240, hk240, hZ240, hown240, st240⟩ := ldcS (s := s) (vm0 := s.vm) X239 hx hZ hown (own_w hw 33 rfl) own_wS' e239 hS0 hk239 (g := (mkF m 136 (own_l53 p0 p1 p2 p3 p4 p5 ca cb cd b234) [(.ref b234), (.ref b239), (.ref b239)])) rfl (hb hby at_136) (n := 4) (by decide) (by decide) (by decide) (by decide)
    have X00_240 := X00_239.ext E240
    have A234_240 := A234_239.ext E240
    have Fv238_240 := Fv238_239.ext E240
    have Fc238_240 := Fc238_239.ext E240
    have Vq238_240 := Vq238_239.ext E240
    have A239_240 := A239.ext E240
    have F239_members_240 := F239_members.ext E240
    have F239_description_240 := F239_description.ext E240
    have Zs240 : n0 ≤ h240.size := Nat.le_trans Zs239 E240.1
    refine own_pre (fun t k => st240 t k) ?_
    obtain ⟨_, _, ⟨T241, L241, k241, n241⟩, -, X241, ⟨Lc241, hQ241, l241, y241, z241⟩, st241⟩ := X240.specialBack hx (y := (⟨"com/example/coho/coho/identifier/CharacterSet", "<init>", "(Ljava/lang/String;Ljava/lang/String;)V"⟩ : MethodName)) rfl hown240 (mvT hZ240 (own_w hw 36 rfl)) (mvT hZ240 (own_w hw 37 rfl)) (mvT hZ240 (own_w hw 38 rfl)) (by decide) (backOf (W := 1) (rm7_2 l Z a0 hw [] b239 b234 a240 ad238 kq238 ca cb pG vF h240 n0 Zs240 A239_240 F239_members_240 F239_description_240 gn_b239 A234_240 Fv238_240 Fc238_240 Vq238_240 ne_b234_b239.symm ne_ad238_b239.symm hp_ca hp_cb O2 hG X00_240 O4 rF) hZ240 (own_w hw 38 rfl) (own_w hw 32 rfl) (by decide) (by decide)) (g := (mkF m 138 (own_l53 p0 p1 p2 p3 p4 p5 ca cb cd b234) [(.ref a240), (.ref b234), (.ref b239), (.ref b239)])) rfl (by rw [hml]; rfl) (Steps.refl _) (a := b239) (argsL := [(.ref b234), (.ref a240)]) (rest := [(.ref b239)]) (lenOf own_pd12 rfl) rfl (by show 2 * 0 + _ ≤ _; exact Nat.le_of_eq rfl) (hb hby at_138) (fun _ _ => ⟨rfl, e240, (by decide : 6 + 1 ≤ _), (by decide : 18 + 128 ≤ _)⟩)
    dsimp only [Pt.U, Pt.locs, Pt.cells, Pt.slots] at X241 l241 y241 z241 st241 hQ241
    replace y241 : _ = 7 := y241
    replace z241 : _ = 146 := z241
    subst y241 z241
    obtain ⟨rfl, Nq241, Kq241, am241, km241, Fm241, Vm241⟩ := hQ241
    have N241 := own_frl l241 N238 Nq241
    refine own_pre (fun t k => st241.trans k) ?_
    have A239_241 := A239_240.keep Kq241
    have hk241 := Nat.le_trans hk240 Kq241.1
    have Zs241 : n0 ≤ T241.heap.size := Nat.le_trans Zs240 Kq241.1
    refine own_pre (A := (T241.setTop (mkF m 151 (own_l55 p0 p1 p2 p3 p4 p5 ca cb cd b234 b239) [(.int (p5 &&& (3 : Int32)))]))) ?_ ?_
    · intro t k
      refine XS.astore X241.here hx rfl (hb hby at_141) rfl rfl (l' := (own_l54 p0 p1 p2 p3 p4 p5 ca cb cd b234 b239)) rfl ?_
      refine XS.iload X241.here hx rfl (hb hby at_143) rfl ?_
      refine XS.iconst X241.here hx rfl (hb hby at_145) ?_
      refine XS.iand X241.here hx rfl (hb hby at_146) rfl ?_
      refine XS.istore X241.here hx rfl (hb hby at_147) rfl (l' := (own_l55 p0 p1 p2 p3 p4 p5 ca cb cd b234 b239)) rfl ?_
      refine XS.iload X241.here hx rfl (hb hby at_149) rfl ?_
      exact k
    obtain ⟨v247, hv247⟩ : ∃ z : Int32, z = (if (p5 &&& (3 : Int32)) = (0 : Int32) then (p4.toUInt32.toUInt16.toUInt32.toInt32) else (if (p5 &&& (3 : Int32)) = (1 : Int32) then ((p4 &&& (127 : Int32)).toUInt32.toUInt16.toUInt32.toInt32) else (if (p5 &&& (3 : Int32)) = (2 : Int32) then (if ((p4 &&& (2147483647 : Int32)) % (3 : Int32)) = (0 : Int32) then ca else (if ((p4 &&& (2147483647 : Int32)) % (3 : Int32)) = (1 : Int32) then cb else cd)) else (((128 : Int32) + (p4 &&& (127 : Int32))).toUInt32.toUInt16.toUInt32.toInt32)))) := ⟨_, rfl⟩
    obtain ⟨sl248, hsl248⟩ : ∃ z : Slot, z = (if (p5 &&& (3 : Int32)) = (0 : Int32) then (.unset) else (if (p5 &&& (3 : Int32)) = (1 : Int32) then (.unset) else (if (p5 &&& (3 : Int32)) = (2 : Int32) then (.val (.int ((p4 &&& (2147483647 : Int32)) % (3 : Int32)))) else (.unset)))) := ⟨_, rfl⟩
    refine own_pre (A := (T241.setTop (mkF m 238 (own_l63 p0 p1 p2 p3 p4 p5 ca cb cd b234 b239 v247 sl248) []))) ?_ ?_
    · intro t k
      show Steps p.tables e below (T241.setTop (mkF m 151 (own_l55 p0 p1 p2 p3 p4 p5 ca cb cd b234 b239) [(.int (p5 &&& (3 : Int32)))])) _
      by_cases hc242 : (p5 &&& (3 : Int32)) = (0 : Int32)
      · skip
        refine XS.ifNo X241.here hx rfl (hb hby at_151) rfl ((if0 _ _).trans (teq hc242).2) ?_
        refine XS.iload X241.here hx rfl (hb hby at_154) rfl ?_
        refine XS.i2c X241.here hx rfl (hb hby at_156) rfl ?_
        refine XS.istore X241.here hx rfl (hb hby at_157) rfl (l' := (own_l56 p0 p1 p2 p3 p4 p5 ca cb cd b234 b239)) rfl ?_
        refine XS.goto X241.here hx rfl (pc0 := 159) (pc' := 238) rfl (hb hby at_159) (by decide) (by decide) ?_
        rw [show v247 = (p4.toUInt32.toUInt16.toUInt32.toInt32) from hv247.trans (by simp only [if_pos hc242])] at k
        rw [show sl248 = (.unset) from hsl248.trans (by simp only [if_pos hc242])] at k
        exact k
      · skip
        refine XS.ifYes X241.here hx rfl (pc0 := 151) (pc' := 162) rfl (hb hby at_151) rfl ((if0 _ _).trans (feq hc242).2) (by decide) (by decide) ?_
        refine XS.iload X241.here hx rfl (hb hby at_162) rfl ?_
        refine XS.iconst X241.here hx rfl (hb hby at_164) ?_
        show Steps p.tables e below (T241.setTop (mkF m 165 (own_l55 p0 p1 p2 p3 p4 p5 ca cb cd b234 b239) [(.int (1 : Int32)), (.int (p5 &&& (3 : Int32)))])) _
        by_cases hc243 : (p5 &&& (3 : Int32)) = (1 : Int32)
        · skip
          refine XS.icmpNo X241.here hx rfl (hb hby at_165) rfl (teq hc243).2 ?_
          refine XS.iload X241.here hx rfl (hb hby at_168) rfl ?_
          refine XS.bipush X241.here hx rfl (hb hby at_170) ?_
          refine XS.iand X241.here hx rfl (hb hby at_172) rfl ?_
          refine XS.i2c X241.here hx rfl (hb hby at_173) rfl ?_
          refine XS.istore X241.here hx rfl (hb hby at_174) rfl (l' := (own_l57 p0 p1 p2 p3 p4 p5 ca cb cd b234 b239)) rfl ?_
          refine XS.goto X241.here hx rfl (pc0 := 176) (pc' := 238) rfl (hb hby at_176) (by decide) (by decide) ?_
          rw [show v247 = ((p4 &&& (127 : Int32)).toUInt32.toUInt16.toUInt32.toInt32) from hv247.trans (by simp only [if_neg hc242, if_pos hc243])] at k
          rw [show sl248 = (.unset) from hsl248.trans (by simp only [if_neg hc242, if_pos hc243])] at k
          exact k
        · skip
          refine XS.icmpYes X241.here hx rfl (pc0 := 165) (pc' := 179) rfl (hb hby at_165) rfl (feq hc243).2 (by decide) (by decide) ?_
          refine XS.iload X241.here hx rfl (hb hby at_179) rfl ?_
          refine XS.iconst X241.here hx rfl (hb hby at_181) ?_
          show Steps p.tables e below (T241.setTop (mkF m 182 (own_l55 p0 p1 p2 p3 p4 p5 ca cb cd b234 b239) [(.int (2 : Int32)), (.int (p5 &&& (3 : Int32)))])) _
          by_cases hc244 : (p5 &&& (3 : Int32)) = (2 : Int32)
          · skip
            refine XS.icmpNo X241.here hx rfl (hb hby at_182) rfl (teq hc244).2 ?_
            refine XS.iload X241.here hx rfl (hb hby at_185) rfl ?_
            show Steps p.tables e below (T241.setTop (mkF m 187 (own_l55 p0 p1 p2 p3 p4 p5 ca cb cd b234 b239) [(.int p4)])) _
            refine X241.ldcInt hx hown240 (mvT hZ240 (own_w hw 82 rfl)) (g := (mkF m 187 (own_l55 p0 p1 p2 p3 p4 p5 ca cb cd b234 b239) [(.int p4)])) rfl (hb hby at_187) _ ?_
            refine XS.iand X241.here hx rfl (hb hby at_189) rfl ?_
            refine XS.iconst X241.here hx rfl (hb hby at_190) ?_
            show Steps p.tables e below (T241.setTop (mkF m 191 (own_l55 p0 p1 p2 p3 p4 p5 ca cb cd b234 b239) [(.int (3 : Int32)), (.int (p4 &&& (2147483647 : Int32)))])) _
            refine iremM X241 hx rfl (hb hby at_191) rfl (by decide) ?_
            show Steps p.tables e below (T241.setTop (mkF m 192 (own_l55 p0 p1 p2 p3 p4 p5 ca cb cd b234 b239) [(.int ((p4 &&& (2147483647 : Int32)) % (3 : Int32)))])) _
            refine XS.istore X241.here hx rfl (hb hby at_192) rfl (l' := (own_l58 p0 p1 p2 p3 p4 p5 ca cb cd b234 b239)) rfl ?_
            refine XS.iload X241.here hx rfl (hb hby at_194) rfl ?_
            show Steps p.tables e below (T241.setTop (mkF m 196 (own_l58 p0 p1 p2 p3 p4 p5 ca cb cd b234 b239) [(.int ((p4 &&& (2147483647 : Int32)) % (3 : Int32)))])) _
            by_cases hc245 : ((p4 &&& (2147483647 : Int32)) % (3 : Int32)) = (0 : Int32)
            · skip
              refine XS.ifNo X241.here hx rfl (hb hby at_196) rfl ((if0 _ _).trans (teq hc245).2) ?_
              refine XS.iload X241.here hx rfl (hb hby at_199) rfl ?_
              refine XS.istore X241.here hx rfl (hb hby at_201) rfl (l' := (own_l59 p0 p1 p2 p3 p4 p5 ca cb cd b234 b239)) rfl ?_
              refine XS.goto X241.here hx rfl (pc0 := 203) (pc' := 223) rfl (hb hby at_203) (by decide) (by decide) ?_
              refine XS.goto X241.here hx rfl (pc0 := 223) (pc' := 238) rfl (hb hby at_223) (by decide) (by decide) ?_
              rw [show v247 = ca from hv247.trans (by simp only [if_neg hc242, if_neg hc243, if_pos hc244, if_pos hc245])] at k
              rw [show sl248 = (.val (.int ((p4 &&& (2147483647 : Int32)) % (3 : Int32)))) from hsl248.trans (by simp only [if_neg hc242, if_neg hc243, if_pos hc244, if_pos hc245])] at k
              exact k
            · skip
              refine XS.ifYes X241.here hx rfl (pc0 := 196) (pc' := 206) rfl (hb hby at_196) rfl ((if0 _ _).trans (feq hc245).2) (by decide) (by decide) ?_
              refine XS.iload X241.here hx rfl (hb hby at_206) rfl ?_
              refine XS.iconst X241.here hx rfl (hb hby at_208) ?_
              show Steps p.tables e below (T241.setTop (mkF m 209 (own_l58 p0 p1 p2 p3 p4 p5 ca cb cd b234 b239) [(.int (1 : Int32)), (.int ((p4 &&& (2147483647 : Int32)) % (3 : Int32)))])) _
              by_cases hc246 : ((p4 &&& (2147483647 : Int32)) % (3 : Int32)) = (1 : Int32)
              · skip
                refine XS.icmpNo X241.here hx rfl (hb hby at_209) rfl (teq hc246).2 ?_
                refine XS.iload X241.here hx rfl (hb hby at_212) rfl ?_
                refine XS.istore X241.here hx rfl (hb hby at_214) rfl (l' := (own_l60 p0 p1 p2 p3 p4 p5 ca cb cd b234 b239)) rfl ?_
                refine XS.goto X241.here hx rfl (pc0 := 216) (pc' := 223) rfl (hb hby at_216) (by decide) (by decide) ?_
                refine XS.goto X241.here hx rfl (pc0 := 223) (pc' := 238) rfl (hb hby at_223) (by decide) (by decide) ?_
                rw [show v247 = cb from hv247.trans (by simp only [if_neg hc242, if_neg hc243, if_pos hc244, if_neg hc245, if_pos hc246])] at k
                rw [show sl248 = (.val (.int ((p4 &&& (2147483647 : Int32)) % (3 : Int32)))) from hsl248.trans (by simp only [if_neg hc242, if_neg hc243, if_pos hc244, if_neg hc245, if_pos hc246])] at k
                exact k
              · skip
                refine XS.icmpYes X241.here hx rfl (pc0 := 209) (pc' := 219) rfl (hb hby at_209) rfl (feq hc246).2 (by decide) (by decide) ?_
                refine XS.iload X241.here hx rfl (hb hby at_219) rfl ?_
                refine XS.istore X241.here hx rfl (hb hby at_221) rfl (l' := (own_l61 p0 p1 p2 p3 p4 p5 ca cb cd b234 b239)) rfl ?_
                refine XS.goto X241.here hx rfl (pc0 := 223) (pc' := 238) rfl (hb hby at_223) (by decide) (by decide) ?_
                rw [show v247 = cd from hv247.trans (by simp only [if_neg hc242, if_neg hc243, if_pos hc244, if_neg hc245, if_neg hc246])] at k
                rw [show sl248 = (.val (.int ((p4 &&& (2147483647 : Int32)) % (3 : Int32)))) from hsl248.trans (by simp only [if_neg hc242, if_neg hc243, if_pos hc244, if_neg hc245, if_neg hc246])] at k
                exact k
          · skip
            refine XS.icmpYes X241.here hx rfl (pc0 := 182) (pc' := 226) rfl (hb hby at_182) rfl (feq hc244).2 (by decide) (by decide) ?_
            refine XS.sipush X241.here hx rfl (hb hby at_226) ?_
            refine XS.iload X241.here hx rfl (hb hby at_229) rfl ?_
            refine XS.bipush X241.here hx rfl (hb hby at_231) ?_
            refine XS.iand X241.here hx rfl (hb hby at_233) rfl ?_
            refine XS.iadd X241.here hx rfl (hb hby at_234) rfl ?_
            refine XS.i2c X241.here hx rfl (hb hby at_235) rfl ?_
            refine XS.istore X241.here hx rfl (hb hby at_236) rfl (l' := (own_l62 p0 p1 p2 p3 p4 p5 ca cb cd b234 b239)) rfl ?_
            rw [show v247 = (((128 : Int32) + (p4 &&& (127 : Int32))).toUInt32.toUInt16.toUInt32.toInt32) from hv247.trans (by simp only [if_neg hc242, if_neg hc243, if_neg hc244])] at k
            rw [show sl248 = (.unset) from hsl248.trans (by simp only [if_neg hc242, if_neg hc243, if_neg hc244])] at k
            exact k
    refine own_pre (A := (T241.setTop (mkF m 248 (own_l63 p0 p1 p2 p3 p4 p5 ca cb cd b234 b239 v247 sl248) [(.int ca), (.int v247)]))) ?_ ?_
    · intro t k
      refine XS.iload X241.here hx rfl (hb hby at_238) rfl ?_
      refine XS.iconst X241.here hx rfl (hb hby at_240) ?_
      refine XS.icmpNo X241.here hx rfl (hb hby at_241) rfl (flt (by decide : ¬ ((2 : Int32) < (1 : Int32)))).1 ?_
      refine XS.iload X241.here hx rfl (hb hby at_244) rfl ?_
      refine XS.iload X241.here hx rfl (hb hby at_246) rfl ?_
      exact k
    obtain ⟨v251, hv251⟩ : ∃ z : Int32, z = (if v247 = ca then (1 : Int32) else (if v247 = cb then (1 : Int32) else (0 : Int32))) := ⟨_, rfl⟩
    refine own_pre (A := (T241.setTop (mkF m 282 (own_l63 p0 p1 p2 p3 p4 p5 ca cb cd b234 b239 v247 sl248) [(.int v251)]))) ?_ ?_
    · intro t k
      show Steps p.tables e below (T241.setTop (mkF m 248 (own_l63 p0 p1 p2 p3 p4 p5 ca cb cd b234 b239 v247 sl248) [(.int ca), (.int v247)])) _
      by_cases hc249 : v247 = ca
      · skip
        refine XS.icmpYes X241.here hx rfl (pc0 := 248) (pc' := 277) rfl (hb hby at_248) rfl (teq hc249).1 (by decide) (by decide) ?_
        refine XS.iconst X241.here hx rfl (hb hby at_277) ?_
        refine XS.goto X241.here hx rfl (pc0 := 278) (pc' := 282) rfl (hb hby at_278) (by decide) (by decide) ?_
        rw [show v251 = (1 : Int32) from hv251.trans (by simp only [if_pos hc249])] at k
        exact k
      · skip
        refine XS.icmpNo X241.here hx rfl (hb hby at_248) rfl (feq hc249).1 ?_
        refine XS.iload X241.here hx rfl (hb hby at_251) rfl ?_
        refine XS.iconst X241.here hx rfl (hb hby at_253) ?_
        refine XS.icmpNo X241.here hx rfl (hb hby at_254) rfl (flt (by decide : ¬ ((2 : Int32) < (2 : Int32)))).1 ?_
        refine XS.iload X241.here hx rfl (hb hby at_257) rfl ?_
        refine XS.iload X241.here hx rfl (hb hby at_259) rfl ?_
        show Steps p.tables e below (T241.setTop (mkF m 261 (own_l63 p0 p1 p2 p3 p4 p5 ca cb cd b234 b239 v247 sl248) [(.int cb), (.int v247)])) _
        by_cases hc250 : v247 = cb
        · skip
          refine XS.icmpYes X241.here hx rfl (pc0 := 261) (pc' := 277) rfl (hb hby at_261) rfl (teq hc250).1 (by decide) (by decide) ?_
          refine XS.iconst X241.here hx rfl (hb hby at_277) ?_
          refine XS.goto X241.here hx rfl (pc0 := 278) (pc' := 282) rfl (hb hby at_278) (by decide) (by decide) ?_
          rw [show v251 = (1 : Int32) from hv251.trans (by simp only [if_neg hc249, if_pos hc250])] at k
          exact k
        · skip
          refine XS.icmpNo X241.here hx rfl (hb hby at_261) rfl (feq hc250).1 ?_
          refine XS.iload X241.here hx rfl (hb hby at_264) rfl ?_
          refine XS.iconst X241.here hx rfl (hb hby at_266) ?_
          refine XS.icmpYes X241.here hx rfl (pc0 := 267) (pc' := 281) rfl (hb hby at_267) rfl (tlt (by decide : (2 : Int32) < (3 : Int32))).1 (by decide) (by decide) ?_
          refine XS.iconst X241.here hx rfl (hb hby at_281) ?_
          rw [show v251 = (0 : Int32) from hv251.trans (by simp only [if_neg hc249, if_neg hc250])] at k
          exact k
    refine own_pre (A := (T241.setTop (mkF m 284 (own_l64 p0 p1 p2 p3 p4 p5 ca cb cd b234 b239 v247 v251) []))) ?_ ?_
    · intro t k
      refine XS.istore X241.here hx rfl (hb hby at_282) rfl (l' := (own_l64 p0 p1 p2 p3 p4 p5 ca cb cd b234 b239 v247 v251)) (by rw [hsl248]; repeat' first | rfl | split) ?_
      exact k
    have hpc : ¬ v247 < (0 : Int32) := by
      rw [hv247]
      repeat' split
      all_goals first | with_reducible exact own_posc _ hp_ca | with_reducible exact own_posc _ hp_cb | with_reducible exact own_posc _ hp_cd | with_reducible exact own_pos _
    refine own_pre (A := (T241.setTop (mkF m 288 (own_l64 p0 p1 p2 p3 p4 p5 ca cb cd b234 b239 v247 v251) [(.int v247), (.ref b239)]))) ?_ ?_
    · intro t k
      refine XS.aload X241.here hx rfl (hb hby at_284) rfl rfl ?_
      refine XS.iload X241.here hx rfl (hb hby at_286) rfl ?_
      exact k
    obtain ⟨cq252, kq252, q252a, q252b, q252c⟩ := isOf hZ240 rfl A239_241
    obtain ⟨_, _, ⟨T252, L252, k252, n252⟩, -, X252, ⟨Lc252, hQ252, l252, y252, z252⟩, st252⟩ := X241.virtualBack hx (y := (⟨"com/example/coho/coho/identifier/CharacterSet", "contains", "(C)Z"⟩ : MethodName)) (z := (⟨"com/example/coho/coho/identifier/CharacterSet", "contains", "(C)Z"⟩ : MethodName)) hown240 (mvT hZ240 (own_w hw 77 rfl)) (mvT hZ240 (own_w hw 78 rfl)) (notFace_of_selects (args := #[]) (mvT hZ240 (own_w hw 80 rfl))) (mvT hZ240 (own_w hw 80 rfl)) (mvT hZ240 (own_w hw 79 rfl)) (by decide) (backOf (W := 0) (rm15_2 l Z a0 hw [] b239 v247 am241 km241 ca cb T241.heap n0 Zs241 Fm241 Vm241 hpc) hZ240 (own_w hw 81 rfl) (own_w hw 32 rfl) (by decide) (by decide)) q252a q252c (g := (mkF m 288 (own_l64 p0 p1 p2 p3 p4 p5 ca cb cd b234 b239 v247 v251) [(.int v247), (.ref b239)])) rfl (by rw [hml]; rfl) (Steps.refl _) (argsL := [(.int v247)]) (rest := []) (lenOf own_pd13 rfl) rfl (by show 2 * 0 + _ ≤ _; exact Nat.le_of_eq rfl) (hb hby at_288) (fun _ _ => ⟨rfl, rfl, (by decide : 7 + 0 ≤ _), (by decide : 146 + 0 ≤ _)⟩)
    dsimp only [Pt.U, Pt.locs, Pt.cells, Pt.slots] at X252 l252 y252 z252 st252 hQ252
    replace y252 : _ = 7 := y252
    replace z252 : _ = 146 := z252
    subst y252 z252
    obtain ⟨rfl, Nq252, eq252⟩ := hQ252
    have N252 := own_frl l252 N241 Nq252
    refine own_pre (fun t k => st252.trans k) ?_
    refine own_pre (A := (T252.setTop (mkF m 293 (own_l64 p0 p1 p2 p3 p4 p5 ca cb cd b234 b239 v247 v251) [(.int v251), (.int (own_ctn2 v247 ca cb))]))) ?_ ?_
    · intro t k
      refine XS.iload X252.here hx rfl (hb hby at_291) rfl ?_
      exact k
    obtain ⟨v254, hv254⟩ : ∃ z : Int32, z = (if (own_ctn2 v247 ca cb) = v251 then (1 : Int32) else (0 : Int32)) := ⟨_, rfl⟩
    refine own_pre (A := (T252.setTop (mkF m 301 (own_l64 p0 p1 p2 p3 p4 p5 ca cb cd b234 b239 v247 v251) [(.int v254)]))) ?_ ?_
    · intro t k
      show Steps p.tables e below (T252.setTop (mkF m 293 (own_l64 p0 p1 p2 p3 p4 p5 ca cb cd b234 b239 v247 v251) [(.int v251), (.int (own_ctn2 v247 ca cb))])) _
      by_cases hc253 : (own_ctn2 v247 ca cb) = v251
      · skip
        refine XS.icmpNo X252.here hx rfl (hb hby at_293) rfl (teq hc253).2 ?_
        refine XS.iconst X252.here hx rfl (hb hby at_296) ?_
        refine XS.goto X252.here hx rfl (pc0 := 297) (pc' := 301) rfl (hb hby at_297) (by decide) (by decide) ?_
        rw [show v254 = (1 : Int32) from hv254.trans (by simp only [if_pos hc253])] at k
        exact k
      · skip
        refine XS.icmpYes X252.here hx rfl (pc0 := 293) (pc' := 300) rfl (hb hby at_293) rfl (feq hc253).2 (by decide) (by decide) ?_
        refine XS.iconst X252.here hx rfl (hb hby at_300) ?_
        rw [show v254 = (0 : Int32) from hv254.trans (by simp only [if_neg hc253])] at k
        exact k
    have hz : v254 = (1 : Int32) := by rw [hv254, if_pos ((own_fin2 v247 ca cb hp_ca hp_cb hpc).trans hv251.symm)]
    rw [hz]
    obtain ⟨fs, hr, hrun, hended, hRE⟩ := X252.leaveW (hlocks := BodyLoose.notSynchronized Bd) hS240 (by rw [eq252]; exact hk241) (v := some (.int (1 : Int32))) (fun h => by rw [Bd.returns] at h; cases h)
    refine ⟨_, _, retOut X252 hx Bd.returns rfl (Or.inl ⟨rfl, Or.inr (Or.inl rfl), _, rfl⟩) (hb hby at_301) hr, hrun, hended, _, _, rfl, ?_, hRE.1, hRE.2.1, hRE.2.2.1, hRE.2.2.2.mono (by decide) (by decide)⟩
    show own_Q0 h0 n0 _ T252.heap _
    rw [eq252]
    exact ⟨rfl, N252⟩
  · skip
    refine own_pre (A := (s₁.setTop (mkF m 103 (own_l65 p0 p1 p2 p3 p4 p5 ca cb cd) []))) ?_ ?_
    · intro t k
      refine XS.iload X0.here hx rfl (hb hby at_26) rfl ?_
      refine XS.ifYes X0.here hx rfl (pc0 := 28) (pc' := 46) rfl (hb hby at_28) rfl ((if0 _ _).trans (feq (by decide : ¬ ((3 : Int32) = (0 : Int32)))).2) (by decide) (by decide) ?_
      refine XS.iload X0.here hx rfl (hb hby at_46) rfl ?_
      refine XS.iconst X0.here hx rfl (hb hby at_48) ?_
      refine XS.icmpYes X0.here hx rfl (pc0 := 49) (pc' := 72) rfl (hb hby at_49) rfl (feq (by decide : ¬ ((3 : Int32) = (1 : Int32)))).2 (by decide) (by decide) ?_
      refine XS.iload X0.here hx rfl (hb hby at_72) rfl ?_
      refine XS.iconst X0.here hx rfl (hb hby at_74) ?_
      refine XS.icmpYes X0.here hx rfl (pc0 := 75) (pc' := 103) rfl (hb hby at_75) rfl (feq (by decide : ¬ ((3 : Int32) = (2 : Int32)))).2 (by decide) (by decide) ?_
      exact k
    obtain ⟨T255, h255, X255, e255, E255, A255, D255, -, st255⟩ := newO X0 hx hZ hown (own_w hw 0 rfl) (own_w hw 1 rfl) (own_w hw 2 rfl) e0 (g := (mkF m 103 (own_l65 p0 p1 p2 p3 p4 p5 ca cb cd) [])) rfl (hb hby at_103) (by decide) (by decide)
    obtain ⟨b255, g255⟩ : ∃ z, z = h0.size := ⟨_, rfl⟩
    rw [← g255] at A255 D255 st255
    have gn_b255 : n0 ≤ b255 := Nat.le_trans Z0 (Nat.le_of_eq g255.symm)
    have X00_255 := X00.ext E255
    have hk255 := Nat.le_trans hk0 E255.1
    have Zs255 : n0 ≤ h255.size := Nat.le_trans Z0 E255.1
    have Kc255 : Keep h0 h255 [] := (Keep.refl h0 []).ext E255
    have F255_coder : Fld Z h255 b255 "java/lang/String" "coder" "B" (.int (0 : Int32)) := D255 (Or.inr (own_w hw 27 rfl)) (ty := .byte) (by decide)
    have F255_value : Fld Z h255 b255 "java/lang/String" "value" "[B" .null := D255 (Or.inr (own_w hw 29 rfl)) (ty := (.array .byte)) (by decide)
    refine own_pre (fun t k => st255 t k) ?_
    refine own_pre (A := (T255.setTop (mkF m 108 (own_l65 p0 p1 p2 p3 p4 p5 ca cb cd) [(.int (3 : Int32)), (.ref b255), (.ref b255)]))) ?_ ?_
    · intro t k
      refine XS.dup X255.here hx rfl (hb hby at_106) rfl rfl ?_
      refine XS.iconst X255.here hx rfl (hb hby at_107) ?_
      exact k
    obtain ⟨T256, h256, k256, X256, e256, E256, A256, st256⟩ := newP X255 hx hZ (own_w hw 3 rfl) e255 (g := (mkF m 108 (own_l65 p0 p1 p2 p3 p4 p5 ca cb cd) [(.int (3 : Int32)), (.ref b255), (.ref b255)])) rfl (hb hby at_108) rfl (by decide) (cap := 3) (by decide) (by decide) (by decide) (by decide)
    obtain ⟨b256, g256⟩ : ∃ z, z = h255.size := ⟨_, rfl⟩
    rw [← g256] at A256 st256
    have ne_b255_b256 : b255 ≠ b256 := Nat.ne_of_lt (Nat.lt_of_lt_of_le A255.lt (Nat.le_of_eq g256.symm))
    have gn_b256 : n0 ≤ b256 := Nat.le_trans Zs255 (Nat.le_of_eq g256.symm)
    have X00_256 := X00_255.ext E256
    have A255_256 := A255.ext E256
    have F255_coder_256 := F255_coder.ext E256
    have F255_value_256 := F255_value.ext E256
    have hk256 := Nat.le_trans hk255 E256.1
    have Zs256 : n0 ≤ h256.size := Nat.le_trans Zs255 E256.1
    have V256 : Arv Z h256 b256 k256 .char (3 : Int32) [(.int (0 : Int32)), (.int (0 : Int32)), (.int (0 : Int32))] (.int (0 : Int32)) := (Arv.new A256 (by decide)).pad (pad_rep [] (.int (0 : Int32)) 3)
    refine own_pre (fun t k => st256 t k) ?_
    refine own_pre (A := (T256.setTop (mkF m 114 (own_l65 p0 p1 p2 p3 p4 p5 ca cb cd) [(.int ca), (.int (0 : Int32)), (.ref b256), (.ref b256), (.ref b255), (.ref b255)]))) ?_ ?_
    · intro t k
      refine XS.dup X256.here hx rfl (hb hby at_110) rfl rfl ?_
      refine XS.iconst X256.here hx rfl (hb hby at_111) ?_
      refine XS.iload X256.here hx rfl (hb hby at_112) rfl ?_
      exact k
    obtain ⟨cl257, Ar257, q257, S257, N257, H257, G257⟩ := V256
    have hin257 : ¬ ((0 : Int32) < 0 ∨ cl257.slots.size ≤ ((0 : Int32)).toNatClampNeg) := inb_of S257 ⟨by decide, by decide⟩
    obtain ⟨T257, h257, X257, e257, W257, st257⟩ := stC X256 hx hZ e256 Ar257 (j := (0 : Int32)) hin257 (g := (mkF m 114 (own_l65 p0 p1 p2 p3 p4 p5 ca cb cd) [(.int ca), (.int (0 : Int32)), (.ref b256), (.ref b256), (.ref b255), (.ref b255)])) rfl rfl (hb hby at_114)
    have V257 : Arv Z h257 b256 k256 .char (3 : Int32) [(.int ca), (.int (0 : Int32)), (.int (0 : Int32))] (.int (0 : Int32)) := by have q := Arv.set Ar257 q257 S257 N257 H257 G257 (fits_nar_char _) W257 0 rfl (Nat.le_of_ble_eq_true rfl); (first | rw [own_ch_nc ca hp_ca] at q | rw [own_ch_c ca hp_ca] at q); exact q
    have X00_257 := X00_256.wr W257 gn_b256
    have A255_257 := A255_256.wr W257
    have F255_coder_257 := F255_coder_256.other W257 (Or.inl ne_b255_b256)
    have F255_value_257 := F255_value_256.other W257 (Or.inl ne_b255_b256)
    have hk257 := Nat.le_trans hk256 (Keep.of_wr W257).1
    have Zs257 : n0 ≤ h257.size := Nat.le_trans Zs256 (Keep.of_wr W257).1
    have N257 := Fr.snoc X257 N0 gn_b256
    refine own_pre (fun t k => st257 t k) ?_
    refine own_pre (A := (T257.setTop (mkF m 119 (own_l65 p0 p1 p2 p3 p4 p5 ca cb cd) [(.int cb), (.int (1 : Int32)), (.ref b256), (.ref b256), (.ref b255), (.ref b255)]))) ?_ ?_
    · intro t k
      refine XS.dup X257.here hx rfl (hb hby at_115) rfl rfl ?_
      refine XS.iconst X257.here hx rfl (hb hby at_116) ?_
      refine XS.iload X257.here hx rfl (hb hby at_117) rfl ?_
      exact k
    obtain ⟨cl258, Ar258, q258, S258, N258, H258, G258⟩ := V257
    have hin258 : ¬ ((1 : Int32) < 0 ∨ cl258.slots.size ≤ ((1 : Int32)).toNatClampNeg) := inb_of S258 ⟨by decide, by decide⟩
    obtain ⟨T258, h258, X258, e258, W258, st258⟩ := stC X257 hx hZ e257 Ar258 (j := (1 : Int32)) hin258 (g := (mkF m 119 (own_l65 p0 p1 p2 p3 p4 p5 ca cb cd) [(.int cb), (.int (1 : Int32)), (.ref b256), (.ref b256), (.ref b255), (.ref b255)])) rfl rfl (hb hby at_119)
    have V258 : Arv Z h258 b256 k256 .char (3 : Int32) [(.int ca), (.int cb), (.int (0 : Int32))] (.int (0 : Int32)) := by have q := Arv.set Ar258 q258 S258 N258 H258 G258 (fits_nar_char _) W258 1 rfl (Nat.le_of_ble_eq_true rfl); (first | rw [own_ch_nc cb hp_cb] at q | rw [own_ch_c cb hp_cb] at q); exact q
    have X00_258 := X00_257.wr W258 gn_b256
    have A255_258 := A255_257.wr W258
    have F255_coder_258 := F255_coder_257.other W258 (Or.inl ne_b255_b256)
    have F255_value_258 := F255_value_257.other W258 (Or.inl ne_b255_b256)
    have hk258 := Nat.le_trans hk257 (Keep.of_wr W258).1
    have Zs258 : n0 ≤ h258.size := Nat.le_trans Zs257 (Keep.of_wr W258).1
    have N258 := Fr.snoc X258 N257 gn_b256
    refine own_pre (fun t k => st258 t k) ?_
    refine own_pre (A := (T258.setTop (mkF m 124 (own_l65 p0 p1 p2 p3 p4 p5 ca cb cd) [(.int cd), (.int (2 : Int32)), (.ref b256), (.ref b256), (.ref b255), (.ref b255)]))) ?_ ?_
    · intro t k
      refine XS.dup X258.here hx rfl (hb hby at_120) rfl rfl ?_
      refine XS.iconst X258.here hx rfl (hb hby at_121) ?_
      refine XS.iload X258.here hx rfl (hb hby at_122) rfl ?_
      exact k
    obtain ⟨cl259, Ar259, q259, S259, N259, H259, G259⟩ := V258
    have hin259 : ¬ ((2 : Int32) < 0 ∨ cl259.slots.size ≤ ((2 : Int32)).toNatClampNeg) := inb_of S259 ⟨by decide, by decide⟩
    obtain ⟨T259, h259, X259, e259, W259, st259⟩ := stC X258 hx hZ e258 Ar259 (j := (2 : Int32)) hin259 (g := (mkF m 124 (own_l65 p0 p1 p2 p3 p4 p5 ca cb cd) [(.int cd), (.int (2 : Int32)), (.ref b256), (.ref b256), (.ref b255), (.ref b255)])) rfl rfl (hb hby at_124)
    have V259 : Arv Z h259 b256 k256 .char (3 : Int32) [(.int ca), (.int cb), (.int cd)] (.int (0 : Int32)) := by have q := Arv.set Ar259 q259 S259 N259 H259 G259 (fits_nar_char _) W259 2 rfl (Nat.le_of_ble_eq_true rfl); (first | rw [own_ch_nc cd hp_cd] at q | rw [own_ch_c cd hp_cd] at q); exact q
    have X00_259 := X00_258.wr W259 gn_b256
    have A255_259 := A255_258.wr W259
    have F255_coder_259 := F255_coder_258.other W259 (Or.inl ne_b255_b256)
    have F255_value_259 := F255_value_258.other W259 (Or.inl ne_b255_b256)
    have hk259 := Nat.le_trans hk258 (Keep.of_wr W259).1
    have Zs259 : n0 ≤ h259.size := Nat.le_trans Zs258 (Keep.of_wr W259).1
    have N259 := Fr.snoc X259 N258 gn_b256
    refine own_pre (fun t k => st259 t k) ?_
    obtain ⟨_, _, ⟨T260, L260, k260, n260⟩, -, X260, ⟨Lc260, hQ260, l260, y260, z260⟩, st260⟩ := X259.specialBack hx (y := (⟨"java/lang/String", "<init>", "([C)V"⟩ : MethodName)) rfl hown (mvT hZ (own_w hw 4 rfl)) (mvT hZ (own_w hw 5 rfl)) (mvT hZ (own_w hw 6 rfl)) (by decide) (backOf (W := 1) (rm1_3 l Z a0 hw [] b255 b256 k256 ca cb cd pG h259 n0 Zs259 A255_259 F255_value_259 F255_coder_259 gn_b255 V259 ne_b255_b256 hp_ca hp_cb hp_cd O2 hG X00_259) hZ (own_w hw 6 rfl) (own_w hw 2 rfl) (by decide) (by decide)) (g := (mkF m 125 (own_l65 p0 p1 p2 p3 p4 p5 ca cb cd) [(.ref b256), (.ref b255), (.ref b255)])) rfl (by rw [hml]; rfl) (Steps.refl _) (a := b255) (argsL := [(.ref b256)]) (rest := [(.ref b255)]) (lenOf own_pd11 rfl) rfl (by show 2 * 0 + _ ≤ _; exact Nat.le_of_eq rfl) (hb hby at_125) (fun _ _ => ⟨rfl, e259, (by decide : 2 + 1 ≤ _), (by decide : 7 + 3 ≤ _)⟩)
    dsimp only [Pt.U, Pt.locs, Pt.cells, Pt.slots] at X260 l260 y260 z260 st260 hQ260
    replace y260 : _ = 3 := y260
    replace z260 : _ = 10 := z260
    subst y260 z260
    obtain ⟨rfl, Nq260, Kq260, ad260, kq260, Fv260, Fc260, Vq260, nq260⟩ := hQ260
    have N260 := own_frl l260 N259 Nq260
    refine own_pre (fun t k => st260.trans k) ?_
    have X00_260 := X00_259.keep Kq260 (allS gn_b255 all0)
    have A255_260 := A255_259.keep Kq260
    have hk260 := Nat.le_trans hk259 Kq260.1
    have Zs260 : n0 ≤ T260.heap.size := Nat.le_trans Zs259 Kq260.1
    refine own_pre (A := (T260.setTop (mkF m 130 (own_l66 p0 p1 p2 p3 p4 p5 ca cb cd b255) []))) ?_ ?_
    · intro t k
      refine XS.astore X260.here hx rfl (hb hby at_128) rfl rfl (l' := (own_l66 p0 p1 p2 p3 p4 p5 ca cb cd b255)) rfl ?_
      exact k
    obtain ⟨T261, h261, X261, e261, E261, A261, D261, -, st261⟩ := newO X260 hx hZ hown (own_w hw 30 rfl) (own_w hw 31 rfl) (own_w hw 32 rfl) rfl (g := (mkF m 130 (own_l66 p0 p1 p2 p3 p4 p5 ca cb cd b255) [])) rfl (hb hby at_130) (by decide) (by decide)
    obtain ⟨b261, g261⟩ : ∃ z, z = T260.heap.size := ⟨_, rfl⟩
    rw [← g261] at A261 D261 st261
    have ne_ad260_b261 : ad260 ≠ b261 := Nat.ne_of_lt (Nat.lt_of_lt_of_le Vq260.lt (Nat.le_of_eq g261.symm))
    have ne_b255_b261 : b255 ≠ b261 := Nat.ne_of_lt (Nat.lt_of_lt_of_le A255_260.lt (Nat.le_of_eq g261.symm))
    have gn_b261 : n0 ≤ b261 := Nat.le_trans Zs260 (Nat.le_of_eq g261.symm)
    have X00_261 := X00_260.ext E261
    have A255_261 := A255_260.ext E261
    have Fv260_261 := Fv260.ext E261
    have Fc260_261 := Fc260.ext E261
    have Vq260_261 := Vq260.ext E261
    have hk261 := Nat.le_trans hk260 E261.1
    have Zs261 : n0 ≤ h261.size := Nat.le_trans Zs260 E261.1
    have F261_members : Fld Z h261 b261 "com/example/coho/coho/identifier/CharacterSet" "members" "[Z" .null := D261 (Or.inr (own_w hw 42 rfl)) (ty := (.array .boolean)) (by decide)
    have F261_description : Fld Z h261 b261 "com/example/coho/coho/identifier/CharacterSet" "description" "Ljava/lang/String;" .null := D261 (Or.inr (own_w hw 76 rfl)) (ty := (.object "java/lang/String")) (by decide)
    refine own_pre (fun t k => st261 t k) ?_
    refine own_pre (A := (T261.setTop (mkF m 136 (own_l66 p0 p1 p2 p3 p4 p5 ca cb cd b255) [(.ref b255), (.ref b261), (.ref b261)]))) ?_ ?_
    · intro t k
      refine XS.dup X261.here hx rfl (hb hby at_133) rfl rfl ?_
      refine XS.aload X261.here hx rfl (hb hby at_134) rfl rfl ?_
      exact k
    obtain ⟨a262, T262, h262, k262, X262, e262, E262, hS262, hk262, hZ262, hown262, st262⟩ := ldcS (s := s) (vm0 := s.vm) X261 hx hZ hown (own_w hw 33 rfl) own_wS' e261 hS0 hk261 (g := (mkF m 136 (own_l66 p0 p1 p2 p3 p4 p5 ca cb cd b255) [(.ref b255), (.ref b261), (.ref b261)])) rfl (hb hby at_136) (n := 4) (by decide) (by decide) (by decide) (by decide)
    have X00_262 := X00_261.ext E262
    have A255_262 := A255_261.ext E262
    have Fv260_262 := Fv260_261.ext E262
    have Fc260_262 := Fc260_261.ext E262
    have Vq260_262 := Vq260_261.ext E262
    have A261_262 := A261.ext E262
    have F261_members_262 := F261_members.ext E262
    have F261_description_262 := F261_description.ext E262
    have Zs262 : n0 ≤ h262.size := Nat.le_trans Zs261 E262.1
    refine own_pre (fun t k => st262 t k) ?_
    obtain ⟨_, _, ⟨T263, L263, k263, n263⟩, -, X263, ⟨Lc263, hQ263, l263, y263, z263⟩, st263⟩ := X262.specialBack hx (y := (⟨"com/example/coho/coho/identifier/CharacterSet", "<init>", "(Ljava/lang/String;Ljava/lang/String;)V"⟩ : MethodName)) rfl hown262 (mvT hZ262 (own_w hw 36 rfl)) (mvT hZ262 (own_w hw 37 rfl)) (mvT hZ262 (own_w hw 38 rfl)) (by decide) (backOf (W := 1) (rm7_3 l Z a0 hw [] b261 b255 a262 ad260 kq260 ca cb cd pG vF h262 n0 Zs262 A261_262 F261_members_262 F261_description_262 gn_b261 A255_262 Fv260_262 Fc260_262 Vq260_262 ne_b255_b261.symm ne_ad260_b261.symm hp_ca hp_cb hp_cd O2 hG X00_262 O4 rF) hZ262 (own_w hw 38 rfl) (own_w hw 32 rfl) (by decide) (by decide)) (g := (mkF m 138 (own_l66 p0 p1 p2 p3 p4 p5 ca cb cd b255) [(.ref a262), (.ref b255), (.ref b261), (.ref b261)])) rfl (by rw [hml]; rfl) (Steps.refl _) (a := b261) (argsL := [(.ref b255), (.ref a262)]) (rest := [(.ref b261)]) (lenOf own_pd12 rfl) rfl (by show 2 * 0 + _ ≤ _; exact Nat.le_of_eq rfl) (hb hby at_138) (fun _ _ => ⟨rfl, e262, (by decide : 6 + 1 ≤ _), (by decide : 20 + 128 ≤ _)⟩)
    dsimp only [Pt.U, Pt.locs, Pt.cells, Pt.slots] at X263 l263 y263 z263 st263 hQ263
    replace y263 : _ = 7 := y263
    replace z263 : _ = 148 := z263
    subst y263 z263
    obtain ⟨rfl, Nq263, Kq263, am263, km263, Fm263, Vm263⟩ := hQ263
    have N263 := own_frl l263 N260 Nq263
    refine own_pre (fun t k => st263.trans k) ?_
    have A261_263 := A261_262.keep Kq263
    have hk263 := Nat.le_trans hk262 Kq263.1
    have Zs263 : n0 ≤ T263.heap.size := Nat.le_trans Zs262 Kq263.1
    refine own_pre (A := (T263.setTop (mkF m 151 (own_l68 p0 p1 p2 p3 p4 p5 ca cb cd b255 b261) [(.int (p5 &&& (3 : Int32)))]))) ?_ ?_
    · intro t k
      refine XS.astore X263.here hx rfl (hb hby at_141) rfl rfl (l' := (own_l67 p0 p1 p2 p3 p4 p5 ca cb cd b255 b261)) rfl ?_
      refine XS.iload X263.here hx rfl (hb hby at_143) rfl ?_
      refine XS.iconst X263.here hx rfl (hb hby at_145) ?_
      refine XS.iand X263.here hx rfl (hb hby at_146) rfl ?_
      refine XS.istore X263.here hx rfl (hb hby at_147) rfl (l' := (own_l68 p0 p1 p2 p3 p4 p5 ca cb cd b255 b261)) rfl ?_
      refine XS.iload X263.here hx rfl (hb hby at_149) rfl ?_
      exact k
    obtain ⟨v269, hv269⟩ : ∃ z : Int32, z = (if (p5 &&& (3 : Int32)) = (0 : Int32) then (p4.toUInt32.toUInt16.toUInt32.toInt32) else (if (p5 &&& (3 : Int32)) = (1 : Int32) then ((p4 &&& (127 : Int32)).toUInt32.toUInt16.toUInt32.toInt32) else (if (p5 &&& (3 : Int32)) = (2 : Int32) then (if ((p4 &&& (2147483647 : Int32)) % (3 : Int32)) = (0 : Int32) then ca else (if ((p4 &&& (2147483647 : Int32)) % (3 : Int32)) = (1 : Int32) then cb else cd)) else (((128 : Int32) + (p4 &&& (127 : Int32))).toUInt32.toUInt16.toUInt32.toInt32)))) := ⟨_, rfl⟩
    obtain ⟨sl270, hsl270⟩ : ∃ z : Slot, z = (if (p5 &&& (3 : Int32)) = (0 : Int32) then (.unset) else (if (p5 &&& (3 : Int32)) = (1 : Int32) then (.unset) else (if (p5 &&& (3 : Int32)) = (2 : Int32) then (.val (.int ((p4 &&& (2147483647 : Int32)) % (3 : Int32)))) else (.unset)))) := ⟨_, rfl⟩
    refine own_pre (A := (T263.setTop (mkF m 238 (own_l76 p0 p1 p2 p3 p4 p5 ca cb cd b255 b261 v269 sl270) []))) ?_ ?_
    · intro t k
      show Steps p.tables e below (T263.setTop (mkF m 151 (own_l68 p0 p1 p2 p3 p4 p5 ca cb cd b255 b261) [(.int (p5 &&& (3 : Int32)))])) _
      by_cases hc264 : (p5 &&& (3 : Int32)) = (0 : Int32)
      · skip
        refine XS.ifNo X263.here hx rfl (hb hby at_151) rfl ((if0 _ _).trans (teq hc264).2) ?_
        refine XS.iload X263.here hx rfl (hb hby at_154) rfl ?_
        refine XS.i2c X263.here hx rfl (hb hby at_156) rfl ?_
        refine XS.istore X263.here hx rfl (hb hby at_157) rfl (l' := (own_l69 p0 p1 p2 p3 p4 p5 ca cb cd b255 b261)) rfl ?_
        refine XS.goto X263.here hx rfl (pc0 := 159) (pc' := 238) rfl (hb hby at_159) (by decide) (by decide) ?_
        rw [show v269 = (p4.toUInt32.toUInt16.toUInt32.toInt32) from hv269.trans (by simp only [if_pos hc264])] at k
        rw [show sl270 = (.unset) from hsl270.trans (by simp only [if_pos hc264])] at k
        exact k
      · skip
        refine XS.ifYes X263.here hx rfl (pc0 := 151) (pc' := 162) rfl (hb hby at_151) rfl ((if0 _ _).trans (feq hc264).2) (by decide) (by decide) ?_
        refine XS.iload X263.here hx rfl (hb hby at_162) rfl ?_
        refine XS.iconst X263.here hx rfl (hb hby at_164) ?_
        show Steps p.tables e below (T263.setTop (mkF m 165 (own_l68 p0 p1 p2 p3 p4 p5 ca cb cd b255 b261) [(.int (1 : Int32)), (.int (p5 &&& (3 : Int32)))])) _
        by_cases hc265 : (p5 &&& (3 : Int32)) = (1 : Int32)
        · skip
          refine XS.icmpNo X263.here hx rfl (hb hby at_165) rfl (teq hc265).2 ?_
          refine XS.iload X263.here hx rfl (hb hby at_168) rfl ?_
          refine XS.bipush X263.here hx rfl (hb hby at_170) ?_
          refine XS.iand X263.here hx rfl (hb hby at_172) rfl ?_
          refine XS.i2c X263.here hx rfl (hb hby at_173) rfl ?_
          refine XS.istore X263.here hx rfl (hb hby at_174) rfl (l' := (own_l70 p0 p1 p2 p3 p4 p5 ca cb cd b255 b261)) rfl ?_
          refine XS.goto X263.here hx rfl (pc0 := 176) (pc' := 238) rfl (hb hby at_176) (by decide) (by decide) ?_
          rw [show v269 = ((p4 &&& (127 : Int32)).toUInt32.toUInt16.toUInt32.toInt32) from hv269.trans (by simp only [if_neg hc264, if_pos hc265])] at k
          rw [show sl270 = (.unset) from hsl270.trans (by simp only [if_neg hc264, if_pos hc265])] at k
          exact k
        · skip
          refine XS.icmpYes X263.here hx rfl (pc0 := 165) (pc' := 179) rfl (hb hby at_165) rfl (feq hc265).2 (by decide) (by decide) ?_
          refine XS.iload X263.here hx rfl (hb hby at_179) rfl ?_
          refine XS.iconst X263.here hx rfl (hb hby at_181) ?_
          show Steps p.tables e below (T263.setTop (mkF m 182 (own_l68 p0 p1 p2 p3 p4 p5 ca cb cd b255 b261) [(.int (2 : Int32)), (.int (p5 &&& (3 : Int32)))])) _
          by_cases hc266 : (p5 &&& (3 : Int32)) = (2 : Int32)
          · skip
            refine XS.icmpNo X263.here hx rfl (hb hby at_182) rfl (teq hc266).2 ?_
            refine XS.iload X263.here hx rfl (hb hby at_185) rfl ?_
            show Steps p.tables e below (T263.setTop (mkF m 187 (own_l68 p0 p1 p2 p3 p4 p5 ca cb cd b255 b261) [(.int p4)])) _
            refine X263.ldcInt hx hown262 (mvT hZ262 (own_w hw 82 rfl)) (g := (mkF m 187 (own_l68 p0 p1 p2 p3 p4 p5 ca cb cd b255 b261) [(.int p4)])) rfl (hb hby at_187) _ ?_
            refine XS.iand X263.here hx rfl (hb hby at_189) rfl ?_
            refine XS.iconst X263.here hx rfl (hb hby at_190) ?_
            show Steps p.tables e below (T263.setTop (mkF m 191 (own_l68 p0 p1 p2 p3 p4 p5 ca cb cd b255 b261) [(.int (3 : Int32)), (.int (p4 &&& (2147483647 : Int32)))])) _
            refine iremM X263 hx rfl (hb hby at_191) rfl (by decide) ?_
            show Steps p.tables e below (T263.setTop (mkF m 192 (own_l68 p0 p1 p2 p3 p4 p5 ca cb cd b255 b261) [(.int ((p4 &&& (2147483647 : Int32)) % (3 : Int32)))])) _
            refine XS.istore X263.here hx rfl (hb hby at_192) rfl (l' := (own_l71 p0 p1 p2 p3 p4 p5 ca cb cd b255 b261)) rfl ?_
            refine XS.iload X263.here hx rfl (hb hby at_194) rfl ?_
            show Steps p.tables e below (T263.setTop (mkF m 196 (own_l71 p0 p1 p2 p3 p4 p5 ca cb cd b255 b261) [(.int ((p4 &&& (2147483647 : Int32)) % (3 : Int32)))])) _
            by_cases hc267 : ((p4 &&& (2147483647 : Int32)) % (3 : Int32)) = (0 : Int32)
            · skip
              refine XS.ifNo X263.here hx rfl (hb hby at_196) rfl ((if0 _ _).trans (teq hc267).2) ?_
              refine XS.iload X263.here hx rfl (hb hby at_199) rfl ?_
              refine XS.istore X263.here hx rfl (hb hby at_201) rfl (l' := (own_l72 p0 p1 p2 p3 p4 p5 ca cb cd b255 b261)) rfl ?_
              refine XS.goto X263.here hx rfl (pc0 := 203) (pc' := 223) rfl (hb hby at_203) (by decide) (by decide) ?_
              refine XS.goto X263.here hx rfl (pc0 := 223) (pc' := 238) rfl (hb hby at_223) (by decide) (by decide) ?_
              rw [show v269 = ca from hv269.trans (by simp only [if_neg hc264, if_neg hc265, if_pos hc266, if_pos hc267])] at k
              rw [show sl270 = (.val (.int ((p4 &&& (2147483647 : Int32)) % (3 : Int32)))) from hsl270.trans (by simp only [if_neg hc264, if_neg hc265, if_pos hc266, if_pos hc267])] at k
              exact k
            · skip
              refine XS.ifYes X263.here hx rfl (pc0 := 196) (pc' := 206) rfl (hb hby at_196) rfl ((if0 _ _).trans (feq hc267).2) (by decide) (by decide) ?_
              refine XS.iload X263.here hx rfl (hb hby at_206) rfl ?_
              refine XS.iconst X263.here hx rfl (hb hby at_208) ?_
              show Steps p.tables e below (T263.setTop (mkF m 209 (own_l71 p0 p1 p2 p3 p4 p5 ca cb cd b255 b261) [(.int (1 : Int32)), (.int ((p4 &&& (2147483647 : Int32)) % (3 : Int32)))])) _
              by_cases hc268 : ((p4 &&& (2147483647 : Int32)) % (3 : Int32)) = (1 : Int32)
              · skip
                refine XS.icmpNo X263.here hx rfl (hb hby at_209) rfl (teq hc268).2 ?_
                refine XS.iload X263.here hx rfl (hb hby at_212) rfl ?_
                refine XS.istore X263.here hx rfl (hb hby at_214) rfl (l' := (own_l73 p0 p1 p2 p3 p4 p5 ca cb cd b255 b261)) rfl ?_
                refine XS.goto X263.here hx rfl (pc0 := 216) (pc' := 223) rfl (hb hby at_216) (by decide) (by decide) ?_
                refine XS.goto X263.here hx rfl (pc0 := 223) (pc' := 238) rfl (hb hby at_223) (by decide) (by decide) ?_
                rw [show v269 = cb from hv269.trans (by simp only [if_neg hc264, if_neg hc265, if_pos hc266, if_neg hc267, if_pos hc268])] at k
                rw [show sl270 = (.val (.int ((p4 &&& (2147483647 : Int32)) % (3 : Int32)))) from hsl270.trans (by simp only [if_neg hc264, if_neg hc265, if_pos hc266, if_neg hc267, if_pos hc268])] at k
                exact k
              · skip
                refine XS.icmpYes X263.here hx rfl (pc0 := 209) (pc' := 219) rfl (hb hby at_209) rfl (feq hc268).2 (by decide) (by decide) ?_
                refine XS.iload X263.here hx rfl (hb hby at_219) rfl ?_
                refine XS.istore X263.here hx rfl (hb hby at_221) rfl (l' := (own_l74 p0 p1 p2 p3 p4 p5 ca cb cd b255 b261)) rfl ?_
                refine XS.goto X263.here hx rfl (pc0 := 223) (pc' := 238) rfl (hb hby at_223) (by decide) (by decide) ?_
                rw [show v269 = cd from hv269.trans (by simp only [if_neg hc264, if_neg hc265, if_pos hc266, if_neg hc267, if_neg hc268])] at k
                rw [show sl270 = (.val (.int ((p4 &&& (2147483647 : Int32)) % (3 : Int32)))) from hsl270.trans (by simp only [if_neg hc264, if_neg hc265, if_pos hc266, if_neg hc267, if_neg hc268])] at k
                exact k
          · skip
            refine XS.icmpYes X263.here hx rfl (pc0 := 182) (pc' := 226) rfl (hb hby at_182) rfl (feq hc266).2 (by decide) (by decide) ?_
            refine XS.sipush X263.here hx rfl (hb hby at_226) ?_
            refine XS.iload X263.here hx rfl (hb hby at_229) rfl ?_
            refine XS.bipush X263.here hx rfl (hb hby at_231) ?_
            refine XS.iand X263.here hx rfl (hb hby at_233) rfl ?_
            refine XS.iadd X263.here hx rfl (hb hby at_234) rfl ?_
            refine XS.i2c X263.here hx rfl (hb hby at_235) rfl ?_
            refine XS.istore X263.here hx rfl (hb hby at_236) rfl (l' := (own_l75 p0 p1 p2 p3 p4 p5 ca cb cd b255 b261)) rfl ?_
            rw [show v269 = (((128 : Int32) + (p4 &&& (127 : Int32))).toUInt32.toUInt16.toUInt32.toInt32) from hv269.trans (by simp only [if_neg hc264, if_neg hc265, if_neg hc266])] at k
            rw [show sl270 = (.unset) from hsl270.trans (by simp only [if_neg hc264, if_neg hc265, if_neg hc266])] at k
            exact k
    refine own_pre (A := (T263.setTop (mkF m 248 (own_l76 p0 p1 p2 p3 p4 p5 ca cb cd b255 b261 v269 sl270) [(.int ca), (.int v269)]))) ?_ ?_
    · intro t k
      refine XS.iload X263.here hx rfl (hb hby at_238) rfl ?_
      refine XS.iconst X263.here hx rfl (hb hby at_240) ?_
      refine XS.icmpNo X263.here hx rfl (hb hby at_241) rfl (flt (by decide : ¬ ((3 : Int32) < (1 : Int32)))).1 ?_
      refine XS.iload X263.here hx rfl (hb hby at_244) rfl ?_
      refine XS.iload X263.here hx rfl (hb hby at_246) rfl ?_
      exact k
    obtain ⟨v274, hv274⟩ : ∃ z : Int32, z = (if v269 = ca then (1 : Int32) else (if v269 = cb then (1 : Int32) else (if v269 = cd then (1 : Int32) else (0 : Int32)))) := ⟨_, rfl⟩
    refine own_pre (A := (T263.setTop (mkF m 282 (own_l76 p0 p1 p2 p3 p4 p5 ca cb cd b255 b261 v269 sl270) [(.int v274)]))) ?_ ?_
    · intro t k
      show Steps p.tables e below (T263.setTop (mkF m 248 (own_l76 p0 p1 p2 p3 p4 p5 ca cb cd b255 b261 v269 sl270) [(.int ca), (.int v269)])) _
      by_cases hc271 : v269 = ca
      · skip
        refine XS.icmpYes X263.here hx rfl (pc0 := 248) (pc' := 277) rfl (hb hby at_248) rfl (teq hc271).1 (by decide) (by decide) ?_
        refine XS.iconst X263.here hx rfl (hb hby at_277) ?_
        refine XS.goto X263.here hx rfl (pc0 := 278) (pc' := 282) rfl (hb hby at_278) (by decide) (by decide) ?_
        rw [show v274 = (1 : Int32) from hv274.trans (by simp only [if_pos hc271])] at k
        exact k
      · skip
        refine XS.icmpNo X263.here hx rfl (hb hby at_248) rfl (feq hc271).1 ?_
        refine XS.iload X263.here hx rfl (hb hby at_251) rfl ?_
        refine XS.iconst X263.here hx rfl (hb hby at_253) ?_
        refine XS.icmpNo X263.here hx rfl (hb hby at_254) rfl (flt (by decide : ¬ ((3 : Int32) < (2 : Int32)))).1 ?_
        refine XS.iload X263.here hx rfl (hb hby at_257) rfl ?_
        refine XS.iload X263.here hx rfl (hb hby at_259) rfl ?_
        show Steps p.tables e below (T263.setTop (mkF m 261 (own_l76 p0 p1 p2 p3 p4 p5 ca cb cd b255 b261 v269 sl270) [(.int cb), (.int v269)])) _
        by_cases hc272 : v269 = cb
        · skip
          refine XS.icmpYes X263.here hx rfl (pc0 := 261) (pc' := 277) rfl (hb hby at_261) rfl (teq hc272).1 (by decide) (by decide) ?_
          refine XS.iconst X263.here hx rfl (hb hby at_277) ?_
          refine XS.goto X263.here hx rfl (pc0 := 278) (pc' := 282) rfl (hb hby at_278) (by decide) (by decide) ?_
          rw [show v274 = (1 : Int32) from hv274.trans (by simp only [if_neg hc271, if_pos hc272])] at k
          exact k
        · skip
          refine XS.icmpNo X263.here hx rfl (hb hby at_261) rfl (feq hc272).1 ?_
          refine XS.iload X263.here hx rfl (hb hby at_264) rfl ?_
          refine XS.iconst X263.here hx rfl (hb hby at_266) ?_
          refine XS.icmpNo X263.here hx rfl (hb hby at_267) rfl (flt (by decide : ¬ ((3 : Int32) < (3 : Int32)))).1 ?_
          refine XS.iload X263.here hx rfl (hb hby at_270) rfl ?_
          refine XS.iload X263.here hx rfl (hb hby at_272) rfl ?_
          show Steps p.tables e below (T263.setTop (mkF m 274 (own_l76 p0 p1 p2 p3 p4 p5 ca cb cd b255 b261 v269 sl270) [(.int cd), (.int v269)])) _
          by_cases hc273 : v269 = cd
          · skip
            refine XS.icmpNo X263.here hx rfl (hb hby at_274) rfl (teq hc273).2 ?_
            refine XS.iconst X263.here hx rfl (hb hby at_277) ?_
            refine XS.goto X263.here hx rfl (pc0 := 278) (pc' := 282) rfl (hb hby at_278) (by decide) (by decide) ?_
            rw [show v274 = (1 : Int32) from hv274.trans (by simp only [if_neg hc271, if_neg hc272, if_pos hc273])] at k
            exact k
          · skip
            refine XS.icmpYes X263.here hx rfl (pc0 := 274) (pc' := 281) rfl (hb hby at_274) rfl (feq hc273).2 (by decide) (by decide) ?_
            refine XS.iconst X263.here hx rfl (hb hby at_281) ?_
            rw [show v274 = (0 : Int32) from hv274.trans (by simp only [if_neg hc271, if_neg hc272, if_neg hc273])] at k
            exact k
    refine own_pre (A := (T263.setTop (mkF m 284 (own_l77 p0 p1 p2 p3 p4 p5 ca cb cd b255 b261 v269 v274) []))) ?_ ?_
    · intro t k
      refine XS.istore X263.here hx rfl (hb hby at_282) rfl (l' := (own_l77 p0 p1 p2 p3 p4 p5 ca cb cd b255 b261 v269 v274)) (by rw [hsl270]; repeat' first | rfl | split) ?_
      exact k
    have hpc : ¬ v269 < (0 : Int32) := by
      rw [hv269]
      repeat' split
      all_goals first | with_reducible exact own_posc _ hp_ca | with_reducible exact own_posc _ hp_cb | with_reducible exact own_posc _ hp_cd | with_reducible exact own_pos _
    refine own_pre (A := (T263.setTop (mkF m 288 (own_l77 p0 p1 p2 p3 p4 p5 ca cb cd b255 b261 v269 v274) [(.int v269), (.ref b261)]))) ?_ ?_
    · intro t k
      refine XS.aload X263.here hx rfl (hb hby at_284) rfl rfl ?_
      refine XS.iload X263.here hx rfl (hb hby at_286) rfl ?_
      exact k
    obtain ⟨cq275, kq275, q275a, q275b, q275c⟩ := isOf hZ262 rfl A261_263
    obtain ⟨_, _, ⟨T275, L275, k275, n275⟩, -, X275, ⟨Lc275, hQ275, l275, y275, z275⟩, st275⟩ := X263.virtualBack hx (y := (⟨"com/example/coho/coho/identifier/CharacterSet", "contains", "(C)Z"⟩ : MethodName)) (z := (⟨"com/example/coho/coho/identifier/CharacterSet", "contains", "(C)Z"⟩ : MethodName)) hown262 (mvT hZ262 (own_w hw 77 rfl)) (mvT hZ262 (own_w hw 78 rfl)) (notFace_of_selects (args := #[]) (mvT hZ262 (own_w hw 80 rfl))) (mvT hZ262 (own_w hw 80 rfl)) (mvT hZ262 (own_w hw 79 rfl)) (by decide) (backOf (W := 0) (rm15_3 l Z a0 hw [] b261 v269 am263 km263 ca cb cd T263.heap n0 Zs263 Fm263 Vm263 hpc) hZ262 (own_w hw 81 rfl) (own_w hw 32 rfl) (by decide) (by decide)) q275a q275c (g := (mkF m 288 (own_l77 p0 p1 p2 p3 p4 p5 ca cb cd b255 b261 v269 v274) [(.int v269), (.ref b261)])) rfl (by rw [hml]; rfl) (Steps.refl _) (argsL := [(.int v269)]) (rest := []) (lenOf own_pd13 rfl) rfl (by show 2 * 0 + _ ≤ _; exact Nat.le_of_eq rfl) (hb hby at_288) (fun _ _ => ⟨rfl, rfl, (by decide : 7 + 0 ≤ _), (by decide : 148 + 0 ≤ _)⟩)
    dsimp only [Pt.U, Pt.locs, Pt.cells, Pt.slots] at X275 l275 y275 z275 st275 hQ275
    replace y275 : _ = 7 := y275
    replace z275 : _ = 148 := z275
    subst y275 z275
    obtain ⟨rfl, Nq275, eq275⟩ := hQ275
    have N275 := own_frl l275 N263 Nq275
    refine own_pre (fun t k => st275.trans k) ?_
    refine own_pre (A := (T275.setTop (mkF m 293 (own_l77 p0 p1 p2 p3 p4 p5 ca cb cd b255 b261 v269 v274) [(.int v274), (.int (own_ctn3 v269 ca cb cd))]))) ?_ ?_
    · intro t k
      refine XS.iload X275.here hx rfl (hb hby at_291) rfl ?_
      exact k
    obtain ⟨v277, hv277⟩ : ∃ z : Int32, z = (if (own_ctn3 v269 ca cb cd) = v274 then (1 : Int32) else (0 : Int32)) := ⟨_, rfl⟩
    refine own_pre (A := (T275.setTop (mkF m 301 (own_l77 p0 p1 p2 p3 p4 p5 ca cb cd b255 b261 v269 v274) [(.int v277)]))) ?_ ?_
    · intro t k
      show Steps p.tables e below (T275.setTop (mkF m 293 (own_l77 p0 p1 p2 p3 p4 p5 ca cb cd b255 b261 v269 v274) [(.int v274), (.int (own_ctn3 v269 ca cb cd))])) _
      by_cases hc276 : (own_ctn3 v269 ca cb cd) = v274
      · skip
        refine XS.icmpNo X275.here hx rfl (hb hby at_293) rfl (teq hc276).2 ?_
        refine XS.iconst X275.here hx rfl (hb hby at_296) ?_
        refine XS.goto X275.here hx rfl (pc0 := 297) (pc' := 301) rfl (hb hby at_297) (by decide) (by decide) ?_
        rw [show v277 = (1 : Int32) from hv277.trans (by simp only [if_pos hc276])] at k
        exact k
      · skip
        refine XS.icmpYes X275.here hx rfl (pc0 := 293) (pc' := 300) rfl (hb hby at_293) rfl (feq hc276).2 (by decide) (by decide) ?_
        refine XS.iconst X275.here hx rfl (hb hby at_300) ?_
        rw [show v277 = (0 : Int32) from hv277.trans (by simp only [if_neg hc276])] at k
        exact k
    have hz : v277 = (1 : Int32) := by rw [hv277, if_pos ((own_fin3 v269 ca cb cd hp_ca hp_cb hp_cd hpc).trans hv274.symm)]
    rw [hz]
    obtain ⟨fs, hr, hrun, hended, hRE⟩ := X275.leaveW (hlocks := BodyLoose.notSynchronized Bd) hS262 (by rw [eq275]; exact hk263) (v := some (.int (1 : Int32))) (fun h => by rw [Bd.returns] at h; cases h)
    refine ⟨_, _, retOut X275 hx Bd.returns rfl (Or.inl ⟨rfl, Or.inr (Or.inl rfl), _, rfl⟩) (hb hby at_301) hr, hrun, hended, _, _, rfl, ?_, hRE.1, hRE.2.1, hRE.2.2.1, hRE.2.2.2.mono (by decide) (by decide)⟩
    show own_Q0 h0 n0 _ T275.heap _
    rw [eq275]
    exact ⟨rfl, N275⟩
set_option maxRecDepth 65536 in
set_option maxHeartbeats 40000000 in
theorem comes_1 {Post : Tables → Env → Array Value → State → Outcome → State → Prop} (hpost : ∀ tb e args s v u, (limb_1_1.after args s (.returned v) u = true ∧ limb_1_2.after args s (.returned v) u = true ∧ True) → ReturnedEndW s (.returned v) u (Jvm.fieldLocs frame_1_writes args s ++ Jvm.arrayLocs frame_1_arrays args s ++ Jvm.staticLocs frame_1_statics s) 24 2432 → Post tb e args s (.returned v) u) :
    ArmFor flags0 classFile x code maxLocals ret World_1 tables_1 room_1 Calls_1 rest_1 Pre_1 Post := by
  intro l hfl _ _ p e ha hc hk s m args below hf hA hF happ hP
  obtain ⟨hcalls, hrest, hpre⟩ := hP
  obtain ⟨-, -, -, hnamed, -, -, -, hat⟩ := (Spec.applies_iff hf).mp happ
  obtain ⟨hg, hn⟩ := and_e (Cond.before_iff.mp (show (Jvm.Cond.and given_1 narrow_1).before args s = true from hpre))
  obtain ⟨gg1, gg2⟩ := and_e hg
  obtain ⟨gg3, gg4⟩ := and_e gg2
  obtain ⟨gg5, gg6⟩ := and_e gg4
  obtain ⟨gg7, gg8⟩ := and_e gg6
  obtain ⟨gg9, gg10⟩ := and_e gg8
  obtain ⟨gg11, gg12⟩ := and_e gg10
  obtain ⟨w0, w1, w2, w3, w4, w5, rfl⟩ : ∃ w0 w1 w2 w3 w4 w5 : Value, args = #[w0, w1, w2, w3, w4, w5] := by
    have hs : args.size = 6 := by simpa [Cond.value, given_1] using gg1
    obtain ⟨L⟩ := args
    match L, hs with
    | [w0, w1, w2, w3, w4, w5], _ => exact ⟨w0, w1, w2, w3, w4, w5, rfl⟩
  have hw := fun d (hd : d ∈ tables_1) => atoms_spec (ws := Jvm.Cond.code x code maxLocals ret :: tables_1) hat d (List.mem_cons_of_mem _ hd)
  obtain ⟨hsets, hown0⟩ := atoms_of _ (rest_1_c_eq ▸ (show rest_1_c.before _ s = true from hrest))
  obtain ⟨g1, eg1⟩ := is_v (Cond.before_iff.mp (hsets _ (List.mem_of_getElem? (i := 1) rfl)))
  have O2 : Sta s s.heap "java/lang/String" "COMPACT_STRINGS" "Z" (.int g1) := Sta.start eg1 (Or.inl (hsets _ (List.mem_of_getElem? (i := 0) rfl)))
  have n5 := not_v (Cond.before_iff.mp (hsets _ (List.mem_of_getElem? (i := 2) rfl)))
  have hG : ¬ (g1 = (0 : Int32)) := gotF (Cond.eq_ints eg1 (Term.int_eval (0))) n5
  obtain ⟨vF, eF, rF⟩ := isR_v (Cond.before_iff.mp (hsets _ (List.mem_of_getElem? (i := 8) rfl)))
  have O4 : Sta s s.heap "jdk/internal/util/Preconditions" "SIOOBE_FORMATTER" "Ljava/util/function/BiFunction;" vF := Sta.start eF (Or.inl (hsets _ (List.mem_of_getElem? (i := 7) rfl)))
  have hEL : EW s _ own_EL := EW.cons (text := "") (own_w hw 83 rfl) (fun c hc => by cases hc) EW.nil
  have hCH : CHv s own_EL s.vm s.heap := CHv.start hEL (fun p hp => by cases List.mem_singleton.mp hp; exact hcalls.1 _ (List.mem_of_getElem? (i := 1) rfl)) (hsets _ (List.mem_of_getElem? (i := 2) rfl)) (own_w hw 19 rfl) (own_w hw 1 rfl)
  obtain ⟨i0, ei0⟩ := is_v gg3
  obtain rfl : w0 = (.int i0) := Option.some.inj ei0
  obtain ⟨i1, ei1⟩ := is_v gg5
  obtain rfl : w1 = (.int i1) := Option.some.inj ei1
  obtain ⟨i2, ei2⟩ := is_v gg7
  obtain rfl : w2 = (.int i2) := Option.some.inj ei2
  obtain ⟨i3, ei3⟩ := is_v gg9
  obtain rfl : w3 = (.int i3) := Option.some.inj ei3
  obtain ⟨i4, ei4⟩ := is_v gg11
  obtain rfl : w4 = (.int i4) := Option.some.inj ei4
  obtain ⟨i5, ei5⟩ := is_v gg12
  obtain rfl : w5 = (.int i5) := Option.some.inj ei5
  obtain ⟨n, o, h1, h2, h3, _, L, rfl, ⟨rfl, N⟩, hq⟩ := rm0 l s _ hw tables_1 i0 i1 i2 i3 i4 i5 g1 vF s.heap s.heap.size (Nat.le_refl _) hEL O2 hG (Old.start s) O4 rF p e ha hc hk s m _ below hf ((Spec.applies_iff_loose hf).mp happ).1 ⟨rfl, State.Warmed39.refl s, rfl, hCH⟩ trivial
  refine ⟨n, _, h1, h2, h3, hpost _ _ _ _ _ _ ⟨Cond.after_iff.mpr rfl, Cond.after_iff.mpr (eq_i res_at (Term.int_eval (1)) rfl), trivial⟩ ⟨hq.1, hq.2.1, hq.2.2.1, (hq.2.2.2.sift fun y hy => Or.inr (N y hy)).mono (by decide) (by decide)⟩⟩
theorem main_1_1 : Claimed_1_1 := comes_1 fun _ _ _ _ _ _ h hF => ⟨h.1, hF⟩
theorem main_1_2 : Claimed_1_2 := comes_1 fun _ _ _ _ _ _ h hF => ⟨h.2.1, hF⟩
end Jvm.Pilot.@@N@@
namespace Jvm.Pilot.@@N@@
open Jvm Jvm.ClassFile Sem Op Lib Jvm.Free Jvm.Stand Jvm.Pilot.@@N@@.Jvm.D
/-! MADE BY PROGRAM (witnessworld.py) out of the Statement's table words and the real class files: 22 classes; the members and pool entries that the words name. The judged class is class 1, her method 1. -/
namespace start1
open Jvm.ClassFile
def u (s : String) : CpInfo := .utf8 (stringToUtf16 s)
/-- a pool by its gaps: so many unusable entries, then the entry; so many at the end -/
def gap : Nat → List CpInfo → List CpInfo
  | 0, r => r
  | n + 1, r => .unusable :: gap n r
def poolList (es : List (Nat × CpInfo)) (last : Nat) : List CpInfo := es.foldr (fun e r => gap e.1 (e.2 :: r)) (gap last [])
def pool (es : List (Nat × CpInfo)) (last : Nat) : Array CpInfo := ⟨poolList es last⟩
def fileOf (pool : Array CpInfo) (this : Nat) (attrs : Array Attribute := #[]) (ms : Array MethodInfo := #[]) (fl : Nat := 33) (sup : Nat := 0) (ifs : Array Nat := #[]) (fds : Array FieldInfo := #[]) : ClassFile where
  minorVersion := 0
  majorVersion := 65
  constantPool := pool
  accessFlags := fl
  thisClass := this
  superClass := sup
  interfaces := ifs
  fields := fds
  methods := ms
  attributes := attrs
def plain (name : String) (sup : Option ClassId) : Class where
  name := name
  kind := .ordinary
  loader := none
  accessFlags := 33
  super := sup
  interfaces := #[]
  cf := none
  fields := #[]
  methods := #[]
  instanceTypes := #[]
  staticTypes := #[]
  resolved := #[]
  callSites := []
  init := .initialized
  statics := none
  mirror := none

def pool0 : Array CpInfo := pool [(5, u "<init>"), (0, u "()V"), (1, .class_ 10), (1, u "java/lang/Object")] 113

def k0c0 : Code := { maxStack := 0, maxLocals := 1, code := object_method_1_code, exceptionTable := #[], attributes := #[] }
def k0m0 : Method := { name := "<init>", desc := "()V", sig := { parameters := [], returnType := none }, accessFlags := 1, code := some k0c0 }
/-- java/lang/Object -/
def k0 : Class := { plain "java/lang/Object" none with
  accessFlags := 33
  interfaces := #[]
  cf := some (fileOf pool0 8 #[] #[{ accessFlags := 1, nameIndex := 5, descriptorIndex := 6, attributes := #[] }] 33 0 #[] #[])
  fields := #[]
  methods := #[k0m0]
  instanceTypes := #[]
  staticTypes := #[]
  resolved := Array.replicate 124 none
  statics := none }

def pool1 : Array CpInfo := pool [(2, .class_ 4), (1, u "java/lang/Object"), (0, u "<init>"), (0, u "()V"), (0, .class_ 8), (0, u "java/lang/String"), (0, .methodref 7 10), (0, .nameAndType 5 11), (0, u "([C)V"), (0, .class_ 13), (0, u "com/example/coho/coho/identifier/CharacterSet"), (0, .string 15), (0, u "x"), (0, .methodref 12 17), (0, .nameAndType 5 18), (0, u "(Ljava/lang/String;Ljava/lang/String;)V"), (0, .integer 2147483647), (0, .methodref 12 21), (0, .nameAndType 22 23), (0, u "contains"), (0, u "(C)Z"), (0, .class_ 25), (0, u "com/example/coho/coho/identifier/CharacterSetContainsPinLaw"), (2, u "law"), (0, u "(IIIIII)Z")] 3

def k1m0 : Method := { name := "<init>", desc := "()V", sig := { parameters := [], returnType := none }, accessFlags := 1, code := none }
def k1c1 : Code := { maxStack := 6, maxLocals := 15, code := code, exceptionTable := #[], attributes := #[] }
def k1m1 : Method := { name := "law", desc := "(IIIIII)Z", sig := { parameters := [.int, .int, .int, .int, .int, .int], returnType := some .boolean }, accessFlags := 9, code := some k1c1 }
/-- com/example/coho/coho/identifier/CharacterSetContainsPinLaw -/
def k1 : Class := { plain "com/example/coho/coho/identifier/CharacterSetContainsPinLaw" (some 0) with
  accessFlags := 49
  interfaces := #[]
  cf := some (fileOf pool1 24 #[] #[{ accessFlags := 1, nameIndex := 5, descriptorIndex := 6, attributes := #[] }, { accessFlags := 9, nameIndex := 28, descriptorIndex := 29, attributes := #[] }] 49 2 #[] #[])
  fields := #[]
  methods := #[k1m0, k1m1]
  instanceTypes := #[]
  staticTypes := #[]
  resolved := Array.replicate 33 none
  statics := none }

def pool2 : Array CpInfo := pool [(1, .class_ 2), (0, u "java/io/Serializable"), (0, .class_ 4), (0, u "java/lang/Object")] 2

/-- java/io/Serializable -/
def k2 : Class := { plain "java/io/Serializable" (some 0) with
  accessFlags := 1537
  interfaces := #[]
  cf := some (fileOf pool2 1 #[] #[] 1537 3 #[] #[])
  fields := #[]
  methods := #[]
  instanceTypes := #[]
  staticTypes := #[]
  resolved := Array.replicate 7 none
  statics := none }

def pool3 : Array CpInfo := pool [(1, .class_ 2), (0, u "java/lang/Comparable"), (0, .class_ 4), (0, u "java/lang/Object")] 7

/-- java/lang/Comparable -/
def k3 : Class := { plain "java/lang/Comparable" (some 0) with
  accessFlags := 1537
  interfaces := #[]
  cf := some (fileOf pool3 1 #[] #[] 1537 3 #[] #[])
  fields := #[]
  methods := #[]
  instanceTypes := #[]
  staticTypes := #[]
  resolved := Array.replicate 12 none
  statics := none }

def pool4 : Array CpInfo := pool [(2, .class_ 4), (1, u "java/lang/CharSequence"), (42, .class_ 48), (0, u "java/lang/CharSequence$1CodePointIterator"), (10, .class_ 60), (0, u "java/lang/CharSequence$1CharIterator"), (5, .class_ 67), (0, u "java/lang/Object")] 63

/-- java/lang/CharSequence -/
def k4 : Class := { plain "java/lang/CharSequence" (some 0) with
  accessFlags := 1537
  interfaces := #[]
  cf := some (fileOf pool4 2 #[.nestMembers #[47, 59]] #[] 1537 66 #[] #[])
  fields := #[]
  methods := #[]
  instanceTypes := #[]
  staticTypes := #[]
  resolved := Array.replicate 131 none
  statics := none }

def pool5 : Array CpInfo := pool [(1, .class_ 2), (0, u "java/lang/constant/Constable"), (0, .class_ 4), (0, u "java/lang/Object")] 6

/-- java/lang/constant/Constable -/
def k5 : Class := { plain "java/lang/constant/Constable" (some 0) with
  accessFlags := 1537
  interfaces := #[]
  cf := some (fileOf pool5 1 #[] #[] 1537 3 #[] #[])
  fields := #[]
  methods := #[]
  instanceTypes := #[]
  staticTypes := #[]
  resolved := Array.replicate 11 none
  statics := none }

def pool6 : Array CpInfo := pool [(1, .class_ 2), (0, u "java/lang/constant/ConstantDesc"), (0, .class_ 4), (0, u "java/lang/Object")] 32

/-- java/lang/constant/ConstantDesc -/
def k6 : Class := { plain "java/lang/constant/ConstantDesc" (some 0) with
  accessFlags := 1537
  interfaces := #[]
  cf := some (fileOf pool6 1 #[] #[] 1537 3 #[] #[])
  fields := #[]
  methods := #[]
  instanceTypes := #[]
  staticTypes := #[]
  resolved := Array.replicate 37 none
  statics := none }

def pool7 : Array CpInfo := pool [(1, .methodref 2 3), (0, .class_ 4), (0, .nameAndType 5 6), (0, u "java/lang/Object"), (0, u "<init>"), (0, u "()V"), (0, .string 8), (0, u ""), (0, .fieldref 10 11), (0, .class_ 12), (0, .nameAndType 13 14), (0, u "java/lang/String"), (0, u "value"), (0, u "[B"), (0, .fieldref 10 16), (0, .nameAndType 17 18), (0, u "coder"), (0, u "B"), (2, u "hash"), (0, u "I"), (2, u "hashIsZero"), (0, u "Z"), (0, .methodref 10 28), (0, .nameAndType 5 29), (0, u "([CIILjava/lang/Void;)V"), (8, .fieldref 10 39), (0, .nameAndType 40 26), (0, u "COMPACT_STRINGS"), (1, .class_ 44), (1, u "java/lang/StringUTF16"), (0, u "compress"), (1, .methodref 42 48), (0, .nameAndType 49 50), (0, u "coderFromArrayLen"), (0, u "([BI)B"), (56, .class_ 109), (1, u "java/lang/StringLatin1"), (32, u "()Z"), (34, .methodref 42 178), (0, .nameAndType 45 179), (0, u "([CII)[B"), (154, u "()I"), (0, .methodref 10 336), (0, .nameAndType 17 337), (0, u "()B"), (25, u "([BI)C"), (27, u "(II)V"), (35, u "(I)C"), (64, .methodref 10 493), (0, .nameAndType 494 142), (0, u "isLatin1"), (0, .methodref 107 496), (0, .nameAndType 497 363), (0, u "charAt"), (3, u "checkIndex"), (5, u "length"), (67, .class_ 576), (0, u "java/lang/CharSequence"), (22, u "CASE_INSENSITIVE_ORDER"), (0, u "Ljava/util/Comparator;"), (409, u "([C)V"), (42, .fieldref 1054 1055), (0, .class_ 1056), (0, .nameAndType 1057 1058), (0, u "jdk/internal/util/Preconditions"), (0, u "SIOOBE_FORMATTER"), (0, u "Ljava/util/function/BiFunction;"), (0, .methodref 1054 1060), (0, .nameAndType 501 1061), (0, u "(IILjava/util/function/BiFunction;)I"), (39, u "serialPersistentFields"), (0, u "[Ljava/io/ObjectStreamField;"), (0, .class_ 1104), (0, u "java/lang/String$CaseInsensitiveComparator"), (1, .class_ 1107), (0, u "java/io/Serializable"), (0, .class_ 1109), (0, u "java/lang/Comparable"), (0, .class_ 1111), (0, u "java/lang/constant/Constable"), (0, .class_ 1113), (0, u "java/lang/constant/ConstantDesc"), (2, u "serialVersionUID"), (0, u "J"), (3, u "REPL"), (0, u "C"), (2, u "LATIN1"), (1, u "UTF16")] 323

def k7m0 : Method := { name := "<init>", desc := "()V", sig := { parameters := [], returnType := none }, accessFlags := 1, code := none }
def k7c1 : Code := { maxStack := 5, maxLocals := 2, code := jdk_42_method_3_code, exceptionTable := #[], attributes := #[] }
def k7m1 : Method := { name := "<init>", desc := "([C)V", sig := { parameters := [(.array .char)], returnType := none }, accessFlags := 1, code := some k7c1 }
def k7c2 : Code := { maxStack := 2, maxLocals := 1, code := jdk_42_method_54_code, exceptionTable := #[], attributes := #[] }
def k7m2 : Method := { name := "length", desc := "()I", sig := { parameters := [], returnType := some .int }, accessFlags := 1, code := some k7c2 }
def k7c3 : Code := { maxStack := 2, maxLocals := 2, code := jdk_42_method_56_code, exceptionTable := #[], attributes := #[] }
def k7m3 : Method := { name := "charAt", desc := "(I)C", sig := { parameters := [.int], returnType := some .char }, accessFlags := 1, code := some k7c3 }
def k7c4 : Code := { maxStack := 4, maxLocals := 6, code := jdk_42_method_149_code, exceptionTable := #[], attributes := #[] }
def k7m4 : Method := { name := "<init>", desc := "([CIILjava/lang/Void;)V", sig := { parameters := [(.array .char), .int, .int, (.object "java/lang/Void")], returnType := none }, accessFlags := 2, code := some k7c4 }
def k7c5 : Code := { maxStack := 1, maxLocals := 1, code := jdk_42_method_152_code, exceptionTable := #[], attributes := #[] }
def k7m5 : Method := { name := "coder", desc := "()B", sig := { parameters := [], returnType := some .byte }, accessFlags := 0, code := some k7c5 }
def k7c6 : Code := { maxStack := 1, maxLocals := 1, code := jdk_42_method_154_code, exceptionTable := #[], attributes := #[] }
def k7m6 : Method := { name := "isLatin1", desc := "()Z", sig := { parameters := [], returnType := some .boolean }, accessFlags := 0, code := some k7c6 }
def k7c7 : Code := { maxStack := 3, maxLocals := 2, code := jdk_42_method_155_code, exceptionTable := #[], attributes := #[] }
def k7m7 : Method := { name := "checkIndex", desc := "(II)V", sig := { parameters := [.int, .int], returnType := none }, accessFlags := 8, code := some k7c7 }
/-- java/lang/String -/
def k7 : Class := { plain "java/lang/String" (some 0) with
  accessFlags := 49
  interfaces := #[2, 3, 4, 5, 6]
  cf := some (fileOf pool7 10 #[.nestMembers #[1103]] #[{ accessFlags := 1, nameIndex := 5, descriptorIndex := 6, attributes := #[] }, { accessFlags := 1, nameIndex := 5, descriptorIndex := 1010, attributes := #[] }, { accessFlags := 1, nameIndex := 507, descriptorIndex := 334, attributes := #[] }, { accessFlags := 1, nameIndex := 497, descriptorIndex := 427, attributes := #[] }, { accessFlags := 2, nameIndex := 5, descriptorIndex := 29, attributes := #[] }, { accessFlags := 0, nameIndex := 17, descriptorIndex := 337, attributes := #[] }, { accessFlags := 0, nameIndex := 494, descriptorIndex := 142, attributes := #[] }, { accessFlags := 8, nameIndex := 501, descriptorIndex := 391, attributes := #[] }] 49 2 #[1106, 1108, 575, 1110, 1112] #[{ accessFlags := 18, nameIndex := 13, descriptorIndex := 14, attributes := #[] }, { accessFlags := 18, nameIndex := 17, descriptorIndex := 18, attributes := #[] }, { accessFlags := 2, nameIndex := 21, descriptorIndex := 22, attributes := #[] }, { accessFlags := 2, nameIndex := 25, descriptorIndex := 26, attributes := #[] }, { accessFlags := 26, nameIndex := 1116, descriptorIndex := 1117, attributes := #[] }, { accessFlags := 24, nameIndex := 40, descriptorIndex := 26, attributes := #[] }, { accessFlags := 26, nameIndex := 1101, descriptorIndex := 1102, attributes := #[] }, { accessFlags := 26, nameIndex := 1121, descriptorIndex := 1122, attributes := #[] }, { accessFlags := 25, nameIndex := 599, descriptorIndex := 600, attributes := #[] }, { accessFlags := 24, nameIndex := 1125, descriptorIndex := 18, attributes := #[] }, { accessFlags := 24, nameIndex := 1127, descriptorIndex := 18, attributes := #[] }])
  fields := #[{ name := "value", type := (.array .byte), accessFlags := 18, slot := 0, constantValue := 0 }, { name := "coder", type := .byte, accessFlags := 18, slot := 1, constantValue := 0 }, { name := "hash", type := .int, accessFlags := 2, slot := 2, constantValue := 0 }, { name := "hashIsZero", type := .boolean, accessFlags := 2, slot := 3, constantValue := 0 }, { name := "serialVersionUID", type := .long, accessFlags := 26, slot := 0, constantValue := 0 }, { name := "COMPACT_STRINGS", type := .boolean, accessFlags := 24, slot := 1, constantValue := 0 }, { name := "serialPersistentFields", type := (.array (.object "java/io/ObjectStreamField")), accessFlags := 26, slot := 2, constantValue := 0 }, { name := "REPL", type := .char, accessFlags := 26, slot := 3, constantValue := 0 }, { name := "CASE_INSENSITIVE_ORDER", type := (.object "java/util/Comparator"), accessFlags := 25, slot := 4, constantValue := 0 }, { name := "LATIN1", type := .byte, accessFlags := 24, slot := 5, constantValue := 0 }, { name := "UTF16", type := .byte, accessFlags := 24, slot := 6, constantValue := 0 }]
  methods := #[k7m0, k7m1, k7m2, k7m3, k7m4, k7m5, k7m6, k7m7]
  instanceTypes := #[(.array .byte), .byte, .int, .boolean]
  staticTypes := #[.long, .boolean, (.array (.object "java/io/ObjectStreamField")), .char, (.object "java/util/Comparator"), .byte, .byte]
  resolved := Array.replicate 1451 none
  statics := some 0 }

def pool8 : Array CpInfo := pool [(6, .class_ 8), (1, u "java/lang/Object"), (0, u "<init>"), (0, u "()V"), (1, .class_ 14), (1, u "java/lang/StringUTF16"), (31, u "$assertionsDisabled"), (0, u "Z"), (13, u "HI_BYTE_SHIFT"), (0, u "I"), (2, u "LO_BYTE_SHIFT"), (49, .methodref 12 116), (0, .nameAndType 117 118), (0, u "compress"), (0, u "([CI[BII)I"), (3, u "([CII)[B"), (138, u "coderFromArrayLen"), (0, u "([BI)B"), (106, .class_ 371), (1, u "java/lang/StringUTF16$LinesSpliterator"), (58, u "MAX_LENGTH"), (196, .class_ 628), (0, u "java/lang/StringUTF16$CodePointsSpliterator"), (0, .class_ 630), (0, u "java/lang/StringUTF16$CharsSpliterator")] 4

def k8m0 : Method := { name := "<init>", desc := "()V", sig := { parameters := [], returnType := none }, accessFlags := 0, code := none }
def k8c1 : Code := { maxStack := 2, maxLocals := 2, code := jdk_52_method_15_code, exceptionTable := #[], attributes := #[] }
def k8m1 : Method := { name := "coderFromArrayLen", desc := "([BI)B", sig := { parameters := [(.array .byte), .int], returnType := some .byte }, accessFlags := 8, code := some k8c1 }
def k8c2 : Code := { maxStack := 5, maxLocals := 6, code := jdk_52_method_16_code, exceptionTable := #[], attributes := #[] }
def k8m2 : Method := { name := "compress", desc := "([CII)[B", sig := { parameters := [(.array .char), .int, .int], returnType := some (.array .byte) }, accessFlags := 9, code := some k8c2 }
def k8c3 : Code := { maxStack := 3, maxLocals := 7, code := jdk_52_method_21_code, exceptionTable := #[], attributes := #[] }
def k8m3 : Method := { name := "compress", desc := "([CI[BII)I", sig := { parameters := [(.array .char), .int, (.array .byte), .int, .int], returnType := some .int }, accessFlags := 9, code := some k8c3 }
/-- java/lang/StringUTF16 -/
def k8 : Class := { plain "java/lang/StringUTF16" (some 0) with
  accessFlags := 48
  interfaces := #[]
  cf := some (fileOf pool8 12 #[.nestMembers #[627, 629, 369]] #[{ accessFlags := 0, nameIndex := 9, descriptorIndex := 10, attributes := #[] }, { accessFlags := 8, nameIndex := 261, descriptorIndex := 262, attributes := #[] }, { accessFlags := 9, nameIndex := 117, descriptorIndex := 122, attributes := #[] }, { accessFlags := 9, nameIndex := 117, descriptorIndex := 118, attributes := #[] }] 48 6 #[] #[{ accessFlags := 26, nameIndex := 61, descriptorIndex := 62, attributes := #[] }, { accessFlags := 26, nameIndex := 65, descriptorIndex := 62, attributes := #[] }, { accessFlags := 24, nameIndex := 430, descriptorIndex := 62, attributes := #[] }, { accessFlags := 4120, nameIndex := 46, descriptorIndex := 47, attributes := #[] }])
  fields := #[{ name := "HI_BYTE_SHIFT", type := .int, accessFlags := 26, slot := 0, constantValue := 0 }, { name := "LO_BYTE_SHIFT", type := .int, accessFlags := 26, slot := 1, constantValue := 0 }, { name := "MAX_LENGTH", type := .int, accessFlags := 24, slot := 2, constantValue := 0 }, { name := "$assertionsDisabled", type := .boolean, accessFlags := 4120, slot := 3, constantValue := 0 }]
  methods := #[k8m0, k8m1, k8m2, k8m3]
  instanceTypes := #[]
  staticTypes := #[.int, .int, .int, .boolean]
  resolved := Array.replicate 635 none
  statics := none }

def pool9 : Array CpInfo := pool [(1, .methodref 2 3), (0, .class_ 4), (0, .nameAndType 5 6), (0, u "java/lang/Object"), (0, u "<init>"), (0, u "()V"), (0, .fieldref 8 9), (0, .class_ 10), (0, .nameAndType 11 12), (0, u "com/example/coho/coho/identifier/CharacterSet"), (0, u "members"), (0, u "[Z"), (0, .methodref 14 15), (0, .class_ 16), (0, .nameAndType 17 18), (0, u "java/lang/String"), (0, u "length"), (0, u "()I"), (0, .methodref 14 20), (0, .nameAndType 21 22), (0, u "charAt"), (0, u "(I)C"), (0, .fieldref 8 24), (0, .nameAndType 25 26), (0, u "description"), (0, u "Ljava/lang/String;"), (2, u "contains"), (0, u "(C)Z"), (20, u "(Ljava/lang/String;Ljava/lang/String;)V"), (0, u "LETTERS"), (3, u "DIGITS")] 9

def k9c0 : Code := { maxStack := 3, maxLocals := 4, code := prog_40_method_1_code, exceptionTable := #[], attributes := #[] }
def k9m0 : Method := { name := "<init>", desc := "(Ljava/lang/String;Ljava/lang/String;)V", sig := { parameters := [(.object "java/lang/String"), (.object "java/lang/String")], returnType := none }, accessFlags := 0, code := some k9c0 }
def k9c1 : Code := { maxStack := 2, maxLocals := 2, code := prog_40_method_2_code, exceptionTable := #[], attributes := #[] }
def k9m1 : Method := { name := "contains", desc := "(C)Z", sig := { parameters := [.char], returnType := some .boolean }, accessFlags := 0, code := some k9c1 }
/-- com/example/coho/coho/identifier/CharacterSet -/
def k9 : Class := { plain "com/example/coho/coho/identifier/CharacterSet" (some 0) with
  accessFlags := 32
  interfaces := #[]
  cf := some (fileOf pool9 8 #[] #[{ accessFlags := 0, nameIndex := 5, descriptorIndex := 51, attributes := #[] }, { accessFlags := 0, nameIndex := 29, descriptorIndex := 30, attributes := #[] }] 32 2 #[] #[{ accessFlags := 24, nameIndex := 52, descriptorIndex := 26, attributes := #[] }, { accessFlags := 24, nameIndex := 56, descriptorIndex := 26, attributes := #[] }, { accessFlags := 18, nameIndex := 11, descriptorIndex := 12, attributes := #[] }, { accessFlags := 18, nameIndex := 25, descriptorIndex := 26, attributes := #[] }])
  fields := #[{ name := "LETTERS", type := (.object "java/lang/String"), accessFlags := 24, slot := 0, constantValue := 0 }, { name := "DIGITS", type := (.object "java/lang/String"), accessFlags := 24, slot := 1, constantValue := 0 }, { name := "members", type := (.array .boolean), accessFlags := 18, slot := 0, constantValue := 0 }, { name := "description", type := (.object "java/lang/String"), accessFlags := 18, slot := 1, constantValue := 0 }]
  methods := #[k9m0, k9m1]
  instanceTypes := #[(.array .boolean), (.object "java/lang/String")]
  staticTypes := #[(.object "java/lang/String"), (.object "java/lang/String")]
  resolved := Array.replicate 66 none
  statics := none }

def pool10 : Array CpInfo := pool [(1, .class_ 2), (0, u "java/lang/String"), (1, .class_ 6), (1, u "java/lang/Object"), (0, u "<init>"), (0, u "()V"), (0, .methodref 1 10), (0, .nameAndType 11 12), (0, u "checkIndex"), (0, u "(II)V"), (1, .class_ 16), (1, u "java/lang/StringLatin1"), (36, u "([BI)C"), (67, u "$assertionsDisabled"), (0, u "Z"), (98, .class_ 223), (1, u "java/lang/StringLatin1$LinesSpliterator"), (28, u "charAt"), (137, .class_ 391), (0, u "java/lang/StringLatin1$CharsSpliterator")] 3

def k10m0 : Method := { name := "<init>", desc := "()V", sig := { parameters := [], returnType := none }, accessFlags := 0, code := none }
def k10c1 : Code := { maxStack := 2, maxLocals := 2, code := jdk_43_method_2_code, exceptionTable := #[], attributes := #[] }
def k10m1 : Method := { name := "charAt", desc := "([BI)C", sig := { parameters := [(.array .byte), .int], returnType := some .char }, accessFlags := 9, code := some k10c1 }
/-- java/lang/StringLatin1 -/
def k10 : Class := { plain "java/lang/StringLatin1" (some 0) with
  accessFlags := 48
  interfaces := #[]
  cf := some (fileOf pool10 14 #[.nestMembers #[390, 221]] #[{ accessFlags := 0, nameIndex := 7, descriptorIndex := 8, attributes := #[] }, { accessFlags := 9, nameIndex := 252, descriptorIndex := 53, attributes := #[] }] 48 4 #[] #[{ accessFlags := 4120, nameIndex := 121, descriptorIndex := 122, attributes := #[] }])
  fields := #[{ name := "$assertionsDisabled", type := .boolean, accessFlags := 4120, slot := 0, constantValue := 0 }]
  methods := #[k10m0, k10m1]
  instanceTypes := #[]
  staticTypes := #[.boolean]
  resolved := Array.replicate 395 none
  statics := none }

def pool11 : Array CpInfo := pool [(2, .class_ 4), (1, u "java/lang/Object"), (0, u "<init>"), (0, u "()V"), (17, .class_ 26), (1, u "jdk/internal/util/Preconditions"), (6, u "checkIndex"), (21, .class_ 56), (0, u "jdk/internal/util/Preconditions$4"), (57, .class_ 115), (0, u "jdk/internal/util/Preconditions$1"), (7, u "SIOOBE_FORMATTER"), (0, u "Ljava/util/function/BiFunction;"), (0, .class_ 126), (0, u "jdk/internal/util/Preconditions$2"), (3, u "AIOOBE_FORMATTER"), (0, .class_ 132), (0, u "jdk/internal/util/Preconditions$3"), (3, u "IOOBE_FORMATTER"), (41, u "(IILjava/util/function/BiFunction;)I")] 15

def k11m0 : Method := { name := "<init>", desc := "()V", sig := { parameters := [], returnType := none }, accessFlags := 1, code := none }
def k11c1 : Code := { maxStack := 3, maxLocals := 3, code := jdk_41_method_11_code, exceptionTable := #[], attributes := #[] }
def k11m1 : Method := { name := "checkIndex", desc := "(IILjava/util/function/BiFunction;)I", sig := { parameters := [.int, .int, (.object "java/util/function/BiFunction")], returnType := some .int }, accessFlags := 9, code := some k11c1 }
/-- jdk/internal/util/Preconditions -/
def k11 : Class := { plain "jdk/internal/util/Preconditions" (some 0) with
  accessFlags := 33
  interfaces := #[]
  cf := some (fileOf pool11 24 #[.nestMembers #[55, 131, 125, 114]] #[{ accessFlags := 1, nameIndex := 5, descriptorIndex := 6, attributes := #[] }, { accessFlags := 9, nameIndex := 33, descriptorIndex := 178, attributes := #[] }] 33 2 #[] #[{ accessFlags := 25, nameIndex := 123, descriptorIndex := 124, attributes := #[] }, { accessFlags := 25, nameIndex := 130, descriptorIndex := 124, attributes := #[] }, { accessFlags := 25, nameIndex := 136, descriptorIndex := 124, attributes := #[] }])
  fields := #[{ name := "SIOOBE_FORMATTER", type := (.object "java/util/function/BiFunction"), accessFlags := 25, slot := 0, constantValue := 0 }, { name := "AIOOBE_FORMATTER", type := (.object "java/util/function/BiFunction"), accessFlags := 25, slot := 1, constantValue := 0 }, { name := "IOOBE_FORMATTER", type := (.object "java/util/function/BiFunction"), accessFlags := 25, slot := 2, constantValue := 0 }]
  methods := #[k11m0, k11m1]
  instanceTypes := #[]
  staticTypes := #[(.object "java/util/function/BiFunction"), (.object "java/util/function/BiFunction"), (.object "java/util/function/BiFunction")]
  resolved := Array.replicate 194 none
  statics := some 1 }

def pool12 : Array CpInfo := pool [(9, u "<init>"), (6, .class_ 18), (1, u "java/lang/Object"), (0, u "()V"), (1, .class_ 23), (1, u "jdk/internal/util/ArraysSupport"), (0, u "LOG2_ARRAY_LONG_INDEX_SCALE"), (0, u "I"), (2, u "U"), (0, u "Ljdk/internal/misc/Unsafe;"), (8, u "BIG_ENDIAN"), (0, u "Z"), (8, u "LOG2_BYTE_BIT_SIZE"), (4, u "LOG2_ARRAY_INT_INDEX_SCALE"), (54, u "JLA"), (0, u "Ljdk/internal/access/JavaLangAccess;"), (11, u "LOG2_ARRAY_BOOLEAN_INDEX_SCALE"), (9, u "LOG2_ARRAY_BYTE_INDEX_SCALE"), (5, u "LOG2_ARRAY_CHAR_INDEX_SCALE"), (5, u "LOG2_ARRAY_SHORT_INDEX_SCALE"), (18, u "LOG2_ARRAY_FLOAT_INDEX_SCALE"), (24, u "LOG2_ARRAY_DOUBLE_INDEX_SCALE"), (89, u "T_BOOLEAN"), (2, u "T_CHAR"), (1, u "T_FLOAT"), (1, u "T_DOUBLE"), (1, u "T_BYTE"), (1, u "T_SHORT"), (1, u "T_INT"), (1, u "T_LONG"), (1, u "SOFT_MAX_ARRAY_LENGTH")] 83

def k12m0 : Method := { name := "<init>", desc := "()V", sig := { parameters := [], returnType := none }, accessFlags := 2, code := none }
/-- jdk/internal/util/ArraysSupport -/
def k12 : Class := { plain "jdk/internal/util/ArraysSupport" (some 0) with
  accessFlags := 33
  interfaces := #[]
  cf := some (fileOf pool12 21 #[] #[{ accessFlags := 2, nameIndex := 9, descriptorIndex := 19, attributes := #[] }] 33 16 #[] #[{ accessFlags := 24, nameIndex := 28, descriptorIndex := 29, attributes := #[] }, { accessFlags := 26, nameIndex := 38, descriptorIndex := 39, attributes := #[] }, { accessFlags := 25, nameIndex := 121, descriptorIndex := 25, attributes := #[] }, { accessFlags := 25, nameIndex := 131, descriptorIndex := 25, attributes := #[] }, { accessFlags := 25, nameIndex := 137, descriptorIndex := 25, attributes := #[] }, { accessFlags := 25, nameIndex := 143, descriptorIndex := 25, attributes := #[] }, { accessFlags := 25, nameIndex := 53, descriptorIndex := 25, attributes := #[] }, { accessFlags := 25, nameIndex := 24, descriptorIndex := 25, attributes := #[] }, { accessFlags := 25, nameIndex := 162, descriptorIndex := 25, attributes := #[] }, { accessFlags := 25, nameIndex := 187, descriptorIndex := 25, attributes := #[] }, { accessFlags := 26, nameIndex := 48, descriptorIndex := 25, attributes := #[] }, { accessFlags := 25, nameIndex := 277, descriptorIndex := 25, attributes := #[] }, { accessFlags := 25, nameIndex := 280, descriptorIndex := 25, attributes := #[] }, { accessFlags := 25, nameIndex := 282, descriptorIndex := 25, attributes := #[] }, { accessFlags := 25, nameIndex := 284, descriptorIndex := 25, attributes := #[] }, { accessFlags := 25, nameIndex := 286, descriptorIndex := 25, attributes := #[] }, { accessFlags := 25, nameIndex := 288, descriptorIndex := 25, attributes := #[] }, { accessFlags := 25, nameIndex := 290, descriptorIndex := 25, attributes := #[] }, { accessFlags := 25, nameIndex := 292, descriptorIndex := 25, attributes := #[] }, { accessFlags := 26, nameIndex := 108, descriptorIndex := 109, attributes := #[] }, { accessFlags := 25, nameIndex := 294, descriptorIndex := 25, attributes := #[] }])
  fields := #[{ name := "U", type := (.object "jdk/internal/misc/Unsafe"), accessFlags := 24, slot := 0, constantValue := 0 }, { name := "BIG_ENDIAN", type := .boolean, accessFlags := 26, slot := 1, constantValue := 0 }, { name := "LOG2_ARRAY_BOOLEAN_INDEX_SCALE", type := .int, accessFlags := 25, slot := 2, constantValue := 0 }, { name := "LOG2_ARRAY_BYTE_INDEX_SCALE", type := .int, accessFlags := 25, slot := 3, constantValue := 0 }, { name := "LOG2_ARRAY_CHAR_INDEX_SCALE", type := .int, accessFlags := 25, slot := 4, constantValue := 0 }, { name := "LOG2_ARRAY_SHORT_INDEX_SCALE", type := .int, accessFlags := 25, slot := 5, constantValue := 0 }, { name := "LOG2_ARRAY_INT_INDEX_SCALE", type := .int, accessFlags := 25, slot := 6, constantValue := 0 }, { name := "LOG2_ARRAY_LONG_INDEX_SCALE", type := .int, accessFlags := 25, slot := 7, constantValue := 0 }, { name := "LOG2_ARRAY_FLOAT_INDEX_SCALE", type := .int, accessFlags := 25, slot := 8, constantValue := 0 }, { name := "LOG2_ARRAY_DOUBLE_INDEX_SCALE", type := .int, accessFlags := 25, slot := 9, constantValue := 0 }, { name := "LOG2_BYTE_BIT_SIZE", type := .int, accessFlags := 26, slot := 10, constantValue := 0 }, { name := "T_BOOLEAN", type := .int, accessFlags := 25, slot := 11, constantValue := 0 }, { name := "T_CHAR", type := .int, accessFlags := 25, slot := 12, constantValue := 0 }, { name := "T_FLOAT", type := .int, accessFlags := 25, slot := 13, constantValue := 0 }, { name := "T_DOUBLE", type := .int, accessFlags := 25, slot := 14, constantValue := 0 }, { name := "T_BYTE", type := .int, accessFlags := 25, slot := 15, constantValue := 0 }, { name := "T_SHORT", type := .int, accessFlags := 25, slot := 16, constantValue := 0 }, { name := "T_INT", type := .int, accessFlags := 25, slot := 17, constantValue := 0 }, { name := "T_LONG", type := .int, accessFlags := 25, slot := 18, constantValue := 0 }, { name := "JLA", type := (.object "jdk/internal/access/JavaLangAccess"), accessFlags := 26, slot := 19, constantValue := 0 }, { name := "SOFT_MAX_ARRAY_LENGTH", type := .int, accessFlags := 25, slot := 20, constantValue := 0 }]
  methods := #[k12m0]
  instanceTypes := #[]
  staticTypes := #[(.object "jdk/internal/misc/Unsafe"), .boolean, .int, .int, .int, .int, .int, .int, .int, .int, .int, .int, .int, .int, .int, .int, .int, .int, .int, (.object "jdk/internal/access/JavaLangAccess"), .int]
  resolved := Array.replicate 378 none
  statics := none }

def pool13 : Array CpInfo := pool [(1, u "java/lang/Cloneable"), (0, .class_ 1), (0, u "java/lang/Object"), (0, .class_ 3)] 3

/-- java/lang/Cloneable -/
def k13 : Class := { plain "java/lang/Cloneable" (some 0) with
  accessFlags := 1537
  interfaces := #[]
  cf := some (fileOf pool13 2 #[] #[] 1537 4 #[] #[])
  fields := #[]
  methods := #[]
  instanceTypes := #[]
  staticTypes := #[]
  resolved := Array.replicate 8 none
  statics := none }

/-- the primitive boolean -/
def k14 : Class := { plain "boolean" none with kind := .primitive 'Z', accessFlags := 0x411 }
/-- [Z -/
def k15 : Class := { plain "[Z" (some 0) with kind := .array 14 .boolean, interfaces := #[13, 2], accessFlags := 1041 }

/-- the primitive byte -/
def k16 : Class := { plain "byte" none with kind := .primitive 'B', accessFlags := 0x411 }
/-- [B -/
def k17 : Class := { plain "[B" (some 0) with kind := .array 16 .byte, interfaces := #[13, 2], accessFlags := 1041 }

/-- the primitive char -/
def k18 : Class := { plain "char" none with kind := .primitive 'C', accessFlags := 0x411 }
/-- [C -/
def k19 : Class := { plain "[C" (some 0) with kind := .array 18 .char, interfaces := #[13, 2], accessFlags := 1041 }

/-- the primitive int -/
def k20 : Class := { plain "int" none with kind := .primitive 'I', accessFlags := 0x411 }
/-- [I -/
def k21 : Class := { plain "[I" (some 0) with kind := .array 20 .int, interfaces := #[13, 2], accessFlags := 1041 }

def heap : Heap := #[{ cls := 7, slots := #[.long 0, .int 1, .null, .int 0, .null, .int 0, .int 0], vm := .statics 7 },
  { cls := 11, slots := #[.null, .null, .null], vm := .statics 11 }]
def classes : Array Class := #[k0, k1, k2, k3, k4, k5, k6, k7, k8, k9, k10, k11, k12, k13, k14, k15, k16, k17, k18, k19, k20, k21]
def interned : List (Array UInt16 × Addr) := []
def slotsUsed : Nat := 10
def theMethod : MethodId := ⟨1, 1⟩
def args0 : Array Value := #[.int 5, .int 7, .int 9, .int 3, .int 4, .int 6]
def aboutOver (below : List Frame) : State where
  vm := { classes := classes, interned := interned.toArray }
  heap := heap
  slotsUsed := slotsUsed
  threads := #[{ frames := .invoking theMethod args0 :: below }]
def below0 : List Frame := [.native { method := ⟨0, 0⟩, args := #[] }]
def about1 : State := aboutOver below0
def p0 : Program := .bare "" "" ""
def e0 : Env := launch0.env 0 0 0
theorem w_frames : about1.frames = Frame.invoking theMethod args0 :: below0 := rfl
set_option maxRecDepth 65536 in
theorem w_args : argsFit about1.vm theMethod args0 = true := by decide +kernel
set_option maxRecDepth 65536 in
theorem w_heap : heapFits about1 = true := by decide +kernel
set_option maxRecDepth 65536 in
theorem w_runnable : about1.curStatus? = some .runnable := by decide +kernel
set_option maxRecDepth 65536 in
theorem w_alone : about1.alone = true := by decide +kernel
set_option maxRecDepth 65536 in
theorem w_named : about1.methodNamed? x = some theMethod := by decide +kernel
set_option maxRecDepth 65536 in
theorem w_hears : about1.hears theMethod below0 = true := by decide +kernel
set_option maxRecDepth 65536 in
theorem w_ripe : about1.ripe theMethod args0 below0 = true := by decide +kernel
theorem w_running : about1.status = .running := rfl
set_option maxRecDepth 65536 in
theorem w_room : about1.hasRoom e0.platform room_1 = true :=
  launch0.hasRoom_least _ room_1 (by decide +kernel) (by decide +kernel) (by decide +kernel) (by decide +kernel) (by decide +kernel) (by decide +kernel)
theorem allAtoms_all (ts : List Jvm.Cond) (a : Array Jvm.Value) (st : Jvm.State) : (allAtoms ts).before a st = ts.all (fun c => c.before a st) := by
  induction ts with
  | nil => rfl
  | cons c t ih =>
    show (Jvm.Cond.and c (allAtoms t)).before a st = _
    rw [Jvm.Cond.before_and, ih, List.all_cons]
def words1 : List Jvm.Cond := Jvm.Cond.code x code maxLocals ret :: tables_1
/-- a 'code' word, met by the world's own term for the bytes: nothing is compared byte by byte -/
theorem code_word {y : MethodName} {bytes : ByteArray} {mx : Nat} {rt : Option FieldType} {a : Array Value} {s : State} {m : MethodId} {meth : Method} {c : Code} (h1 : s.methodNamed? y = some m) (h2 : s.vm.method? m = some meth) (h3 : meth.code = some c) (h4 : c.code = bytes)
    (h5 : (c.maxLocals == mx && c.exceptionTable.isEmpty && decide (c.maxStack ≤ mostOperands) && decide (meth.sig.returnType = rt) && !meth.locks && decide (parseMethodDescriptor y.desc = some meth.sig)) = true) : (Jvm.Cond.code y bytes mx rt).before a s = true := by
  simp only [Bool.and_eq_true, beq_iff_eq, Bool.not_eq_true', decide_eq_true_eq] at h5
  obtain ⟨⟨⟨⟨⟨g1, g2⟩, g3⟩, g4⟩, g5⟩, g6⟩ := h5
  simp [Cond.before, Cond.holds, Cond.value, h1, h2, h3, h4, g1, g2, g3, g4, g5, g6]
def isCode : Jvm.Cond → Bool
  | .code _ _ _ _ => true
  | _ => false
theorem all_split {L : List Jvm.Cond} {P : Jvm.Cond → Bool} (h1 : L.all (fun c => isCode c || P c) = true) (h2 : ∀ c ∈ L.filter isCode, P c = true) : L.all P = true := by
  refine List.all_eq_true.mpr fun c hc => ?_
  have h := List.all_eq_true.mp h1 c hc
  rcases Bool.eq_false_or_eq_true (isCode c) with hi | hi
  · exact h2 c (List.mem_filter.mpr ⟨hc, hi⟩)
  · simpa [hi] using h
set_option maxRecDepth 65536 in
theorem w_c0 : (Jvm.Cond.code x code maxLocals ret).before args0 about1 = true := code_word (m := ⟨1, 1⟩) (meth := k1m1) (c := k1c1) (by decide +kernel) rfl rfl rfl (by decide +kernel)
set_option maxRecDepth 65536 in
theorem w_c1 : (Jvm.Cond.code ({ cls := "java/lang/String", name := "<init>", desc := "([C)V" } : Jvm.MethodName) jdk_42_method_3_code (2 : Nat) (Option.none : Option Jvm.ClassFile.FieldType)).before args0 about1 = true := code_word (m := ⟨7, 1⟩) (meth := k7m1) (c := k7c1) (by decide +kernel) rfl rfl rfl (by decide +kernel)
set_option maxRecDepth 65536 in
theorem w_c2 : (Jvm.Cond.code ({ cls := "java/lang/String", name := "<init>", desc := "([CIILjava/lang/Void;)V" } : Jvm.MethodName) jdk_42_method_149_code (6 : Nat) (Option.none : Option Jvm.ClassFile.FieldType)).before args0 about1 = true := code_word (m := ⟨7, 4⟩) (meth := k7m4) (c := k7c4) (by decide +kernel) rfl rfl rfl (by decide +kernel)
set_option maxRecDepth 65536 in
theorem w_c3 : (Jvm.Cond.code ({ cls := "java/lang/Object", name := "<init>", desc := "()V" } : Jvm.MethodName) object_method_1_code (1 : Nat) (Option.none : Option Jvm.ClassFile.FieldType)).before args0 about1 = true := code_word (m := ⟨0, 0⟩) (meth := k0m0) (c := k0c0) (by decide +kernel) rfl rfl rfl (by decide +kernel)
set_option maxRecDepth 65536 in
theorem w_c4 : (Jvm.Cond.code ({ cls := "java/lang/StringUTF16", name := "compress", desc := "([CII)[B" } : Jvm.MethodName) jdk_52_method_16_code (6 : Nat) (Option.some (Jvm.ClassFile.FieldType.array Jvm.ClassFile.FieldType.byte))).before args0 about1 = true := code_word (m := ⟨8, 2⟩) (meth := k8m2) (c := k8c2) (by decide +kernel) rfl rfl rfl (by decide +kernel)
set_option maxRecDepth 65536 in
theorem w_c5 : (Jvm.Cond.code ({ cls := "java/lang/StringUTF16", name := "compress", desc := "([CI[BII)I" } : Jvm.MethodName) jdk_52_method_21_code (7 : Nat) (Option.some Jvm.ClassFile.FieldType.int)).before args0 about1 = true := code_word (m := ⟨8, 3⟩) (meth := k8m3) (c := k8c3) (by decide +kernel) rfl rfl rfl (by decide +kernel)
set_option maxRecDepth 65536 in
theorem w_c6 : (Jvm.Cond.code ({ cls := "java/lang/StringUTF16", name := "coderFromArrayLen", desc := "([BI)B" } : Jvm.MethodName) jdk_52_method_15_code (2 : Nat) (Option.some Jvm.ClassFile.FieldType.byte)).before args0 about1 = true := code_word (m := ⟨8, 1⟩) (meth := k8m1) (c := k8c1) (by decide +kernel) rfl rfl rfl (by decide +kernel)
set_option maxRecDepth 65536 in
theorem w_c7 : (Jvm.Cond.code ({ cls := "com/example/coho/coho/identifier/CharacterSet", name := "<init>", desc := "(Ljava/lang/String;Ljava/lang/String;)V" } : Jvm.MethodName) prog_40_method_1_code (4 : Nat) (Option.none : Option Jvm.ClassFile.FieldType)).before args0 about1 = true := code_word (m := ⟨9, 0⟩) (meth := k9m0) (c := k9c0) (by decide +kernel) rfl rfl rfl (by decide +kernel)
set_option maxRecDepth 65536 in
theorem w_c8 : (Jvm.Cond.code ({ cls := "java/lang/String", name := "length", desc := "()I" } : Jvm.MethodName) jdk_42_method_54_code (1 : Nat) (Option.some Jvm.ClassFile.FieldType.int)).before args0 about1 = true := code_word (m := ⟨7, 2⟩) (meth := k7m2) (c := k7c2) (by decide +kernel) rfl rfl rfl (by decide +kernel)
set_option maxRecDepth 65536 in
theorem w_c9 : (Jvm.Cond.code ({ cls := "java/lang/String", name := "coder", desc := "()B" } : Jvm.MethodName) jdk_42_method_152_code (1 : Nat) (Option.some Jvm.ClassFile.FieldType.byte)).before args0 about1 = true := code_word (m := ⟨7, 5⟩) (meth := k7m5) (c := k7c5) (by decide +kernel) rfl rfl rfl (by decide +kernel)
set_option maxRecDepth 65536 in
theorem w_c10 : (Jvm.Cond.code ({ cls := "java/lang/String", name := "charAt", desc := "(I)C" } : Jvm.MethodName) jdk_42_method_56_code (2 : Nat) (Option.some Jvm.ClassFile.FieldType.char)).before args0 about1 = true := code_word (m := ⟨7, 3⟩) (meth := k7m3) (c := k7c3) (by decide +kernel) rfl rfl rfl (by decide +kernel)
set_option maxRecDepth 65536 in
theorem w_c11 : (Jvm.Cond.code ({ cls := "java/lang/String", name := "isLatin1", desc := "()Z" } : Jvm.MethodName) jdk_42_method_154_code (1 : Nat) (Option.some Jvm.ClassFile.FieldType.boolean)).before args0 about1 = true := code_word (m := ⟨7, 6⟩) (meth := k7m6) (c := k7c6) (by decide +kernel) rfl rfl rfl (by decide +kernel)
set_option maxRecDepth 65536 in
theorem w_c12 : (Jvm.Cond.code ({ cls := "java/lang/StringLatin1", name := "charAt", desc := "([BI)C" } : Jvm.MethodName) jdk_43_method_2_code (2 : Nat) (Option.some Jvm.ClassFile.FieldType.char)).before args0 about1 = true := code_word (m := ⟨10, 1⟩) (meth := k10m1) (c := k10c1) (by decide +kernel) rfl rfl rfl (by decide +kernel)
set_option maxRecDepth 65536 in
theorem w_c13 : (Jvm.Cond.code ({ cls := "java/lang/String", name := "checkIndex", desc := "(II)V" } : Jvm.MethodName) jdk_42_method_155_code (2 : Nat) (Option.none : Option Jvm.ClassFile.FieldType)).before args0 about1 = true := code_word (m := ⟨7, 7⟩) (meth := k7m7) (c := k7c7) (by decide +kernel) rfl rfl rfl (by decide +kernel)
set_option maxRecDepth 65536 in
theorem w_c14 : (Jvm.Cond.code ({ cls := "jdk/internal/util/Preconditions", name := "checkIndex", desc := "(IILjava/util/function/BiFunction;)I" } : Jvm.MethodName) jdk_41_method_11_code (3 : Nat) (Option.some Jvm.ClassFile.FieldType.int)).before args0 about1 = true := code_word (m := ⟨11, 1⟩) (meth := k11m1) (c := k11c1) (by decide +kernel) rfl rfl rfl (by decide +kernel)
set_option maxRecDepth 65536 in
theorem w_c15 : (Jvm.Cond.code ({ cls := "com/example/coho/coho/identifier/CharacterSet", name := "contains", desc := "(C)Z" } : Jvm.MethodName) prog_40_method_2_code (2 : Nat) (Option.some Jvm.ClassFile.FieldType.boolean)).before args0 about1 = true := code_word (m := ⟨9, 1⟩) (meth := k9m1) (c := k9c1) (by decide +kernel) rfl rfl rfl (by decide +kernel)
def codes1 : List Jvm.Cond := [Jvm.Cond.code x code maxLocals ret, Jvm.Cond.code ({ cls := "java/lang/String", name := "<init>", desc := "([C)V" } : Jvm.MethodName) jdk_42_method_3_code (2 : Nat) (Option.none : Option Jvm.ClassFile.FieldType), Jvm.Cond.code ({ cls := "java/lang/String", name := "<init>", desc := "([CIILjava/lang/Void;)V" } : Jvm.MethodName) jdk_42_method_149_code (6 : Nat) (Option.none : Option Jvm.ClassFile.FieldType), Jvm.Cond.code ({ cls := "java/lang/Object", name := "<init>", desc := "()V" } : Jvm.MethodName) object_method_1_code (1 : Nat) (Option.none : Option Jvm.ClassFile.FieldType), Jvm.Cond.code ({ cls := "java/lang/StringUTF16", name := "compress", desc := "([CII)[B" } : Jvm.MethodName) jdk_52_method_16_code (6 : Nat) (Option.some (Jvm.ClassFile.FieldType.array Jvm.ClassFile.FieldType.byte)), Jvm.Cond.code ({ cls := "java/lang/StringUTF16", name := "compress", desc := "([CI[BII)I" } : Jvm.MethodName) jdk_52_method_21_code (7 : Nat) (Option.some Jvm.ClassFile.FieldType.int), Jvm.Cond.code ({ cls := "java/lang/StringUTF16", name := "coderFromArrayLen", desc := "([BI)B" } : Jvm.MethodName) jdk_52_method_15_code (2 : Nat) (Option.some Jvm.ClassFile.FieldType.byte), Jvm.Cond.code ({ cls := "com/example/coho/coho/identifier/CharacterSet", name := "<init>", desc := "(Ljava/lang/String;Ljava/lang/String;)V" } : Jvm.MethodName) prog_40_method_1_code (4 : Nat) (Option.none : Option Jvm.ClassFile.FieldType), Jvm.Cond.code ({ cls := "java/lang/String", name := "length", desc := "()I" } : Jvm.MethodName) jdk_42_method_54_code (1 : Nat) (Option.some Jvm.ClassFile.FieldType.int), Jvm.Cond.code ({ cls := "java/lang/String", name := "coder", desc := "()B" } : Jvm.MethodName) jdk_42_method_152_code (1 : Nat) (Option.some Jvm.ClassFile.FieldType.byte), Jvm.Cond.code ({ cls := "java/lang/String", name := "charAt", desc := "(I)C" } : Jvm.MethodName) jdk_42_method_56_code (2 : Nat) (Option.some Jvm.ClassFile.FieldType.char), Jvm.Cond.code ({ cls := "java/lang/String", name := "isLatin1", desc := "()Z" } : Jvm.MethodName) jdk_42_method_154_code (1 : Nat) (Option.some Jvm.ClassFile.FieldType.boolean), Jvm.Cond.code ({ cls := "java/lang/StringLatin1", name := "charAt", desc := "([BI)C" } : Jvm.MethodName) jdk_43_method_2_code (2 : Nat) (Option.some Jvm.ClassFile.FieldType.char), Jvm.Cond.code ({ cls := "java/lang/String", name := "checkIndex", desc := "(II)V" } : Jvm.MethodName) jdk_42_method_155_code (2 : Nat) (Option.none : Option Jvm.ClassFile.FieldType), Jvm.Cond.code ({ cls := "jdk/internal/util/Preconditions", name := "checkIndex", desc := "(IILjava/util/function/BiFunction;)I" } : Jvm.MethodName) jdk_41_method_11_code (3 : Nat) (Option.some Jvm.ClassFile.FieldType.int), Jvm.Cond.code ({ cls := "com/example/coho/coho/identifier/CharacterSet", name := "contains", desc := "(C)Z" } : Jvm.MethodName) prog_40_method_2_code (2 : Nat) (Option.some Jvm.ClassFile.FieldType.boolean)]
set_option maxRecDepth 65536 in
theorem codes_eq : words1.filter isCode = codes1 := rfl
theorem w_codes : ∀ c ∈ words1.filter isCode, c.before args0 about1 = true := by
  rw [codes_eq]
  intro c hc
  simp only [codes1, List.mem_cons, List.not_mem_nil, or_false] at hc
  rcases hc with rfl | rfl | rfl | rfl | rfl | rfl | rfl | rfl | rfl | rfl | rfl | rfl | rfl | rfl | rfl | rfl
  · exact w_c0
  · exact w_c1
  · exact w_c2
  · exact w_c3
  · exact w_c4
  · exact w_c5
  · exact w_c6
  · exact w_c7
  · exact w_c8
  · exact w_c9
  · exact w_c10
  · exact w_c11
  · exact w_c12
  · exact w_c13
  · exact w_c14
  · exact w_c15
set_option maxRecDepth 65536 in
theorem w_t1 : (words1.take 24).all (fun c => isCode c || c.before args0 about1) = true := by decide +kernel
set_option maxRecDepth 65536 in
theorem w_t2 : ((words1.drop 24).take 24).all (fun c => isCode c || c.before args0 about1) = true := by decide +kernel
set_option maxRecDepth 65536 in
theorem w_t3 : (((words1.drop 24).drop 24).take 24).all (fun c => isCode c || c.before args0 about1) = true := by decide +kernel
set_option maxRecDepth 65536 in
theorem w_t4 : (((words1.drop 24).drop 24).drop 24).all (fun c => isCode c || c.before args0 about1) = true := by decide +kernel
theorem w_tables : (allAtoms (Jvm.Cond.code x code maxLocals ret :: tables_1)).before args0 about1 = true := by
  rw [allAtoms_all]
  show words1.all (fun c => c.before args0 about1) = true
  refine all_split ?_ w_codes
  rw [← List.take_append_drop 24 words1, List.all_append, w_t1, ← List.take_append_drop 24 (words1.drop 24), List.all_append, w_t2, ← List.take_append_drop 24 ((words1.drop 24).drop 24), List.all_append, w_t3, w_t4]
  rfl
set_option maxRecDepth 65536 in
theorem w_rest : rest_1_c.before args0 about1 = true := by decide +kernel
set_option maxRecDepth 65536 in
theorem w_case : (Jvm.Cond.and given_1 narrow_1).before args0 about1 = true := by decide +kernel
set_option maxRecDepth 65536 in
theorem w_consts : constsHeld consts_1 about1 := Jvm.Lit.constsHeldB_iff.mp (by decide +kernel)
theorem w_applies : (headSpec (Jvm.Cond.code x code maxLocals ret :: tables_1) room_1).applies x e0.platform about1 = true :=
  (Spec.applies_iff w_frames).mpr ⟨w_running, w_runnable, w_alone, w_named, w_hears, w_ripe, w_room, w_tables⟩
theorem atStart : AtStart classFile x code maxLocals ret World_1 tables_1 room_1 Calls_1 rest_1 Pre_1 launch0 p0 e0 about1 theMethod args0 below0 :=
  ⟨lists_1, trivial, launch0.admits_env _ _ _, launch0.least_env, fairChoices_fair.cas, fairChoices_fair.clock, w_frames, w_args, w_heap, w_applies, ⟨w_consts, trivial⟩, w_rest, w_case⟩
end start1
theorem witness_1 : WitnessClaimed_1 := ⟨start1.p0, start1.e0, start1.about1, start1.theMethod, start1.args0, start1.below0, start1.atStart⟩
end Jvm.Pilot.@@N@@
