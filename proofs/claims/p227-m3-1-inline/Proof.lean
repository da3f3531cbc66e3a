import JvmDerived
import JvmDerived.Pilot.@@N@@Statement
import JvmDerived.Pilot.@@N@@Code
set_option linter.unusedVariables false
set_option linter.unusedSimpArgs false
@@BLOCK:TracedD.lean.txt@@
namespace Jvm.Pilot.@@N@@
open Jvm Jvm.ClassFile Sem Op Lib Jvm.Free Jvm.Stand Jvm.LawKit Jvm.RoadKit Bundle Jvm.Pilot.@@N@@.Jvm.D
theorem own_pre {tb : Tables} {e : Env} {below : List Frame} {A B : State} {C : State → Outcome → Prop} (k : ∀ t, Steps tb e below A t → Steps tb e below B t) (h : ∃ s₂ o, Steps tb e below A s₂ ∧ C s₂ o) : ∃ s₂ o, Steps tb e below B s₂ ∧ C s₂ o := by
  obtain ⟨s2, o, h1, h2⟩ := h
  exact ⟨s2, o, k _ h1, h2⟩
theorem own_frl {k : Nat} {L A B : List Loc} (l : L = A ++ B) (N : Fr k A) (M : Fr k B) : Fr k L := by rw [l]; exact Fr.app N M
theorem own_lrem {p : Program} {l : Launch} {e : Env} {R : Room} {s : State} {m : MethodId} {args : Array Value} {below : List Frame} {meth : Method} {c : Code} {T : State} {locs : List Loc} {cells slots : Nat} {g : JFrame} {target : State} (X : Stand p l e R s m args below meth c T locs cells slots) (hx : p.tables.exec = Jvm.exec) (hg : g.method = m) {x y : Int64} {rest : List Value} (hd : decode c.code g.pc = .ok (.lrem, 1)) (hs : g.stack = .long y :: .long x :: rest) (hy : y ≠ 0)
    (hr : Steps p.tables e below (T.setTop { g with pc := g.pc + 1, stack := .long (x % y) :: rest }) target) : Steps p.tables e below (T.setTop g) target :=
  XS.lrem X.here hx hg hd hs hy (by rw [lrem_mod]; exact hr)
theorem own_w {wl : List Jvm.Cond} {a0 : Array Value} {Z : State} (h : ∀ d ∈ wl, d.before a0 Z = true) (i : Nat) {d : Jvm.Cond} (g : wl[i]? = some d) : d.before a0 Z = true := h d (List.mem_of_getElem? g)

theorem own_pd0 : parseMethodDescriptor "()B" = some ⟨[], some .byte⟩ := by decide +kernel
theorem own_pd1 : parseMethodDescriptor "(IILjava/util/function/BiFunction;)I" = some ⟨[.int, .int, (.object "java/util/function/BiFunction")], some .int⟩ := by decide +kernel
theorem own_pd2 : parseMethodDescriptor "(II)V" = some ⟨[.int, .int], none⟩ := by decide +kernel
theorem own_pd3 : parseMethodDescriptor "()Z" = some ⟨[], some .boolean⟩ := by decide +kernel
theorem own_pd4 : parseMethodDescriptor "([BI)C" = some ⟨[(.array .byte), .int], some .char⟩ := by decide +kernel
theorem own_pd5 : parseMethodDescriptor "(C)Z" = some ⟨[.char], some .boolean⟩ := by decide +kernel
theorem own_pd6 : parseMethodDescriptor "(C)[B" = some ⟨[.char], some (.array .byte)⟩ := by decide +kernel
theorem own_pd7 : parseMethodDescriptor "([BB)V" = some ⟨[(.array .byte), .byte], none⟩ := by decide +kernel
theorem own_pd8 : parseMethodDescriptor "([CI[BII)I" = some ⟨[(.array .char), .int, (.array .byte), .int, .int], some .int⟩ := by decide +kernel
theorem own_pd9 : parseMethodDescriptor "([CII)[B" = some ⟨[(.array .char), .int, .int], some (.array .byte)⟩ := by decide +kernel
theorem own_pd10 : parseMethodDescriptor "([BI)B" = some ⟨[(.array .byte), .int], some .byte⟩ := by decide +kernel
theorem own_pd11 : parseMethodDescriptor "([CIILjava/lang/Void;)V" = some ⟨[(.array .char), .int, .int, (.object "java/lang/Void")], none⟩ := by decide +kernel
theorem own_pd12 : parseMethodDescriptor "([C)V" = some ⟨[(.array .char)], none⟩ := by decide +kernel
theorem own_pd13 : parseMethodDescriptor "(C)Ljava/lang/String;" = some ⟨[.char], some (.object "java/lang/String")⟩ := by decide +kernel
theorem own_pd14 : parseMethodDescriptor "(I)V" = some ⟨[.int], none⟩ := by decide +kernel
theorem own_pd15 : parseMethodDescriptor "(II)I" = some ⟨[.int, .int], some .int⟩ := by decide +kernel
theorem own_pd16 : parseMethodDescriptor "(III)I" = some ⟨[.int, .int, .int], some .int⟩ := by decide +kernel
theorem own_pd17 : parseMethodDescriptor "(I)I" = some ⟨[.int], some .int⟩ := by decide +kernel
theorem own_pd18 : parseMethodDescriptor "([BI)[B" = some ⟨[(.array .byte), .int], some (.array .byte)⟩ := by decide +kernel
theorem own_pd19 : parseMethodDescriptor "(Ljava/lang/String;)V" = some ⟨[(.object "java/lang/String")], none⟩ := by decide +kernel
theorem own_pd20 : parseMethodDescriptor "([BIB)V" = some ⟨[(.array .byte), .int, .byte], none⟩ := by decide +kernel
theorem own_pd21 : parseMethodDescriptor "()I" = some ⟨[], some .int⟩ := by decide +kernel
theorem own_pd22 : parseMethodDescriptor "(ILjava/lang/String;)V" = some ⟨[.int, (.object "java/lang/String")], none⟩ := by decide +kernel
theorem own_pd23 : parseMethodDescriptor "(Ljava/lang/String;)Ljava/lang/AbstractStringBuilder;" = some ⟨[(.object "java/lang/String")], some (.object "java/lang/AbstractStringBuilder")⟩ := by decide +kernel
theorem own_pd24 : parseMethodDescriptor "([BII)[B" = some ⟨[(.array .byte), .int, .int], some (.array .byte)⟩ := by decide +kernel
theorem own_pd25 : parseMethodDescriptor "()[B" = some ⟨[], some (.array .byte)⟩ := by decide +kernel
theorem own_pd26 : parseMethodDescriptor "(Ljava/lang/AbstractStringBuilder;Ljava/lang/Void;)V" = some ⟨[(.object "java/lang/AbstractStringBuilder"), (.object "java/lang/Void")], none⟩ := by decide +kernel
theorem own_pd27 : parseMethodDescriptor "(Ljava/lang/StringBuilder;)V" = some ⟨[(.object "java/lang/StringBuilder")], none⟩ := by decide +kernel
theorem own_pd28 : parseMethodDescriptor "()V" = some ⟨[], none⟩ := by decide +kernel
theorem own_pd29 : parseMethodDescriptor "(Ljava/lang/String;)Ljava/lang/StringBuilder;" = some ⟨[(.object "java/lang/String")], some (.object "java/lang/StringBuilder")⟩ := by decide +kernel
theorem own_pd30 : parseMethodDescriptor "()Ljava/lang/String;" = some ⟨[], some (.object "java/lang/String")⟩ := by decide +kernel
theorem own_pd31 : parseMethodDescriptor "(I)C" = some ⟨[.int], some .char⟩ := by decide +kernel
theorem own_pd32 : parseMethodDescriptor "(ICC)Ljava/lang/String;" = some ⟨[.int, .char, .char], some (.object "java/lang/String")⟩ := by decide +kernel
theorem own_pd33 : parseMethodDescriptor "(Ljava/lang/String;Ljava/lang/String;Ljava/lang/String;)Lcom/example/sigillum/sigillum/cli/UsageException;" = some ⟨[(.object "java/lang/String"), (.object "java/lang/String"), (.object "java/lang/String")], some (.object "com/example/sigillum/sigillum/cli/UsageException")⟩ := by decide +kernel
theorem own_pd34 : parseMethodDescriptor "(Ljava/lang/String;)Z" = some ⟨[(.object "java/lang/String")], some .boolean⟩ := by decide +kernel
theorem own_pd35 : parseMethodDescriptor "(Ljava/lang/String;ILjava/lang/String;)Z" = some ⟨[(.object "java/lang/String"), .int, (.object "java/lang/String")], some .boolean⟩ := by decide +kernel
abbrev own_by (c : Int32) : Value := .int c.toInt8.toInt32
def own_n (n : Int32) (cs : List Int32) : Prop := ¬ n < 0 ∧ n.toNatClampNeg = cs.length
def own_s (pl x y : Int32) : List Int32 := if pl = 0 then [] else if pl = 1 then [x] else [x, y]
def own_ok (zc pk : Int32) (wv : List Value) (cs : List Int32) : Prop := (zc = 16 ∨ zc = 34) ∧ wv.length = zc.toNatClampNeg ∧ ¬ pk < 0 ∧ pk.toNatClampNeg = cs.length ∧ cs.length ≤ zc.toNatClampNeg ∧ wv.take cs.length = cs.map own_by
def own_put (wv : List Value) (p : Nat) (us : List Value) : List Value := wv.take p ++ us ++ wv.drop (p + us.length)
abbrev own_EL : List (String × Nat) := consts_1
theorem own_wS : ∀ d ∈ Bundle.stringAtoms, d ∈ tables_1 := by decide +kernel
theorem own_lt0 : (∀ c ∈ "cannot read ".toList, c.toNat < 256) ∧ "cannot read ".toList.map (fun c => Value.int (Jvm.Lit.byteI c.toNat.toUInt16)) = List.map own_by [99, 97, 110, 110, 111, 116, 32, 114, 101, 97, 100, 32] := by first | decide +kernel | exact ⟨by decide +kernel, rfl⟩ | exact ⟨by decide +kernel, by decide +kernel⟩
theorem own_lt1 : (∀ c ∈ " ".toList, c.toNat < 256) ∧ " ".toList.map (fun c => Value.int (Jvm.Lit.byteI c.toNat.toUInt16)) = List.map own_by [32] := by first | decide +kernel | exact ⟨by decide +kernel, rfl⟩ | exact ⟨by decide +kernel, by decide +kernel⟩
theorem own_lt2 : (∀ c ∈ ": ".toList, c.toNat < 256) ∧ ": ".toList.map (fun c => Value.int (Jvm.Lit.byteI c.toNat.toUInt16)) = List.map own_by [58, 32] := by first | decide +kernel | exact ⟨by decide +kernel, rfl⟩ | exact ⟨by decide +kernel, by decide +kernel⟩
theorem own_lt3 : (∀ c ∈ "".toList, c.toNat < 256) ∧ "".toList.map (fun c => Value.int (Jvm.Lit.byteI c.toNat.toUInt16)) = List.map own_by [] := by first | decide +kernel | exact ⟨by decide +kernel, rfl⟩ | exact ⟨by decide +kernel, by decide +kernel⟩
theorem own_ch_le (c : Int32) (h : 0 ≤ c.toInt ∧ c.toInt < 256) : ¬ (255 : Int32) < c := by
  rw [Int32.lt_iff_toInt_lt]; have z : (255 : Int32).toInt = 255 := by decide
  omega
theorem own_bm (c : Int32) (h : 0 ≤ c.toInt ∧ c.toInt < 256) : (c.toInt8.toInt32 &&& (255 : Int32)) = c := by
  have h1 := c_i2b c
  apply Int32.toInt_inj.mp
  rw [c_mask c.toInt8.toInt32 (255 : Int32) 8 (by decide) (by decide)]
  omega
theorem own_ch_bb (c : Int32) : c.toInt8.toInt32.toInt8.toInt32 = c.toInt8.toInt32 := by
  have h1 := c_i2b c
  have h2 := c_i2b c.toInt8.toInt32
  apply Int32.toInt_inj.mp
  omega
theorem own_ch_nbb (c : Int32) : nar .byte c.toInt8.toInt32 = c.toInt8.toInt32 := own_ch_bb c
theorem own_ch_c (c : Int32) (h : 0 ≤ c.toInt ∧ c.toInt < 256) : c.toUInt32.toUInt16.toUInt32.toInt32 = c := by
  have h1 := c_i2c c
  apply Int32.toInt_inj.mp
  omega
theorem own_ch_nc (c : Int32) (h : 0 ≤ c.toInt ∧ c.toInt < 256) : nar .char c = c := own_ch_c c h
theorem own_ch_ret (c : Int32) (h : 0 ≤ c.toInt ∧ c.toInt < 256) : narrow .char (.int c) = .int c := by
  show Value.int (nar .char c) = .int c
  rw [own_ch_nc c h]
theorem own_shr0 (n : Int32) : n >>> ((0 : Int32) &&& 31) = n := by
  apply Int32.toInt_inj.mp
  rw [c_ishr n (0 : Int32) 0 (by decide)]; simp
theorem own_shl0 (n : Int32) : n <<< ((0 : Int32) &&& 31) = n := by
  apply Int32.toInt_inj.mp
  have h := c_ishl n (0 : Int32) 0 (by decide)
  have a := n.toInt_lt
  have b := n.le_toInt
  have a' := (n <<< ((0 : Int32) &&& 31)).toInt_lt
  have b' := (n <<< ((0 : Int32) &&& 31)).le_toInt
  rw [show ((2 ^ 0 : Nat) : Int) = 1 from rfl, Int.mul_one] at h
  omega
theorem own_sub0 (n : Int32) : n - (0 : Int32) = n := by
  apply Int32.toInt_inj.mp
  have h := c_isub n (0 : Int32)
  have z : (0 : Int32).toInt = 0 := by decide
  have a := n.toInt_lt
  have b := n.le_toInt
  have a' := (n - (0 : Int32)).toInt_lt
  have b' := (n - (0 : Int32)).le_toInt
  omega
theorem own_nst {cell : Cell} (h : cell.vm.isStatics = false) : ∀ q, cell.vm ≠ .statics q := fun q e => by rw [e] at h; cases h
theorem own_priv {s : State} {args : Array Value} {B : String} {y : MethodName} (ws : (Cond.selects B y y).before args s = true) (wp : (Cond.privateMethod y).before args s = true) (wi : (Cond.instanceMethod y).before args s = true) (hy : y.cls ≠ "java/lang/invoke/MethodHandle" ∧ y.cls ≠ "java/lang/invoke/VarHandle") : (Cond.selects y.cls y y).before args s = true := by
  obtain ⟨c, r, m, h1, h2, h3, h4, mk, h5, h6⟩ := Cond.selects_spec ws
  exact selects_self_of_private (findClass_of_methodNamed h3) h5 h6 (Cond.privateMethod_at wp) wi hy
theorem own_same {s : State} {args : Array Value} {B : String} {x z y : MethodName} (ws : (Cond.selects B x z).before args s = true) (hz : z.cls = y.cls) (wi : (Cond.instanceMethod y).before args s = true) (hy : y.cls ≠ "java/lang/invoke/MethodHandle" ∧ y.cls ≠ "java/lang/invoke/VarHandle") : (Cond.sameMethod y.cls y.cls y.name y.desc).before args s = true := by
  obtain ⟨c, r, m, h1, h2, h3, h4, mk, h5, h6⟩ := Cond.selects_spec ws
  obtain ⟨mk2, methM, hnamed, -, -, -⟩ := Cond.instanceMethod_spec wi
  have hf := State.methodFound?_of_named hnamed hy
  have hc := findClass_of_methodNamed hnamed
  have hcz := findClass_of_methodNamed h3
  rw [hz] at hcz
  have e1 : m.cls = mk2.cls := Option.some.inj (hcz.symm.trans hc)
  rw [e1] at h5
  have hn : s.methodNamed? ⟨y.cls, y.name, y.desc⟩ = some mk2 := hnamed
  simp only [Cond.before, Cond.holds, Cond.value, hc, hf, hn, h5]
  simp [h6]
theorem own_nface {s : State} {args : Array Value} {B : String} {x z y : MethodName} (ws : (Cond.selects B x z).before args s = true) (hz : z.cls = y.cls) : NotFace s y := fun r0 h0 => by
  obtain ⟨c, r, m, h1, h2, h3, h4, mk, h5, h6⟩ := Cond.selects_spec ws
  have e := findClass_of_methodNamed h3
  rw [hz] at e
  have q : m.cls = r0.cls := Option.some.inj (e.symm.trans (findClass_of_methodNamed h0))
  exact ⟨mk, by rw [← q]; exact h5, h6⟩
theorem own_backSH {l : Launch} {R : Room} {p : Program} {e : Env} {below : List Frame} {s Z : State} {vm0 : Vm} {args a0 : Array Value} {h : Heap} {EL : List (String × Nat)} {ax : Addr} {y : MethodName} {bytes : ByteArray} {maxL : Nat} {ret : Option FieldType} {rm : Room} {len W : Nat} {as' : Array Value} {Q : Option Value → Heap → List Loc → Prop}
    (hM : MetFree l y (head1 [Cond.code y bytes maxL ret] rm) (fun a U => a = as' ∧ Z.Warmed39 U.vm ∧ U.heap = h ∧ CHv Z EL U.vm h ∧ Safe Z EL U.vm h ax) (fun _ _ _ _ _ => True) (fun _ U o U' => ∃ v L, o = .returned v ∧ Q v U'.heap L ∧ CHr Z EL U.vm U.heap U'.vm U'.heap ∧ ReturnedEndW U o U' L rm.cells rm.slots))
    (hZ : Z.Warmed39 vm0) (wc : (Cond.code y bytes maxL ret).before a0 Z = true) (wz : (Cond.initialized y.cls).before a0 Z = true) (hf : rm.frames + 1 ≤ R.frames) (hl : W + (maxL + 11) + rm.locals ≤ R.locals) (hEL : EW Z a0 EL) (H : CHv Z EL vm0 h) (S : Safe Z EL vm0 h ax) (hax : ax < h.size) :
    BackS l R p e below (s.setVm vm0) args y len W (fun A a => a = as' ∧ A.U.heap = h ∧ A.cells + rm.cells ≤ R.cells ∧ A.slots + rm.slots ≤ R.slots)
      (fun A _ v B => ∃ L, Q v B.U.heap L ∧ B.locs = A.locs ++ L ∧ B.cells = A.cells + rm.cells ∧ B.slots = A.slots + rm.slots ∧ CHr Z EL vm0 h B.U.vm B.U.heap) := by
  refine BackS.of_freeW (bytes := bytes) (maxL := maxL) (ret := ret) (E := fun _ first o t L k n => k = rm.cells ∧ n = rm.slots ∧ (∃ v, o = .returned v ∧ Q v t.heap L) ∧ CHr Z EL first.vm first.heap t.vm t.heap) hM hf hl ?_ ?_ (fun _ _ _ _ _ _ _ _ _ => trivial) ?_ ?_
  · intro m meth c A a Y hp
    have hU : Z.Warmed39 A.U.vm := wtrans (s := s.setVm vm0) hZ Y.warmed
    exact ⟨by show (Cond.and _ .tt).before a A.U = true; rw [Cond.before_and, mv hU wc]; rfl, mv hU wc, mv hU wz, hp.2.2.1, hp.2.2.2⟩
  · intro m meth c A a g mk Y hp
    have q := CHv.at Y hZ hEL H
    exact ⟨hp.1, wtrans (s := s.setVm vm0) hZ Y.warmed, hp.2.1, q.1, q.safe hax S⟩
  · rintro _ _ _ _ ⟨v, L, h1, h2, h3, h4⟩
    exact ⟨L, _, _, h4, rfl, rfl, ⟨v, h1, h2⟩, h3⟩
  · rintro m meth c A a g mk v t L k n Y hp _ _ ⟨e1, e2, ⟨v', e3, e4⟩, e5⟩
    cases e3; subst e1 e2
    refine ⟨L, e4, rfl, rfl, rfl, (CHv.at Y hZ hEL H).trans ?_⟩
    rw [← hp.2.1]; exact e5
theorem own_or_ne {x a a' : Addr} {n : Nat} (h : a' = a ∨ n ≤ a') (q : x ≠ a) (l : x < n) : x ≠ a' := by
  rcases h with rfl | h
  · exact q
  · exact Nat.ne_of_lt (Nat.lt_of_lt_of_le l h)
theorem own_or_le {a a' : Addr} {n k : Nat} (h : a' = a ∨ n ≤ a') (q : k ≤ a) (l : k ≤ n) : k ≤ a' := by
  rcases h with rfl | h
  · exact q
  · exact Nat.le_trans l h
theorem own_or_mem {a a' : Addr} {n k : Nat} {ws : List Addr} (h : a' = a ∨ n ≤ a') (q : a ∈ ws) (l : k ≤ n) : a' ∈ ws ∨ k ≤ a' := by
  rcases h with rfl | h
  · exact Or.inl q
  · exact Or.inr (Nat.le_trans l h)
theorem own_or_tr {a b c : Addr} {n k : Nat} (h : b = a ∨ n ≤ b) (h' : c = b ∨ k ≤ c) (l : n ≤ k) : c = a ∨ n ≤ c := by
  rcases h' with rfl | h'
  · exact h
  · exact Or.inr (Nat.le_trans l h')
theorem own_or_sf {Z : State} {EL : List (String × Nat)} {vm : Vm} {hp : Heap} {a a' : Addr} (h : a' = a ∨ hp.size ≤ a') (S : Safe Z EL vm hp a) : Safe Z EL vm hp a' := by
  rcases h with rfl | h
  · exact S
  · exact Safe.new h
theorem own_z16 {zc pk pm : Int32} {wv : List Value} {cs : List Int32} (h : own_ok zc pk wv cs) (hm : ¬ pm < 0 ∧ pm.toNatClampNeg ≤ 34) (q : (0 : Int32) < pm - zc) : zc = (16 : Int32) := by
  rcases h.1 with e | e
  · exact e
  · exfalso
    subst e
    have h1 := nat_of hm.1
    have h2 := c_isub pm (34 : Int32)
    have z : (0 : Int32).toInt = 0 := by decide
    have w : (34 : Int32).toInt = 34 := by decide
    rw [Int32.lt_iff_toInt_lt] at q
    have a' := (pm - (34 : Int32)).toInt_lt
    have b' := (pm - (34 : Int32)).le_toInt
    omega
theorem own_zge {zc pm : Int32} (hz : ¬ zc < 0) (hm : ¬ pm < 0) (q : ¬ (0 : Int32) < pm - zc) : pm.toNatClampNeg ≤ zc.toNatClampNeg := by
  have h1 := nat_of hm
  have h3 := nat_of hz
  have h2 := c_isub pm zc
  have z : (0 : Int32).toInt = 0 := by decide
  rw [Int32.lt_iff_toInt_lt] at q
  have a := pm.toInt_lt
  have b := zc.toInt_lt
  have a' := (pm - zc).toInt_lt
  have b' := (pm - zc).le_toInt
  omega
theorem own_znn {zc pk : Int32} {wv : List Value} {cs : List Int32} (h : own_ok zc pk wv cs) : ¬ zc < 0 := by
  rcases h.1 with e | e <;> (subst e; decide)
theorem own_zle {zc pk : Int32} {wv : List Value} {cs : List Int32} (h : own_ok zc pk wv cs) : zc.toNatClampNeg ≤ 34 := by
  rcases h.1 with e | e <;> (subst e; decide)
theorem own_ple {zc pk : Int32} {wv : List Value} {cs : List Int32} (h : own_ok zc pk wv cs) : pk.toNatClampNeg ≤ 34 := by
  have := own_zle h
  have := h.2.2.2.1
  have := h.2.2.2.2.1
  omega
theorem own_rangeD {wv : List Value} {n : Nat} {d : Value} (h : wv.length = n) : wv = (List.range n).map fun i => wv.getD (0 + i) d := by
  apply List.ext_getElem?
  intro i
  by_cases hi : i < n
  · simp [hi, h]
  · simp [hi, Nat.not_lt.mp hi, h]
theorem own_us {zc pk : Int32} {wv : List Value} {cs : List Int32} (h : own_ok zc pk wv cs) : cs.map own_by = (List.range pk.toNatClampNeg).map fun i => wv.getD ((0 : Int32).toNatClampNeg + i) (.int (0 : Int32)) := by
  obtain ⟨-, h2, h3, h4, h5, h6⟩ := h
  have e : (0 : Int32).toNatClampNeg = 0 := by decide
  rw [← h6, h4, e]
  apply List.ext_getElem?
  intro i
  by_cases hi : i < cs.length
  · have : i < wv.length := by omega
    simp [hi, this]
  · simp [hi]; omega
theorem own_eqr {n : Nat} {us : List Value} {d : Value} : ((List.replicate n d).take (0 : Int32).toNatClampNeg ++ us ++ (List.replicate n d).drop ((0 : Int32).toNatClampNeg + n)) = us := by
  have e : (0 : Int32).toNatClampNeg = 0 := by decide
  rw [e]; simp
theorem own_cl {Z : State} {h : Heap} {a : Addr} {k : ClassId} {zc pk : Int32} {wv : List Value} {cs : List Int32} {d : Value} (o : own_ok zc pk wv cs) (e : pk = zc) (V : Arv Z h a k .byte zc wv d) : Arv Z h a k .byte pk (List.map own_by cs) d := by
  obtain ⟨-, h2, h3, h4, h5, h6⟩ := o
  subst e
  have q : wv = List.map own_by cs := by rw [← h6, List.take_of_length_le (by omega)]
  rw [← q]; exact V
theorem own_add {a b : Int32} {n m : Nat} (ha : ¬ a < 0) (hb : ¬ b < 0) (ea : a.toNatClampNeg = n) (eb : b.toNatClampNeg = m) (h : n + m ≤ 34) : ¬ (a + b) < 0 ∧ (a + b).toNatClampNeg = n + m := by
  have h1 := nat_of ha
  have h2 := nat_of hb
  have h3 := c_iadd a b
  have a' := (a + b).toInt_lt
  have b' := (a + b).le_toInt
  have z : (0 : Int32).toInt = 0 := by decide
  have q : ¬ (a + b) < 0 := by rw [Int32.lt_iff_toInt_lt]; omega
  have h4 := nat_of q
  exact ⟨q, by omega⟩
theorem own_okp {zc pk sn : Int32} {wv : List Value} {cs ds : List Int32} (o : own_ok zc pk wv cs) (hn : own_n sn ds) (hl : cs.length + ds.length ≤ 34) (hz : (pk + sn).toNatClampNeg ≤ zc.toNatClampNeg) : own_ok zc (pk + sn) (own_put wv pk.toNatClampNeg (List.map own_by ds)) (cs ++ ds) := by
  obtain ⟨h1, h2, h3, h4, h5, h6⟩ := o
  obtain ⟨q1, q2⟩ := own_add h3 hn.1 h4 hn.2 hl
  have hw : cs.length + ds.length ≤ wv.length := by omega
  refine ⟨h1, ?_, q1, by rw [q2, List.length_append], by rw [List.length_append]; omega, ?_⟩
  · simp only [own_put, List.length_append, List.length_take, List.length_drop, List.length_map, h4]; omega
  · rw [own_put, h4, h6, List.map_append, List.length_append, List.take_left' (by simp)]
theorem own_okg {pk : Int32} {wv : List Value} {cs : List Int32} (o : own_ok (16 : Int32) pk wv cs) : own_ok (34 : Int32) pk (wv ++ List.replicate 18 (.int (0 : Int32))) cs := by
  obtain ⟨h1, h2, h3, h4, h5, h6⟩ := o
  have e : (16 : Int32).toNatClampNeg = 16 := by decide
  have f : (34 : Int32).toNatClampNeg = 34 := by decide
  rw [e] at h2 h5
  refine ⟨Or.inr rfl, by rw [List.length_append, List.length_replicate, f]; omega, h3, h4, by omega, ?_⟩
  rw [List.take_append_of_le_length (by omega)]; exact h6
theorem own_ge {zc pk : Int32} {wv : List Value} {cs : List Int32} (o : own_ok zc pk wv cs) : (0 : Int32).toNatClampNeg + pk.toNatClampNeg ≤ zc.toNatClampNeg := by
  have e : (0 : Int32).toNatClampNeg = 0 := by decide
  have h4 := o.2.2.2.1
  have h5 := o.2.2.2.2.1
  omega
theorem own_arv2 {Z : State} {h : Heap} {a : Addr} {k : ClassId} {pl q x y : Int32} {cs : List Int32} {d : Value} (e : pl = q) (hs : own_s q x y = cs) (V : Arv Z h a k .byte q (List.map own_by cs) d) : Arv Z h a k .byte pl (List.map own_by (own_s pl x y)) d := by
  subst e; rw [hs]; exact V
theorem own_pl2 {pl : Int32} (h : pl = 0 ∨ pl = 1 ∨ pl = 2) (h0 : ¬ pl = 0) (h1 : ¬ pl = 1) : pl = 2 := by
  rcases h with h | h | h
  · exact absurd h h0
  · exact absurd h h1
  · exact h
theorem own_maxp {pm : Int32} (hm : ¬ pm < 0 ∧ pm.toNatClampNeg ≤ 34) : ¬ (18 : Int32) < pm - (16 : Int32) := by
  have h1 := nat_of hm.1
  have h2 := c_isub pm (16 : Int32)
  have z : (18 : Int32).toInt = 18 := by decide
  have w : (16 : Int32).toInt = 16 := by decide
  rw [Int32.lt_iff_toInt_lt]
  have a' := (pm - (16 : Int32)).toInt_lt
  have b' := (pm - (16 : Int32)).le_toInt
  omega
theorem d15_0 : decode jdk_42_method_152_code 0 = .ok (.getstatic 38, 3) := by decide +kernel
theorem d15_3 : decode jdk_42_method_152_code 3 = .ok (.ifCond .eq 10, 3) := by decide +kernel
theorem d15_6 : decode jdk_42_method_152_code 6 = .ok (.aload_n 0, 1) := by decide +kernel
theorem d15_7 : decode jdk_42_method_152_code 7 = .ok (.getfield 15, 3) := by decide +kernel
theorem d15_10 : decode jdk_42_method_152_code 10 = .ok (.goto 4, 3) := by decide +kernel
theorem d15_14 : decode jdk_42_method_152_code 14 = .ok (.ireturn, 1) := by decide +kernel
theorem own_pn15 : plainName "java/lang/String" = true := by first | (simp [plainName, overriddenIn]; done) | decide +kernel
theorem own_ef15 (m : MethodId) (x0 : Addr) : entryFrame m #[(.ref x0)] 1 = mkF m 0 #[.val (.ref x0)] [] := by first | (simp [entryFrame, mkF, argsToLocals, Value.category]; done) | rfl
def own_Q15 (Z : State) (ax : Addr) (pG : Int32) (h0 : Heap) (n0 : Nat) (v : Option Value) (h : Heap) (L : List Loc) : Prop := Fr n0 L ∧ v = some (.int (0 : Int32)) ∧ h = h0
set_option maxRecDepth 65536 in
set_option maxHeartbeats 40000000 in
theorem rm15 (l : Launch) (Z : State) (a0 : Array Value) (hw : ∀ d ∈ tables_1, d.before a0 Z = true) (ws : List Jvm.Cond) (ax : Addr) (pG : Int32) (h0 : Heap) (n0 : Nat) (Z0 : n0 ≤ h0.size) (Ea : Exa Z h0 ax "java/lang/String") (Fc : Fld Z h0 ax "java/lang/String" "coder" "B" (.int (0 : Int32))) (O2 : Sta Z Z.heap "java/lang/String" "COMPACT_STRINGS" "Z" (.int pG)) (hG : ¬ pG = (0 : Int32)) (X00 : Old Z n0 h0) :
    MetFree l (⟨"java/lang/String", "coder", "()B"⟩ : MethodName) (head1 (Jvm.Cond.code (⟨"java/lang/String", "coder", "()B"⟩ : MethodName) jdk_42_method_152_code 1 (some .byte) :: ws) ({ frames := 0, cells := 0, slots := 0, locals := 0 } : Room)) (fun a U => a = #[(.ref ax)] ∧ Z.Warmed39 U.vm ∧ U.heap = h0) (fun _ _ _ _ _ => True) (fun _ U o U' => ∃ v L, o = .returned v ∧ own_Q15 Z ax pG h0 n0 v U'.heap L ∧ FrameEnd U o U' L ({ frames := 0, cells := 0, slots := 0, locals := 0 } : Room).cells ({ frames := 0, cells := 0, slots := 0, locals := 0 } : Room).slots) := by
  refine MetFree.of_bodySF (plainFor_of_name own_pn15) hisR ?_
  intro p e s m args below meth c s₁ Bd hml0 hP hK
  obtain ⟨rfl, hZ, hh⟩ := hP
  have hx := Bd.exec
  have hby := Bd.bytes
  have hml : c.maxLocals = 1 := hml0
  have hown : s.vm.findClass "java/lang/String" = some m.cls := findClass_of_methodNamed Bd.named
  have hnm := (name_of_methodNamed Bd.named Bd.method).1
  have X0 : Stand p l e ({ frames := 0, cells := 0, slots := 0, locals := 0 } : Room) s m #[(.ref ax)] below meth c s₁ [] 0 0 := Stand.of_body Bd
  have e0 : s₁.heap = h0 := by rw [← hh, Bd.state]; rfl
  have N0 := Fr.nil n0
  refine own_pre (A := (s₁.setTop (mkF m 0 #[.val (.ref ax)] []))) (fun t k => castTop (own_ef15 m ax) k) ?_
  obtain ⟨T1, X1, e1, st1⟩ := getS2 X0 hx hZ hown (host := "") (Or.inl (own_w hw 8 rfl)) Via.refl e0 (O2.ext X00.2) (g := (mkF m 0 #[.val (.ref ax)] [])) rfl (hb hby d15_0)
  refine own_pre (fun t k => st1 t k) ?_
  refine own_pre (A := (T1.setTop (mkF m 7 #[.val (.ref ax)] [(.ref ax)]))) ?_ ?_
  · intro t k
    refine XS.ifNo X1.here hx rfl (hb hby d15_3) rfl ((if0 _ _).trans (feq hG).1) ?_
    refine XS.aloadN X1.here hx rfl (hb hby d15_6) rfl rfl ?_
    exact k
  obtain ⟨T2, X2, e2, st2⟩ := getF X1 hx hZ hown (host := "") (Or.inl (own_w hw 28 rfl)) Via.refl e1 Fc (g := (mkF m 7 #[.val (.ref ax)] [(.ref ax)])) rfl rfl (hb hby d15_7)
  refine own_pre (fun t k => st2 t k) ?_
  refine own_pre (A := (T2.setTop (mkF m 14 #[.val (.ref ax)] [(.int (0 : Int32))]))) ?_ ?_
  · intro t k
    refine XS.goto X2.here hx rfl (pc0 := 10) (pc' := 14) rfl (hb hby d15_10) (by decide) (by decide) ?_
    exact k
  obtain ⟨fs, hr, hrun, hended, hW, hsame⟩ := X2.leave (hlocks := BodyLoose.notSynchronized Bd) (v := some (.int (0 : Int32))) (fun h => by rw [Bd.returns] at h; cases h)
  refine ⟨_, _, retOut X2 hx Bd.returns rfl (Or.inl ⟨rfl, Or.inr (Or.inr (Or.inl rfl)), _, rfl⟩) (hb hby d15_14) hr, hrun, hended, _, _, rfl, ?_, ⟨_, rfl⟩, hW, hsame.mono (by decide) (by decide)⟩
  show own_Q15 Z ax pG h0 n0 _ T2.heap _
  rw [e2]
  exact ⟨N0, rfl, rfl⟩
theorem d36_0 : decode jdk_42_method_154_code 0 = .ok (.getstatic 38, 3) := by decide +kernel
theorem d36_3 : decode jdk_42_method_154_code 3 = .ok (.ifCond .eq 14, 3) := by decide +kernel
theorem d36_6 : decode jdk_42_method_154_code 6 = .ok (.aload_n 0, 1) := by decide +kernel
theorem d36_7 : decode jdk_42_method_154_code 7 = .ok (.getfield 15, 3) := by decide +kernel
theorem d36_10 : decode jdk_42_method_154_code 10 = .ok (.ifCond .ne 7, 3) := by decide +kernel
theorem d36_13 : decode jdk_42_method_154_code 13 = .ok (.iconst 1, 1) := by decide +kernel
theorem d36_14 : decode jdk_42_method_154_code 14 = .ok (.goto 4, 3) := by decide +kernel
theorem d36_18 : decode jdk_42_method_154_code 18 = .ok (.ireturn, 1) := by decide +kernel
theorem own_pn36 : plainName "java/lang/String" = true := by first | (simp [plainName, overriddenIn]; done) | decide +kernel
theorem own_ef36 (m : MethodId) (x0 : Addr) : entryFrame m #[(.ref x0)] 1 = mkF m 0 #[.val (.ref x0)] [] := by first | (simp [entryFrame, mkF, argsToLocals, Value.category]; done) | rfl
def own_Q36 (Z : State) (ax : Addr) (pG : Int32) (h0 : Heap) (n0 : Nat) (v : Option Value) (h : Heap) (L : List Loc) : Prop := Fr n0 L ∧ v = some (.int (1 : Int32)) ∧ h = h0
set_option maxRecDepth 65536 in
set_option maxHeartbeats 40000000 in
theorem rm36 (l : Launch) (Z : State) (a0 : Array Value) (hw : ∀ d ∈ tables_1, d.before a0 Z = true) (ws : List Jvm.Cond) (ax : Addr) (pG : Int32) (h0 : Heap) (n0 : Nat) (Z0 : n0 ≤ h0.size) (Ea : Exa Z h0 ax "java/lang/String") (Fc : Fld Z h0 ax "java/lang/String" "coder" "B" (.int (0 : Int32))) (O2 : Sta Z Z.heap "java/lang/String" "COMPACT_STRINGS" "Z" (.int pG)) (hG : ¬ pG = (0 : Int32)) (X00 : Old Z n0 h0) :
    MetFree l (⟨"java/lang/String", "isLatin1", "()Z"⟩ : MethodName) (head1 (Jvm.Cond.code (⟨"java/lang/String", "isLatin1", "()Z"⟩ : MethodName) jdk_42_method_154_code 1 (some .boolean) :: ws) ({ frames := 0, cells := 0, slots := 0, locals := 0 } : Room)) (fun a U => a = #[(.ref ax)] ∧ Z.Warmed39 U.vm ∧ U.heap = h0) (fun _ _ _ _ _ => True) (fun _ U o U' => ∃ v L, o = .returned v ∧ own_Q36 Z ax pG h0 n0 v U'.heap L ∧ FrameEnd U o U' L ({ frames := 0, cells := 0, slots := 0, locals := 0 } : Room).cells ({ frames := 0, cells := 0, slots := 0, locals := 0 } : Room).slots) := by
  refine MetFree.of_bodySF (plainFor_of_name own_pn36) hisR ?_
  intro p e s m args below meth c s₁ Bd hml0 hP hK
  obtain ⟨rfl, hZ, hh⟩ := hP
  have hx := Bd.exec
  have hby := Bd.bytes
  have hml : c.maxLocals = 1 := hml0
  have hown : s.vm.findClass "java/lang/String" = some m.cls := findClass_of_methodNamed Bd.named
  have hnm := (name_of_methodNamed Bd.named Bd.method).1
  have X0 : Stand p l e ({ frames := 0, cells := 0, slots := 0, locals := 0 } : Room) s m #[(.ref ax)] below meth c s₁ [] 0 0 := Stand.of_body Bd
  have e0 : s₁.heap = h0 := by rw [← hh, Bd.state]; rfl
  have N0 := Fr.nil n0
  refine own_pre (A := (s₁.setTop (mkF m 0 #[.val (.ref ax)] []))) (fun t k => castTop (own_ef36 m ax) k) ?_
  obtain ⟨T3, X3, e3, st3⟩ := getS2 X0 hx hZ hown (host := "") (Or.inl (own_w hw 8 rfl)) Via.refl e0 (O2.ext X00.2) (g := (mkF m 0 #[.val (.ref ax)] [])) rfl (hb hby d36_0)
  refine own_pre (fun t k => st3 t k) ?_
  refine own_pre (A := (T3.setTop (mkF m 7 #[.val (.ref ax)] [(.ref ax)]))) ?_ ?_
  · intro t k
    refine XS.ifNo X3.here hx rfl (hb hby d36_3) rfl ((if0 _ _).trans (feq hG).1) ?_
    refine XS.aloadN X3.here hx rfl (hb hby d36_6) rfl rfl ?_
    exact k
  obtain ⟨T4, X4, e4, st4⟩ := getF X3 hx hZ hown (host := "") (Or.inl (own_w hw 28 rfl)) Via.refl e3 Fc (g := (mkF m 7 #[.val (.ref ax)] [(.ref ax)])) rfl rfl (hb hby d36_7)
  refine own_pre (fun t k => st4 t k) ?_
  refine own_pre (A := (T4.setTop (mkF m 18 #[.val (.ref ax)] [(.int (1 : Int32))]))) ?_ ?_
  · intro t k
    refine XS.ifNo X4.here hx rfl (hb hby d36_10) rfl ((if0 _ _).trans (teq (by decide : (0 : Int32) = (0 : Int32))).2) ?_
    refine XS.iconst X4.here hx rfl (hb hby d36_13) ?_
    refine XS.goto X4.here hx rfl (pc0 := 14) (pc' := 18) rfl (hb hby d36_14) (by decide) (by decide) ?_
    exact k
  obtain ⟨fs, hr, hrun, hended, hW, hsame⟩ := X4.leave (hlocks := BodyLoose.notSynchronized Bd) (v := some (.int (1 : Int32))) (fun h => by rw [Bd.returns] at h; cases h)
  refine ⟨_, _, retOut X4 hx Bd.returns rfl (Or.inl ⟨rfl, Or.inr (Or.inl rfl), _, rfl⟩) (hb hby d36_18) hr, hrun, hended, _, _, rfl, ?_, ⟨_, rfl⟩, hW, hsame.mono (by decide) (by decide)⟩
  show own_Q36 Z ax pG h0 n0 _ T4.heap _
  rw [e4]
  exact ⟨N0, rfl, rfl⟩
theorem d14_0 : decode jdk_42_method_54_code 0 = .ok (.aload_n 0, 1) := by decide +kernel
theorem d14_1 : decode jdk_42_method_54_code 1 = .ok (.getfield 9, 3) := by decide +kernel
theorem d14_4 : decode jdk_42_method_54_code 4 = .ok (.arraylength, 1) := by decide +kernel
theorem d14_5 : decode jdk_42_method_54_code 5 = .ok (.aload_n 0, 1) := by decide +kernel
theorem d14_6 : decode jdk_42_method_54_code 6 = .ok (.invokevirtual 335, 3) := by decide +kernel
theorem d14_9 : decode jdk_42_method_54_code 9 = .ok (.ishr, 1) := by decide +kernel
theorem d14_10 : decode jdk_42_method_54_code 10 = .ok (.ireturn, 1) := by decide +kernel
theorem own_pn14 : plainName "java/lang/String" = true := by first | (simp [plainName, overriddenIn]; done) | decide +kernel
theorem own_ef14 (m : MethodId) (x0 : Addr) : entryFrame m #[(.ref x0)] 1 = mkF m 0 #[.val (.ref x0)] [] := by first | (simp [entryFrame, mkF, argsToLocals, Value.category]; done) | rfl
def own_Q14 (Z : State) (ax : Addr) (ad : Addr) (kd : ClassId) (pn : Int32) (vs : List Value) (pG : Int32) (h0 : Heap) (n0 : Nat) (v : Option Value) (h : Heap) (L : List Loc) : Prop := Fr n0 L ∧ v = some (.int pn) ∧ h = h0
set_option maxRecDepth 65536 in
set_option maxHeartbeats 40000000 in
theorem rm14 (l : Launch) (Z : State) (a0 : Array Value) (hw : ∀ d ∈ tables_1, d.before a0 Z = true) (ws : List Jvm.Cond) (ax : Addr) (ad : Addr) (kd : ClassId) (pn : Int32) (vs : List Value) (pG : Int32) (h0 : Heap) (n0 : Nat) (Z0 : n0 ≤ h0.size) (Es : Exa Z h0 ax "java/lang/String") (Sv : Fld Z h0 ax "java/lang/String" "value" "[B" (.ref ad)) (Sc : Fld Z h0 ax "java/lang/String" "coder" "B" (.int (0 : Int32))) (Vs : Arv Z h0 ad kd .byte pn vs (.int (0 : Int32))) (O2 : Sta Z Z.heap "java/lang/String" "COMPACT_STRINGS" "Z" (.int pG)) (hG : ¬ pG = (0 : Int32)) (X00 : Old Z n0 h0) :
    MetFree l (⟨"java/lang/String", "length", "()I"⟩ : MethodName) (head1 (Jvm.Cond.code (⟨"java/lang/String", "length", "()I"⟩ : MethodName) jdk_42_method_54_code 1 (some .int) :: ws) ({ frames := 1, cells := 0, slots := 0, locals := 13 } : Room)) (fun a U => a = #[(.ref ax)] ∧ Z.Warmed39 U.vm ∧ U.heap = h0) (fun _ _ _ _ _ => True) (fun _ U o U' => ∃ v L, o = .returned v ∧ own_Q14 Z ax ad kd pn vs pG h0 n0 v U'.heap L ∧ FrameEnd U o U' L ({ frames := 1, cells := 0, slots := 0, locals := 13 } : Room).cells ({ frames := 1, cells := 0, slots := 0, locals := 13 } : Room).slots) := by
  refine MetFree.of_bodySF (plainFor_of_name own_pn14) hisR ?_
  intro p e s m args below meth c s₁ Bd hml0 hP hK
  obtain ⟨rfl, hZ, hh⟩ := hP
  have hx := Bd.exec
  have hby := Bd.bytes
  have hml : c.maxLocals = 1 := hml0
  have hown : s.vm.findClass "java/lang/String" = some m.cls := findClass_of_methodNamed Bd.named
  have hnm := (name_of_methodNamed Bd.named Bd.method).1
  have X0 : Stand p l e ({ frames := 1, cells := 0, slots := 0, locals := 13 } : Room) s m #[(.ref ax)] below meth c s₁ [] 0 0 := Stand.of_body Bd
  have e0 : s₁.heap = h0 := by rw [← hh, Bd.state]; rfl
  have N0 := Fr.nil n0
  refine own_pre (A := (s₁.setTop (mkF m 0 #[.val (.ref ax)] []))) (fun t k => castTop (own_ef14 m ax) k) ?_
  refine own_pre (A := (s₁.setTop (mkF m 1 #[.val (.ref ax)] [(.ref ax)]))) ?_ ?_
  · intro t k
    refine XS.aloadN X0.here hx rfl (hb hby d14_0) rfl rfl ?_
    exact k
  obtain ⟨T5, X5, e5, st5⟩ := getF X0 hx hZ hown (host := "") (Or.inl (own_w hw 26 rfl)) Via.refl e0 Sv (g := (mkF m 1 #[.val (.ref ax)] [(.ref ax)])) rfl rfl (hb hby d14_1)
  refine own_pre (fun t k => st5 t k) ?_
  refine own_pre (A := (T5.setTop (mkF m 6 #[.val (.ref ax)] [(.ref ax), (.int pn)]))) ?_ ?_
  · intro t k
    show Steps p.tables e below (T5.setTop (mkF m 4 #[.val (.ref ax)] [(.ref ad)])) _
    obtain ⟨cl6, Ar6, -, S6, N6, -, -⟩ := id Vs
    refine X5.arraylength hx (by rw [e5]; exact Ar6.1) (State.isArrayOf_alike hZ.alike Ar6.2.1) (g := (mkF m 4 #[.val (.ref ax)] [(.ref ad)])) rfl rfl (hb hby d14_4) _ ?_
    rw [len_of S6 N6]
    refine XS.aloadN X5.here hx rfl (hb hby d14_5) rfl rfl ?_
    exact k
  obtain ⟨cq7, kq7, q7a, q7b, q7c⟩ := isOf hZ e5 Es
  obtain ⟨_, _, ⟨T7, L7, k7, n7⟩, -, X7, ⟨Lc7, hQ7, l7, y7, z7⟩, st7⟩ := X5.virtualBack hx (y := (⟨"java/lang/String", "coder", "()B"⟩ : MethodName)) (z := (⟨"java/lang/String", "coder", "()B"⟩ : MethodName)) hown (mvT hZ (own_w hw 82 rfl)) (mvT hZ (own_w hw 83 rfl)) (notFace_of_selects (args := #[]) (mvT hZ (own_w hw 85 rfl))) (mvT hZ (own_w hw 85 rfl)) (mvT hZ (own_w hw 84 rfl)) (by decide) (backOf (W := 1) (rm15 l Z a0 hw [] ax pG h0 n0 Z0 Es Sc O2 hG X00) hZ (own_w hw 86 rfl) (own_w hw 6 rfl) (by decide) (by decide)) q7a q7c (g := (mkF m 6 #[.val (.ref ax)] [(.ref ax), (.int pn)])) rfl (by rw [hml]; rfl) (Steps.refl _) (argsL := []) (rest := [(.int pn)]) (lenOf own_pd0 rfl) rfl (by show 2 * 0 + _ ≤ _; exact Nat.le_of_eq rfl) (hb hby d14_6) (fun _ _ => ⟨rfl, e5, (by decide : 0 + 0 ≤ _), (by decide : 0 + 0 ≤ _)⟩)
  dsimp only [Pt.U, Pt.locs, Pt.cells, Pt.slots] at X7 l7 y7 z7 st7 hQ7
  replace y7 : _ = 0 := y7
  replace z7 : _ = 0 := z7
  subst y7 z7
  obtain ⟨Nq7, rfl, eq7⟩ := hQ7
  have N7 := own_frl l7 N0 Nq7
  refine own_pre (fun t k => st7.trans k) ?_
  refine own_pre (A := (T7.setTop (mkF m 10 #[.val (.ref ax)] [(.int pn)]))) ?_ ?_
  · intro t k
    refine XS.ishr X7.here hx rfl (hb hby d14_9) rfl ?_
    show Steps p.tables e below (T7.setTop (mkF m 10 #[.val (.ref ax)] [(.int (pn >>> ((0 : Int32) &&& 31)))])) _
    rw [own_shr0 pn]
    exact k
  obtain ⟨fs, hr, hrun, hended, hW, hsame⟩ := X7.leave (hlocks := BodyLoose.notSynchronized Bd) (v := some (.int pn)) (fun h => by rw [Bd.returns] at h; cases h)
  refine ⟨_, _, retOut X7 hx Bd.returns rfl (Or.inl ⟨rfl, Or.inl rfl, _, rfl⟩) (hb hby d14_10) hr, hrun, hended, _, _, rfl, ?_, ⟨_, rfl⟩, hW, hsame.mono (by decide) (by decide)⟩
  show own_Q14 Z ax ad kd pn vs pG h0 n0 _ T7.heap _
  rw [eq7]
  exact ⟨N7, rfl, rfl⟩
theorem d39_0 : decode jdk_41_method_11_code 0 = .ok (.iload_n 0, 1) := by decide +kernel
theorem d39_1 : decode jdk_41_method_11_code 1 = .ok (.ifCond .lt 8, 3) := by decide +kernel
theorem d39_4 : decode jdk_41_method_11_code 4 = .ok (.iload_n 0, 1) := by decide +kernel
theorem d39_5 : decode jdk_41_method_11_code 5 = .ok (.iload_n 1, 1) := by decide +kernel
theorem d39_6 : decode jdk_41_method_11_code 6 = .ok (.if_icmp .lt 10, 3) := by decide +kernel
theorem d39_16 : decode jdk_41_method_11_code 16 = .ok (.iload_n 0, 1) := by decide +kernel
theorem d39_17 : decode jdk_41_method_11_code 17 = .ok (.ireturn, 1) := by decide +kernel
theorem own_pn39 : plainName "jdk/internal/util/Preconditions" = true := by first | (simp [plainName, overriddenIn]; done) | decide +kernel
theorem own_ef39n (m : MethodId) (x0 : Int32) (x1 : Int32) : entryFrame m #[(.int x0), (.int x1), .null] 3 = mkF m 0 #[.val (.int x0), .val (.int x1), .val .null] [] := by first | (simp [entryFrame, mkF, argsToLocals, Value.category]; done) | rfl
def own_Q39_n (Z : State) (pi : Int32) (pn : Int32) (h0 : Heap) (n0 : Nat) (v : Option Value) (h : Heap) (L : List Loc) : Prop := Fr n0 L ∧ v = some (.int pi) ∧ h = h0
set_option maxRecDepth 65536 in
set_option maxHeartbeats 40000000 in
theorem rm39_n (l : Launch) (Z : State) (a0 : Array Value) (hw : ∀ d ∈ tables_1, d.before a0 Z = true) (ws : List Jvm.Cond) (pi : Int32) (pn : Int32) (h0 : Heap) (n0 : Nat) (Z0 : n0 ≤ h0.size) (hi : ¬ pi < (0 : Int32)) (hj : pi < pn) :
    MetFree l (⟨"jdk/internal/util/Preconditions", "checkIndex", "(IILjava/util/function/BiFunction;)I"⟩ : MethodName) (head1 (Jvm.Cond.code (⟨"jdk/internal/util/Preconditions", "checkIndex", "(IILjava/util/function/BiFunction;)I"⟩ : MethodName) jdk_41_method_11_code 3 (some .int) :: ws) ({ frames := 0, cells := 0, slots := 0, locals := 0 } : Room)) (fun a U => a = #[(.int pi), (.int pn), .null] ∧ Z.Warmed39 U.vm ∧ U.heap = h0) (fun _ _ _ _ _ => True) (fun _ U o U' => ∃ v L, o = .returned v ∧ own_Q39_n Z pi pn h0 n0 v U'.heap L ∧ FrameEnd U o U' L ({ frames := 0, cells := 0, slots := 0, locals := 0 } : Room).cells ({ frames := 0, cells := 0, slots := 0, locals := 0 } : Room).slots) := by
  refine MetFree.of_bodySF (plainFor_of_name own_pn39) hisR ?_
  intro p e s m args below meth c s₁ Bd hml0 hP hK
  obtain ⟨rfl, hZ, hh⟩ := hP
  have hx := Bd.exec
  have hby := Bd.bytes
  have hml : c.maxLocals = 3 := hml0
  have hown : s.vm.findClass "jdk/internal/util/Preconditions" = some m.cls := findClass_of_methodNamed Bd.named
  have hnm := (name_of_methodNamed Bd.named Bd.method).1
  have X0 : Stand p l e ({ frames := 0, cells := 0, slots := 0, locals := 0 } : Room) s m #[(.int pi), (.int pn), .null] below meth c s₁ [] 0 0 := Stand.of_body Bd
  have e0 : s₁.heap = h0 := by rw [← hh, Bd.state]; rfl
  have N0 := Fr.nil n0
  refine own_pre (A := (s₁.setTop (mkF m 0 #[.val (.int pi), .val (.int pn), .val .null] []))) (fun t k => castTop (own_ef39n m pi pn) k) ?_
  refine own_pre (A := (s₁.setTop (mkF m 17 #[.val (.int pi), .val (.int pn), .val .null] [(.int pi)]))) ?_ ?_
  · intro t k
    refine XS.iloadN X0.here hx rfl (hb hby d39_0) rfl ?_
    refine XS.ifNo X0.here hx rfl (hb hby d39_1) rfl ((if0 _ _).trans (flt hi).1) ?_
    refine XS.iloadN X0.here hx rfl (hb hby d39_4) rfl ?_
    refine XS.iloadN X0.here hx rfl (hb hby d39_5) rfl ?_
    refine XS.icmpYes X0.here hx rfl (pc0 := 6) (pc' := 16) rfl (hb hby d39_6) rfl (tlt hj).1 (by decide) (by decide) ?_
    refine XS.iloadN X0.here hx rfl (hb hby d39_16) rfl ?_
    exact k
  obtain ⟨fs, hr, hrun, hended, hW, hsame⟩ := X0.leave (hlocks := BodyLoose.notSynchronized Bd) (v := some (.int pi)) (fun h => by rw [Bd.returns] at h; cases h)
  refine ⟨_, _, retOut X0 hx Bd.returns rfl (Or.inl ⟨rfl, Or.inl rfl, _, rfl⟩) (hb hby d39_17) hr, hrun, hended, _, _, rfl, ?_, ⟨_, rfl⟩, hW, hsame.mono (by decide) (by decide)⟩
  show own_Q39_n Z pi pn h0 n0 _ s₁.heap _
  rw [e0]
  exact ⟨N0, rfl, rfl⟩
theorem own_ef39 (m : MethodId) (x0 : Int32) (x1 : Int32) (x2 : Addr) : entryFrame m #[(.int x0), (.int x1), (.ref x2)] 3 = mkF m 0 #[.val (.int x0), .val (.int x1), .val (.ref x2)] [] := by first | (simp [entryFrame, mkF, argsToLocals, Value.category]; done) | rfl
def own_Q39 (Z : State) (pi : Int32) (pn : Int32) (af : Addr) (h0 : Heap) (n0 : Nat) (v : Option Value) (h : Heap) (L : List Loc) : Prop := Fr n0 L ∧ v = some (.int pi) ∧ h = h0
set_option maxRecDepth 65536 in
set_option maxHeartbeats 40000000 in
theorem rm39 (l : Launch) (Z : State) (a0 : Array Value) (hw : ∀ d ∈ tables_1, d.before a0 Z = true) (ws : List Jvm.Cond) (pi : Int32) (pn : Int32) (af : Addr) (h0 : Heap) (n0 : Nat) (Z0 : n0 ≤ h0.size) (hi : ¬ pi < (0 : Int32)) (hj : pi < pn) :
    MetFree l (⟨"jdk/internal/util/Preconditions", "checkIndex", "(IILjava/util/function/BiFunction;)I"⟩ : MethodName) (head1 (Jvm.Cond.code (⟨"jdk/internal/util/Preconditions", "checkIndex", "(IILjava/util/function/BiFunction;)I"⟩ : MethodName) jdk_41_method_11_code 3 (some .int) :: ws) ({ frames := 0, cells := 0, slots := 0, locals := 0 } : Room)) (fun a U => a = #[(.int pi), (.int pn), (.ref af)] ∧ Z.Warmed39 U.vm ∧ U.heap = h0) (fun _ _ _ _ _ => True) (fun _ U o U' => ∃ v L, o = .returned v ∧ own_Q39 Z pi pn af h0 n0 v U'.heap L ∧ FrameEnd U o U' L ({ frames := 0, cells := 0, slots := 0, locals := 0 } : Room).cells ({ frames := 0, cells := 0, slots := 0, locals := 0 } : Room).slots) := by
  refine MetFree.of_bodySF (plainFor_of_name own_pn39) hisR ?_
  intro p e s m args below meth c s₁ Bd hml0 hP hK
  obtain ⟨rfl, hZ, hh⟩ := hP
  have hx := Bd.exec
  have hby := Bd.bytes
  have hml : c.maxLocals = 3 := hml0
  have hown : s.vm.findClass "jdk/internal/util/Preconditions" = some m.cls := findClass_of_methodNamed Bd.named
  have hnm := (name_of_methodNamed Bd.named Bd.method).1
  have X0 : Stand p l e ({ frames := 0, cells := 0, slots := 0, locals := 0 } : Room) s m #[(.int pi), (.int pn), (.ref af)] below meth c s₁ [] 0 0 := Stand.of_body Bd
  have e0 : s₁.heap = h0 := by rw [← hh, Bd.state]; rfl
  have N0 := Fr.nil n0
  refine own_pre (A := (s₁.setTop (mkF m 0 #[.val (.int pi), .val (.int pn), .val (.ref af)] []))) (fun t k => castTop (own_ef39 m pi pn af) k) ?_
  refine own_pre (A := (s₁.setTop (mkF m 17 #[.val (.int pi), .val (.int pn), .val (.ref af)] [(.int pi)]))) ?_ ?_
  · intro t k
    refine XS.iloadN X0.here hx rfl (hb hby d39_0) rfl ?_
    refine XS.ifNo X0.here hx rfl (hb hby d39_1) rfl ((if0 _ _).trans (flt hi).1) ?_
    refine XS.iloadN X0.here hx rfl (hb hby d39_4) rfl ?_
    refine XS.iloadN X0.here hx rfl (hb hby d39_5) rfl ?_
    refine XS.icmpYes X0.here hx rfl (pc0 := 6) (pc' := 16) rfl (hb hby d39_6) rfl (tlt hj).1 (by decide) (by decide) ?_
    refine XS.iloadN X0.here hx rfl (hb hby d39_16) rfl ?_
    exact k
  obtain ⟨fs, hr, hrun, hended, hW, hsame⟩ := X0.leave (hlocks := BodyLoose.notSynchronized Bd) (v := some (.int pi)) (fun h => by rw [Bd.returns] at h; cases h)
  refine ⟨_, _, retOut X0 hx Bd.returns rfl (Or.inl ⟨rfl, Or.inl rfl, _, rfl⟩) (hb hby d39_17) hr, hrun, hended, _, _, rfl, ?_, ⟨_, rfl⟩, hW, hsame.mono (by decide) (by decide)⟩
  show own_Q39 Z pi pn af h0 n0 _ s₁.heap _
  rw [e0]
  exact ⟨N0, rfl, rfl⟩
theorem d38_0 : decode jdk_42_method_155_code 0 = .ok (.iload_n 0, 1) := by decide +kernel
theorem d38_1 : decode jdk_42_method_155_code 1 = .ok (.iload_n 1, 1) := by decide +kernel
theorem d38_2 : decode jdk_42_method_155_code 2 = .ok (.getstatic 1053, 3) := by decide +kernel
theorem d38_5 : decode jdk_42_method_155_code 5 = .ok (.invokestatic 1059, 3) := by decide +kernel
theorem d38_8 : decode jdk_42_method_155_code 8 = .ok (.pop, 1) := by decide +kernel
theorem d38_9 : decode jdk_42_method_155_code 9 = .ok (.return_, 1) := by decide +kernel
theorem own_pn38 : plainName "java/lang/String" = true := by first | (simp [plainName, overriddenIn]; done) | decide +kernel
theorem own_ef38 (m : MethodId) (x0 : Int32) (x1 : Int32) : entryFrame m #[(.int x0), (.int x1)] 2 = mkF m 0 #[.val (.int x0), .val (.int x1)] [] := by first | (simp [entryFrame, mkF, argsToLocals, Value.category]; done) | rfl
def own_Q38 (Z : State) (pi : Int32) (pn : Int32) (vF : Value) (h0 : Heap) (n0 : Nat) (v : Option Value) (h : Heap) (L : List Loc) : Prop := Fr n0 L ∧ v = none ∧ h = h0
set_option maxRecDepth 65536 in
set_option maxHeartbeats 40000000 in
theorem rm38 (l : Launch) (Z : State) (a0 : Array Value) (hw : ∀ d ∈ tables_1, d.before a0 Z = true) (ws : List Jvm.Cond) (pi : Int32) (pn : Int32) (vF : Value) (h0 : Heap) (n0 : Nat) (Z0 : n0 ≤ h0.size) (hi : ¬ pi < (0 : Int32)) (hj : pi < pn) (O4 : Sta Z Z.heap "jdk/internal/util/Preconditions" "SIOOBE_FORMATTER" "Ljava/util/function/BiFunction;" vF) (rF : vF.isRef = true) (X00 : Old Z n0 h0) :
    MetFree l (⟨"java/lang/String", "checkIndex", "(II)V"⟩ : MethodName) (head1 (Jvm.Cond.code (⟨"java/lang/String", "checkIndex", "(II)V"⟩ : MethodName) jdk_42_method_155_code 2 none :: ws) ({ frames := 1, cells := 0, slots := 0, locals := 14 } : Room)) (fun a U => a = #[(.int pi), (.int pn)] ∧ Z.Warmed39 U.vm ∧ U.heap = h0) (fun _ _ _ _ _ => True) (fun _ U o U' => ∃ v L, o = .returned v ∧ own_Q38 Z pi pn vF h0 n0 v U'.heap L ∧ FrameEnd U o U' L ({ frames := 1, cells := 0, slots := 0, locals := 14 } : Room).cells ({ frames := 1, cells := 0, slots := 0, locals := 14 } : Room).slots) := by
  refine MetFree.of_bodySF (plainFor_of_name own_pn38) hisR ?_
  intro p e s m args below meth c s₁ Bd hml0 hP hK
  obtain ⟨rfl, hZ, hh⟩ := hP
  have hx := Bd.exec
  have hby := Bd.bytes
  have hml : c.maxLocals = 2 := hml0
  have hown : s.vm.findClass "java/lang/String" = some m.cls := findClass_of_methodNamed Bd.named
  have hnm := (name_of_methodNamed Bd.named Bd.method).1
  have X0 : Stand p l e ({ frames := 1, cells := 0, slots := 0, locals := 14 } : Room) s m #[(.int pi), (.int pn)] below meth c s₁ [] 0 0 := Stand.of_body Bd
  have e0 : s₁.heap = h0 := by rw [← hh, Bd.state]; rfl
  have N0 := Fr.nil n0
  refine own_pre (A := (s₁.setTop (mkF m 0 #[.val (.int pi), .val (.int pn)] []))) (fun t k => castTop (own_ef38 m pi pn) k) ?_
  rcases ref_cases rF with rfl | ⟨af, rfl⟩
  · skip
    refine own_pre (A := (s₁.setTop (mkF m 2 #[.val (.int pi), .val (.int pn)] [(.int pn), (.int pi)]))) ?_ ?_
    · intro t k
      refine XS.iloadN X0.here hx rfl (hb hby d38_0) rfl ?_
      refine XS.iloadN X0.here hx rfl (hb hby d38_1) rfl ?_
      exact k
    obtain ⟨T8, X8, e8, st8⟩ := getS2 X0 hx hZ hown (host := "") (Or.inl (own_w hw 237 rfl)) Via.refl e0 (O4.ext X00.2) (g := (mkF m 2 #[.val (.int pi), .val (.int pn)] [(.int pn), (.int pi)])) rfl (hb hby d38_2)
    refine own_pre (fun t k => st8 t k) ?_
    obtain ⟨_, _, ⟨T9, L9, k9, n9⟩, -, X9, ⟨Lc9, hQ9, l9, y9, z9⟩, st9⟩ := Jvm.LawKit.callS X8 hx (y := (⟨"jdk/internal/util/Preconditions", "checkIndex", "(IILjava/util/function/BiFunction;)I"⟩ : MethodName)) hown (mvT hZ (own_w hw 239 rfl)) (mvT hZ (own_w hw 240 rfl)) (mvT hZ (own_w hw 238 rfl)) (mvT hZ (own_w hw 241 rfl)) (by decide) (backOf (W := 0) (rm39_n l Z a0 hw [] pi pn h0 n0 Z0 hi hj) hZ (own_w hw 241 rfl) (own_w hw 238 rfl) (by decide) (by decide)) (g := (mkF m 5 #[.val (.int pi), .val (.int pn)] [.null, (.int pn), (.int pi)])) rfl (by rw [hml]; rfl) (argsL := [(.int pi), (.int pn), .null]) (rest := []) (lenOf own_pd1 rfl) rfl (by show 2 * 0 + _ ≤ _; exact Nat.le_of_eq rfl) (hb hby d38_5) (fun _ _ => ⟨rfl, e8, (by decide : 0 + 0 ≤ _), (by decide : 0 + 0 ≤ _)⟩)
    dsimp only [Pt.U, Pt.locs, Pt.cells, Pt.slots] at X9 l9 y9 z9 st9 hQ9
    replace y9 : _ = 0 := y9
    replace z9 : _ = 0 := z9
    subst y9 z9
    obtain ⟨Nq9, rfl, eq9⟩ := hQ9
    have N9 := own_frl l9 N0 Nq9
    refine own_pre (fun t k => st9 t k) ?_
    refine own_pre (A := (T9.setTop (mkF m 9 #[.val (.int pi), .val (.int pn)] []))) ?_ ?_
    · intro t k
      refine XS.pop X9.here hx rfl (hb hby d38_8) rfl rfl ?_
      exact k
    obtain ⟨fs, hr, hrun, hended, hW, hsame⟩ := X9.leave (hlocks := BodyLoose.notSynchronized Bd) (v := none) (fun _ => rfl)
    refine ⟨_, _, X9.returnOut hx Bd.returns (hb hby d38_9) hr, hrun, hended, _, _, rfl, ?_, ⟨_, rfl⟩, hW, hsame.mono (by decide) (by decide)⟩
    show own_Q38 Z pi pn .null h0 n0 _ T9.heap _
    rw [eq9]
    exact ⟨N9, rfl, rfl⟩
  · skip
    refine own_pre (A := (s₁.setTop (mkF m 2 #[.val (.int pi), .val (.int pn)] [(.int pn), (.int pi)]))) ?_ ?_
    · intro t k
      refine XS.iloadN X0.here hx rfl (hb hby d38_0) rfl ?_
      refine XS.iloadN X0.here hx rfl (hb hby d38_1) rfl ?_
      exact k
    obtain ⟨T10, X10, e10, st10⟩ := getS2 X0 hx hZ hown (host := "") (Or.inl (own_w hw 237 rfl)) Via.refl e0 (O4.ext X00.2) (g := (mkF m 2 #[.val (.int pi), .val (.int pn)] [(.int pn), (.int pi)])) rfl (hb hby d38_2)
    refine own_pre (fun t k => st10 t k) ?_
    obtain ⟨_, _, ⟨T11, L11, k11, n11⟩, -, X11, ⟨Lc11, hQ11, l11, y11, z11⟩, st11⟩ := Jvm.LawKit.callS X10 hx (y := (⟨"jdk/internal/util/Preconditions", "checkIndex", "(IILjava/util/function/BiFunction;)I"⟩ : MethodName)) hown (mvT hZ (own_w hw 239 rfl)) (mvT hZ (own_w hw 240 rfl)) (mvT hZ (own_w hw 238 rfl)) (mvT hZ (own_w hw 241 rfl)) (by decide) (backOf (W := 0) (rm39 l Z a0 hw [] pi pn af h0 n0 Z0 hi hj) hZ (own_w hw 241 rfl) (own_w hw 238 rfl) (by decide) (by decide)) (g := (mkF m 5 #[.val (.int pi), .val (.int pn)] [(.ref af), (.int pn), (.int pi)])) rfl (by rw [hml]; rfl) (argsL := [(.int pi), (.int pn), (.ref af)]) (rest := []) (lenOf own_pd1 rfl) rfl (by show 2 * 0 + _ ≤ _; exact Nat.le_of_eq rfl) (hb hby d38_5) (fun _ _ => ⟨rfl, e10, (by decide : 0 + 0 ≤ _), (by decide : 0 + 0 ≤ _)⟩)
    dsimp only [Pt.U, Pt.locs, Pt.cells, Pt.slots] at X11 l11 y11 z11 st11 hQ11
    replace y11 : _ = 0 := y11
    replace z11 : _ = 0 := z11
    subst y11 z11
    obtain ⟨Nq11, rfl, eq11⟩ := hQ11
    have N11 := own_frl l11 N0 Nq11
    refine own_pre (fun t k => st11 t k) ?_
    refine own_pre (A := (T11.setTop (mkF m 9 #[.val (.int pi), .val (.int pn)] []))) ?_ ?_
    · intro t k
      refine XS.pop X11.here hx rfl (hb hby d38_8) rfl rfl ?_
      exact k
    obtain ⟨fs, hr, hrun, hended, hW, hsame⟩ := X11.leave (hlocks := BodyLoose.notSynchronized Bd) (v := none) (fun _ => rfl)
    refine ⟨_, _, X11.returnOut hx Bd.returns (hb hby d38_9) hr, hrun, hended, _, _, rfl, ?_, ⟨_, rfl⟩, hW, hsame.mono (by decide) (by decide)⟩
    show own_Q38 Z pi pn (.ref af) h0 n0 _ T11.heap _
    rw [eq11]
    exact ⟨N11, rfl, rfl⟩
theorem d37_0 : decode jdk_43_method_2_code 0 = .ok (.iload_n 1, 1) := by decide +kernel
theorem d37_1 : decode jdk_43_method_2_code 1 = .ok (.aload_n 0, 1) := by decide +kernel
theorem d37_2 : decode jdk_43_method_2_code 2 = .ok (.arraylength, 1) := by decide +kernel
theorem d37_3 : decode jdk_43_method_2_code 3 = .ok (.invokestatic 9, 3) := by decide +kernel
theorem d37_6 : decode jdk_43_method_2_code 6 = .ok (.aload_n 0, 1) := by decide +kernel
theorem d37_7 : decode jdk_43_method_2_code 7 = .ok (.iload_n 1, 1) := by decide +kernel
theorem d37_8 : decode jdk_43_method_2_code 8 = .ok (.baload, 1) := by decide +kernel
theorem d37_9 : decode jdk_43_method_2_code 9 = .ok (.sipush 255, 3) := by decide +kernel
theorem d37_12 : decode jdk_43_method_2_code 12 = .ok (.iand, 1) := by decide +kernel
theorem d37_13 : decode jdk_43_method_2_code 13 = .ok (.i2c, 1) := by decide +kernel
theorem d37_14 : decode jdk_43_method_2_code 14 = .ok (.ireturn, 1) := by decide +kernel
theorem own_pn37 : plainName "java/lang/StringLatin1" = true := by first | (simp [plainName, overriddenIn]; done) | decide +kernel
theorem own_ef37 (m : MethodId) (x0 : Addr) (x1 : Int32) : entryFrame m #[(.ref x0), (.int x1)] 2 = mkF m 0 #[.val (.ref x0), .val (.int x1)] [] := by first | (simp [entryFrame, mkF, argsToLocals, Value.category]; done) | rfl
def own_Q37 (Z : State) (ad : Addr) (pi : Int32) (kd : ClassId) (pn : Int32) (vs : List Value) (pc : Int32) (vF : Value) (h0 : Heap) (n0 : Nat) (v : Option Value) (h : Heap) (L : List Loc) : Prop := Fr n0 L ∧ v = some (.int pc) ∧ h = h0
set_option maxRecDepth 65536 in
set_option maxHeartbeats 40000000 in
theorem rm37 (l : Launch) (Z : State) (a0 : Array Value) (hw : ∀ d ∈ tables_1, d.before a0 Z = true) (ws : List Jvm.Cond) (ad : Addr) (pi : Int32) (kd : ClassId) (pn : Int32) (vs : List Value) (pc : Int32) (vF : Value) (h0 : Heap) (n0 : Nat) (Z0 : n0 ≤ h0.size) (Vs : Arv Z h0 ad kd .byte pn vs (.int (0 : Int32))) (hi : ¬ pi < (0 : Int32)) (hj : pi < pn) (hv : vs.getD pi.toNatClampNeg (.int (0 : Int32)) = own_by pc) (hp : 0 ≤ pc.toInt ∧ pc.toInt < 256) (O4 : Sta Z Z.heap "jdk/internal/util/Preconditions" "SIOOBE_FORMATTER" "Ljava/util/function/BiFunction;" vF) (rF : vF.isRef = true) (X00 : Old Z n0 h0) :
    MetFree l (⟨"java/lang/StringLatin1", "charAt", "([BI)C"⟩ : MethodName) (head1 (Jvm.Cond.code (⟨"java/lang/StringLatin1", "charAt", "([BI)C"⟩ : MethodName) jdk_43_method_2_code 2 (some .char) :: ws) ({ frames := 2, cells := 0, slots := 0, locals := 27 } : Room)) (fun a U => a = #[(.ref ad), (.int pi)] ∧ Z.Warmed39 U.vm ∧ U.heap = h0) (fun _ _ _ _ _ => True) (fun _ U o U' => ∃ v L, o = .returned v ∧ own_Q37 Z ad pi kd pn vs pc vF h0 n0 v U'.heap L ∧ FrameEnd U o U' L ({ frames := 2, cells := 0, slots := 0, locals := 27 } : Room).cells ({ frames := 2, cells := 0, slots := 0, locals := 27 } : Room).slots) := by
  refine MetFree.of_bodySF (plainFor_of_name own_pn37) hisR ?_
  intro p e s m args below meth c s₁ Bd hml0 hP hK
  obtain ⟨rfl, hZ, hh⟩ := hP
  have hx := Bd.exec
  have hby := Bd.bytes
  have hml : c.maxLocals = 2 := hml0
  have hown : s.vm.findClass "java/lang/StringLatin1" = some m.cls := findClass_of_methodNamed Bd.named
  have hnm := (name_of_methodNamed Bd.named Bd.method).1
  have X0 : Stand p l e ({ frames := 2, cells := 0, slots := 0, locals := 27 } : Room) s m #[(.ref ad), (.int pi)] below meth c s₁ [] 0 0 := Stand.of_body Bd
  have e0 : s₁.heap = h0 := by rw [← hh, Bd.state]; rfl
  have N0 := Fr.nil n0
  refine own_pre (A := (s₁.setTop (mkF m 0 #[.val (.ref ad), .val (.int pi)] []))) (fun t k => castTop (own_ef37 m ad pi) k) ?_
  refine own_pre (A := (s₁.setTop (mkF m 3 #[.val (.ref ad), .val (.int pi)] [(.int pn), (.int pi)]))) ?_ ?_
  · intro t k
    refine XS.iloadN X0.here hx rfl (hb hby d37_0) rfl ?_
    refine XS.aloadN X0.here hx rfl (hb hby d37_1) rfl rfl ?_
    show Steps p.tables e below (s₁.setTop (mkF m 2 #[.val (.ref ad), .val (.int pi)] [(.ref ad), (.int pi)])) _
    obtain ⟨cl12, Ar12, -, S12, N12, -, -⟩ := id Vs
    refine X0.arraylength hx (by rw [e0]; exact Ar12.1) (State.isArrayOf_alike hZ.alike Ar12.2.1) (g := (mkF m 2 #[.val (.ref ad), .val (.int pi)] [(.ref ad), (.int pi)])) rfl rfl (hb hby d37_2) _ ?_
    rw [len_of S12 N12]
    exact k
  obtain ⟨_, _, ⟨T13, L13, k13, n13⟩, -, X13, ⟨Lc13, hQ13, l13, y13, z13⟩, st13⟩ := Jvm.LawKit.callS X0 hx (y := (⟨"java/lang/String", "checkIndex", "(II)V"⟩ : MethodName)) hown (mvT hZ (own_w hw 234 rfl)) (mvT hZ (own_w hw 235 rfl)) (mvT hZ (own_w hw 6 rfl)) (mvT hZ (own_w hw 236 rfl)) (by decide) (backOf (W := 0) (rm38 l Z a0 hw [] pi pn vF h0 n0 Z0 hi hj O4 rF X00) hZ (own_w hw 236 rfl) (own_w hw 6 rfl) (by decide) (by decide)) (g := (mkF m 3 #[.val (.ref ad), .val (.int pi)] [(.int pn), (.int pi)])) rfl (by rw [hml]; rfl) (argsL := [(.int pi), (.int pn)]) (rest := []) (lenOf own_pd2 rfl) rfl (by show 2 * 0 + _ ≤ _; exact Nat.le_of_eq rfl) (hb hby d37_3) (fun _ _ => ⟨rfl, e0, (by decide : 0 + 0 ≤ _), (by decide : 0 + 0 ≤ _)⟩)
  dsimp only [Pt.U, Pt.locs, Pt.cells, Pt.slots] at X13 l13 y13 z13 st13 hQ13
  replace y13 : _ = 0 := y13
  replace z13 : _ = 0 := z13
  subst y13 z13
  obtain ⟨Nq13, rfl, eq13⟩ := hQ13
  have N13 := own_frl l13 N0 Nq13
  refine own_pre (fun t k => st13 t k) ?_
  refine own_pre (A := (T13.setTop (mkF m 14 #[.val (.ref ad), .val (.int pi)] [(.int pc)]))) ?_ ?_
  · intro t k
    refine XS.aloadN X13.here hx rfl (hb hby d37_6) rfl rfl ?_
    refine XS.iloadN X13.here hx rfl (hb hby d37_7) rfl ?_
    show Steps p.tables e below (T13.setTop (mkF m 8 #[.val (.ref ad), .val (.int pi)] [(.int pi), (.ref ad)])) _
    obtain ⟨cl14, Ar14, q14, S14, N14, H14, G14⟩ := id Vs
    have hin14 : ¬ (pi < 0 ∨ cl14.slots.size ≤ (pi).toNatClampNeg) := inb_of S14 ⟨hi, hj⟩
    refine X13.baloadBytes hx (j := pi) (v := (.int (pc.toInt8.toInt32))) (by rw [eq13]; exact Ar14.1) (State.isArrayOf_alike hZ.alike Ar14.2.1) Ar14.2.2 hin14 (H14.at hin14 hv) (g := (mkF m 8 #[.val (.ref ad), .val (.int pi)] [(.int pi), (.ref ad)])) rfl rfl (hb hby d37_8) _ ?_
    refine XS.sipush X13.here hx rfl (hb hby d37_9) ?_
    refine XS.iand X13.here hx rfl (hb hby d37_12) rfl ?_
    show Steps p.tables e below (T13.setTop (mkF m 13 #[.val (.ref ad), .val (.int pi)] [(.int ((pc.toInt8.toInt32) &&& (255 : Int32)))])) _
    rw [own_bm pc hp]
    refine XS.i2c X13.here hx rfl (hb hby d37_13) rfl ?_
    show Steps p.tables e below (T13.setTop (mkF m 14 #[.val (.ref ad), .val (.int pi)] [(.int (pc.toUInt32.toUInt16.toUInt32.toInt32))])) _
    rw [own_ch_c pc hp]
    exact k
  obtain ⟨fs, hr, hrun, hended, hW, hsame⟩ := X13.leave (hlocks := BodyLoose.notSynchronized Bd) (v := some (.int pc)) (fun h => by rw [Bd.returns] at h; cases h)
  refine ⟨_, _, retOut X13 hx Bd.returns (own_ch_ret pc hp) (Or.inl ⟨rfl, Or.inr (Or.inr (Or.inr (Or.inl rfl))), _, rfl⟩) (hb hby d37_14) hr, hrun, hended, _, _, rfl, ?_, ⟨_, rfl⟩, hW, hsame.mono (by decide) (by decide)⟩
  show own_Q37 Z ad pi kd pn vs pc vF h0 n0 _ T13.heap _
  rw [eq13]
  exact ⟨N13, rfl, rfl⟩
theorem d35_0 : decode jdk_42_method_56_code 0 = .ok (.aload_n 0, 1) := by decide +kernel
theorem d35_1 : decode jdk_42_method_56_code 1 = .ok (.invokevirtual 492, 3) := by decide +kernel
theorem d35_4 : decode jdk_42_method_56_code 4 = .ok (.ifCond .eq 12, 3) := by decide +kernel
theorem d35_7 : decode jdk_42_method_56_code 7 = .ok (.aload_n 0, 1) := by decide +kernel
theorem d35_8 : decode jdk_42_method_56_code 8 = .ok (.getfield 9, 3) := by decide +kernel
theorem d35_11 : decode jdk_42_method_56_code 11 = .ok (.iload_n 1, 1) := by decide +kernel
theorem d35_12 : decode jdk_42_method_56_code 12 = .ok (.invokestatic 495, 3) := by decide +kernel
theorem d35_15 : decode jdk_42_method_56_code 15 = .ok (.ireturn, 1) := by decide +kernel
theorem own_pn35 : plainName "java/lang/String" = true := by first | (simp [plainName, overriddenIn]; done) | decide +kernel
theorem own_ef35 (m : MethodId) (x0 : Addr) (x1 : Int32) : entryFrame m #[(.ref x0), (.int x1)] 2 = mkF m 0 #[.val (.ref x0), .val (.int x1)] [] := by first | (simp [entryFrame, mkF, argsToLocals, Value.category]; done) | rfl
def own_Q35 (Z : State) (ax : Addr) (pi : Int32) (ad : Addr) (kd : ClassId) (pn : Int32) (vs : List Value) (pc : Int32) (pG : Int32) (vF : Value) (h0 : Heap) (n0 : Nat) (v : Option Value) (h : Heap) (L : List Loc) : Prop := Fr n0 L ∧ v = some (.int pc) ∧ h = h0
set_option maxRecDepth 65536 in
set_option maxHeartbeats 40000000 in
theorem rm35 (l : Launch) (Z : State) (a0 : Array Value) (hw : ∀ d ∈ tables_1, d.before a0 Z = true) (ws : List Jvm.Cond) (ax : Addr) (pi : Int32) (ad : Addr) (kd : ClassId) (pn : Int32) (vs : List Value) (pc : Int32) (pG : Int32) (vF : Value) (h0 : Heap) (n0 : Nat) (Z0 : n0 ≤ h0.size) (Es : Exa Z h0 ax "java/lang/String") (Sv : Fld Z h0 ax "java/lang/String" "value" "[B" (.ref ad)) (Sc : Fld Z h0 ax "java/lang/String" "coder" "B" (.int (0 : Int32))) (Vs : Arv Z h0 ad kd .byte pn vs (.int (0 : Int32))) (hi : ¬ pi < (0 : Int32)) (hj : pi < pn) (hv : vs.getD pi.toNatClampNeg (.int (0 : Int32)) = own_by pc) (hp : 0 ≤ pc.toInt ∧ pc.toInt < 256) (O2 : Sta Z Z.heap "java/lang/String" "COMPACT_STRINGS" "Z" (.int pG)) (hG : ¬ pG = (0 : Int32)) (X00 : Old Z n0 h0) (O4 : Sta Z Z.heap "jdk/internal/util/Preconditions" "SIOOBE_FORMATTER" "Ljava/util/function/BiFunction;" vF) (rF : vF.isRef = true) :
    MetFree l (⟨"java/lang/String", "charAt", "(I)C"⟩ : MethodName) (head1 (Jvm.Cond.code (⟨"java/lang/String", "charAt", "(I)C"⟩ : MethodName) jdk_42_method_56_code 2 (some .char) :: ws) ({ frames := 3, cells := 0, slots := 0, locals := 40 } : Room)) (fun a U => a = #[(.ref ax), (.int pi)] ∧ Z.Warmed39 U.vm ∧ U.heap = h0) (fun _ _ _ _ _ => True) (fun _ U o U' => ∃ v L, o = .returned v ∧ own_Q35 Z ax pi ad kd pn vs pc pG vF h0 n0 v U'.heap L ∧ FrameEnd U o U' L ({ frames := 3, cells := 0, slots := 0, locals := 40 } : Room).cells ({ frames := 3, cells := 0, slots := 0, locals := 40 } : Room).slots) := by
  refine MetFree.of_bodySF (plainFor_of_name own_pn35) hisR ?_
  intro p e s m args below meth c s₁ Bd hml0 hP hK
  obtain ⟨rfl, hZ, hh⟩ := hP
  have hx := Bd.exec
  have hby := Bd.bytes
  have hml : c.maxLocals = 2 := hml0
  have hown : s.vm.findClass "java/lang/String" = some m.cls := findClass_of_methodNamed Bd.named
  have hnm := (name_of_methodNamed Bd.named Bd.method).1
  have X0 : Stand p l e ({ frames := 3, cells := 0, slots := 0, locals := 40 } : Room) s m #[(.ref ax), (.int pi)] below meth c s₁ [] 0 0 := Stand.of_body Bd
  have e0 : s₁.heap = h0 := by rw [← hh, Bd.state]; rfl
  have N0 := Fr.nil n0
  refine own_pre (A := (s₁.setTop (mkF m 0 #[.val (.ref ax), .val (.int pi)] []))) (fun t k => castTop (own_ef35 m ax pi) k) ?_
  refine own_pre (A := (s₁.setTop (mkF m 1 #[.val (.ref ax), .val (.int pi)] [(.ref ax)]))) ?_ ?_
  · intro t k
    refine XS.aloadN X0.here hx rfl (hb hby d35_0) rfl rfl ?_
    exact k
  obtain ⟨cq15, kq15, q15a, q15b, q15c⟩ := isOf hZ e0 Es
  obtain ⟨_, _, ⟨T15, L15, k15, n15⟩, -, X15, ⟨Lc15, hQ15, l15, y15, z15⟩, st15⟩ := X0.virtualBack hx (y := (⟨"java/lang/String", "isLatin1", "()Z"⟩ : MethodName)) (z := (⟨"java/lang/String", "isLatin1", "()Z"⟩ : MethodName)) hown (mvT hZ (own_w hw 226 rfl)) (mvT hZ (own_w hw 227 rfl)) (notFace_of_selects (args := #[]) (mvT hZ (own_w hw 229 rfl))) (mvT hZ (own_w hw 229 rfl)) (mvT hZ (own_w hw 228 rfl)) (by decide) (backOf (W := 0) (rm36 l Z a0 hw [] ax pG h0 n0 Z0 Es Sc O2 hG X00) hZ (own_w hw 230 rfl) (own_w hw 6 rfl) (by decide) (by decide)) q15a q15c (g := (mkF m 1 #[.val (.ref ax), .val (.int pi)] [(.ref ax)])) rfl (by rw [hml]; rfl) (Steps.refl _) (argsL := []) (rest := []) (lenOf own_pd3 rfl) rfl (by show 2 * 0 + _ ≤ _; exact Nat.le_of_eq rfl) (hb hby d35_1) (fun _ _ => ⟨rfl, e0, (by decide : 0 + 0 ≤ _), (by decide : 0 + 0 ≤ _)⟩)
  dsimp only [Pt.U, Pt.locs, Pt.cells, Pt.slots] at X15 l15 y15 z15 st15 hQ15
  replace y15 : _ = 0 := y15
  replace z15 : _ = 0 := z15
  subst y15 z15
  obtain ⟨Nq15, rfl, eq15⟩ := hQ15
  have N15 := own_frl l15 N0 Nq15
  refine own_pre (fun t k => st15.trans k) ?_
  refine own_pre (A := (T15.setTop (mkF m 8 #[.val (.ref ax), .val (.int pi)] [(.ref ax)]))) ?_ ?_
  · intro t k
    refine XS.ifNo X15.here hx rfl (hb hby d35_4) rfl ((if0 _ _).trans (feq (by decide : ¬ ((1 : Int32) = (0 : Int32)))).1) ?_
    refine XS.aloadN X15.here hx rfl (hb hby d35_7) rfl rfl ?_
    exact k
  obtain ⟨T16, X16, e16, st16⟩ := getF X15 hx hZ hown (host := "") (Or.inl (own_w hw 26 rfl)) Via.refl eq15 Sv (g := (mkF m 8 #[.val (.ref ax), .val (.int pi)] [(.ref ax)])) rfl rfl (hb hby d35_8)
  refine own_pre (fun t k => st16 t k) ?_
  refine own_pre (A := (T16.setTop (mkF m 12 #[.val (.ref ax), .val (.int pi)] [(.int pi), (.ref ad)]))) ?_ ?_
  · intro t k
    refine XS.iloadN X16.here hx rfl (hb hby d35_11) rfl ?_
    exact k
  obtain ⟨_, _, ⟨T17, L17, k17, n17⟩, -, X17, ⟨Lc17, hQ17, l17, y17, z17⟩, st17⟩ := Jvm.LawKit.callS X16 hx (y := (⟨"java/lang/StringLatin1", "charAt", "([BI)C"⟩ : MethodName)) hown (mvT hZ (own_w hw 231 rfl)) (mvT hZ (own_w hw 232 rfl)) (mvT hZ (own_w hw 11 rfl)) (mvT hZ (own_w hw 233 rfl)) (by decide) (backOf (W := 0) (rm37 l Z a0 hw [] ad pi kd pn vs pc vF h0 n0 Z0 Vs hi hj hv hp O4 rF X00) hZ (own_w hw 233 rfl) (own_w hw 11 rfl) (by decide) (by decide)) (g := (mkF m 12 #[.val (.ref ax), .val (.int pi)] [(.int pi), (.ref ad)])) rfl (by rw [hml]; rfl) (argsL := [(.ref ad), (.int pi)]) (rest := []) (lenOf own_pd4 rfl) rfl (by show 2 * 0 + _ ≤ _; exact Nat.le_of_eq rfl) (hb hby d35_12) (fun _ _ => ⟨rfl, e16, (by decide : 0 + 0 ≤ _), (by decide : 0 + 0 ≤ _)⟩)
  dsimp only [Pt.U, Pt.locs, Pt.cells, Pt.slots] at X17 l17 y17 z17 st17 hQ17
  replace y17 : _ = 0 := y17
  replace z17 : _ = 0 := z17
  subst y17 z17
  obtain ⟨Nq17, rfl, eq17⟩ := hQ17
  have N17 := own_frl l17 N15 Nq17
  refine own_pre (fun t k => st17 t k) ?_
  obtain ⟨fs, hr, hrun, hended, hW, hsame⟩ := X17.leave (hlocks := BodyLoose.notSynchronized Bd) (v := some (.int pc)) (fun h => by rw [Bd.returns] at h; cases h)
  refine ⟨_, _, retOut X17 hx Bd.returns (own_ch_ret pc hp) (Or.inl ⟨rfl, Or.inr (Or.inr (Or.inr (Or.inl rfl))), _, rfl⟩) (hb hby d35_15) hr, hrun, hended, _, _, rfl, ?_, ⟨_, rfl⟩, hW, hsame.mono (by decide) (by decide)⟩
  show own_Q35 Z ax pi ad kd pn vs pc pG vF h0 n0 _ T17.heap _
  rw [eq17]
  exact ⟨N17, rfl, rfl⟩
theorem d3_0 : decode jdk_43_method_3_code 0 = .ok (.iload_n 0, 1) := by decide +kernel
theorem d3_1 : decode jdk_43_method_3_code 1 = .ok (.sipush 255, 3) := by decide +kernel
theorem d3_4 : decode jdk_43_method_3_code 4 = .ok (.if_icmp .gt 7, 3) := by decide +kernel
theorem d3_7 : decode jdk_43_method_3_code 7 = .ok (.iconst 1, 1) := by decide +kernel
theorem d3_8 : decode jdk_43_method_3_code 8 = .ok (.goto 4, 3) := by decide +kernel
theorem d3_12 : decode jdk_43_method_3_code 12 = .ok (.ireturn, 1) := by decide +kernel
theorem own_pn3 : plainName "java/lang/StringLatin1" = true := by first | (simp [plainName, overriddenIn]; done) | decide +kernel
theorem own_ef3 (m : MethodId) (x0 : Int32) : entryFrame m #[(.int x0)] 1 = mkF m 0 #[.val (.int x0)] [] := by first | (simp [entryFrame, mkF, argsToLocals, Value.category]; done) | rfl
def own_Q3 (Z : State) (pc : Int32) (h0 : Heap) (n0 : Nat) (v : Option Value) (h : Heap) (L : List Loc) : Prop := Fr n0 L ∧ v = some (.int (1 : Int32)) ∧ h = h0
set_option maxRecDepth 65536 in
set_option maxHeartbeats 40000000 in
theorem rm3 (l : Launch) (Z : State) (a0 : Array Value) (hw : ∀ d ∈ tables_1, d.before a0 Z = true) (ws : List Jvm.Cond) (pc : Int32) (h0 : Heap) (n0 : Nat) (Z0 : n0 ≤ h0.size) (hp : 0 ≤ pc.toInt ∧ pc.toInt < 256) :
    MetFree l (⟨"java/lang/StringLatin1", "canEncode", "(C)Z"⟩ : MethodName) (head1 (Jvm.Cond.code (⟨"java/lang/StringLatin1", "canEncode", "(C)Z"⟩ : MethodName) jdk_43_method_3_code 1 (some .boolean) :: ws) ({ frames := 0, cells := 0, slots := 0, locals := 0 } : Room)) (fun a U => a = #[(.int pc)] ∧ Z.Warmed39 U.vm ∧ U.heap = h0) (fun _ _ _ _ _ => True) (fun _ U o U' => ∃ v L, o = .returned v ∧ own_Q3 Z pc h0 n0 v U'.heap L ∧ FrameEnd U o U' L ({ frames := 0, cells := 0, slots := 0, locals := 0 } : Room).cells ({ frames := 0, cells := 0, slots := 0, locals := 0 } : Room).slots) := by
  refine MetFree.of_bodySF (plainFor_of_name own_pn3) hisR ?_
  intro p e s m args below meth c s₁ Bd hml0 hP hK
  obtain ⟨rfl, hZ, hh⟩ := hP
  have hx := Bd.exec
  have hby := Bd.bytes
  have hml : c.maxLocals = 1 := hml0
  have hown : s.vm.findClass "java/lang/StringLatin1" = some m.cls := findClass_of_methodNamed Bd.named
  have hnm := (name_of_methodNamed Bd.named Bd.method).1
  have X0 : Stand p l e ({ frames := 0, cells := 0, slots := 0, locals := 0 } : Room) s m #[(.int pc)] below meth c s₁ [] 0 0 := Stand.of_body Bd
  have e0 : s₁.heap = h0 := by rw [← hh, Bd.state]; rfl
  have N0 := Fr.nil n0
  refine own_pre (A := (s₁.setTop (mkF m 0 #[.val (.int pc)] []))) (fun t k => castTop (own_ef3 m pc) k) ?_
  refine own_pre (A := (s₁.setTop (mkF m 12 #[.val (.int pc)] [(.int (1 : Int32))]))) ?_ ?_
  · intro t k
    refine XS.iloadN X0.here hx rfl (hb hby d3_0) rfl ?_
    refine XS.sipush X0.here hx rfl (hb hby d3_1) ?_
    refine XS.icmpNo X0.here hx rfl (hb hby d3_4) rfl (flt (own_ch_le pc hp)).2.2.1 ?_
    refine XS.iconst X0.here hx rfl (hb hby d3_7) ?_
    refine XS.goto X0.here hx rfl (pc0 := 8) (pc' := 12) rfl (hb hby d3_8) (by decide) (by decide) ?_
    exact k
  obtain ⟨fs, hr, hrun, hended, hW, hsame⟩ := X0.leave (hlocks := BodyLoose.notSynchronized Bd) (v := some (.int (1 : Int32))) (fun h => by rw [Bd.returns] at h; cases h)
  refine ⟨_, _, retOut X0 hx Bd.returns rfl (Or.inl ⟨rfl, Or.inr (Or.inl rfl), _, rfl⟩) (hb hby d3_12) hr, hrun, hended, _, _, rfl, ?_, ⟨_, rfl⟩, hW, hsame.mono (by decide) (by decide)⟩
  show own_Q3 Z pc h0 n0 _ s₁.heap _
  rw [e0]
  exact ⟨N0, rfl, rfl⟩
theorem d4_0 : decode jdk_43_method_46_code 0 = .ok (.iconst 1, 1) := by decide +kernel
theorem d4_1 : decode jdk_43_method_46_code 1 = .ok (.newarray .byte, 2) := by decide +kernel
theorem d4_3 : decode jdk_43_method_46_code 3 = .ok (.dup, 1) := by decide +kernel
theorem d4_4 : decode jdk_43_method_46_code 4 = .ok (.iconst 0, 1) := by decide +kernel
theorem d4_5 : decode jdk_43_method_46_code 5 = .ok (.iload_n 0, 1) := by decide +kernel
theorem d4_6 : decode jdk_43_method_46_code 6 = .ok (.i2b, 1) := by decide +kernel
theorem d4_7 : decode jdk_43_method_46_code 7 = .ok (.bastore, 1) := by decide +kernel
theorem d4_8 : decode jdk_43_method_46_code 8 = .ok (.areturn, 1) := by decide +kernel
theorem own_pn4 : plainName "java/lang/StringLatin1" = true := by first | (simp [plainName, overriddenIn]; done) | decide +kernel
theorem own_ef4 (m : MethodId) (x0 : Int32) : entryFrame m #[(.int x0)] 1 = mkF m 0 #[.val (.int x0)] [] := by first | (simp [entryFrame, mkF, argsToLocals, Value.category]; done) | rfl
def own_Q4 (Z : State) (pc : Int32) (h0 : Heap) (n0 : Nat) (v : Option Value) (h : Heap) (L : List Loc) : Prop := Fr n0 L ∧ ∃ (ad : Addr) (kd : ClassId), v = some (.ref ad) ∧ n0 ≤ ad ∧ h0.size ≤ ad ∧ Arv Z h ad kd .byte (1 : Int32) (List.map own_by [pc]) (.int (0 : Int32)) ∧ Keep h0 h []
set_option maxRecDepth 65536 in
set_option maxHeartbeats 40000000 in
theorem rm4 (l : Launch) (Z : State) (a0 : Array Value) (hw : ∀ d ∈ tables_1, d.before a0 Z = true) (ws : List Jvm.Cond) (pc : Int32) (h0 : Heap) (n0 : Nat) (Z0 : n0 ≤ h0.size) :
    MetFree l (⟨"java/lang/StringLatin1", "toBytes", "(C)[B"⟩ : MethodName) (head1 (Jvm.Cond.code (⟨"java/lang/StringLatin1", "toBytes", "(C)[B"⟩ : MethodName) jdk_43_method_46_code 1 (some (.array .byte)) :: ws) ({ frames := 0, cells := 1, slots := 1, locals := 0 } : Room)) (fun a U => a = #[(.int pc)] ∧ Z.Warmed39 U.vm ∧ U.heap = h0) (fun _ _ _ _ _ => True) (fun _ U o U' => ∃ v L, o = .returned v ∧ own_Q4 Z pc h0 n0 v U'.heap L ∧ FrameEnd U o U' L ({ frames := 0, cells := 1, slots := 1, locals := 0 } : Room).cells ({ frames := 0, cells := 1, slots := 1, locals := 0 } : Room).slots) := by
  refine MetFree.of_bodySF (plainFor_of_name own_pn4) hisR ?_
  intro p e s m args below meth c s₁ Bd hml0 hP hK
  obtain ⟨rfl, hZ, hh⟩ := hP
  have hx := Bd.exec
  have hby := Bd.bytes
  have hml : c.maxLocals = 1 := hml0
  have hown : s.vm.findClass "java/lang/StringLatin1" = some m.cls := findClass_of_methodNamed Bd.named
  have hnm := (name_of_methodNamed Bd.named Bd.method).1
  have X0 : Stand p l e ({ frames := 0, cells := 1, slots := 1, locals := 0 } : Room) s m #[(.int pc)] below meth c s₁ [] 0 0 := Stand.of_body Bd
  have e0 : s₁.heap = h0 := by rw [← hh, Bd.state]; rfl
  have N0 := Fr.nil n0
  refine own_pre (A := (s₁.setTop (mkF m 0 #[.val (.int pc)] []))) (fun t k => castTop (own_ef4 m pc) k) ?_
  refine own_pre (A := (s₁.setTop (mkF m 1 #[.val (.int pc)] [(.int (1 : Int32))]))) ?_ ?_
  · intro t k
    refine XS.iconst X0.here hx rfl (hb hby d4_0) ?_
    exact k
  obtain ⟨T18, h18, k18, X18, e18, E18, A18, st18⟩ := newP X0 hx hZ (own_w hw 18 rfl) e0 (g := (mkF m 1 #[.val (.int pc)] [(.int (1 : Int32))])) rfl (hb hby d4_1) rfl (by decide) (cap := 1) (by decide) (by decide) (by decide) (by decide)
  obtain ⟨b18, g18⟩ : ∃ z, z = h0.size := ⟨_, rfl⟩
  rw [← g18] at A18 st18
  have gn_b18 : n0 ≤ b18 := Nat.le_trans Z0 (Nat.le_of_eq g18.symm)
  have sz_b18 : h0.size ≤ b18 := Nat.le_trans (Keep.refl h0 []).1 (Nat.le_of_eq g18.symm)
  have Kc18 : Keep h0 h18 [] := (Keep.refl h0 []).ext E18
  have V18 : Arv Z h18 b18 k18 .byte (1 : Int32) [(.int (0 : Int32))] (.int (0 : Int32)) := (Arv.new A18 (by decide)).pad (pad_rep [] (.int (0 : Int32)) 1)
  refine own_pre (fun t k => st18 t k) ?_
  refine own_pre (A := (T18.setTop (mkF m 7 #[.val (.int pc)] [(.int (pc.toInt8.toInt32)), (.int (0 : Int32)), (.ref b18), (.ref b18)]))) ?_ ?_
  · intro t k
    refine XS.dup X18.here hx rfl (hb hby d4_3) rfl rfl ?_
    refine XS.iconst X18.here hx rfl (hb hby d4_4) ?_
    refine XS.iloadN X18.here hx rfl (hb hby d4_5) rfl ?_
    refine XS.i2b X18.here hx rfl (hb hby d4_6) rfl ?_
    exact k
  obtain ⟨cl19, Ar19, q19, S19, N19, H19, G19⟩ := V18
  have hin19 : ¬ ((0 : Int32) < 0 ∨ cl19.slots.size ≤ ((0 : Int32)).toNatClampNeg) := inb_of S19 ⟨by decide, by decide⟩
  obtain ⟨T19, h19, X19, e19, W19, st19⟩ := stB X18 hx hZ e18 Ar19 (j := (0 : Int32)) hin19 (g := (mkF m 7 #[.val (.int pc)] [(.int (pc.toInt8.toInt32)), (.int (0 : Int32)), (.ref b18), (.ref b18)])) rfl rfl (hb hby d4_7)
  have V19 : Arv Z h19 b18 k18 .byte (1 : Int32) [(.int (pc.toInt8.toInt32))] (.int (0 : Int32)) := by have q := Arv.set Ar19 q19 S19 N19 H19 G19 (fits_nar_byte _) W19 0 rfl (Nat.le_of_ble_eq_true rfl); (first | rw [own_ch_nbb pc] at q | rw [own_ch_bb pc] at q); exact q
  have Kc19 : Keep h0 h19 [] := Kc18.wr W19 (Or.inr sz_b18)
  have N19 := Fr.snoc X19 N0 gn_b18
  refine own_pre (fun t k => st19 t k) ?_
  obtain ⟨fs, hr, hrun, hended, hW, hsame⟩ := X19.leave (hlocks := BodyLoose.notSynchronized Bd) (v := some (.ref b18)) (fun h => by rw [Bd.returns] at h; cases h)
  refine ⟨_, _, retOut X19 hx Bd.returns rfl (Or.inr (Or.inr (Or.inr (Or.inr ⟨rfl, rfl, rfl⟩)))) (hb hby d4_8) hr, hrun, hended, _, _, rfl, ?_, ⟨_, rfl⟩, hW, hsame.mono (by decide) (by decide)⟩
  show own_Q4 Z pc h0 n0 _ T19.heap _
  rw [e19]
  exact ⟨N19, b18, k18, rfl, gn_b18, sz_b18, V19, Kc19⟩
theorem d5_0 : decode jdk_42_method_151_code 0 = .ok (.aload_n 0, 1) := by decide +kernel
theorem d5_1 : decode jdk_42_method_151_code 1 = .ok (.invokespecial 1, 3) := by decide +kernel
theorem d5_4 : decode jdk_42_method_151_code 4 = .ok (.aload_n 0, 1) := by decide +kernel
theorem d5_5 : decode jdk_42_method_151_code 5 = .ok (.aload_n 1, 1) := by decide +kernel
theorem d5_6 : decode jdk_42_method_151_code 6 = .ok (.putfield 9, 3) := by decide +kernel
theorem d5_9 : decode jdk_42_method_151_code 9 = .ok (.aload_n 0, 1) := by decide +kernel
theorem d5_10 : decode jdk_42_method_151_code 10 = .ok (.iload_n 2, 1) := by decide +kernel
theorem d5_11 : decode jdk_42_method_151_code 11 = .ok (.putfield 15, 3) := by decide +kernel
theorem d5_14 : decode jdk_42_method_151_code 14 = .ok (.return_, 1) := by decide +kernel
theorem own_pn5 : plainName "java/lang/String" = true := by first | (simp [plainName, overriddenIn]; done) | decide +kernel
theorem own_ef5 (m : MethodId) (x0 : Addr) (x1 : Addr) (x2 : Int32) : entryFrame m #[(.ref x0), (.ref x1), (.int x2)] 3 = mkF m 0 #[.val (.ref x0), .val (.ref x1), .val (.int x2)] [] := by first | (simp [entryFrame, mkF, argsToLocals, Value.category]; done) | rfl
def own_Q5 (Z : State) (ax : Addr) (ab : Addr) (h0 : Heap) (n0 : Nat) (v : Option Value) (h : Heap) (L : List Loc) : Prop := Fr n0 L ∧ v = none ∧ Keep h0 h [ax] ∧ Fld Z h ax "java/lang/String" "value" "[B" (.ref ab) ∧ Fld Z h ax "java/lang/String" "coder" "B" (.int (0 : Int32))
set_option maxRecDepth 65536 in
set_option maxHeartbeats 40000000 in
theorem rm5 (l : Launch) (Z : State) (a0 : Array Value) (hw : ∀ d ∈ tables_1, d.before a0 Z = true) (ws : List Jvm.Cond) (ax : Addr) (ab : Addr) (h0 : Heap) (n0 : Nat) (Z0 : n0 ≤ h0.size) (Ea : Exa Z h0 ax "java/lang/String") (Fv : Fld Z h0 ax "java/lang/String" "value" "[B" .null) (Fc : Fld Z h0 ax "java/lang/String" "coder" "B" (.int (0 : Int32))) (ga : n0 ≤ ax) :
    MetFree l (⟨"java/lang/String", "<init>", "([BB)V"⟩ : MethodName) (head1 (Jvm.Cond.code (⟨"java/lang/String", "<init>", "([BB)V"⟩ : MethodName) jdk_42_method_151_code 3 none :: ws) ({ frames := 1, cells := 0, slots := 0, locals := 12 } : Room)) (fun a U => a = #[(.ref ax), (.ref ab), (.int (0 : Int32))] ∧ Z.Warmed39 U.vm ∧ U.heap = h0) (fun _ _ _ _ _ => True) (fun _ U o U' => ∃ v L, o = .returned v ∧ own_Q5 Z ax ab h0 n0 v U'.heap L ∧ FrameEnd U o U' L ({ frames := 1, cells := 0, slots := 0, locals := 12 } : Room).cells ({ frames := 1, cells := 0, slots := 0, locals := 12 } : Room).slots) := by
  refine MetFree.of_bodySF (plainFor_of_name own_pn5) hisR ?_
  intro p e s m args below meth c s₁ Bd hml0 hP hK
  obtain ⟨rfl, hZ, hh⟩ := hP
  have hx := Bd.exec
  have hby := Bd.bytes
  have hml : c.maxLocals = 3 := hml0
  have hown : s.vm.findClass "java/lang/String" = some m.cls := findClass_of_methodNamed Bd.named
  have hnm := (name_of_methodNamed Bd.named Bd.method).1
  have X0 : Stand p l e ({ frames := 1, cells := 0, slots := 0, locals := 12 } : Room) s m #[(.ref ax), (.ref ab), (.int (0 : Int32))] below meth c s₁ [] 0 0 := Stand.of_body Bd
  have e0 : s₁.heap = h0 := by rw [← hh, Bd.state]; rfl
  have N0 := Fr.nil n0
  refine own_pre (A := (s₁.setTop (mkF m 0 #[.val (.ref ax), .val (.ref ab), .val (.int (0 : Int32))] []))) (fun t k => castTop (own_ef5 m ax ab (0 : Int32)) k) ?_
  refine own_pre (A := (s₁.setTop (mkF m 1 #[.val (.ref ax), .val (.ref ab), .val (.int (0 : Int32))] [(.ref ax)]))) ?_ ?_
  · intro t k
    refine XS.aloadN X0.here hx rfl (hb hby d5_0) rfl rfl ?_
    exact k
  obtain ⟨T20, X20, e20, st20⟩ := initO X0 hx hZ hown (own_w hw 23 rfl) (own_w hw 24 rfl) (own_w hw 25 rfl) e0 (g := (mkF m 1 #[.val (.ref ax), .val (.ref ab), .val (.int (0 : Int32))] [(.ref ax)])) rfl (by rw [hml]; rfl) rfl (hb hby d5_1) (by decide) (W := 0) (by show 2 * 0 + _ ≤ _; exact Nat.le_of_eq rfl) (by decide)
  refine own_pre (fun t k => st20 t k) ?_
  refine own_pre (A := (T20.setTop (mkF m 6 #[.val (.ref ax), .val (.ref ab), .val (.int (0 : Int32))] [(.ref ab), (.ref ax)]))) ?_ ?_
  · intro t k
    refine XS.aloadN X20.here hx rfl (hb hby d5_4) rfl rfl ?_
    refine XS.aloadN X20.here hx rfl (hb hby d5_5) rfl rfl ?_
    exact k
  obtain ⟨T21, h21, X21, e21, W21, st21⟩ := putF X20 hx hZ hown (host := "") (Or.inl (own_w hw 26 rfl)) Via.refl e20 Fv Ea (Or.inr ⟨(own_w hw 27 rfl), rfl, hnm⟩) (own_w hw 14 rfl) (ty := (.array .byte)) (by decide) rfl rfl (g := (mkF m 6 #[.val (.ref ax), .val (.ref ab), .val (.int (0 : Int32))] [(.ref ab), (.ref ax)])) rfl rfl (hb hby d5_6)
  have Ea_21 := Ea.wr W21
  have Fc_21 := Fc.other W21 (Or.inr (slot_ne (Or.inr (own_w hw 29 rfl)) (Or.inr (own_w hw 27 rfl)) (by decide) (t := .byte) (t' := (.array .byte)) (by decide) (by decide)))
  have Kc21 : Keep h0 h21 [ax] := (Keep.refl h0 [ax]).wr W21 (Or.inl (List.mem_of_getElem? (i := 0) rfl))
  have N21 := Fr.snoc X21 N0 ga
  have Fw21 := Fv.same W21
  refine own_pre (fun t k => st21 t k) ?_
  refine own_pre (A := (T21.setTop (mkF m 11 #[.val (.ref ax), .val (.ref ab), .val (.int (0 : Int32))] [(.int (0 : Int32)), (.ref ax)]))) ?_ ?_
  · intro t k
    refine XS.aloadN X21.here hx rfl (hb hby d5_9) rfl rfl ?_
    refine XS.iloadN X21.here hx rfl (hb hby d5_10) rfl ?_
    exact k
  obtain ⟨T22, h22, X22, e22, W22, st22⟩ := putFN X21 hx hZ hown (own_w hw 28 rfl) Via.refl e21 Fc_21 Ea_21 (Or.inr ⟨(own_w hw 29 rfl), rfl, hnm⟩) (own_w hw 14 rfl) (ty := .byte) (v' := (.int (0 : Int32))) (by decide) rfl rfl (g := (mkF m 11 #[.val (.ref ax), .val (.ref ab), .val (.int (0 : Int32))] [(.int (0 : Int32)), (.ref ax)])) rfl rfl (hb hby d5_11)
  have Fw21_22 := Fw21.other W22 (Or.inr (slot_ne (Or.inr (own_w hw 27 rfl)) (Or.inr (own_w hw 29 rfl)) (by decide) (t := (.array .byte)) (t' := .byte) (by decide) (by decide)))
  have Kc22 : Keep h0 h22 [ax] := Kc21.wr W22 (Or.inl (List.mem_of_getElem? (i := 0) rfl))
  have N22 := Fr.snoc X22 N21 ga
  have Fw22 := Fc_21.same W22
  refine own_pre (fun t k => st22 t k) ?_
  obtain ⟨fs, hr, hrun, hended, hW, hsame⟩ := X22.leave (hlocks := BodyLoose.notSynchronized Bd) (v := none) (fun _ => rfl)
  refine ⟨_, _, X22.returnOut hx Bd.returns (hb hby d5_14) hr, hrun, hended, _, _, rfl, ?_, ⟨_, rfl⟩, hW, hsame.mono (by decide) (by decide)⟩
  show own_Q5 Z ax ab h0 n0 _ T22.heap _
  rw [e22]
  exact ⟨N22, rfl, Kc22, Fw21_22, Fw22⟩
theorem d2_0 : decode jdk_42_method_139_code 0 = .ok (.getstatic 38, 3) := by decide +kernel
theorem d2_3 : decode jdk_42_method_139_code 3 = .ok (.ifCond .eq 23, 3) := by decide +kernel
theorem d2_6 : decode jdk_42_method_139_code 6 = .ok (.iload_n 0, 1) := by decide +kernel
theorem d2_7 : decode jdk_42_method_139_code 7 = .ok (.invokestatic 1015, 3) := by decide +kernel
theorem d2_10 : decode jdk_42_method_139_code 10 = .ok (.ifCond .eq 16, 3) := by decide +kernel
theorem d2_13 : decode jdk_42_method_139_code 13 = .ok (.new 10, 3) := by decide +kernel
theorem d2_16 : decode jdk_42_method_139_code 16 = .ok (.dup, 1) := by decide +kernel
theorem d2_17 : decode jdk_42_method_139_code 17 = .ok (.iload_n 0, 1) := by decide +kernel
theorem d2_18 : decode jdk_42_method_139_code 18 = .ok (.invokestatic 1018, 3) := by decide +kernel
theorem d2_21 : decode jdk_42_method_139_code 21 = .ok (.iconst 0, 1) := by decide +kernel
theorem d2_22 : decode jdk_42_method_139_code 22 = .ok (.invokespecial 209, 3) := by decide +kernel
theorem d2_25 : decode jdk_42_method_139_code 25 = .ok (.areturn, 1) := by decide +kernel
theorem own_pn2 : plainName "java/lang/String" = true := by first | (simp [plainName, overriddenIn]; done) | decide +kernel
theorem own_ef2 (m : MethodId) (x0 : Int32) : entryFrame m #[(.int x0)] 1 = mkF m 0 #[.val (.int x0)] [] := by first | (simp [entryFrame, mkF, argsToLocals, Value.category]; done) | rfl
def own_Q2 (Z : State) (pc : Int32) (pG : Int32) (h0 : Heap) (n0 : Nat) (v : Option Value) (h : Heap) (L : List Loc) : Prop := Fr n0 L ∧ ∃ (ar ad : Addr) (kd : ClassId), v = some (.ref ar) ∧ Exa Z h ar "java/lang/String" ∧ Fld Z h ar "java/lang/String" "value" "[B" (.ref ad) ∧ Fld Z h ar "java/lang/String" "coder" "B" (.int (0 : Int32)) ∧ Arv Z h ad kd .byte (1 : Int32) (List.map own_by [pc]) (.int (0 : Int32)) ∧ Keep h0 h []
set_option maxRecDepth 65536 in
set_option maxHeartbeats 40000000 in
theorem rm2 (l : Launch) (Z : State) (a0 : Array Value) (hw : ∀ d ∈ tables_1, d.before a0 Z = true) (ws : List Jvm.Cond) (pc : Int32) (pG : Int32) (h0 : Heap) (n0 : Nat) (Z0 : n0 ≤ h0.size) (hp : 0 ≤ pc.toInt ∧ pc.toInt < 256) (O2 : Sta Z Z.heap "java/lang/String" "COMPACT_STRINGS" "Z" (.int pG)) (hG : ¬ pG = (0 : Int32)) (X00 : Old Z n0 h0) :
    MetFree l (⟨"java/lang/String", "valueOf", "(C)Ljava/lang/String;"⟩ : MethodName) (head1 (Jvm.Cond.code (⟨"java/lang/String", "valueOf", "(C)Ljava/lang/String;"⟩ : MethodName) jdk_42_method_139_code 1 (some (.object "java/lang/String")) :: ws) ({ frames := 2, cells := 2, slots := 5, locals := 27 } : Room)) (fun a U => a = #[(.int pc)] ∧ Z.Warmed39 U.vm ∧ U.heap = h0) (fun _ _ _ _ _ => True) (fun _ U o U' => ∃ v L, o = .returned v ∧ own_Q2 Z pc pG h0 n0 v U'.heap L ∧ FrameEnd U o U' L ({ frames := 2, cells := 2, slots := 5, locals := 27 } : Room).cells ({ frames := 2, cells := 2, slots := 5, locals := 27 } : Room).slots) := by
  refine MetFree.of_bodySF (plainFor_of_name own_pn2) hisR ?_
  intro p e s m args below meth c s₁ Bd hml0 hP hK
  obtain ⟨rfl, hZ, hh⟩ := hP
  have hx := Bd.exec
  have hby := Bd.bytes
  have hml : c.maxLocals = 1 := hml0
  have hown : s.vm.findClass "java/lang/String" = some m.cls := findClass_of_methodNamed Bd.named
  have hnm := (name_of_methodNamed Bd.named Bd.method).1
  have X0 : Stand p l e ({ frames := 2, cells := 2, slots := 5, locals := 27 } : Room) s m #[(.int pc)] below meth c s₁ [] 0 0 := Stand.of_body Bd
  have e0 : s₁.heap = h0 := by rw [← hh, Bd.state]; rfl
  have N0 := Fr.nil n0
  refine own_pre (A := (s₁.setTop (mkF m 0 #[.val (.int pc)] []))) (fun t k => castTop (own_ef2 m pc) k) ?_
  obtain ⟨T23, X23, e23, st23⟩ := getS2 X0 hx hZ hown (host := "") (Or.inl (own_w hw 8 rfl)) Via.refl e0 (O2.ext X00.2) (g := (mkF m 0 #[.val (.int pc)] [])) rfl (hb hby d2_0)
  refine own_pre (fun t k => st23 t k) ?_
  refine own_pre (A := (T23.setTop (mkF m 7 #[.val (.int pc)] [(.int pc)]))) ?_ ?_
  · intro t k
    refine XS.ifNo X23.here hx rfl (hb hby d2_3) rfl ((if0 _ _).trans (feq hG).1) ?_
    refine XS.iloadN X23.here hx rfl (hb hby d2_6) rfl ?_
    exact k
  obtain ⟨_, _, ⟨T24, L24, k24, n24⟩, -, X24, ⟨Lc24, hQ24, l24, y24, z24⟩, st24⟩ := Jvm.LawKit.callS X23 hx (y := (⟨"java/lang/StringLatin1", "canEncode", "(C)Z"⟩ : MethodName)) hown (mvT hZ (own_w hw 9 rfl)) (mvT hZ (own_w hw 10 rfl)) (mvT hZ (own_w hw 11 rfl)) (mvT hZ (own_w hw 12 rfl)) (by decide) (backOf (W := 0) (rm3 l Z a0 hw [] pc h0 n0 Z0 hp) hZ (own_w hw 12 rfl) (own_w hw 11 rfl) (by decide) (by decide)) (g := (mkF m 7 #[.val (.int pc)] [(.int pc)])) rfl (by rw [hml]; rfl) (argsL := [(.int pc)]) (rest := []) (lenOf own_pd5 rfl) rfl (by show 2 * 0 + _ ≤ _; exact Nat.le_of_eq rfl) (hb hby d2_7) (fun _ _ => ⟨rfl, e23, (by decide : 0 + 0 ≤ _), (by decide : 0 + 0 ≤ _)⟩)
  dsimp only [Pt.U, Pt.locs, Pt.cells, Pt.slots] at X24 l24 y24 z24 st24 hQ24
  replace y24 : _ = 0 := y24
  replace z24 : _ = 0 := z24
  subst y24 z24
  obtain ⟨Nq24, rfl, eq24⟩ := hQ24
  have N24 := own_frl l24 N0 Nq24
  refine own_pre (fun t k => st24 t k) ?_
  refine own_pre (A := (T24.setTop (mkF m 13 #[.val (.int pc)] []))) ?_ ?_
  · intro t k
    refine XS.ifNo X24.here hx rfl (hb hby d2_10) rfl ((if0 _ _).trans (feq (by decide : ¬ ((1 : Int32) = (0 : Int32)))).1) ?_
    exact k
  obtain ⟨T25, h25, X25, e25, E25, A25, D25, -, st25⟩ := newO X24 hx hZ hown (own_w hw 13 rfl) (own_w hw 14 rfl) (own_w hw 6 rfl) eq24 (g := (mkF m 13 #[.val (.int pc)] [])) rfl (hb hby d2_13) (by decide) (by decide)
  obtain ⟨b25, g25⟩ : ∃ z, z = h0.size := ⟨_, rfl⟩
  rw [← g25] at A25 D25 st25
  have gn_b25 : n0 ≤ b25 := Nat.le_trans Z0 (Nat.le_of_eq g25.symm)
  have sz_b25 : h0.size ≤ b25 := Nat.le_trans (Keep.refl h0 []).1 (Nat.le_of_eq g25.symm)
  have Zs25 : n0 ≤ h25.size := Nat.le_trans Z0 E25.1
  have Kc25 : Keep h0 h25 [] := (Keep.refl h0 []).ext E25
  have F25_value : Fld Z h25 b25 "java/lang/String" "value" "[B" .null := D25 (Or.inr (own_w hw 27 rfl)) (ty := (.array .byte)) (by decide)
  have F25_coder : Fld Z h25 b25 "java/lang/String" "coder" "B" (.int (0 : Int32)) := D25 (Or.inr (own_w hw 29 rfl)) (ty := .byte) (by decide)
  refine own_pre (fun t k => st25 t k) ?_
  refine own_pre (A := (T25.setTop (mkF m 18 #[.val (.int pc)] [(.int pc), (.ref b25), (.ref b25)]))) ?_ ?_
  · intro t k
    refine XS.dup X25.here hx rfl (hb hby d2_16) rfl rfl ?_
    refine XS.iloadN X25.here hx rfl (hb hby d2_17) rfl ?_
    exact k
  obtain ⟨_, _, ⟨T26, L26, k26, n26⟩, -, X26, ⟨Lc26, hQ26, l26, y26, z26⟩, st26⟩ := Jvm.LawKit.callS X25 hx (y := (⟨"java/lang/StringLatin1", "toBytes", "(C)[B"⟩ : MethodName)) hown (mvT hZ (own_w hw 15 rfl)) (mvT hZ (own_w hw 16 rfl)) (mvT hZ (own_w hw 11 rfl)) (mvT hZ (own_w hw 17 rfl)) (by decide) (backOf (W := 2) (rm4 l Z a0 hw [] pc h25 n0 Zs25 ) hZ (own_w hw 17 rfl) (own_w hw 11 rfl) (by decide) (by decide)) (g := (mkF m 18 #[.val (.int pc)] [(.int pc), (.ref b25), (.ref b25)])) rfl (by rw [hml]; rfl) (argsL := [(.int pc)]) (rest := [(.ref b25), (.ref b25)]) (lenOf own_pd6 rfl) rfl (by show 2 * 0 + _ ≤ _; exact Nat.le_of_eq rfl) (hb hby d2_18) (fun _ _ => ⟨rfl, e25, (by decide : 1 + 1 ≤ _), (by decide : 4 + 1 ≤ _)⟩)
  dsimp only [Pt.U, Pt.locs, Pt.cells, Pt.slots] at X26 l26 y26 z26 st26 hQ26
  replace y26 : _ = 2 := y26
  replace z26 : _ = 5 := z26
  subst y26 z26
  obtain ⟨Nq26, ad26, kq26, rfl, gq26, zz26, Vq26, Kq26⟩ := hQ26
  have N26 := own_frl l26 N24 Nq26
  refine own_pre (fun t k => st26 t k) ?_
  have ne_b25_ad26 : b25 ≠ ad26 := Nat.ne_of_lt (Nat.lt_of_lt_of_le A25.lt zz26)
  have A25_26 := A25.keep Kq26
  have F25_value_26 := F25_value.keep Kq26 nin0
  have F25_coder_26 := F25_coder.keep Kq26 nin0
  have Zs26 : n0 ≤ T26.heap.size := Nat.le_trans Zs25 Kq26.1
  have Kc26 : Keep h0 T26.heap [] := Kc25.trans Kq26 all0
  refine own_pre (A := (T26.setTop (mkF m 22 #[.val (.int pc)] [(.int (0 : Int32)), (.ref ad26), (.ref b25), (.ref b25)]))) ?_ ?_
  · intro t k
    refine XS.iconst X26.here hx rfl (hb hby d2_21) ?_
    exact k
  obtain ⟨_, _, ⟨T27, L27, k27, n27⟩, -, X27, ⟨Lc27, hQ27, l27, y27, z27⟩, st27⟩ := X26.specialBack hx (y := (⟨"java/lang/String", "<init>", "([BB)V"⟩ : MethodName)) rfl hown (mvT hZ (own_w hw 19 rfl)) (mvT hZ (own_w hw 20 rfl)) (mvT hZ (own_w hw 22 rfl)) (by decide) (backOf (W := 1) (rm5 l Z a0 hw [] b25 ad26 T26.heap n0 Zs26 A25_26 F25_value_26 F25_coder_26 gn_b25) hZ (own_w hw 22 rfl) (own_w hw 6 rfl) (by decide) (by decide)) (g := (mkF m 22 #[.val (.int pc)] [(.int (0 : Int32)), (.ref ad26), (.ref b25), (.ref b25)])) rfl (by rw [hml]; rfl) (Steps.refl _) (a := b25) (argsL := [(.ref ad26), (.int (0 : Int32))]) (rest := [(.ref b25)]) (lenOf own_pd7 rfl) rfl (by show 2 * 0 + _ ≤ _; exact Nat.le_of_eq rfl) (hb hby d2_22) (fun _ _ => ⟨rfl, rfl, (by decide : 2 + 0 ≤ _), (by decide : 5 + 0 ≤ _)⟩)
  dsimp only [Pt.U, Pt.locs, Pt.cells, Pt.slots] at X27 l27 y27 z27 st27 hQ27
  replace y27 : _ = 2 := y27
  replace z27 : _ = 5 := z27
  subst y27 z27
  obtain ⟨Nq27, rfl, Kq27, Fv27, Fc27⟩ := hQ27
  have N27 := own_frl l27 N26 Nq27
  refine own_pre (fun t k => st27.trans k) ?_
  have A25_27 := A25_26.keep Kq27
  have Vq26_27 := Vq26.keep Kq27 (ninS ne_b25_ad26.symm nin0)
  have Kc27 : Keep h0 T27.heap [] := Kc26.trans Kq27 (allS (Or.inr sz_b25) all0)
  obtain ⟨fs, hr, hrun, hended, hW, hsame⟩ := X27.leave (hlocks := BodyLoose.notSynchronized Bd) (v := some (.ref b25)) (fun h => by rw [Bd.returns] at h; cases h)
  refine ⟨_, _, retOut X27 hx Bd.returns rfl (Or.inr (Or.inr (Or.inr (Or.inr ⟨rfl, rfl, rfl⟩)))) (hb hby d2_25) hr, hrun, hended, _, _, rfl, ?_, ⟨_, rfl⟩, hW, hsame.mono (by decide) (by decide)⟩
  show own_Q2 Z pc pG h0 n0 _ T27.heap _
  exact ⟨N27, b25, ad26, kq26, rfl, A25_27, Fv27, Fc27, Vq26_27, Kc27⟩
theorem d42_0 : decode jdk_52_method_21_code 0 = .ok (.iconst 0, 1) := by decide +kernel
theorem d42_1 : decode jdk_52_method_21_code 1 = .ok (.istore 5, 2) := by decide +kernel
theorem d42_3 : decode jdk_52_method_21_code 3 = .ok (.iload 5, 2) := by decide +kernel
theorem d42_5 : decode jdk_52_method_21_code 5 = .ok (.iload 4, 2) := by decide +kernel
theorem d42_7 : decode jdk_52_method_21_code 7 = .ok (.if_icmp .ge 37, 3) := by decide +kernel
theorem d42_10 : decode jdk_52_method_21_code 10 = .ok (.aload_n 0, 1) := by decide +kernel
theorem d42_11 : decode jdk_52_method_21_code 11 = .ok (.iload_n 1, 1) := by decide +kernel
theorem d42_12 : decode jdk_52_method_21_code 12 = .ok (.caload, 1) := by decide +kernel
theorem d42_13 : decode jdk_52_method_21_code 13 = .ok (.istore 6, 2) := by decide +kernel
theorem d42_15 : decode jdk_52_method_21_code 15 = .ok (.iload 6, 2) := by decide +kernel
theorem d42_17 : decode jdk_52_method_21_code 17 = .ok (.sipush 255, 3) := by decide +kernel
theorem d42_20 : decode jdk_52_method_21_code 20 = .ok (.if_icmp .le 6, 3) := by decide +kernel
theorem d42_26 : decode jdk_52_method_21_code 26 = .ok (.aload_n 2, 1) := by decide +kernel
theorem d42_27 : decode jdk_52_method_21_code 27 = .ok (.iload_n 3, 1) := by decide +kernel
theorem d42_28 : decode jdk_52_method_21_code 28 = .ok (.iload 6, 2) := by decide +kernel
theorem d42_30 : decode jdk_52_method_21_code 30 = .ok (.i2b, 1) := by decide +kernel
theorem d42_31 : decode jdk_52_method_21_code 31 = .ok (.bastore, 1) := by decide +kernel
theorem d42_32 : decode jdk_52_method_21_code 32 = .ok (.iinc 1 1, 3) := by decide +kernel
theorem d42_35 : decode jdk_52_method_21_code 35 = .ok (.iinc 3 1, 3) := by decide +kernel
theorem d42_38 : decode jdk_52_method_21_code 38 = .ok (.iinc 5 1, 3) := by decide +kernel
theorem d42_41 : decode jdk_52_method_21_code 41 = .ok (.goto (-38), 3) := by decide +kernel
theorem d42_44 : decode jdk_52_method_21_code 44 = .ok (.iload 4, 2) := by decide +kernel
theorem d42_46 : decode jdk_52_method_21_code 46 = .ok (.ireturn, 1) := by decide +kernel
theorem own_pn42 : plainName "java/lang/StringUTF16" = true := by first | (simp [plainName, overriddenIn]; done) | decide +kernel
theorem own_ef42 (m : MethodId) (x0 : Addr) (x1 : Int32) (x2 : Addr) (x3 : Int32) (x4 : Int32) : entryFrame m #[(.ref x0), (.int x1), (.ref x2), (.int x3), (.int x4)] 7 = mkF m 0 #[.val (.ref x0), .val (.int x1), .val (.ref x2), .val (.int x3), .val (.int x4), .unset, .unset] [] := by first | (simp [entryFrame, mkF, argsToLocals, Value.category]; done) | rfl
abbrev own_l0 (x0 : Addr) (x1 : Addr) (x2 : Int32) : Array Slot := #[.val (.ref x0), .val (.int ((0 : Int32) + (1 : Int32))), .val (.ref x1), .val (.int (0 : Int32)), .val (.int (2 : Int32)), .val (.int (0 : Int32)), .val (.int x2)]
abbrev own_l1 (x0 : Addr) (x1 : Addr) (x2 : Int32) : Array Slot := #[.val (.ref x0), .val (.int (1 : Int32)), .val (.ref x1), .val (.int ((0 : Int32) + (1 : Int32))), .val (.int (2 : Int32)), .val (.int (0 : Int32)), .val (.int x2)]
abbrev own_l2 (x0 : Addr) (x1 : Addr) (x2 : Int32) : Array Slot := #[.val (.ref x0), .val (.int (1 : Int32)), .val (.ref x1), .val (.int (1 : Int32)), .val (.int (2 : Int32)), .val (.int ((0 : Int32) + (1 : Int32))), .val (.int x2)]
abbrev own_l3 (x0 : Addr) (x1 : Addr) (x2 : Int32) : Array Slot := #[.val (.ref x0), .val (.int ((1 : Int32) + (1 : Int32))), .val (.ref x1), .val (.int (1 : Int32)), .val (.int (2 : Int32)), .val (.int (1 : Int32)), .val (.int x2)]
abbrev own_l4 (x0 : Addr) (x1 : Addr) (x2 : Int32) : Array Slot := #[.val (.ref x0), .val (.int (2 : Int32)), .val (.ref x1), .val (.int ((1 : Int32) + (1 : Int32))), .val (.int (2 : Int32)), .val (.int (1 : Int32)), .val (.int x2)]
abbrev own_l5 (x0 : Addr) (x1 : Addr) (x2 : Int32) : Array Slot := #[.val (.ref x0), .val (.int (2 : Int32)), .val (.ref x1), .val (.int (2 : Int32)), .val (.int (2 : Int32)), .val (.int ((1 : Int32) + (1 : Int32))), .val (.int x2)]
def own_Q42 (Z : State) (asr : Addr) (ads : Addr) (ks : ClassId) (kd : ClassId) (px : Int32) (py : Int32) (h0 : Heap) (n0 : Nat) (v : Option Value) (h : Heap) (L : List Loc) : Prop := Fr n0 L ∧ v = some (.int (2 : Int32)) ∧ Keep h0 h [ads] ∧ Arv Z h ads kd .byte (2 : Int32) [(.int (px.toInt8.toInt32)), (.int (py.toInt8.toInt32))] (.int (0 : Int32))
set_option maxRecDepth 65536 in
set_option maxHeartbeats 40000000 in
theorem rm42 (l : Launch) (Z : State) (a0 : Array Value) (hw : ∀ d ∈ tables_1, d.before a0 Z = true) (ws : List Jvm.Cond) (asr : Addr) (ads : Addr) (ks : ClassId) (kd : ClassId) (px : Int32) (py : Int32) (h0 : Heap) (n0 : Nat) (Z0 : n0 ≤ h0.size) (Vs : Arv Z h0 asr ks .char (2 : Int32) [(.int px), (.int py)] (.int (0 : Int32))) (Vd : Arv Z h0 ads kd .byte (2 : Int32) [(.int (0 : Int32)), (.int (0 : Int32))] (.int (0 : Int32))) (gd : n0 ≤ ads) (nsd : asr ≠ ads) (hp_px : 0 ≤ px.toInt ∧ px.toInt < 256) (hp_py : 0 ≤ py.toInt ∧ py.toInt < 256) :
    MetFree l (⟨"java/lang/StringUTF16", "compress", "([CI[BII)I"⟩ : MethodName) (head1 (Jvm.Cond.code (⟨"java/lang/StringUTF16", "compress", "([CI[BII)I"⟩ : MethodName) jdk_52_method_21_code 7 (some .int) :: ws) ({ frames := 0, cells := 0, slots := 0, locals := 0 } : Room)) (fun a U => a = #[(.ref asr), (.int (0 : Int32)), (.ref ads), (.int (0 : Int32)), (.int (2 : Int32))] ∧ Z.Warmed39 U.vm ∧ U.heap = h0) (fun _ _ _ _ _ => True) (fun _ U o U' => ∃ v L, o = .returned v ∧ own_Q42 Z asr ads ks kd px py h0 n0 v U'.heap L ∧ FrameEnd U o U' L ({ frames := 0, cells := 0, slots := 0, locals := 0 } : Room).cells ({ frames := 0, cells := 0, slots := 0, locals := 0 } : Room).slots) := by
  refine MetFree.of_bodySF (plainFor_of_name own_pn42) hisR ?_
  intro p e s m args below meth c s₁ Bd hml0 hP hK
  obtain ⟨rfl, hZ, hh⟩ := hP
  have hx := Bd.exec
  have hby := Bd.bytes
  have hml : c.maxLocals = 7 := hml0
  have hown : s.vm.findClass "java/lang/StringUTF16" = some m.cls := findClass_of_methodNamed Bd.named
  have hnm := (name_of_methodNamed Bd.named Bd.method).1
  have X0 : Stand p l e ({ frames := 0, cells := 0, slots := 0, locals := 0 } : Room) s m #[(.ref asr), (.int (0 : Int32)), (.ref ads), (.int (0 : Int32)), (.int (2 : Int32))] below meth c s₁ [] 0 0 := Stand.of_body Bd
  have e0 : s₁.heap = h0 := by rw [← hh, Bd.state]; rfl
  have N0 := Fr.nil n0
  refine own_pre (A := (s₁.setTop (mkF m 0 #[.val (.ref asr), .val (.int (0 : Int32)), .val (.ref ads), .val (.int (0 : Int32)), .val (.int (2 : Int32)), .unset, .unset] []))) (fun t k => castTop (own_ef42 m asr (0 : Int32) ads (0 : Int32) (2 : Int32)) k) ?_
  refine own_pre (A := (s₁.setTop (mkF m 31 #[.val (.ref asr), .val (.int (0 : Int32)), .val (.ref ads), .val (.int (0 : Int32)), .val (.int (2 : Int32)), .val (.int (0 : Int32)), .val (.int px)] [(.int (px.toInt8.toInt32)), (.int (0 : Int32)), (.ref ads)]))) ?_ ?_
  · intro t k
    refine XS.iconst X0.here hx rfl (hb hby d42_0) ?_
    refine XS.istore X0.here hx rfl (hb hby d42_1) rfl (l' := #[.val (.ref asr), .val (.int (0 : Int32)), .val (.ref ads), .val (.int (0 : Int32)), .val (.int (2 : Int32)), .val (.int (0 : Int32)), .unset]) rfl ?_
    refine XS.iload X0.here hx rfl (hb hby d42_3) rfl ?_
    refine XS.iload X0.here hx rfl (hb hby d42_5) rfl ?_
    refine XS.icmpNo X0.here hx rfl (hb hby d42_7) rfl (tlt (by decide : (0 : Int32) < (2 : Int32))).2.1 ?_
    refine XS.aloadN X0.here hx rfl (hb hby d42_10) rfl rfl ?_
    refine XS.iloadN X0.here hx rfl (hb hby d42_11) rfl ?_
    show Steps p.tables e below (s₁.setTop (mkF m 12 #[.val (.ref asr), .val (.int (0 : Int32)), .val (.ref ads), .val (.int (0 : Int32)), .val (.int (2 : Int32)), .val (.int (0 : Int32)), .unset] [(.int (0 : Int32)), (.ref asr)])) _
    obtain ⟨cl28, Ar28, q28, S28, N28, H28, G28⟩ := id Vs
    have hin28 : ¬ ((0 : Int32) < 0 ∨ cl28.slots.size ≤ ((0 : Int32)).toNatClampNeg) := inb_of S28 ⟨by decide, by decide⟩
    refine X0.caload hx (j := (0 : Int32)) (v := (.int px)) (by rw [e0]; exact Ar28.1) (State.isArrayOf_alike hZ.alike Ar28.2.1) Ar28.2.2 hin28 (H28.at hin28 rfl) (g := (mkF m 12 #[.val (.ref asr), .val (.int (0 : Int32)), .val (.ref ads), .val (.int (0 : Int32)), .val (.int (2 : Int32)), .val (.int (0 : Int32)), .unset] [(.int (0 : Int32)), (.ref asr)])) rfl rfl (hb hby d42_12) _ ?_
    refine XS.istore X0.here hx rfl (hb hby d42_13) rfl (l' := #[.val (.ref asr), .val (.int (0 : Int32)), .val (.ref ads), .val (.int (0 : Int32)), .val (.int (2 : Int32)), .val (.int (0 : Int32)), .val (.int px)]) rfl ?_
    refine XS.iload X0.here hx rfl (hb hby d42_15) rfl ?_
    refine XS.sipush X0.here hx rfl (hb hby d42_17) ?_
    refine XS.icmpYes X0.here hx rfl (pc0 := 20) (pc' := 26) rfl (hb hby d42_20) rfl (flt (own_ch_le px hp_px)).2.2.2 (by decide) (by decide) ?_
    refine XS.aloadN X0.here hx rfl (hb hby d42_26) rfl rfl ?_
    refine XS.iloadN X0.here hx rfl (hb hby d42_27) rfl ?_
    refine XS.iload X0.here hx rfl (hb hby d42_28) rfl ?_
    refine XS.i2b X0.here hx rfl (hb hby d42_30) rfl ?_
    exact k
  obtain ⟨cl29, Ar29, q29, S29, N29, H29, G29⟩ := Vd
  have hin29 : ¬ ((0 : Int32) < 0 ∨ cl29.slots.size ≤ ((0 : Int32)).toNatClampNeg) := inb_of S29 ⟨by decide, by decide⟩
  obtain ⟨T29, h29, X29, e29, W29, st29⟩ := stB X0 hx hZ e0 Ar29 (j := (0 : Int32)) hin29 (g := (mkF m 31 #[.val (.ref asr), .val (.int (0 : Int32)), .val (.ref ads), .val (.int (0 : Int32)), .val (.int (2 : Int32)), .val (.int (0 : Int32)), .val (.int px)] [(.int (px.toInt8.toInt32)), (.int (0 : Int32)), (.ref ads)])) rfl rfl (hb hby d42_31)
  have V29 : Arv Z h29 ads kd .byte (2 : Int32) [(.int (px.toInt8.toInt32)), (.int (0 : Int32))] (.int (0 : Int32)) := by have q := Arv.set Ar29 q29 S29 N29 H29 G29 (fits_nar_byte _) W29 0 rfl (Nat.le_of_ble_eq_true rfl); (first | rw [own_ch_nbb px] at q | rw [own_ch_bb px] at q); exact q
  have Vs_29 := Vs.other W29 nsd
  have Kc29 : Keep h0 h29 [ads] := (Keep.refl h0 [ads]).wr W29 (Or.inl (List.mem_of_getElem? (i := 0) rfl))
  have N29 := Fr.snoc X29 N0 gd
  refine own_pre (fun t k => st29 t k) ?_
  refine own_pre (A := (T29.setTop (mkF m 31 #[.val (.ref asr), .val (.int (1 : Int32)), .val (.ref ads), .val (.int (1 : Int32)), .val (.int (2 : Int32)), .val (.int (1 : Int32)), .val (.int py)] [(.int (py.toInt8.toInt32)), (.int (1 : Int32)), (.ref ads)]))) ?_ ?_
  · intro t k
    refine XS.iinc X29.here hx rfl (hb hby d42_32) rfl (l' := (own_l0 asr ads px)) rfl ?_
    show Steps  p.tables e below (T29.setTop (mkF m 35 #[.val (.ref asr), .val (.int ((0 : Int32) + (1 : Int32))), .val (.ref ads), .val (.int (0 : Int32)), .val (.int (2 : Int32)), .val (.int (0 : Int32)), .val (.int px)] [])) _
    rw [show ((0 : Int32) + (1 : Int32)) = (1 : Int32) from by decide]
    refine XS.iinc X29.here hx rfl (hb hby d42_35) rfl (l' := (own_l1 asr ads px)) rfl ?_
    show Steps  p.tables e below (T29.setTop (mkF m 38 #[.val (.ref asr), .val (.int (1 : Int32)), .val (.ref ads), .val (.int ((0 : Int32) + (1 : Int32))), .val (.int (2 : Int32)), .val (.int (0 : Int32)), .val (.int px)] [])) _
    rw [show ((0 : Int32) + (1 : Int32)) = (1 : Int32) from by decide]
    refine XS.iinc X29.here hx rfl (hb hby d42_38) rfl (l' := (own_l2 asr ads px)) rfl ?_
    show Steps  p.tables e below (T29.setTop (mkF m 41 #[.val (.ref asr), .val (.int (1 : Int32)), .val (.ref ads), .val (.int (1 : Int32)), .val (.int (2 : Int32)), .val (.int ((0 : Int32) + (1 : Int32))), .val (.int px)] [])) _
    rw [show ((0 : Int32) + (1 : Int32)) = (1 : Int32) from by decide]
    refine XS.goto X29.here hx rfl (pc0 := 41) (pc' := 3) rfl (hb hby d42_41) (by decide) (by decide) ?_
    refine XS.iload X29.here hx rfl (hb hby d42_3) rfl ?_
    refine XS.iload X29.here hx rfl (hb hby d42_5) rfl ?_
    refine XS.icmpNo X29.here hx rfl (hb hby d42_7) rfl (tlt (by decide : (1 : Int32) < (2 : Int32))).2.1 ?_
    refine XS.aloadN X29.here hx rfl (hb hby d42_10) rfl rfl ?_
    refine XS.iloadN X29.here hx rfl (hb hby d42_11) rfl ?_
    show Steps p.tables e below (T29.setTop (mkF m 12 #[.val (.ref asr), .val (.int (1 : Int32)), .val (.ref ads), .val (.int (1 : Int32)), .val (.int (2 : Int32)), .val (.int (1 : Int32)), .val (.int px)] [(.int (1 : Int32)), (.ref asr)])) _
    obtain ⟨cl30, Ar30, q30, S30, N30, H30, G30⟩ := id Vs_29
    have hin30 : ¬ ((1 : Int32) < 0 ∨ cl30.slots.size ≤ ((1 : Int32)).toNatClampNeg) := inb_of S30 ⟨by decide, by decide⟩
    refine X29.caload hx (j := (1 : Int32)) (v := (.int py)) (by rw [e29]; exact Ar30.1) (State.isArrayOf_alike hZ.alike Ar30.2.1) Ar30.2.2 hin30 (H30.at hin30 rfl) (g := (mkF m 12 #[.val (.ref asr), .val (.int (1 : Int32)), .val (.ref ads), .val (.int (1 : Int32)), .val (.int (2 : Int32)), .val (.int (1 : Int32)), .val (.int px)] [(.int (1 : Int32)), (.ref asr)])) rfl rfl (hb hby d42_12) _ ?_
    refine XS.istore X29.here hx rfl (hb hby d42_13) rfl (l' := #[.val (.ref asr), .val (.int (1 : Int32)), .val (.ref ads), .val (.int (1 : Int32)), .val (.int (2 : Int32)), .val (.int (1 : Int32)), .val (.int py)]) rfl ?_
    refine XS.iload X29.here hx rfl (hb hby d42_15) rfl ?_
    refine XS.sipush X29.here hx rfl (hb hby d42_17) ?_
    refine XS.icmpYes X29.here hx rfl (pc0 := 20) (pc' := 26) rfl (hb hby d42_20) rfl (flt (own_ch_le py hp_py)).2.2.2 (by decide) (by decide) ?_
    refine XS.aloadN X29.here hx rfl (hb hby d42_26) rfl rfl ?_
    refine XS.iloadN X29.here hx rfl (hb hby d42_27) rfl ?_
    refine XS.iload X29.here hx rfl (hb hby d42_28) rfl ?_
    refine XS.i2b X29.here hx rfl (hb hby d42_30) rfl ?_
    exact k
  obtain ⟨cl31, Ar31, q31, S31, N31, H31, G31⟩ := V29
  have hin31 : ¬ ((1 : Int32) < 0 ∨ cl31.slots.size ≤ ((1 : Int32)).toNatClampNeg) := inb_of S31 ⟨by decide, by decide⟩
  obtain ⟨T31, h31, X31, e31, W31, st31⟩ := stB X29 hx hZ e29 Ar31 (j := (1 : Int32)) hin31 (g := (mkF m 31 #[.val (.ref asr), .val (.int (1 : Int32)), .val (.ref ads), .val (.int (1 : Int32)), .val (.int (2 : Int32)), .val (.int (1 : Int32)), .val (.int py)] [(.int (py.toInt8.toInt32)), (.int (1 : Int32)), (.ref ads)])) rfl rfl (hb hby d42_31)
  have V31 : Arv Z h31 ads kd .byte (2 : Int32) [(.int (px.toInt8.toInt32)), (.int (py.toInt8.toInt32))] (.int (0 : Int32)) := by have q := Arv.set Ar31 q31 S31 N31 H31 G31 (fits_nar_byte _) W31 1 rfl (Nat.le_of_ble_eq_true rfl); (first | rw [own_ch_nbb py] at q | rw [own_ch_bb py] at q); exact q
  have Kc31 : Keep h0 h31 [ads] := Kc29.wr W31 (Or.inl (List.mem_of_getElem? (i := 0) rfl))
  have N31 := Fr.snoc X31 N29 gd
  refine own_pre (fun t k => st31 t k) ?_
  refine own_pre (A := (T31.setTop (mkF m 46 #[.val (.ref asr), .val (.int (2 : Int32)), .val (.ref ads), .val (.int (2 : Int32)), .val (.int (2 : Int32)), .val (.int (2 : Int32)), .val (.int py)] [(.int (2 : Int32))]))) ?_ ?_
  · intro t k
    refine XS.iinc X31.here hx rfl (hb hby d42_32) rfl (l' := (own_l3 asr ads py)) rfl ?_
    show Steps  p.tables e below (T31.setTop (mkF m 35 #[.val (.ref asr), .val (.int ((1 : Int32) + (1 : Int32))), .val (.ref ads), .val (.int (1 : Int32)), .val (.int (2 : Int32)), .val (.int (1 : Int32)), .val (.int py)] [])) _
    rw [show ((1 : Int32) + (1 : Int32)) = (2 : Int32) from by decide]
    refine XS.iinc X31.here hx rfl (hb hby d42_35) rfl (l' := (own_l4 asr ads py)) rfl ?_
    show Steps  p.tables e below (T31.setTop (mkF m 38 #[.val (.ref asr), .val (.int (2 : Int32)), .val (.ref ads), .val (.int ((1 : Int32) + (1 : Int32))), .val (.int (2 : Int32)), .val (.int (1 : Int32)), .val (.int py)] [])) _
    rw [show ((1 : Int32) + (1 : Int32)) = (2 : Int32) from by decide]
    refine XS.iinc X31.here hx rfl (hb hby d42_38) rfl (l' := (own_l5 asr ads py)) rfl ?_
    show Steps  p.tables e below (T31.setTop (mkF m 41 #[.val (.ref asr), .val (.int (2 : Int32)), .val (.ref ads), .val (.int (2 : Int32)), .val (.int (2 : Int32)), .val (.int ((1 : Int32) + (1 : Int32))), .val (.int py)] [])) _
    rw [show ((1 : Int32) + (1 : Int32)) = (2 : Int32) from by decide]
    refine XS.goto X31.here hx rfl (pc0 := 41) (pc' := 3) rfl (hb hby d42_41) (by decide) (by decide) ?_
    refine XS.iload X31.here hx rfl (hb hby d42_3) rfl ?_
    refine XS.iload X31.here hx rfl (hb hby d42_5) rfl ?_
    refine XS.icmpYes X31.here hx rfl (pc0 := 7) (pc' := 44) rfl (hb hby d42_7) rfl (flt (by decide : ¬ ((2 : Int32) < (2 : Int32)))).2.1 (by decide) (by decide) ?_
    refine XS.iload X31.here hx rfl (hb hby d42_44) rfl ?_
    exact k
  obtain ⟨fs, hr, hrun, hended, hW, hsame⟩ := X31.leave (hlocks := BodyLoose.notSynchronized Bd) (v := some (.int (2 : Int32))) (fun h => by rw [Bd.returns] at h; cases h)
  refine ⟨_, _, retOut X31 hx Bd.returns rfl (Or.inl ⟨rfl, Or.inl rfl, _, rfl⟩) (hb hby d42_46) hr, hrun, hended, _, _, rfl, ?_, ⟨_, rfl⟩, hW, hsame.mono (by decide) (by decide)⟩
  show own_Q42 Z asr ads ks kd px py h0 n0 _ T31.heap _
  rw [e31]
  exact ⟨N31, rfl, Kc31, V31⟩
theorem d41_0 : decode jdk_52_method_16_code 0 = .ok (.iload_n 2, 1) := by decide +kernel
theorem d41_1 : decode jdk_52_method_16_code 1 = .ok (.newarray .byte, 2) := by decide +kernel
theorem d41_3 : decode jdk_52_method_16_code 3 = .ok (.astore_n 3, 1) := by decide +kernel
theorem d41_4 : decode jdk_52_method_16_code 4 = .ok (.aload_n 0, 1) := by decide +kernel
theorem d41_5 : decode jdk_52_method_16_code 5 = .ok (.iload_n 1, 1) := by decide +kernel
theorem d41_6 : decode jdk_52_method_16_code 6 = .ok (.aload_n 3, 1) := by decide +kernel
theorem d41_7 : decode jdk_52_method_16_code 7 = .ok (.iconst 0, 1) := by decide +kernel
theorem d41_8 : decode jdk_52_method_16_code 8 = .ok (.iload_n 2, 1) := by decide +kernel
theorem d41_9 : decode jdk_52_method_16_code 9 = .ok (.invokestatic 115, 3) := by decide +kernel
theorem d41_12 : decode jdk_52_method_16_code 12 = .ok (.istore 4, 2) := by decide +kernel
theorem d41_14 : decode jdk_52_method_16_code 14 = .ok (.iload 4, 2) := by decide +kernel
theorem d41_16 : decode jdk_52_method_16_code 16 = .ok (.iload_n 2, 1) := by decide +kernel
theorem d41_17 : decode jdk_52_method_16_code 17 = .ok (.if_icmp .eq 40, 3) := by decide +kernel
theorem d41_57 : decode jdk_52_method_16_code 57 = .ok (.aload_n 3, 1) := by decide +kernel
theorem d41_58 : decode jdk_52_method_16_code 58 = .ok (.areturn, 1) := by decide +kernel
theorem own_pn41 : plainName "java/lang/StringUTF16" = true := by first | (simp [plainName, overriddenIn]; done) | decide +kernel
theorem own_ef41 (m : MethodId) (x0 : Addr) (x1 : Int32) (x2 : Int32) : entryFrame m #[(.ref x0), (.int x1), (.int x2)] 6 = mkF m 0 #[.val (.ref x0), .val (.int x1), .val (.int x2), .unset, .unset, .unset] [] := by first | (simp [entryFrame, mkF, argsToLocals, Value.category]; done) | rfl
def own_Q41 (Z : State) (asr : Addr) (ks : ClassId) (px : Int32) (py : Int32) (h0 : Heap) (n0 : Nat) (v : Option Value) (h : Heap) (L : List Loc) : Prop := Fr n0 L ∧ ∃ (ad : Addr) (kd : ClassId), v = some (.ref ad) ∧ n0 ≤ ad ∧ h0.size ≤ ad ∧ Arv Z h ad kd .byte (2 : Int32) [(.int (px.toInt8.toInt32)), (.int (py.toInt8.toInt32))] (.int (0 : Int32)) ∧ Keep h0 h []
set_option maxRecDepth 65536 in
set_option maxHeartbeats 40000000 in
theorem rm41 (l : Launch) (Z : State) (a0 : Array Value) (hw : ∀ d ∈ tables_1, d.before a0 Z = true) (ws : List Jvm.Cond) (asr : Addr) (ks : ClassId) (px : Int32) (py : Int32) (h0 : Heap) (n0 : Nat) (Z0 : n0 ≤ h0.size) (Vs : Arv Z h0 asr ks .char (2 : Int32) [(.int px), (.int py)] (.int (0 : Int32))) (hp_px : 0 ≤ px.toInt ∧ px.toInt < 256) (hp_py : 0 ≤ py.toInt ∧ py.toInt < 256) :
    MetFree l (⟨"java/lang/StringUTF16", "compress", "([CII)[B"⟩ : MethodName) (head1 (Jvm.Cond.code (⟨"java/lang/StringUTF16", "compress", "([CII)[B"⟩ : MethodName) jdk_52_method_16_code 6 (some (.array .byte)) :: ws) ({ frames := 1, cells := 1, slots := 2, locals := 18 } : Room)) (fun a U => a = #[(.ref asr), (.int (0 : Int32)), (.int (2 : Int32))] ∧ Z.Warmed39 U.vm ∧ U.heap = h0) (fun _ _ _ _ _ => True) (fun _ U o U' => ∃ v L, o = .returned v ∧ own_Q41 Z asr ks px py h0 n0 v U'.heap L ∧ FrameEnd U o U' L ({ frames := 1, cells := 1, slots := 2, locals := 18 } : Room).cells ({ frames := 1, cells := 1, slots := 2, locals := 18 } : Room).slots) := by
  refine MetFree.of_bodySF (plainFor_of_name own_pn41) hisR ?_
  intro p e s m args below meth c s₁ Bd hml0 hP hK
  obtain ⟨rfl, hZ, hh⟩ := hP
  have hx := Bd.exec
  have hby := Bd.bytes
  have hml : c.maxLocals = 6 := hml0
  have hown : s.vm.findClass "java/lang/StringUTF16" = some m.cls := findClass_of_methodNamed Bd.named
  have hnm := (name_of_methodNamed Bd.named Bd.method).1
  have X0 : Stand p l e ({ frames := 1, cells := 1, slots := 2, locals := 18 } : Room) s m #[(.ref asr), (.int (0 : Int32)), (.int (2 : Int32))] below meth c s₁ [] 0 0 := Stand.of_body Bd
  have e0 : s₁.heap = h0 := by rw [← hh, Bd.state]; rfl
  have N0 := Fr.nil n0
  refine own_pre (A := (s₁.setTop (mkF m 0 #[.val (.ref asr), .val (.int (0 : Int32)), .val (.int (2 : Int32)), .unset, .unset, .unset] []))) (fun t k => castTop (own_ef41 m asr (0 : Int32) (2 : Int32)) k) ?_
  refine own_pre (A := (s₁.setTop (mkF m 1 #[.val (.ref asr), .val (.int (0 : Int32)), .val (.int (2 : Int32)), .unset, .unset, .unset] [(.int (2 : Int32))]))) ?_ ?_
  · intro t k
    refine XS.iloadN X0.here hx rfl (hb hby d41_0) rfl ?_
    exact k
  obtain ⟨T32, h32, k32, X32, e32, E32, A32, st32⟩ := newP X0 hx hZ (own_w hw 18 rfl) e0 (g := (mkF m 1 #[.val (.ref asr), .val (.int (0 : Int32)), .val (.int (2 : Int32)), .unset, .unset, .unset] [(.int (2 : Int32))])) rfl (hb hby d41_1) rfl (by decide) (cap := 2) (by decide) (by decide) (by decide) (by decide)
  obtain ⟨b32, g32⟩ : ∃ z, z = h0.size := ⟨_, rfl⟩
  rw [← g32] at A32 st32
  have ne_asr_b32 : asr ≠ b32 := Nat.ne_of_lt (Nat.lt_of_lt_of_le Vs.lt (Nat.le_of_eq g32.symm))
  have gn_b32 : n0 ≤ b32 := Nat.le_trans Z0 (Nat.le_of_eq g32.symm)
  have sz_b32 : h0.size ≤ b32 := Nat.le_trans (Keep.refl h0 []).1 (Nat.le_of_eq g32.symm)
  have Vs_32 := Vs.ext E32
  have Zs32 : n0 ≤ h32.size := Nat.le_trans Z0 E32.1
  have Kc32 : Keep h0 h32 [] := (Keep.refl h0 []).ext E32
  have V32 : Arv Z h32 b32 k32 .byte (2 : Int32) [(.int (0 : Int32)), (.int (0 : Int32))] (.int (0 : Int32)) := (Arv.new A32 (by decide)).pad (pad_rep [] (.int (0 : Int32)) 2)
  refine own_pre (fun t k => st32 t k) ?_
  refine own_pre (A := (T32.setTop (mkF m 9 #[.val (.ref asr), .val (.int (0 : Int32)), .val (.int (2 : Int32)), .val (.ref b32), .unset, .unset] [(.int (2 : Int32)), (.int (0 : Int32)), (.ref b32), (.int (0 : Int32)), (.ref asr)]))) ?_ ?_
  · intro t k
    refine XS.astoreN X32.here hx rfl (hb hby d41_3) rfl rfl (l' := #[.val (.ref asr), .val (.int (0 : Int32)), .val (.int (2 : Int32)), .val (.ref b32), .unset, .unset]) rfl ?_
    refine XS.aloadN X32.here hx rfl (hb hby d41_4) rfl rfl ?_
    refine XS.iloadN X32.here hx rfl (hb hby d41_5) rfl ?_
    refine XS.aloadN X32.here hx rfl (hb hby d41_6) rfl rfl ?_
    refine XS.iconst X32.here hx rfl (hb hby d41_7) ?_
    refine XS.iloadN X32.here hx rfl (hb hby d41_8) rfl ?_
    exact k
  obtain ⟨_, _, ⟨T33, L33, k33, n33⟩, -, X33, ⟨Lc33, hQ33, l33, y33, z33⟩, st33⟩ := Jvm.LawKit.callS X32 hx (y := (⟨"java/lang/StringUTF16", "compress", "([CI[BII)I"⟩ : MethodName)) hown (mvT hZ (own_w hw 249 rfl)) (mvT hZ (own_w hw 250 rfl)) (mvT hZ (own_w hw 247 rfl)) (mvT hZ (own_w hw 251 rfl)) (by decide) (backOf (W := 0) (rm42 l Z a0 hw [] asr b32 ks k32 px py h32 n0 Zs32 Vs_32 V32 gn_b32 ne_asr_b32 hp_px hp_py) hZ (own_w hw 251 rfl) (own_w hw 247 rfl) (by decide) (by decide)) (g := (mkF m 9 #[.val (.ref asr), .val (.int (0 : Int32)), .val (.int (2 : Int32)), .val (.ref b32), .unset, .unset] [(.int (2 : Int32)), (.int (0 : Int32)), (.ref b32), (.int (0 : Int32)), (.ref asr)])) rfl (by rw [hml]; rfl) (argsL := [(.ref asr), (.int (0 : Int32)), (.ref b32), (.int (0 : Int32)), (.int (2 : Int32))]) (rest := []) (lenOf own_pd8 rfl) rfl (by show 2 * 0 + _ ≤ _; exact Nat.le_of_eq rfl) (hb hby d41_9) (fun _ _ => ⟨rfl, e32, (by decide : 1 + 0 ≤ _), (by decide : 2 + 0 ≤ _)⟩)
  dsimp only [Pt.U, Pt.locs, Pt.cells, Pt.slots] at X33 l33 y33 z33 st33 hQ33
  replace y33 : _ = 1 := y33
  replace z33 : _ = 2 := z33
  subst y33 z33
  obtain ⟨Nq33, rfl, Kq33, Vq33⟩ := hQ33
  have N33 := own_frl l33 N0 Nq33
  refine own_pre (fun t k => st33 t k) ?_
  have Kc33 : Keep h0 T33.heap [] := Kc32.trans Kq33 (allS (Or.inr sz_b32) all0)
  refine own_pre (A := (T33.setTop (mkF m 58 #[.val (.ref asr), .val (.int (0 : Int32)), .val (.int (2 : Int32)), .val (.ref b32), .val (.int (2 : Int32)), .unset] [(.ref b32)]))) ?_ ?_
  · intro t k
    refine XS.istore X33.here hx rfl (hb hby d41_12) rfl (l' := #[.val (.ref asr), .val (.int (0 : Int32)), .val (.int (2 : Int32)), .val (.ref b32), .val (.int (2 : Int32)), .unset]) rfl ?_
    refine XS.iload X33.here hx rfl (hb hby d41_14) rfl ?_
    refine XS.iloadN X33.here hx rfl (hb hby d41_16) rfl ?_
    refine XS.icmpYes X33.here hx rfl (pc0 := 17) (pc' := 57) rfl (hb hby d41_17) rfl (teq (by decide : (2 : Int32) = (2 : Int32))).1 (by decide) (by decide) ?_
    refine XS.aloadN X33.here hx rfl (hb hby d41_57) rfl rfl ?_
    exact k
  obtain ⟨fs, hr, hrun, hended, hW, hsame⟩ := X33.leave (hlocks := BodyLoose.notSynchronized Bd) (v := some (.ref b32)) (fun h => by rw [Bd.returns] at h; cases h)
  refine ⟨_, _, retOut X33 hx Bd.returns rfl (Or.inr (Or.inr (Or.inr (Or.inr ⟨rfl, rfl, rfl⟩)))) (hb hby d41_58) hr, hrun, hended, _, _, rfl, ?_, ⟨_, rfl⟩, hW, hsame.mono (by decide) (by decide)⟩
  show own_Q41 Z asr ks px py h0 n0 _ T33.heap _
  exact ⟨N33, b32, k32, rfl, gn_b32, sz_b32, Vq33, Kc33⟩
theorem d43_0 : decode jdk_52_method_15_code 0 = .ok (.iload_n 1, 1) := by decide +kernel
theorem d43_1 : decode jdk_52_method_15_code 1 = .ok (.aload_n 0, 1) := by decide +kernel
theorem d43_2 : decode jdk_52_method_15_code 2 = .ok (.arraylength, 1) := by decide +kernel
theorem d43_3 : decode jdk_52_method_15_code 3 = .ok (.isub, 1) := by decide +kernel
theorem d43_4 : decode jdk_52_method_15_code 4 = .ok (.bipush 31, 2) := by decide +kernel
theorem d43_6 : decode jdk_52_method_15_code 6 = .ok (.iushr, 1) := by decide +kernel
theorem d43_7 : decode jdk_52_method_15_code 7 = .ok (.i2b, 1) := by decide +kernel
theorem d43_8 : decode jdk_52_method_15_code 8 = .ok (.ireturn, 1) := by decide +kernel
theorem own_pn43 : plainName "java/lang/StringUTF16" = true := by first | (simp [plainName, overriddenIn]; done) | decide +kernel
theorem own_ef43 (m : MethodId) (x0 : Addr) (x1 : Int32) : entryFrame m #[(.ref x0), (.int x1)] 2 = mkF m 0 #[.val (.ref x0), .val (.int x1)] [] := by first | (simp [entryFrame, mkF, argsToLocals, Value.category]; done) | rfl
def own_Q43 (Z : State) (ad : Addr) (kd : ClassId) (px : Int32) (py : Int32) (h0 : Heap) (n0 : Nat) (v : Option Value) (h : Heap) (L : List Loc) : Prop := Fr n0 L ∧ v = some (.int (0 : Int32)) ∧ h = h0
set_option maxRecDepth 65536 in
set_option maxHeartbeats 40000000 in
theorem rm43 (l : Launch) (Z : State) (a0 : Array Value) (hw : ∀ d ∈ tables_1, d.before a0 Z = true) (ws : List Jvm.Cond) (ad : Addr) (kd : ClassId) (px : Int32) (py : Int32) (h0 : Heap) (n0 : Nat) (Z0 : n0 ≤ h0.size) (Vd : Arv Z h0 ad kd .byte (2 : Int32) [(.int (px.toInt8.toInt32)), (.int (py.toInt8.toInt32))] (.int (0 : Int32))) :
    MetFree l (⟨"java/lang/StringUTF16", "coderFromArrayLen", "([BI)B"⟩ : MethodName) (head1 (Jvm.Cond.code (⟨"java/lang/StringUTF16", "coderFromArrayLen", "([BI)B"⟩ : MethodName) jdk_52_method_15_code 2 (some .byte) :: ws) ({ frames := 0, cells := 0, slots := 0, locals := 0 } : Room)) (fun a U => a = #[(.ref ad), (.int (2 : Int32))] ∧ Z.Warmed39 U.vm ∧ U.heap = h0) (fun _ _ _ _ _ => True) (fun _ U o U' => ∃ v L, o = .returned v ∧ own_Q43 Z ad kd px py h0 n0 v U'.heap L ∧ FrameEnd U o U' L ({ frames := 0, cells := 0, slots := 0, locals := 0 } : Room).cells ({ frames := 0, cells := 0, slots := 0, locals := 0 } : Room).slots) := by
  refine MetFree.of_bodySF (plainFor_of_name own_pn43) hisR ?_
  intro p e s m args below meth c s₁ Bd hml0 hP hK
  obtain ⟨rfl, hZ, hh⟩ := hP
  have hx := Bd.exec
  have hby := Bd.bytes
  have hml : c.maxLocals = 2 := hml0
  have hown : s.vm.findClass "java/lang/StringUTF16" = some m.cls := findClass_of_methodNamed Bd.named
  have hnm := (name_of_methodNamed Bd.named Bd.method).1
  have X0 : Stand p l e ({ frames := 0, cells := 0, slots := 0, locals := 0 } : Room) s m #[(.ref ad), (.int (2 : Int32))] below meth c s₁ [] 0 0 := Stand.of_body Bd
  have e0 : s₁.heap = h0 := by rw [← hh, Bd.state]; rfl
  have N0 := Fr.nil n0
  refine own_pre (A := (s₁.setTop (mkF m 0 #[.val (.ref ad), .val (.int (2 : Int32))] []))) (fun t k => castTop (own_ef43 m ad (2 : Int32)) k) ?_
  refine own_pre (A := (s₁.setTop (mkF m 8 #[.val (.ref ad), .val (.int (2 : Int32))] [(.int (0 : Int32))]))) ?_ ?_
  · intro t k
    refine XS.iloadN X0.here hx rfl (hb hby d43_0) rfl ?_
    refine XS.aloadN X0.here hx rfl (hb hby d43_1) rfl rfl ?_
    show Steps p.tables e below (s₁.setTop (mkF m 2 #[.val (.ref ad), .val (.int (2 : Int32))] [(.ref ad), (.int (2 : Int32))])) _
    obtain ⟨cl34, Ar34, -, S34, N34, -, -⟩ := id Vd
    refine X0.arraylength hx (by rw [e0]; exact Ar34.1) (State.isArrayOf_alike hZ.alike Ar34.2.1) (g := (mkF m 2 #[.val (.ref ad), .val (.int (2 : Int32))] [(.ref ad), (.int (2 : Int32))])) rfl rfl (hb hby d43_2) _ ?_
    rw [len_of S34 N34]
    refine XS.isub X0.here hx rfl (hb hby d43_3) rfl ?_
    show Steps p.tables e below (s₁.setTop (mkF m 4 #[.val (.ref ad), .val (.int (2 : Int32))] [(.int ((2 : Int32) - (2 : Int32)))])) _
    rw [show ((2 : Int32) - (2 : Int32)) = (0 : Int32) from by decide]
    refine XS.bipush X0.here hx rfl (hb hby d43_4) ?_
    refine XS.iushr X0.here hx rfl (hb hby d43_6) rfl ?_
    show Steps p.tables e below (s₁.setTop (mkF m 7 #[.val (.ref ad), .val (.int (2 : Int32))] [(.int (((0 : Int32).toUInt32 >>> ((31 : Int32) &&& 31).toUInt32).toInt32))])) _
    rw [show (((0 : Int32).toUInt32 >>> ((31 : Int32) &&& 31).toUInt32).toInt32) = (0 : Int32) from by decide]
    refine XS.i2b X0.here hx rfl (hb hby d43_7) rfl ?_
    show Steps p.tables e below (s₁.setTop (mkF m 8 #[.val (.ref ad), .val (.int (2 : Int32))] [(.int ((0 : Int32).toInt8.toInt32))])) _
    rw [show ((0 : Int32).toInt8.toInt32) = (0 : Int32) from by decide]
    exact k
  obtain ⟨fs, hr, hrun, hended, hW, hsame⟩ := X0.leave (hlocks := BodyLoose.notSynchronized Bd) (v := some (.int (0 : Int32))) (fun h => by rw [Bd.returns] at h; cases h)
  refine ⟨_, _, retOut X0 hx Bd.returns rfl (Or.inl ⟨rfl, Or.inr (Or.inr (Or.inl rfl)), _, rfl⟩) (hb hby d43_8) hr, hrun, hended, _, _, rfl, ?_, ⟨_, rfl⟩, hW, hsame.mono (by decide) (by decide)⟩
  show own_Q43 Z ad kd px py h0 n0 _ s₁.heap _
  rw [e0]
  exact ⟨N0, rfl, rfl⟩
theorem d8_0 : decode jdk_42_method_149_code 0 = .ok (.aload_n 0, 1) := by decide +kernel
theorem d8_1 : decode jdk_42_method_149_code 1 = .ok (.invokespecial 1, 3) := by decide +kernel
theorem d8_4 : decode jdk_42_method_149_code 4 = .ok (.iload_n 3, 1) := by decide +kernel
theorem d8_5 : decode jdk_42_method_149_code 5 = .ok (.ifCond .ne 22, 3) := by decide +kernel
theorem d8_8 : decode jdk_42_method_149_code 8 = .ok (.aload_n 0, 1) := by decide +kernel
theorem d8_9 : decode jdk_42_method_149_code 9 = .ok (.ldc 7, 2) := by decide +kernel
theorem d8_11 : decode jdk_42_method_149_code 11 = .ok (.getfield 9, 3) := by decide +kernel
theorem d8_14 : decode jdk_42_method_149_code 14 = .ok (.putfield 9, 3) := by decide +kernel
theorem d8_17 : decode jdk_42_method_149_code 17 = .ok (.aload_n 0, 1) := by decide +kernel
theorem d8_18 : decode jdk_42_method_149_code 18 = .ok (.ldc 7, 2) := by decide +kernel
theorem d8_20 : decode jdk_42_method_149_code 20 = .ok (.getfield 15, 3) := by decide +kernel
theorem d8_23 : decode jdk_42_method_149_code 23 = .ok (.putfield 15, 3) := by decide +kernel
theorem d8_26 : decode jdk_42_method_149_code 26 = .ok (.return_, 1) := by decide +kernel
theorem d8_27 : decode jdk_42_method_149_code 27 = .ok (.getstatic 38, 3) := by decide +kernel
theorem d8_30 : decode jdk_42_method_149_code 30 = .ok (.ifCond .eq 28, 3) := by decide +kernel
theorem d8_33 : decode jdk_42_method_149_code 33 = .ok (.aload_n 1, 1) := by decide +kernel
theorem d8_34 : decode jdk_42_method_149_code 34 = .ok (.iload_n 2, 1) := by decide +kernel
theorem d8_35 : decode jdk_42_method_149_code 35 = .ok (.iload_n 3, 1) := by decide +kernel
theorem d8_36 : decode jdk_42_method_149_code 36 = .ok (.invokestatic 177, 3) := by decide +kernel
theorem d8_39 : decode jdk_42_method_149_code 39 = .ok (.astore 5, 2) := by decide +kernel
theorem d8_41 : decode jdk_42_method_149_code 41 = .ok (.aload_n 0, 1) := by decide +kernel
theorem d8_42 : decode jdk_42_method_149_code 42 = .ok (.aload 5, 2) := by decide +kernel
theorem d8_44 : decode jdk_42_method_149_code 44 = .ok (.iload_n 3, 1) := by decide +kernel
theorem d8_45 : decode jdk_42_method_149_code 45 = .ok (.invokestatic 47, 3) := by decide +kernel
theorem d8_48 : decode jdk_42_method_149_code 48 = .ok (.putfield 15, 3) := by decide +kernel
theorem d8_51 : decode jdk_42_method_149_code 51 = .ok (.aload_n 0, 1) := by decide +kernel
theorem d8_52 : decode jdk_42_method_149_code 52 = .ok (.aload 5, 2) := by decide +kernel
theorem d8_54 : decode jdk_42_method_149_code 54 = .ok (.putfield 9, 3) := by decide +kernel
theorem d8_57 : decode jdk_42_method_149_code 57 = .ok (.return_, 1) := by decide +kernel
theorem own_pn8 : plainName "java/lang/String" = true := by first | (simp [plainName, overriddenIn]; done) | decide +kernel
theorem own_ef8n (m : MethodId) (x0 : Addr) (x1 : Addr) (x2 : Int32) (x3 : Int32) : entryFrame m #[(.ref x0), (.ref x1), (.int x2), (.int x3), .null] 6 = mkF m 0 #[.val (.ref x0), .val (.ref x1), .val (.int x2), .val (.int x3), .val .null, .unset] [] := by first | (simp [entryFrame, mkF, argsToLocals, Value.category]; done) | rfl
def own_Q8_2 (Z : State) (ax : Addr) (asr : Addr) (ks : ClassId) (px : Int32) (py : Int32) (pG : Int32) (h0 : Heap) (n0 : Nat) (v : Option Value) (h : Heap) (L : List Loc) : Prop := Fr n0 L ∧ v = none ∧ Keep h0 h [ax] ∧ ∃ (ad : Addr) (kd : ClassId), Fld Z h ax "java/lang/String" "value" "[B" (.ref ad) ∧ Fld Z h ax "java/lang/String" "coder" "B" (.int (0 : Int32)) ∧ Arv Z h ad kd .byte (2 : Int32) [(.int (px.toInt8.toInt32)), (.int (py.toInt8.toInt32))] (.int (0 : Int32))
set_option maxRecDepth 65536 in
set_option maxHeartbeats 40000000 in
theorem rm8_2 (l : Launch) (Z : State) (a0 : Array Value) (hw : ∀ d ∈ tables_1, d.before a0 Z = true) (ws : List Jvm.Cond) (ax : Addr) (asr : Addr) (ks : ClassId) (px : Int32) (py : Int32) (pG : Int32) (h0 : Heap) (n0 : Nat) (Z0 : n0 ≤ h0.size) (Ea : Exa Z h0 ax "java/lang/String") (Fv : Fld Z h0 ax "java/lang/String" "value" "[B" .null) (Fc : Fld Z h0 ax "java/lang/String" "coder" "B" (.int (0 : Int32))) (ga : n0 ≤ ax) (Vs : Arv Z h0 asr ks .char (2 : Int32) [(.int px), (.int py)] (.int (0 : Int32))) (nas : ax ≠ asr) (hp_px : 0 ≤ px.toInt ∧ px.toInt < 256) (hp_py : 0 ≤ py.toInt ∧ py.toInt < 256) (O2 : Sta Z Z.heap "java/lang/String" "COMPACT_STRINGS" "Z" (.int pG)) (hG : ¬ pG = (0 : Int32)) (X00 : Old Z n0 h0) :
    MetFree l (⟨"java/lang/String", "<init>", "([CIILjava/lang/Void;)V"⟩ : MethodName) (head1 (Jvm.Cond.code (⟨"java/lang/String", "<init>", "([CIILjava/lang/Void;)V"⟩ : MethodName) jdk_42_method_149_code 6 none :: ws) ({ frames := 2, cells := 1, slots := 2, locals := 35 } : Room)) (fun a U => a = #[(.ref ax), (.ref asr), (.int (0 : Int32)), (.int (2 : Int32)), .null] ∧ Z.Warmed39 U.vm ∧ U.heap = h0) (fun _ _ _ _ _ => True) (fun _ U o U' => ∃ v L, o = .returned v ∧ own_Q8_2 Z ax asr ks px py pG h0 n0 v U'.heap L ∧ FrameEnd U o U' L ({ frames := 2, cells := 1, slots := 2, locals := 35 } : Room).cells ({ frames := 2, cells := 1, slots := 2, locals := 35 } : Room).slots) := by
  refine MetFree.of_bodySF (plainFor_of_name own_pn8) hisR ?_
  intro p e s m args below meth c s₁ Bd hml0 hP hK
  obtain ⟨rfl, hZ, hh⟩ := hP
  have hx := Bd.exec
  have hby := Bd.bytes
  have hml : c.maxLocals = 6 := hml0
  have hown : s.vm.findClass "java/lang/String" = some m.cls := findClass_of_methodNamed Bd.named
  have hnm := (name_of_methodNamed Bd.named Bd.method).1
  have X0 : Stand p l e ({ frames := 2, cells := 1, slots := 2, locals := 35 } : Room) s m #[(.ref ax), (.ref asr), (.int (0 : Int32)), (.int (2 : Int32)), .null] below meth c s₁ [] 0 0 := Stand.of_body Bd
  have e0 : s₁.heap = h0 := by rw [← hh, Bd.state]; rfl
  have N0 := Fr.nil n0
  refine own_pre (A := (s₁.setTop (mkF m 0 #[.val (.ref ax), .val (.ref asr), .val (.int (0 : Int32)), .val (.int (2 : Int32)), .val .null, .unset] []))) (fun t k => castTop (own_ef8n m ax asr (0 : Int32) (2 : Int32)) k) ?_
  refine own_pre (A := (s₁.setTop (mkF m 1 #[.val (.ref ax), .val (.ref asr), .val (.int (0 : Int32)), .val (.int (2 : Int32)), .val .null, .unset] [(.ref ax)]))) ?_ ?_
  · intro t k
    refine XS.aloadN X0.here hx rfl (hb hby d8_0) rfl rfl ?_
    exact k
  obtain ⟨T35, X35, e35, st35⟩ := initO X0 hx hZ hown (own_w hw 23 rfl) (own_w hw 24 rfl) (own_w hw 25 rfl) e0 (g := (mkF m 1 #[.val (.ref ax), .val (.ref asr), .val (.int (0 : Int32)), .val (.int (2 : Int32)), .val .null, .unset] [(.ref ax)])) rfl (by rw [hml]; rfl) rfl (hb hby d8_1) (by decide) (W := 0) (by show 2 * 0 + _ ≤ _; exact Nat.le_of_eq rfl) (by decide)
  refine own_pre (fun t k => st35 t k) ?_
  refine own_pre (A := (T35.setTop (mkF m 27 #[.val (.ref ax), .val (.ref asr), .val (.int (0 : Int32)), .val (.int (2 : Int32)), .val .null, .unset] []))) ?_ ?_
  · intro t k
    refine XS.iloadN X35.here hx rfl (hb hby d8_4) rfl ?_
    refine XS.ifYes X35.here hx rfl (pc0 := 5) (pc' := 27) rfl (hb hby d8_5) rfl ((if0 _ _).trans (feq (by decide : ¬ ((2 : Int32) = (0 : Int32)))).2) (by decide) (by decide) ?_
    exact k
  obtain ⟨T36, X36, e36, st36⟩ := getS2 X35 hx hZ hown (host := "") (Or.inl (own_w hw 8 rfl)) Via.refl e35 (O2.ext X00.2) (g := (mkF m 27 #[.val (.ref ax), .val (.ref asr), .val (.int (0 : Int32)), .val (.int (2 : Int32)), .val .null, .unset] [])) rfl (hb hby d8_27)
  refine own_pre (fun t k => st36 t k) ?_
  refine own_pre (A := (T36.setTop (mkF m 36 #[.val (.ref ax), .val (.ref asr), .val (.int (0 : Int32)), .val (.int (2 : Int32)), .val .null, .unset] [(.int (2 : Int32)), (.int (0 : Int32)), (.ref asr)]))) ?_ ?_
  · intro t k
    refine XS.ifNo X36.here hx rfl (hb hby d8_30) rfl ((if0 _ _).trans (feq hG).1) ?_
    refine XS.aloadN X36.here hx rfl (hb hby d8_33) rfl rfl ?_
    refine XS.iloadN X36.here hx rfl (hb hby d8_34) rfl ?_
    refine XS.iloadN X36.here hx rfl (hb hby d8_35) rfl ?_
    exact k
  obtain ⟨_, _, ⟨T37, L37, k37, n37⟩, -, X37, ⟨Lc37, hQ37, l37, y37, z37⟩, st37⟩ := Jvm.LawKit.callS X36 hx (y := (⟨"java/lang/StringUTF16", "compress", "([CII)[B"⟩ : MethodName)) hown (mvT hZ (own_w hw 245 rfl)) (mvT hZ (own_w hw 246 rfl)) (mvT hZ (own_w hw 247 rfl)) (mvT hZ (own_w hw 248 rfl)) (by decide) (backOf (W := 0) (rm41 l Z a0 hw [] asr ks px py h0 n0 Z0 Vs hp_px hp_py) hZ (own_w hw 248 rfl) (own_w hw 247 rfl) (by decide) (by decide)) (g := (mkF m 36 #[.val (.ref ax), .val (.ref asr), .val (.int (0 : Int32)), .val (.int (2 : Int32)), .val .null, .unset] [(.int (2 : Int32)), (.int (0 : Int32)), (.ref asr)])) rfl (by rw [hml]; rfl) (argsL := [(.ref asr), (.int (0 : Int32)), (.int (2 : Int32))]) (rest := []) (lenOf own_pd9 rfl) rfl (by show 2 * 0 + _ ≤ _; exact Nat.le_of_eq rfl) (hb hby d8_36) (fun _ _ => ⟨rfl, e36, (by decide : 0 + 1 ≤ _), (by decide : 0 + 2 ≤ _)⟩)
  dsimp only [Pt.U, Pt.locs, Pt.cells, Pt.slots] at X37 l37 y37 z37 st37 hQ37
  replace y37 : _ = 1 := y37
  replace z37 : _ = 2 := z37
  subst y37 z37
  obtain ⟨Nq37, ad37, kq37, rfl, gq37, zz37, Vq37, Kq37⟩ := hQ37
  have N37 := own_frl l37 N0 Nq37
  refine own_pre (fun t k => st37 t k) ?_
  have ne_ax_ad37 : ax ≠ ad37 := Nat.ne_of_lt (Nat.lt_of_lt_of_le Ea.lt zz37)
  have Ea_37 := Ea.keep Kq37
  have Fv_37 := Fv.keep Kq37 nin0
  have Fc_37 := Fc.keep Kq37 nin0
  have Zs37 : n0 ≤ T37.heap.size := Nat.le_trans Z0 Kq37.1
  have Kc37 : Keep h0 T37.heap [ax] := (Keep.refl h0 [ax]).trans Kq37 all0
  refine own_pre (A := (T37.setTop (mkF m 45 #[.val (.ref ax), .val (.ref asr), .val (.int (0 : Int32)), .val (.int (2 : Int32)), .val .null, .val (.ref ad37)] [(.int (2 : Int32)), (.ref ad37), (.ref ax)]))) ?_ ?_
  · intro t k
    refine XS.astore X37.here hx rfl (hb hby d8_39) rfl rfl (l' := #[.val (.ref ax), .val (.ref asr), .val (.int (0 : Int32)), .val (.int (2 : Int32)), .val .null, .val (.ref ad37)]) rfl ?_
    refine XS.aloadN X37.here hx rfl (hb hby d8_41) rfl rfl ?_
    refine XS.aload X37.here hx rfl (hb hby d8_42) rfl rfl ?_
    refine XS.iloadN X37.here hx rfl (hb hby d8_44) rfl ?_
    exact k
  obtain ⟨_, _, ⟨T38, L38, k38, n38⟩, -, X38, ⟨Lc38, hQ38, l38, y38, z38⟩, st38⟩ := Jvm.LawKit.callS X37 hx (y := (⟨"java/lang/StringUTF16", "coderFromArrayLen", "([BI)B"⟩ : MethodName)) hown (mvT hZ (own_w hw 252 rfl)) (mvT hZ (own_w hw 253 rfl)) (mvT hZ (own_w hw 247 rfl)) (mvT hZ (own_w hw 254 rfl)) (by decide) (backOf (W := 1) (rm43 l Z a0 hw [] ad37 kq37 px py T37.heap n0 Zs37 Vq37) hZ (own_w hw 254 rfl) (own_w hw 247 rfl) (by decide) (by decide)) (g := (mkF m 45 #[.val (.ref ax), .val (.ref asr), .val (.int (0 : Int32)), .val (.int (2 : Int32)), .val .null, .val (.ref ad37)] [(.int (2 : Int32)), (.ref ad37), (.ref ax)])) rfl (by rw [hml]; rfl) (argsL := [(.ref ad37), (.int (2 : Int32))]) (rest := [(.ref ax)]) (lenOf own_pd10 rfl) rfl (by show 2 * 0 + _ ≤ _; exact Nat.le_of_eq rfl) (hb hby d8_45) (fun _ _ => ⟨rfl, rfl, (by decide : 1 + 0 ≤ _), (by decide : 2 + 0 ≤ _)⟩)
  dsimp only [Pt.U, Pt.locs, Pt.cells, Pt.slots] at X38 l38 y38 z38 st38 hQ38
  replace y38 : _ = 1 := y38
  replace z38 : _ = 2 := z38
  subst y38 z38
  obtain ⟨Nq38, rfl, eq38⟩ := hQ38
  have N38 := own_frl l38 N37 Nq38
  refine own_pre (fun t k => st38 t k) ?_
  obtain ⟨T39, h39, X39, e39, W39, st39⟩ := putFN X38 hx hZ hown (own_w hw 28 rfl) Via.refl eq38 Fc_37 Ea_37 (Or.inr ⟨(own_w hw 29 rfl), rfl, hnm⟩) (own_w hw 14 rfl) (ty := .byte) (v' := (.int (0 : Int32))) (by decide) rfl rfl (g := (mkF m 48 #[.val (.ref ax), .val (.ref asr), .val (.int (0 : Int32)), .val (.int (2 : Int32)), .val .null, .val (.ref ad37)] [(.int (0 : Int32)), (.ref ax)])) rfl rfl (hb hby d8_48)
  have Ea_39 := Ea_37.wr W39
  have Fv_39 := Fv_37.other W39 (Or.inr (slot_ne (Or.inr (own_w hw 27 rfl)) (Or.inr (own_w hw 29 rfl)) (by decide) (t := (.array .byte)) (t' := .byte) (by decide) (by decide)))
  have Vq37_39 := Vq37.other W39 ne_ax_ad37.symm
  have Kc39 : Keep h0 h39 [ax] := Kc37.wr W39 (Or.inl (List.mem_of_getElem? (i := 0) rfl))
  have N39 := Fr.snoc X39 N38 ga
  have Fw39 := Fc_37.same W39
  refine own_pre (fun t k => st39 t k) ?_
  refine own_pre (A := (T39.setTop (mkF m 54 #[.val (.ref ax), .val (.ref asr), .val (.int (0 : Int32)), .val (.int (2 : Int32)), .val .null, .val (.ref ad37)] [(.ref ad37), (.ref ax)]))) ?_ ?_
  · intro t k
    refine XS.aloadN X39.here hx rfl (hb hby d8_51) rfl rfl ?_
    refine XS.aload X39.here hx rfl (hb hby d8_52) rfl rfl ?_
    exact k
  obtain ⟨T40, h40, X40, e40, W40, st40⟩ := putF X39 hx hZ hown (host := "") (Or.inl (own_w hw 26 rfl)) Via.refl e39 Fv_39 Ea_39 (Or.inr ⟨(own_w hw 27 rfl), rfl, hnm⟩) (own_w hw 14 rfl) (ty := (.array .byte)) (by decide) rfl rfl (g := (mkF m 54 #[.val (.ref ax), .val (.ref asr), .val (.int (0 : Int32)), .val (.int (2 : Int32)), .val .null, .val (.ref ad37)] [(.ref ad37), (.ref ax)])) rfl rfl (hb hby d8_54)
  have Fw39_40 := Fw39.other W40 (Or.inr (slot_ne (Or.inr (own_w hw 29 rfl)) (Or.inr (own_w hw 27 rfl)) (by decide) (t := .byte) (t' := (.array .byte)) (by decide) (by decide)))
  have Vq37_40 := Vq37_39.other W40 ne_ax_ad37.symm
  have Kc40 : Keep h0 h40 [ax] := Kc39.wr W40 (Or.inl (List.mem_of_getElem? (i := 0) rfl))
  have N40 := Fr.snoc X40 N39 ga
  have Fw40 := Fv_39.same W40
  refine own_pre (fun t k => st40 t k) ?_
  obtain ⟨fs, hr, hrun, hended, hW, hsame⟩ := X40.leave (hlocks := BodyLoose.notSynchronized Bd) (v := none) (fun _ => rfl)
  refine ⟨_, _, X40.returnOut hx Bd.returns (hb hby d8_57) hr, hrun, hended, _, _, rfl, ?_, ⟨_, rfl⟩, hW, hsame.mono (by decide) (by decide)⟩
  show own_Q8_2 Z ax asr ks px py pG h0 n0 _ T40.heap _
  rw [e40]
  exact ⟨N40, rfl, Kc40, ad37, kq37, Fw40, Fw39_40, Vq37_40⟩
theorem d7_0 : decode jdk_42_method_3_code 0 = .ok (.aload_n 0, 1) := by decide +kernel
theorem d7_1 : decode jdk_42_method_3_code 1 = .ok (.aload_n 1, 1) := by decide +kernel
theorem d7_2 : decode jdk_42_method_3_code 2 = .ok (.iconst 0, 1) := by decide +kernel
theorem d7_3 : decode jdk_42_method_3_code 3 = .ok (.aload_n 1, 1) := by decide +kernel
theorem d7_4 : decode jdk_42_method_3_code 4 = .ok (.arraylength, 1) := by decide +kernel
theorem d7_5 : decode jdk_42_method_3_code 5 = .ok (.aconst_null, 1) := by decide +kernel
theorem d7_6 : decode jdk_42_method_3_code 6 = .ok (.invokespecial 27, 3) := by decide +kernel
theorem d7_9 : decode jdk_42_method_3_code 9 = .ok (.return_, 1) := by decide +kernel
theorem own_pn7 : plainName "java/lang/String" = true := by first | (simp [plainName, overriddenIn]; done) | decide +kernel
theorem own_ef7 (m : MethodId) (x0 : Addr) (x1 : Addr) : entryFrame m #[(.ref x0), (.ref x1)] 2 = mkF m 0 #[.val (.ref x0), .val (.ref x1)] [] := by first | (simp [entryFrame, mkF, argsToLocals, Value.category]; done) | rfl
def own_Q7_2 (Z : State) (ax : Addr) (asr : Addr) (ks : ClassId) (px : Int32) (py : Int32) (pG : Int32) (h0 : Heap) (n0 : Nat) (v : Option Value) (h : Heap) (L : List Loc) : Prop := Fr n0 L ∧ v = none ∧ Keep h0 h [ax] ∧ ∃ (ad : Addr) (kd : ClassId), Fld Z h ax "java/lang/String" "value" "[B" (.ref ad) ∧ Fld Z h ax "java/lang/String" "coder" "B" (.int (0 : Int32)) ∧ Arv Z h ad kd .byte (2 : Int32) [(.int (px.toInt8.toInt32)), (.int (py.toInt8.toInt32))] (.int (0 : Int32))
set_option maxRecDepth 65536 in
set_option maxHeartbeats 40000000 in
theorem rm7_2 (l : Launch) (Z : State) (a0 : Array Value) (hw : ∀ d ∈ tables_1, d.before a0 Z = true) (ws : List Jvm.Cond) (ax : Addr) (asr : Addr) (ks : ClassId) (px : Int32) (py : Int32) (pG : Int32) (h0 : Heap) (n0 : Nat) (Z0 : n0 ≤ h0.size) (Ea : Exa Z h0 ax "java/lang/String") (Fv : Fld Z h0 ax "java/lang/String" "value" "[B" .null) (Fc : Fld Z h0 ax "java/lang/String" "coder" "B" (.int (0 : Int32))) (ga : n0 ≤ ax) (Vs : Arv Z h0 asr ks .char (2 : Int32) [(.int px), (.int py)] (.int (0 : Int32))) (nas : ax ≠ asr) (hp_px : 0 ≤ px.toInt ∧ px.toInt < 256) (hp_py : 0 ≤ py.toInt ∧ py.toInt < 256) (O2 : Sta Z Z.heap "java/lang/String" "COMPACT_STRINGS" "Z" (.int pG)) (hG : ¬ pG = (0 : Int32)) (X00 : Old Z n0 h0) :
    MetFree l (⟨"java/lang/String", "<init>", "([C)V"⟩ : MethodName) (head1 (Jvm.Cond.code (⟨"java/lang/String", "<init>", "([C)V"⟩ : MethodName) jdk_42_method_3_code 2 none :: ws) ({ frames := 3, cells := 1, slots := 2, locals := 52 } : Room)) (fun a U => a = #[(.ref ax), (.ref asr)] ∧ Z.Warmed39 U.vm ∧ U.heap = h0) (fun _ _ _ _ _ => True) (fun _ U o U' => ∃ v L, o = .returned v ∧ own_Q7_2 Z ax asr ks px py pG h0 n0 v U'.heap L ∧ FrameEnd U o U' L ({ frames := 3, cells := 1, slots := 2, locals := 52 } : Room).cells ({ frames := 3, cells := 1, slots := 2, locals := 52 } : Room).slots) := by
  refine MetFree.of_bodySF (plainFor_of_name own_pn7) hisR ?_
  intro p e s m args below meth c s₁ Bd hml0 hP hK
  obtain ⟨rfl, hZ, hh⟩ := hP
  have hx := Bd.exec
  have hby := Bd.bytes
  have hml : c.maxLocals = 2 := hml0
  have hown : s.vm.findClass "java/lang/String" = some m.cls := findClass_of_methodNamed Bd.named
  have hnm := (name_of_methodNamed Bd.named Bd.method).1
  have X0 : Stand p l e ({ frames := 3, cells := 1, slots := 2, locals := 52 } : Room) s m #[(.ref ax), (.ref asr)] below meth c s₁ [] 0 0 := Stand.of_body Bd
  have e0 : s₁.heap = h0 := by rw [← hh, Bd.state]; rfl
  have N0 := Fr.nil n0
  refine own_pre (A := (s₁.setTop (mkF m 0 #[.val (.ref ax), .val (.ref asr)] []))) (fun t k => castTop (own_ef7 m ax asr) k) ?_
  refine own_pre (A := (s₁.setTop (mkF m 6 #[.val (.ref ax), .val (.ref asr)] [.null, (.int (2 : Int32)), (.int (0 : Int32)), (.ref asr), (.ref ax)]))) ?_ ?_
  · intro t k
    refine XS.aloadN X0.here hx rfl (hb hby d7_0) rfl rfl ?_
    refine XS.aloadN X0.here hx rfl (hb hby d7_1) rfl rfl ?_
    refine XS.iconst X0.here hx rfl (hb hby d7_2) ?_
    refine XS.aloadN X0.here hx rfl (hb hby d7_3) rfl rfl ?_
    show Steps p.tables e below (s₁.setTop (mkF m 4 #[.val (.ref ax), .val (.ref asr)] [(.ref asr), (.int (0 : Int32)), (.ref asr), (.ref ax)])) _
    obtain ⟨cl41, Ar41, -, S41, N41, -, -⟩ := id Vs
    refine X0.arraylength hx (by rw [e0]; exact Ar41.1) (State.isArrayOf_alike hZ.alike Ar41.2.1) (g := (mkF m 4 #[.val (.ref ax), .val (.ref asr)] [(.ref asr), (.int (0 : Int32)), (.ref asr), (.ref ax)])) rfl rfl (hb hby d7_4) _ ?_
    rw [len_of S41 N41]
    refine XS.aconstNull X0.here hx rfl (hb hby d7_5) ?_
    exact k
  obtain ⟨_, _, ⟨T42, L42, k42, n42⟩, -, X42, ⟨Lc42, hQ42, l42, y42, z42⟩, st42⟩ := X0.specialBack hx (y := (⟨"java/lang/String", "<init>", "([CIILjava/lang/Void;)V"⟩ : MethodName)) rfl hown (mvT hZ (own_w hw 35 rfl)) (mvT hZ (own_w hw 36 rfl)) (mvT hZ (own_w hw 37 rfl)) (by decide) (backOf (W := 0) (rm8_2 l Z a0 hw [] ax asr ks px py pG h0 n0 Z0 Ea Fv Fc ga Vs nas hp_px hp_py O2 hG X00) hZ (own_w hw 37 rfl) (own_w hw 6 rfl) (by decide) (by decide)) (g := (mkF m 6 #[.val (.ref ax), .val (.ref asr)] [.null, (.int (2 : Int32)), (.int (0 : Int32)), (.ref asr), (.ref ax)])) rfl (by rw [hml]; rfl) (Steps.refl _) (a := ax) (argsL := [(.ref asr), (.int (0 : Int32)), (.int (2 : Int32)), .null]) (rest := []) (lenOf own_pd11 rfl) rfl (by show 2 * 0 + _ ≤ _; exact Nat.le_of_eq rfl) (hb hby d7_6) (fun _ _ => ⟨rfl, e0, (by decide : 0 + 1 ≤ _), (by decide : 0 + 2 ≤ _)⟩)
  dsimp only [Pt.U, Pt.locs, Pt.cells, Pt.slots] at X42 l42 y42 z42 st42 hQ42
  replace y42 : _ = 1 := y42
  replace z42 : _ = 2 := z42
  subst y42 z42
  obtain ⟨Nq42, rfl, Kq42, ad42, kq42, Fv42, Fc42, Vq42⟩ := hQ42
  have N42 := own_frl l42 N0 Nq42
  refine own_pre (fun t k => st42.trans k) ?_
  have Kc42 : Keep h0 T42.heap [ax] := (Keep.refl h0 [ax]).trans Kq42 (allS (Or.inl (List.mem_of_getElem? (i := 0) rfl)) all0)
  obtain ⟨fs, hr, hrun, hended, hW, hsame⟩ := X42.leave (hlocks := BodyLoose.notSynchronized Bd) (v := none) (fun _ => rfl)
  refine ⟨_, _, X42.returnOut hx Bd.returns (hb hby d7_9) hr, hrun, hended, _, _, rfl, ?_, ⟨_, rfl⟩, hW, hsame.mono (by decide) (by decide)⟩
  show own_Q7_2 Z ax asr ks px py pG h0 n0 _ T42.heap _
  exact ⟨N42, rfl, Kc42, ad42, kq42, Fv42, Fc42, Vq42⟩
def own_Q8_0 (Z : State) (ax : Addr) (asr : Addr) (ks : ClassId) (pG : Int32) (h0 : Heap) (n0 : Nat) (v : Option Value) (h : Heap) (L : List Loc) : Prop := Fr n0 L ∧ v = none ∧ Keep h0 h [ax] ∧ ∃ (ad : Addr) (kd : ClassId), Fld Z h ax "java/lang/String" "value" "[B" (.ref ad) ∧ Fld Z h ax "java/lang/String" "coder" "B" (.int (0 : Int32)) ∧ Arv Z h ad kd .byte (0 : Int32) (List.map own_by []) (.int (0 : Int32))
set_option maxRecDepth 65536 in
set_option maxHeartbeats 40000000 in
theorem rm8_0 (l : Launch) (Z : State) (a0 : Array Value) (hw : ∀ d ∈ tables_1, d.before a0 Z = true) (ws : List Jvm.Cond) (ax : Addr) (asr : Addr) (ks : ClassId) (pG : Int32) (h0 : Heap) (n0 : Nat) (Z0 : n0 ≤ h0.size) (hEL : EW Z a0 own_EL) (Ea : Exa Z h0 ax "java/lang/String") (Fv : Fld Z h0 ax "java/lang/String" "value" "[B" .null) (Fc : Fld Z h0 ax "java/lang/String" "coder" "B" (.int (0 : Int32))) (ga : n0 ≤ ax) (Vs : Arv Z h0 asr ks .char (0 : Int32) [] (.int (0 : Int32))) (nas : ax ≠ asr) (O2 : Sta Z Z.heap "java/lang/String" "COMPACT_STRINGS" "Z" (.int pG)) (hG : ¬ pG = (0 : Int32)) (X00 : Old Z n0 h0) :
    MetFree l (⟨"java/lang/String", "<init>", "([CIILjava/lang/Void;)V"⟩ : MethodName) (head1 (Jvm.Cond.code (⟨"java/lang/String", "<init>", "([CIILjava/lang/Void;)V"⟩ : MethodName) jdk_42_method_149_code 6 none :: ws) ({ frames := 1, cells := 2, slots := 4, locals := 12 } : Room)) (fun a U => a = #[(.ref ax), (.ref asr), (.int (0 : Int32)), (.int (0 : Int32)), .null] ∧ Z.Warmed39 U.vm ∧ U.heap = h0 ∧ CHv Z own_EL U.vm h0 ∧ Safe Z own_EL U.vm h0 ax) (fun _ _ _ _ _ => True) (fun _ U o U' => ∃ v L, o = .returned v ∧ own_Q8_0 Z ax asr ks pG h0 n0 v U'.heap L ∧ CHr Z own_EL U.vm U.heap U'.vm U'.heap ∧ ReturnedEndW U o U' L ({ frames := 1, cells := 2, slots := 4, locals := 12 } : Room).cells ({ frames := 1, cells := 2, slots := 4, locals := 12 } : Room).slots) := by
  refine MetFree.of_bodySF (plainFor_of_name own_pn8) hisR ?_
  intro p e s m args below meth c s₁ Bd hml0 hP hK
  obtain ⟨rfl, hZ, hh, CH0, sfa⟩ := hP
  have hx := Bd.exec
  have hby := Bd.bytes
  have hml : c.maxLocals = 6 := hml0
  have hown : s.vm.findClass "java/lang/String" = some m.cls := findClass_of_methodNamed Bd.named
  have hnm := (name_of_methodNamed Bd.named Bd.method).1
  have own_wS' : ∀ d ∈ Bundle.stringAtoms, d.before a0 Z = true := fun d hd => hw d (own_wS d hd)
  have X0 : Stand p l e ({ frames := 1, cells := 2, slots := 4, locals := 12 } : Room) (s.setVm s.vm) m #[(.ref ax), (.ref asr), (.int (0 : Int32)), (.int (0 : Int32)), .null] below meth c s₁ [] 0 0 := Stand.of_body Bd
  have e0 : s₁.heap = h0 := by rw [← hh, Bd.state]; rfl
  have N0 := Fr.nil n0
  have hS0 : s.Since s.vm 0 := (State.WarmedH.refl s).since 0
  have hk0 : 0 ≤ h0.size := Nat.zero_le _
  have R0 := CHr.refl CH0
  refine own_pre (A := (s₁.setTop (mkF m 0 #[.val (.ref ax), .val (.ref asr), .val (.int (0 : Int32)), .val (.int (0 : Int32)), .val .null, .unset] []))) (fun t k => castTop (own_ef8n m ax asr (0 : Int32) (0 : Int32)) k) ?_
  refine own_pre (A := (s₁.setTop (mkF m 1 #[.val (.ref ax), .val (.ref asr), .val (.int (0 : Int32)), .val (.int (0 : Int32)), .val .null, .unset] [(.ref ax)]))) ?_ ?_
  · intro t k
    refine XS.aloadN X0.here hx rfl (hb hby d8_0) rfl rfl ?_
    exact k
  obtain ⟨T43, X43, e43, st43⟩ := initO X0 hx hZ hown (own_w hw 23 rfl) (own_w hw 24 rfl) (own_w hw 25 rfl) e0 (g := (mkF m 1 #[.val (.ref ax), .val (.ref asr), .val (.int (0 : Int32)), .val (.int (0 : Int32)), .val .null, .unset] [(.ref ax)])) rfl (by rw [hml]; rfl) rfl (hb hby d8_1) (by decide) (W := 0) (by show 2 * 0 + _ ≤ _; exact Nat.le_of_eq rfl) (by decide)
  refine own_pre (fun t k => st43 t k) ?_
  refine own_pre (A := (T43.setTop (mkF m 9 #[.val (.ref ax), .val (.ref asr), .val (.int (0 : Int32)), .val (.int (0 : Int32)), .val .null, .unset] [(.ref ax)]))) ?_ ?_
  · intro t k
    refine XS.iloadN X43.here hx rfl (hb hby d8_4) rfl ?_
    refine XS.ifNo X43.here hx rfl (hb hby d8_5) rfl ((if0 _ _).trans (teq (by decide : (0 : Int32) = (0 : Int32))).2) ?_
    refine XS.aloadN X43.here hx rfl (hb hby d8_8) rfl rfl ?_
    exact k
  obtain ⟨a44, T44, h44, k44, b44, kb44, X44, e44, E44, hS44, hk44, hZ44, hown44, Ea44, Fc44, Fv44, Vb44, la44, lb44, hC44, hL44, hne44, st44⟩ := ldcCH (s := s) (vm0 := s.vm) X43 hx hZ hown (own_w hw 38 rfl) own_wS' e43 hS0 hk0 hEL (List.mem_of_getElem? (i := 4) rfl) R0.1 (vs := List.map own_by []) (z := (0 : Int32)) own_lt3 (by decide) (by decide) (g := (mkF m 9 #[.val (.ref ax), .val (.ref asr), .val (.int (0 : Int32)), .val (.int (0 : Int32)), .val .null, .unset] [(.ref ax)])) rfl (hb hby d8_9) (n := 0) (by decide +kernel) (by decide) (by decide) (by decide)
  have Ea_44 := Ea.ext E44
  have Fv_44 := Fv.ext E44
  have Fc_44 := Fc.ext E44
  have Kc44 : Keep h0 h44 [ax] := (Keep.refl h0 [ax]).ext E44
  refine own_pre (fun t k => st44 t k) ?_
  have R44 := CHr.trans R0 hC44
  have sf_ax_44 := hC44.safe Ea.lt sfa
  have ne_ax_a44 := (hne44 _ sf_ax_44).1
  have ne_ax_b44 := (hne44 _ sf_ax_44).2
  obtain ⟨T45, X45, e45, st45⟩ := getF X44 hx hZ44 hown44 (host := "") (Or.inl (own_w hw 26 rfl)) Via.refl e44 Fv44 (g := (mkF m 11 #[.val (.ref ax), .val (.ref asr), .val (.int (0 : Int32)), .val (.int (0 : Int32)), .val .null, .unset] [(.ref a44), (.ref ax)])) rfl rfl (hb hby d8_11)
  refine own_pre (fun t k => st45 t k) ?_
  obtain ⟨T46, h46, X46, e46, W46, st46⟩ := putF X45 hx hZ44 hown44 (host := "") (Or.inl (own_w hw 26 rfl)) Via.refl e45 Fv_44 Ea_44 (Or.inr ⟨(own_w hw 27 rfl), rfl, hnm⟩) (own_w hw 14 rfl) (ty := (.array .byte)) (by decide) rfl rfl (g := (mkF m 14 #[.val (.ref ax), .val (.ref asr), .val (.int (0 : Int32)), .val (.int (0 : Int32)), .val .null, .unset] [(.ref b44), (.ref ax)])) rfl rfl (hb hby d8_14)
  have Ea_46 := Ea_44.wr W46
  have Fc_46 := Fc_44.other W46 (Or.inr (slot_ne (Or.inr (own_w hw 29 rfl)) (Or.inr (own_w hw 27 rfl)) (by decide) (t := .byte) (t' := (.array .byte)) (by decide) (by decide)))
  have Fc44_46 := Fc44.other W46 (Or.inl ne_ax_a44.symm)
  have Vb44_46 := Vb44.other W46 ne_ax_b44.symm
  have sf_ax_46 := Safe.wr W46 sf_ax_44 R44.1 sf_ax_44
  have R46 := CHr.trans R44 (CHr.wr W46 sf_ax_44 R44.1)
  have hk46 := Nat.le_trans hk44 (Keep.of_wr W46).1
  have Kc46 : Keep h0 h46 [ax] := Kc44.wr W46 (Or.inl (List.mem_of_getElem? (i := 0) rfl))
  have N46 := Fr.snoc X46 N0 ga
  have Fw46 := Fv_44.same W46
  refine own_pre (fun t k => st46 t k) ?_
  refine own_pre (A := (T46.setTop (mkF m 18 #[.val (.ref ax), .val (.ref asr), .val (.int (0 : Int32)), .val (.int (0 : Int32)), .val .null, .unset] [(.ref ax)]))) ?_ ?_
  · intro t k
    refine XS.aloadN X46.here hx rfl (hb hby d8_17) rfl rfl ?_
    exact k
  refine own_pre (fun t k => ldcAgain (s := s) (vm0 := T44.vm) X46 hx hZ44 hown44 (own_w hw 38 rfl) hL44 (g := (mkF m 18 #[.val (.ref ax), .val (.ref asr), .val (.int (0 : Int32)), .val (.int (0 : Int32)), .val .null, .unset] [(.ref ax)])) rfl (hb hby d8_18) t k) ?_
  obtain ⟨T48, X48, e48, st48⟩ := getF X46 hx hZ44 hown44 (host := "") (Or.inl (own_w hw 28 rfl)) Via.refl e46 Fc44_46 (g := (mkF m 20 #[.val (.ref ax), .val (.ref asr), .val (.int (0 : Int32)), .val (.int (0 : Int32)), .val .null, .unset] [(.ref a44), (.ref ax)])) rfl rfl (hb hby d8_20)
  refine own_pre (fun t k => st48 t k) ?_
  obtain ⟨T49, h49, X49, e49, W49, st49⟩ := putFN X48 hx hZ44 hown44 (own_w hw 28 rfl) Via.refl e48 Fc_46 Ea_46 (Or.inr ⟨(own_w hw 29 rfl), rfl, hnm⟩) (own_w hw 14 rfl) (ty := .byte) (v' := (.int (0 : Int32))) (by decide) rfl rfl (g := (mkF m 23 #[.val (.ref ax), .val (.ref asr), .val (.int (0 : Int32)), .val (.int (0 : Int32)), .val .null, .unset] [(.int (0 : Int32)), (.ref ax)])) rfl rfl (hb hby d8_23)
  have Fw46_49 := Fw46.other W49 (Or.inr (slot_ne (Or.inr (own_w hw 27 rfl)) (Or.inr (own_w hw 29 rfl)) (by decide) (t := (.array .byte)) (t' := .byte) (by decide) (by decide)))
  have Vb44_49 := Vb44_46.other W49 ne_ax_b44.symm
  have R49 := CHr.trans R46 (CHr.wr W49 sf_ax_46 R46.1)
  have hk49 := Nat.le_trans hk46 (Keep.of_wr W49).1
  have Kc49 : Keep h0 h49 [ax] := Kc46.wr W49 (Or.inl (List.mem_of_getElem? (i := 0) rfl))
  have N49 := Fr.snoc X49 N46 ga
  have Fw49 := Fc_46.same W49
  refine own_pre (fun t k => st49 t k) ?_
  obtain ⟨fs, hr, hrun, hended, hRE⟩ := X49.leaveW (hlocks := BodyLoose.notSynchronized Bd) hS44 (by rw [e49]; exact hk49) (v := none) (fun _ => rfl)
  refine ⟨_, _, X49.returnOut hx Bd.returns (hb hby d8_26) hr, hrun, hended, _, _, rfl, ?_, ?_, hRE.1, hRE.2.1, hRE.2.2.1, hRE.2.2.2.mono (by decide) (by decide)⟩
  · show own_Q8_0 Z ax asr ks pG h0 n0 _ T49.heap _
    rw [e49]
    exact ⟨N49, rfl, Kc49, b44, kb44, Fw46_49, Fw49, Vb44_49⟩
  · show CHr Z own_EL s.vm s.heap T49.vm T49.heap
    rw [hh, e49]
    exact CHr.trans R49 (CHv.at X49 hZ44 hEL R49.1)
def own_Q7_0 (Z : State) (ax : Addr) (asr : Addr) (ks : ClassId) (pG : Int32) (h0 : Heap) (n0 : Nat) (v : Option Value) (h : Heap) (L : List Loc) : Prop := Fr n0 L ∧ v = none ∧ Keep h0 h [ax] ∧ ∃ (ad : Addr) (kd : ClassId), Fld Z h ax "java/lang/String" "value" "[B" (.ref ad) ∧ Fld Z h ax "java/lang/String" "coder" "B" (.int (0 : Int32)) ∧ Arv Z h ad kd .byte (0 : Int32) (List.map own_by []) (.int (0 : Int32))
set_option maxRecDepth 65536 in
set_option maxHeartbeats 40000000 in
theorem rm7_0 (l : Launch) (Z : State) (a0 : Array Value) (hw : ∀ d ∈ tables_1, d.before a0 Z = true) (ws : List Jvm.Cond) (ax : Addr) (asr : Addr) (ks : ClassId) (pG : Int32) (h0 : Heap) (n0 : Nat) (Z0 : n0 ≤ h0.size) (hEL : EW Z a0 own_EL) (Ea : Exa Z h0 ax "java/lang/String") (Fv : Fld Z h0 ax "java/lang/String" "value" "[B" .null) (Fc : Fld Z h0 ax "java/lang/String" "coder" "B" (.int (0 : Int32))) (ga : n0 ≤ ax) (Vs : Arv Z h0 asr ks .char (0 : Int32) [] (.int (0 : Int32))) (nas : ax ≠ asr) (O2 : Sta Z Z.heap "java/lang/String" "COMPACT_STRINGS" "Z" (.int pG)) (hG : ¬ pG = (0 : Int32)) (X00 : Old Z n0 h0) :
    MetFree l (⟨"java/lang/String", "<init>", "([C)V"⟩ : MethodName) (head1 (Jvm.Cond.code (⟨"java/lang/String", "<init>", "([C)V"⟩ : MethodName) jdk_42_method_3_code 2 none :: ws) ({ frames := 2, cells := 2, slots := 4, locals := 29 } : Room)) (fun a U => a = #[(.ref ax), (.ref asr)] ∧ Z.Warmed39 U.vm ∧ U.heap = h0 ∧ CHv Z own_EL U.vm h0 ∧ Safe Z own_EL U.vm h0 ax) (fun _ _ _ _ _ => True) (fun _ U o U' => ∃ v L, o = .returned v ∧ own_Q7_0 Z ax asr ks pG h0 n0 v U'.heap L ∧ CHr Z own_EL U.vm U.heap U'.vm U'.heap ∧ ReturnedEndW U o U' L ({ frames := 2, cells := 2, slots := 4, locals := 29 } : Room).cells ({ frames := 2, cells := 2, slots := 4, locals := 29 } : Room).slots) := by
  refine MetFree.of_bodySF (plainFor_of_name own_pn7) hisR ?_
  intro p e s m args below meth c s₁ Bd hml0 hP hK
  obtain ⟨rfl, hZ, hh, CH0, sfa⟩ := hP
  have hx := Bd.exec
  have hby := Bd.bytes
  have hml : c.maxLocals = 2 := hml0
  have hown : s.vm.findClass "java/lang/String" = some m.cls := findClass_of_methodNamed Bd.named
  have hnm := (name_of_methodNamed Bd.named Bd.method).1
  have own_wS' : ∀ d ∈ Bundle.stringAtoms, d.before a0 Z = true := fun d hd => hw d (own_wS d hd)
  have X0 : Stand p l e ({ frames := 2, cells := 2, slots := 4, locals := 29 } : Room) (s.setVm s.vm) m #[(.ref ax), (.ref asr)] below meth c s₁ [] 0 0 := Stand.of_body Bd
  have e0 : s₁.heap = h0 := by rw [← hh, Bd.state]; rfl
  have N0 := Fr.nil n0
  have hS0 : s.Since s.vm 0 := (State.WarmedH.refl s).since 0
  have hk0 : 0 ≤ h0.size := Nat.zero_le _
  have R0 := CHr.refl CH0
  refine own_pre (A := (s₁.setTop (mkF m 0 #[.val (.ref ax), .val (.ref asr)] []))) (fun t k => castTop (own_ef7 m ax asr) k) ?_
  refine own_pre (A := (s₁.setTop (mkF m 6 #[.val (.ref ax), .val (.ref asr)] [.null, (.int (0 : Int32)), (.int (0 : Int32)), (.ref asr), (.ref ax)]))) ?_ ?_
  · intro t k
    refine XS.aloadN X0.here hx rfl (hb hby d7_0) rfl rfl ?_
    refine XS.aloadN X0.here hx rfl (hb hby d7_1) rfl rfl ?_
    refine XS.iconst X0.here hx rfl (hb hby d7_2) ?_
    refine XS.aloadN X0.here hx rfl (hb hby d7_3) rfl rfl ?_
    show Steps p.tables e below (s₁.setTop (mkF m 4 #[.val (.ref ax), .val (.ref asr)] [(.ref asr), (.int (0 : Int32)), (.ref asr), (.ref ax)])) _
    obtain ⟨cl50, Ar50, -, S50, N50, -, -⟩ := id Vs
    refine X0.arraylength hx (by rw [e0]; exact Ar50.1) (State.isArrayOf_alike hZ.alike Ar50.2.1) (g := (mkF m 4 #[.val (.ref ax), .val (.ref asr)] [(.ref asr), (.int (0 : Int32)), (.ref asr), (.ref ax)])) rfl rfl (hb hby d7_4) _ ?_
    rw [len_of S50 N50]
    refine XS.aconstNull X0.here hx rfl (hb hby d7_5) ?_
    exact k
  obtain ⟨_, _, ⟨T51, L51, k51, n51⟩, -, X51', hs51, hg51, ⟨Lc51, hQ51, l51, y51, z51, hR51⟩, st51⟩ := X0.specialBackS hx (y := (⟨"java/lang/String", "<init>", "([CIILjava/lang/Void;)V"⟩ : MethodName)) rfl hown (mvT hZ (own_w hw 35 rfl)) (mvT hZ (own_w hw 36 rfl)) (mvT hZ (own_w hw 37 rfl)) (by decide) (own_backSH (s := s) (vm0 := s.vm) (W := 0) (rm8_0 l Z a0 hw [] ax asr ks pG h0 n0 Z0 hEL Ea Fv Fc ga Vs nas O2 hG X00) hZ (own_w hw 37 rfl) (own_w hw 6 rfl) (by decide) (by decide) hEL R0.1 sfa Ea.lt) (g := (mkF m 6 #[.val (.ref ax), .val (.ref asr)] [.null, (.int (0 : Int32)), (.int (0 : Int32)), (.ref asr), (.ref ax)])) rfl (by rw [hml]; rfl) (Steps.refl _) (a := ax) (argsL := [(.ref asr), (.int (0 : Int32)), (.int (0 : Int32)), .null]) (rest := []) (lenOf own_pd11 rfl) rfl (by show 2 * 0 + _ ≤ _; exact Nat.le_of_eq rfl) (hb hby d7_6) (fun _ _ => ⟨rfl, e0, (by decide : 0 + 2 ≤ _), (by decide : 0 + 4 ≤ _)⟩)
  dsimp only [Pt.U, Pt.locs, Pt.cells, Pt.slots] at X51' hs51 hg51 l51 y51 z51 st51 hQ51 hR51
  replace y51 : _ = 2 := y51
  replace z51 : _ = 4 := z51
  subst y51 z51
  obtain ⟨X51, hS51, hZ51, hown51⟩ := rebS (n1 := s₁.heap.size) hS0 (by rw [e0]; exact hk0) X51' hs51 hg51 hZ hown
  obtain ⟨Nq51, rfl, Kq51, ad51, kq51, Fv51, Fc51, Vq51⟩ := hQ51
  have N51 := own_frl l51 N0 Nq51
  refine own_pre (fun t k => st51.trans k) ?_
  have Kc51 : Keep h0 T51.heap [ax] := (Keep.refl h0 [ax]).trans Kq51 (allS (Or.inl (List.mem_of_getElem? (i := 0) rfl)) all0)
  have R51 := CHr.trans R0 hR51
  obtain ⟨fs, hr, hrun, hended, hRE⟩ := X51.leaveW (hlocks := BodyLoose.notSynchronized Bd) hS51 (Nat.le_refl _) (v := none) (fun _ => rfl)
  refine ⟨_, _, X51.returnOut hx Bd.returns (hb hby d7_9) hr, hrun, hended, _, _, rfl, ?_, ?_, hRE.1, hRE.2.1, hRE.2.2.1, hRE.2.2.2.mono (by decide) (by decide)⟩
  · show own_Q7_0 Z ax asr ks pG h0 n0 _ T51.heap _
    exact ⟨N51, rfl, Kc51, ad51, kq51, Fv51, Fc51, Vq51⟩
  · show CHr Z own_EL s.vm s.heap T51.vm T51.heap
    rw [hh]
    exact CHr.trans R51 (CHv.at X51 hZ51 hEL R51.1)
theorem d1_0 : decode method_2_code 0 = .ok (.iload_n 0, 1) := by decide +kernel
theorem d1_1 : decode method_2_code 1 = .ok (.ifCond .ne 14, 3) := by decide +kernel
theorem d1_4 : decode method_2_code 4 = .ok (.new 7, 3) := by decide +kernel
theorem d1_7 : decode method_2_code 7 = .ok (.dup, 1) := by decide +kernel
theorem d1_8 : decode method_2_code 8 = .ok (.iconst 0, 1) := by decide +kernel
theorem d1_9 : decode method_2_code 9 = .ok (.newarray .char, 2) := by decide +kernel
theorem d1_11 : decode method_2_code 11 = .ok (.invokespecial 9, 3) := by decide +kernel
theorem d1_14 : decode method_2_code 14 = .ok (.areturn, 1) := by decide +kernel
theorem d1_15 : decode method_2_code 15 = .ok (.iload_n 0, 1) := by decide +kernel
theorem d1_16 : decode method_2_code 16 = .ok (.iconst 1, 1) := by decide +kernel
theorem d1_17 : decode method_2_code 17 = .ok (.if_icmp .ne 8, 3) := by decide +kernel
theorem d1_20 : decode method_2_code 20 = .ok (.iload_n 1, 1) := by decide +kernel
theorem d1_21 : decode method_2_code 21 = .ok (.invokestatic 12, 3) := by decide +kernel
theorem d1_24 : decode method_2_code 24 = .ok (.areturn, 1) := by decide +kernel
theorem d1_25 : decode method_2_code 25 = .ok (.new 7, 3) := by decide +kernel
theorem d1_28 : decode method_2_code 28 = .ok (.dup, 1) := by decide +kernel
theorem d1_29 : decode method_2_code 29 = .ok (.iconst 2, 1) := by decide +kernel
theorem d1_30 : decode method_2_code 30 = .ok (.newarray .char, 2) := by decide +kernel
theorem d1_32 : decode method_2_code 32 = .ok (.dup, 1) := by decide +kernel
theorem d1_33 : decode method_2_code 33 = .ok (.iconst 0, 1) := by decide +kernel
theorem d1_34 : decode method_2_code 34 = .ok (.iload_n 1, 1) := by decide +kernel
theorem d1_35 : decode method_2_code 35 = .ok (.castore, 1) := by decide +kernel
theorem d1_36 : decode method_2_code 36 = .ok (.dup, 1) := by decide +kernel
theorem d1_37 : decode method_2_code 37 = .ok (.iconst 1, 1) := by decide +kernel
theorem d1_38 : decode method_2_code 38 = .ok (.iload_n 2, 1) := by decide +kernel
theorem d1_39 : decode method_2_code 39 = .ok (.castore, 1) := by decide +kernel
theorem d1_40 : decode method_2_code 40 = .ok (.invokespecial 9, 3) := by decide +kernel
theorem d1_43 : decode method_2_code 43 = .ok (.areturn, 1) := by decide +kernel
theorem own_pn1 : plainName "com/example/sigillum/sigillum/cli/InputFilesCannotReadPinLaw" = true := by first | (simp [plainName, overriddenIn]; done) | decide +kernel
theorem own_ef1 (m : MethodId) (x0 : Int32) (x1 : Int32) (x2 : Int32) : entryFrame m #[(.int x0), (.int x1), (.int x2)] 3 = mkF m 0 #[.val (.int x0), .val (.int x1), .val (.int x2)] [] := by first | (simp [entryFrame, mkF, argsToLocals, Value.category]; done) | rfl
def own_Q1 (Z : State) (pl : Int32) (px : Int32) (py : Int32) (pG : Int32) (h0 : Heap) (n0 : Nat) (v : Option Value) (h : Heap) (L : List Loc) : Prop := Fr n0 L ∧ ∃ (ar ad : Addr) (kd : ClassId), v = some (.ref ar) ∧ Exa Z h ar "java/lang/String" ∧ Fld Z h ar "java/lang/String" "value" "[B" (.ref ad) ∧ Fld Z h ar "java/lang/String" "coder" "B" (.int (0 : Int32)) ∧ Arv Z h ad kd .byte pl (List.map own_by (own_s pl px py)) (.int (0 : Int32)) ∧ Keep h0 h []
set_option maxRecDepth 65536 in
set_option maxHeartbeats 40000000 in
theorem rm1 (l : Launch) (Z : State) (a0 : Array Value) (hw : ∀ d ∈ tables_1, d.before a0 Z = true) (ws : List Jvm.Cond) (pl : Int32) (px : Int32) (py : Int32) (pG : Int32) (h0 : Heap) (n0 : Nat) (Z0 : n0 ≤ h0.size) (hEL : EW Z a0 own_EL) (hpl : pl = 0 ∨ pl = 1 ∨ pl = 2) (hp_px : 0 ≤ px.toInt ∧ px.toInt < 256) (hp_py : 0 ≤ py.toInt ∧ py.toInt < 256) (O2 : Sta Z Z.heap "java/lang/String" "COMPACT_STRINGS" "Z" (.int pG)) (hG : ¬ pG = (0 : Int32)) (X00 : Old Z n0 h0) :
    MetFree l (⟨"com/example/sigillum/sigillum/cli/InputFilesCannotReadPinLaw", "str", "(ICC)Ljava/lang/String;"⟩ : MethodName) (head1 (Jvm.Cond.code (⟨"com/example/sigillum/sigillum/cli/InputFilesCannotReadPinLaw", "str", "(ICC)Ljava/lang/String;"⟩ : MethodName) method_2_code 3 (some (.object "java/lang/String")) :: ws) ({ frames := 4, cells := 4, slots := 8, locals := 66 } : Room)) (fun a U => a = #[(.int pl), (.int px), (.int py)] ∧ Z.Warmed39 U.vm ∧ U.heap = h0 ∧ CHv Z own_EL U.vm h0) (fun _ _ _ _ _ => True) (fun _ U o U' => ∃ v L, o = .returned v ∧ own_Q1 Z pl px py pG h0 n0 v U'.heap L ∧ CHr Z own_EL U.vm U.heap U'.vm U'.heap ∧ ReturnedEndW U o U' L ({ frames := 4, cells := 4, slots := 8, locals := 66 } : Room).cells ({ frames := 4, cells := 4, slots := 8, locals := 66 } : Room).slots) := by
  refine MetFree.of_bodySF (plainFor_of_name own_pn1) hisR ?_
  intro p e s m args below meth c s₁ Bd hml0 hP hK
  obtain ⟨rfl, hZ, hh, CH0⟩ := hP
  have hx := Bd.exec
  have hby := Bd.bytes
  have hml : c.maxLocals = 3 := hml0
  have hown : s.vm.findClass "com/example/sigillum/sigillum/cli/InputFilesCannotReadPinLaw" = some m.cls := findClass_of_methodNamed Bd.named
  have hnm := (name_of_methodNamed Bd.named Bd.method).1
  have own_wS' : ∀ d ∈ Bundle.stringAtoms, d.before a0 Z = true := fun d hd => hw d (own_wS d hd)
  have X0 : Stand p l e ({ frames := 4, cells := 4, slots := 8, locals := 66 } : Room) (s.setVm s.vm) m #[(.int pl), (.int px), (.int py)] below meth c s₁ [] 0 0 := Stand.of_body Bd
  have e0 : s₁.heap = h0 := by rw [← hh, Bd.state]; rfl
  have N0 := Fr.nil n0
  have hS0 : s.Since s.vm 0 := (State.WarmedH.refl s).since 0
  have hk0 : 0 ≤ h0.size := Nat.zero_le _
  have R0 := CHr.refl CH0
  refine own_pre (A := (s₁.setTop (mkF m 0 #[.val (.int pl), .val (.int px), .val (.int py)] []))) (fun t k => castTop (own_ef1 m pl px py) k) ?_
  refine own_pre (A := (s₁.setTop (mkF m 1 #[.val (.int pl), .val (.int px), .val (.int py)] [(.int pl)]))) ?_ ?_
  · intro t k
    refine XS.iloadN X0.here hx rfl (hb hby d1_0) rfl ?_
    exact k
  by_cases hc52 : pl = (0 : Int32)
  · skip
    refine own_pre (A := (s₁.setTop (mkF m 4 #[.val (.int pl), .val (.int px), .val (.int py)] []))) ?_ ?_
    · intro t k
      refine XS.ifNo X0.here hx rfl (hb hby d1_1) rfl ((if0 _ _).trans (teq hc52).2) ?_
      exact k
    obtain ⟨T53, h53, X53, e53, E53, A53, D53, -, st53⟩ := newO X0 hx hZ hown (own_w hw 30 rfl) (own_w hw 14 rfl) (own_w hw 6 rfl) e0 (g := (mkF m 4 #[.val (.int pl), .val (.int px), .val (.int py)] [])) rfl (hb hby d1_4) (by decide) (by decide)
    obtain ⟨b53, g53⟩ : ∃ z, z = h0.size := ⟨_, rfl⟩
    rw [← g53] at A53 D53 st53
    have gn_b53 : n0 ≤ b53 := Nat.le_trans Z0 (Nat.le_of_eq g53.symm)
    have sz_b53 : h0.size ≤ b53 := Nat.le_trans (Keep.refl h0 []).1 (Nat.le_of_eq g53.symm)
    have X00_53 := X00.ext E53
    have sf_b53 : Safe Z own_EL s.vm h0 b53 := Safe.new (Nat.le_of_eq g53.symm)
    have sf_b53_53 := Safe.ext E53 R0.1 sf_b53
    have R53 := CHr.trans R0 (CHr.ext E53 R0.1)
    have hk53 := Nat.le_trans hk0 E53.1
    have Zs53 : n0 ≤ h53.size := Nat.le_trans Z0 E53.1
    have Kc53 : Keep h0 h53 [] := (Keep.refl h0 []).ext E53
    have F53_value : Fld Z h53 b53 "java/lang/String" "value" "[B" .null := D53 (Or.inr (own_w hw 27 rfl)) (ty := (.array .byte)) (by decide)
    have F53_coder : Fld Z h53 b53 "java/lang/String" "coder" "B" (.int (0 : Int32)) := D53 (Or.inr (own_w hw 29 rfl)) (ty := .byte) (by decide)
    refine own_pre (fun t k => st53 t k) ?_
    refine own_pre (A := (T53.setTop (mkF m 9 #[.val (.int pl), .val (.int px), .val (.int py)] [(.int (0 : Int32)), (.ref b53), (.ref b53)]))) ?_ ?_
    · intro t k
      refine XS.dup X53.here hx rfl (hb hby d1_7) rfl rfl ?_
      refine XS.iconst X53.here hx rfl (hb hby d1_8) ?_
      exact k
    obtain ⟨T54, h54, k54, X54, e54, E54, A54, st54⟩ := newP X53 hx hZ (own_w hw 31 rfl) e53 (g := (mkF m 9 #[.val (.int pl), .val (.int px), .val (.int py)] [(.int (0 : Int32)), (.ref b53), (.ref b53)])) rfl (hb hby d1_9) rfl (by decide) (cap := 0) (by decide) (by decide) (by decide) (by decide)
    obtain ⟨b54, g54⟩ : ∃ z, z = h53.size := ⟨_, rfl⟩
    rw [← g54] at A54 st54
    have ne_b53_b54 : b53 ≠ b54 := Nat.ne_of_lt (Nat.lt_of_lt_of_le A53.lt (Nat.le_of_eq g54.symm))
    have X00_54 := X00_53.ext E54
    have A53_54 := A53.ext E54
    have F53_value_54 := F53_value.ext E54
    have F53_coder_54 := F53_coder.ext E54
    have sf_b53_54 := Safe.ext E54 R53.1 sf_b53_53
    have R54 := CHr.trans R53 (CHr.ext E54 R53.1)
    have hk54 := Nat.le_trans hk53 E54.1
    have Zs54 : n0 ≤ h54.size := Nat.le_trans Zs53 E54.1
    have Kc54 : Keep h0 h54 [] := Kc53.ext E54
    have V54 : Arv Z h54 b54 k54 .char (0 : Int32) [] (.int (0 : Int32)) := (Arv.new A54 (by decide)).pad (pad_rep [] (.int (0 : Int32)) 0)
    refine own_pre (fun t k => st54 t k) ?_
    obtain ⟨_, _, ⟨T55, L55, k55, n55⟩, -, X55', hs55, hg55, ⟨Lc55, hQ55, l55, y55, z55, hR55⟩, st55⟩ := X54.specialBackS hx (y := (⟨"java/lang/String", "<init>", "([C)V"⟩ : MethodName)) rfl hown (mvT hZ (own_w hw 32 rfl)) (mvT hZ (own_w hw 33 rfl)) (mvT hZ (own_w hw 34 rfl)) (by decide) (own_backSH (s := s) (vm0 := s.vm) (W := 1) (rm7_0 l Z a0 hw [] b53 b54 k54 pG h54 n0 Zs54 hEL A53_54 F53_value_54 F53_coder_54 gn_b53 V54 ne_b53_b54 O2 hG X00_54) hZ (own_w hw 34 rfl) (own_w hw 6 rfl) (by decide) (by decide) hEL R54.1 sf_b53_54 A53_54.lt) (g := (mkF m 11 #[.val (.int pl), .val (.int px), .val (.int py)] [(.ref b54), (.ref b53), (.ref b53)])) rfl (by rw [hml]; rfl) (Steps.refl _) (a := b53) (argsL := [(.ref b54)]) (rest := [(.ref b53)]) (lenOf own_pd12 rfl) rfl (by show 2 * 0 + _ ≤ _; exact Nat.le_of_eq rfl) (hb hby d1_11) (fun _ _ => ⟨rfl, e54, (by decide : 2 + 2 ≤ _), (by decide : 4 + 4 ≤ _)⟩)
    dsimp only [Pt.U, Pt.locs, Pt.cells, Pt.slots] at X55' hs55 hg55 l55 y55 z55 st55 hQ55 hR55
    replace y55 : _ = 4 := y55
    replace z55 : _ = 8 := z55
    subst y55 z55
    obtain ⟨X55, hS55, hZ55, hown55⟩ := rebS (n1 := T54.heap.size) hS0 (by rw [e54]; exact hk54) X55' hs55 hg55 hZ hown
    obtain ⟨Nq55, rfl, Kq55, ad55, kq55, Fv55, Fc55, Vq55⟩ := hQ55
    have N55 := own_frl l55 N0 Nq55
    refine own_pre (fun t k => st55.trans k) ?_
    have A53_55 := A53_54.keep Kq55
    have Kc55 : Keep h0 T55.heap [] := Kc54.trans Kq55 (allS (Or.inr sz_b53) all0)
    have R55 := CHr.trans R54 hR55
    obtain ⟨fs, hr, hrun, hended, hRE⟩ := X55.leaveW (hlocks := BodyLoose.notSynchronized Bd) hS55 (Nat.le_refl _) (v := some (.ref b53)) (fun h => by rw [Bd.returns] at h; cases h)
    refine ⟨_, _, retOut X55 hx Bd.returns rfl (Or.inr (Or.inr (Or.inr (Or.inr ⟨rfl, rfl, rfl⟩)))) (hb hby d1_14) hr, hrun, hended, _, _, rfl, ?_, ?_, hRE.1, hRE.2.1, hRE.2.2.1, hRE.2.2.2.mono (by decide) (by decide)⟩
    · show own_Q1 Z pl px py pG h0 n0 _ T55.heap _
      exact ⟨N55, b53, ad55, kq55, rfl, A53_55, Fv55, Fc55, (own_arv2 hc52 rfl Vq55), Kc55⟩
    · show CHr Z own_EL s.vm s.heap T55.vm T55.heap
      rw [hh]
      exact CHr.trans R55 (CHv.at X55 hZ55 hEL R55.1)
  · skip
    refine own_pre (A := (s₁.setTop (mkF m 15 #[.val (.int pl), .val (.int px), .val (.int py)] []))) ?_ ?_
    · intro t k
      refine XS.ifYes X0.here hx rfl (pc0 := 1) (pc' := 15) rfl (hb hby d1_1) rfl ((if0 _ _).trans (feq hc52).2) (by decide) (by decide) ?_
      exact k
    refine own_pre (A := (s₁.setTop (mkF m 17 #[.val (.int pl), .val (.int px), .val (.int py)] [(.int (1 : Int32)), (.int pl)]))) ?_ ?_
    · intro t k
      refine XS.iloadN X0.here hx rfl (hb hby d1_15) rfl ?_
      refine XS.iconst X0.here hx rfl (hb hby d1_16) ?_
      exact k
    by_cases hc56 : pl = (1 : Int32)
    · skip
      refine own_pre (A := (s₁.setTop (mkF m 20 #[.val (.int pl), .val (.int px), .val (.int py)] []))) ?_ ?_
      · intro t k
        refine XS.icmpNo X0.here hx rfl (hb hby d1_17) rfl (teq hc56).2 ?_
        exact k
      refine own_pre (A := (s₁.setTop (mkF m 21 #[.val (.int pl), .val (.int px), .val (.int py)] [(.int px)]))) ?_ ?_
      · intro t k
        refine XS.iloadN X0.here hx rfl (hb hby d1_20) rfl ?_
        exact k
      obtain ⟨_, _, ⟨T57, L57, k57, n57⟩, -, X57, ⟨Lc57, hQ57, l57, y57, z57⟩, st57⟩ := Jvm.LawKit.callS X0 hx (y := (⟨"java/lang/String", "valueOf", "(C)Ljava/lang/String;"⟩ : MethodName)) hown (mvT hZ (own_w hw 4 rfl)) (mvT hZ (own_w hw 5 rfl)) (mvT hZ (own_w hw 6 rfl)) (mvT hZ (own_w hw 7 rfl)) (by decide) (backOf (W := 0) (rm2 l Z a0 hw [] px pG h0 n0 Z0 hp_px O2 hG X00) hZ (own_w hw 7 rfl) (own_w hw 6 rfl) (by decide) (by decide)) (g := (mkF m 21 #[.val (.int pl), .val (.int px), .val (.int py)] [(.int px)])) rfl (by rw [hml]; rfl) (argsL := [(.int px)]) (rest := []) (lenOf own_pd13 rfl) rfl (by show 2 * 0 + _ ≤ _; exact Nat.le_of_eq rfl) (hb hby d1_21) (fun _ _ => ⟨rfl, e0, (by decide : 0 + 2 ≤ _), (by decide : 0 + 5 ≤ _)⟩)
      dsimp only [Pt.U, Pt.locs, Pt.cells, Pt.slots] at X57 l57 y57 z57 st57 hQ57
      replace y57 : _ = 2 := y57
      replace z57 : _ = 5 := z57
      subst y57 z57
      obtain ⟨Nq57, ar57, ad57, kq57, rfl, Eq57, Fv57, Fc57, Vq57, Kq57⟩ := hQ57
      have N57 := own_frl l57 N0 Nq57
      refine own_pre (fun t k => st57 t k) ?_
      have R57 := CHr.trans R0 (CHr.keep Kq57 sf0 R0.1)
      have hk57 := Nat.le_trans hk0 Kq57.1
      have Kc57 : Keep h0 T57.heap [] := (Keep.refl h0 []).trans Kq57 all0
      obtain ⟨fs, hr, hrun, hended, hRE⟩ := X57.leaveW (hlocks := BodyLoose.notSynchronized Bd) hS0 hk57 (v := some (.ref ar57)) (fun h => by rw [Bd.returns] at h; cases h)
      refine ⟨_, _, retOut X57 hx Bd.returns rfl (Or.inr (Or.inr (Or.inr (Or.inr ⟨rfl, rfl, rfl⟩)))) (hb hby d1_24) hr, hrun, hended, _, _, rfl, ?_, ?_, hRE.1, hRE.2.1, hRE.2.2.1, hRE.2.2.2.mono (by decide) (by decide)⟩
      · show own_Q1 Z pl px py pG h0 n0 _ T57.heap _
        exact ⟨N57, ar57, ad57, kq57, rfl, Eq57, Fv57, Fc57, (own_arv2 hc56 rfl Vq57), Kc57⟩
      · show CHr Z own_EL s.vm s.heap T57.vm T57.heap
        rw [hh]
        exact CHr.trans R57 (CHv.at X57 hZ hEL R57.1)
    · skip
      refine own_pre (A := (s₁.setTop (mkF m 25 #[.val (.int pl), .val (.int px), .val (.int py)] []))) ?_ ?_
      · intro t k
        refine XS.icmpYes X0.here hx rfl (pc0 := 17) (pc' := 25) rfl (hb hby d1_17) rfl (feq hc56).2 (by decide) (by decide) ?_
        exact k
      have hl2 := own_pl2 hpl hc52 hc56
      obtain ⟨T58, h58, X58, e58, E58, A58, D58, -, st58⟩ := newO X0 hx hZ hown (own_w hw 30 rfl) (own_w hw 14 rfl) (own_w hw 6 rfl) e0 (g := (mkF m 25 #[.val (.int pl), .val (.int px), .val (.int py)] [])) rfl (hb hby d1_25) (by decide) (by decide)
      obtain ⟨b58, g58⟩ : ∃ z, z = h0.size := ⟨_, rfl⟩
      rw [← g58] at A58 D58 st58
      have gn_b58 : n0 ≤ b58 := Nat.le_trans Z0 (Nat.le_of_eq g58.symm)
      have sz_b58 : h0.size ≤ b58 := Nat.le_trans (Keep.refl h0 []).1 (Nat.le_of_eq g58.symm)
      have X00_58 := X00.ext E58
      have sf_b58 : Safe Z own_EL s.vm h0 b58 := Safe.new (Nat.le_of_eq g58.symm)
      have sf_b58_58 := Safe.ext E58 R0.1 sf_b58
      have R58 := CHr.trans R0 (CHr.ext E58 R0.1)
      have hk58 := Nat.le_trans hk0 E58.1
      have Zs58 : n0 ≤ h58.size := Nat.le_trans Z0 E58.1
      have Kc58 : Keep h0 h58 [] := (Keep.refl h0 []).ext E58
      have F58_value : Fld Z h58 b58 "java/lang/String" "value" "[B" .null := D58 (Or.inr (own_w hw 27 rfl)) (ty := (.array .byte)) (by decide)
      have F58_coder : Fld Z h58 b58 "java/lang/String" "coder" "B" (.int (0 : Int32)) := D58 (Or.inr (own_w hw 29 rfl)) (ty := .byte) (by decide)
      refine own_pre (fun t k => st58 t k) ?_
      refine own_pre (A := (T58.setTop (mkF m 30 #[.val (.int pl), .val (.int px), .val (.int py)] [(.int (2 : Int32)), (.ref b58), (.ref b58)]))) ?_ ?_
      · intro t k
        refine XS.dup X58.here hx rfl (hb hby d1_28) rfl rfl ?_
        refine XS.iconst X58.here hx rfl (hb hby d1_29) ?_
        exact k
      obtain ⟨T59, h59, k59, X59, e59, E59, A59, st59⟩ := newP X58 hx hZ (own_w hw 31 rfl) e58 (g := (mkF m 30 #[.val (.int pl), .val (.int px), .val (.int py)] [(.int (2 : Int32)), (.ref b58), (.ref b58)])) rfl (hb hby d1_30) rfl (by decide) (cap := 2) (by decide) (by decide) (by decide) (by decide)
      obtain ⟨b59, g59⟩ : ∃ z, z = h58.size := ⟨_, rfl⟩
      rw [← g59] at A59 st59
      have ne_b58_b59 : b58 ≠ b59 := Nat.ne_of_lt (Nat.lt_of_lt_of_le A58.lt (Nat.le_of_eq g59.symm))
      have gn_b59 : n0 ≤ b59 := Nat.le_trans Zs58 (Nat.le_of_eq g59.symm)
      have sz_b59 : h0.size ≤ b59 := Nat.le_trans Kc58.1 (Nat.le_of_eq g59.symm)
      have X00_59 := X00_58.ext E59
      have A58_59 := A58.ext E59
      have F58_value_59 := F58_value.ext E59
      have F58_coder_59 := F58_coder.ext E59
      have sf_b59 : Safe Z own_EL s.vm h58 b59 := Safe.new (Nat.le_of_eq g59.symm)
      have sf_b58_59 := Safe.ext E59 R58.1 sf_b58_58
      have sf_b59_59 := Safe.ext E59 R58.1 sf_b59
      have R59 := CHr.trans R58 (CHr.ext E59 R58.1)
      have hk59 := Nat.le_trans hk58 E59.1
      have Zs59 : n0 ≤ h59.size := Nat.le_trans Zs58 E59.1
      have Kc59 : Keep h0 h59 [] := Kc58.ext E59
      have V59 : Arv Z h59 b59 k59 .char (2 : Int32) [(.int (0 : Int32)), (.int (0 : Int32))] (.int (0 : Int32)) := (Arv.new A59 (by decide)).pad (pad_rep [] (.int (0 : Int32)) 2)
      refine own_pre (fun t k => st59 t k) ?_
      refine own_pre (A := (T59.setTop (mkF m 35 #[.val (.int pl), .val (.int px), .val (.int py)] [(.int px), (.int (0 : Int32)), (.ref b59), (.ref b59), (.ref b58), (.ref b58)]))) ?_ ?_
      · intro t k
        refine XS.dup X59.here hx rfl (hb hby d1_32) rfl rfl ?_
        refine XS.iconst X59.here hx rfl (hb hby d1_33) ?_
        refine XS.iloadN X59.here hx rfl (hb hby d1_34) rfl ?_
        exact k
      obtain ⟨cl60, Ar60, q60, S60, N60, H60, G60⟩ := V59
      have hin60 : ¬ ((0 : Int32) < 0 ∨ cl60.slots.size ≤ ((0 : Int32)).toNatClampNeg) := inb_of S60 ⟨by decide, by decide⟩
      obtain ⟨T60, h60, X60, e60, W60, st60⟩ := stC X59 hx hZ e59 Ar60 (j := (0 : Int32)) hin60 (g := (mkF m 35 #[.val (.int pl), .val (.int px), .val (.int py)] [(.int px), (.int (0 : Int32)), (.ref b59), (.ref b59), (.ref b58), (.ref b58)])) rfl rfl (hb hby d1_35)
      have V60 : Arv Z h60 b59 k59 .char (2 : Int32) [(.int px), (.int (0 : Int32))] (.int (0 : Int32)) := by have q := Arv.set Ar60 q60 S60 N60 H60 G60 (fits_nar_char _) W60 0 rfl (Nat.le_of_ble_eq_true rfl); (first | rw [own_ch_nc px hp_px] at q | rw [own_ch_c px hp_px] at q); exact q
      have X00_60 := X00_59.wr W60 gn_b59
      have A58_60 := A58_59.wr W60
      have F58_value_60 := F58_value_59.other W60 (Or.inl ne_b58_b59)
      have F58_coder_60 := F58_coder_59.other W60 (Or.inl ne_b58_b59)
      have sf_b58_60 := Safe.wr W60 sf_b59_59 R59.1 sf_b58_59
      have sf_b59_60 := Safe.wr W60 sf_b59_59 R59.1 sf_b59_59
      have R60 := CHr.trans R59 (CHr.wr W60 sf_b59_59 R59.1)
      have hk60 := Nat.le_trans hk59 (Keep.of_wr W60).1
      have Zs60 : n0 ≤ h60.size := Nat.le_trans Zs59 (Keep.of_wr W60).1
      have Kc60 : Keep h0 h60 [] := Kc59.wr W60 (Or.inr sz_b59)
      have N60 := Fr.snoc X60 N0 gn_b59
      refine own_pre (fun t k => st60 t k) ?_
      refine own_pre (A := (T60.setTop (mkF m 39 #[.val (.int pl), .val (.int px), .val (.int py)] [(.int py), (.int (1 : Int32)), (.ref b59), (.ref b59), (.ref b58), (.ref b58)]))) ?_ ?_
      · intro t k
        refine XS.dup X60.here hx rfl (hb hby d1_36) rfl rfl ?_
        refine XS.iconst X60.here hx rfl (hb hby d1_37) ?_
        refine XS.iloadN X60.here hx rfl (hb hby d1_38) rfl ?_
        exact k
      obtain ⟨cl61, Ar61, q61, S61, N61, H61, G61⟩ := V60
      have hin61 : ¬ ((1 : Int32) < 0 ∨ cl61.slots.size ≤ ((1 : Int32)).toNatClampNeg) := inb_of S61 ⟨by decide, by decide⟩
      obtain ⟨T61, h61, X61, e61, W61, st61⟩ := stC X60 hx hZ e60 Ar61 (j := (1 : Int32)) hin61 (g := (mkF m 39 #[.val (.int pl), .val (.int px), .val (.int py)] [(.int py), (.int (1 : Int32)), (.ref b59), (.ref b59), (.ref b58), (.ref b58)])) rfl rfl (hb hby d1_39)
      have V61 : Arv Z h61 b59 k59 .char (2 : Int32) [(.int px), (.int py)] (.int (0 : Int32)) := by have q := Arv.set Ar61 q61 S61 N61 H61 G61 (fits_nar_char _) W61 1 rfl (Nat.le_of_ble_eq_true rfl); (first | rw [own_ch_nc py hp_py] at q | rw [own_ch_c py hp_py] at q); exact q
      have X00_61 := X00_60.wr W61 gn_b59
      have A58_61 := A58_60.wr W61
      have F58_value_61 := F58_value_60.other W61 (Or.inl ne_b58_b59)
      have F58_coder_61 := F58_coder_60.other W61 (Or.inl ne_b58_b59)
      have sf_b58_61 := Safe.wr W61 sf_b59_60 R60.1 sf_b58_60
      have R61 := CHr.trans R60 (CHr.wr W61 sf_b59_60 R60.1)
      have hk61 := Nat.le_trans hk60 (Keep.of_wr W61).1
      have Zs61 : n0 ≤ h61.size := Nat.le_trans Zs60 (Keep.of_wr W61).1
      have Kc61 : Keep h0 h61 [] := Kc60.wr W61 (Or.inr sz_b59)
      have N61 := Fr.snoc X61 N60 gn_b59
      refine own_pre (fun t k => st61 t k) ?_
      obtain ⟨_, _, ⟨T62, L62, k62, n62⟩, -, X62, ⟨Lc62, hQ62, l62, y62, z62⟩, st62⟩ := X61.specialBack hx (y := (⟨"java/lang/String", "<init>", "([C)V"⟩ : MethodName)) rfl hown (mvT hZ (own_w hw 32 rfl)) (mvT hZ (own_w hw 33 rfl)) (mvT hZ (own_w hw 34 rfl)) (by decide) (backOf (W := 1) (rm7_2 l Z a0 hw [] b58 b59 k59 px py pG h61 n0 Zs61 A58_61 F58_value_61 F58_coder_61 gn_b58 V61 ne_b58_b59 hp_px hp_py O2 hG X00_61) hZ (own_w hw 34 rfl) (own_w hw 6 rfl) (by decide) (by decide)) (g := (mkF m 40 #[.val (.int pl), .val (.int px), .val (.int py)] [(.ref b59), (.ref b58), (.ref b58)])) rfl (by rw [hml]; rfl) (Steps.refl _) (a := b58) (argsL := [(.ref b59)]) (rest := [(.ref b58)]) (lenOf own_pd12 rfl) rfl (by show 2 * 0 + _ ≤ _; exact Nat.le_of_eq rfl) (hb hby d1_40) (fun _ _ => ⟨rfl, e61, (by decide : 2 + 1 ≤ _), (by decide : 6 + 2 ≤ _)⟩)
      dsimp only [Pt.U, Pt.locs, Pt.cells, Pt.slots] at X62 l62 y62 z62 st62 hQ62
      replace y62 : _ = 3 := y62
      replace z62 : _ = 8 := z62
      subst y62 z62
      obtain ⟨Nq62, rfl, Kq62, ad62, kq62, Fv62, Fc62, Vq62⟩ := hQ62
      have N62 := own_frl l62 N61 Nq62
      refine own_pre (fun t k => st62.trans k) ?_
      have A58_62 := A58_61.keep Kq62
      have R62 := CHr.trans R61 (CHr.keep Kq62 (sfS sf_b58_61 sf0) R61.1)
      have hk62 := Nat.le_trans hk61 Kq62.1
      have Kc62 : Keep h0 T62.heap [] := Kc61.trans Kq62 (allS (Or.inr sz_b58) all0)
      obtain ⟨fs, hr, hrun, hended, hRE⟩ := X62.leaveW (hlocks := BodyLoose.notSynchronized Bd) hS0 hk62 (v := some (.ref b58)) (fun h => by rw [Bd.returns] at h; cases h)
      refine ⟨_, _, retOut X62 hx Bd.returns rfl (Or.inr (Or.inr (Or.inr (Or.inr ⟨rfl, rfl, rfl⟩)))) (hb hby d1_43) hr, hrun, hended, _, _, rfl, ?_, ?_, hRE.1, hRE.2.1, hRE.2.2.1, hRE.2.2.2.mono (by decide) (by decide)⟩
      · show own_Q1 Z pl px py pG h0 n0 _ T62.heap _
        exact ⟨N62, b58, ad62, kq62, rfl, A58_62, Fv62, Fc62, (own_arv2 hl2 rfl Vq62), Kc62⟩
      · show CHr Z own_EL s.vm s.heap T62.vm T62.heap
        rw [hh]
        exact CHr.trans R62 (CHv.at X62 hZ hEL R62.1)
theorem own_sn {pl x y : Int32} (h : pl = 0 ∨ pl = 1 ∨ pl = 2) : own_n pl (own_s pl x y) := by
  rcases h with rfl | rfl | rfl
  · exact ⟨by decide, rfl⟩
  · exact ⟨by decide, rfl⟩
  · exact ⟨by decide, rfl⟩
theorem own_sl {pl x y : Int32} : (own_s pl x y).length ≤ 2 := by
  unfold own_s; split
  · exact Nat.zero_le _
  · split
    · exact Nat.le_of_ble_eq_true rfl
    · exact Nat.le_of_ble_eq_true rfl
theorem own_0le (n : Nat) : (0 : Int32).toNatClampNeg + n ≤ n := by
  have e : (0 : Int32).toNatClampNeg = 0 := by decide
  omega
theorem own_eqi {a b : Int32} (h : ¬ a < b) (h' : ¬ b < a) : a = b := by
  rw [Int32.lt_iff_toInt_lt] at h h'
  apply Int32.toInt_inj.mp; omega
theorem own_mineq {zc pk : Int32} {wv : List Value} {cs : List Int32} (o : own_ok zc pk wv cs) (h : ¬ pk < zc) : zc = pk := by
  have h1 := nat_of o.2.2.1
  have h2 := nat_of (own_znn o)
  have h4 := o.2.2.2.1
  have h5 := o.2.2.2.2.1
  rw [Int32.lt_iff_toInt_lt] at h
  apply Int32.toInt_inj.mp; omega
theorem own_rangeZ {wv : List Value} {n : Nat} {d : Value} (h : wv.length = n) : wv = (List.range n).map fun i => wv.getD ((0 : Int32).toNatClampNeg + i) d := by
  have e : (0 : Int32).toNatClampNeg = 0 := by decide
  rw [e]; exact own_rangeD h
theorem own_eq47 {wv : List Value} {d : Value} : ((List.replicate 34 d).take (0 : Int32).toNatClampNeg ++ wv ++ (List.replicate 34 d).drop ((0 : Int32).toNatClampNeg + (16 : Int32).toNatClampNeg)) = wv ++ List.replicate 18 d := by
  have e : (0 : Int32).toNatClampNeg = 0 := by decide
  have f : (16 : Int32).toNatClampNeg = 16 := by decide
  rw [e, f]; simp
theorem own_eqp {sn : Int32} {cs : List Int32} {wv : List Value} {p : Nat} (hn : own_n sn cs) : (wv.take p ++ List.map own_by cs ++ wv.drop (p + sn.toNatClampNeg)) = own_put wv p (List.map own_by cs) := by
  rw [own_put, List.length_map, hn.2]
theorem own_hpm {zc pk sn : Int32} {wv : List Value} {cs ds : List Int32} (o : own_ok zc pk wv cs) (hn : own_n sn ds) (hl : cs.length + ds.length ≤ 34) : ¬ (pk + sn) < 0 ∧ (pk + sn).toNatClampNeg ≤ 34 := by
  obtain ⟨q1, q2⟩ := own_add o.2.2.1 hn.1 o.2.2.2.1 hn.2 hl
  exact ⟨q1, by omega⟩
theorem own_hle {zc zc' pk sn : Int32} {wv : List Value} {cs ds : List Int32} (o : own_ok zc pk wv cs) (hn : own_n sn ds) (hl : cs.length + ds.length ≤ 34) (hz : (pk + sn).toNatClampNeg ≤ zc'.toNatClampNeg) : pk.toNatClampNeg + sn.toNatClampNeg ≤ zc'.toNatClampNeg := by
  obtain ⟨q1, q2⟩ := own_add o.2.2.1 hn.1 o.2.2.2.1 hn.2 hl
  have h4 := o.2.2.2.1
  have h5 := hn.2
  omega
theorem own_okn {zc pk : Int32} {wv : List Value} {cs : List Int32} (o : own_ok zc pk wv cs) : own_n pk cs := ⟨o.2.2.1, o.2.2.2.1⟩
theorem own_ok0 : own_ok (16 : Int32) (0 : Int32) (List.replicate 16 (.int (0 : Int32))) [] := ⟨Or.inl rfl, rfl, by decide, rfl, by decide, rfl⟩
theorem d11_0 : decode jdk_68_method_2_code 0 = .ok (.aload_n 0, 1) := by decide +kernel
theorem d11_1 : decode jdk_68_method_2_code 1 = .ok (.invokespecial 3, 3) := by decide +kernel
theorem d11_4 : decode jdk_68_method_2_code 4 = .ok (.getstatic 18, 3) := by decide +kernel
theorem d11_7 : decode jdk_68_method_2_code 7 = .ok (.ifCond .eq 18, 3) := by decide +kernel
theorem d11_10 : decode jdk_68_method_2_code 10 = .ok (.aload_n 0, 1) := by decide +kernel
theorem d11_11 : decode jdk_68_method_2_code 11 = .ok (.iload_n 1, 1) := by decide +kernel
theorem d11_12 : decode jdk_68_method_2_code 12 = .ok (.newarray .byte, 2) := by decide +kernel
theorem d11_14 : decode jdk_68_method_2_code 14 = .ok (.putfield 15, 3) := by decide +kernel
theorem d11_17 : decode jdk_68_method_2_code 17 = .ok (.aload_n 0, 1) := by decide +kernel
theorem d11_18 : decode jdk_68_method_2_code 18 = .ok (.iconst 0, 1) := by decide +kernel
theorem d11_19 : decode jdk_68_method_2_code 19 = .ok (.putfield 22, 3) := by decide +kernel
theorem d11_22 : decode jdk_68_method_2_code 22 = .ok (.goto 16, 3) := by decide +kernel
theorem d11_38 : decode jdk_68_method_2_code 38 = .ok (.return_, 1) := by decide +kernel
theorem own_pn11 : plainName "java/lang/AbstractStringBuilder" = true := by first | (simp [plainName, overriddenIn]; done) | decide +kernel
theorem own_ef11 (m : MethodId) (x0 : Addr) (x1 : Int32) : entryFrame m #[(.ref x0), (.int x1)] 2 = mkF m 0 #[.val (.ref x0), .val (.int x1)] [] := by first | (simp [entryFrame, mkF, argsToLocals, Value.category]; done) | rfl
def own_Q11 (Z : State) (ax : Addr) (pG : Int32) (h0 : Heap) (n0 : Nat) (v : Option Value) (h : Heap) (L : List Loc) : Prop := Fr n0 L ∧ v = none ∧ Keep h0 h [ax] ∧ ∃ (ab : Addr) (kb : ClassId), n0 ≤ ab ∧ h0.size ≤ ab ∧ Fld Z h ax "java/lang/AbstractStringBuilder" "value" "[B" (.ref ab) ∧ Fld Z h ax "java/lang/AbstractStringBuilder" "coder" "B" (.int (0 : Int32)) ∧ Fld Z h ax "java/lang/AbstractStringBuilder" "count" "I" (.int (0 : Int32)) ∧ Exa Z h ab "[B" ∧ Arv Z h ab kb .byte (16 : Int32) (List.replicate 16 (.int (0 : Int32))) (.int (0 : Int32))
set_option maxRecDepth 65536 in
set_option maxHeartbeats 40000000 in
theorem rm11 (l : Launch) (Z : State) (a0 : Array Value) (hw : ∀ d ∈ tables_1, d.before a0 Z = true) (ws : List Jvm.Cond) (ax : Addr) (pG : Int32) (h0 : Heap) (n0 : Nat) (Z0 : n0 ≤ h0.size) (Eb : Exa Z h0 ax "java/lang/StringBuilder") (Bv : Fld Z h0 ax "java/lang/AbstractStringBuilder" "value" "[B" .null) (Bc : Fld Z h0 ax "java/lang/AbstractStringBuilder" "coder" "B" (.int (0 : Int32))) (Bk : Fld Z h0 ax "java/lang/AbstractStringBuilder" "count" "I" (.int (0 : Int32))) (ga : n0 ≤ ax) (O2 : Sta Z Z.heap "java/lang/String" "COMPACT_STRINGS" "Z" (.int pG)) (hG : ¬ pG = (0 : Int32)) (X00 : Old Z n0 h0) :
    MetFree l (⟨"java/lang/AbstractStringBuilder", "<init>", "(I)V"⟩ : MethodName) (head1 (Jvm.Cond.code (⟨"java/lang/AbstractStringBuilder", "<init>", "(I)V"⟩ : MethodName) jdk_68_method_2_code 2 none :: ws) ({ frames := 1, cells := 1, slots := 16, locals := 12 } : Room)) (fun a U => a = #[(.ref ax), (.int (16 : Int32))] ∧ Z.Warmed39 U.vm ∧ U.heap = h0) (fun _ _ _ _ _ => True) (fun _ U o U' => ∃ v L, o = .returned v ∧ own_Q11 Z ax pG h0 n0 v U'.heap L ∧ FrameEnd U o U' L ({ frames := 1, cells := 1, slots := 16, locals := 12 } : Room).cells ({ frames := 1, cells := 1, slots := 16, locals := 12 } : Room).slots) := by
  refine MetFree.of_bodySF (plainFor_of_name own_pn11) hisR ?_
  intro p e s m args below meth c s₁ Bd hml0 hP hK
  obtain ⟨rfl, hZ, hh⟩ := hP
  have hx := Bd.exec
  have hby := Bd.bytes
  have hml : c.maxLocals = 2 := hml0
  have hown : s.vm.findClass "java/lang/AbstractStringBuilder" = some m.cls := findClass_of_methodNamed Bd.named
  have hnm := (name_of_methodNamed Bd.named Bd.method).1
  have X0 : Stand p l e ({ frames := 1, cells := 1, slots := 16, locals := 12 } : Room) s m #[(.ref ax), (.int (16 : Int32))] below meth c s₁ [] 0 0 := Stand.of_body Bd
  have e0 : s₁.heap = h0 := by rw [← hh, Bd.state]; rfl
  have N0 := Fr.nil n0
  refine own_pre (A := (s₁.setTop (mkF m 0 #[.val (.ref ax), .val (.int (16 : Int32))] []))) (fun t k => castTop (own_ef11 m ax (16 : Int32)) k) ?_
  refine own_pre (A := (s₁.setTop (mkF m 1 #[.val (.ref ax), .val (.int (16 : Int32))] [(.ref ax)]))) ?_ ?_
  · intro t k
    refine XS.aloadN X0.here hx rfl (hb hby d11_0) rfl rfl ?_
    exact k
  obtain ⟨T63, X63, e63, st63⟩ := initO X0 hx hZ hown (own_w hw 60 rfl) (own_w hw 24 rfl) (own_w hw 25 rfl) e0 (g := (mkF m 1 #[.val (.ref ax), .val (.int (16 : Int32))] [(.ref ax)])) rfl (by rw [hml]; rfl) rfl (hb hby d11_1) (by decide) (W := 0) (by show 2 * 0 + _ ≤ _; exact Nat.le_of_eq rfl) (by decide)
  refine own_pre (fun t k => st63 t k) ?_
  obtain ⟨T64, X64, e64, st64⟩ := getS2 X63 hx hZ hown (host := "") (Or.inl (own_w hw 61 rfl)) Via.refl e63 (O2.ext X00.2) (g := (mkF m 4 #[.val (.ref ax), .val (.int (16 : Int32))] [])) rfl (hb hby d11_4)
  refine own_pre (fun t k => st64 t k) ?_
  refine own_pre (A := (T64.setTop (mkF m 12 #[.val (.ref ax), .val (.int (16 : Int32))] [(.int (16 : Int32)), (.ref ax)]))) ?_ ?_
  · intro t k
    refine XS.ifNo X64.here hx rfl (hb hby d11_7) rfl ((if0 _ _).trans (feq hG).1) ?_
    refine XS.aloadN X64.here hx rfl (hb hby d11_10) rfl rfl ?_
    refine XS.iloadN X64.here hx rfl (hb hby d11_11) rfl ?_
    exact k
  obtain ⟨T65, h65, k65, X65, e65, E65, A65, Q65, st65⟩ := newPE X64 hx hZ (own_w hw 18 rfl) e64 (g := (mkF m 12 #[.val (.ref ax), .val (.int (16 : Int32))] [(.int (16 : Int32)), (.ref ax)])) rfl (hb hby d11_12) rfl (by decide) (cap := 16) (by decide) (by decide) (by decide) (by decide) (ad := "[B") (by decide)
  obtain ⟨b65, g65⟩ : ∃ z, z = h0.size := ⟨_, rfl⟩
  rw [← g65] at A65 st65 Q65
  have ne_ax_b65 : ax ≠ b65 := Nat.ne_of_lt (Nat.lt_of_lt_of_le Eb.lt (Nat.le_of_eq g65.symm))
  have gn_b65 : n0 ≤ b65 := Nat.le_trans Z0 (Nat.le_of_eq g65.symm)
  have sz_b65 : h0.size ≤ b65 := Nat.le_trans (Keep.refl h0 [ax]).1 (Nat.le_of_eq g65.symm)
  have Eb_65 := Eb.ext E65
  have Bv_65 := Bv.ext E65
  have Bc_65 := Bc.ext E65
  have Bk_65 := Bk.ext E65
  have Kc65 : Keep h0 h65 [ax] := (Keep.refl h0 [ax]).ext E65
  have V65 : Arv Z h65 b65 k65 .byte (16 : Int32) [(.int (0 : Int32)), (.int (0 : Int32)), (.int (0 : Int32)), (.int (0 : Int32)), (.int (0 : Int32)), (.int (0 : Int32)), (.int (0 : Int32)), (.int (0 : Int32)), (.int (0 : Int32)), (.int (0 : Int32)), (.int (0 : Int32)), (.int (0 : Int32)), (.int (0 : Int32)), (.int (0 : Int32)), (.int (0 : Int32)), (.int (0 : Int32))] (.int (0 : Int32)) := (Arv.new A65 (by decide)).pad (pad_rep [] (.int (0 : Int32)) 16)
  refine own_pre (fun t k => st65 t k) ?_
  obtain ⟨T66, h66, X66, e66, W66, st66⟩ := putF X65 hx hZ hown (host := "") (Or.inl (own_w hw 62 rfl)) Via.refl e65 Bv_65 Eb_65 (Or.inl (own_w hw 63 rfl)) (own_w hw 49 rfl) (ty := (.array .byte)) (by decide) rfl rfl (g := (mkF m 14 #[.val (.ref ax), .val (.int (16 : Int32))] [(.ref b65), (.ref ax)])) rfl rfl (hb hby d11_14)
  have Eb_66 := Eb_65.wr W66
  have Bc_66 := Bc_65.other W66 (Or.inr (slot_ne (Or.inl (own_w hw 65 rfl)) (Or.inl (own_w hw 63 rfl)) (by decide) (t := .byte) (t' := (.array .byte)) (by decide) (by decide)))
  have Bk_66 := Bk_65.other W66 (Or.inr (slot_ne (Or.inl (own_w hw 88 rfl)) (Or.inl (own_w hw 63 rfl)) (by decide) (t := .int) (t' := (.array .byte)) (by decide) (by decide)))
  have Q65_66 := Q65.wr W66
  have V65_66 := V65.other W66 ne_ax_b65.symm
  have Kc66 : Keep h0 h66 [ax] := Kc65.wr W66 (Or.inl (List.mem_of_getElem? (i := 0) rfl))
  have N66 := Fr.snoc X66 N0 ga
  have Fw66 := Bv_65.same W66
  refine own_pre (fun t k => st66 t k) ?_
  refine own_pre (A := (T66.setTop (mkF m 19 #[.val (.ref ax), .val (.int (16 : Int32))] [(.int (0 : Int32)), (.ref ax)]))) ?_ ?_
  · intro t k
    refine XS.aloadN X66.here hx rfl (hb hby d11_17) rfl rfl ?_
    refine XS.iconst X66.here hx rfl (hb hby d11_18) ?_
    exact k
  obtain ⟨T67, h67, X67, e67, W67, st67⟩ := putFN X66 hx hZ hown (own_w hw 64 rfl) Via.refl e66 Bc_66 Eb_66 (Or.inl (own_w hw 65 rfl)) (own_w hw 49 rfl) (ty := .byte) (v' := (.int (0 : Int32))) (by decide) rfl rfl (g := (mkF m 19 #[.val (.ref ax), .val (.int (16 : Int32))] [(.int (0 : Int32)), (.ref ax)])) rfl rfl (hb hby d11_19)
  have Fw66_67 := Fw66.other W67 (Or.inr (slot_ne (Or.inl (own_w hw 63 rfl)) (Or.inl (own_w hw 65 rfl)) (by decide) (t := (.array .byte)) (t' := .byte) (by decide) (by decide)))
  have Bk_67 := Bk_66.other W67 (Or.inr (slot_ne (Or.inl (own_w hw 88 rfl)) (Or.inl (own_w hw 65 rfl)) (by decide) (t := .int) (t' := .byte) (by decide) (by decide)))
  have Q65_67 := Q65_66.wr W67
  have V65_67 := V65_66.other W67 ne_ax_b65.symm
  have Kc67 : Keep h0 h67 [ax] := Kc66.wr W67 (Or.inl (List.mem_of_getElem? (i := 0) rfl))
  have N67 := Fr.snoc X67 N66 ga
  have Fw67 := Bc_66.same W67
  refine own_pre (fun t k => st67 t k) ?_
  refine own_pre (A := (T67.setTop (mkF m 38 #[.val (.ref ax), .val (.int (16 : Int32))] []))) ?_ ?_
  · intro t k
    refine XS.goto X67.here hx rfl (pc0 := 22) (pc' := 38) rfl (hb hby d11_22) (by decide) (by decide) ?_
    exact k
  obtain ⟨fs, hr, hrun, hended, hW, hsame⟩ := X67.leave (hlocks := BodyLoose.notSynchronized Bd) (v := none) (fun _ => rfl)
  refine ⟨_, _, X67.returnOut hx Bd.returns (hb hby d11_38) hr, hrun, hended, _, _, rfl, ?_, ⟨_, rfl⟩, hW, hsame.mono (by decide) (by decide)⟩
  show own_Q11 Z ax pG h0 n0 _ T67.heap _
  rw [e67]
  exact ⟨N67, rfl, Kc67, b65, k65, gn_b65, sz_b65, Fw66_67, Fw67, Bk_67, Q65_67, V65_67⟩
theorem d10_0 : decode jdk_67_method_1_code 0 = .ok (.aload_n 0, 1) := by decide +kernel
theorem d10_1 : decode jdk_67_method_1_code 1 = .ok (.bipush 16, 2) := by decide +kernel
theorem d10_3 : decode jdk_67_method_1_code 3 = .ok (.invokespecial 1, 3) := by decide +kernel
theorem d10_6 : decode jdk_67_method_1_code 6 = .ok (.return_, 1) := by decide +kernel
theorem own_pn10 : plainName "java/lang/StringBuilder" = true := by first | (simp [plainName, overriddenIn]; done) | decide +kernel
theorem own_ef10 (m : MethodId) (x0 : Addr) : entryFrame m #[(.ref x0)] 1 = mkF m 0 #[.val (.ref x0)] [] := by first | (simp [entryFrame, mkF, argsToLocals, Value.category]; done) | rfl
def own_Q10 (Z : State) (ax : Addr) (pG : Int32) (h0 : Heap) (n0 : Nat) (v : Option Value) (h : Heap) (L : List Loc) : Prop := Fr n0 L ∧ v = none ∧ Keep h0 h [ax] ∧ ∃ (ab : Addr) (kb : ClassId), n0 ≤ ab ∧ h0.size ≤ ab ∧ Fld Z h ax "java/lang/AbstractStringBuilder" "value" "[B" (.ref ab) ∧ Fld Z h ax "java/lang/AbstractStringBuilder" "coder" "B" (.int (0 : Int32)) ∧ Fld Z h ax "java/lang/AbstractStringBuilder" "count" "I" (.int (0 : Int32)) ∧ Exa Z h ab "[B" ∧ Arv Z h ab kb .byte (16 : Int32) (List.replicate 16 (.int (0 : Int32))) (.int (0 : Int32))
set_option maxRecDepth 65536 in
set_option maxHeartbeats 40000000 in
theorem rm10 (l : Launch) (Z : State) (a0 : Array Value) (hw : ∀ d ∈ tables_1, d.before a0 Z = true) (ws : List Jvm.Cond) (ax : Addr) (pG : Int32) (h0 : Heap) (n0 : Nat) (Z0 : n0 ≤ h0.size) (Eb : Exa Z h0 ax "java/lang/StringBuilder") (Bv : Fld Z h0 ax "java/lang/AbstractStringBuilder" "value" "[B" .null) (Bc : Fld Z h0 ax "java/lang/AbstractStringBuilder" "coder" "B" (.int (0 : Int32))) (Bk : Fld Z h0 ax "java/lang/AbstractStringBuilder" "count" "I" (.int (0 : Int32))) (ga : n0 ≤ ax) (O2 : Sta Z Z.heap "java/lang/String" "COMPACT_STRINGS" "Z" (.int pG)) (hG : ¬ pG = (0 : Int32)) (X00 : Old Z n0 h0) :
    MetFree l (⟨"java/lang/StringBuilder", "<init>", "()V"⟩ : MethodName) (head1 (Jvm.Cond.code (⟨"java/lang/StringBuilder", "<init>", "()V"⟩ : MethodName) jdk_67_method_1_code 1 none :: ws) ({ frames := 2, cells := 1, slots := 16, locals := 25 } : Room)) (fun a U => a = #[(.ref ax)] ∧ Z.Warmed39 U.vm ∧ U.heap = h0) (fun _ _ _ _ _ => True) (fun _ U o U' => ∃ v L, o = .returned v ∧ own_Q10 Z ax pG h0 n0 v U'.heap L ∧ FrameEnd U o U' L ({ frames := 2, cells := 1, slots := 16, locals := 25 } : Room).cells ({ frames := 2, cells := 1, slots := 16, locals := 25 } : Room).slots) := by
  refine MetFree.of_bodySF (plainFor_of_name own_pn10) hisR ?_
  intro p e s m args below meth c s₁ Bd hml0 hP hK
  obtain ⟨rfl, hZ, hh⟩ := hP
  have hx := Bd.exec
  have hby := Bd.bytes
  have hml : c.maxLocals = 1 := hml0
  have hown : s.vm.findClass "java/lang/StringBuilder" = some m.cls := findClass_of_methodNamed Bd.named
  have hnm := (name_of_methodNamed Bd.named Bd.method).1
  have X0 : Stand p l e ({ frames := 2, cells := 1, slots := 16, locals := 25 } : Room) s m #[(.ref ax)] below meth c s₁ [] 0 0 := Stand.of_body Bd
  have e0 : s₁.heap = h0 := by rw [← hh, Bd.state]; rfl
  have N0 := Fr.nil n0
  refine own_pre (A := (s₁.setTop (mkF m 0 #[.val (.ref ax)] []))) (fun t k => castTop (own_ef10 m ax) k) ?_
  refine own_pre (A := (s₁.setTop (mkF m 3 #[.val (.ref ax)] [(.int (16 : Int32)), (.ref ax)]))) ?_ ?_
  · intro t k
    refine XS.aloadN X0.here hx rfl (hb hby d10_0) rfl rfl ?_
    refine XS.bipush X0.here hx rfl (hb hby d10_1) ?_
    exact k
  obtain ⟨_, _, ⟨T68, L68, k68, n68⟩, -, X68, ⟨Lc68, hQ68, l68, y68, z68⟩, st68⟩ := X0.specialBack hx (y := (⟨"java/lang/AbstractStringBuilder", "<init>", "(I)V"⟩ : MethodName)) rfl hown (mvT hZ (own_w hw 54 rfl)) (mvT hZ (own_w hw 55 rfl)) (mvT hZ (own_w hw 59 rfl)) (by decide) (backOf (W := 0) (rm11 l Z a0 hw [] ax pG h0 n0 Z0 Eb Bv Bc Bk ga O2 hG X00) hZ (own_w hw 59 rfl) (own_w hw 58 rfl) (by decide) (by decide)) (g := (mkF m 3 #[.val (.ref ax)] [(.int (16 : Int32)), (.ref ax)])) rfl (by rw [hml]; rfl) (Steps.refl _) (a := ax) (argsL := [(.int (16 : Int32))]) (rest := []) (lenOf own_pd14 rfl) rfl (by show 2 * 0 + _ ≤ _; exact Nat.le_of_eq rfl) (hb hby d10_3) (fun _ _ => ⟨rfl, e0, (by decide : 0 + 1 ≤ _), (by decide : 0 + 16 ≤ _)⟩)
  dsimp only [Pt.U, Pt.locs, Pt.cells, Pt.slots] at X68 l68 y68 z68 st68 hQ68
  replace y68 : _ = 1 := y68
  replace z68 : _ = 16 := z68
  subst y68 z68
  obtain ⟨Nq68, rfl, Kq68, ab68, kq68, gq68, zz68, Bv68, Bc68, Bk68, Ey68, Vq68⟩ := hQ68
  have N68 := own_frl l68 N0 Nq68
  refine own_pre (fun t k => st68.trans k) ?_
  have sz_ab68 : h0.size ≤ ab68 := Nat.le_trans (Keep.refl h0 [ax]).1 zz68
  have Kc68 : Keep h0 T68.heap [ax] := (Keep.refl h0 [ax]).trans Kq68 (allS (Or.inl (List.mem_of_getElem? (i := 0) rfl)) all0)
  obtain ⟨fs, hr, hrun, hended, hW, hsame⟩ := X68.leave (hlocks := BodyLoose.notSynchronized Bd) (v := none) (fun _ => rfl)
  refine ⟨_, _, X68.returnOut hx Bd.returns (hb hby d10_6) hr, hrun, hended, _, _, rfl, ?_, ⟨_, rfl⟩, hW, hsame.mono (by decide) (by decide)⟩
  show own_Q10 Z ax pG h0 n0 _ T68.heap _
  exact ⟨N68, rfl, Kc68, ab68, kq68, gq68, sz_ab68, Bv68, Bc68, Bk68, Ey68, Vq68⟩
theorem d46_0 : decode jdk_29_method_65_code 0 = .ok (.iload_n 0, 1) := by decide +kernel
theorem d46_1 : decode jdk_29_method_65_code 1 = .ok (.iload_n 1, 1) := by decide +kernel
theorem d46_2 : decode jdk_29_method_65_code 2 = .ok (.if_icmp .lt 7, 3) := by decide +kernel
theorem d46_5 : decode jdk_29_method_65_code 5 = .ok (.iload_n 0, 1) := by decide +kernel
theorem d46_6 : decode jdk_29_method_65_code 6 = .ok (.goto 4, 3) := by decide +kernel
theorem d46_9 : decode jdk_29_method_65_code 9 = .ok (.iload_n 1, 1) := by decide +kernel
theorem d46_10 : decode jdk_29_method_65_code 10 = .ok (.ireturn, 1) := by decide +kernel
theorem own_ef46 (m : MethodId) (x0 : Int32) (x1 : Int32) : entryFrame m #[(.int x0), (.int x1)] 2 = mkF m 0 #[.val (.int x0), .val (.int x1)] [] := by first | (simp [entryFrame, mkF, argsToLocals, Value.category]; done) | rfl
def own_Q46 (Z : State) (pd : Int32) (h0 : Heap) (n0 : Nat) (v : Option Value) (h : Heap) (L : List Loc) : Prop := Fr n0 L ∧ v = some (.int (18 : Int32)) ∧ h = h0
set_option maxRecDepth 65536 in
set_option maxHeartbeats 40000000 in
theorem rm46 (l : Launch) (Z : State) (a0 : Array Value) (hw : ∀ d ∈ tables_1, d.before a0 Z = true) (ws : List Jvm.Cond) (pd : Int32) (h0 : Heap) (n0 : Nat) (Z0 : n0 ≤ h0.size) (hd : ¬ (18 : Int32) < pd) :
    MetFree l (⟨"java/lang/Math", "max", "(II)I"⟩ : MethodName) (head1 (Jvm.Cond.code (⟨"java/lang/Math", "max", "(II)I"⟩ : MethodName) jdk_29_method_65_code 2 (some .int) :: ws) ({ frames := 0, cells := 0, slots := 0, locals := 0 } : Room)) (fun a U => a = #[(.int pd), (.int (18 : Int32))] ∧ Z.Warmed39 U.vm ∧ U.heap = h0) (fun _ _ _ _ _ => True) (fun _ U o U' => ∃ v L, o = .returned v ∧ own_Q46 Z pd h0 n0 v U'.heap L ∧ FrameEnd U o U' L ({ frames := 0, cells := 0, slots := 0, locals := 0 } : Room).cells ({ frames := 0, cells := 0, slots := 0, locals := 0 } : Room).slots) := by
  refine MetFree.of_bodySF (Jvm.Free.JP.mathPlain rfl (by decide +kernel)) hisR ?_
  intro p e s m args below meth c s₁ Bd hml0 hP hK
  obtain ⟨rfl, hZ, hh⟩ := hP
  have hx := Bd.exec
  have hby := Bd.bytes
  have hml : c.maxLocals = 2 := hml0
  have hown : s.vm.findClass "java/lang/Math" = some m.cls := findClass_of_methodNamed Bd.named
  have hnm := (name_of_methodNamed Bd.named Bd.method).1
  have X0 : Stand p l e ({ frames := 0, cells := 0, slots := 0, locals := 0 } : Room) s m #[(.int pd), (.int (18 : Int32))] below meth c s₁ [] 0 0 := Stand.of_body Bd
  have e0 : s₁.heap = h0 := by rw [← hh, Bd.state]; rfl
  have N0 := Fr.nil n0
  refine own_pre (A := (s₁.setTop (mkF m 0 #[.val (.int pd), .val (.int (18 : Int32))] []))) (fun t k => castTop (own_ef46 m pd (18 : Int32)) k) ?_
  refine own_pre (A := (s₁.setTop (mkF m 2 #[.val (.int pd), .val (.int (18 : Int32))] [(.int (18 : Int32)), (.int pd)]))) ?_ ?_
  · intro t k
    refine XS.iloadN X0.here hx rfl (hb hby d46_0) rfl ?_
    refine XS.iloadN X0.here hx rfl (hb hby d46_1) rfl ?_
    exact k
  by_cases hc69 : pd < (18 : Int32)
  · skip
    refine own_pre (A := (s₁.setTop (mkF m 9 #[.val (.int pd), .val (.int (18 : Int32))] []))) ?_ ?_
    · intro t k
      refine XS.icmpYes X0.here hx rfl (pc0 := 2) (pc' := 9) rfl (hb hby d46_2) rfl (tlt hc69).1 (by decide) (by decide) ?_
      exact k
    refine own_pre (A := (s₁.setTop (mkF m 10 #[.val (.int pd), .val (.int (18 : Int32))] [(.int (18 : Int32))]))) ?_ ?_
    · intro t k
      refine XS.iloadN X0.here hx rfl (hb hby d46_9) rfl ?_
      exact k
    obtain ⟨fs, hr, hrun, hended, hW, hsame⟩ := X0.leave (hlocks := BodyLoose.notSynchronized Bd) (v := some (.int (18 : Int32))) (fun h => by rw [Bd.returns] at h; cases h)
    refine ⟨_, _, retOut X0 hx Bd.returns rfl (Or.inl ⟨rfl, Or.inl rfl, _, rfl⟩) (hb hby d46_10) hr, hrun, hended, _, _, rfl, ?_, ⟨_, rfl⟩, hW, hsame.mono (by decide) (by decide)⟩
    show own_Q46 Z pd h0 n0 _ s₁.heap _
    rw [e0]
    exact ⟨N0, rfl, rfl⟩
  · skip
    refine own_pre (A := (s₁.setTop (mkF m 5 #[.val (.int pd), .val (.int (18 : Int32))] []))) ?_ ?_
    · intro t k
      refine XS.icmpNo X0.here hx rfl (hb hby d46_2) rfl (flt hc69).1 ?_
      exact k
    refine own_pre (A := (s₁.setTop (mkF m 10 #[.val (.int pd), .val (.int (18 : Int32))] [(.int pd)]))) ?_ ?_
    · intro t k
      refine XS.iloadN X0.here hx rfl (hb hby d46_5) rfl ?_
      refine XS.goto X0.here hx rfl (pc0 := 6) (pc' := 10) rfl (hb hby d46_6) (by decide) (by decide) ?_
      exact k
    obtain ⟨fs, hr, hrun, hended, hW, hsame⟩ := X0.leave (hlocks := BodyLoose.notSynchronized Bd) (v := some (.int pd)) (fun h => by rw [Bd.returns] at h; cases h)
    refine ⟨_, _, retOut X0 hx Bd.returns rfl (Or.inl ⟨rfl, Or.inl rfl, _, rfl⟩) (hb hby d46_10) hr, hrun, hended, _, _, rfl, ?_, ⟨_, rfl⟩, hW, hsame.mono (by decide) (by decide)⟩
    show own_Q46 Z pd h0 n0 _ s₁.heap _
    rw [e0]
    exact ⟨N0, (by rw [own_eqi hc69 hd]), rfl⟩
theorem d45_0 : decode jdk_48_method_27_code 0 = .ok (.iload_n 0, 1) := by decide +kernel
theorem d45_1 : decode jdk_48_method_27_code 1 = .ok (.iload_n 1, 1) := by decide +kernel
theorem d45_2 : decode jdk_48_method_27_code 2 = .ok (.iload_n 2, 1) := by decide +kernel
theorem d45_3 : decode jdk_48_method_27_code 3 = .ok (.invokestatic 194, 3) := by decide +kernel
theorem d45_6 : decode jdk_48_method_27_code 6 = .ok (.iadd, 1) := by decide +kernel
theorem d45_7 : decode jdk_48_method_27_code 7 = .ok (.istore_n 3, 1) := by decide +kernel
theorem d45_8 : decode jdk_48_method_27_code 8 = .ok (.iconst 0, 1) := by decide +kernel
theorem d45_9 : decode jdk_48_method_27_code 9 = .ok (.iload_n 3, 1) := by decide +kernel
theorem d45_10 : decode jdk_48_method_27_code 10 = .ok (.if_icmp .ge 11, 3) := by decide +kernel
theorem d45_13 : decode jdk_48_method_27_code 13 = .ok (.iload_n 3, 1) := by decide +kernel
theorem d45_14 : decode jdk_48_method_27_code 14 = .ok (.ldc 200, 2) := by decide +kernel
theorem d45_16 : decode jdk_48_method_27_code 16 = .ok (.if_icmp .gt 5, 3) := by decide +kernel
theorem d45_19 : decode jdk_48_method_27_code 19 = .ok (.iload_n 3, 1) := by decide +kernel
theorem d45_20 : decode jdk_48_method_27_code 20 = .ok (.ireturn, 1) := by decide +kernel
theorem own_pn45 : plainName "jdk/internal/util/ArraysSupport" = true := by first | (simp [plainName, overriddenIn]; done) | decide +kernel
theorem own_ef45 (m : MethodId) (x0 : Int32) (x1 : Int32) (x2 : Int32) : entryFrame m #[(.int x0), (.int x1), (.int x2)] 4 = mkF m 0 #[.val (.int x0), .val (.int x1), .val (.int x2), .unset] [] := by first | (simp [entryFrame, mkF, argsToLocals, Value.category]; done) | rfl
def own_Q45 (Z : State) (pd : Int32) (h0 : Heap) (n0 : Nat) (v : Option Value) (h : Heap) (L : List Loc) : Prop := Fr n0 L ∧ v = some (.int (34 : Int32)) ∧ h = h0
set_option maxRecDepth 65536 in
set_option maxHeartbeats 40000000 in
theorem rm45 (l : Launch) (Z : State) (a0 : Array Value) (hw : ∀ d ∈ tables_1, d.before a0 Z = true) (ws : List Jvm.Cond) (pd : Int32) (h0 : Heap) (n0 : Nat) (Z0 : n0 ≤ h0.size) (hd : ¬ (18 : Int32) < pd) :
    MetFree l (⟨"jdk/internal/util/ArraysSupport", "newLength", "(III)I"⟩ : MethodName) (head1 (Jvm.Cond.code (⟨"jdk/internal/util/ArraysSupport", "newLength", "(III)I"⟩ : MethodName) jdk_48_method_27_code 4 (some .int) :: ws) ({ frames := 1, cells := 0, slots := 0, locals := 14 } : Room)) (fun a U => a = #[(.int (16 : Int32)), (.int pd), (.int (18 : Int32))] ∧ Z.Warmed39 U.vm ∧ U.heap = h0) (fun _ _ _ _ _ => True) (fun _ U o U' => ∃ v L, o = .returned v ∧ own_Q45 Z pd h0 n0 v U'.heap L ∧ FrameEnd U o U' L ({ frames := 1, cells := 0, slots := 0, locals := 14 } : Room).cells ({ frames := 1, cells := 0, slots := 0, locals := 14 } : Room).slots) := by
  refine MetFree.of_bodySF (plainFor_of_name own_pn45) hisR ?_
  intro p e s m args below meth c s₁ Bd hml0 hP hK
  obtain ⟨rfl, hZ, hh⟩ := hP
  have hx := Bd.exec
  have hby := Bd.bytes
  have hml : c.maxLocals = 4 := hml0
  have hown : s.vm.findClass "jdk/internal/util/ArraysSupport" = some m.cls := findClass_of_methodNamed Bd.named
  have hnm := (name_of_methodNamed Bd.named Bd.method).1
  have X0 : Stand p l e ({ frames := 1, cells := 0, slots := 0, locals := 14 } : Room) s m #[(.int (16 : Int32)), (.int pd), (.int (18 : Int32))] below meth c s₁ [] 0 0 := Stand.of_body Bd
  have e0 : s₁.heap = h0 := by rw [← hh, Bd.state]; rfl
  have N0 := Fr.nil n0
  refine own_pre (A := (s₁.setTop (mkF m 0 #[.val (.int (16 : Int32)), .val (.int pd), .val (.int (18 : Int32)), .unset] []))) (fun t k => castTop (own_ef45 m (16 : Int32) pd (18 : Int32)) k) ?_
  refine own_pre (A := (s₁.setTop (mkF m 3 #[.val (.int (16 : Int32)), .val (.int pd), .val (.int (18 : Int32)), .unset] [(.int (18 : Int32)), (.int pd), (.int (16 : Int32))]))) ?_ ?_
  · intro t k
    refine XS.iloadN X0.here hx rfl (hb hby d45_0) rfl ?_
    refine XS.iloadN X0.here hx rfl (hb hby d45_1) rfl ?_
    refine XS.iloadN X0.here hx rfl (hb hby d45_2) rfl ?_
    exact k
  obtain ⟨_, _, ⟨T70, L70, k70, n70⟩, -, X70, ⟨Lc70, hQ70, l70, y70, z70⟩, st70⟩ := Jvm.LawKit.callS X0 hx (y := (⟨"java/lang/Math", "max", "(II)I"⟩ : MethodName)) hown (mvT hZ (own_w hw 264 rfl)) (mvT hZ (own_w hw 265 rfl)) (mvT hZ (own_w hw 266 rfl)) (mvT hZ (own_w hw 267 rfl)) (by decide) (backOf (W := 1) (rm46 l Z a0 hw [] pd h0 n0 Z0 hd) hZ (own_w hw 267 rfl) (own_w hw 266 rfl) (by decide) (by decide)) (g := (mkF m 3 #[.val (.int (16 : Int32)), .val (.int pd), .val (.int (18 : Int32)), .unset] [(.int (18 : Int32)), (.int pd), (.int (16 : Int32))])) rfl (by rw [hml]; rfl) (argsL := [(.int pd), (.int (18 : Int32))]) (rest := [(.int (16 : Int32))]) (lenOf own_pd15 rfl) rfl (by show 2 * 0 + _ ≤ _; exact Nat.le_of_eq rfl) (hb hby d45_3) (fun _ _ => ⟨rfl, e0, (by decide : 0 + 0 ≤ _), (by decide : 0 + 0 ≤ _)⟩)
  dsimp only [Pt.U, Pt.locs, Pt.cells, Pt.slots] at X70 l70 y70 z70 st70 hQ70
  replace y70 : _ = 0 := y70
  replace z70 : _ = 0 := z70
  subst y70 z70
  obtain ⟨Nq70, rfl, eq70⟩ := hQ70
  have N70 := own_frl l70 N0 Nq70
  refine own_pre (fun t k => st70 t k) ?_
  refine own_pre (A := (T70.setTop (mkF m 20 #[.val (.int (16 : Int32)), .val (.int pd), .val (.int (18 : Int32)), .val (.int (34 : Int32))] [(.int (34 : Int32))]))) ?_ ?_
  · intro t k
    refine XS.iadd X70.here hx rfl (hb hby d45_6) rfl ?_
    show Steps p.tables e below (T70.setTop (mkF m 7 #[.val (.int (16 : Int32)), .val (.int pd), .val (.int (18 : Int32)), .unset] [(.int ((16 : Int32) + (18 : Int32)))])) _
    rw [show ((16 : Int32) + (18 : Int32)) = (34 : Int32) from by decide]
    refine XS.istoreN X70.here hx rfl (hb hby d45_7) rfl (l' := #[.val (.int (16 : Int32)), .val (.int pd), .val (.int (18 : Int32)), .val (.int (34 : Int32))]) rfl ?_
    refine XS.iconst X70.here hx rfl (hb hby d45_8) ?_
    refine XS.iloadN X70.here hx rfl (hb hby d45_9) rfl ?_
    refine XS.icmpNo X70.here hx rfl (hb hby d45_10) rfl (tlt (by decide : (0 : Int32) < (34 : Int32))).2.1 ?_
    refine XS.iloadN X70.here hx rfl (hb hby d45_13) rfl ?_
    show Steps p.tables e below (T70.setTop (mkF m 14 #[.val (.int (16 : Int32)), .val (.int pd), .val (.int (18 : Int32)), .val (.int (34 : Int32))] [(.int (34 : Int32))])) _
    refine X70.ldcInt hx hown (mvT hZ (own_w hw 268 rfl)) (g := (mkF m 14 #[.val (.int (16 : Int32)), .val (.int pd), .val (.int (18 : Int32)), .val (.int (34 : Int32))] [(.int (34 : Int32))])) rfl (hb hby d45_14) _ ?_
    refine XS.icmpNo X70.here hx rfl (hb hby d45_16) rfl (flt (by decide : ¬ ((2147483639 : Int32) < (34 : Int32)))).2.2.1 ?_
    refine XS.iloadN X70.here hx rfl (hb hby d45_19) rfl ?_
    exact k
  obtain ⟨fs, hr, hrun, hended, hW, hsame⟩ := X70.leave (hlocks := BodyLoose.notSynchronized Bd) (v := some (.int (34 : Int32))) (fun h => by rw [Bd.returns] at h; cases h)
  refine ⟨_, _, retOut X70 hx Bd.returns rfl (Or.inl ⟨rfl, Or.inl rfl, _, rfl⟩) (hb hby d45_20) hr, hrun, hended, _, _, rfl, ?_, ⟨_, rfl⟩, hW, hsame.mono (by decide) (by decide)⟩
  show own_Q45 Z pd h0 n0 _ T70.heap _
  rw [eq70]
  exact ⟨N70, rfl, rfl⟩
theorem d44_0 : decode jdk_68_method_10_code 0 = .ok (.aload_n 0, 1) := by decide +kernel
theorem d44_1 : decode jdk_68_method_10_code 1 = .ok (.getfield 15, 3) := by decide +kernel
theorem d44_4 : decode jdk_68_method_10_code 4 = .ok (.arraylength, 1) := by decide +kernel
theorem d44_5 : decode jdk_68_method_10_code 5 = .ok (.istore_n 2, 1) := by decide +kernel
theorem d44_6 : decode jdk_68_method_10_code 6 = .ok (.iload_n 1, 1) := by decide +kernel
theorem d44_7 : decode jdk_68_method_10_code 7 = .ok (.aload_n 0, 1) := by decide +kernel
theorem d44_8 : decode jdk_68_method_10_code 8 = .ok (.getfield 22, 3) := by decide +kernel
theorem d44_11 : decode jdk_68_method_10_code 11 = .ok (.ishl, 1) := by decide +kernel
theorem d44_12 : decode jdk_68_method_10_code 12 = .ok (.istore_n 3, 1) := by decide +kernel
theorem d44_13 : decode jdk_68_method_10_code 13 = .ok (.iload_n 3, 1) := by decide +kernel
theorem d44_14 : decode jdk_68_method_10_code 14 = .ok (.iload_n 2, 1) := by decide +kernel
theorem d44_15 : decode jdk_68_method_10_code 15 = .ok (.isub, 1) := by decide +kernel
theorem d44_16 : decode jdk_68_method_10_code 16 = .ok (.istore 4, 2) := by decide +kernel
theorem d44_18 : decode jdk_68_method_10_code 18 = .ok (.iload_n 2, 1) := by decide +kernel
theorem d44_19 : decode jdk_68_method_10_code 19 = .ok (.iload 4, 2) := by decide +kernel
theorem d44_21 : decode jdk_68_method_10_code 21 = .ok (.iload_n 2, 1) := by decide +kernel
theorem d44_22 : decode jdk_68_method_10_code 22 = .ok (.iconst 2, 1) := by decide +kernel
theorem d44_23 : decode jdk_68_method_10_code 23 = .ok (.aload_n 0, 1) := by decide +kernel
theorem d44_24 : decode jdk_68_method_10_code 24 = .ok (.getfield 22, 3) := by decide +kernel
theorem d44_27 : decode jdk_68_method_10_code 27 = .ok (.ishl, 1) := by decide +kernel
theorem d44_28 : decode jdk_68_method_10_code 28 = .ok (.iadd, 1) := by decide +kernel
theorem d44_29 : decode jdk_68_method_10_code 29 = .ok (.invokestatic 114, 3) := by decide +kernel
theorem d44_32 : decode jdk_68_method_10_code 32 = .ok (.istore 5, 2) := by decide +kernel
theorem d44_34 : decode jdk_68_method_10_code 34 = .ok (.iload 5, 2) := by decide +kernel
theorem d44_36 : decode jdk_68_method_10_code 36 = .ok (.ldc 39, 2) := by decide +kernel
theorem d44_38 : decode jdk_68_method_10_code 38 = .ok (.if_icmp .ne 13, 3) := by decide +kernel
theorem d44_51 : decode jdk_68_method_10_code 51 = .ok (.iload 5, 2) := by decide +kernel
theorem d44_53 : decode jdk_68_method_10_code 53 = .ok (.aload_n 0, 1) := by decide +kernel
theorem d44_54 : decode jdk_68_method_10_code 54 = .ok (.getfield 22, 3) := by decide +kernel
theorem d44_57 : decode jdk_68_method_10_code 57 = .ok (.ishr, 1) := by decide +kernel
theorem d44_58 : decode jdk_68_method_10_code 58 = .ok (.ireturn, 1) := by decide +kernel
theorem own_pn44 : plainName "java/lang/AbstractStringBuilder" = true := by first | (simp [plainName, overriddenIn]; done) | decide +kernel
theorem own_ef44 (m : MethodId) (x0 : Addr) (x1 : Int32) : entryFrame m #[(.ref x0), (.int x1)] 6 = mkF m 0 #[.val (.ref x0), .val (.int x1), .unset, .unset, .unset, .unset] [] := by first | (simp [entryFrame, mkF, argsToLocals, Value.category]; done) | rfl
def own_Q44 (Z : State) (ax : Addr) (pm : Int32) (ab : Addr) (kb : ClassId) (wv : List Value) (h0 : Heap) (n0 : Nat) (v : Option Value) (h : Heap) (L : List Loc) : Prop := Fr n0 L ∧ v = some (.int (34 : Int32)) ∧ h = h0
set_option maxRecDepth 65536 in
set_option maxHeartbeats 40000000 in
theorem rm44 (l : Launch) (Z : State) (a0 : Array Value) (hw : ∀ d ∈ tables_1, d.before a0 Z = true) (ws : List Jvm.Cond) (ax : Addr) (pm : Int32) (ab : Addr) (kb : ClassId) (wv : List Value) (h0 : Heap) (n0 : Nat) (Z0 : n0 ≤ h0.size) (Eb : Exa Z h0 ax "java/lang/StringBuilder") (Bv : Fld Z h0 ax "java/lang/AbstractStringBuilder" "value" "[B" (.ref ab)) (Bc : Fld Z h0 ax "java/lang/AbstractStringBuilder" "coder" "B" (.int (0 : Int32))) (Vb : Arv Z h0 ab kb .byte (16 : Int32) wv (.int (0 : Int32))) (hpm : ¬ pm < 0 ∧ pm.toNatClampNeg ≤ 34) :
    MetFree l (⟨"java/lang/AbstractStringBuilder", "newCapacity", "(I)I"⟩ : MethodName) (head1 (Jvm.Cond.code (⟨"java/lang/AbstractStringBuilder", "newCapacity", "(I)I"⟩ : MethodName) jdk_68_method_10_code 6 (some .int) :: ws) ({ frames := 2, cells := 0, slots := 0, locals := 29 } : Room)) (fun a U => a = #[(.ref ax), (.int pm)] ∧ Z.Warmed39 U.vm ∧ U.heap = h0) (fun _ _ _ _ _ => True) (fun _ U o U' => ∃ v L, o = .returned v ∧ own_Q44 Z ax pm ab kb wv h0 n0 v U'.heap L ∧ FrameEnd U o U' L ({ frames := 2, cells := 0, slots := 0, locals := 29 } : Room).cells ({ frames := 2, cells := 0, slots := 0, locals := 29 } : Room).slots) := by
  refine MetFree.of_bodySF (plainFor_of_name own_pn44) hisR ?_
  intro p e s m args below meth c s₁ Bd hml0 hP hK
  obtain ⟨rfl, hZ, hh⟩ := hP
  have hx := Bd.exec
  have hby := Bd.bytes
  have hml : c.maxLocals = 6 := hml0
  have hown : s.vm.findClass "java/lang/AbstractStringBuilder" = some m.cls := findClass_of_methodNamed Bd.named
  have hnm := (name_of_methodNamed Bd.named Bd.method).1
  have X0 : Stand p l e ({ frames := 2, cells := 0, slots := 0, locals := 29 } : Room) s m #[(.ref ax), (.int pm)] below meth c s₁ [] 0 0 := Stand.of_body Bd
  have e0 : s₁.heap = h0 := by rw [← hh, Bd.state]; rfl
  have N0 := Fr.nil n0
  refine own_pre (A := (s₁.setTop (mkF m 0 #[.val (.ref ax), .val (.int pm), .unset, .unset, .unset, .unset] []))) (fun t k => castTop (own_ef44 m ax pm) k) ?_
  refine own_pre (A := (s₁.setTop (mkF m 1 #[.val (.ref ax), .val (.int pm), .unset, .unset, .unset, .unset] [(.ref ax)]))) ?_ ?_
  · intro t k
    refine XS.aloadN X0.here hx rfl (hb hby d44_0) rfl rfl ?_
    exact k
  obtain ⟨T71, X71, e71, st71⟩ := getF X0 hx hZ hown (host := "") (Or.inl (own_w hw 62 rfl)) Via.refl e0 Bv (g := (mkF m 1 #[.val (.ref ax), .val (.int pm), .unset, .unset, .unset, .unset] [(.ref ax)])) rfl rfl (hb hby d44_1)
  refine own_pre (fun t k => st71 t k) ?_
  refine own_pre (A := (T71.setTop (mkF m 8 #[.val (.ref ax), .val (.int pm), .val (.int (16 : Int32)), .unset, .unset, .unset] [(.ref ax), (.int pm)]))) ?_ ?_
  · intro t k
    show Steps p.tables e below (T71.setTop (mkF m 4 #[.val (.ref ax), .val (.int pm), .unset, .unset, .unset, .unset] [(.ref ab)])) _
    obtain ⟨cl72, Ar72, -, S72, N72, -, -⟩ := id Vb
    refine X71.arraylength hx (by rw [e71]; exact Ar72.1) (State.isArrayOf_alike hZ.alike Ar72.2.1) (g := (mkF m 4 #[.val (.ref ax), .val (.int pm), .unset, .unset, .unset, .unset] [(.ref ab)])) rfl rfl (hb hby d44_4) _ ?_
    rw [len_of S72 N72]
    refine XS.istoreN X71.here hx rfl (hb hby d44_5) rfl (l' := #[.val (.ref ax), .val (.int pm), .val (.int (16 : Int32)), .unset, .unset, .unset]) rfl ?_
    refine XS.iloadN X71.here hx rfl (hb hby d44_6) rfl ?_
    refine XS.aloadN X71.here hx rfl (hb hby d44_7) rfl rfl ?_
    exact k
  obtain ⟨T73, X73, e73, st73⟩ := getF X71 hx hZ hown (host := "") (Or.inl (own_w hw 64 rfl)) Via.refl e71 Bc (g := (mkF m 8 #[.val (.ref ax), .val (.int pm), .val (.int (16 : Int32)), .unset, .unset, .unset] [(.ref ax), (.int pm)])) rfl rfl (hb hby d44_8)
  refine own_pre (fun t k => st73 t k) ?_
  refine own_pre (A := (T73.setTop (mkF m 24 #[.val (.ref ax), .val (.int pm), .val (.int (16 : Int32)), .val (.int pm), .val (.int (pm - (16 : Int32))), .unset] [(.ref ax), (.int (2 : Int32)), (.int (16 : Int32)), (.int (pm - (16 : Int32))), (.int (16 : Int32))]))) ?_ ?_
  · intro t k
    refine XS.ishl X73.here hx rfl (hb hby d44_11) rfl ?_
    show Steps p.tables e below (T73.setTop (mkF m 12 #[.val (.ref ax), .val (.int pm), .val (.int (16 : Int32)), .unset, .unset, .unset] [(.int (pm <<< ((0 : Int32) &&& 31)))])) _
    rw [own_shl0 pm]
    refine XS.istoreN X73.here hx rfl (hb hby d44_12) rfl (l' := #[.val (.ref ax), .val (.int pm), .val (.int (16 : Int32)), .val (.int pm), .unset, .unset]) rfl ?_
    refine XS.iloadN X73.here hx rfl (hb hby d44_13) rfl ?_
    refine XS.iloadN X73.here hx rfl (hb hby d44_14) rfl ?_
    refine XS.isub X73.here hx rfl (hb hby d44_15) rfl ?_
    refine XS.istore X73.here hx rfl (hb hby d44_16) rfl (l' := #[.val (.ref ax), .val (.int pm), .val (.int (16 : Int32)), .val (.int pm), .val (.int (pm - (16 : Int32))), .unset]) rfl ?_
    refine XS.iloadN X73.here hx rfl (hb hby d44_18) rfl ?_
    refine XS.iload X73.here hx rfl (hb hby d44_19) rfl ?_
    refine XS.iloadN X73.here hx rfl (hb hby d44_21) rfl ?_
    refine XS.iconst X73.here hx rfl (hb hby d44_22) ?_
    refine XS.aloadN X73.here hx rfl (hb hby d44_23) rfl rfl ?_
    exact k
  obtain ⟨T74, X74, e74, st74⟩ := getF X73 hx hZ hown (host := "") (Or.inl (own_w hw 64 rfl)) Via.refl e73 Bc (g := (mkF m 24 #[.val (.ref ax), .val (.int pm), .val (.int (16 : Int32)), .val (.int pm), .val (.int (pm - (16 : Int32))), .unset] [(.ref ax), (.int (2 : Int32)), (.int (16 : Int32)), (.int (pm - (16 : Int32))), (.int (16 : Int32))])) rfl rfl (hb hby d44_24)
  refine own_pre (fun t k => st74 t k) ?_
  refine own_pre (A := (T74.setTop (mkF m 29 #[.val (.ref ax), .val (.int pm), .val (.int (16 : Int32)), .val (.int pm), .val (.int (pm - (16 : Int32))), .unset] [(.int (18 : Int32)), (.int (pm - (16 : Int32))), (.int (16 : Int32))]))) ?_ ?_
  · intro t k
    refine XS.ishl X74.here hx rfl (hb hby d44_27) rfl ?_
    show Steps p.tables e below (T74.setTop (mkF m 28 #[.val (.ref ax), .val (.int pm), .val (.int (16 : Int32)), .val (.int pm), .val (.int (pm - (16 : Int32))), .unset] [(.int ((2 : Int32) <<< ((0 : Int32) &&& 31))), (.int (16 : Int32)), (.int (pm - (16 : Int32))), (.int (16 : Int32))])) _
    rw [show ((2 : Int32) <<< ((0 : Int32) &&& 31)) = (2 : Int32) from by decide]
    refine XS.iadd X74.here hx rfl (hb hby d44_28) rfl ?_
    show Steps p.tables e below (T74.setTop (mkF m 29 #[.val (.ref ax), .val (.int pm), .val (.int (16 : Int32)), .val (.int pm), .val (.int (pm - (16 : Int32))), .unset] [(.int ((16 : Int32) + (2 : Int32))), (.int (pm - (16 : Int32))), (.int (16 : Int32))])) _
    rw [show ((16 : Int32) + (2 : Int32)) = (18 : Int32) from by decide]
    exact k
  obtain ⟨_, _, ⟨T75, L75, k75, n75⟩, -, X75, ⟨Lc75, hQ75, l75, y75, z75⟩, st75⟩ := Jvm.LawKit.callS X74 hx (y := (⟨"jdk/internal/util/ArraysSupport", "newLength", "(III)I"⟩ : MethodName)) hown (mvT hZ (own_w hw 260 rfl)) (mvT hZ (own_w hw 261 rfl)) (mvT hZ (own_w hw 262 rfl)) (mvT hZ (own_w hw 263 rfl)) (by decide) (backOf (W := 0) (rm45 l Z a0 hw [] (pm - (16 : Int32)) h0 n0 Z0 (own_maxp hpm)) hZ (own_w hw 263 rfl) (own_w hw 262 rfl) (by decide) (by decide)) (g := (mkF m 29 #[.val (.ref ax), .val (.int pm), .val (.int (16 : Int32)), .val (.int pm), .val (.int (pm - (16 : Int32))), .unset] [(.int (18 : Int32)), (.int (pm - (16 : Int32))), (.int (16 : Int32))])) rfl (by rw [hml]; rfl) (argsL := [(.int (16 : Int32)), (.int (pm - (16 : Int32))), (.int (18 : Int32))]) (rest := []) (lenOf own_pd16 rfl) rfl (by show 2 * 0 + _ ≤ _; exact Nat.le_of_eq rfl) (hb hby d44_29) (fun _ _ => ⟨rfl, e74, (by decide : 0 + 0 ≤ _), (by decide : 0 + 0 ≤ _)⟩)
  dsimp only [Pt.U, Pt.locs, Pt.cells, Pt.slots] at X75 l75 y75 z75 st75 hQ75
  replace y75 : _ = 0 := y75
  replace z75 : _ = 0 := z75
  subst y75 z75
  obtain ⟨Nq75, rfl, eq75⟩ := hQ75
  have N75 := own_frl l75 N0 Nq75
  refine own_pre (fun t k => st75 t k) ?_
  refine own_pre (A := (T75.setTop (mkF m 54 #[.val (.ref ax), .val (.int pm), .val (.int (16 : Int32)), .val (.int pm), .val (.int (pm - (16 : Int32))), .val (.int (34 : Int32))] [(.ref ax), (.int (34 : Int32))]))) ?_ ?_
  · intro t k
    refine XS.istore X75.here hx rfl (hb hby d44_32) rfl (l' := #[.val (.ref ax), .val (.int pm), .val (.int (16 : Int32)), .val (.int pm), .val (.int (pm - (16 : Int32))), .val (.int (34 : Int32))]) rfl ?_
    refine XS.iload X75.here hx rfl (hb hby d44_34) rfl ?_
    show Steps p.tables e below (T75.setTop (mkF m 36 #[.val (.ref ax), .val (.int pm), .val (.int (16 : Int32)), .val (.int pm), .val (.int (pm - (16 : Int32))), .val (.int (34 : Int32))] [(.int (34 : Int32))])) _
    refine X75.ldcInt hx hown (mvT hZ (own_w hw 269 rfl)) (g := (mkF m 36 #[.val (.ref ax), .val (.int pm), .val (.int (16 : Int32)), .val (.int pm), .val (.int (pm - (16 : Int32))), .val (.int (34 : Int32))] [(.int (34 : Int32))])) rfl (hb hby d44_36) _ ?_
    refine XS.icmpYes X75.here hx rfl (pc0 := 38) (pc' := 51) rfl (hb hby d44_38) rfl (feq (by decide : ¬ ((34 : Int32) = (2147483647 : Int32)))).2 (by decide) (by decide) ?_
    refine XS.iload X75.here hx rfl (hb hby d44_51) rfl ?_
    refine XS.aloadN X75.here hx rfl (hb hby d44_53) rfl rfl ?_
    exact k
  obtain ⟨T76, X76, e76, st76⟩ := getF X75 hx hZ hown (host := "") (Or.inl (own_w hw 64 rfl)) Via.refl eq75 Bc (g := (mkF m 54 #[.val (.ref ax), .val (.int pm), .val (.int (16 : Int32)), .val (.int pm), .val (.int (pm - (16 : Int32))), .val (.int (34 : Int32))] [(.ref ax), (.int (34 : Int32))])) rfl rfl (hb hby d44_54)
  refine own_pre (fun t k => st76 t k) ?_
  refine own_pre (A := (T76.setTop (mkF m 58 #[.val (.ref ax), .val (.int pm), .val (.int (16 : Int32)), .val (.int pm), .val (.int (pm - (16 : Int32))), .val (.int (34 : Int32))] [(.int (34 : Int32))]))) ?_ ?_
  · intro t k
    refine XS.ishr X76.here hx rfl (hb hby d44_57) rfl ?_
    show Steps p.tables e below (T76.setTop (mkF m 58 #[.val (.ref ax), .val (.int pm), .val (.int (16 : Int32)), .val (.int pm), .val (.int (pm - (16 : Int32))), .val (.int (34 : Int32))] [(.int ((34 : Int32) >>> ((0 : Int32) &&& 31)))])) _
    rw [show ((34 : Int32) >>> ((0 : Int32) &&& 31)) = (34 : Int32) from by decide]
    exact k
  obtain ⟨fs, hr, hrun, hended, hW, hsame⟩ := X76.leave (hlocks := BodyLoose.notSynchronized Bd) (v := some (.int (34 : Int32))) (fun h => by rw [Bd.returns] at h; cases h)
  refine ⟨_, _, retOut X76 hx Bd.returns rfl (Or.inl ⟨rfl, Or.inl rfl, _, rfl⟩) (hb hby d44_58) hr, hrun, hended, _, _, rfl, ?_, ⟨_, rfl⟩, hW, hsame.mono (by decide) (by decide)⟩
  show own_Q44 Z ax pm ab kb wv h0 n0 _ T76.heap _
  rw [e76]
  exact ⟨N75, rfl, rfl⟩
theorem d48_0 : decode jdk_29_method_69_code 0 = .ok (.iload_n 0, 1) := by decide +kernel
theorem d48_1 : decode jdk_29_method_69_code 1 = .ok (.iload_n 1, 1) := by decide +kernel
theorem d48_2 : decode jdk_29_method_69_code 2 = .ok (.if_icmp .gt 7, 3) := by decide +kernel
theorem d48_5 : decode jdk_29_method_69_code 5 = .ok (.iload_n 0, 1) := by decide +kernel
theorem d48_6 : decode jdk_29_method_69_code 6 = .ok (.goto 4, 3) := by decide +kernel
theorem d48_9 : decode jdk_29_method_69_code 9 = .ok (.iload_n 1, 1) := by decide +kernel
theorem d48_10 : decode jdk_29_method_69_code 10 = .ok (.ireturn, 1) := by decide +kernel
theorem own_ef48 (m : MethodId) (x0 : Int32) (x1 : Int32) : entryFrame m #[(.int x0), (.int x1)] 2 = mkF m 0 #[.val (.int x0), .val (.int x1)] [] := by first | (simp [entryFrame, mkF, argsToLocals, Value.category]; done) | rfl
def own_Q48 (Z : State) (pa : Int32) (pb : Int32) (pr : Int32) (h0 : Heap) (n0 : Nat) (v : Option Value) (h : Heap) (L : List Loc) : Prop := Fr n0 L ∧ v = some (.int pr) ∧ h = h0
set_option maxRecDepth 65536 in
set_option maxHeartbeats 40000000 in
theorem rm48 (l : Launch) (Z : State) (a0 : Array Value) (hw : ∀ d ∈ tables_1, d.before a0 Z = true) (ws : List Jvm.Cond) (pa : Int32) (pb : Int32) (pr : Int32) (h0 : Heap) (n0 : Nat) (Z0 : n0 ≤ h0.size) (h1 : pb < pa → pb = pr) (h2 : ¬ pb < pa → pa = pr) :
    MetFree l (⟨"java/lang/Math", "min", "(II)I"⟩ : MethodName) (head1 (Jvm.Cond.code (⟨"java/lang/Math", "min", "(II)I"⟩ : MethodName) jdk_29_method_69_code 2 (some .int) :: ws) ({ frames := 0, cells := 0, slots := 0, locals := 0 } : Room)) (fun a U => a = #[(.int pa), (.int pb)] ∧ Z.Warmed39 U.vm ∧ U.heap = h0) (fun _ _ _ _ _ => True) (fun _ U o U' => ∃ v L, o = .returned v ∧ own_Q48 Z pa pb pr h0 n0 v U'.heap L ∧ FrameEnd U o U' L ({ frames := 0, cells := 0, slots := 0, locals := 0 } : Room).cells ({ frames := 0, cells := 0, slots := 0, locals := 0 } : Room).slots) := by
  refine MetFree.of_bodySF (Jvm.Free.JP.mathPlain rfl (by decide +kernel)) hisR ?_
  intro p e s m args below meth c s₁ Bd hml0 hP hK
  obtain ⟨rfl, hZ, hh⟩ := hP
  have hx := Bd.exec
  have hby := Bd.bytes
  have hml : c.maxLocals = 2 := hml0
  have hown : s.vm.findClass "java/lang/Math" = some m.cls := findClass_of_methodNamed Bd.named
  have hnm := (name_of_methodNamed Bd.named Bd.method).1
  have X0 : Stand p l e ({ frames := 0, cells := 0, slots := 0, locals := 0 } : Room) s m #[(.int pa), (.int pb)] below meth c s₁ [] 0 0 := Stand.of_body Bd
  have e0 : s₁.heap = h0 := by rw [← hh, Bd.state]; rfl
  have N0 := Fr.nil n0
  refine own_pre (A := (s₁.setTop (mkF m 0 #[.val (.int pa), .val (.int pb)] []))) (fun t k => castTop (own_ef48 m pa pb) k) ?_
  refine own_pre (A := (s₁.setTop (mkF m 2 #[.val (.int pa), .val (.int pb)] [(.int pb), (.int pa)]))) ?_ ?_
  · intro t k
    refine XS.iloadN X0.here hx rfl (hb hby d48_0) rfl ?_
    refine XS.iloadN X0.here hx rfl (hb hby d48_1) rfl ?_
    exact k
  by_cases hc77 : pb < pa
  · skip
    refine own_pre (A := (s₁.setTop (mkF m 9 #[.val (.int pa), .val (.int pb)] []))) ?_ ?_
    · intro t k
      refine XS.icmpYes X0.here hx rfl (pc0 := 2) (pc' := 9) rfl (hb hby d48_2) rfl (tlt hc77).2.2.1 (by decide) (by decide) ?_
      exact k
    refine own_pre (A := (s₁.setTop (mkF m 10 #[.val (.int pa), .val (.int pb)] [(.int pb)]))) ?_ ?_
    · intro t k
      refine XS.iloadN X0.here hx rfl (hb hby d48_9) rfl ?_
      exact k
    obtain ⟨fs, hr, hrun, hended, hW, hsame⟩ := X0.leave (hlocks := BodyLoose.notSynchronized Bd) (v := some (.int pb)) (fun h => by rw [Bd.returns] at h; cases h)
    refine ⟨_, _, retOut X0 hx Bd.returns rfl (Or.inl ⟨rfl, Or.inl rfl, _, rfl⟩) (hb hby d48_10) hr, hrun, hended, _, _, rfl, ?_, ⟨_, rfl⟩, hW, hsame.mono (by decide) (by decide)⟩
    show own_Q48 Z pa pb pr h0 n0 _ s₁.heap _
    rw [e0]
    exact ⟨N0, (by rw [h1 hc77]), rfl⟩
  · skip
    refine own_pre (A := (s₁.setTop (mkF m 5 #[.val (.int pa), .val (.int pb)] []))) ?_ ?_
    · intro t k
      refine XS.icmpNo X0.here hx rfl (hb hby d48_2) rfl (flt hc77).2.2.1 ?_
      exact k
    refine own_pre (A := (s₁.setTop (mkF m 10 #[.val (.int pa), .val (.int pb)] [(.int pa)]))) ?_ ?_
    · intro t k
      refine XS.iloadN X0.here hx rfl (hb hby d48_5) rfl ?_
      refine XS.goto X0.here hx rfl (pc0 := 6) (pc' := 10) rfl (hb hby d48_6) (by decide) (by decide) ?_
      exact k
    obtain ⟨fs, hr, hrun, hended, hW, hsame⟩ := X0.leave (hlocks := BodyLoose.notSynchronized Bd) (v := some (.int pa)) (fun h => by rw [Bd.returns] at h; cases h)
    refine ⟨_, _, retOut X0 hx Bd.returns rfl (Or.inl ⟨rfl, Or.inl rfl, _, rfl⟩) (hb hby d48_10) hr, hrun, hended, _, _, rfl, ?_, ⟨_, rfl⟩, hW, hsame.mono (by decide) (by decide)⟩
    show own_Q48 Z pa pb pr h0 n0 _ s₁.heap _
    rw [e0]
    exact ⟨N0, (by rw [h2 hc77]), rfl⟩
theorem d47_0 : decode jdk_65_method_121_code 0 = .ok (.iload_n 1, 1) := by decide +kernel
theorem d47_1 : decode jdk_65_method_121_code 1 = .ok (.aload_n 0, 1) := by decide +kernel
theorem d47_2 : decode jdk_65_method_121_code 2 = .ok (.arraylength, 1) := by decide +kernel
theorem d47_3 : decode jdk_65_method_121_code 3 = .ok (.if_icmp .ne 11, 3) := by decide +kernel
theorem d47_14 : decode jdk_65_method_121_code 14 = .ok (.iload_n 1, 1) := by decide +kernel
theorem d47_15 : decode jdk_65_method_121_code 15 = .ok (.newarray .byte, 2) := by decide +kernel
theorem d47_17 : decode jdk_65_method_121_code 17 = .ok (.astore_n 2, 1) := by decide +kernel
theorem d47_18 : decode jdk_65_method_121_code 18 = .ok (.aload_n 0, 1) := by decide +kernel
theorem d47_19 : decode jdk_65_method_121_code 19 = .ok (.iconst 0, 1) := by decide +kernel
theorem d47_20 : decode jdk_65_method_121_code 20 = .ok (.aload_n 2, 1) := by decide +kernel
theorem d47_21 : decode jdk_65_method_121_code 21 = .ok (.iconst 0, 1) := by decide +kernel
theorem d47_22 : decode jdk_65_method_121_code 22 = .ok (.aload_n 0, 1) := by decide +kernel
theorem d47_23 : decode jdk_65_method_121_code 23 = .ok (.arraylength, 1) := by decide +kernel
theorem d47_24 : decode jdk_65_method_121_code 24 = .ok (.iload_n 1, 1) := by decide +kernel
theorem d47_25 : decode jdk_65_method_121_code 25 = .ok (.invokestatic 304, 3) := by decide +kernel
theorem d47_28 : decode jdk_65_method_121_code 28 = .ok (.invokestatic 150, 3) := by decide +kernel
theorem d47_31 : decode jdk_65_method_121_code 31 = .ok (.aload_n 2, 1) := by decide +kernel
theorem d47_32 : decode jdk_65_method_121_code 32 = .ok (.areturn, 1) := by decide +kernel
theorem own_pn47 : plainName "java/util/Arrays" = true := by first | (simp [plainName, overriddenIn]; done) | decide +kernel
theorem own_ef47 (m : MethodId) (x0 : Addr) (x1 : Int32) : entryFrame m #[(.ref x0), (.int x1)] 3 = mkF m 0 #[.val (.ref x0), .val (.int x1), .unset] [] := by first | (simp [entryFrame, mkF, argsToLocals, Value.category]; done) | rfl
def own_Q47 (Z : State) (ab : Addr) (kb : ClassId) (wv : List Value) (h0 : Heap) (n0 : Nat) (v : Option Value) (h : Heap) (L : List Loc) : Prop := Fr n0 L ∧ ∃ (ad : Addr) (kd : ClassId), v = some (.ref ad) ∧ n0 ≤ ad ∧ h0.size ≤ ad ∧ Arv Z h ad kd .byte (34 : Int32) (wv ++ List.replicate 18 (.int (0 : Int32))) (.int (0 : Int32)) ∧ Exa Z h ad "[B" ∧ Keep h0 h []
set_option maxRecDepth 65536 in
set_option maxHeartbeats 40000000 in
theorem rm47 (l : Launch) (Z : State) (a0 : Array Value) (hw : ∀ d ∈ tables_1, d.before a0 Z = true) (ws : List Jvm.Cond) (ab : Addr) (kb : ClassId) (wv : List Value) (h0 : Heap) (n0 : Nat) (Z0 : n0 ≤ h0.size) (Vb : Arv Z h0 ab kb .byte (16 : Int32) wv (.int (0 : Int32))) (hwl : wv.length = (16 : Int32).toNatClampNeg) :
    MetFree l (⟨"java/util/Arrays", "copyOf", "([BI)[B"⟩ : MethodName) (head1 (Jvm.Cond.code (⟨"java/util/Arrays", "copyOf", "([BI)[B"⟩ : MethodName) jdk_65_method_121_code 3 (some (.array .byte)) :: ws) ({ frames := 1, cells := 1, slots := 34, locals := 18 } : Room)) (fun a U => a = #[(.ref ab), (.int (34 : Int32))] ∧ Z.Warmed39 U.vm ∧ U.heap = h0) (fun _ _ _ _ _ => True) (fun _ U o U' => ∃ v L, o = .returned v ∧ own_Q47 Z ab kb wv h0 n0 v U'.heap L ∧ FrameEnd U o U' L ({ frames := 1, cells := 1, slots := 34, locals := 18 } : Room).cells ({ frames := 1, cells := 1, slots := 34, locals := 18 } : Room).slots) := by
  refine MetFree.of_bodySF (plainFor_of_name own_pn47) hisR ?_
  intro p e s m args below meth c s₁ Bd hml0 hP hK
  obtain ⟨rfl, hZ, hh⟩ := hP
  have hx := Bd.exec
  have hby := Bd.bytes
  have hml : c.maxLocals = 3 := hml0
  have hown : s.vm.findClass "java/util/Arrays" = some m.cls := findClass_of_methodNamed Bd.named
  have hnm := (name_of_methodNamed Bd.named Bd.method).1
  have X0 : Stand p l e ({ frames := 1, cells := 1, slots := 34, locals := 18 } : Room) s m #[(.ref ab), (.int (34 : Int32))] below meth c s₁ [] 0 0 := Stand.of_body Bd
  have e0 : s₁.heap = h0 := by rw [← hh, Bd.state]; rfl
  have N0 := Fr.nil n0
  refine own_pre (A := (s₁.setTop (mkF m 0 #[.val (.ref ab), .val (.int (34 : Int32)), .unset] []))) (fun t k => castTop (own_ef47 m ab (34 : Int32)) k) ?_
  refine own_pre (A := (s₁.setTop (mkF m 15 #[.val (.ref ab), .val (.int (34 : Int32)), .unset] [(.int (34 : Int32))]))) ?_ ?_
  · intro t k
    refine XS.iloadN X0.here hx rfl (hb hby d47_0) rfl ?_
    refine XS.aloadN X0.here hx rfl (hb hby d47_1) rfl rfl ?_
    show Steps p.tables e below (s₁.setTop (mkF m 2 #[.val (.ref ab), .val (.int (34 : Int32)), .unset] [(.ref ab), (.int (34 : Int32))])) _
    obtain ⟨cl78, Ar78, -, S78, N78, -, -⟩ := id Vb
    refine X0.arraylength hx (by rw [e0]; exact Ar78.1) (State.isArrayOf_alike hZ.alike Ar78.2.1) (g := (mkF m 2 #[.val (.ref ab), .val (.int (34 : Int32)), .unset] [(.ref ab), (.int (34 : Int32))])) rfl rfl (hb hby d47_2) _ ?_
    rw [len_of S78 N78]
    refine XS.icmpYes X0.here hx rfl (pc0 := 3) (pc' := 14) rfl (hb hby d47_3) rfl (feq (by decide : ¬ ((34 : Int32) = (16 : Int32)))).2 (by decide) (by decide) ?_
    refine XS.iloadN X0.here hx rfl (hb hby d47_14) rfl ?_
    exact k
  obtain ⟨T79, h79, k79, X79, e79, E79, A79, Q79, st79⟩ := newPE X0 hx hZ (own_w hw 18 rfl) e0 (g := (mkF m 15 #[.val (.ref ab), .val (.int (34 : Int32)), .unset] [(.int (34 : Int32))])) rfl (hb hby d47_15) rfl (by decide) (cap := 34) (by decide) (by decide) (by decide) (by decide) (ad := "[B") (by decide)
  obtain ⟨b79, g79⟩ : ∃ z, z = h0.size := ⟨_, rfl⟩
  rw [← g79] at A79 st79 Q79
  have gn_b79 : n0 ≤ b79 := Nat.le_trans Z0 (Nat.le_of_eq g79.symm)
  have sz_b79 : h0.size ≤ b79 := Nat.le_trans (Keep.refl h0 []).1 (Nat.le_of_eq g79.symm)
  have Vb_79 := Vb.ext E79
  have Zs79 : n0 ≤ h79.size := Nat.le_trans Z0 E79.1
  have Kc79 : Keep h0 h79 [] := (Keep.refl h0 []).ext E79
  have V79 : Arv Z h79 b79 k79 .byte (34 : Int32) [] (.int (0 : Int32)) := Arv.new A79 (by decide)
  refine own_pre (fun t k => st79 t k) ?_
  have Vp79 : Arv Z h79 b79 k79 .byte (34 : Int32) (List.replicate 34 (.int (0 : Int32))) (.int (0 : Int32)) := V79.pad (pad_rep [] (.int (0 : Int32)) 34)
  refine own_pre (A := (T79.setTop (mkF m 25 #[.val (.ref ab), .val (.int (34 : Int32)), .val (.ref b79)] [(.int (34 : Int32)), (.int (16 : Int32)), (.int (0 : Int32)), (.ref b79), (.int (0 : Int32)), (.ref ab)]))) ?_ ?_
  · intro t k
    refine XS.astoreN X79.here hx rfl (hb hby d47_17) rfl rfl (l' := #[.val (.ref ab), .val (.int (34 : Int32)), .val (.ref b79)]) rfl ?_
    refine XS.aloadN X79.here hx rfl (hb hby d47_18) rfl rfl ?_
    refine XS.iconst X79.here hx rfl (hb hby d47_19) ?_
    refine XS.aloadN X79.here hx rfl (hb hby d47_20) rfl rfl ?_
    refine XS.iconst X79.here hx rfl (hb hby d47_21) ?_
    refine XS.aloadN X79.here hx rfl (hb hby d47_22) rfl rfl ?_
    show Steps p.tables e below (T79.setTop (mkF m 23 #[.val (.ref ab), .val (.int (34 : Int32)), .val (.ref b79)] [(.ref ab), (.int (0 : Int32)), (.ref b79), (.int (0 : Int32)), (.ref ab)])) _
    obtain ⟨cl80, Ar80, -, S80, N80, -, -⟩ := id Vb_79
    refine X79.arraylength hx (by rw [e79]; exact Ar80.1) (State.isArrayOf_alike hZ.alike Ar80.2.1) (g := (mkF m 23 #[.val (.ref ab), .val (.int (34 : Int32)), .val (.ref b79)] [(.ref ab), (.int (0 : Int32)), (.ref b79), (.int (0 : Int32)), (.ref ab)])) rfl rfl (hb hby d47_23) _ ?_
    rw [len_of S80 N80]
    refine XS.iloadN X79.here hx rfl (hb hby d47_24) rfl ?_
    exact k
  obtain ⟨_, _, ⟨T81, L81, k81, n81⟩, -, X81, ⟨Lc81, hQ81, l81, y81, z81⟩, st81⟩ := Jvm.LawKit.callS X79 hx (y := (⟨"java/lang/Math", "min", "(II)I"⟩ : MethodName)) hown (mvT hZ (own_w hw 273 rfl)) (mvT hZ (own_w hw 274 rfl)) (mvT hZ (own_w hw 266 rfl)) (mvT hZ (own_w hw 275 rfl)) (by decide) (backOf (W := 4) (rm48 l Z a0 hw [] (16 : Int32) (34 : Int32) (16 : Int32) h79 n0 Zs79 (fun q => absurd q (by decide)) (fun _ => rfl)) hZ (own_w hw 275 rfl) (own_w hw 266 rfl) (by decide) (by decide)) (g := (mkF m 25 #[.val (.ref ab), .val (.int (34 : Int32)), .val (.ref b79)] [(.int (34 : Int32)), (.int (16 : Int32)), (.int (0 : Int32)), (.ref b79), (.int (0 : Int32)), (.ref ab)])) rfl (by rw [hml]; rfl) (argsL := [(.int (16 : Int32)), (.int (34 : Int32))]) (rest := [(.int (0 : Int32)), (.ref b79), (.int (0 : Int32)), (.ref ab)]) (lenOf own_pd15 rfl) rfl (by show 2 * 0 + _ ≤ _; exact Nat.le_of_eq rfl) (hb hby d47_25) (fun _ _ => ⟨rfl, e79, (by decide : 1 + 0 ≤ _), (by decide : 34 + 0 ≤ _)⟩)
  dsimp only [Pt.U, Pt.locs, Pt.cells, Pt.slots] at X81 l81 y81 z81 st81 hQ81
  replace y81 : _ = 1 := y81
  replace z81 : _ = 34 := z81
  subst y81 z81
  obtain ⟨Nq81, rfl, eq81⟩ := hQ81
  have N81 := own_frl l81 N0 Nq81
  refine own_pre (fun t k => st81 t k) ?_
  obtain ⟨T82, h82, L82, X82, e82, N82, K82, V82, st82⟩ := cpA X81 hx hZ hown (own_w hw 276 rfl) (own_w hw 113 rfl) (own_w hw 111 rfl) (own_w hw 112 rfl) eq81 Vb_79 Vp79 (Or.inl ⟨rfl, rfl⟩) (sp := (0 : Int32)) (dp := (0 : Int32)) (nn := (16 : Int32)) (us := wv) (by decide) (by decide) (by decide) (by decide) (by decide) (own_rangeZ hwl) (by rw [List.length_replicate]; decide) N81 gn_b79 (g := (mkF m 28 #[.val (.ref ab), .val (.int (34 : Int32)), .val (.ref b79)] [(.int (16 : Int32)), (.int (0 : Int32)), (.ref b79), (.int (0 : Int32)), (.ref ab)])) rfl (by rw [hml]; rfl) rfl (hb hby d47_28) (by decide) (W := 0) (by show 2 * 0 + _ ≤ _; exact Nat.le_of_eq rfl) (by decide)
  refine own_pre (fun t k => st82 t k) ?_
  have V82' : Arv Z h82 b79 k79 .byte (34 : Int32) (wv ++ List.replicate 18 (.int (0 : Int32))) (.int (0 : Int32)) := by
    have q := V82
    rw [own_eq47] at q
    exact q
  have Q79_82 := Q79.keep K82
  have Kc82 : Keep h0 h82 [] := Kc79.trans K82 (allS (Or.inr sz_b79) all0)
  refine own_pre (A := (T82.setTop (mkF m 32 #[.val (.ref ab), .val (.int (34 : Int32)), .val (.ref b79)] [(.ref b79)]))) ?_ ?_
  · intro t k
    refine XS.aloadN X82.here hx rfl (hb hby d47_31) rfl rfl ?_
    exact k
  obtain ⟨fs, hr, hrun, hended, hW, hsame⟩ := X82.leave (hlocks := BodyLoose.notSynchronized Bd) (v := some (.ref b79)) (fun h => by rw [Bd.returns] at h; cases h)
  refine ⟨_, _, retOut X82 hx Bd.returns rfl (Or.inr (Or.inr (Or.inr (Or.inr ⟨rfl, rfl, rfl⟩)))) (hb hby d47_32) hr, hrun, hended, _, _, rfl, ?_, ⟨_, rfl⟩, hW, hsame.mono (by decide) (by decide)⟩
  show own_Q47 Z ab kb wv h0 n0 _ T82.heap _
  rw [e82]
  exact ⟨N82, b79, k79, rfl, gn_b79, sz_b79, V82', Q79_82, Kc82⟩
theorem d16_0 : decode jdk_68_method_9_code 0 = .ok (.aload_n 0, 1) := by decide +kernel
theorem d16_1 : decode jdk_68_method_9_code 1 = .ok (.getfield 15, 3) := by decide +kernel
theorem d16_4 : decode jdk_68_method_9_code 4 = .ok (.arraylength, 1) := by decide +kernel
theorem d16_5 : decode jdk_68_method_9_code 5 = .ok (.aload_n 0, 1) := by decide +kernel
theorem d16_6 : decode jdk_68_method_9_code 6 = .ok (.getfield 22, 3) := by decide +kernel
theorem d16_9 : decode jdk_68_method_9_code 9 = .ok (.ishr, 1) := by decide +kernel
theorem d16_10 : decode jdk_68_method_9_code 10 = .ok (.istore_n 2, 1) := by decide +kernel
theorem d16_11 : decode jdk_68_method_9_code 11 = .ok (.iload_n 1, 1) := by decide +kernel
theorem d16_12 : decode jdk_68_method_9_code 12 = .ok (.iload_n 2, 1) := by decide +kernel
theorem d16_13 : decode jdk_68_method_9_code 13 = .ok (.isub, 1) := by decide +kernel
theorem d16_14 : decode jdk_68_method_9_code 14 = .ok (.ifCond .le 24, 3) := by decide +kernel
theorem d16_17 : decode jdk_68_method_9_code 17 = .ok (.aload_n 0, 1) := by decide +kernel
theorem d16_18 : decode jdk_68_method_9_code 18 = .ok (.aload_n 0, 1) := by decide +kernel
theorem d16_19 : decode jdk_68_method_9_code 19 = .ok (.getfield 15, 3) := by decide +kernel
theorem d16_22 : decode jdk_68_method_9_code 22 = .ok (.aload_n 0, 1) := by decide +kernel
theorem d16_23 : decode jdk_68_method_9_code 23 = .ok (.iload_n 1, 1) := by decide +kernel
theorem d16_24 : decode jdk_68_method_9_code 24 = .ok (.invokevirtual 104, 3) := by decide +kernel
theorem d16_27 : decode jdk_68_method_9_code 27 = .ok (.aload_n 0, 1) := by decide +kernel
theorem d16_28 : decode jdk_68_method_9_code 28 = .ok (.getfield 22, 3) := by decide +kernel
theorem d16_31 : decode jdk_68_method_9_code 31 = .ok (.ishl, 1) := by decide +kernel
theorem d16_32 : decode jdk_68_method_9_code 32 = .ok (.invokestatic 108, 3) := by decide +kernel
theorem d16_35 : decode jdk_68_method_9_code 35 = .ok (.putfield 15, 3) := by decide +kernel
theorem d16_38 : decode jdk_68_method_9_code 38 = .ok (.return_, 1) := by decide +kernel
theorem own_pn16 : plainName "java/lang/AbstractStringBuilder" = true := by first | (simp [plainName, overriddenIn]; done) | decide +kernel
theorem own_ef16 (m : MethodId) (x0 : Addr) (x1 : Int32) : entryFrame m #[(.ref x0), (.int x1)] 3 = mkF m 0 #[.val (.ref x0), .val (.int x1), .unset] [] := by first | (simp [entryFrame, mkF, argsToLocals, Value.category]; done) | rfl
def own_Q16 (Z : State) (ax : Addr) (pm : Int32) (ab : Addr) (kb : ClassId) (zc : Int32) (pk : Int32) (wv : List Value) (cs0 : List Int32) (h0 : Heap) (n0 : Nat) (v : Option Value) (h : Heap) (L : List Loc) : Prop := Fr n0 L ∧ v = none ∧ Keep h0 h [ax] ∧ ∃ (ay : Addr) (ky : ClassId) (zy : Int32) (wy : List Value), (ay = ab ∨ h0.size ≤ ay) ∧ n0 ≤ ay ∧ Fld Z h ax "java/lang/AbstractStringBuilder" "value" "[B" (.ref ay) ∧ Fld Z h ax "java/lang/AbstractStringBuilder" "coder" "B" (.int (0 : Int32)) ∧ Fld Z h ax "java/lang/AbstractStringBuilder" "count" "I" (.int pk) ∧ Exa Z h ay "[B" ∧ Arv Z h ay ky .byte zy wy (.int (0 : Int32)) ∧ own_ok zy pk wy cs0 ∧ pm.toNatClampNeg ≤ zy.toNatClampNeg
set_option maxRecDepth 65536 in
set_option maxHeartbeats 40000000 in
theorem rm16 (l : Launch) (Z : State) (a0 : Array Value) (hw : ∀ d ∈ tables_1, d.before a0 Z = true) (ws : List Jvm.Cond) (ax : Addr) (pm : Int32) (ab : Addr) (kb : ClassId) (zc : Int32) (pk : Int32) (wv : List Value) (cs0 : List Int32) (h0 : Heap) (n0 : Nat) (Z0 : n0 ≤ h0.size) (Eb : Exa Z h0 ax "java/lang/StringBuilder") (Bv : Fld Z h0 ax "java/lang/AbstractStringBuilder" "value" "[B" (.ref ab)) (Bc : Fld Z h0 ax "java/lang/AbstractStringBuilder" "coder" "B" (.int (0 : Int32))) (Bk : Fld Z h0 ax "java/lang/AbstractStringBuilder" "count" "I" (.int pk)) (Ey : Exa Z h0 ab "[B") (Vb : Arv Z h0 ab kb .byte zc wv (.int (0 : Int32))) (ok : own_ok zc pk wv cs0) (ga : n0 ≤ ax) (gb : n0 ≤ ab) (nxb : ax ≠ ab) (hpm : ¬ pm < 0 ∧ pm.toNatClampNeg ≤ 34) :
    MetFree l (⟨"java/lang/AbstractStringBuilder", "ensureCapacityInternal", "(I)V"⟩ : MethodName) (head1 (Jvm.Cond.code (⟨"java/lang/AbstractStringBuilder", "ensureCapacityInternal", "(I)V"⟩ : MethodName) jdk_68_method_9_code 3 none :: ws) ({ frames := 3, cells := 1, slots := 34, locals := 48 } : Room)) (fun a U => a = #[(.ref ax), (.int pm)] ∧ Z.Warmed39 U.vm ∧ U.heap = h0) (fun _ _ _ _ _ => True) (fun _ U o U' => ∃ v L, o = .returned v ∧ own_Q16 Z ax pm ab kb zc pk wv cs0 h0 n0 v U'.heap L ∧ FrameEnd U o U' L ({ frames := 3, cells := 1, slots := 34, locals := 48 } : Room).cells ({ frames := 3, cells := 1, slots := 34, locals := 48 } : Room).slots) := by
  refine MetFree.of_bodySF (plainFor_of_name own_pn16) hisR ?_
  intro p e s m args below meth c s₁ Bd hml0 hP hK
  obtain ⟨rfl, hZ, hh⟩ := hP
  have hx := Bd.exec
  have hby := Bd.bytes
  have hml : c.maxLocals = 3 := hml0
  have hown : s.vm.findClass "java/lang/AbstractStringBuilder" = some m.cls := findClass_of_methodNamed Bd.named
  have hnm := (name_of_methodNamed Bd.named Bd.method).1
  have X0 : Stand p l e ({ frames := 3, cells := 1, slots := 34, locals := 48 } : Room) s m #[(.ref ax), (.int pm)] below meth c s₁ [] 0 0 := Stand.of_body Bd
  have e0 : s₁.heap = h0 := by rw [← hh, Bd.state]; rfl
  have N0 := Fr.nil n0
  refine own_pre (A := (s₁.setTop (mkF m 0 #[.val (.ref ax), .val (.int pm), .unset] []))) (fun t k => castTop (own_ef16 m ax pm) k) ?_
  refine own_pre (A := (s₁.setTop (mkF m 1 #[.val (.ref ax), .val (.int pm), .unset] [(.ref ax)]))) ?_ ?_
  · intro t k
    refine XS.aloadN X0.here hx rfl (hb hby d16_0) rfl rfl ?_
    exact k
  obtain ⟨T83, X83, e83, st83⟩ := getF X0 hx hZ hown (host := "") (Or.inl (own_w hw 62 rfl)) Via.refl e0 Bv (g := (mkF m 1 #[.val (.ref ax), .val (.int pm), .unset] [(.ref ax)])) rfl rfl (hb hby d16_1)
  refine own_pre (fun t k => st83 t k) ?_
  refine own_pre (A := (T83.setTop (mkF m 6 #[.val (.ref ax), .val (.int pm), .unset] [(.ref ax), (.int zc)]))) ?_ ?_
  · intro t k
    show Steps p.tables e below (T83.setTop (mkF m 4 #[.val (.ref ax), .val (.int pm), .unset] [(.ref ab)])) _
    obtain ⟨cl84, Ar84, -, S84, N84, -, -⟩ := id Vb
    refine X83.arraylength hx (by rw [e83]; exact Ar84.1) (State.isArrayOf_alike hZ.alike Ar84.2.1) (g := (mkF m 4 #[.val (.ref ax), .val (.int pm), .unset] [(.ref ab)])) rfl rfl (hb hby d16_4) _ ?_
    rw [len_of S84 N84]
    refine XS.aloadN X83.here hx rfl (hb hby d16_5) rfl rfl ?_
    exact k
  obtain ⟨T85, X85, e85, st85⟩ := getF X83 hx hZ hown (host := "") (Or.inl (own_w hw 64 rfl)) Via.refl e83 Bc (g := (mkF m 6 #[.val (.ref ax), .val (.int pm), .unset] [(.ref ax), (.int zc)])) rfl rfl (hb hby d16_6)
  refine own_pre (fun t k => st85 t k) ?_
  refine own_pre (A := (T85.setTop (mkF m 14 #[.val (.ref ax), .val (.int pm), .val (.int zc)] [(.int (pm - zc))]))) ?_ ?_
  · intro t k
    refine XS.ishr X85.here hx rfl (hb hby d16_9) rfl ?_
    show Steps p.tables e below (T85.setTop (mkF m 10 #[.val (.ref ax), .val (.int pm), .unset] [(.int (zc >>> ((0 : Int32) &&& 31)))])) _
    rw [own_shr0 zc]
    refine XS.istoreN X85.here hx rfl (hb hby d16_10) rfl (l' := #[.val (.ref ax), .val (.int pm), .val (.int zc)]) rfl ?_
    refine XS.iloadN X85.here hx rfl (hb hby d16_11) rfl ?_
    refine XS.iloadN X85.here hx rfl (hb hby d16_12) rfl ?_
    refine XS.isub X85.here hx rfl (hb hby d16_13) rfl ?_
    exact k
  by_cases hc86 : (0 : Int32) < (pm - zc)
  · skip
    refine own_pre (A := (T85.setTop (mkF m 17 #[.val (.ref ax), .val (.int pm), .val (.int zc)] []))) ?_ ?_
    · intro t k
      refine XS.ifNo X85.here hx rfl (hb hby d16_14) rfl ((if0 _ _).trans (tlt hc86).2.2.2) ?_
      exact k
    have hz16 := own_z16 ok hpm hc86
    subst hz16
    refine own_pre (A := (T85.setTop (mkF m 19 #[.val (.ref ax), .val (.int pm), .val (.int (16 : Int32))] [(.ref ax), (.ref ax)]))) ?_ ?_
    · intro t k
      refine XS.aloadN X85.here hx rfl (hb hby d16_17) rfl rfl ?_
      refine XS.aloadN X85.here hx rfl (hb hby d16_18) rfl rfl ?_
      exact k
    obtain ⟨T87, X87, e87, st87⟩ := getF X85 hx hZ hown (host := "") (Or.inl (own_w hw 62 rfl)) Via.refl e85 Bv (g := (mkF m 19 #[.val (.ref ax), .val (.int pm), .val (.int (16 : Int32))] [(.ref ax), (.ref ax)])) rfl rfl (hb hby d16_19)
    refine own_pre (fun t k => st87 t k) ?_
    refine own_pre (A := (T87.setTop (mkF m 24 #[.val (.ref ax), .val (.int pm), .val (.int (16 : Int32))] [(.int pm), (.ref ax), (.ref ab), (.ref ax)]))) ?_ ?_
    · intro t k
      refine XS.aloadN X87.here hx rfl (hb hby d16_22) rfl rfl ?_
      refine XS.iloadN X87.here hx rfl (hb hby d16_23) rfl ?_
      exact k
    obtain ⟨cq88, kq88, q88a, -, -, q88d, -⟩ := id Eb
    obtain ⟨_, _, ⟨T88, L88, k88, n88⟩, -, X88, ⟨Lc88, hQ88, l88, y88, z88⟩, st88⟩ := X87.privateBack hx (y := (⟨"java/lang/AbstractStringBuilder", "newCapacity", "(I)I"⟩ : MethodName)) hown (mvT hZ (own_w hw 255 rfl)) (mvT hZ (own_w hw 256 rfl)) (own_priv (mvT hZ (own_w hw 258 rfl)) (mvT hZ (own_w hw 257 rfl)) (mvT hZ (own_w hw 256 rfl)) (by decide)) (Cond.privateMethod_at (args := #[]) (mvT hZ (own_w hw 257 rfl))) (mvT hZ (own_w hw 259 rfl)) (by decide) (backOf (W := 2) (rm44 l Z a0 hw [] ax pm ab kb wv h0 n0 Z0 Eb Bv Bc Vb hpm) hZ (own_w hw 259 rfl) (own_w hw 58 rfl) (by decide) (by decide)) (g := (mkF m 24 #[.val (.ref ax), .val (.int pm), .val (.int (16 : Int32))] [(.int pm), (.ref ax), (.ref ab), (.ref ax)])) rfl (by rw [hml]; rfl) (Steps.refl _) (a := ax) (by first | exact q88a | (rw [e87]; exact q88a)) (own_nst q88d) (argsL := [(.int pm)]) (rest := [(.ref ab), (.ref ax)]) (lenOf own_pd17 rfl) rfl (by show 2 * 0 + _ ≤ _; exact Nat.le_of_eq rfl) (hb hby d16_24) (fun _ _ => ⟨rfl, e87, (by decide : 0 + 0 ≤ _), (by decide : 0 + 0 ≤ _)⟩)
    dsimp only [Pt.U, Pt.locs, Pt.cells, Pt.slots] at X88 l88 y88 z88 st88 hQ88
    replace y88 : _ = 0 := y88
    replace z88 : _ = 0 := z88
    subst y88 z88
    obtain ⟨Nq88, rfl, eq88⟩ := hQ88
    have N88 := own_frl l88 N0 Nq88
    refine own_pre (fun t k => st88.trans k) ?_
    refine own_pre (A := (T88.setTop (mkF m 28 #[.val (.ref ax), .val (.int pm), .val (.int (16 : Int32))] [(.ref ax), (.int (34 : Int32)), (.ref ab), (.ref ax)]))) ?_ ?_
    · intro t k
      refine XS.aloadN X88.here hx rfl (hb hby d16_27) rfl rfl ?_
      exact k
    obtain ⟨T89, X89, e89, st89⟩ := getF X88 hx hZ hown (host := "") (Or.inl (own_w hw 64 rfl)) Via.refl eq88 Bc (g := (mkF m 28 #[.val (.ref ax), .val (.int pm), .val (.int (16 : Int32))] [(.ref ax), (.int (34 : Int32)), (.ref ab), (.ref ax)])) rfl rfl (hb hby d16_28)
    refine own_pre (fun t k => st89 t k) ?_
    refine own_pre (A := (T89.setTop (mkF m 32 #[.val (.ref ax), .val (.int pm), .val (.int (16 : Int32))] [(.int (34 : Int32)), (.ref ab), (.ref ax)]))) ?_ ?_
    · intro t k
      refine XS.ishl X89.here hx rfl (hb hby d16_31) rfl ?_
      show Steps p.tables e below (T89.setTop (mkF m 32 #[.val (.ref ax), .val (.int pm), .val (.int (16 : Int32))] [(.int ((34 : Int32) <<< ((0 : Int32) &&& 31))), (.ref ab), (.ref ax)])) _
      rw [show ((34 : Int32) <<< ((0 : Int32) &&& 31)) = (34 : Int32) from by decide]
      exact k
    obtain ⟨_, _, ⟨T90, L90, k90, n90⟩, -, X90, ⟨Lc90, hQ90, l90, y90, z90⟩, st90⟩ := Jvm.LawKit.callS X89 hx (y := (⟨"java/util/Arrays", "copyOf", "([BI)[B"⟩ : MethodName)) hown (mvT hZ (own_w hw 270 rfl)) (mvT hZ (own_w hw 271 rfl)) (mvT hZ (own_w hw 148 rfl)) (mvT hZ (own_w hw 272 rfl)) (by decide) (backOf (W := 1) (rm47 l Z a0 hw [] ab kb wv h0 n0 Z0 Vb ok.2.1) hZ (own_w hw 272 rfl) (own_w hw 148 rfl) (by decide) (by decide)) (g := (mkF m 32 #[.val (.ref ax), .val (.int pm), .val (.int (16 : Int32))] [(.int (34 : Int32)), (.ref ab), (.ref ax)])) rfl (by rw [hml]; rfl) (argsL := [(.ref ab), (.int (34 : Int32))]) (rest := [(.ref ax)]) (lenOf own_pd18 rfl) rfl (by show 2 * 0 + _ ≤ _; exact Nat.le_of_eq rfl) (hb hby d16_32) (fun _ _ => ⟨rfl, e89, (by decide : 0 + 1 ≤ _), (by decide : 0 + 34 ≤ _)⟩)
    dsimp only [Pt.U, Pt.locs, Pt.cells, Pt.slots] at X90 l90 y90 z90 st90 hQ90
    replace y90 : _ = 1 := y90
    replace z90 : _ = 34 := z90
    subst y90 z90
    obtain ⟨Nq90, ad90, kq90, rfl, gq90, zz90, Vq90, Eq90, Kq90⟩ := hQ90
    have N90 := own_frl l90 N88 Nq90
    refine own_pre (fun t k => st90 t k) ?_
    have ne_ax_ad90 : ax ≠ ad90 := Nat.ne_of_lt (Nat.lt_of_lt_of_le Eb.lt zz90)
    have sz_ad90 : h0.size ≤ ad90 := Nat.le_trans (Keep.refl h0 [ax]).1 zz90
    have Eb_90 := Eb.keep Kq90
    have Bv_90 := Bv.keep Kq90 nin0
    have Bc_90 := Bc.keep Kq90 nin0
    have Bk_90 := Bk.keep Kq90 nin0
    have Kc90 : Keep h0 T90.heap [ax] := (Keep.refl h0 [ax]).trans Kq90 all0
    obtain ⟨T91, h91, X91, e91, W91, st91⟩ := putF X90 hx hZ hown (host := "") (Or.inl (own_w hw 62 rfl)) Via.refl rfl Bv_90 Eb_90 (Or.inl (own_w hw 63 rfl)) (own_w hw 49 rfl) (ty := (.array .byte)) (by decide) rfl rfl (g := (mkF m 35 #[.val (.ref ax), .val (.int pm), .val (.int (16 : Int32))] [(.ref ad90), (.ref ax)])) rfl rfl (hb hby d16_35)
    have Bc_91 := Bc_90.other W91 (Or.inr (slot_ne (Or.inl (own_w hw 65 rfl)) (Or.inl (own_w hw 63 rfl)) (by decide) (t := .byte) (t' := (.array .byte)) (by decide) (by decide)))
    have Bk_91 := Bk_90.other W91 (Or.inr (slot_ne (Or.inl (own_w hw 88 rfl)) (Or.inl (own_w hw 63 rfl)) (by decide) (t := .int) (t' := (.array .byte)) (by decide) (by decide)))
    have Vq90_91 := Vq90.other W91 ne_ax_ad90.symm
    have Eq90_91 := Eq90.wr W91
    have Kc91 : Keep h0 h91 [ax] := Kc90.wr W91 (Or.inl (List.mem_of_getElem? (i := 0) rfl))
    have N91 := Fr.snoc X91 N90 ga
    have Fw91 := Bv_90.same W91
    refine own_pre (fun t k => st91 t k) ?_
    obtain ⟨fs, hr, hrun, hended, hW, hsame⟩ := X91.leave (hlocks := BodyLoose.notSynchronized Bd) (v := none) (fun _ => rfl)
    refine ⟨_, _, X91.returnOut hx Bd.returns (hb hby d16_38) hr, hrun, hended, _, _, rfl, ?_, ⟨_, rfl⟩, hW, hsame.mono (by decide) (by decide)⟩
    show own_Q16 Z ax pm ab kb (16 : Int32) pk wv cs0 h0 n0 _ T91.heap _
    rw [e91]
    exact ⟨N91, rfl, Kc91, ad90, kq90, (34 : Int32), (wv ++ List.replicate 18 (.int (0 : Int32))), Or.inr sz_ad90, gq90, Fw91, Bc_91, Bk_91, Eq90_91, Vq90_91, own_okg ok, hpm.2⟩
  · skip
    refine own_pre (A := (T85.setTop (mkF m 38 #[.val (.ref ax), .val (.int pm), .val (.int zc)] []))) ?_ ?_
    · intro t k
      refine XS.ifYes X85.here hx rfl (pc0 := 14) (pc' := 38) rfl (hb hby d16_14) rfl ((if0 _ _).trans (flt hc86).2.2.2) (by decide) (by decide) ?_
      exact k
    obtain ⟨fs, hr, hrun, hended, hW, hsame⟩ := X85.leave (hlocks := BodyLoose.notSynchronized Bd) (v := none) (fun _ => rfl)
    refine ⟨_, _, X85.returnOut hx Bd.returns (hb hby d16_38) hr, hrun, hended, _, _, rfl, ?_, ⟨_, rfl⟩, hW, hsame.mono (by decide) (by decide)⟩
    show own_Q16 Z ax pm ab kb zc pk wv cs0 h0 n0 _ T85.heap _
    rw [e85]
    exact ⟨N0, rfl, (Keep.refl h0 [ax]), ab, kb, zc, wv, Or.inl rfl, gb, Bv, Bc, Bk, Ey, Vb, ok, own_zge (own_znn ok) hpm.1 hc86⟩
theorem d18_0 : decode jdk_68_method_71_code 0 = .ok (.getstatic 18, 3) := by decide +kernel
theorem d18_3 : decode jdk_68_method_71_code 3 = .ok (.ifCond .eq 18, 3) := by decide +kernel
theorem d18_6 : decode jdk_68_method_71_code 6 = .ok (.aload_n 0, 1) := by decide +kernel
theorem d18_7 : decode jdk_68_method_71_code 7 = .ok (.getfield 22, 3) := by decide +kernel
theorem d18_10 : decode jdk_68_method_71_code 10 = .ok (.aload_n 1, 1) := by decide +kernel
theorem d18_11 : decode jdk_68_method_71_code 11 = .ok (.invokevirtual 40, 3) := by decide +kernel
theorem d18_14 : decode jdk_68_method_71_code 14 = .ok (.if_icmp .eq 7, 3) := by decide +kernel
theorem d18_21 : decode jdk_68_method_71_code 21 = .ok (.return_, 1) := by decide +kernel
theorem own_pn18 : plainName "java/lang/AbstractStringBuilder" = true := by first | (simp [plainName, overriddenIn]; done) | decide +kernel
theorem own_ef18 (m : MethodId) (x0 : Addr) (x1 : Addr) : entryFrame m #[(.ref x0), (.ref x1)] 2 = mkF m 0 #[.val (.ref x0), .val (.ref x1)] [] := by first | (simp [entryFrame, mkF, argsToLocals, Value.category]; done) | rfl
def own_Q18 (Z : State) (ax : Addr) (as : Addr) (pG : Int32) (h0 : Heap) (n0 : Nat) (v : Option Value) (h : Heap) (L : List Loc) : Prop := Fr n0 L ∧ v = none ∧ h = h0
set_option maxRecDepth 65536 in
set_option maxHeartbeats 40000000 in
theorem rm18 (l : Launch) (Z : State) (a0 : Array Value) (hw : ∀ d ∈ tables_1, d.before a0 Z = true) (ws : List Jvm.Cond) (ax : Addr) (as : Addr) (pG : Int32) (h0 : Heap) (n0 : Nat) (Z0 : n0 ≤ h0.size) (Bc : Fld Z h0 ax "java/lang/AbstractStringBuilder" "coder" "B" (.int (0 : Int32))) (Es : Exa Z h0 as "java/lang/String") (Sc : Fld Z h0 as "java/lang/String" "coder" "B" (.int (0 : Int32))) (O2 : Sta Z Z.heap "java/lang/String" "COMPACT_STRINGS" "Z" (.int pG)) (hG : ¬ pG = (0 : Int32)) (X00 : Old Z n0 h0) :
    MetFree l (⟨"java/lang/AbstractStringBuilder", "inflateIfNeededFor", "(Ljava/lang/String;)V"⟩ : MethodName) (head1 (Jvm.Cond.code (⟨"java/lang/AbstractStringBuilder", "inflateIfNeededFor", "(Ljava/lang/String;)V"⟩ : MethodName) jdk_68_method_71_code 2 none :: ws) ({ frames := 1, cells := 0, slots := 0, locals := 13 } : Room)) (fun a U => a = #[(.ref ax), (.ref as)] ∧ Z.Warmed39 U.vm ∧ U.heap = h0) (fun _ _ _ _ _ => True) (fun _ U o U' => ∃ v L, o = .returned v ∧ own_Q18 Z ax as pG h0 n0 v U'.heap L ∧ FrameEnd U o U' L ({ frames := 1, cells := 0, slots := 0, locals := 13 } : Room).cells ({ frames := 1, cells := 0, slots := 0, locals := 13 } : Room).slots) := by
  refine MetFree.of_bodySF (plainFor_of_name own_pn18) hisR ?_
  intro p e s m args below meth c s₁ Bd hml0 hP hK
  obtain ⟨rfl, hZ, hh⟩ := hP
  have hx := Bd.exec
  have hby := Bd.bytes
  have hml : c.maxLocals = 2 := hml0
  have hown : s.vm.findClass "java/lang/AbstractStringBuilder" = some m.cls := findClass_of_methodNamed Bd.named
  have hnm := (name_of_methodNamed Bd.named Bd.method).1
  have X0 : Stand p l e ({ frames := 1, cells := 0, slots := 0, locals := 13 } : Room) s m #[(.ref ax), (.ref as)] below meth c s₁ [] 0 0 := Stand.of_body Bd
  have e0 : s₁.heap = h0 := by rw [← hh, Bd.state]; rfl
  have N0 := Fr.nil n0
  refine own_pre (A := (s₁.setTop (mkF m 0 #[.val (.ref ax), .val (.ref as)] []))) (fun t k => castTop (own_ef18 m ax as) k) ?_
  obtain ⟨T92, X92, e92, st92⟩ := getS2 X0 hx hZ hown (host := "") (Or.inl (own_w hw 61 rfl)) Via.refl e0 (O2.ext X00.2) (g := (mkF m 0 #[.val (.ref ax), .val (.ref as)] [])) rfl (hb hby d18_0)
  refine own_pre (fun t k => st92 t k) ?_
  refine own_pre (A := (T92.setTop (mkF m 7 #[.val (.ref ax), .val (.ref as)] [(.ref ax)]))) ?_ ?_
  · intro t k
    refine XS.ifNo X92.here hx rfl (hb hby d18_3) rfl ((if0 _ _).trans (feq hG).1) ?_
    refine XS.aloadN X92.here hx rfl (hb hby d18_6) rfl rfl ?_
    exact k
  obtain ⟨T93, X93, e93, st93⟩ := getF X92 hx hZ hown (host := "") (Or.inl (own_w hw 64 rfl)) Via.refl e92 Bc (g := (mkF m 7 #[.val (.ref ax), .val (.ref as)] [(.ref ax)])) rfl rfl (hb hby d18_7)
  refine own_pre (fun t k => st93 t k) ?_
  refine own_pre (A := (T93.setTop (mkF m 11 #[.val (.ref ax), .val (.ref as)] [(.ref as), (.int (0 : Int32))]))) ?_ ?_
  · intro t k
    refine XS.aloadN X93.here hx rfl (hb hby d18_10) rfl rfl ?_
    exact k
  obtain ⟨cq94, kq94, q94a, q94b, q94c⟩ := isOf hZ e93 Es
  obtain ⟨_, _, ⟨T94, L94, k94, n94⟩, -, X94, ⟨Lc94, hQ94, l94, y94, z94⟩, st94⟩ := X93.virtualBack hx (y := (⟨"java/lang/String", "coder", "()B"⟩ : MethodName)) (z := (⟨"java/lang/String", "coder", "()B"⟩ : MethodName)) hown (mvT hZ (own_w hw 104 rfl)) (mvT hZ (own_w hw 83 rfl)) (notFace_of_selects (args := #[]) (mvT hZ (own_w hw 85 rfl))) (mvT hZ (own_w hw 85 rfl)) (mvT hZ (own_w hw 84 rfl)) (by decide) (backOf (W := 1) (rm15 l Z a0 hw [] as pG h0 n0 Z0 Es Sc O2 hG X00) hZ (own_w hw 86 rfl) (own_w hw 6 rfl) (by decide) (by decide)) q94a q94c (g := (mkF m 11 #[.val (.ref ax), .val (.ref as)] [(.ref as), (.int (0 : Int32))])) rfl (by rw [hml]; rfl) (Steps.refl _) (argsL := []) (rest := [(.int (0 : Int32))]) (lenOf own_pd0 rfl) rfl (by show 2 * 0 + _ ≤ _; exact Nat.le_of_eq rfl) (hb hby d18_11) (fun _ _ => ⟨rfl, e93, (by decide : 0 + 0 ≤ _), (by decide : 0 + 0 ≤ _)⟩)
  dsimp only [Pt.U, Pt.locs, Pt.cells, Pt.slots] at X94 l94 y94 z94 st94 hQ94
  replace y94 : _ = 0 := y94
  replace z94 : _ = 0 := z94
  subst y94 z94
  obtain ⟨Nq94, rfl, eq94⟩ := hQ94
  have N94 := own_frl l94 N0 Nq94
  refine own_pre (fun t k => st94.trans k) ?_
  refine own_pre (A := (T94.setTop (mkF m 21 #[.val (.ref ax), .val (.ref as)] []))) ?_ ?_
  · intro t k
    refine XS.icmpYes X94.here hx rfl (pc0 := 14) (pc' := 21) rfl (hb hby d18_14) rfl (teq (by decide : (0 : Int32) = (0 : Int32))).1 (by decide) (by decide) ?_
    exact k
  obtain ⟨fs, hr, hrun, hended, hW, hsame⟩ := X94.leave (hlocks := BodyLoose.notSynchronized Bd) (v := none) (fun _ => rfl)
  refine ⟨_, _, X94.returnOut hx Bd.returns (hb hby d18_21) hr, hrun, hended, _, _, rfl, ?_, ⟨_, rfl⟩, hW, hsame.mono (by decide) (by decide)⟩
  show own_Q18 Z ax as pG h0 n0 _ T94.heap _
  rw [eq94]
  exact ⟨N94, rfl, rfl⟩
theorem d19_0 : decode jdk_42_method_147_code 0 = .ok (.aload_n 0, 1) := by decide +kernel
theorem d19_1 : decode jdk_42_method_147_code 1 = .ok (.invokevirtual 335, 3) := by decide +kernel
theorem d19_4 : decode jdk_42_method_147_code 4 = .ok (.iload_n 3, 1) := by decide +kernel
theorem d19_5 : decode jdk_42_method_147_code 5 = .ok (.if_icmp .ne 23, 3) := by decide +kernel
theorem d19_8 : decode jdk_42_method_147_code 8 = .ok (.aload_n 0, 1) := by decide +kernel
theorem d19_9 : decode jdk_42_method_147_code 9 = .ok (.getfield 9, 3) := by decide +kernel
theorem d19_12 : decode jdk_42_method_147_code 12 = .ok (.iconst 0, 1) := by decide +kernel
theorem d19_13 : decode jdk_42_method_147_code 13 = .ok (.aload_n 1, 1) := by decide +kernel
theorem d19_14 : decode jdk_42_method_147_code 14 = .ok (.iload_n 2, 1) := by decide +kernel
theorem d19_15 : decode jdk_42_method_147_code 15 = .ok (.iload_n 3, 1) := by decide +kernel
theorem d19_16 : decode jdk_42_method_147_code 16 = .ok (.ishl, 1) := by decide +kernel
theorem d19_17 : decode jdk_42_method_147_code 17 = .ok (.aload_n 0, 1) := by decide +kernel
theorem d19_18 : decode jdk_42_method_147_code 18 = .ok (.getfield 9, 3) := by decide +kernel
theorem d19_21 : decode jdk_42_method_147_code 21 = .ok (.arraylength, 1) := by decide +kernel
theorem d19_22 : decode jdk_42_method_147_code 22 = .ok (.invokestatic 212, 3) := by decide +kernel
theorem d19_25 : decode jdk_42_method_147_code 25 = .ok (.goto 18, 3) := by decide +kernel
theorem d19_43 : decode jdk_42_method_147_code 43 = .ok (.return_, 1) := by decide +kernel
theorem own_pn19 : plainName "java/lang/String" = true := by first | (simp [plainName, overriddenIn]; done) | decide +kernel
theorem own_ef19 (m : MethodId) (x0 : Addr) (x1 : Addr) (x2 : Int32) (x3 : Int32) : entryFrame m #[(.ref x0), (.ref x1), (.int x2), (.int x3)] 4 = mkF m 0 #[.val (.ref x0), .val (.ref x1), .val (.int x2), .val (.int x3)] [] := by first | (simp [entryFrame, mkF, argsToLocals, Value.category]; done) | rfl
def own_Q19 (Z : State) (as : Addr) (ab : Addr) (pi : Int32) (kb : ClassId) (zc : Int32) (wv : List Value) (sd : Addr) (sk : ClassId) (sn : Int32) (cs : List Int32) (pG : Int32) (h0 : Heap) (n0 : Nat) (v : Option Value) (h : Heap) (L : List Loc) : Prop := Fr n0 L ∧ v = none ∧ Keep h0 h [ab] ∧ Arv Z h ab kb .byte zc (own_put wv pi.toNatClampNeg (List.map own_by cs)) (.int (0 : Int32))
set_option maxRecDepth 65536 in
set_option maxHeartbeats 40000000 in
theorem rm19 (l : Launch) (Z : State) (a0 : Array Value) (hw : ∀ d ∈ tables_1, d.before a0 Z = true) (ws : List Jvm.Cond) (as : Addr) (ab : Addr) (pi : Int32) (kb : ClassId) (zc : Int32) (wv : List Value) (sd : Addr) (sk : ClassId) (sn : Int32) (cs : List Int32) (pG : Int32) (h0 : Heap) (n0 : Nat) (Z0 : n0 ≤ h0.size) (Es : Exa Z h0 as "java/lang/String") (Sv : Fld Z h0 as "java/lang/String" "value" "[B" (.ref sd)) (Sc : Fld Z h0 as "java/lang/String" "coder" "B" (.int (0 : Int32))) (Vs : Arv Z h0 sd sk .byte sn (List.map own_by cs) (.int (0 : Int32))) (Vb : Arv Z h0 ab kb .byte zc wv (.int (0 : Int32))) (gb : n0 ≤ ab) (nab : as ≠ ab) (nsb : sd ≠ ab) (hpi : ¬ pi < 0) (hn : own_n sn cs) (hle : pi.toNatClampNeg + sn.toNatClampNeg ≤ zc.toNatClampNeg) (hwl : wv.length = zc.toNatClampNeg) (O2 : Sta Z Z.heap "java/lang/String" "COMPACT_STRINGS" "Z" (.int pG)) (hG : ¬ pG = (0 : Int32)) (X00 : Old Z n0 h0) :
    MetFree l (⟨"java/lang/String", "getBytes", "([BIB)V"⟩ : MethodName) (head1 (Jvm.Cond.code (⟨"java/lang/String", "getBytes", "([BIB)V"⟩ : MethodName) jdk_42_method_147_code 4 none :: ws) ({ frames := 1, cells := 0, slots := 0, locals := 18 } : Room)) (fun a U => a = #[(.ref as), (.ref ab), (.int pi), (.int (0 : Int32))] ∧ Z.Warmed39 U.vm ∧ U.heap = h0) (fun _ _ _ _ _ => True) (fun _ U o U' => ∃ v L, o = .returned v ∧ own_Q19 Z as ab pi kb zc wv sd sk sn cs pG h0 n0 v U'.heap L ∧ FrameEnd U o U' L ({ frames := 1, cells := 0, slots := 0, locals := 18 } : Room).cells ({ frames := 1, cells := 0, slots := 0, locals := 18 } : Room).slots) := by
  refine MetFree.of_bodySF (plainFor_of_name own_pn19) hisR ?_
  intro p e s m args below meth c s₁ Bd hml0 hP hK
  obtain ⟨rfl, hZ, hh⟩ := hP
  have hx := Bd.exec
  have hby := Bd.bytes
  have hml : c.maxLocals = 4 := hml0
  have hown : s.vm.findClass "java/lang/String" = some m.cls := findClass_of_methodNamed Bd.named
  have hnm := (name_of_methodNamed Bd.named Bd.method).1
  have X0 : Stand p l e ({ frames := 1, cells := 0, slots := 0, locals := 18 } : Room) s m #[(.ref as), (.ref ab), (.int pi), (.int (0 : Int32))] below meth c s₁ [] 0 0 := Stand.of_body Bd
  have e0 : s₁.heap = h0 := by rw [← hh, Bd.state]; rfl
  have N0 := Fr.nil n0
  refine own_pre (A := (s₁.setTop (mkF m 0 #[.val (.ref as), .val (.ref ab), .val (.int pi), .val (.int (0 : Int32))] []))) (fun t k => castTop (own_ef19 m as ab pi (0 : Int32)) k) ?_
  refine own_pre (A := (s₁.setTop (mkF m 1 #[.val (.ref as), .val (.ref ab), .val (.int pi), .val (.int (0 : Int32))] [(.ref as)]))) ?_ ?_
  · intro t k
    refine XS.aloadN X0.here hx rfl (hb hby d19_0) rfl rfl ?_
    exact k
  obtain ⟨cq95, kq95, q95a, q95b, q95c⟩ := isOf hZ e0 Es
  obtain ⟨_, _, ⟨T95, L95, k95, n95⟩, -, X95, ⟨Lc95, hQ95, l95, y95, z95⟩, st95⟩ := X0.virtualBack hx (y := (⟨"java/lang/String", "coder", "()B"⟩ : MethodName)) (z := (⟨"java/lang/String", "coder", "()B"⟩ : MethodName)) hown (mvT hZ (own_w hw 82 rfl)) (mvT hZ (own_w hw 83 rfl)) (notFace_of_selects (args := #[]) (mvT hZ (own_w hw 85 rfl))) (mvT hZ (own_w hw 85 rfl)) (mvT hZ (own_w hw 84 rfl)) (by decide) (backOf (W := 0) (rm15 l Z a0 hw [] as pG h0 n0 Z0 Es Sc O2 hG X00) hZ (own_w hw 86 rfl) (own_w hw 6 rfl) (by decide) (by decide)) q95a q95c (g := (mkF m 1 #[.val (.ref as), .val (.ref ab), .val (.int pi), .val (.int (0 : Int32))] [(.ref as)])) rfl (by rw [hml]; rfl) (Steps.refl _) (argsL := []) (rest := []) (lenOf own_pd0 rfl) rfl (by show 2 * 0 + _ ≤ _; exact Nat.le_of_eq rfl) (hb hby d19_1) (fun _ _ => ⟨rfl, e0, (by decide : 0 + 0 ≤ _), (by decide : 0 + 0 ≤ _)⟩)
  dsimp only [Pt.U, Pt.locs, Pt.cells, Pt.slots] at X95 l95 y95 z95 st95 hQ95
  replace y95 : _ = 0 := y95
  replace z95 : _ = 0 := z95
  subst y95 z95
  obtain ⟨Nq95, rfl, eq95⟩ := hQ95
  have N95 := own_frl l95 N0 Nq95
  refine own_pre (fun t k => st95.trans k) ?_
  refine own_pre (A := (T95.setTop (mkF m 9 #[.val (.ref as), .val (.ref ab), .val (.int pi), .val (.int (0 : Int32))] [(.ref as)]))) ?_ ?_
  · intro t k
    refine XS.iloadN X95.here hx rfl (hb hby d19_4) rfl ?_
    refine XS.icmpNo X95.here hx rfl (hb hby d19_5) rfl (teq (by decide : (0 : Int32) = (0 : Int32))).2 ?_
    refine XS.aloadN X95.here hx rfl (hb hby d19_8) rfl rfl ?_
    exact k
  obtain ⟨T96, X96, e96, st96⟩ := getF X95 hx hZ hown (host := "") (Or.inl (own_w hw 26 rfl)) Via.refl eq95 Sv (g := (mkF m 9 #[.val (.ref as), .val (.ref ab), .val (.int pi), .val (.int (0 : Int32))] [(.ref as)])) rfl rfl (hb hby d19_9)
  refine own_pre (fun t k => st96 t k) ?_
  refine own_pre (A := (T96.setTop (mkF m 18 #[.val (.ref as), .val (.ref ab), .val (.int pi), .val (.int (0 : Int32))] [(.ref as), (.int pi), (.ref ab), (.int (0 : Int32)), (.ref sd)]))) ?_ ?_
  · intro t k
    refine XS.iconst X96.here hx rfl (hb hby d19_12) ?_
    refine XS.aloadN X96.here hx rfl (hb hby d19_13) rfl rfl ?_
    refine XS.iloadN X96.here hx rfl (hb hby d19_14) rfl ?_
    refine XS.iloadN X96.here hx rfl (hb hby d19_15) rfl ?_
    refine XS.ishl X96.here hx rfl (hb hby d19_16) rfl ?_
    show Steps p.tables e below (T96.setTop (mkF m 17 #[.val (.ref as), .val (.ref ab), .val (.int pi), .val (.int (0 : Int32))] [(.int (pi <<< ((0 : Int32) &&& 31))), (.ref ab), (.int (0 : Int32)), (.ref sd)])) _
    rw [own_shl0 pi]
    refine XS.aloadN X96.here hx rfl (hb hby d19_17) rfl rfl ?_
    exact k
  obtain ⟨T97, X97, e97, st97⟩ := getF X96 hx hZ hown (host := "") (Or.inl (own_w hw 26 rfl)) Via.refl e96 Sv (g := (mkF m 18 #[.val (.ref as), .val (.ref ab), .val (.int pi), .val (.int (0 : Int32))] [(.ref as), (.int pi), (.ref ab), (.int (0 : Int32)), (.ref sd)])) rfl rfl (hb hby d19_18)
  refine own_pre (fun t k => st97 t k) ?_
  refine own_pre (A := (T97.setTop (mkF m 22 #[.val (.ref as), .val (.ref ab), .val (.int pi), .val (.int (0 : Int32))] [(.int sn), (.int pi), (.ref ab), (.int (0 : Int32)), (.ref sd)]))) ?_ ?_
  · intro t k
    show Steps p.tables e below (T97.setTop (mkF m 21 #[.val (.ref as), .val (.ref ab), .val (.int pi), .val (.int (0 : Int32))] [(.ref sd), (.int pi), (.ref ab), (.int (0 : Int32)), (.ref sd)])) _
    obtain ⟨cl98, Ar98, -, S98, N98, -, -⟩ := id Vs
    refine X97.arraylength hx (by rw [e97]; exact Ar98.1) (State.isArrayOf_alike hZ.alike Ar98.2.1) (g := (mkF m 21 #[.val (.ref as), .val (.ref ab), .val (.int pi), .val (.int (0 : Int32))] [(.ref sd), (.int pi), (.ref ab), (.int (0 : Int32)), (.ref sd)])) rfl rfl (hb hby d19_21) _ ?_
    rw [len_of S98 N98]
    exact k
  obtain ⟨T99, h99, L99, X99, e99, N99, K99, V99, st99⟩ := cpA X97 hx hZ hown (own_w hw 110 rfl) (own_w hw 113 rfl) (own_w hw 111 rfl) (own_w hw 112 rfl) e97 Vs Vb (Or.inl ⟨rfl, rfl⟩) (sp := (0 : Int32)) (dp := pi) (nn := sn) (us := (List.map own_by cs)) (by decide) hpi hn.1 (own_0le _) hle (own_rangeZ (by rw [List.length_map]; exact hn.2.symm)) (by rw [hwl]; exact hle) N95 gb (g := (mkF m 22 #[.val (.ref as), .val (.ref ab), .val (.int pi), .val (.int (0 : Int32))] [(.int sn), (.int pi), (.ref ab), (.int (0 : Int32)), (.ref sd)])) rfl (by rw [hml]; rfl) rfl (hb hby d19_22) (by decide) (W := 0) (by show 2 * 0 + _ ≤ _; exact Nat.le_of_eq rfl) (by decide)
  refine own_pre (fun t k => st99 t k) ?_
  have V99' : Arv Z h99 ab kb .byte zc (own_put wv pi.toNatClampNeg (List.map own_by cs)) (.int (0 : Int32)) := by
    have q := V99
    rw [own_eqp hn] at q
    exact q
  have Kc99 : Keep h0 h99 [ab] := (Keep.refl h0 [ab]).trans K99 (allS (Or.inl (List.mem_of_getElem? (i := 0) rfl)) all0)
  refine own_pre (A := (T99.setTop (mkF m 43 #[.val (.ref as), .val (.ref ab), .val (.int pi), .val (.int (0 : Int32))] []))) ?_ ?_
  · intro t k
    refine XS.goto X99.here hx rfl (pc0 := 25) (pc' := 43) rfl (hb hby d19_25) (by decide) (by decide) ?_
    exact k
  obtain ⟨fs, hr, hrun, hended, hW, hsame⟩ := X99.leave (hlocks := BodyLoose.notSynchronized Bd) (v := none) (fun _ => rfl)
  refine ⟨_, _, X99.returnOut hx Bd.returns (hb hby d19_43) hr, hrun, hended, _, _, rfl, ?_, ⟨_, rfl⟩, hW, hsame.mono (by decide) (by decide)⟩
  show own_Q19 Z as ab pi kb zc wv sd sk sn cs pG h0 n0 _ T99.heap _
  rw [e99]
  exact ⟨N99, rfl, Kc99, V99'⟩
theorem d17_0 : decode jdk_68_method_73_code 0 = .ok (.aload_n 0, 1) := by decide +kernel
theorem d17_1 : decode jdk_68_method_73_code 1 = .ok (.aload_n 2, 1) := by decide +kernel
theorem d17_2 : decode jdk_68_method_73_code 2 = .ok (.invokevirtual 397, 3) := by decide +kernel
theorem d17_5 : decode jdk_68_method_73_code 5 = .ok (.aload_n 2, 1) := by decide +kernel
theorem d17_6 : decode jdk_68_method_73_code 6 = .ok (.aload_n 0, 1) := by decide +kernel
theorem d17_7 : decode jdk_68_method_73_code 7 = .ok (.getfield 15, 3) := by decide +kernel
theorem d17_10 : decode jdk_68_method_73_code 10 = .ok (.iload_n 1, 1) := by decide +kernel
theorem d17_11 : decode jdk_68_method_73_code 11 = .ok (.aload_n 0, 1) := by decide +kernel
theorem d17_12 : decode jdk_68_method_73_code 12 = .ok (.getfield 22, 3) := by decide +kernel
theorem d17_15 : decode jdk_68_method_73_code 15 = .ok (.invokevirtual 399, 3) := by decide +kernel
theorem d17_18 : decode jdk_68_method_73_code 18 = .ok (.return_, 1) := by decide +kernel
theorem own_pn17 : plainName "java/lang/AbstractStringBuilder" = true := by first | (simp [plainName, overriddenIn]; done) | decide +kernel
theorem own_ef17 (m : MethodId) (x0 : Addr) (x1 : Int32) (x2 : Addr) : entryFrame m #[(.ref x0), (.int x1), (.ref x2)] 3 = mkF m 0 #[.val (.ref x0), .val (.int x1), .val (.ref x2)] [] := by first | (simp [entryFrame, mkF, argsToLocals, Value.category]; done) | rfl
def own_Q17 (Z : State) (ax : Addr) (pi : Int32) (as : Addr) (ab : Addr) (kb : ClassId) (zc : Int32) (wv : List Value) (sd : Addr) (sk : ClassId) (sn : Int32) (cs : List Int32) (pG : Int32) (h0 : Heap) (n0 : Nat) (v : Option Value) (h : Heap) (L : List Loc) : Prop := Fr n0 L ∧ v = none ∧ Keep h0 h [ab] ∧ Arv Z h ab kb .byte zc (own_put wv pi.toNatClampNeg (List.map own_by cs)) (.int (0 : Int32))
set_option maxRecDepth 65536 in
set_option maxHeartbeats 40000000 in
theorem rm17 (l : Launch) (Z : State) (a0 : Array Value) (hw : ∀ d ∈ tables_1, d.before a0 Z = true) (ws : List Jvm.Cond) (ax : Addr) (pi : Int32) (as : Addr) (ab : Addr) (kb : ClassId) (zc : Int32) (wv : List Value) (sd : Addr) (sk : ClassId) (sn : Int32) (cs : List Int32) (pG : Int32) (h0 : Heap) (n0 : Nat) (Z0 : n0 ≤ h0.size) (Eb : Exa Z h0 ax "java/lang/StringBuilder") (Bv : Fld Z h0 ax "java/lang/AbstractStringBuilder" "value" "[B" (.ref ab)) (Bc : Fld Z h0 ax "java/lang/AbstractStringBuilder" "coder" "B" (.int (0 : Int32))) (Es : Exa Z h0 as "java/lang/String") (Sv : Fld Z h0 as "java/lang/String" "value" "[B" (.ref sd)) (Sc : Fld Z h0 as "java/lang/String" "coder" "B" (.int (0 : Int32))) (Vs : Arv Z h0 sd sk .byte sn (List.map own_by cs) (.int (0 : Int32))) (Vb : Arv Z h0 ab kb .byte zc wv (.int (0 : Int32))) (gb : n0 ≤ ab) (nxb : ax ≠ ab) (nab : as ≠ ab) (nsb : sd ≠ ab) (hpi : ¬ pi < 0) (hn : own_n sn cs) (hle : pi.toNatClampNeg + sn.toNatClampNeg ≤ zc.toNatClampNeg) (hwl : wv.length = zc.toNatClampNeg) (O2 : Sta Z Z.heap "java/lang/String" "COMPACT_STRINGS" "Z" (.int pG)) (hG : ¬ pG = (0 : Int32)) (X00 : Old Z n0 h0) :
    MetFree l (⟨"java/lang/AbstractStringBuilder", "putStringAt", "(ILjava/lang/String;)V"⟩ : MethodName) (head1 (Jvm.Cond.code (⟨"java/lang/AbstractStringBuilder", "putStringAt", "(ILjava/lang/String;)V"⟩ : MethodName) jdk_68_method_73_code 3 none :: ws) ({ frames := 2, cells := 0, slots := 0, locals := 33 } : Room)) (fun a U => a = #[(.ref ax), (.int pi), (.ref as)] ∧ Z.Warmed39 U.vm ∧ U.heap = h0) (fun _ _ _ _ _ => True) (fun _ U o U' => ∃ v L, o = .returned v ∧ own_Q17 Z ax pi as ab kb zc wv sd sk sn cs pG h0 n0 v U'.heap L ∧ FrameEnd U o U' L ({ frames := 2, cells := 0, slots := 0, locals := 33 } : Room).cells ({ frames := 2, cells := 0, slots := 0, locals := 33 } : Room).slots) := by
  refine MetFree.of_bodySF (plainFor_of_name own_pn17) hisR ?_
  intro p e s m args below meth c s₁ Bd hml0 hP hK
  obtain ⟨rfl, hZ, hh⟩ := hP
  have hx := Bd.exec
  have hby := Bd.bytes
  have hml : c.maxLocals = 3 := hml0
  have hown : s.vm.findClass "java/lang/AbstractStringBuilder" = some m.cls := findClass_of_methodNamed Bd.named
  have hnm := (name_of_methodNamed Bd.named Bd.method).1
  have X0 : Stand p l e ({ frames := 2, cells := 0, slots := 0, locals := 33 } : Room) s m #[(.ref ax), (.int pi), (.ref as)] below meth c s₁ [] 0 0 := Stand.of_body Bd
  have e0 : s₁.heap = h0 := by rw [← hh, Bd.state]; rfl
  have N0 := Fr.nil n0
  refine own_pre (A := (s₁.setTop (mkF m 0 #[.val (.ref ax), .val (.int pi), .val (.ref as)] []))) (fun t k => castTop (own_ef17 m ax pi as) k) ?_
  refine own_pre (A := (s₁.setTop (mkF m 2 #[.val (.ref ax), .val (.int pi), .val (.ref as)] [(.ref as), (.ref ax)]))) ?_ ?_
  · intro t k
    refine XS.aloadN X0.here hx rfl (hb hby d17_0) rfl rfl ?_
    refine XS.aloadN X0.here hx rfl (hb hby d17_1) rfl rfl ?_
    exact k
  obtain ⟨cq100, kq100, q100a, -, -, q100d, -⟩ := id Eb
  obtain ⟨_, _, ⟨T100, L100, k100, n100⟩, -, X100, ⟨Lc100, hQ100, l100, y100, z100⟩, st100⟩ := X0.privateBack hx (y := (⟨"java/lang/AbstractStringBuilder", "inflateIfNeededFor", "(Ljava/lang/String;)V"⟩ : MethodName)) hown (mvT hZ (own_w hw 99 rfl)) (mvT hZ (own_w hw 100 rfl)) (own_priv (mvT hZ (own_w hw 102 rfl)) (mvT hZ (own_w hw 101 rfl)) (mvT hZ (own_w hw 100 rfl)) (by decide)) (Cond.privateMethod_at (args := #[]) (mvT hZ (own_w hw 101 rfl))) (mvT hZ (own_w hw 103 rfl)) (by decide) (backOf (W := 0) (rm18 l Z a0 hw [] ax as pG h0 n0 Z0 Bc Es Sc O2 hG X00) hZ (own_w hw 103 rfl) (own_w hw 58 rfl) (by decide) (by decide)) (g := (mkF m 2 #[.val (.ref ax), .val (.int pi), .val (.ref as)] [(.ref as), (.ref ax)])) rfl (by rw [hml]; rfl) (Steps.refl _) (a := ax) (by first | exact q100a | (rw [e0]; exact q100a)) (own_nst q100d) (argsL := [(.ref as)]) (rest := []) (lenOf own_pd19 rfl) rfl (by show 2 * 0 + _ ≤ _; exact Nat.le_of_eq rfl) (hb hby d17_2) (fun _ _ => ⟨rfl, e0, (by decide : 0 + 0 ≤ _), (by decide : 0 + 0 ≤ _)⟩)
  dsimp only [Pt.U, Pt.locs, Pt.cells, Pt.slots] at X100 l100 y100 z100 st100 hQ100
  replace y100 : _ = 0 := y100
  replace z100 : _ = 0 := z100
  subst y100 z100
  obtain ⟨Nq100, rfl, eq100⟩ := hQ100
  have N100 := own_frl l100 N0 Nq100
  refine own_pre (fun t k => st100.trans k) ?_
  refine own_pre (A := (T100.setTop (mkF m 7 #[.val (.ref ax), .val (.int pi), .val (.ref as)] [(.ref ax), (.ref as)]))) ?_ ?_
  · intro t k
    refine XS.aloadN X100.here hx rfl (hb hby d17_5) rfl rfl ?_
    refine XS.aloadN X100.here hx rfl (hb hby d17_6) rfl rfl ?_
    exact k
  obtain ⟨T101, X101, e101, st101⟩ := getF X100 hx hZ hown (host := "") (Or.inl (own_w hw 62 rfl)) Via.refl eq100 Bv (g := (mkF m 7 #[.val (.ref ax), .val (.int pi), .val (.ref as)] [(.ref ax), (.ref as)])) rfl rfl (hb hby d17_7)
  refine own_pre (fun t k => st101 t k) ?_
  refine own_pre (A := (T101.setTop (mkF m 12 #[.val (.ref ax), .val (.int pi), .val (.ref as)] [(.ref ax), (.int pi), (.ref ab), (.ref as)]))) ?_ ?_
  · intro t k
    refine XS.iloadN X101.here hx rfl (hb hby d17_10) rfl ?_
    refine XS.aloadN X101.here hx rfl (hb hby d17_11) rfl rfl ?_
    exact k
  obtain ⟨T102, X102, e102, st102⟩ := getF X101 hx hZ hown (host := "") (Or.inl (own_w hw 64 rfl)) Via.refl e101 Bc (g := (mkF m 12 #[.val (.ref ax), .val (.int pi), .val (.ref as)] [(.ref ax), (.int pi), (.ref ab), (.ref as)])) rfl rfl (hb hby d17_12)
  refine own_pre (fun t k => st102 t k) ?_
  obtain ⟨cq103, kq103, q103a, q103b, q103c⟩ := isOf hZ e102 Es
  obtain ⟨_, _, ⟨T103, L103, k103, n103⟩, -, X103, ⟨Lc103, hQ103, l103, y103, z103⟩, st103⟩ := X102.virtualBack hx (y := (⟨"java/lang/String", "getBytes", "([BIB)V"⟩ : MethodName)) (z := (⟨"java/lang/String", "getBytes", "([BIB)V"⟩ : MethodName)) hown (mvT hZ (own_w hw 105 rfl)) (mvT hZ (own_w hw 106 rfl)) (notFace_of_selects (args := #[]) (mvT hZ (own_w hw 108 rfl))) (mvT hZ (own_w hw 108 rfl)) (mvT hZ (own_w hw 107 rfl)) (by decide) (backOf (W := 0) (rm19 l Z a0 hw [] as ab pi kb zc wv sd sk sn cs pG h0 n0 Z0 Es Sv Sc Vs Vb gb nab nsb hpi hn hle hwl O2 hG X00) hZ (own_w hw 109 rfl) (own_w hw 6 rfl) (by decide) (by decide)) q103a q103c (g := (mkF m 15 #[.val (.ref ax), .val (.int pi), .val (.ref as)] [(.int (0 : Int32)), (.int pi), (.ref ab), (.ref as)])) rfl (by rw [hml]; rfl) (Steps.refl _) (argsL := [(.ref ab), (.int pi), (.int (0 : Int32))]) (rest := []) (lenOf own_pd20 rfl) rfl (by show 2 * 0 + _ ≤ _; exact Nat.le_of_eq rfl) (hb hby d17_15) (fun _ _ => ⟨rfl, e102, (by decide : 0 + 0 ≤ _), (by decide : 0 + 0 ≤ _)⟩)
  dsimp only [Pt.U, Pt.locs, Pt.cells, Pt.slots] at X103 l103 y103 z103 st103 hQ103
  replace y103 : _ = 0 := y103
  replace z103 : _ = 0 := z103
  subst y103 z103
  obtain ⟨Nq103, rfl, Kq103, Vq103⟩ := hQ103
  have N103 := own_frl l103 N100 Nq103
  refine own_pre (fun t k => st103.trans k) ?_
  have Kc103 : Keep h0 T103.heap [ab] := (Keep.refl h0 [ab]).trans Kq103 (allS (Or.inl (List.mem_of_getElem? (i := 0) rfl)) all0)
  obtain ⟨fs, hr, hrun, hended, hW, hsame⟩ := X103.leave (hlocks := BodyLoose.notSynchronized Bd) (v := none) (fun _ => rfl)
  refine ⟨_, _, X103.returnOut hx Bd.returns (hb hby d17_18) hr, hrun, hended, _, _, rfl, ?_, ⟨_, rfl⟩, hW, hsame.mono (by decide) (by decide)⟩
  show own_Q17 Z ax pi as ab kb zc wv sd sk sn cs pG h0 n0 _ T103.heap _
  exact ⟨N103, rfl, Kc103, Vq103⟩
theorem d13_0 : decode jdk_68_method_22_code 0 = .ok (.aload_n 1, 1) := by decide +kernel
theorem d13_1 : decode jdk_68_method_22_code 1 = .ok (.ifnonnull 8, 3) := by decide +kernel
theorem d13_9 : decode jdk_68_method_22_code 9 = .ok (.aload_n 1, 1) := by decide +kernel
theorem d13_10 : decode jdk_68_method_22_code 10 = .ok (.invokevirtual 32, 3) := by decide +kernel
theorem d13_13 : decode jdk_68_method_22_code 13 = .ok (.istore_n 2, 1) := by decide +kernel
theorem d13_14 : decode jdk_68_method_22_code 14 = .ok (.aload_n 0, 1) := by decide +kernel
theorem d13_15 : decode jdk_68_method_22_code 15 = .ok (.aload_n 0, 1) := by decide +kernel
theorem d13_16 : decode jdk_68_method_22_code 16 = .ok (.getfield 79, 3) := by decide +kernel
theorem d13_19 : decode jdk_68_method_22_code 19 = .ok (.iload_n 2, 1) := by decide +kernel
theorem d13_20 : decode jdk_68_method_22_code 20 = .ok (.iadd, 1) := by decide +kernel
theorem d13_21 : decode jdk_68_method_22_code 21 = .ok (.invokevirtual 100, 3) := by decide +kernel
theorem d13_24 : decode jdk_68_method_22_code 24 = .ok (.aload_n 0, 1) := by decide +kernel
theorem d13_25 : decode jdk_68_method_22_code 25 = .ok (.aload_n 0, 1) := by decide +kernel
theorem d13_26 : decode jdk_68_method_22_code 26 = .ok (.getfield 79, 3) := by decide +kernel
theorem d13_29 : decode jdk_68_method_22_code 29 = .ok (.aload_n 1, 1) := by decide +kernel
theorem d13_30 : decode jdk_68_method_22_code 30 = .ok (.invokevirtual 208, 3) := by decide +kernel
theorem d13_33 : decode jdk_68_method_22_code 33 = .ok (.aload_n 0, 1) := by decide +kernel
theorem d13_34 : decode jdk_68_method_22_code 34 = .ok (.dup, 1) := by decide +kernel
theorem d13_35 : decode jdk_68_method_22_code 35 = .ok (.getfield 79, 3) := by decide +kernel
theorem d13_38 : decode jdk_68_method_22_code 38 = .ok (.iload_n 2, 1) := by decide +kernel
theorem d13_39 : decode jdk_68_method_22_code 39 = .ok (.iadd, 1) := by decide +kernel
theorem d13_40 : decode jdk_68_method_22_code 40 = .ok (.putfield 79, 3) := by decide +kernel
theorem d13_43 : decode jdk_68_method_22_code 43 = .ok (.aload_n 0, 1) := by decide +kernel
theorem d13_44 : decode jdk_68_method_22_code 44 = .ok (.areturn, 1) := by decide +kernel
theorem own_pn13 : plainName "java/lang/AbstractStringBuilder" = true := by first | (simp [plainName, overriddenIn]; done) | decide +kernel
theorem own_ef13 (m : MethodId) (x0 : Addr) (x1 : Addr) : entryFrame m #[(.ref x0), (.ref x1)] 3 = mkF m 0 #[.val (.ref x0), .val (.ref x1), .unset] [] := by first | (simp [entryFrame, mkF, argsToLocals, Value.category]; done) | rfl
def own_Q13 (Z : State) (ax : Addr) (as : Addr) (ab : Addr) (kb : ClassId) (zc : Int32) (pk : Int32) (wv : List Value) (cs0 : List Int32) (sd : Addr) (sk : ClassId) (sn : Int32) (cs : List Int32) (pG : Int32) (h0 : Heap) (n0 : Nat) (v : Option Value) (h : Heap) (L : List Loc) : Prop := Fr n0 L ∧ v = some (.ref ax) ∧ Keep h0 h [ax, ab] ∧ ∃ (ay : Addr) (ky : ClassId) (zy py : Int32) (wy : List Value), (ay = ab ∨ h0.size ≤ ay) ∧ n0 ≤ ay ∧ Fld Z h ax "java/lang/AbstractStringBuilder" "value" "[B" (.ref ay) ∧ Fld Z h ax "java/lang/AbstractStringBuilder" "coder" "B" (.int (0 : Int32)) ∧ Fld Z h ax "java/lang/AbstractStringBuilder" "count" "I" (.int py) ∧ Exa Z h ay "[B" ∧ Arv Z h ay ky .byte zy wy (.int (0 : Int32)) ∧ own_ok zy py wy (cs0 ++ cs)
set_option maxRecDepth 65536 in
set_option maxHeartbeats 40000000 in
theorem rm13 (l : Launch) (Z : State) (a0 : Array Value) (hw : ∀ d ∈ tables_1, d.before a0 Z = true) (ws : List Jvm.Cond) (ax : Addr) (as : Addr) (ab : Addr) (kb : ClassId) (zc : Int32) (pk : Int32) (wv : List Value) (cs0 : List Int32) (sd : Addr) (sk : ClassId) (sn : Int32) (cs : List Int32) (pG : Int32) (h0 : Heap) (n0 : Nat) (Z0 : n0 ≤ h0.size) (Eb : Exa Z h0 ax "java/lang/StringBuilder") (Bv : Fld Z h0 ax "java/lang/AbstractStringBuilder" "value" "[B" (.ref ab)) (Bc : Fld Z h0 ax "java/lang/AbstractStringBuilder" "coder" "B" (.int (0 : Int32))) (Bk : Fld Z h0 ax "java/lang/AbstractStringBuilder" "count" "I" (.int pk)) (Ey : Exa Z h0 ab "[B") (Vb : Arv Z h0 ab kb .byte zc wv (.int (0 : Int32))) (ok : own_ok zc pk wv cs0) (ga : n0 ≤ ax) (gb : n0 ≤ ab) (nxb : ax ≠ ab) (Es : Exa Z h0 as "java/lang/String") (Sv : Fld Z h0 as "java/lang/String" "value" "[B" (.ref sd)) (Sc : Fld Z h0 as "java/lang/String" "coder" "B" (.int (0 : Int32))) (Vs : Arv Z h0 sd sk .byte sn (List.map own_by cs) (.int (0 : Int32))) (nab : as ≠ ab) (nsb : sd ≠ ab) (nas : as ≠ ax) (nsx : sd ≠ ax) (hn : own_n sn cs) (hle : cs0.length + cs.length ≤ 34) (O2 : Sta Z Z.heap "java/lang/String" "COMPACT_STRINGS" "Z" (.int pG)) (hG : ¬ pG = (0 : Int32)) (X00 : Old Z n0 h0) :
    MetFree l (⟨"java/lang/AbstractStringBuilder", "append", "(Ljava/lang/String;)Ljava/lang/AbstractStringBuilder;"⟩ : MethodName) (head1 (Jvm.Cond.code (⟨"java/lang/AbstractStringBuilder", "append", "(Ljava/lang/String;)Ljava/lang/AbstractStringBuilder;"⟩ : MethodName) jdk_68_method_22_code 3 (some (.object "java/lang/AbstractStringBuilder")) :: ws) ({ frames := 4, cells := 1, slots := 34, locals := 62 } : Room)) (fun a U => a = #[(.ref ax), (.ref as)] ∧ Z.Warmed39 U.vm ∧ U.heap = h0) (fun _ _ _ _ _ => True) (fun _ U o U' => ∃ v L, o = .returned v ∧ own_Q13 Z ax as ab kb zc pk wv cs0 sd sk sn cs pG h0 n0 v U'.heap L ∧ FrameEnd U o U' L ({ frames := 4, cells := 1, slots := 34, locals := 62 } : Room).cells ({ frames := 4, cells := 1, slots := 34, locals := 62 } : Room).slots) := by
  refine MetFree.of_bodySF (plainFor_of_name own_pn13) hisR ?_
  intro p e s m args below meth c s₁ Bd hml0 hP hK
  obtain ⟨rfl, hZ, hh⟩ := hP
  have hx := Bd.exec
  have hby := Bd.bytes
  have hml : c.maxLocals = 3 := hml0
  have hown : s.vm.findClass "java/lang/AbstractStringBuilder" = some m.cls := findClass_of_methodNamed Bd.named
  have hnm := (name_of_methodNamed Bd.named Bd.method).1
  have X0 : Stand p l e ({ frames := 4, cells := 1, slots := 34, locals := 62 } : Room) s m #[(.ref ax), (.ref as)] below meth c s₁ [] 0 0 := Stand.of_body Bd
  have e0 : s₁.heap = h0 := by rw [← hh, Bd.state]; rfl
  have N0 := Fr.nil n0
  refine own_pre (A := (s₁.setTop (mkF m 0 #[.val (.ref ax), .val (.ref as), .unset] []))) (fun t k => castTop (own_ef13 m ax as) k) ?_
  refine own_pre (A := (s₁.setTop (mkF m 10 #[.val (.ref ax), .val (.ref as), .unset] [(.ref as)]))) ?_ ?_
  · intro t k
    refine XS.aloadN X0.here hx rfl (hb hby d13_0) rfl rfl ?_
    refine XS.ifnonnullYes X0.here hx rfl (pc0 := 1) (pc' := 9) rfl (hb hby d13_1) rfl (by decide) (by decide) ?_
    refine XS.aloadN X0.here hx rfl (hb hby d13_9) rfl rfl ?_
    exact k
  obtain ⟨cq104, kq104, q104a, q104b, q104c⟩ := isOf hZ e0 Es
  obtain ⟨_, _, ⟨T104, L104, k104, n104⟩, -, X104, ⟨Lc104, hQ104, l104, y104, z104⟩, st104⟩ := X0.virtualBack hx (y := (⟨"java/lang/String", "length", "()I"⟩ : MethodName)) (z := (⟨"java/lang/String", "length", "()I"⟩ : MethodName)) hown (mvT hZ (own_w hw 77 rfl)) (mvT hZ (own_w hw 78 rfl)) (notFace_of_selects (args := #[]) (mvT hZ (own_w hw 80 rfl))) (mvT hZ (own_w hw 80 rfl)) (mvT hZ (own_w hw 79 rfl)) (by decide) (backOf (W := 0) (rm14 l Z a0 hw [] as sd sk sn (List.map own_by cs) pG h0 n0 Z0 Es Sv Sc Vs O2 hG X00) hZ (own_w hw 81 rfl) (own_w hw 6 rfl) (by decide) (by decide)) q104a q104c (g := (mkF m 10 #[.val (.ref ax), .val (.ref as), .unset] [(.ref as)])) rfl (by rw [hml]; rfl) (Steps.refl _) (argsL := []) (rest := []) (lenOf own_pd21 rfl) rfl (by show 2 * 0 + _ ≤ _; exact Nat.le_of_eq rfl) (hb hby d13_10) (fun _ _ => ⟨rfl, e0, (by decide : 0 + 0 ≤ _), (by decide : 0 + 0 ≤ _)⟩)
  dsimp only [Pt.U, Pt.locs, Pt.cells, Pt.slots] at X104 l104 y104 z104 st104 hQ104
  replace y104 : _ = 0 := y104
  replace z104 : _ = 0 := z104
  subst y104 z104
  obtain ⟨Nq104, rfl, eq104⟩ := hQ104
  have N104 := own_frl l104 N0 Nq104
  refine own_pre (fun t k => st104.trans k) ?_
  refine own_pre (A := (T104.setTop (mkF m 16 #[.val (.ref ax), .val (.ref as), .val (.int sn)] [(.ref ax), (.ref ax)]))) ?_ ?_
  · intro t k
    refine XS.istoreN X104.here hx rfl (hb hby d13_13) rfl (l' := #[.val (.ref ax), .val (.ref as), .val (.int sn)]) rfl ?_
    refine XS.aloadN X104.here hx rfl (hb hby d13_14) rfl rfl ?_
    refine XS.aloadN X104.here hx rfl (hb hby d13_15) rfl rfl ?_
    exact k
  obtain ⟨T105, X105, e105, st105⟩ := getF X104 hx hZ hown (host := "") (Or.inl (own_w hw 87 rfl)) Via.refl eq104 Bk (g := (mkF m 16 #[.val (.ref ax), .val (.ref as), .val (.int sn)] [(.ref ax), (.ref ax)])) rfl rfl (hb hby d13_16)
  refine own_pre (fun t k => st105 t k) ?_
  refine own_pre (A := (T105.setTop (mkF m 21 #[.val (.ref ax), .val (.ref as), .val (.int sn)] [(.int (pk + sn)), (.ref ax)]))) ?_ ?_
  · intro t k
    refine XS.iloadN X105.here hx rfl (hb hby d13_19) rfl ?_
    refine XS.iadd X105.here hx rfl (hb hby d13_20) rfl ?_
    exact k
  obtain ⟨cq106, kq106, q106a, -, -, q106d, -⟩ := id Eb
  obtain ⟨_, _, ⟨T106, L106, k106, n106⟩, -, X106, ⟨Lc106, hQ106, l106, y106, z106⟩, st106⟩ := X105.privateBack hx (y := (⟨"java/lang/AbstractStringBuilder", "ensureCapacityInternal", "(I)V"⟩ : MethodName)) hown (mvT hZ (own_w hw 89 rfl)) (mvT hZ (own_w hw 90 rfl)) (own_priv (mvT hZ (own_w hw 92 rfl)) (mvT hZ (own_w hw 91 rfl)) (mvT hZ (own_w hw 90 rfl)) (by decide)) (Cond.privateMethod_at (args := #[]) (mvT hZ (own_w hw 91 rfl))) (mvT hZ (own_w hw 93 rfl)) (by decide) (backOf (W := 0) (rm16 l Z a0 hw [] ax (pk + sn) ab kb zc pk wv cs0 h0 n0 Z0 Eb Bv Bc Bk Ey Vb ok ga gb nxb (own_hpm ok hn hle)) hZ (own_w hw 93 rfl) (own_w hw 58 rfl) (by decide) (by decide)) (g := (mkF m 21 #[.val (.ref ax), .val (.ref as), .val (.int sn)] [(.int (pk + sn)), (.ref ax)])) rfl (by rw [hml]; rfl) (Steps.refl _) (a := ax) (by first | exact q106a | (rw [e105]; exact q106a)) (own_nst q106d) (argsL := [(.int (pk + sn))]) (rest := []) (lenOf own_pd14 rfl) rfl (by show 2 * 0 + _ ≤ _; exact Nat.le_of_eq rfl) (hb hby d13_21) (fun _ _ => ⟨rfl, e105, (by decide : 0 + 1 ≤ _), (by decide : 0 + 34 ≤ _)⟩)
  dsimp only [Pt.U, Pt.locs, Pt.cells, Pt.slots] at X106 l106 y106 z106 st106 hQ106
  replace y106 : _ = 1 := y106
  replace z106 : _ = 34 := z106
  subst y106 z106
  obtain ⟨Nq106, rfl, Kq106, ay106, kq106, zq106, wq106, oq106, gq106, Bv106, Bc106, Bk106, Ey106, Vq106, ok106, pz106⟩ := hQ106
  have N106 := own_frl l106 N104 Nq106
  refine own_pre (fun t k => st106.trans k) ?_
  have ne_as_ay106 := own_or_ne oq106 nab Es.lt
  have ne_ax_ay106 := own_or_ne oq106 nxb Eb.lt
  have ne_sd_ay106 := own_or_ne oq106 nsb Vs.lt
  have or_ay106 := own_or_mem oq106 (ws := [ax, ab]) (List.mem_of_getElem? (i := 1) rfl) (Keep.refl h0 [ax, ab]).1
  have Es_106 := Es.keep Kq106
  have Sv_106 := Sv.keep Kq106 (ninS nas nin0)
  have Sc_106 := Sc.keep Kq106 (ninS nas nin0)
  have Vs_106 := Vs.keep Kq106 (ninS nsx nin0)
  have Eb_106 := Eb.keep Kq106
  have X00_106 := X00.keep Kq106 (allS ga all0)
  have Zs106 : n0 ≤ T106.heap.size := Nat.le_trans Z0 Kq106.1
  have Kc106 : Keep h0 T106.heap [ax, ab] := (Keep.refl h0 [ax, ab]).trans Kq106 (allS (Or.inl (List.mem_of_getElem? (i := 0) rfl)) all0)
  refine own_pre (A := (T106.setTop (mkF m 26 #[.val (.ref ax), .val (.ref as), .val (.int sn)] [(.ref ax), (.ref ax)]))) ?_ ?_
  · intro t k
    refine XS.aloadN X106.here hx rfl (hb hby d13_24) rfl rfl ?_
    refine XS.aloadN X106.here hx rfl (hb hby d13_25) rfl rfl ?_
    exact k
  obtain ⟨T107, X107, e107, st107⟩ := getF X106 hx hZ hown (host := "") (Or.inl (own_w hw 87 rfl)) Via.refl rfl Bk106 (g := (mkF m 26 #[.val (.ref ax), .val (.ref as), .val (.int sn)] [(.ref ax), (.ref ax)])) rfl rfl (hb hby d13_26)
  refine own_pre (fun t k => st107 t k) ?_
  refine own_pre (A := (T107.setTop (mkF m 30 #[.val (.ref ax), .val (.ref as), .val (.int sn)] [(.ref as), (.int pk), (.ref ax)]))) ?_ ?_
  · intro t k
    refine XS.aloadN X107.here hx rfl (hb hby d13_29) rfl rfl ?_
    exact k
  obtain ⟨cq108, kq108, q108a, -, -, q108d, -⟩ := id Eb_106
  obtain ⟨_, _, ⟨T108, L108, k108, n108⟩, -, X108, ⟨Lc108, hQ108, l108, y108, z108⟩, st108⟩ := X107.privateBack hx (y := (⟨"java/lang/AbstractStringBuilder", "putStringAt", "(ILjava/lang/String;)V"⟩ : MethodName)) hown (mvT hZ (own_w hw 94 rfl)) (mvT hZ (own_w hw 95 rfl)) (own_priv (mvT hZ (own_w hw 97 rfl)) (mvT hZ (own_w hw 96 rfl)) (mvT hZ (own_w hw 95 rfl)) (by decide)) (Cond.privateMethod_at (args := #[]) (mvT hZ (own_w hw 96 rfl))) (mvT hZ (own_w hw 98 rfl)) (by decide) (backOf (W := 0) (rm17 l Z a0 hw [] ax pk as ay106 kq106 zq106 wq106 sd sk sn cs pG T106.heap n0 Zs106 Eb_106 Bv106 Bc106 Es_106 Sv_106 Sc_106 Vs_106 Vq106 gq106 ne_ax_ay106 ne_as_ay106 ne_sd_ay106 ok106.2.2.1 hn (own_hle ok106 hn hle pz106) ok106.2.1 O2 hG X00_106) hZ (own_w hw 98 rfl) (own_w hw 58 rfl) (by decide) (by decide)) (g := (mkF m 30 #[.val (.ref ax), .val (.ref as), .val (.int sn)] [(.ref as), (.int pk), (.ref ax)])) rfl (by rw [hml]; rfl) (Steps.refl _) (a := ax) (by first | exact q108a | (rw [e107]; exact q108a)) (own_nst q108d) (argsL := [(.int pk), (.ref as)]) (rest := []) (lenOf own_pd22 rfl) rfl (by show 2 * 0 + _ ≤ _; exact Nat.le_of_eq rfl) (hb hby d13_30) (fun _ _ => ⟨rfl, e107, (by decide : 1 + 0 ≤ _), (by decide : 34 + 0 ≤ _)⟩)
  dsimp only [Pt.U, Pt.locs, Pt.cells, Pt.slots] at X108 l108 y108 z108 st108 hQ108
  replace y108 : _ = 1 := y108
  replace z108 : _ = 34 := z108
  subst y108 z108
  obtain ⟨Nq108, rfl, Kq108, Vq108⟩ := hQ108
  have N108 := own_frl l108 N106 Nq108
  refine own_pre (fun t k => st108.trans k) ?_
  have Eb_108 := Eb_106.keep Kq108
  have Bv106_108 := Bv106.keep Kq108 (ninS ne_ax_ay106 nin0)
  have Bc106_108 := Bc106.keep Kq108 (ninS ne_ax_ay106 nin0)
  have Bk106_108 := Bk106.keep Kq108 (ninS ne_ax_ay106 nin0)
  have Ey106_108 := Ey106.keep Kq108
  have Kc108 : Keep h0 T108.heap [ax, ab] := Kc106.trans Kq108 (allS (or_ay106) all0)
  refine own_pre (A := (T108.setTop (mkF m 35 #[.val (.ref ax), .val (.ref as), .val (.int sn)] [(.ref ax), (.ref ax)]))) ?_ ?_
  · intro t k
    refine XS.aloadN X108.here hx rfl (hb hby d13_33) rfl rfl ?_
    refine XS.dup X108.here hx rfl (hb hby d13_34) rfl rfl ?_
    exact k
  obtain ⟨T109, X109, e109, st109⟩ := getF X108 hx hZ hown (host := "") (Or.inl (own_w hw 87 rfl)) Via.refl rfl Bk106_108 (g := (mkF m 35 #[.val (.ref ax), .val (.ref as), .val (.int sn)] [(.ref ax), (.ref ax)])) rfl rfl (hb hby d13_35)
  refine own_pre (fun t k => st109 t k) ?_
  refine own_pre (A := (T109.setTop (mkF m 40 #[.val (.ref ax), .val (.ref as), .val (.int sn)] [(.int (pk + sn)), (.ref ax)]))) ?_ ?_
  · intro t k
    refine XS.iloadN X109.here hx rfl (hb hby d13_38) rfl ?_
    refine XS.iadd X109.here hx rfl (hb hby d13_39) rfl ?_
    exact k
  obtain ⟨T110, h110, X110, e110, W110, st110⟩ := putF X109 hx hZ hown (host := "") (Or.inl (own_w hw 87 rfl)) Via.refl e109 Bk106_108 Eb_108 (Or.inl (own_w hw 88 rfl)) (own_w hw 49 rfl) (ty := .int) (by decide) rfl rfl (g := (mkF m 40 #[.val (.ref ax), .val (.ref as), .val (.int sn)] [(.int (pk + sn)), (.ref ax)])) rfl rfl (hb hby d13_40)
  have Bv106_110 := Bv106_108.other W110 (Or.inr (slot_ne (Or.inl (own_w hw 63 rfl)) (Or.inl (own_w hw 88 rfl)) (by decide) (t := (.array .byte)) (t' := .int) (by decide) (by decide)))
  have Bc106_110 := Bc106_108.other W110 (Or.inr (slot_ne (Or.inl (own_w hw 65 rfl)) (Or.inl (own_w hw 88 rfl)) (by decide) (t := .byte) (t' := .int) (by decide) (by decide)))
  have Ey106_110 := Ey106_108.wr W110
  have Vq108_110 := Vq108.other W110 ne_ax_ay106.symm
  have Kc110 : Keep h0 h110 [ax, ab] := Kc108.wr W110 (Or.inl (List.mem_of_getElem? (i := 0) rfl))
  have N110 := Fr.snoc X110 N108 ga
  have Fw110 := Bk106_108.same W110
  refine own_pre (fun t k => st110 t k) ?_
  refine own_pre (A := (T110.setTop (mkF m 44 #[.val (.ref ax), .val (.ref as), .val (.int sn)] [(.ref ax)]))) ?_ ?_
  · intro t k
    refine XS.aloadN X110.here hx rfl (hb hby d13_43) rfl rfl ?_
    exact k
  obtain ⟨fs, hr, hrun, hended, hW, hsame⟩ := X110.leave (hlocks := BodyLoose.notSynchronized Bd) (v := some (.ref ax)) (fun h => by rw [Bd.returns] at h; cases h)
  refine ⟨_, _, retOut X110 hx Bd.returns rfl (Or.inr (Or.inr (Or.inr (Or.inr ⟨rfl, rfl, rfl⟩)))) (hb hby d13_44) hr, hrun, hended, _, _, rfl, ?_, ⟨_, rfl⟩, hW, hsame.mono (by decide) (by decide)⟩
  show own_Q13 Z ax as ab kb zc pk wv cs0 sd sk sn cs pG h0 n0 _ T110.heap _
  rw [e110]
  exact ⟨N110, rfl, Kc110, ay106, kq106, zq106, (pk + sn), (own_put wq106 pk.toNatClampNeg (List.map own_by cs)), oq106, gq106, Bv106_110, Bc106_110, Fw110, Ey106_110, Vq108_110, (own_okp ok106 hn hle pz106)⟩
theorem d12_0 : decode jdk_67_method_7_code 0 = .ok (.aload_n 0, 1) := by decide +kernel
theorem d12_1 : decode jdk_67_method_7_code 1 = .ok (.aload_n 1, 1) := by decide +kernel
theorem d12_2 : decode jdk_67_method_7_code 2 = .ok (.invokespecial 29, 3) := by decide +kernel
theorem d12_5 : decode jdk_67_method_7_code 5 = .ok (.pop, 1) := by decide +kernel
theorem d12_6 : decode jdk_67_method_7_code 6 = .ok (.aload_n 0, 1) := by decide +kernel
theorem d12_7 : decode jdk_67_method_7_code 7 = .ok (.areturn, 1) := by decide +kernel
theorem own_pn12 : plainName "java/lang/StringBuilder" = true := by first | (simp [plainName, overriddenIn]; done) | decide +kernel
theorem own_ef12 (m : MethodId) (x0 : Addr) (x1 : Addr) : entryFrame m #[(.ref x0), (.ref x1)] 2 = mkF m 0 #[.val (.ref x0), .val (.ref x1)] [] := by first | (simp [entryFrame, mkF, argsToLocals, Value.category]; done) | rfl
def own_Q12 (Z : State) (ax : Addr) (as : Addr) (ab : Addr) (kb : ClassId) (zc : Int32) (pk : Int32) (wv : List Value) (cs0 : List Int32) (sd : Addr) (sk : ClassId) (sn : Int32) (cs : List Int32) (pG : Int32) (h0 : Heap) (n0 : Nat) (v : Option Value) (h : Heap) (L : List Loc) : Prop := Fr n0 L ∧ v = some (.ref ax) ∧ Keep h0 h [ax, ab] ∧ ∃ (ay : Addr) (ky : ClassId) (zy py : Int32) (wy : List Value), (ay = ab ∨ h0.size ≤ ay) ∧ n0 ≤ ay ∧ Fld Z h ax "java/lang/AbstractStringBuilder" "value" "[B" (.ref ay) ∧ Fld Z h ax "java/lang/AbstractStringBuilder" "coder" "B" (.int (0 : Int32)) ∧ Fld Z h ax "java/lang/AbstractStringBuilder" "count" "I" (.int py) ∧ Exa Z h ay "[B" ∧ Arv Z h ay ky .byte zy wy (.int (0 : Int32)) ∧ own_ok zy py wy (cs0 ++ cs)
set_option maxRecDepth 65536 in
set_option maxHeartbeats 40000000 in
theorem rm12 (l : Launch) (Z : State) (a0 : Array Value) (hw : ∀ d ∈ tables_1, d.before a0 Z = true) (ws : List Jvm.Cond) (ax : Addr) (as : Addr) (ab : Addr) (kb : ClassId) (zc : Int32) (pk : Int32) (wv : List Value) (cs0 : List Int32) (sd : Addr) (sk : ClassId) (sn : Int32) (cs : List Int32) (pG : Int32) (h0 : Heap) (n0 : Nat) (Z0 : n0 ≤ h0.size) (Eb : Exa Z h0 ax "java/lang/StringBuilder") (Bv : Fld Z h0 ax "java/lang/AbstractStringBuilder" "value" "[B" (.ref ab)) (Bc : Fld Z h0 ax "java/lang/AbstractStringBuilder" "coder" "B" (.int (0 : Int32))) (Bk : Fld Z h0 ax "java/lang/AbstractStringBuilder" "count" "I" (.int pk)) (Ey : Exa Z h0 ab "[B") (Vb : Arv Z h0 ab kb .byte zc wv (.int (0 : Int32))) (ok : own_ok zc pk wv cs0) (ga : n0 ≤ ax) (gb : n0 ≤ ab) (nxb : ax ≠ ab) (Es : Exa Z h0 as "java/lang/String") (Sv : Fld Z h0 as "java/lang/String" "value" "[B" (.ref sd)) (Sc : Fld Z h0 as "java/lang/String" "coder" "B" (.int (0 : Int32))) (Vs : Arv Z h0 sd sk .byte sn (List.map own_by cs) (.int (0 : Int32))) (nab : as ≠ ab) (nsb : sd ≠ ab) (nas : as ≠ ax) (nsx : sd ≠ ax) (hn : own_n sn cs) (hle : cs0.length + cs.length ≤ 34) (O2 : Sta Z Z.heap "java/lang/String" "COMPACT_STRINGS" "Z" (.int pG)) (hG : ¬ pG = (0 : Int32)) (X00 : Old Z n0 h0) :
    MetFree l (⟨"java/lang/StringBuilder", "append", "(Ljava/lang/String;)Ljava/lang/StringBuilder;"⟩ : MethodName) (head1 (Jvm.Cond.code (⟨"java/lang/StringBuilder", "append", "(Ljava/lang/String;)Ljava/lang/StringBuilder;"⟩ : MethodName) jdk_67_method_7_code 2 (some (.object "java/lang/StringBuilder")) :: ws) ({ frames := 5, cells := 1, slots := 34, locals := 76 } : Room)) (fun a U => a = #[(.ref ax), (.ref as)] ∧ Z.Warmed39 U.vm ∧ U.heap = h0) (fun _ _ _ _ _ => True) (fun _ U o U' => ∃ v L, o = .returned v ∧ own_Q12 Z ax as ab kb zc pk wv cs0 sd sk sn cs pG h0 n0 v U'.heap L ∧ FrameEnd U o U' L ({ frames := 5, cells := 1, slots := 34, locals := 76 } : Room).cells ({ frames := 5, cells := 1, slots := 34, locals := 76 } : Room).slots) := by
  refine MetFree.of_bodySF (plainFor_of_name own_pn12) hisR ?_
  intro p e s m args below meth c s₁ Bd hml0 hP hK
  obtain ⟨rfl, hZ, hh⟩ := hP
  have hx := Bd.exec
  have hby := Bd.bytes
  have hml : c.maxLocals = 2 := hml0
  have hown : s.vm.findClass "java/lang/StringBuilder" = some m.cls := findClass_of_methodNamed Bd.named
  have hnm := (name_of_methodNamed Bd.named Bd.method).1
  have X0 : Stand p l e ({ frames := 5, cells := 1, slots := 34, locals := 76 } : Room) s m #[(.ref ax), (.ref as)] below meth c s₁ [] 0 0 := Stand.of_body Bd
  have e0 : s₁.heap = h0 := by rw [← hh, Bd.state]; rfl
  have N0 := Fr.nil n0
  refine own_pre (A := (s₁.setTop (mkF m 0 #[.val (.ref ax), .val (.ref as)] []))) (fun t k => castTop (own_ef12 m ax as) k) ?_
  refine own_pre (A := (s₁.setTop (mkF m 2 #[.val (.ref ax), .val (.ref as)] [(.ref as), (.ref ax)]))) ?_ ?_
  · intro t k
    refine XS.aloadN X0.here hx rfl (hb hby d12_0) rfl rfl ?_
    refine XS.aloadN X0.here hx rfl (hb hby d12_1) rfl rfl ?_
    exact k
  obtain ⟨_, _, ⟨T111, L111, k111, n111⟩, -, X111, ⟨Lc111, hQ111, l111, y111, z111⟩, st111⟩ := superBack X0 hx hZ (y := (⟨"java/lang/AbstractStringBuilder", "append", "(Ljava/lang/String;)Ljava/lang/AbstractStringBuilder;"⟩ : MethodName)) hown (own_w hw 72 rfl) (own_same (B := "java/lang/StringBuilder") (x := (⟨"java/lang/AbstractStringBuilder", "ensureCapacityInternal", "(I)V"⟩ : MethodName)) (z := (⟨"java/lang/AbstractStringBuilder", "ensureCapacityInternal", "(I)V"⟩ : MethodName)) (own_w hw 92 rfl) rfl (own_w hw 73 rfl) (by decide)) (own_w hw 73 rfl) (own_w hw 74 rfl) (by decide) (backOf (W := 0) (rm13 l Z a0 hw [] ax as ab kb zc pk wv cs0 sd sk sn cs pG h0 n0 Z0 Eb Bv Bc Bk Ey Vb ok ga gb nxb Es Sv Sc Vs nab nsb nas nsx hn hle O2 hG X00) hZ (own_w hw 76 rfl) (own_w hw 58 rfl) (by decide) (by decide)) e0 (Ins.self Eb) (g := (mkF m 2 #[.val (.ref ax), .val (.ref as)] [(.ref as), (.ref ax)])) rfl (by rw [hml]; rfl) (own_w hw 76 rfl) (argsL := [(.ref as)]) (rest := []) (lenOf own_pd23 rfl) rfl (by show 2 * 0 + _ ≤ _; exact Nat.le_of_eq rfl) (hb hby d12_2) (fun _ _ => ⟨rfl, e0, (by decide : 0 + 1 ≤ _), (by decide : 0 + 34 ≤ _)⟩)
  dsimp only [Pt.U, Pt.locs, Pt.cells, Pt.slots] at X111 l111 y111 z111 st111 hQ111
  replace y111 : _ = 1 := y111
  replace z111 : _ = 34 := z111
  subst y111 z111
  obtain ⟨Nq111, rfl, Kq111, ay111, kq111, zq111, pq111, wq111, oq111, gq111, Bv111, Bc111, Bk111, Ey111, Vq111, ok111⟩ := hQ111
  have N111 := own_frl l111 N0 Nq111
  refine own_pre (fun t k => st111.trans k) ?_
  have ne_as_ay111 := own_or_ne oq111 nab Es.lt
  have ne_ax_ay111 := own_or_ne oq111 nxb Eb.lt
  have ne_sd_ay111 := own_or_ne oq111 nsb Vs.lt
  have or_ay111 := own_or_mem oq111 (ws := [ax, ab]) (List.mem_of_getElem? (i := 1) rfl) (Keep.refl h0 [ax, ab]).1
  have Kc111 : Keep h0 T111.heap [ax, ab] := (Keep.refl h0 [ax, ab]).trans Kq111 (allS (Or.inl (List.mem_of_getElem? (i := 0) rfl)) (allS (Or.inl (List.mem_of_getElem? (i := 1) rfl)) all0))
  refine own_pre (A := (T111.setTop (mkF m 7 #[.val (.ref ax), .val (.ref as)] [(.ref ax)]))) ?_ ?_
  · intro t k
    refine XS.pop X111.here hx rfl (hb hby d12_5) rfl rfl ?_
    refine XS.aloadN X111.here hx rfl (hb hby d12_6) rfl rfl ?_
    exact k
  obtain ⟨fs, hr, hrun, hended, hW, hsame⟩ := X111.leave (hlocks := BodyLoose.notSynchronized Bd) (v := some (.ref ax)) (fun h => by rw [Bd.returns] at h; cases h)
  refine ⟨_, _, retOut X111 hx Bd.returns rfl (Or.inr (Or.inr (Or.inr (Or.inr ⟨rfl, rfl, rfl⟩)))) (hb hby d12_7) hr, hrun, hended, _, _, rfl, ?_, ⟨_, rfl⟩, hW, hsame.mono (by decide) (by decide)⟩
  show own_Q12 Z ax as ab kb zc pk wv cs0 sd sk sn cs pG h0 n0 _ T111.heap _
  exact ⟨N111, rfl, Kc111, ay111, kq111, zq111, pq111, wq111, oq111, gq111, Bv111, Bc111, Bk111, Ey111, Vq111, ok111⟩
theorem d23_0 : decode jdk_68_method_64_code 0 = .ok (.aload_n 0, 1) := by decide +kernel
theorem d23_1 : decode jdk_68_method_64_code 1 = .ok (.getfield 15, 3) := by decide +kernel
theorem d23_4 : decode jdk_68_method_64_code 4 = .ok (.areturn, 1) := by decide +kernel
theorem own_pn23 : plainName "java/lang/AbstractStringBuilder" = true := by first | (simp [plainName, overriddenIn]; done) | decide +kernel
theorem own_ef23 (m : MethodId) (x0 : Addr) : entryFrame m #[(.ref x0)] 1 = mkF m 0 #[.val (.ref x0)] [] := by first | (simp [entryFrame, mkF, argsToLocals, Value.category]; done) | rfl
def own_Q23 (Z : State) (ax : Addr) (ab : Addr) (h0 : Heap) (n0 : Nat) (v : Option Value) (h : Heap) (L : List Loc) : Prop := Fr n0 L ∧ v = some (.ref ab) ∧ h = h0
set_option maxRecDepth 65536 in
set_option maxHeartbeats 40000000 in
theorem rm23 (l : Launch) (Z : State) (a0 : Array Value) (hw : ∀ d ∈ tables_1, d.before a0 Z = true) (ws : List Jvm.Cond) (ax : Addr) (ab : Addr) (h0 : Heap) (n0 : Nat) (Z0 : n0 ≤ h0.size) (Bv : Fld Z h0 ax "java/lang/AbstractStringBuilder" "value" "[B" (.ref ab)) :
    MetFree l (⟨"java/lang/AbstractStringBuilder", "getValue", "()[B"⟩ : MethodName) (head1 (Jvm.Cond.code (⟨"java/lang/AbstractStringBuilder", "getValue", "()[B"⟩ : MethodName) jdk_68_method_64_code 1 (some (.array .byte)) :: ws) ({ frames := 0, cells := 0, slots := 0, locals := 0 } : Room)) (fun a U => a = #[(.ref ax)] ∧ Z.Warmed39 U.vm ∧ U.heap = h0) (fun _ _ _ _ _ => True) (fun _ U o U' => ∃ v L, o = .returned v ∧ own_Q23 Z ax ab h0 n0 v U'.heap L ∧ FrameEnd U o U' L ({ frames := 0, cells := 0, slots := 0, locals := 0 } : Room).cells ({ frames := 0, cells := 0, slots := 0, locals := 0 } : Room).slots) := by
  refine MetFree.of_bodySF (plainFor_of_name own_pn23) hisR ?_
  intro p e s m args below meth c s₁ Bd hml0 hP hK
  obtain ⟨rfl, hZ, hh⟩ := hP
  have hx := Bd.exec
  have hby := Bd.bytes
  have hml : c.maxLocals = 1 := hml0
  have hown : s.vm.findClass "java/lang/AbstractStringBuilder" = some m.cls := findClass_of_methodNamed Bd.named
  have hnm := (name_of_methodNamed Bd.named Bd.method).1
  have X0 : Stand p l e ({ frames := 0, cells := 0, slots := 0, locals := 0 } : Room) s m #[(.ref ax)] below meth c s₁ [] 0 0 := Stand.of_body Bd
  have e0 : s₁.heap = h0 := by rw [← hh, Bd.state]; rfl
  have N0 := Fr.nil n0
  refine own_pre (A := (s₁.setTop (mkF m 0 #[.val (.ref ax)] []))) (fun t k => castTop (own_ef23 m ax) k) ?_
  refine own_pre (A := (s₁.setTop (mkF m 1 #[.val (.ref ax)] [(.ref ax)]))) ?_ ?_
  · intro t k
    refine XS.aloadN X0.here hx rfl (hb hby d23_0) rfl rfl ?_
    exact k
  obtain ⟨T112, X112, e112, st112⟩ := getF X0 hx hZ hown (host := "") (Or.inl (own_w hw 62 rfl)) Via.refl e0 Bv (g := (mkF m 1 #[.val (.ref ax)] [(.ref ax)])) rfl rfl (hb hby d23_1)
  refine own_pre (fun t k => st112 t k) ?_
  obtain ⟨fs, hr, hrun, hended, hW, hsame⟩ := X112.leave (hlocks := BodyLoose.notSynchronized Bd) (v := some (.ref ab)) (fun h => by rw [Bd.returns] at h; cases h)
  refine ⟨_, _, retOut X112 hx Bd.returns rfl (Or.inr (Or.inr (Or.inr (Or.inr ⟨rfl, rfl, rfl⟩)))) (hb hby d23_4) hr, hrun, hended, _, _, rfl, ?_, ⟨_, rfl⟩, hW, hsame.mono (by decide) (by decide)⟩
  show own_Q23 Z ax ab h0 n0 _ T112.heap _
  rw [e112]
  exact ⟨N0, rfl, rfl⟩
theorem d25_0 : decode jdk_68_method_6_code 0 = .ok (.aload_n 0, 1) := by decide +kernel
theorem d25_1 : decode jdk_68_method_6_code 1 = .ok (.getfield 79, 3) := by decide +kernel
theorem d25_4 : decode jdk_68_method_6_code 4 = .ok (.ireturn, 1) := by decide +kernel
theorem own_pn25 : plainName "java/lang/AbstractStringBuilder" = true := by first | (simp [plainName, overriddenIn]; done) | decide +kernel
theorem own_ef25 (m : MethodId) (x0 : Addr) : entryFrame m #[(.ref x0)] 1 = mkF m 0 #[.val (.ref x0)] [] := by first | (simp [entryFrame, mkF, argsToLocals, Value.category]; done) | rfl
def own_Q25 (Z : State) (ax : Addr) (pk : Int32) (h0 : Heap) (n0 : Nat) (v : Option Value) (h : Heap) (L : List Loc) : Prop := Fr n0 L ∧ v = some (.int pk) ∧ h = h0
set_option maxRecDepth 65536 in
set_option maxHeartbeats 40000000 in
theorem rm25 (l : Launch) (Z : State) (a0 : Array Value) (hw : ∀ d ∈ tables_1, d.before a0 Z = true) (ws : List Jvm.Cond) (ax : Addr) (pk : Int32) (h0 : Heap) (n0 : Nat) (Z0 : n0 ≤ h0.size) (Eb : Exa Z h0 ax "java/lang/StringBuilder") (Bk : Fld Z h0 ax "java/lang/AbstractStringBuilder" "count" "I" (.int pk)) :
    MetFree l (⟨"java/lang/AbstractStringBuilder", "length", "()I"⟩ : MethodName) (head1 (Jvm.Cond.code (⟨"java/lang/AbstractStringBuilder", "length", "()I"⟩ : MethodName) jdk_68_method_6_code 1 (some .int) :: ws) ({ frames := 0, cells := 0, slots := 0, locals := 0 } : Room)) (fun a U => a = #[(.ref ax)] ∧ Z.Warmed39 U.vm ∧ U.heap = h0) (fun _ _ _ _ _ => True) (fun _ U o U' => ∃ v L, o = .returned v ∧ own_Q25 Z ax pk h0 n0 v U'.heap L ∧ FrameEnd U o U' L ({ frames := 0, cells := 0, slots := 0, locals := 0 } : Room).cells ({ frames := 0, cells := 0, slots := 0, locals := 0 } : Room).slots) := by
  refine MetFree.of_bodySF (plainFor_of_name own_pn25) hisR ?_
  intro p e s m args below meth c s₁ Bd hml0 hP hK
  obtain ⟨rfl, hZ, hh⟩ := hP
  have hx := Bd.exec
  have hby := Bd.bytes
  have hml : c.maxLocals = 1 := hml0
  have hown : s.vm.findClass "java/lang/AbstractStringBuilder" = some m.cls := findClass_of_methodNamed Bd.named
  have hnm := (name_of_methodNamed Bd.named Bd.method).1
  have X0 : Stand p l e ({ frames := 0, cells := 0, slots := 0, locals := 0 } : Room) s m #[(.ref ax)] below meth c s₁ [] 0 0 := Stand.of_body Bd
  have e0 : s₁.heap = h0 := by rw [← hh, Bd.state]; rfl
  have N0 := Fr.nil n0
  refine own_pre (A := (s₁.setTop (mkF m 0 #[.val (.ref ax)] []))) (fun t k => castTop (own_ef25 m ax) k) ?_
  refine own_pre (A := (s₁.setTop (mkF m 1 #[.val (.ref ax)] [(.ref ax)]))) ?_ ?_
  · intro t k
    refine XS.aloadN X0.here hx rfl (hb hby d25_0) rfl rfl ?_
    exact k
  obtain ⟨T113, X113, e113, st113⟩ := getF X0 hx hZ hown (host := "") (Or.inl (own_w hw 87 rfl)) Via.refl e0 Bk (g := (mkF m 1 #[.val (.ref ax)] [(.ref ax)])) rfl rfl (hb hby d25_1)
  refine own_pre (fun t k => st113 t k) ?_
  obtain ⟨fs, hr, hrun, hended, hW, hsame⟩ := X113.leave (hlocks := BodyLoose.notSynchronized Bd) (v := some (.int pk)) (fun h => by rw [Bd.returns] at h; cases h)
  refine ⟨_, _, retOut X113 hx Bd.returns rfl (Or.inl ⟨rfl, Or.inl rfl, _, rfl⟩) (hb hby d25_4) hr, hrun, hended, _, _, rfl, ?_, ⟨_, rfl⟩, hW, hsame.mono (by decide) (by decide)⟩
  show own_Q25 Z ax pk h0 n0 _ T113.heap _
  rw [e113]
  exact ⟨N0, rfl, rfl⟩
theorem d24_0 : decode jdk_67_method_93_code 0 = .ok (.aload_n 0, 1) := by decide +kernel
theorem d24_1 : decode jdk_67_method_93_code 1 = .ok (.invokespecial 343, 3) := by decide +kernel
theorem d24_4 : decode jdk_67_method_93_code 4 = .ok (.ireturn, 1) := by decide +kernel
theorem own_pn24 : plainName "java/lang/StringBuilder" = true := by first | (simp [plainName, overriddenIn]; done) | decide +kernel
theorem own_ef24 (m : MethodId) (x0 : Addr) : entryFrame m #[(.ref x0)] 1 = mkF m 0 #[.val (.ref x0)] [] := by first | (simp [entryFrame, mkF, argsToLocals, Value.category]; done) | rfl
def own_Q24 (Z : State) (ax : Addr) (pk : Int32) (h0 : Heap) (n0 : Nat) (v : Option Value) (h : Heap) (L : List Loc) : Prop := Fr n0 L ∧ v = some (.int pk) ∧ h = h0
set_option maxRecDepth 65536 in
set_option maxHeartbeats 40000000 in
theorem rm24 (l : Launch) (Z : State) (a0 : Array Value) (hw : ∀ d ∈ tables_1, d.before a0 Z = true) (ws : List Jvm.Cond) (ax : Addr) (pk : Int32) (h0 : Heap) (n0 : Nat) (Z0 : n0 ≤ h0.size) (Eb : Exa Z h0 ax "java/lang/StringBuilder") (Bk : Fld Z h0 ax "java/lang/AbstractStringBuilder" "count" "I" (.int pk)) :
    MetFree l (⟨"java/lang/StringBuilder", "length", "()I"⟩ : MethodName) (head1 (Jvm.Cond.code (⟨"java/lang/StringBuilder", "length", "()I"⟩ : MethodName) jdk_67_method_93_code 1 (some .int) :: ws) ({ frames := 1, cells := 0, slots := 0, locals := 12 } : Room)) (fun a U => a = #[(.ref ax)] ∧ Z.Warmed39 U.vm ∧ U.heap = h0) (fun _ _ _ _ _ => True) (fun _ U o U' => ∃ v L, o = .returned v ∧ own_Q24 Z ax pk h0 n0 v U'.heap L ∧ FrameEnd U o U' L ({ frames := 1, cells := 0, slots := 0, locals := 12 } : Room).cells ({ frames := 1, cells := 0, slots := 0, locals := 12 } : Room).slots) := by
  refine MetFree.of_bodySF (plainFor_of_name own_pn24) hisR ?_
  intro p e s m args below meth c s₁ Bd hml0 hP hK
  obtain ⟨rfl, hZ, hh⟩ := hP
  have hx := Bd.exec
  have hby := Bd.bytes
  have hml : c.maxLocals = 1 := hml0
  have hown : s.vm.findClass "java/lang/StringBuilder" = some m.cls := findClass_of_methodNamed Bd.named
  have hnm := (name_of_methodNamed Bd.named Bd.method).1
  have X0 : Stand p l e ({ frames := 1, cells := 0, slots := 0, locals := 12 } : Room) s m #[(.ref ax)] below meth c s₁ [] 0 0 := Stand.of_body Bd
  have e0 : s₁.heap = h0 := by rw [← hh, Bd.state]; rfl
  have N0 := Fr.nil n0
  refine own_pre (A := (s₁.setTop (mkF m 0 #[.val (.ref ax)] []))) (fun t k => castTop (own_ef24 m ax) k) ?_
  refine own_pre (A := (s₁.setTop (mkF m 1 #[.val (.ref ax)] [(.ref ax)]))) ?_ ?_
  · intro t k
    refine XS.aloadN X0.here hx rfl (hb hby d24_0) rfl rfl ?_
    exact k
  obtain ⟨_, _, ⟨T114, L114, k114, n114⟩, -, X114, ⟨Lc114, hQ114, l114, y114, z114⟩, st114⟩ := superBack X0 hx hZ (y := (⟨"java/lang/AbstractStringBuilder", "length", "()I"⟩ : MethodName)) hown (own_w hw 139 rfl) (own_same (B := "java/lang/StringBuilder") (x := (⟨"java/lang/AbstractStringBuilder", "ensureCapacityInternal", "(I)V"⟩ : MethodName)) (z := (⟨"java/lang/AbstractStringBuilder", "ensureCapacityInternal", "(I)V"⟩ : MethodName)) (own_w hw 92 rfl) rfl (own_w hw 135 rfl) (by decide)) (own_w hw 135 rfl) (own_w hw 74 rfl) (by decide) (backOf (W := 0) (rm25 l Z a0 hw [] ax pk h0 n0 Z0 Eb Bk) hZ (own_w hw 140 rfl) (own_w hw 58 rfl) (by decide) (by decide)) e0 (Ins.self Eb) (g := (mkF m 1 #[.val (.ref ax)] [(.ref ax)])) rfl (by rw [hml]; rfl) (own_w hw 140 rfl) (argsL := []) (rest := []) (lenOf own_pd21 rfl) rfl (by show 2 * 0 + _ ≤ _; exact Nat.le_of_eq rfl) (hb hby d24_1) (fun _ _ => ⟨rfl, e0, (by decide : 0 + 0 ≤ _), (by decide : 0 + 0 ≤ _)⟩)
  dsimp only [Pt.U, Pt.locs, Pt.cells, Pt.slots] at X114 l114 y114 z114 st114 hQ114
  replace y114 : _ = 0 := y114
  replace z114 : _ = 0 := z114
  subst y114 z114
  obtain ⟨Nq114, rfl, eq114⟩ := hQ114
  have N114 := own_frl l114 N0 Nq114
  refine own_pre (fun t k => st114.trans k) ?_
  obtain ⟨fs, hr, hrun, hended, hW, hsame⟩ := X114.leave (hlocks := BodyLoose.notSynchronized Bd) (v := some (.int pk)) (fun h => by rw [Bd.returns] at h; cases h)
  refine ⟨_, _, retOut X114 hx Bd.returns rfl (Or.inl ⟨rfl, Or.inl rfl, _, rfl⟩) (hb hby d24_4) hr, hrun, hended, _, _, rfl, ?_, ⟨_, rfl⟩, hW, hsame.mono (by decide) (by decide)⟩
  show own_Q24 Z ax pk h0 n0 _ T114.heap _
  rw [eq114]
  exact ⟨N114, rfl, rfl⟩
theorem d26_0 : decode jdk_68_method_68_code 0 = .ok (.getstatic 18, 3) := by decide +kernel
theorem d26_3 : decode jdk_68_method_68_code 3 = .ok (.ifCond .eq 14, 3) := by decide +kernel
theorem d26_6 : decode jdk_68_method_68_code 6 = .ok (.aload_n 0, 1) := by decide +kernel
theorem d26_7 : decode jdk_68_method_68_code 7 = .ok (.getfield 22, 3) := by decide +kernel
theorem d26_10 : decode jdk_68_method_68_code 10 = .ok (.ifCond .ne 7, 3) := by decide +kernel
theorem d26_13 : decode jdk_68_method_68_code 13 = .ok (.iconst 1, 1) := by decide +kernel
theorem d26_14 : decode jdk_68_method_68_code 14 = .ok (.goto 4, 3) := by decide +kernel
theorem d26_18 : decode jdk_68_method_68_code 18 = .ok (.ireturn, 1) := by decide +kernel
theorem own_pn26 : plainName "java/lang/AbstractStringBuilder" = true := by first | (simp [plainName, overriddenIn]; done) | decide +kernel
theorem own_ef26 (m : MethodId) (x0 : Addr) : entryFrame m #[(.ref x0)] 1 = mkF m 0 #[.val (.ref x0)] [] := by first | (simp [entryFrame, mkF, argsToLocals, Value.category]; done) | rfl
def own_Q26 (Z : State) (ax : Addr) (pG : Int32) (h0 : Heap) (n0 : Nat) (v : Option Value) (h : Heap) (L : List Loc) : Prop := Fr n0 L ∧ v = some (.int (1 : Int32)) ∧ h = h0
set_option maxRecDepth 65536 in
set_option maxHeartbeats 40000000 in
theorem rm26 (l : Launch) (Z : State) (a0 : Array Value) (hw : ∀ d ∈ tables_1, d.before a0 Z = true) (ws : List Jvm.Cond) (ax : Addr) (pG : Int32) (h0 : Heap) (n0 : Nat) (Z0 : n0 ≤ h0.size) (Bc : Fld Z h0 ax "java/lang/AbstractStringBuilder" "coder" "B" (.int (0 : Int32))) (O2 : Sta Z Z.heap "java/lang/String" "COMPACT_STRINGS" "Z" (.int pG)) (hG : ¬ pG = (0 : Int32)) (X00 : Old Z n0 h0) :
    MetFree l (⟨"java/lang/AbstractStringBuilder", "isLatin1", "()Z"⟩ : MethodName) (head1 (Jvm.Cond.code (⟨"java/lang/AbstractStringBuilder", "isLatin1", "()Z"⟩ : MethodName) jdk_68_method_68_code 1 (some .boolean) :: ws) ({ frames := 0, cells := 0, slots := 0, locals := 0 } : Room)) (fun a U => a = #[(.ref ax)] ∧ Z.Warmed39 U.vm ∧ U.heap = h0) (fun _ _ _ _ _ => True) (fun _ U o U' => ∃ v L, o = .returned v ∧ own_Q26 Z ax pG h0 n0 v U'.heap L ∧ FrameEnd U o U' L ({ frames := 0, cells := 0, slots := 0, locals := 0 } : Room).cells ({ frames := 0, cells := 0, slots := 0, locals := 0 } : Room).slots) := by
  refine MetFree.of_bodySF (plainFor_of_name own_pn26) hisR ?_
  intro p e s m args below meth c s₁ Bd hml0 hP hK
  obtain ⟨rfl, hZ, hh⟩ := hP
  have hx := Bd.exec
  have hby := Bd.bytes
  have hml : c.maxLocals = 1 := hml0
  have hown : s.vm.findClass "java/lang/AbstractStringBuilder" = some m.cls := findClass_of_methodNamed Bd.named
  have hnm := (name_of_methodNamed Bd.named Bd.method).1
  have X0 : Stand p l e ({ frames := 0, cells := 0, slots := 0, locals := 0 } : Room) s m #[(.ref ax)] below meth c s₁ [] 0 0 := Stand.of_body Bd
  have e0 : s₁.heap = h0 := by rw [← hh, Bd.state]; rfl
  have N0 := Fr.nil n0
  refine own_pre (A := (s₁.setTop (mkF m 0 #[.val (.ref ax)] []))) (fun t k => castTop (own_ef26 m ax) k) ?_
  obtain ⟨T115, X115, e115, st115⟩ := getS2 X0 hx hZ hown (host := "") (Or.inl (own_w hw 61 rfl)) Via.refl e0 (O2.ext X00.2) (g := (mkF m 0 #[.val (.ref ax)] [])) rfl (hb hby d26_0)
  refine own_pre (fun t k => st115 t k) ?_
  refine own_pre (A := (T115.setTop (mkF m 7 #[.val (.ref ax)] [(.ref ax)]))) ?_ ?_
  · intro t k
    refine XS.ifNo X115.here hx rfl (hb hby d26_3) rfl ((if0 _ _).trans (feq hG).1) ?_
    refine XS.aloadN X115.here hx rfl (hb hby d26_6) rfl rfl ?_
    exact k
  obtain ⟨T116, X116, e116, st116⟩ := getF X115 hx hZ hown (host := "") (Or.inl (own_w hw 64 rfl)) Via.refl e115 Bc (g := (mkF m 7 #[.val (.ref ax)] [(.ref ax)])) rfl rfl (hb hby d26_7)
  refine own_pre (fun t k => st116 t k) ?_
  refine own_pre (A := (T116.setTop (mkF m 18 #[.val (.ref ax)] [(.int (1 : Int32))]))) ?_ ?_
  · intro t k
    refine XS.ifNo X116.here hx rfl (hb hby d26_10) rfl ((if0 _ _).trans (teq (by decide : (0 : Int32) = (0 : Int32))).2) ?_
    refine XS.iconst X116.here hx rfl (hb hby d26_13) ?_
    refine XS.goto X116.here hx rfl (pc0 := 14) (pc' := 18) rfl (hb hby d26_14) (by decide) (by decide) ?_
    exact k
  obtain ⟨fs, hr, hrun, hended, hW, hsame⟩ := X116.leave (hlocks := BodyLoose.notSynchronized Bd) (v := some (.int (1 : Int32))) (fun h => by rw [Bd.returns] at h; cases h)
  refine ⟨_, _, retOut X116 hx Bd.returns rfl (Or.inl ⟨rfl, Or.inr (Or.inl rfl), _, rfl⟩) (hb hby d26_18) hr, hrun, hended, _, _, rfl, ?_, ⟨_, rfl⟩, hW, hsame.mono (by decide) (by decide)⟩
  show own_Q26 Z ax pG h0 n0 _ T116.heap _
  rw [e116]
  exact ⟨N0, rfl, rfl⟩
theorem d50_0 : decode jdk_65_method_131_code 0 = .ok (.iload_n 1, 1) := by decide +kernel
theorem d50_1 : decode jdk_65_method_131_code 1 = .ok (.iload_n 0, 1) := by decide +kernel
theorem d50_2 : decode jdk_65_method_131_code 2 = .ok (.if_icmp .ge 35, 3) := by decide +kernel
theorem d50_37 : decode jdk_65_method_131_code 37 = .ok (.return_, 1) := by decide +kernel
theorem own_pn50 : plainName "java/util/Arrays" = true := by first | (simp [plainName, overriddenIn]; done) | decide +kernel
theorem own_ef50 (m : MethodId) (x0 : Int32) (x1 : Int32) : entryFrame m #[(.int x0), (.int x1)] 2 = mkF m 0 #[.val (.int x0), .val (.int x1)] [] := by first | (simp [entryFrame, mkF, argsToLocals, Value.category]; done) | rfl
def own_Q50 (Z : State) (pk : Int32) (h0 : Heap) (n0 : Nat) (v : Option Value) (h : Heap) (L : List Loc) : Prop := Fr n0 L ∧ v = none ∧ h = h0
set_option maxRecDepth 65536 in
set_option maxHeartbeats 40000000 in
theorem rm50 (l : Launch) (Z : State) (a0 : Array Value) (hw : ∀ d ∈ tables_1, d.before a0 Z = true) (ws : List Jvm.Cond) (pk : Int32) (h0 : Heap) (n0 : Nat) (Z0 : n0 ≤ h0.size) (hpk : ¬ pk < (0 : Int32)) :
    MetFree l (⟨"java/util/Arrays", "checkLength", "(II)V"⟩ : MethodName) (head1 (Jvm.Cond.code (⟨"java/util/Arrays", "checkLength", "(II)V"⟩ : MethodName) jdk_65_method_131_code 2 none :: ws) ({ frames := 0, cells := 0, slots := 0, locals := 0 } : Room)) (fun a U => a = #[(.int (0 : Int32)), (.int pk)] ∧ Z.Warmed39 U.vm ∧ U.heap = h0) (fun _ _ _ _ _ => True) (fun _ U o U' => ∃ v L, o = .returned v ∧ own_Q50 Z pk h0 n0 v U'.heap L ∧ FrameEnd U o U' L ({ frames := 0, cells := 0, slots := 0, locals := 0 } : Room).cells ({ frames := 0, cells := 0, slots := 0, locals := 0 } : Room).slots) := by
  refine MetFree.of_bodySF (plainFor_of_name own_pn50) hisR ?_
  intro p e s m args below meth c s₁ Bd hml0 hP hK
  obtain ⟨rfl, hZ, hh⟩ := hP
  have hx := Bd.exec
  have hby := Bd.bytes
  have hml : c.maxLocals = 2 := hml0
  have hown : s.vm.findClass "java/util/Arrays" = some m.cls := findClass_of_methodNamed Bd.named
  have hnm := (name_of_methodNamed Bd.named Bd.method).1
  have X0 : Stand p l e ({ frames := 0, cells := 0, slots := 0, locals := 0 } : Room) s m #[(.int (0 : Int32)), (.int pk)] below meth c s₁ [] 0 0 := Stand.of_body Bd
  have e0 : s₁.heap = h0 := by rw [← hh, Bd.state]; rfl
  have N0 := Fr.nil n0
  refine own_pre (A := (s₁.setTop (mkF m 0 #[.val (.int (0 : Int32)), .val (.int pk)] []))) (fun t k => castTop (own_ef50 m (0 : Int32) pk) k) ?_
  refine own_pre (A := (s₁.setTop (mkF m 37 #[.val (.int (0 : Int32)), .val (.int pk)] []))) ?_ ?_
  · intro t k
    refine XS.iloadN X0.here hx rfl (hb hby d50_0) rfl ?_
    refine XS.iloadN X0.here hx rfl (hb hby d50_1) rfl ?_
    refine XS.icmpYes X0.here hx rfl (pc0 := 2) (pc' := 37) rfl (hb hby d50_2) rfl (flt hpk).2.1 (by decide) (by decide) ?_
    exact k
  obtain ⟨fs, hr, hrun, hended, hW, hsame⟩ := X0.leave (hlocks := BodyLoose.notSynchronized Bd) (v := none) (fun _ => rfl)
  refine ⟨_, _, X0.returnOut hx Bd.returns (hb hby d50_37) hr, hrun, hended, _, _, rfl, ?_, ⟨_, rfl⟩, hW, hsame.mono (by decide) (by decide)⟩
  show own_Q50 Z pk h0 n0 _ s₁.heap _
  rw [e0]
  exact ⟨N0, rfl, rfl⟩
theorem d49_0 : decode jdk_65_method_133_code 0 = .ok (.iload_n 1, 1) := by decide +kernel
theorem d49_1 : decode jdk_65_method_133_code 1 = .ok (.iload_n 2, 1) := by decide +kernel
theorem d49_2 : decode jdk_65_method_133_code 2 = .ok (.invokestatic 343, 3) := by decide +kernel
theorem d49_5 : decode jdk_65_method_133_code 5 = .ok (.iload_n 2, 1) := by decide +kernel
theorem d49_6 : decode jdk_65_method_133_code 6 = .ok (.iload_n 1, 1) := by decide +kernel
theorem d49_7 : decode jdk_65_method_133_code 7 = .ok (.isub, 1) := by decide +kernel
theorem d49_8 : decode jdk_65_method_133_code 8 = .ok (.istore_n 3, 1) := by decide +kernel
theorem d49_9 : decode jdk_65_method_133_code 9 = .ok (.iload_n 3, 1) := by decide +kernel
theorem d49_10 : decode jdk_65_method_133_code 10 = .ok (.newarray .byte, 2) := by decide +kernel
theorem d49_12 : decode jdk_65_method_133_code 12 = .ok (.astore 4, 2) := by decide +kernel
theorem d49_14 : decode jdk_65_method_133_code 14 = .ok (.aload_n 0, 1) := by decide +kernel
theorem d49_15 : decode jdk_65_method_133_code 15 = .ok (.iload_n 1, 1) := by decide +kernel
theorem d49_16 : decode jdk_65_method_133_code 16 = .ok (.aload 4, 2) := by decide +kernel
theorem d49_18 : decode jdk_65_method_133_code 18 = .ok (.iconst 0, 1) := by decide +kernel
theorem d49_19 : decode jdk_65_method_133_code 19 = .ok (.aload_n 0, 1) := by decide +kernel
theorem d49_20 : decode jdk_65_method_133_code 20 = .ok (.arraylength, 1) := by decide +kernel
theorem d49_21 : decode jdk_65_method_133_code 21 = .ok (.iload_n 1, 1) := by decide +kernel
theorem d49_22 : decode jdk_65_method_133_code 22 = .ok (.isub, 1) := by decide +kernel
theorem d49_23 : decode jdk_65_method_133_code 23 = .ok (.iload_n 3, 1) := by decide +kernel
theorem d49_24 : decode jdk_65_method_133_code 24 = .ok (.invokestatic 304, 3) := by decide +kernel
theorem d49_27 : decode jdk_65_method_133_code 27 = .ok (.invokestatic 150, 3) := by decide +kernel
theorem d49_30 : decode jdk_65_method_133_code 30 = .ok (.aload 4, 2) := by decide +kernel
theorem d49_32 : decode jdk_65_method_133_code 32 = .ok (.areturn, 1) := by decide +kernel
theorem own_pn49 : plainName "java/util/Arrays" = true := by first | (simp [plainName, overriddenIn]; done) | decide +kernel
theorem own_ef49 (m : MethodId) (x0 : Addr) (x1 : Int32) (x2 : Int32) : entryFrame m #[(.ref x0), (.int x1), (.int x2)] 5 = mkF m 0 #[.val (.ref x0), .val (.int x1), .val (.int x2), .unset, .unset] [] := by first | (simp [entryFrame, mkF, argsToLocals, Value.category]; done) | rfl
def own_Q49 (Z : State) (ab : Addr) (pk : Int32) (kb : ClassId) (zc : Int32) (wv : List Value) (cs0 : List Int32) (h0 : Heap) (n0 : Nat) (v : Option Value) (h : Heap) (L : List Loc) : Prop := Fr n0 L ∧ ∃ (ad : Addr) (kd : ClassId), v = some (.ref ad) ∧ n0 ≤ ad ∧ h0.size ≤ ad ∧ Arv Z h ad kd .byte pk (List.map own_by cs0) (.int (0 : Int32)) ∧ Keep h0 h []
set_option maxRecDepth 65536 in
set_option maxHeartbeats 40000000 in
theorem rm49 (l : Launch) (Z : State) (a0 : Array Value) (hw : ∀ d ∈ tables_1, d.before a0 Z = true) (ws : List Jvm.Cond) (ab : Addr) (pk : Int32) (kb : ClassId) (zc : Int32) (wv : List Value) (cs0 : List Int32) (h0 : Heap) (n0 : Nat) (Z0 : n0 ≤ h0.size) (Vb : Arv Z h0 ab kb .byte zc wv (.int (0 : Int32))) (ok : own_ok zc pk wv cs0) :
    MetFree l (⟨"java/util/Arrays", "copyOfRangeByte", "([BII)[B"⟩ : MethodName) (head1 (Jvm.Cond.code (⟨"java/util/Arrays", "copyOfRangeByte", "([BII)[B"⟩ : MethodName) jdk_65_method_133_code 5 (some (.array .byte)) :: ws) ({ frames := 1, cells := 1, slots := 34, locals := 18 } : Room)) (fun a U => a = #[(.ref ab), (.int (0 : Int32)), (.int pk)] ∧ Z.Warmed39 U.vm ∧ U.heap = h0) (fun _ _ _ _ _ => True) (fun _ U o U' => ∃ v L, o = .returned v ∧ own_Q49 Z ab pk kb zc wv cs0 h0 n0 v U'.heap L ∧ FrameEnd U o U' L ({ frames := 1, cells := 1, slots := 34, locals := 18 } : Room).cells ({ frames := 1, cells := 1, slots := 34, locals := 18 } : Room).slots) := by
  refine MetFree.of_bodySF (plainFor_of_name own_pn49) hisR ?_
  intro p e s m args below meth c s₁ Bd hml0 hP hK
  obtain ⟨rfl, hZ, hh⟩ := hP
  have hx := Bd.exec
  have hby := Bd.bytes
  have hml : c.maxLocals = 5 := hml0
  have hown : s.vm.findClass "java/util/Arrays" = some m.cls := findClass_of_methodNamed Bd.named
  have hnm := (name_of_methodNamed Bd.named Bd.method).1
  have X0 : Stand p l e ({ frames := 1, cells := 1, slots := 34, locals := 18 } : Room) s m #[(.ref ab), (.int (0 : Int32)), (.int pk)] below meth c s₁ [] 0 0 := Stand.of_body Bd
  have e0 : s₁.heap = h0 := by rw [← hh, Bd.state]; rfl
  have N0 := Fr.nil n0
  refine own_pre (A := (s₁.setTop (mkF m 0 #[.val (.ref ab), .val (.int (0 : Int32)), .val (.int pk), .unset, .unset] []))) (fun t k => castTop (own_ef49 m ab (0 : Int32) pk) k) ?_
  refine own_pre (A := (s₁.setTop (mkF m 2 #[.val (.ref ab), .val (.int (0 : Int32)), .val (.int pk), .unset, .unset] [(.int pk), (.int (0 : Int32))]))) ?_ ?_
  · intro t k
    refine XS.iloadN X0.here hx rfl (hb hby d49_0) rfl ?_
    refine XS.iloadN X0.here hx rfl (hb hby d49_1) rfl ?_
    exact k
  obtain ⟨_, _, ⟨T117, L117, k117, n117⟩, -, X117, ⟨Lc117, hQ117, l117, y117, z117⟩, st117⟩ := Jvm.LawKit.callS X0 hx (y := (⟨"java/util/Arrays", "checkLength", "(II)V"⟩ : MethodName)) hown (mvT hZ (own_w hw 280 rfl)) (mvT hZ (own_w hw 281 rfl)) (mvT hZ (own_w hw 148 rfl)) (mvT hZ (own_w hw 282 rfl)) (by decide) (backOf (W := 0) (rm50 l Z a0 hw [] pk h0 n0 Z0 ok.2.2.1) hZ (own_w hw 282 rfl) (own_w hw 148 rfl) (by decide) (by decide)) (g := (mkF m 2 #[.val (.ref ab), .val (.int (0 : Int32)), .val (.int pk), .unset, .unset] [(.int pk), (.int (0 : Int32))])) rfl (by rw [hml]; rfl) (argsL := [(.int (0 : Int32)), (.int pk)]) (rest := []) (lenOf own_pd2 rfl) rfl (by show 2 * 0 + _ ≤ _; exact Nat.le_of_eq rfl) (hb hby d49_2) (fun _ _ => ⟨rfl, e0, (by decide : 0 + 0 ≤ _), (by decide : 0 + 0 ≤ _)⟩)
  dsimp only [Pt.U, Pt.locs, Pt.cells, Pt.slots] at X117 l117 y117 z117 st117 hQ117
  replace y117 : _ = 0 := y117
  replace z117 : _ = 0 := z117
  subst y117 z117
  obtain ⟨Nq117, rfl, eq117⟩ := hQ117
  have N117 := own_frl l117 N0 Nq117
  refine own_pre (fun t k => st117 t k) ?_
  refine own_pre (A := (T117.setTop (mkF m 10 #[.val (.ref ab), .val (.int (0 : Int32)), .val (.int pk), .val (.int pk), .unset] [(.int pk)]))) ?_ ?_
  · intro t k
    refine XS.iloadN X117.here hx rfl (hb hby d49_5) rfl ?_
    refine XS.iloadN X117.here hx rfl (hb hby d49_6) rfl ?_
    refine XS.isub X117.here hx rfl (hb hby d49_7) rfl ?_
    show Steps p.tables e below (T117.setTop (mkF m 8 #[.val (.ref ab), .val (.int (0 : Int32)), .val (.int pk), .unset, .unset] [(.int (pk - (0 : Int32)))])) _
    rw [own_sub0 pk]
    refine XS.istoreN X117.here hx rfl (hb hby d49_8) rfl (l' := #[.val (.ref ab), .val (.int (0 : Int32)), .val (.int pk), .val (.int pk), .unset]) rfl ?_
    refine XS.iloadN X117.here hx rfl (hb hby d49_9) rfl ?_
    exact k
  obtain ⟨T118, h118, k118, X118, e118, E118, A118, st118⟩ := newP X117 hx hZ (own_w hw 18 rfl) eq117 (g := (mkF m 10 #[.val (.ref ab), .val (.int (0 : Int32)), .val (.int pk), .val (.int pk), .unset] [(.int pk)])) rfl (hb hby d49_10) rfl ok.2.2.1 (cap := 34) (own_ple ok) (by decide) (by decide) (by decide)
  obtain ⟨b118, g118⟩ : ∃ z, z = h0.size := ⟨_, rfl⟩
  rw [← g118] at A118 st118
  have gn_b118 : n0 ≤ b118 := Nat.le_trans Z0 (Nat.le_of_eq g118.symm)
  have sz_b118 : h0.size ≤ b118 := Nat.le_trans (Keep.refl h0 []).1 (Nat.le_of_eq g118.symm)
  have Vb_118 := Vb.ext E118
  have Zs118 : n0 ≤ h118.size := Nat.le_trans Z0 E118.1
  have Kc118 : Keep h0 h118 [] := (Keep.refl h0 []).ext E118
  have V118 : Arv Z h118 b118 k118 .byte pk [] (.int (0 : Int32)) := Arv.new A118 ok.2.2.1
  refine own_pre (fun t k => st118 t k) ?_
  have Vp118 : Arv Z h118 b118 k118 .byte pk (List.replicate pk.toNatClampNeg (.int (0 : Int32))) (.int (0 : Int32)) := V118.pad (pad_rep [] (.int (0 : Int32)) pk.toNatClampNeg)
  refine own_pre (A := (T118.setTop (mkF m 24 #[.val (.ref ab), .val (.int (0 : Int32)), .val (.int pk), .val (.int pk), .val (.ref b118)] [(.int pk), (.int zc), (.int (0 : Int32)), (.ref b118), (.int (0 : Int32)), (.ref ab)]))) ?_ ?_
  · intro t k
    refine XS.astore X118.here hx rfl (hb hby d49_12) rfl rfl (l' := #[.val (.ref ab), .val (.int (0 : Int32)), .val (.int pk), .val (.int pk), .val (.ref b118)]) rfl ?_
    refine XS.aloadN X118.here hx rfl (hb hby d49_14) rfl rfl ?_
    refine XS.iloadN X118.here hx rfl (hb hby d49_15) rfl ?_
    refine XS.aload X118.here hx rfl (hb hby d49_16) rfl rfl ?_
    refine XS.iconst X118.here hx rfl (hb hby d49_18) ?_
    refine XS.aloadN X118.here hx rfl (hb hby d49_19) rfl rfl ?_
    show Steps p.tables e below (T118.setTop (mkF m 20 #[.val (.ref ab), .val (.int (0 : Int32)), .val (.int pk), .val (.int pk), .val (.ref b118)] [(.ref ab), (.int (0 : Int32)), (.ref b118), (.int (0 : Int32)), (.ref ab)])) _
    obtain ⟨cl119, Ar119, -, S119, N119, -, -⟩ := id Vb_118
    refine X118.arraylength hx (by rw [e118]; exact Ar119.1) (State.isArrayOf_alike hZ.alike Ar119.2.1) (g := (mkF m 20 #[.val (.ref ab), .val (.int (0 : Int32)), .val (.int pk), .val (.int pk), .val (.ref b118)] [(.ref ab), (.int (0 : Int32)), (.ref b118), (.int (0 : Int32)), (.ref ab)])) rfl rfl (hb hby d49_20) _ ?_
    rw [len_of S119 N119]
    refine XS.iloadN X118.here hx rfl (hb hby d49_21) rfl ?_
    refine XS.isub X118.here hx rfl (hb hby d49_22) rfl ?_
    show Steps p.tables e below (T118.setTop (mkF m 23 #[.val (.ref ab), .val (.int (0 : Int32)), .val (.int pk), .val (.int pk), .val (.ref b118)] [(.int (zc - (0 : Int32))), (.int (0 : Int32)), (.ref b118), (.int (0 : Int32)), (.ref ab)])) _
    rw [own_sub0 zc]
    refine XS.iloadN X118.here hx rfl (hb hby d49_23) rfl ?_
    exact k
  obtain ⟨_, _, ⟨T120, L120, k120, n120⟩, -, X120, ⟨Lc120, hQ120, l120, y120, z120⟩, st120⟩ := Jvm.LawKit.callS X118 hx (y := (⟨"java/lang/Math", "min", "(II)I"⟩ : MethodName)) hown (mvT hZ (own_w hw 273 rfl)) (mvT hZ (own_w hw 274 rfl)) (mvT hZ (own_w hw 266 rfl)) (mvT hZ (own_w hw 275 rfl)) (by decide) (backOf (W := 4) (rm48 l Z a0 hw [] zc pk pk h118 n0 Zs118 (fun _ => rfl) (fun q => own_mineq ok q)) hZ (own_w hw 275 rfl) (own_w hw 266 rfl) (by decide) (by decide)) (g := (mkF m 24 #[.val (.ref ab), .val (.int (0 : Int32)), .val (.int pk), .val (.int pk), .val (.ref b118)] [(.int pk), (.int zc), (.int (0 : Int32)), (.ref b118), (.int (0 : Int32)), (.ref ab)])) rfl (by rw [hml]; rfl) (argsL := [(.int zc), (.int pk)]) (rest := [(.int (0 : Int32)), (.ref b118), (.int (0 : Int32)), (.ref ab)]) (lenOf own_pd15 rfl) rfl (by show 2 * 0 + _ ≤ _; exact Nat.le_of_eq rfl) (hb hby d49_24) (fun _ _ => ⟨rfl, e118, (by decide : 1 + 0 ≤ _), (by decide : 34 + 0 ≤ _)⟩)
  dsimp only [Pt.U, Pt.locs, Pt.cells, Pt.slots] at X120 l120 y120 z120 st120 hQ120
  replace y120 : _ = 1 := y120
  replace z120 : _ = 34 := z120
  subst y120 z120
  obtain ⟨Nq120, rfl, eq120⟩ := hQ120
  have N120 := own_frl l120 N117 Nq120
  refine own_pre (fun t k => st120 t k) ?_
  obtain ⟨T121, h121, L121, X121, e121, N121, K121, V121, st121⟩ := cpA X120 hx hZ hown (own_w hw 276 rfl) (own_w hw 113 rfl) (own_w hw 111 rfl) (own_w hw 112 rfl) eq120 Vb_118 Vp118 (Or.inl ⟨rfl, rfl⟩) (sp := (0 : Int32)) (dp := (0 : Int32)) (nn := pk) (us := (List.map own_by cs0)) (by decide) (by decide) ok.2.2.1 (own_ge ok) (own_0le _) (own_us ok) (by rw [List.length_replicate]; exact own_0le _) N120 gn_b118 (g := (mkF m 27 #[.val (.ref ab), .val (.int (0 : Int32)), .val (.int pk), .val (.int pk), .val (.ref b118)] [(.int pk), (.int (0 : Int32)), (.ref b118), (.int (0 : Int32)), (.ref ab)])) rfl (by rw [hml]; rfl) rfl (hb hby d49_27) (by decide) (W := 0) (by show 2 * 0 + _ ≤ _; exact Nat.le_of_eq rfl) (by decide)
  refine own_pre (fun t k => st121 t k) ?_
  have V121' : Arv Z h121 b118 k118 .byte pk (List.map own_by cs0) (.int (0 : Int32)) := by
    have q := V121
    rw [own_eqr] at q
    exact q
  have Kc121 : Keep h0 h121 [] := Kc118.trans K121 (allS (Or.inr sz_b118) all0)
  refine own_pre (A := (T121.setTop (mkF m 32 #[.val (.ref ab), .val (.int (0 : Int32)), .val (.int pk), .val (.int pk), .val (.ref b118)] [(.ref b118)]))) ?_ ?_
  · intro t k
    refine XS.aload X121.here hx rfl (hb hby d49_30) rfl rfl ?_
    exact k
  obtain ⟨fs, hr, hrun, hended, hW, hsame⟩ := X121.leave (hlocks := BodyLoose.notSynchronized Bd) (v := some (.ref b118)) (fun h => by rw [Bd.returns] at h; cases h)
  refine ⟨_, _, retOut X121 hx Bd.returns rfl (Or.inr (Or.inr (Or.inr (Or.inr ⟨rfl, rfl, rfl⟩)))) (hb hby d49_32) hr, hrun, hended, _, _, rfl, ?_, ⟨_, rfl⟩, hW, hsame.mono (by decide) (by decide)⟩
  show own_Q49 Z ab pk kb zc wv cs0 h0 n0 _ T121.heap _
  rw [e121]
  exact ⟨N121, b118, k118, rfl, gn_b118, sz_b118, V121', Kc121⟩
theorem d27_0 : decode jdk_65_method_132_code 0 = .ok (.iload_n 1, 1) := by decide +kernel
theorem d27_1 : decode jdk_65_method_132_code 1 = .ok (.ifCond .ne 9, 3) := by decide +kernel
theorem d27_4 : decode jdk_65_method_132_code 4 = .ok (.iload_n 2, 1) := by decide +kernel
theorem d27_5 : decode jdk_65_method_132_code 5 = .ok (.aload_n 0, 1) := by decide +kernel
theorem d27_6 : decode jdk_65_method_132_code 6 = .ok (.arraylength, 1) := by decide +kernel
theorem d27_7 : decode jdk_65_method_132_code 7 = .ok (.if_icmp .eq 10, 3) := by decide +kernel
theorem d27_10 : decode jdk_65_method_132_code 10 = .ok (.aload_n 0, 1) := by decide +kernel
theorem d27_11 : decode jdk_65_method_132_code 11 = .ok (.iload_n 1, 1) := by decide +kernel
theorem d27_12 : decode jdk_65_method_132_code 12 = .ok (.iload_n 2, 1) := by decide +kernel
theorem d27_13 : decode jdk_65_method_132_code 13 = .ok (.invokestatic 339, 3) := by decide +kernel
theorem d27_16 : decode jdk_65_method_132_code 16 = .ok (.areturn, 1) := by decide +kernel
theorem d27_17 : decode jdk_65_method_132_code 17 = .ok (.aload_n 0, 1) := by decide +kernel
theorem d27_18 : decode jdk_65_method_132_code 18 = .ok (.invokevirtual 310, 3) := by decide +kernel
theorem d27_21 : decode jdk_65_method_132_code 21 = .ok (.checkcast 311, 3) := by decide +kernel
theorem d27_24 : decode jdk_65_method_132_code 24 = .ok (.areturn, 1) := by decide +kernel
theorem own_pn27 : plainName "java/util/Arrays" = true := by first | (simp [plainName, overriddenIn]; done) | decide +kernel
theorem own_ef27 (m : MethodId) (x0 : Addr) (x1 : Int32) (x2 : Int32) : entryFrame m #[(.ref x0), (.int x1), (.int x2)] 3 = mkF m 0 #[.val (.ref x0), .val (.int x1), .val (.int x2)] [] := by first | (simp [entryFrame, mkF, argsToLocals, Value.category]; done) | rfl
def own_Q27 (Z : State) (ab : Addr) (pk : Int32) (kb : ClassId) (zc : Int32) (wv : List Value) (cs0 : List Int32) (h0 : Heap) (n0 : Nat) (v : Option Value) (h : Heap) (L : List Loc) : Prop := Fr n0 L ∧ ∃ (ad : Addr) (kd : ClassId), v = some (.ref ad) ∧ n0 ≤ ad ∧ h0.size ≤ ad ∧ Arv Z h ad kd .byte pk (List.map own_by cs0) (.int (0 : Int32)) ∧ Keep h0 h []
set_option maxRecDepth 65536 in
set_option maxHeartbeats 40000000 in
theorem rm27 (l : Launch) (Z : State) (a0 : Array Value) (hw : ∀ d ∈ tables_1, d.before a0 Z = true) (ws : List Jvm.Cond) (ab : Addr) (pk : Int32) (kb : ClassId) (zc : Int32) (wv : List Value) (cs0 : List Int32) (h0 : Heap) (n0 : Nat) (Z0 : n0 ≤ h0.size) (Ey : Exa Z h0 ab "[B") (Vb : Arv Z h0 ab kb .byte zc wv (.int (0 : Int32))) (ok : own_ok zc pk wv cs0) :
    MetFree l (⟨"java/util/Arrays", "copyOfRange", "([BII)[B"⟩ : MethodName) (head1 (Jvm.Cond.code (⟨"java/util/Arrays", "copyOfRange", "([BII)[B"⟩ : MethodName) jdk_65_method_132_code 3 (some (.array .byte)) :: ws) ({ frames := 2, cells := 1, slots := 34, locals := 34 } : Room)) (fun a U => a = #[(.ref ab), (.int (0 : Int32)), (.int pk)] ∧ Z.Warmed39 U.vm ∧ U.heap = h0) (fun _ _ _ _ _ => True) (fun _ U o U' => ∃ v L, o = .returned v ∧ own_Q27 Z ab pk kb zc wv cs0 h0 n0 v U'.heap L ∧ FrameEnd U o U' L ({ frames := 2, cells := 1, slots := 34, locals := 34 } : Room).cells ({ frames := 2, cells := 1, slots := 34, locals := 34 } : Room).slots) := by
  refine MetFree.of_bodySF (plainFor_of_name own_pn27) hisR ?_
  intro p e s m args below meth c s₁ Bd hml0 hP hK
  obtain ⟨rfl, hZ, hh⟩ := hP
  have hx := Bd.exec
  have hby := Bd.bytes
  have hml : c.maxLocals = 3 := hml0
  have hown : s.vm.findClass "java/util/Arrays" = some m.cls := findClass_of_methodNamed Bd.named
  have hnm := (name_of_methodNamed Bd.named Bd.method).1
  have X0 : Stand p l e ({ frames := 2, cells := 1, slots := 34, locals := 34 } : Room) s m #[(.ref ab), (.int (0 : Int32)), (.int pk)] below meth c s₁ [] 0 0 := Stand.of_body Bd
  have e0 : s₁.heap = h0 := by rw [← hh, Bd.state]; rfl
  have N0 := Fr.nil n0
  refine own_pre (A := (s₁.setTop (mkF m 0 #[.val (.ref ab), .val (.int (0 : Int32)), .val (.int pk)] []))) (fun t k => castTop (own_ef27 m ab (0 : Int32) pk) k) ?_
  refine own_pre (A := (s₁.setTop (mkF m 7 #[.val (.ref ab), .val (.int (0 : Int32)), .val (.int pk)] [(.int zc), (.int pk)]))) ?_ ?_
  · intro t k
    refine XS.iloadN X0.here hx rfl (hb hby d27_0) rfl ?_
    refine XS.ifNo X0.here hx rfl (hb hby d27_1) rfl ((if0 _ _).trans (teq (by decide : (0 : Int32) = (0 : Int32))).2) ?_
    refine XS.iloadN X0.here hx rfl (hb hby d27_4) rfl ?_
    refine XS.aloadN X0.here hx rfl (hb hby d27_5) rfl rfl ?_
    show Steps p.tables e below (s₁.setTop (mkF m 6 #[.val (.ref ab), .val (.int (0 : Int32)), .val (.int pk)] [(.ref ab), (.int pk)])) _
    obtain ⟨cl122, Ar122, -, S122, N122, -, -⟩ := id Vb
    refine X0.arraylength hx (by rw [e0]; exact Ar122.1) (State.isArrayOf_alike hZ.alike Ar122.2.1) (g := (mkF m 6 #[.val (.ref ab), .val (.int (0 : Int32)), .val (.int pk)] [(.ref ab), (.int pk)])) rfl rfl (hb hby d27_6) _ ?_
    rw [len_of S122 N122]
    exact k
  by_cases hc123 : pk = zc
  · skip
    refine own_pre (A := (s₁.setTop (mkF m 17 #[.val (.ref ab), .val (.int (0 : Int32)), .val (.int pk)] []))) ?_ ?_
    · intro t k
      refine XS.icmpYes X0.here hx rfl (pc0 := 7) (pc' := 17) rfl (hb hby d27_7) rfl (teq hc123).1 (by decide) (by decide) ?_
      exact k
    refine own_pre (A := (s₁.setTop (mkF m 18 #[.val (.ref ab), .val (.int (0 : Int32)), .val (.int pk)] [(.ref ab)]))) ?_ ?_
    · intro t k
      refine XS.aloadN X0.here hx rfl (hb hby d27_17) rfl rfl ?_
      exact k
    obtain ⟨T124, h124, X124, e124, E124, V124, Q124, st124⟩ := cloneH X0 hx hZ hown (own_w hw 150 rfl) (own_w hw 151 rfl) (own_w hw 155 rfl) (own_w hw 153 rfl) (own_w hw 154 rfl) (own_w hw 156 rfl) e0 Vb.arh Ey (g := (mkF m 18 #[.val (.ref ab), .val (.int (0 : Int32)), .val (.int pk)] [(.ref ab)])) rfl (by rw [hml]; rfl) rfl (hb hby d27_18) (by decide) (W := 0) (cap := 34) (by show 2 * 0 + _ ≤ _; exact Nat.le_of_eq rfl) (by decide) (own_zle ok) (by decide) (by decide)
    obtain ⟨b124, g124⟩ : ∃ z, z = h0.size := ⟨_, rfl⟩
    rw [← g124] at V124 Q124 st124
    have gn_b124 : n0 ≤ b124 := Nat.le_trans Z0 (Nat.le_of_eq g124.symm)
    have sz_b124 : h0.size ≤ b124 := Nat.le_trans (Keep.refl h0 []).1 (Nat.le_of_eq g124.symm)
    have Kc124 : Keep h0 h124 [] := (Keep.refl h0 []).ext E124
    have V124 : Arv Z h124 b124 kb .byte zc wv (.int (0 : Int32)) := V124
    refine own_pre (fun t k => st124 t k) ?_
    obtain ⟨T125, X125, e125, st125⟩ := castY X124 hx hZ hown (own_w hw 157 rfl) e124 (Ins.self Q124) (g := (mkF m 21 #[.val (.ref ab), .val (.int (0 : Int32)), .val (.int pk)] [(.ref b124)])) rfl rfl (hb hby d27_21)
    refine own_pre (fun t k => st125 t k) ?_
    obtain ⟨fs, hr, hrun, hended, hW, hsame⟩ := X125.leave (hlocks := BodyLoose.notSynchronized Bd) (v := some (.ref b124)) (fun h => by rw [Bd.returns] at h; cases h)
    refine ⟨_, _, retOut X125 hx Bd.returns rfl (Or.inr (Or.inr (Or.inr (Or.inr ⟨rfl, rfl, rfl⟩)))) (hb hby d27_24) hr, hrun, hended, _, _, rfl, ?_, ⟨_, rfl⟩, hW, hsame.mono (by decide) (by decide)⟩
    show own_Q27 Z ab pk kb zc wv cs0 h0 n0 _ T125.heap _
    rw [e125]
    exact ⟨N0, b124, kb, rfl, gn_b124, sz_b124, (own_cl ok hc123 V124), Kc124⟩
  · skip
    refine own_pre (A := (s₁.setTop (mkF m 10 #[.val (.ref ab), .val (.int (0 : Int32)), .val (.int pk)] []))) ?_ ?_
    · intro t k
      refine XS.icmpNo X0.here hx rfl (hb hby d27_7) rfl (feq hc123).1 ?_
      exact k
    refine own_pre (A := (s₁.setTop (mkF m 13 #[.val (.ref ab), .val (.int (0 : Int32)), .val (.int pk)] [(.int pk), (.int (0 : Int32)), (.ref ab)]))) ?_ ?_
    · intro t k
      refine XS.aloadN X0.here hx rfl (hb hby d27_10) rfl rfl ?_
      refine XS.iloadN X0.here hx rfl (hb hby d27_11) rfl ?_
      refine XS.iloadN X0.here hx rfl (hb hby d27_12) rfl ?_
      exact k
    obtain ⟨_, _, ⟨T126, L126, k126, n126⟩, -, X126, ⟨Lc126, hQ126, l126, y126, z126⟩, st126⟩ := Jvm.LawKit.callS X0 hx (y := (⟨"java/util/Arrays", "copyOfRangeByte", "([BII)[B"⟩ : MethodName)) hown (mvT hZ (own_w hw 277 rfl)) (mvT hZ (own_w hw 278 rfl)) (mvT hZ (own_w hw 148 rfl)) (mvT hZ (own_w hw 279 rfl)) (by decide) (backOf (W := 0) (rm49 l Z a0 hw [] ab pk kb zc wv cs0 h0 n0 Z0 Vb ok) hZ (own_w hw 279 rfl) (own_w hw 148 rfl) (by decide) (by decide)) (g := (mkF m 13 #[.val (.ref ab), .val (.int (0 : Int32)), .val (.int pk)] [(.int pk), (.int (0 : Int32)), (.ref ab)])) rfl (by rw [hml]; rfl) (argsL := [(.ref ab), (.int (0 : Int32)), (.int pk)]) (rest := []) (lenOf own_pd24 rfl) rfl (by show 2 * 0 + _ ≤ _; exact Nat.le_of_eq rfl) (hb hby d27_13) (fun _ _ => ⟨rfl, e0, (by decide : 0 + 1 ≤ _), (by decide : 0 + 34 ≤ _)⟩)
    dsimp only [Pt.U, Pt.locs, Pt.cells, Pt.slots] at X126 l126 y126 z126 st126 hQ126
    replace y126 : _ = 1 := y126
    replace z126 : _ = 34 := z126
    subst y126 z126
    obtain ⟨Nq126, ad126, kq126, rfl, gq126, zz126, Vq126, Kq126⟩ := hQ126
    have N126 := own_frl l126 N0 Nq126
    refine own_pre (fun t k => st126 t k) ?_
    have sz_ad126 : h0.size ≤ ad126 := Nat.le_trans (Keep.refl h0 []).1 zz126
    have Kc126 : Keep h0 T126.heap [] := (Keep.refl h0 []).trans Kq126 all0
    obtain ⟨fs, hr, hrun, hended, hW, hsame⟩ := X126.leave (hlocks := BodyLoose.notSynchronized Bd) (v := some (.ref ad126)) (fun h => by rw [Bd.returns] at h; cases h)
    refine ⟨_, _, retOut X126 hx Bd.returns rfl (Or.inr (Or.inr (Or.inr (Or.inr ⟨rfl, rfl, rfl⟩)))) (hb hby d27_16) hr, hrun, hended, _, _, rfl, ?_, ⟨_, rfl⟩, hW, hsame.mono (by decide) (by decide)⟩
    show own_Q27 Z ab pk kb zc wv cs0 h0 n0 _ T126.heap _
    exact ⟨N126, ad126, kq126, rfl, gq126, sz_ad126, Vq126, Kc126⟩
theorem d22_0 : decode jdk_42_method_150_code 0 = .ok (.aload_n 0, 1) := by decide +kernel
theorem d22_1 : decode jdk_42_method_150_code 1 = .ok (.invokespecial 1, 3) := by decide +kernel
theorem d22_4 : decode jdk_42_method_150_code 4 = .ok (.aload_n 1, 1) := by decide +kernel
theorem d22_5 : decode jdk_42_method_150_code 5 = .ok (.invokevirtual 552, 3) := by decide +kernel
theorem d22_8 : decode jdk_42_method_150_code 8 = .ok (.astore_n 3, 1) := by decide +kernel
theorem d22_9 : decode jdk_42_method_150_code 9 = .ok (.aload_n 1, 1) := by decide +kernel
theorem d22_10 : decode jdk_42_method_150_code 10 = .ok (.invokevirtual 549, 3) := by decide +kernel
theorem d22_13 : decode jdk_42_method_150_code 13 = .ok (.istore 4, 2) := by decide +kernel
theorem d22_15 : decode jdk_42_method_150_code 15 = .ok (.aload_n 1, 1) := by decide +kernel
theorem d22_16 : decode jdk_42_method_150_code 16 = .ok (.invokevirtual 1047, 3) := by decide +kernel
theorem d22_19 : decode jdk_42_method_150_code 19 = .ok (.ifCond .eq 22, 3) := by decide +kernel
theorem d22_22 : decode jdk_42_method_150_code 22 = .ok (.aload_n 0, 1) := by decide +kernel
theorem d22_23 : decode jdk_42_method_150_code 23 = .ok (.iconst 0, 1) := by decide +kernel
theorem d22_24 : decode jdk_42_method_150_code 24 = .ok (.putfield 15, 3) := by decide +kernel
theorem d22_27 : decode jdk_42_method_150_code 27 = .ok (.aload_n 0, 1) := by decide +kernel
theorem d22_28 : decode jdk_42_method_150_code 28 = .ok (.aload_n 3, 1) := by decide +kernel
theorem d22_29 : decode jdk_42_method_150_code 29 = .ok (.iconst 0, 1) := by decide +kernel
theorem d22_30 : decode jdk_42_method_150_code 30 = .ok (.iload 4, 2) := by decide +kernel
theorem d22_32 : decode jdk_42_method_150_code 32 = .ok (.invokestatic 54, 3) := by decide +kernel
theorem d22_35 : decode jdk_42_method_150_code 35 = .ok (.putfield 9, 3) := by decide +kernel
theorem d22_38 : decode jdk_42_method_150_code 38 = .ok (.goto 59, 3) := by decide +kernel
theorem d22_97 : decode jdk_42_method_150_code 97 = .ok (.return_, 1) := by decide +kernel
theorem own_pn22 : plainName "java/lang/String" = true := by first | (simp [plainName, overriddenIn]; done) | decide +kernel
theorem own_ef22n (m : MethodId) (x0 : Addr) (x1 : Addr) : entryFrame m #[(.ref x0), (.ref x1), .null] 5 = mkF m 0 #[.val (.ref x0), .val (.ref x1), .val .null, .unset, .unset] [] := by first | (simp [entryFrame, mkF, argsToLocals, Value.category]; done) | rfl
def own_Q22 (Z : State) (ax : Addr) (asb : Addr) (ab : Addr) (kb : ClassId) (zc : Int32) (pk : Int32) (wv : List Value) (cs0 : List Int32) (pG : Int32) (h0 : Heap) (n0 : Nat) (v : Option Value) (h : Heap) (L : List Loc) : Prop := Fr n0 L ∧ v = none ∧ Keep h0 h [ax] ∧ ∃ (ad : Addr) (kd : ClassId), h0.size ≤ ad ∧ Fld Z h ax "java/lang/String" "value" "[B" (.ref ad) ∧ Fld Z h ax "java/lang/String" "coder" "B" (.int (0 : Int32)) ∧ Arv Z h ad kd .byte pk (List.map own_by cs0) (.int (0 : Int32))
set_option maxRecDepth 65536 in
set_option maxHeartbeats 40000000 in
theorem rm22 (l : Launch) (Z : State) (a0 : Array Value) (hw : ∀ d ∈ tables_1, d.before a0 Z = true) (ws : List Jvm.Cond) (ax : Addr) (asb : Addr) (ab : Addr) (kb : ClassId) (zc : Int32) (pk : Int32) (wv : List Value) (cs0 : List Int32) (pG : Int32) (h0 : Heap) (n0 : Nat) (Z0 : n0 ≤ h0.size) (Ea : Exa Z h0 ax "java/lang/String") (Fv : Fld Z h0 ax "java/lang/String" "value" "[B" .null) (Fc : Fld Z h0 ax "java/lang/String" "coder" "B" (.int (0 : Int32))) (ga : n0 ≤ ax) (Eb : Exa Z h0 asb "java/lang/StringBuilder") (Bv : Fld Z h0 asb "java/lang/AbstractStringBuilder" "value" "[B" (.ref ab)) (Bc : Fld Z h0 asb "java/lang/AbstractStringBuilder" "coder" "B" (.int (0 : Int32))) (Bk : Fld Z h0 asb "java/lang/AbstractStringBuilder" "count" "I" (.int pk)) (Ey : Exa Z h0 ab "[B") (Vb : Arv Z h0 ab kb .byte zc wv (.int (0 : Int32))) (ok : own_ok zc pk wv cs0) (nas : ax ≠ asb) (nab : ax ≠ ab) (O2 : Sta Z Z.heap "java/lang/String" "COMPACT_STRINGS" "Z" (.int pG)) (hG : ¬ pG = (0 : Int32)) (X00 : Old Z n0 h0) :
    MetFree l (⟨"java/lang/String", "<init>", "(Ljava/lang/AbstractStringBuilder;Ljava/lang/Void;)V"⟩ : MethodName) (head1 (Jvm.Cond.code (⟨"java/lang/String", "<init>", "(Ljava/lang/AbstractStringBuilder;Ljava/lang/Void;)V"⟩ : MethodName) jdk_42_method_150_code 5 none :: ws) ({ frames := 3, cells := 1, slots := 34, locals := 49 } : Room)) (fun a U => a = #[(.ref ax), (.ref asb), .null] ∧ Z.Warmed39 U.vm ∧ U.heap = h0) (fun _ _ _ _ _ => True) (fun _ U o U' => ∃ v L, o = .returned v ∧ own_Q22 Z ax asb ab kb zc pk wv cs0 pG h0 n0 v U'.heap L ∧ FrameEnd U o U' L ({ frames := 3, cells := 1, slots := 34, locals := 49 } : Room).cells ({ frames := 3, cells := 1, slots := 34, locals := 49 } : Room).slots) := by
  refine MetFree.of_bodySF (plainFor_of_name own_pn22) hisR ?_
  intro p e s m args below meth c s₁ Bd hml0 hP hK
  obtain ⟨rfl, hZ, hh⟩ := hP
  have hx := Bd.exec
  have hby := Bd.bytes
  have hml : c.maxLocals = 5 := hml0
  have hown : s.vm.findClass "java/lang/String" = some m.cls := findClass_of_methodNamed Bd.named
  have hnm := (name_of_methodNamed Bd.named Bd.method).1
  have X0 : Stand p l e ({ frames := 3, cells := 1, slots := 34, locals := 49 } : Room) s m #[(.ref ax), (.ref asb), .null] below meth c s₁ [] 0 0 := Stand.of_body Bd
  have e0 : s₁.heap = h0 := by rw [← hh, Bd.state]; rfl
  have N0 := Fr.nil n0
  refine own_pre (A := (s₁.setTop (mkF m 0 #[.val (.ref ax), .val (.ref asb), .val .null, .unset, .unset] []))) (fun t k => castTop (own_ef22n m ax asb) k) ?_
  refine own_pre (A := (s₁.setTop (mkF m 1 #[.val (.ref ax), .val (.ref asb), .val .null, .unset, .unset] [(.ref ax)]))) ?_ ?_
  · intro t k
    refine XS.aloadN X0.here hx rfl (hb hby d22_0) rfl rfl ?_
    exact k
  obtain ⟨T127, X127, e127, st127⟩ := initO X0 hx hZ hown (own_w hw 23 rfl) (own_w hw 24 rfl) (own_w hw 25 rfl) e0 (g := (mkF m 1 #[.val (.ref ax), .val (.ref asb), .val .null, .unset, .unset] [(.ref ax)])) rfl (by rw [hml]; rfl) rfl (hb hby d22_1) (by decide) (W := 0) (by show 2 * 0 + _ ≤ _; exact Nat.le_of_eq rfl) (by decide)
  refine own_pre (fun t k => st127 t k) ?_
  refine own_pre (A := (T127.setTop (mkF m 5 #[.val (.ref ax), .val (.ref asb), .val .null, .unset, .unset] [(.ref asb)]))) ?_ ?_
  · intro t k
    refine XS.aloadN X127.here hx rfl (hb hby d22_4) rfl rfl ?_
    exact k
  obtain ⟨cq128, kq128, q128a, q128b, q128c⟩ := isOf hZ e127 Eb
  obtain ⟨_, _, ⟨T128, L128, k128, n128⟩, -, X128, ⟨Lc128, hQ128, l128, y128, z128⟩, st128⟩ := X127.virtualBack hx (y := (⟨"java/lang/AbstractStringBuilder", "getValue", "()[B"⟩ : MethodName)) (z := (⟨"java/lang/AbstractStringBuilder", "getValue", "()[B"⟩ : MethodName)) hown (mvT hZ (own_w hw 128 rfl)) (mvT hZ (own_w hw 129 rfl)) (notFace_of_selects (args := #[]) (mvT hZ (own_w hw 131 rfl))) (mvT hZ (own_w hw 131 rfl)) (mvT hZ (own_w hw 130 rfl)) (by decide) (backOf (W := 0) (rm23 l Z a0 hw [] asb ab h0 n0 Z0 Bv) hZ (own_w hw 132 rfl) (own_w hw 58 rfl) (by decide) (by decide)) q128a q128c (g := (mkF m 5 #[.val (.ref ax), .val (.ref asb), .val .null, .unset, .unset] [(.ref asb)])) rfl (by rw [hml]; rfl) (Steps.refl _) (argsL := []) (rest := []) (lenOf own_pd25 rfl) rfl (by show 2 * 0 + _ ≤ _; exact Nat.le_of_eq rfl) (hb hby d22_5) (fun _ _ => ⟨rfl, e127, (by decide : 0 + 0 ≤ _), (by decide : 0 + 0 ≤ _)⟩)
  dsimp only [Pt.U, Pt.locs, Pt.cells, Pt.slots] at X128 l128 y128 z128 st128 hQ128
  replace y128 : _ = 0 := y128
  replace z128 : _ = 0 := z128
  subst y128 z128
  obtain ⟨Nq128, rfl, eq128⟩ := hQ128
  have N128 := own_frl l128 N0 Nq128
  refine own_pre (fun t k => st128.trans k) ?_
  refine own_pre (A := (T128.setTop (mkF m 10 #[.val (.ref ax), .val (.ref asb), .val .null, .val (.ref ab), .unset] [(.ref asb)]))) ?_ ?_
  · intro t k
    refine XS.astoreN X128.here hx rfl (hb hby d22_8) rfl rfl (l' := #[.val (.ref ax), .val (.ref asb), .val .null, .val (.ref ab), .unset]) rfl ?_
    refine XS.aloadN X128.here hx rfl (hb hby d22_9) rfl rfl ?_
    exact k
  obtain ⟨cq129, kq129, q129a, q129b, q129c⟩ := isOf hZ eq128 Eb
  obtain ⟨_, _, ⟨T129, L129, k129, n129⟩, -, X129, ⟨Lc129, hQ129, l129, y129, z129⟩, st129⟩ := X128.virtualBack hx (y := (⟨"java/lang/AbstractStringBuilder", "length", "()I"⟩ : MethodName)) (z := (⟨"java/lang/StringBuilder", "length", "()I"⟩ : MethodName)) hown (mvT hZ (own_w hw 133 rfl)) (mvT hZ (own_w hw 134 rfl)) (own_nface (args := #[]) (B := "java/lang/StringBuilder") (x := (⟨"java/lang/AbstractStringBuilder", "ensureCapacityInternal", "(I)V"⟩ : MethodName)) (z := (⟨"java/lang/AbstractStringBuilder", "ensureCapacityInternal", "(I)V"⟩ : MethodName)) (mvT hZ (own_w hw 92 rfl)) rfl) (mvT hZ (own_w hw 136 rfl)) (mvT hZ (own_w hw 137 rfl)) (by decide) (backOf (W := 0) (rm24 l Z a0 hw [] asb pk h0 n0 Z0 Eb Bk) hZ (own_w hw 138 rfl) (own_w hw 50 rfl) (by decide) (by decide)) q129a q129c (g := (mkF m 10 #[.val (.ref ax), .val (.ref asb), .val .null, .val (.ref ab), .unset] [(.ref asb)])) rfl (by rw [hml]; rfl) (Steps.refl _) (argsL := []) (rest := []) (lenOf own_pd21 rfl) rfl (by show 2 * 0 + _ ≤ _; exact Nat.le_of_eq rfl) (hb hby d22_10) (fun _ _ => ⟨rfl, eq128, (by decide : 0 + 0 ≤ _), (by decide : 0 + 0 ≤ _)⟩)
  dsimp only [Pt.U, Pt.locs, Pt.cells, Pt.slots] at X129 l129 y129 z129 st129 hQ129
  replace y129 : _ = 0 := y129
  replace z129 : _ = 0 := z129
  subst y129 z129
  obtain ⟨Nq129, rfl, eq129⟩ := hQ129
  have N129 := own_frl l129 N128 Nq129
  refine own_pre (fun t k => st129.trans k) ?_
  refine own_pre (A := (T129.setTop (mkF m 16 #[.val (.ref ax), .val (.ref asb), .val .null, .val (.ref ab), .val (.int pk)] [(.ref asb)]))) ?_ ?_
  · intro t k
    refine XS.istore X129.here hx rfl (hb hby d22_13) rfl (l' := #[.val (.ref ax), .val (.ref asb), .val .null, .val (.ref ab), .val (.int pk)]) rfl ?_
    refine XS.aloadN X129.here hx rfl (hb hby d22_15) rfl rfl ?_
    exact k
  obtain ⟨cq130, kq130, q130a, q130b, q130c⟩ := isOf hZ eq129 Eb
  obtain ⟨_, _, ⟨T130, L130, k130, n130⟩, -, X130, ⟨Lc130, hQ130, l130, y130, z130⟩, st130⟩ := X129.virtualBack hx (y := (⟨"java/lang/AbstractStringBuilder", "isLatin1", "()Z"⟩ : MethodName)) (z := (⟨"java/lang/AbstractStringBuilder", "isLatin1", "()Z"⟩ : MethodName)) hown (mvT hZ (own_w hw 141 rfl)) (mvT hZ (own_w hw 142 rfl)) (notFace_of_selects (args := #[]) (mvT hZ (own_w hw 144 rfl))) (mvT hZ (own_w hw 144 rfl)) (mvT hZ (own_w hw 143 rfl)) (by decide) (backOf (W := 0) (rm26 l Z a0 hw [] asb pG h0 n0 Z0 Bc O2 hG X00) hZ (own_w hw 145 rfl) (own_w hw 58 rfl) (by decide) (by decide)) q130a q130c (g := (mkF m 16 #[.val (.ref ax), .val (.ref asb), .val .null, .val (.ref ab), .val (.int pk)] [(.ref asb)])) rfl (by rw [hml]; rfl) (Steps.refl _) (argsL := []) (rest := []) (lenOf own_pd3 rfl) rfl (by show 2 * 0 + _ ≤ _; exact Nat.le_of_eq rfl) (hb hby d22_16) (fun _ _ => ⟨rfl, eq129, (by decide : 0 + 0 ≤ _), (by decide : 0 + 0 ≤ _)⟩)
  dsimp only [Pt.U, Pt.locs, Pt.cells, Pt.slots] at X130 l130 y130 z130 st130 hQ130
  replace y130 : _ = 0 := y130
  replace z130 : _ = 0 := z130
  subst y130 z130
  obtain ⟨Nq130, rfl, eq130⟩ := hQ130
  have N130 := own_frl l130 N129 Nq130
  refine own_pre (fun t k => st130.trans k) ?_
  refine own_pre (A := (T130.setTop (mkF m 24 #[.val (.ref ax), .val (.ref asb), .val .null, .val (.ref ab), .val (.int pk)] [(.int (0 : Int32)), (.ref ax)]))) ?_ ?_
  · intro t k
    refine XS.ifNo X130.here hx rfl (hb hby d22_19) rfl ((if0 _ _).trans (feq (by decide : ¬ ((1 : Int32) = (0 : Int32)))).1) ?_
    refine XS.aloadN X130.here hx rfl (hb hby d22_22) rfl rfl ?_
    refine XS.iconst X130.here hx rfl (hb hby d22_23) ?_
    exact k
  obtain ⟨T131, h131, X131, e131, W131, st131⟩ := putFN X130 hx hZ hown (own_w hw 28 rfl) Via.refl eq130 Fc Ea (Or.inr ⟨(own_w hw 29 rfl), rfl, hnm⟩) (own_w hw 14 rfl) (ty := .byte) (v' := (.int (0 : Int32))) (by decide) rfl rfl (g := (mkF m 24 #[.val (.ref ax), .val (.ref asb), .val .null, .val (.ref ab), .val (.int pk)] [(.int (0 : Int32)), (.ref ax)])) rfl rfl (hb hby d22_24)
  have Ea_131 := Ea.wr W131
  have Fv_131 := Fv.other W131 (Or.inr (slot_ne (Or.inr (own_w hw 27 rfl)) (Or.inr (own_w hw 29 rfl)) (by decide) (t := (.array .byte)) (t' := .byte) (by decide) (by decide)))
  have Ey_131 := Ey.wr W131
  have Vb_131 := Vb.other W131 nab.symm
  have Zs131 : n0 ≤ h131.size := Nat.le_trans Z0 (Keep.of_wr W131).1
  have Kc131 : Keep h0 h131 [ax] := (Keep.refl h0 [ax]).wr W131 (Or.inl (List.mem_of_getElem? (i := 0) rfl))
  have N131 := Fr.snoc X131 N130 ga
  have Fw131 := Fc.same W131
  refine own_pre (fun t k => st131 t k) ?_
  refine own_pre (A := (T131.setTop (mkF m 32 #[.val (.ref ax), .val (.ref asb), .val .null, .val (.ref ab), .val (.int pk)] [(.int pk), (.int (0 : Int32)), (.ref ab), (.ref ax)]))) ?_ ?_
  · intro t k
    refine XS.aloadN X131.here hx rfl (hb hby d22_27) rfl rfl ?_
    refine XS.aloadN X131.here hx rfl (hb hby d22_28) rfl rfl ?_
    refine XS.iconst X131.here hx rfl (hb hby d22_29) ?_
    refine XS.iload X131.here hx rfl (hb hby d22_30) rfl ?_
    exact k
  obtain ⟨_, _, ⟨T132, L132, k132, n132⟩, -, X132, ⟨Lc132, hQ132, l132, y132, z132⟩, st132⟩ := Jvm.LawKit.callS X131 hx (y := (⟨"java/util/Arrays", "copyOfRange", "([BII)[B"⟩ : MethodName)) hown (mvT hZ (own_w hw 146 rfl)) (mvT hZ (own_w hw 147 rfl)) (mvT hZ (own_w hw 148 rfl)) (mvT hZ (own_w hw 149 rfl)) (by decide) (backOf (W := 1) (rm27 l Z a0 hw [] ab pk kb zc wv cs0 h131 n0 Zs131 Ey_131 Vb_131 ok) hZ (own_w hw 149 rfl) (own_w hw 148 rfl) (by decide) (by decide)) (g := (mkF m 32 #[.val (.ref ax), .val (.ref asb), .val .null, .val (.ref ab), .val (.int pk)] [(.int pk), (.int (0 : Int32)), (.ref ab), (.ref ax)])) rfl (by rw [hml]; rfl) (argsL := [(.ref ab), (.int (0 : Int32)), (.int pk)]) (rest := [(.ref ax)]) (lenOf own_pd24 rfl) rfl (by show 2 * 0 + _ ≤ _; exact Nat.le_of_eq rfl) (hb hby d22_32) (fun _ _ => ⟨rfl, e131, (by decide : 0 + 1 ≤ _), (by decide : 0 + 34 ≤ _)⟩)
  dsimp only [Pt.U, Pt.locs, Pt.cells, Pt.slots] at X132 l132 y132 z132 st132 hQ132
  replace y132 : _ = 1 := y132
  replace z132 : _ = 34 := z132
  subst y132 z132
  obtain ⟨Nq132, ad132, kq132, rfl, gq132, zz132, Vq132, Kq132⟩ := hQ132
  have N132 := own_frl l132 N131 Nq132
  refine own_pre (fun t k => st132 t k) ?_
  have ne_ax_ad132 : ax ≠ ad132 := Nat.ne_of_lt (Nat.lt_of_lt_of_le Ea_131.lt zz132)
  have sz_ad132 : h0.size ≤ ad132 := Nat.le_trans Kc131.1 zz132
  have Ea_132 := Ea_131.keep Kq132
  have Fv_132 := Fv_131.keep Kq132 nin0
  have Fw131_132 := Fw131.keep Kq132 nin0
  have Kc132 : Keep h0 T132.heap [ax] := Kc131.trans Kq132 all0
  obtain ⟨T133, h133, X133, e133, W133, st133⟩ := putF X132 hx hZ hown (host := "") (Or.inl (own_w hw 26 rfl)) Via.refl rfl Fv_132 Ea_132 (Or.inr ⟨(own_w hw 27 rfl), rfl, hnm⟩) (own_w hw 14 rfl) (ty := (.array .byte)) (by decide) rfl rfl (g := (mkF m 35 #[.val (.ref ax), .val (.ref asb), .val .null, .val (.ref ab), .val (.int pk)] [(.ref ad132), (.ref ax)])) rfl rfl (hb hby d22_35)
  have Fw131_133 := Fw131_132.other W133 (Or.inr (slot_ne (Or.inr (own_w hw 29 rfl)) (Or.inr (own_w hw 27 rfl)) (by decide) (t := .byte) (t' := (.array .byte)) (by decide) (by decide)))
  have Vq132_133 := Vq132.other W133 ne_ax_ad132.symm
  have Kc133 : Keep h0 h133 [ax] := Kc132.wr W133 (Or.inl (List.mem_of_getElem? (i := 0) rfl))
  have N133 := Fr.snoc X133 N132 ga
  have Fw133 := Fv_132.same W133
  refine own_pre (fun t k => st133 t k) ?_
  refine own_pre (A := (T133.setTop (mkF m 97 #[.val (.ref ax), .val (.ref asb), .val .null, .val (.ref ab), .val (.int pk)] []))) ?_ ?_
  · intro t k
    refine XS.goto X133.here hx rfl (pc0 := 38) (pc' := 97) rfl (hb hby d22_38) (by decide) (by decide) ?_
    exact k
  obtain ⟨fs, hr, hrun, hended, hW, hsame⟩ := X133.leave (hlocks := BodyLoose.notSynchronized Bd) (v := none) (fun _ => rfl)
  refine ⟨_, _, X133.returnOut hx Bd.returns (hb hby d22_97) hr, hrun, hended, _, _, rfl, ?_, ⟨_, rfl⟩, hW, hsame.mono (by decide) (by decide)⟩
  show own_Q22 Z ax asb ab kb zc pk wv cs0 pG h0 n0 _ T133.heap _
  rw [e133]
  exact ⟨N133, rfl, Kc133, ad132, kq132, sz_ad132, Fw133, Fw131_133, Vq132_133⟩
theorem d21_0 : decode jdk_42_method_53_code 0 = .ok (.aload_n 0, 1) := by decide +kernel
theorem d21_1 : decode jdk_42_method_53_code 1 = .ok (.aload_n 1, 1) := by decide +kernel
theorem d21_2 : decode jdk_42_method_53_code 2 = .ok (.aconst_null, 1) := by decide +kernel
theorem d21_3 : decode jdk_42_method_53_code 3 = .ok (.invokespecial 489, 3) := by decide +kernel
theorem d21_6 : decode jdk_42_method_53_code 6 = .ok (.return_, 1) := by decide +kernel
theorem own_pn21 : plainName "java/lang/String" = true := by first | (simp [plainName, overriddenIn]; done) | decide +kernel
theorem own_ef21 (m : MethodId) (x0 : Addr) (x1 : Addr) : entryFrame m #[(.ref x0), (.ref x1)] 2 = mkF m 0 #[.val (.ref x0), .val (.ref x1)] [] := by first | (simp [entryFrame, mkF, argsToLocals, Value.category]; done) | rfl
def own_Q21 (Z : State) (ax : Addr) (asb : Addr) (ab : Addr) (kb : ClassId) (zc : Int32) (pk : Int32) (wv : List Value) (cs0 : List Int32) (pG : Int32) (h0 : Heap) (n0 : Nat) (v : Option Value) (h : Heap) (L : List Loc) : Prop := Fr n0 L ∧ v = none ∧ Keep h0 h [ax] ∧ ∃ (ad : Addr) (kd : ClassId), h0.size ≤ ad ∧ Fld Z h ax "java/lang/String" "value" "[B" (.ref ad) ∧ Fld Z h ax "java/lang/String" "coder" "B" (.int (0 : Int32)) ∧ Arv Z h ad kd .byte pk (List.map own_by cs0) (.int (0 : Int32))
set_option maxRecDepth 65536 in
set_option maxHeartbeats 40000000 in
theorem rm21 (l : Launch) (Z : State) (a0 : Array Value) (hw : ∀ d ∈ tables_1, d.before a0 Z = true) (ws : List Jvm.Cond) (ax : Addr) (asb : Addr) (ab : Addr) (kb : ClassId) (zc : Int32) (pk : Int32) (wv : List Value) (cs0 : List Int32) (pG : Int32) (h0 : Heap) (n0 : Nat) (Z0 : n0 ≤ h0.size) (Ea : Exa Z h0 ax "java/lang/String") (Fv : Fld Z h0 ax "java/lang/String" "value" "[B" .null) (Fc : Fld Z h0 ax "java/lang/String" "coder" "B" (.int (0 : Int32))) (ga : n0 ≤ ax) (Eb : Exa Z h0 asb "java/lang/StringBuilder") (Bv : Fld Z h0 asb "java/lang/AbstractStringBuilder" "value" "[B" (.ref ab)) (Bc : Fld Z h0 asb "java/lang/AbstractStringBuilder" "coder" "B" (.int (0 : Int32))) (Bk : Fld Z h0 asb "java/lang/AbstractStringBuilder" "count" "I" (.int pk)) (Ey : Exa Z h0 ab "[B") (Vb : Arv Z h0 ab kb .byte zc wv (.int (0 : Int32))) (ok : own_ok zc pk wv cs0) (nas : ax ≠ asb) (nab : ax ≠ ab) (O2 : Sta Z Z.heap "java/lang/String" "COMPACT_STRINGS" "Z" (.int pG)) (hG : ¬ pG = (0 : Int32)) (X00 : Old Z n0 h0) :
    MetFree l (⟨"java/lang/String", "<init>", "(Ljava/lang/StringBuilder;)V"⟩ : MethodName) (head1 (Jvm.Cond.code (⟨"java/lang/String", "<init>", "(Ljava/lang/StringBuilder;)V"⟩ : MethodName) jdk_42_method_53_code 2 none :: ws) ({ frames := 4, cells := 1, slots := 34, locals := 65 } : Room)) (fun a U => a = #[(.ref ax), (.ref asb)] ∧ Z.Warmed39 U.vm ∧ U.heap = h0) (fun _ _ _ _ _ => True) (fun _ U o U' => ∃ v L, o = .returned v ∧ own_Q21 Z ax asb ab kb zc pk wv cs0 pG h0 n0 v U'.heap L ∧ FrameEnd U o U' L ({ frames := 4, cells := 1, slots := 34, locals := 65 } : Room).cells ({ frames := 4, cells := 1, slots := 34, locals := 65 } : Room).slots) := by
  refine MetFree.of_bodySF (plainFor_of_name own_pn21) hisR ?_
  intro p e s m args below meth c s₁ Bd hml0 hP hK
  obtain ⟨rfl, hZ, hh⟩ := hP
  have hx := Bd.exec
  have hby := Bd.bytes
  have hml : c.maxLocals = 2 := hml0
  have hown : s.vm.findClass "java/lang/String" = some m.cls := findClass_of_methodNamed Bd.named
  have hnm := (name_of_methodNamed Bd.named Bd.method).1
  have X0 : Stand p l e ({ frames := 4, cells := 1, slots := 34, locals := 65 } : Room) s m #[(.ref ax), (.ref asb)] below meth c s₁ [] 0 0 := Stand.of_body Bd
  have e0 : s₁.heap = h0 := by rw [← hh, Bd.state]; rfl
  have N0 := Fr.nil n0
  refine own_pre (A := (s₁.setTop (mkF m 0 #[.val (.ref ax), .val (.ref asb)] []))) (fun t k => castTop (own_ef21 m ax asb) k) ?_
  refine own_pre (A := (s₁.setTop (mkF m 3 #[.val (.ref ax), .val (.ref asb)] [.null, (.ref asb), (.ref ax)]))) ?_ ?_
  · intro t k
    refine XS.aloadN X0.here hx rfl (hb hby d21_0) rfl rfl ?_
    refine XS.aloadN X0.here hx rfl (hb hby d21_1) rfl rfl ?_
    refine XS.aconstNull X0.here hx rfl (hb hby d21_2) ?_
    exact k
  obtain ⟨_, _, ⟨T134, L134, k134, n134⟩, -, X134, ⟨Lc134, hQ134, l134, y134, z134⟩, st134⟩ := X0.specialBack hx (y := (⟨"java/lang/String", "<init>", "(Ljava/lang/AbstractStringBuilder;Ljava/lang/Void;)V"⟩ : MethodName)) rfl hown (mvT hZ (own_w hw 125 rfl)) (mvT hZ (own_w hw 126 rfl)) (mvT hZ (own_w hw 127 rfl)) (by decide) (backOf (W := 0) (rm22 l Z a0 hw [] ax asb ab kb zc pk wv cs0 pG h0 n0 Z0 Ea Fv Fc ga Eb Bv Bc Bk Ey Vb ok nas nab O2 hG X00) hZ (own_w hw 127 rfl) (own_w hw 6 rfl) (by decide) (by decide)) (g := (mkF m 3 #[.val (.ref ax), .val (.ref asb)] [.null, (.ref asb), (.ref ax)])) rfl (by rw [hml]; rfl) (Steps.refl _) (a := ax) (argsL := [(.ref asb), .null]) (rest := []) (lenOf own_pd26 rfl) rfl (by show 2 * 0 + _ ≤ _; exact Nat.le_of_eq rfl) (hb hby d21_3) (fun _ _ => ⟨rfl, e0, (by decide : 0 + 1 ≤ _), (by decide : 0 + 34 ≤ _)⟩)
  dsimp only [Pt.U, Pt.locs, Pt.cells, Pt.slots] at X134 l134 y134 z134 st134 hQ134
  replace y134 : _ = 1 := y134
  replace z134 : _ = 34 := z134
  subst y134 z134
  obtain ⟨Nq134, rfl, Kq134, ad134, kq134, zz134, Fv134, Fc134, Vq134⟩ := hQ134
  have N134 := own_frl l134 N0 Nq134
  refine own_pre (fun t k => st134.trans k) ?_
  have sz_ad134 : h0.size ≤ ad134 := Nat.le_trans (Keep.refl h0 [ax]).1 zz134
  have Kc134 : Keep h0 T134.heap [ax] := (Keep.refl h0 [ax]).trans Kq134 (allS (Or.inl (List.mem_of_getElem? (i := 0) rfl)) all0)
  obtain ⟨fs, hr, hrun, hended, hW, hsame⟩ := X134.leave (hlocks := BodyLoose.notSynchronized Bd) (v := none) (fun _ => rfl)
  refine ⟨_, _, X134.returnOut hx Bd.returns (hb hby d21_6) hr, hrun, hended, _, _, rfl, ?_, ⟨_, rfl⟩, hW, hsame.mono (by decide) (by decide)⟩
  show own_Q21 Z ax asb ab kb zc pk wv cs0 pG h0 n0 _ T134.heap _
  exact ⟨N134, rfl, Kc134, ad134, kq134, sz_ad134, Fv134, Fc134, Vq134⟩
theorem d20_0 : decode jdk_67_method_42_code 0 = .ok (.new 18, 3) := by decide +kernel
theorem d20_3 : decode jdk_67_method_42_code 3 = .ok (.dup, 1) := by decide +kernel
theorem d20_4 : decode jdk_67_method_42_code 4 = .ok (.aload_n 0, 1) := by decide +kernel
theorem d20_5 : decode jdk_67_method_42_code 5 = .ok (.invokespecial 137, 3) := by decide +kernel
theorem d20_8 : decode jdk_67_method_42_code 8 = .ok (.areturn, 1) := by decide +kernel
theorem own_pn20 : plainName "java/lang/StringBuilder" = true := by first | (simp [plainName, overriddenIn]; done) | decide +kernel
theorem own_ef20 (m : MethodId) (x0 : Addr) : entryFrame m #[(.ref x0)] 1 = mkF m 0 #[.val (.ref x0)] [] := by first | (simp [entryFrame, mkF, argsToLocals, Value.category]; done) | rfl
def own_Q20 (Z : State) (asb : Addr) (ab : Addr) (kb : ClassId) (zc : Int32) (pk : Int32) (wv : List Value) (cs0 : List Int32) (pG : Int32) (h0 : Heap) (n0 : Nat) (v : Option Value) (h : Heap) (L : List Loc) : Prop := Fr n0 L ∧ ∃ (ar ad : Addr) (kd : ClassId), v = some (.ref ar) ∧ h0.size ≤ ar ∧ h0.size ≤ ad ∧ Exa Z h ar "java/lang/String" ∧ Fld Z h ar "java/lang/String" "value" "[B" (.ref ad) ∧ Fld Z h ar "java/lang/String" "coder" "B" (.int (0 : Int32)) ∧ Arv Z h ad kd .byte pk (List.map own_by cs0) (.int (0 : Int32)) ∧ Keep h0 h []
set_option maxRecDepth 65536 in
set_option maxHeartbeats 40000000 in
theorem rm20 (l : Launch) (Z : State) (a0 : Array Value) (hw : ∀ d ∈ tables_1, d.before a0 Z = true) (ws : List Jvm.Cond) (asb : Addr) (ab : Addr) (kb : ClassId) (zc : Int32) (pk : Int32) (wv : List Value) (cs0 : List Int32) (pG : Int32) (h0 : Heap) (n0 : Nat) (Z0 : n0 ≤ h0.size) (Eb : Exa Z h0 asb "java/lang/StringBuilder") (Bv : Fld Z h0 asb "java/lang/AbstractStringBuilder" "value" "[B" (.ref ab)) (Bc : Fld Z h0 asb "java/lang/AbstractStringBuilder" "coder" "B" (.int (0 : Int32))) (Bk : Fld Z h0 asb "java/lang/AbstractStringBuilder" "count" "I" (.int pk)) (Ey : Exa Z h0 ab "[B") (Vb : Arv Z h0 ab kb .byte zc wv (.int (0 : Int32))) (ok : own_ok zc pk wv cs0) (O2 : Sta Z Z.heap "java/lang/String" "COMPACT_STRINGS" "Z" (.int pG)) (hG : ¬ pG = (0 : Int32)) (X00 : Old Z n0 h0) :
    MetFree l (⟨"java/lang/StringBuilder", "toString", "()Ljava/lang/String;"⟩ : MethodName) (head1 (Jvm.Cond.code (⟨"java/lang/StringBuilder", "toString", "()Ljava/lang/String;"⟩ : MethodName) jdk_67_method_42_code 1 (some (.object "java/lang/String")) :: ws) ({ frames := 5, cells := 2, slots := 38, locals := 79 } : Room)) (fun a U => a = #[(.ref asb)] ∧ Z.Warmed39 U.vm ∧ U.heap = h0) (fun _ _ _ _ _ => True) (fun _ U o U' => ∃ v L, o = .returned v ∧ own_Q20 Z asb ab kb zc pk wv cs0 pG h0 n0 v U'.heap L ∧ FrameEnd U o U' L ({ frames := 5, cells := 2, slots := 38, locals := 79 } : Room).cells ({ frames := 5, cells := 2, slots := 38, locals := 79 } : Room).slots) := by
  refine MetFree.of_bodySF (plainFor_of_name own_pn20) hisR ?_
  intro p e s m args below meth c s₁ Bd hml0 hP hK
  obtain ⟨rfl, hZ, hh⟩ := hP
  have hx := Bd.exec
  have hby := Bd.bytes
  have hml : c.maxLocals = 1 := hml0
  have hown : s.vm.findClass "java/lang/StringBuilder" = some m.cls := findClass_of_methodNamed Bd.named
  have hnm := (name_of_methodNamed Bd.named Bd.method).1
  have X0 : Stand p l e ({ frames := 5, cells := 2, slots := 38, locals := 79 } : Room) s m #[(.ref asb)] below meth c s₁ [] 0 0 := Stand.of_body Bd
  have e0 : s₁.heap = h0 := by rw [← hh, Bd.state]; rfl
  have N0 := Fr.nil n0
  refine own_pre (A := (s₁.setTop (mkF m 0 #[.val (.ref asb)] []))) (fun t k => castTop (own_ef20 m asb) k) ?_
  obtain ⟨T135, h135, X135, e135, E135, A135, D135, -, st135⟩ := newO X0 hx hZ hown (own_w hw 121 rfl) (own_w hw 14 rfl) (own_w hw 6 rfl) e0 (g := (mkF m 0 #[.val (.ref asb)] [])) rfl (hb hby d20_0) (by decide) (by decide)
  obtain ⟨b135, g135⟩ : ∃ z, z = h0.size := ⟨_, rfl⟩
  rw [← g135] at A135 D135 st135
  have ne_ab_b135 : ab ≠ b135 := Nat.ne_of_lt (Nat.lt_of_lt_of_le Ey.lt (Nat.le_of_eq g135.symm))
  have ne_asb_b135 : asb ≠ b135 := Nat.ne_of_lt (Nat.lt_of_lt_of_le Eb.lt (Nat.le_of_eq g135.symm))
  have gn_b135 : n0 ≤ b135 := Nat.le_trans Z0 (Nat.le_of_eq g135.symm)
  have sz_b135 : h0.size ≤ b135 := Nat.le_trans (Keep.refl h0 []).1 (Nat.le_of_eq g135.symm)
  have Eb_135 := Eb.ext E135
  have Bv_135 := Bv.ext E135
  have Bc_135 := Bc.ext E135
  have Bk_135 := Bk.ext E135
  have Ey_135 := Ey.ext E135
  have Vb_135 := Vb.ext E135
  have X00_135 := X00.ext E135
  have Zs135 : n0 ≤ h135.size := Nat.le_trans Z0 E135.1
  have Kc135 : Keep h0 h135 [] := (Keep.refl h0 []).ext E135
  have F135_value : Fld Z h135 b135 "java/lang/String" "value" "[B" .null := D135 (Or.inr (own_w hw 27 rfl)) (ty := (.array .byte)) (by decide)
  have F135_coder : Fld Z h135 b135 "java/lang/String" "coder" "B" (.int (0 : Int32)) := D135 (Or.inr (own_w hw 29 rfl)) (ty := .byte) (by decide)
  refine own_pre (fun t k => st135 t k) ?_
  refine own_pre (A := (T135.setTop (mkF m 5 #[.val (.ref asb)] [(.ref asb), (.ref b135), (.ref b135)]))) ?_ ?_
  · intro t k
    refine XS.dup X135.here hx rfl (hb hby d20_3) rfl rfl ?_
    refine XS.aloadN X135.here hx rfl (hb hby d20_4) rfl rfl ?_
    exact k
  obtain ⟨_, _, ⟨T136, L136, k136, n136⟩, -, X136, ⟨Lc136, hQ136, l136, y136, z136⟩, st136⟩ := X135.specialBack hx (y := (⟨"java/lang/String", "<init>", "(Ljava/lang/StringBuilder;)V"⟩ : MethodName)) rfl hown (mvT hZ (own_w hw 122 rfl)) (mvT hZ (own_w hw 123 rfl)) (mvT hZ (own_w hw 124 rfl)) (by decide) (backOf (W := 1) (rm21 l Z a0 hw [] b135 asb ab kb zc pk wv cs0 pG h135 n0 Zs135 A135 F135_value F135_coder gn_b135 Eb_135 Bv_135 Bc_135 Bk_135 Ey_135 Vb_135 ok ne_asb_b135.symm ne_ab_b135.symm O2 hG X00_135) hZ (own_w hw 124 rfl) (own_w hw 6 rfl) (by decide) (by decide)) (g := (mkF m 5 #[.val (.ref asb)] [(.ref asb), (.ref b135), (.ref b135)])) rfl (by rw [hml]; rfl) (Steps.refl _) (a := b135) (argsL := [(.ref asb)]) (rest := [(.ref b135)]) (lenOf own_pd27 rfl) rfl (by show 2 * 0 + _ ≤ _; exact Nat.le_of_eq rfl) (hb hby d20_5) (fun _ _ => ⟨rfl, e135, (by decide : 1 + 1 ≤ _), (by decide : 4 + 34 ≤ _)⟩)
  dsimp only [Pt.U, Pt.locs, Pt.cells, Pt.slots] at X136 l136 y136 z136 st136 hQ136
  replace y136 : _ = 2 := y136
  replace z136 : _ = 38 := z136
  subst y136 z136
  obtain ⟨Nq136, rfl, Kq136, ad136, kq136, zz136, Fv136, Fc136, Vq136⟩ := hQ136
  have N136 := own_frl l136 N0 Nq136
  refine own_pre (fun t k => st136.trans k) ?_
  have sz_ad136 : h0.size ≤ ad136 := Nat.le_trans Kc135.1 zz136
  have A135_136 := A135.keep Kq136
  have Kc136 : Keep h0 T136.heap [] := Kc135.trans Kq136 (allS (Or.inr sz_b135) all0)
  obtain ⟨fs, hr, hrun, hended, hW, hsame⟩ := X136.leave (hlocks := BodyLoose.notSynchronized Bd) (v := some (.ref b135)) (fun h => by rw [Bd.returns] at h; cases h)
  refine ⟨_, _, retOut X136 hx Bd.returns rfl (Or.inr (Or.inr (Or.inr (Or.inr ⟨rfl, rfl, rfl⟩)))) (hb hby d20_8) hr, hrun, hended, _, _, rfl, ?_, ⟨_, rfl⟩, hW, hsame.mono (by decide) (by decide)⟩
  show own_Q20 Z asb ab kb zc pk wv cs0 pG h0 n0 _ T136.heap _
  exact ⟨N136, b135, ad136, kq136, rfl, sz_b135, sz_ad136, A135_136, Fv136, Fc136, Vq136, Kc136⟩
theorem own_Meq (w n r : List Int32) : (((((([] ++ [99, 97, 110, 110, 111, 116, 32, 114, 101, 97, 100, 32]) ++ w) ++ [32]) ++ n) ++ [58, 32]) ++ r) = ([99, 97, 110, 110, 111, 116, 32, 114, 101, 97, 100, 32] ++ (w ++ (32 :: (n ++ (58 :: 32 :: r))))) := by simp
theorem own_ltp {a pn : Int32} (h : (11 : Int32) < pn) (ha : ¬ (11 : Int32) < a) : a < pn := by
  rw [Int32.lt_iff_toInt_lt] at *
  omega
theorem own_s0 {pl x y : Int32} {d : Value} (h : pl = 0 ∨ pl = 1 ∨ pl = 2) (q : ¬ pl = 0) : (0 : Int32) < pl ∧ (List.map own_by (own_s pl x y)).getD (0 : Int32).toNatClampNeg d = own_by x := by
  rcases h with rfl | rfl | rfl
  · exact absurd rfl q
  · exact ⟨by decide, rfl⟩
  · exact ⟨by decide, rfl⟩
theorem own_s1 {pl x y : Int32} {d : Value} (h : pl = 0 ∨ pl = 1 ∨ pl = 2) (q : ¬ pl < 2) : (1 : Int32) < pl ∧ (List.map own_by (own_s pl x y)).getD (1 : Int32).toNatClampNeg d = own_by y := by
  rcases h with rfl | rfl | rfl
  · exact absurd (by decide) q
  · exact absurd (by decide) q
  · exact ⟨by decide, rfl⟩
theorem own_ch256 (x : Int32) : 0 ≤ ((x &&& (255 : Int32)).toUInt32.toUInt16.toUInt32.toInt32).toInt ∧ ((x &&& (255 : Int32)).toUInt32.toUInt16.toUInt32.toInt32).toInt < 256 := by
  have h1 := c_and x (255 : Int32) (by decide)
  have h2 := c_i2c (x &&& (255 : Int32))
  have w : (255 : Int32).toInt = 255 := by decide
  omega
theorem own_mod3 (x : Int32) : ((x &&& (3 : Int32)) % (3 : Int32)) = 0 ∨ ((x &&& (3 : Int32)) % (3 : Int32)) = 1 ∨ ((x &&& (3 : Int32)) % (3 : Int32)) = 2 := by
  have h1 := c_and x (3 : Int32) (by decide)
  have h2 := c_irem (x &&& (3 : Int32)) (3 : Int32) 3 (by decide)
  have z : (0 : Int32).toInt = 0 := by decide
  have o : (1 : Int32).toInt = 1 := by decide
  have w : (2 : Int32).toInt = 2 := by decide
  simp only [← Int32.toInt_inj, z, o, w]
  omega
abbrev own_M (lw x0 x1 ln y0 y1 lr w0 w1 : Int32) : List Int32 := [99, 97, 110, 110, 111, 116, 32, 114, 101, 97, 100, 32] ++ (own_s lw x0 x1 ++ (32 :: (own_s ln y0 y1 ++ (58 :: 32 :: own_s lr w0 w1))))
theorem own_len {lw x0 x1 ln y0 y1 lr w0 w1 pn : Int32} (h1 : lw = 0 ∨ lw = 1 ∨ lw = 2) (h2 : ln = 0 ∨ ln = 1 ∨ ln = 2) (h3 : lr = 0 ∨ lr = 1 ∨ lr = 2) (h : own_n pn (own_M lw x0 x1 ln y0 y1 lr w0 w1)) : pn = ((((15 : Int32) + lw) + ln) + lr) := by
  have q := nat_of h.1
  rw [h.2] at q
  apply Int32.toInt_inj.mp
  rw [q]
  rcases h1 with rfl | rfl | rfl <;> rcases h2 with rfl | rfl | rfl <;> rcases h3 with rfl | rfl | rfl <;> rfl
theorem own_11 {lw ln lr pn : Int32} (h1 : lw = 0 ∨ lw = 1 ∨ lw = 2) (h2 : ln = 0 ∨ ln = 1 ∨ ln = 2) (h3 : lr = 0 ∨ lr = 1 ∨ lr = 2) (h : pn = ((((15 : Int32) + lw) + ln) + lr)) : (11 : Int32) < pn := by
  subst h
  rcases h1 with rfl | rfl | rfl <;> rcases h2 with rfl | rfl | rfl <;> rcases h3 with rfl | rfl | rfl <;> decide
theorem own_at_w {lw x0 x1 ln y0 y1 lr w0 w1 pn : Int32} {d : Value} (h1 : lw = 0 ∨ lw = 1 ∨ lw = 2) (h2 : ln = 0 ∨ ln = 1 ∨ ln = 2) (h3 : lr = 0 ∨ lr = 1 ∨ lr = 2) (h : pn = ((((15 : Int32) + lw) + ln) + lr)) : (¬ lw = 0 → (¬ (12 : Int32) < 0 ∧ (12 : Int32) < pn) ∧ (List.map own_by (own_M lw x0 x1 ln y0 y1 lr w0 w1)).getD ((12 : Int32)).toNatClampNeg d = own_by x0) ∧ (¬ lw < 2 → (¬ ((12 : Int32) + (1 : Int32)) < 0 ∧ ((12 : Int32) + (1 : Int32)) < pn) ∧ (List.map own_by (own_M lw x0 x1 ln y0 y1 lr w0 w1)).getD ((12 : Int32) + (1 : Int32)).toNatClampNeg d = own_by x1) := by
  subst h
  rcases h1 with rfl | rfl | rfl <;> rcases h2 with rfl | rfl | rfl <;> rcases h3 with rfl | rfl | rfl <;> (refine ⟨fun q => ?_, fun q => ?_⟩ <;> first | exact absurd rfl q | exact absurd (by decide) q | exact ⟨⟨by decide, by decide⟩, rfl⟩)
theorem own_at_n {lw x0 x1 ln y0 y1 lr w0 w1 pn : Int32} {d : Value} (h1 : lw = 0 ∨ lw = 1 ∨ lw = 2) (h2 : ln = 0 ∨ ln = 1 ∨ ln = 2) (h3 : lr = 0 ∨ lr = 1 ∨ lr = 2) (h : pn = ((((15 : Int32) + lw) + ln) + lr)) : (¬ ln = 0 → (¬ ((13 : Int32) + lw) < 0 ∧ ((13 : Int32) + lw) < pn) ∧ (List.map own_by (own_M lw x0 x1 ln y0 y1 lr w0 w1)).getD (((13 : Int32) + lw)).toNatClampNeg d = own_by y0) ∧ (¬ ln < 2 → (¬ (((13 : Int32) + lw) + (1 : Int32)) < 0 ∧ (((13 : Int32) + lw) + (1 : Int32)) < pn) ∧ (List.map own_by (own_M lw x0 x1 ln y0 y1 lr w0 w1)).getD (((13 : Int32) + lw) + (1 : Int32)).toNatClampNeg d = own_by y1) := by
  subst h
  rcases h1 with rfl | rfl | rfl <;> rcases h2 with rfl | rfl | rfl <;> rcases h3 with rfl | rfl | rfl <;> (refine ⟨fun q => ?_, fun q => ?_⟩ <;> first | exact absurd rfl q | exact absurd (by decide) q | exact ⟨⟨by decide, by decide⟩, rfl⟩)
theorem own_at_r {lw x0 x1 ln y0 y1 lr w0 w1 pn : Int32} {d : Value} (h1 : lw = 0 ∨ lw = 1 ∨ lw = 2) (h2 : ln = 0 ∨ ln = 1 ∨ ln = 2) (h3 : lr = 0 ∨ lr = 1 ∨ lr = 2) (h : pn = ((((15 : Int32) + lw) + ln) + lr)) : (¬ lr = 0 → (¬ (((15 : Int32) + lw) + ln) < 0 ∧ (((15 : Int32) + lw) + ln) < pn) ∧ (List.map own_by (own_M lw x0 x1 ln y0 y1 lr w0 w1)).getD ((((15 : Int32) + lw) + ln)).toNatClampNeg d = own_by w0) ∧ (¬ lr < 2 → (¬ ((((15 : Int32) + lw) + ln) + (1 : Int32)) < 0 ∧ ((((15 : Int32) + lw) + ln) + (1 : Int32)) < pn) ∧ (List.map own_by (own_M lw x0 x1 ln y0 y1 lr w0 w1)).getD ((((15 : Int32) + lw) + ln) + (1 : Int32)).toNatClampNeg d = own_by w1) := by
  subst h
  rcases h1 with rfl | rfl | rfl <;> rcases h2 with rfl | rfl | rfl <;> rcases h3 with rfl | rfl | rfl <;> (refine ⟨fun q => ?_, fun q => ?_⟩ <;> first | exact absurd rfl q | exact absurd (by decide) q | exact ⟨⟨by decide, by decide⟩, rfl⟩)
theorem own_c1 {lw x0 x1 ln y0 y1 lr w0 w1 pn : Int32} {d : Value} (h1 : lw = 0 ∨ lw = 1 ∨ lw = 2) (h2 : ln = 0 ∨ ln = 1 ∨ ln = 2) (h3 : lr = 0 ∨ lr = 1 ∨ lr = 2) (h : pn = ((((15 : Int32) + lw) + ln) + lr)) : (¬ ((12 : Int32) + lw) < 0 ∧ ((12 : Int32) + lw) < pn) ∧ (List.map own_by (own_M lw x0 x1 ln y0 y1 lr w0 w1)).getD (((12 : Int32) + lw)).toNatClampNeg d = own_by 32 := by
  subst h
  rcases h1 with rfl | rfl | rfl <;> rcases h2 with rfl | rfl | rfl <;> rcases h3 with rfl | rfl | rfl <;> exact ⟨⟨by decide, by decide⟩, rfl⟩
theorem own_c2 {lw x0 x1 ln y0 y1 lr w0 w1 pn : Int32} {d : Value} (h1 : lw = 0 ∨ lw = 1 ∨ lw = 2) (h2 : ln = 0 ∨ ln = 1 ∨ ln = 2) (h3 : lr = 0 ∨ lr = 1 ∨ lr = 2) (h : pn = ((((15 : Int32) + lw) + ln) + lr)) : (¬ (((13 : Int32) + lw) + ln) < 0 ∧ (((13 : Int32) + lw) + ln) < pn) ∧ (List.map own_by (own_M lw x0 x1 ln y0 y1 lr w0 w1)).getD ((((13 : Int32) + lw) + ln)).toNatClampNeg d = own_by 58 := by
  subst h
  rcases h1 with rfl | rfl | rfl <;> rcases h2 with rfl | rfl | rfl <;> rcases h3 with rfl | rfl | rfl <;> exact ⟨⟨by decide, by decide⟩, rfl⟩
theorem own_c3 {lw x0 x1 ln y0 y1 lr w0 w1 pn : Int32} {d : Value} (h1 : lw = 0 ∨ lw = 1 ∨ lw = 2) (h2 : ln = 0 ∨ ln = 1 ∨ ln = 2) (h3 : lr = 0 ∨ lr = 1 ∨ lr = 2) (h : pn = ((((15 : Int32) + lw) + ln) + lr)) : (¬ (((14 : Int32) + lw) + ln) < 0 ∧ (((14 : Int32) + lw) + ln) < pn) ∧ (List.map own_by (own_M lw x0 x1 ln y0 y1 lr w0 w1)).getD ((((14 : Int32) + lw) + ln)).toNatClampNeg d = own_by 32 := by
  subst h
  rcases h1 with rfl | rfl | rfl <;> rcases h2 with rfl | rfl | rfl <;> rcases h3 with rfl | rfl | rfl <;> exact ⟨⟨by decide, by decide⟩, rfl⟩
set_option maxRecDepth 65536 in
set_option maxHeartbeats 4000000 in
theorem own_thr {args : Array Value} {s : State} {pl : Platform} {rc : String} (howns : pl.frameOwnsMonitors = true) (hfin : pl.finalization = false) (hpl : pl.magicAccessors = ({} : Platform).magicAccessors)
    (h : ∀ d ∈ throwableAtoms, d ≠ Cond.lays tN tN "suppressedExceptions" listD → d.before args s = true) (h1 : (Cond.lays rc tN "stackTrace" steD).before args s = true) (h2 : (Cond.lays rc tN "suppressedExceptions" listD).before args s = true) :
    ∃ T : ThrowableC, T.Links pl s ∧ s.vm.findClass tN = some T.cT ∧ s.methodNamed? tFill = some T.fill ∧ s.methodNamed? tFill0 = some T.fill0 ∧ s.fieldFound? tN "stackTrace" steD = some (T.cT, T.kT, T.i17, T.fStack) ∧
      s.fieldFound? tN "UNASSIGNED_STACK" steD = some (T.cT, T.kT, T.i13, T.fUnassigned) ∧ T.fStack.type = .array (.object "java/lang/StackTraceElement") ∧ T.fStack.name = "stackTrace" := by
  have at_ : ∀ n d, throwableAtoms[n]? = some d → d ≠ Cond.lays tN tN "suppressedExceptions" listD → d.holds args s none s [] = true := fun n d g u => h d (List.mem_of_getElem? g) u
  -- Throwable's record
  obtain ⟨⟨cls, f0i⟩, f0m, f0n, f0a, f0nat, f0code, f0lock, f0sig⟩ := Cond.native_spec (at_ 5 (.native tFill0) rfl (by decide))
  have wc : s.vm.findClass tN = some cls := findClass_of_methodNamed f0n
  obtain ⟨rec, wk, wname⟩ := Vm.findClass_spec wc
  obtain ⟨_, rec', _, _, wk', _, _, _, _, wni⟩ := Cond.superclass_spec wc (at_ 1 (.superclass tN "java/lang/Object") rfl (by decide))
  cases Option.some.inj (wk.symm.trans wk')
  -- its methods
  obtain ⟨fi, fm, fn, fa, fat, fst, fab, -, -⟩ := Cond.ownMethod (x := tFill) wc wk (at_ 2 (.instanceMethod tFill) rfl (by decide))
  obtain ⟨fm', fc, fa', fcode, fbytes, flen, fret, flock, -, fsig⟩ := Cond.codeSync_spec fn (at_ 3 (.codeSync tFill LibCode.Throwable.Fill.code 1 (some (.object tN))) rfl (by decide))
  cases Option.some.inj (fa.symm.trans fa')
  obtain ⟨f0i', f0m', f0n', f0a', f0at, f0st, f0ab, f0nm, f0ds⟩ := Cond.ownMethod (x := tFill0) wc wk (at_ 4 (.instanceMethod tFill0) rfl (by decide))
  cases Option.some.inj (f0n.symm.trans f0n')
  cases Option.some.inj (f0a.symm.trans f0a')
  obtain ⟨zi, zm, zn, za, zat, -, -, -, -⟩ := Cond.ownMethod (x := tInit0) wc wk (at_ 6 (.instanceMethod tInit0) rfl (by decide))
  obtain ⟨zm', zc, za', zcode, -, -, -, -, -, -⟩ := Cond.code_spec zn (at_ 7 (.code tInit0 LibCode.Throwable.Init0.code 1 none) rfl (by decide))
  cases Option.some.inj (za.symm.trans za')
  -- Object's constructor
  obtain ⟨om, omm, on, oa, ost, oab⟩ := Cond.instanceMethod_spec (at_ 8 (.instanceMethod oInit) rfl (by decide))
  obtain ⟨omm', oc, oa', ocode, obytes, -, -, olock, -, osig⟩ := Cond.code_spec on (at_ 9 (.code oInit ⟨#[0xb1]⟩ 1 none) rfl (by decide))
  cases Option.some.inj (oa.symm.trans oa')
  obtain ⟨orec, ok1, oname⟩ := Vm.findClass_spec (findClass_of_methodNamed on)
  obtain ⟨onm, ods⟩ := name_of_methodNamed on oa
  -- the pool's links
  obtain ⟨a1, b1, cf, l1, r1, file, p1⟩ := Cond.linkedMethod wc wk on (at_ 10 (.methodLink tN 1 oInit) rfl (by decide)) pl hpl
  obtain ⟨a27, b27, cf', l27, r27, file', p27⟩ := Cond.linkedMethod wc wk fn (at_ 11 (.methodLink tN 27 tFill) rfl (by decide)) pl hpl
  cases Option.some.inj (file.symm.trans file')
  obtain ⟨a202, b202, cf', l202, r202, file', p202⟩ := Cond.linkedMethod wc wk f0n (at_ 12 (.methodLink tN 202 tFill0) rfl (by decide)) pl hpl
  cases Option.some.inj (file.symm.trans file')
  obtain ⟨a7, i7, g7, l7, r7, at7, st7, fi7, -, -, -⟩ := Cond.ownField (t := .object tN) wc wk (by decide +kernel) (at_ 13 (.fieldLink tN 7 tN "cause" "Ljava/lang/Throwable;") rfl (by decide)) (at_ 14 (.lays tN tN "cause" "Ljava/lang/Throwable;") rfl (by decide)) pl hpl
  obtain ⟨a17, i17, g17, l17, r17, at17, st17, fi17, nm17, ty17, ff17⟩ := Cond.ownField (t := .array (.object "java/lang/StackTraceElement")) wc wk (by decide +kernel) (at_ 15 (.fieldLink tN 17 tN "stackTrace" steD) rfl (by decide)) h1 pl hpl
  obtain ⟨a24, i24, g24, l24, r24, at24, st24, fi24, nm24, -, ff24⟩ := Cond.ownField (t := .object "java/util/List") wc wk (by decide +kernel) (at_ 17 (.fieldLink tN 24 tN "suppressedExceptions" listD) rfl (by decide)) h2 pl hpl
  obtain ⟨a13, i13, g13, aS, cS, l13, r13, at13, st13, -, -, hstat, -, -, -, -, ff13⟩ := Cond.ownStatic (t := .array (.object "java/lang/StackTraceElement")) wc wk (by decide +kernel) (at_ 19 (.fieldLink tN 13 tN "UNASSIGNED_STACK" steD) rfl (by decide)) (at_ 20 (.laysStatic tN "UNASSIGNED_STACK" steD) rfl (by decide)) pl hpl
  obtain ⟨a20, i20, g20, _, _, l20, r20, at20, st20, -, -, -, -, -, -, -, -⟩ := Cond.ownStatic (t := .object "java/util/List") wc wk (by decide +kernel) (at_ 21 (.fieldLink tN 20 tN "SUPPRESSED_SENTINEL" listD) rfl (by decide)) (at_ 22 (.laysStatic tN "SUPPRESSED_SENTINEL" listD) rfl (by decide)) pl hpl
  obtain ⟨_, _, _, _, _, gM, _, _, _, stM, fiM, -⟩ := Cond.lays_spec (at_ 23 (.lays tN tN "detailMessage" "Ljava/lang/String;") rfl (by decide))
  -- two slots apart, as the receiver's class lays them
  obtain ⟨cR, kR, _, _, _, _, wR, wkR, -⟩ := Cond.lays_spec h1
  obtain ⟨-, d17, e17, n17⟩ := Cond.laysAt wR wkR ff17 h1
  obtain ⟨-, d24, e24, n24⟩ := Cond.laysAt wR wkR ff24 h2
  have apart := Cond.laysApart e17 e24 n17 n24 (by rw [nm17, nm24]; decide)
  have pars : ∀ {d : String} {m : Method} {ps : List FieldType}, parseMethodDescriptor d = some m.sig → (parseMethodDescriptor d).map (·.parameters) = some ps → m.sig.parameters = ps := fun g1 g2 => by rw [g1] at g2; simpa using g2
  refine ⟨{ cT := cls, kT := rec, cO := cls, aS := aS, fillIdx := fi, fill0Idx := f0i, initSIdx := zi, obj := om, kObj := orec, methFill := fm, methFill0 := f0m, methInitS := zm, methObj := omm, codeFill := fc, codeInitS := zc, codeObj := oc, fBack := g7, fDepth := g7, fStack := g17, fCause := g7, fSupp := g24, fMsg := gM, fUnassigned := g13, fSentinel := g20, cfT := cf, ci1 := a1, n1 := b1, ci27 := a27, n27 := b27, ci202 := a202, n202 := b202, ci7 := a7, i7 := i7, ci13 := a13, i13 := i13, ci17 := a17, i17 := i17, ci20 := a20, i20 := i20, ci24 := a24, i24 := i24 }, ?_, wc, fn, f0n, ff17, ff13, ty17, nm17⟩
  constructor <;> try dsimp only
  case owns => exact howns
  case noFinalization => exact hfin
  case objFound => rw [ods]; exact lookupSpecial_of_named on oa ost
  case boot => exact Vm.findClass_boot wc wk
  case initialized => exact Cond.initialized_spec wc wk (at_ 0 (.initialized tN) rfl (by decide))
  case fillParams => exact pars fsig (by decide +kernel)
  case fill0Params => exact pars f0sig (by decide +kernel)
  case objParams => rw [pars osig (ps := []) (by decide +kernel)]; rfl
  all_goals assumption
theorem own_pdF : parseMethodDescriptor "()Ljava/lang/Throwable;" = some ⟨[], some (.object "java/lang/Throwable")⟩ := by decide +kernel
theorem own_tA : ∀ d ∈ throwableAtoms, d ≠ Cond.lays tN tN "suppressedExceptions" listD → d ∈ tables_1 ∧ xOk d = true := by decide +kernel
set_option maxRecDepth 65536 in
set_option maxHeartbeats 4000000 in
open Jvm.Free.Exc in
theorem own_fill {p : Program} {l : Launch} {e : Env} {R : Room} {s : State} {m : MethodId} {args : Array Value} {below : List Frame} {meth : Method} {c : Code} {T : State} {locs : List Loc} {cells slots : Nat} {Z : State} {a0 : Array Value} {h : Heap}
    (X : Stand p l e R s m args below meth c T locs cells slots) (hx : p.tables.exec = Jvm.exec) (hlt : l.stackTraces = true) (hZ : Z.Warmed39 s.vm) (hw : ∀ d ∈ tables_1, d.before a0 Z = true) (hT : ThS Z s.heap) (hown : s.vm.findClass tN = some m.cls)
    (hTK : s.vm.MethodsKnown) (hBe : s.vm.FramesKnown below) (eT : T.heap = h) {a : Addr} (E : Exa Z h a "com/example/sigillum/sigillum/cli/UsageException") (N : Unt h a) {u : Value} (hu : u.isRef = true) (Fs : Fld Z h a tN "stackTrace" steD u) (Fb : Fld Z h a tN "backtrace" obD .null) (Fm : Fld Z h a tN "detailMessage" msgD .null) (Su : Sta Z h tN "UNASSIGNED_STACK" steD u)
    {g : JFrame} (hg : g.method = m) (hsize : g.locals.size = c.maxLocals) {rest : List Value} (hs : g.stack = .ref a :: rest) (hd : decode c.code g.pc = .ok (.invokevirtual 27, 3)) (hf : 3 ≤ R.frames) {W : Nat} (hW : 2 * g.monitorRoom + (rest.map fun v => v.category).sum ≤ W) (hlo : W + 42 ≤ R.locals) (hc : cells + 1 ≤ R.cells) (hsl : slots + 2752 ≤ R.slots) :
    ∃ (T' : State) (L : List Loc), Stand p l e R s m args below meth c T' L (cells + 1) (slots + 2752) ∧ (∀ y ∈ L, y ∈ locs ∨ y.base = a) ∧ Exa Z T'.heap a "com/example/sigillum/sigillum/cli/UsageException" ∧ Fld Z T'.heap a tN "detailMessage" msgD .null ∧
      Steps p.tables e below (T.setTop g) (T'.setTop { g with pc := g.pc + 3, stack := .ref a :: rest }) := by
  have w : ∀ n d, tables_1[n]? = some d → xOk d = true → d.before args s = true := fun n d q o => mvX hT hZ o (hw d (List.mem_of_getElem? q))
  have htr : e.platform.stackTraces = true := by rw [X.admits.platform]; exact hlt
  have howns : e.platform.frameOwnsMonitors = true := by rw [X.admits.platform]
  have hfin : e.platform.finalization = false := by rw [X.admits.platform]
  have hpl : e.platform.magicAccessors = ({} : Platform).magicAccessors := by rw [X.admits.platform]
  have wS := w 178 (.lays "com/example/sigillum/sigillum/cli/UsageException" tN "stackTrace" steD) rfl rfl
  have wD := w 207 (.lays "com/example/sigillum/sigillum/cli/UsageException" tN "depth" "I") rfl rfl
  have wB := w 206 (.lays "com/example/sigillum/sigillum/cli/UsageException" tN "backtrace" obD) rfl rfl
  have wM := w 205 (.lays "com/example/sigillum/sigillum/cli/UsageException" tN "detailMessage" msgD) rfl rfl
  obtain ⟨Q, L, qc, qf, qf0, qs, qu, qty, qnm⟩ := own_thr (args := args) (s := s) (rc := "com/example/sigillum/sigillum/cli/UsageException") howns hfin hpl (fun d hd ne => mvX hT hZ (own_tA d hd ne).2 (hw d (own_tA d hd ne).1)) wS (w 181 (.lays "com/example/sigillum/sigillum/cli/UsageException" tN "suppressedExceptions" listD) rfl rfl)
  -- the receiver
  obtain ⟨cell, n1, n2, n3⟩ := N
  obtain ⟨cE, kE, e1, e2, e3, e4, e5⟩ := E
  cases e1.symm.trans n1
  have rS : s.vm.findClass "com/example/sigillum/sigillum/cli/UsageException" = some cell.cls := by rw [hZ.alike.findClass]; exact e2
  obtain ⟨kX, x1, x2⟩ := hZ.alike.2.2 _ _ e3
  obtain ⟨_, kI, i1, i2, i3, -⟩ := Cond.instantiable_spec (w 46 (.instantiable "com/example/sigillum/sigillum/cli/UsageException" 6) rfl rfl)
  cases Option.some.inj (i1.symm.trans rS)
  cases Option.some.inj (i2.symm.trans x1)
  have hsz : cell.slots.size = kX.instanceTypes.size := by
    have o : kE.kind = .ordinary := by rw [x2] at i3; exact i3
    rw [e5 o, x2]
  have tk : ∀ {f : Field} {v : Value}, kX.instanceTypes[f.slot]? = some f.type → fits f.type v = true → Jvm.Takes s cell f v := fun {f v} g1 g2 => by
    obtain ⟨q1, q2⟩ := Takes.of_laid (v := v) x1 i3 g1 g2
    exact ⟨by rw [hsz]; simpa using q1, by rw [n2]; exact q2⟩
  -- the fields
  obtain ⟨cs1, cfs, ks1, is1, fs1, s1, s2, -, -, -, -, s7⟩ := Fs
  cases s1.symm.trans n1
  obtain ⟨kz, z1, -⟩ := State.fieldFound?_setVm (vm' := Z.vm) hZ.alike.symm qs
  cases s2.symm.trans z1
  obtain ⟨tyS, dS, hdS, hnS⟩ := Cond.laysAt rS x1 qs wS
  obtain ⟨ci198, i198, fB, k198, g198, a198, stB, -, nB, tB, ffB⟩ := Cond.ownField (t := .object "java/lang/Object") qc L.cls (by decide +kernel) (w 200 (.fieldLink tN 198 tN "backtrace" obD) rfl rfl) wB e.platform hpl
  obtain ⟨_, _, _, _, _, b1, b2, -, -, -, -, b7⟩ := Fb
  cases b1.symm.trans n1
  obtain ⟨kz2, z2, -⟩ := State.fieldFound?_setVm (vm' := Z.vm) hZ.alike.symm ffB
  cases b2.symm.trans z2
  obtain ⟨tyB, dB, hdB, hnB⟩ := Cond.laysAt rS x1 ffB wB
  obtain ⟨_, _, cD, kD, iD, fD, -, -, ffD, stD, -⟩ := Cond.lays_spec wD
  cases Option.some.inj ((Cond.lays_declared wD ffD).symm.trans qc)
  obtain ⟨hkD, atD⟩ := State.fieldFound?_spec ffD
  cases Option.some.inj (hkD.symm.trans L.cls)
  obtain ⟨nD, tD⟩ := State.fieldFound?_type ffD (t := .int) (by decide +kernel)
  obtain ⟨tyD, dD, hdD, hnD⟩ := Cond.laysAt rS x1 ffD wD
  have hfb := Cond.soleField_find qc L.cls (w 187 (.soleField tN "backtrace") rfl rfl) a198 nB stB
  have hfd := Cond.soleField_find qc L.cls (w 188 (.soleField tN "depth") rfl rfl) atD nD stD
  obtain ⟨comp, cO, kO, -, -, hkO, hkindO, hO⟩ := Cond.arrayOver_spec (w 186 (.arrayOver (.object "java/lang/Object")) rfl rfl)
  -- the static
  obtain ⟨cu, iu, ku, fu, st, cS, u1, u2, u3, u4, u5, u6, u7⟩ := Su
  obtain ⟨ku', z3, z4⟩ := State.fieldFound?_setVm (vm' := s.vm) hZ.alike u1
  have z3' : s.fieldFound? tN "UNASSIGNED_STACK" steD = some (cu, ku', iu, fu) := z3
  cases z3'.symm.trans qu
  have eS : st = Q.aS := by
    have q := L.statics
    rw [z4] at q
    exact Option.some.inj (u4.symm.trans q)
  subst eS
  have hne : Q.aS ≠ a := fun q => by
    rw [q, n1] at u5
    rw [← Option.some.inj u5, n2] at u6
    cases u6
  -- the message's own place
  obtain ⟨cM, cfM, kM, iM, fM, m1, m2, m3, m4, m5, m6, m7⟩ := Fm
  cases m1.symm.trans n1
  obtain ⟨kM', z5, -⟩ := State.fieldFound?_setVm (vm' := s.vm) hZ.alike m2
  have z5' : s.fieldFound? tN "detailMessage" msgD = some (cfM, kM', iM, fM) := z5
  obtain ⟨-, dM, hdM, hnM⟩ := Cond.laysAt rS x1 z5' wM
  have nM : fM.name = "detailMessage" := (State.fieldFound?_type z5' (t := .object "java/lang/String") (by decide +kernel)).1
  have mB := Cond.laysApart hdM hdB hnM hnB (by rw [nM, nB]; decide)
  have mD := Cond.laysApart hdM hdD hnM hnD (by rw [nM, nD]; decide)
  have mS := Cond.laysApart hdM hdS hnM hnS (by rw [nM, qnm]; decide)
  have hsel0 : selectMethod e.platform s.vm cell.cls Q.fill0 = .method Q.fill0 := by
    obtain ⟨_, _, _, q1, q2, q3, q4, -⟩ := Cond.selects_spec (w 204 (.selects "com/example/sigillum/sigillum/cli/UsageException" tFill0 tFill0) rfl rfl)
    cases Option.some.inj (q1.symm.trans rS)
    cases Option.some.inj (q2.symm.trans (State.methodFound?_of_named qf0 (by decide)))
    cases Option.some.inj (q3.symm.trans qf0)
    rw [Launch.admits_selectMethod X.admits]; exact q4
  have back := fillPaysAny (l := l) (R := R) (len := 3) (W := W) (sargs := args) (below := below) hx htr Q L qf (u0 := ⟨u, hu⟩) (self := a) (cell := cell) (cellS := cS) (fun k q => by rw [n2] at q; cases q) (by rw [n2]; simp) (by rw [n3]) (by rw [n3]) s7 hsel0 hne (fun q => by rw [q] at u6; cases u6) u7 (tk tyS (by rw [qty]; exact fits_refV_array _ ⟨u, hu⟩))
    ⟨⟨ci198, i198, fB⟩, ⟨k198, g198, a198, stB⟩, b7⟩ hTK hBe qc hO hkO hkindO hfb hfd (fun y => tk tyB (by rw [tB]; rfl)) (fun n => tk tyD (by rw [tD]; rfl)) hf hlo
  have sw := w 185 (.selects "com/example/sigillum/sigillum/cli/UsageException" tFill tFill) rfl rfl
  obtain ⟨v, vm1, ⟨T', L', k', n'⟩, -, X', ⟨hv, C, n, hn, c1, c2, c3, c4, c5, hl', hk', hn'⟩, st'⟩ := X.virtualBack hx (y := tFill) (z := tFill) hown (w 182 (.methodLink tN 27 tFill) rfl rfl) (w 183 (.declares tFill) rfl rfl) (notFace_of_selects sw) sw (w 184 (.instanceMethod tFill) rfl rfl) (by decide) back rS ⟨cell, by rw [eT]; exact n1, rfl, e4⟩ (g := g) hg hsize (Steps.refl _) (argsL := []) (rest := rest) (lenOf own_pdF rfl) hs hW hd (fun _ _ => ⟨rfl, hc, hsl, by show T.heap[a]? = _; rw [eT]; exact n1, by show T.heap[Q.aS]? = _; rw [eT]; exact u5⟩)
  dsimp only [Pt.U, Pt.locs, Pt.cells, Pt.slots] at X' hv c1 hl' hk' hn' st'
  subst hv hk' hn'
  refine ⟨T', L', X'.more (Nat.le_refl _) (Nat.add_le_add_left hn _), fun y hy => ?_, ⟨C, kE, c1, by rw [c2]; exact e2, by rw [c2]; exact e3, by rw [c3]; exact e4, fun o => by rw [c4]; exact e5 o⟩, ⟨C, cfM, kM, iM, fM, c1, m2, m3, by rw [c3]; exact m4, by rw [c3]; exact m5, by rw [c2]; exact m6, (c5 _ mB mD mS).trans m7⟩, st'⟩
  rw [hl'] at hy
  rcases List.mem_append.mp hy with q | q
  · exact Or.inl q
  · simp only [List.mem_cons, List.not_mem_nil, or_false] at q
    rcases q with rfl | rfl | rfl <;> exact Or.inr rfl
theorem own_frb {k : Nat} {L A : List Loc} {a : Addr} (h : ∀ y ∈ L, y ∈ A ∨ y.base = a) (N : Fr k A) (g : k ≤ a) : Fr k L := fun y hy => (h y hy).elim (N y) fun e => by rw [e]; exact g
theorem own_keep {p : Program} {l : Launch} {e : Env} {R : Room} {s : State} {m : MethodId} {args : Array Value} {below : List Frame} {meth : Method} {c : Code} {T : State} {locs : List Loc} {cells slots : Nat} {h0 h : Heap} {a : Addr} (X : Stand p l e R s m args below meth c T locs cells slots) (hh : s.heap = h0) (eT : T.heap = h) (hb : ∀ y ∈ locs, y.base = a) : Keep h0 h [a] := by
  subst hh eT
  have S := X.same
  refine ⟨S.2.1, fun x cl q ne => ?_, fun x cl q => ?_⟩
  · obtain ⟨c', q1, q2, q3, q4⟩ := S.2.2.2.2.2 x cl q
    have e1 : c'.slots = cl.slots := Array.ext_getElem? fun i => q4 i fun hm => ne (by have := hb _ hm; exact List.mem_singleton.mpr this)
    have e2 : c' = cl := by rw [q2, e1]
    rw [← e2]; exact q1
  · obtain ⟨c', q1, q2, q3, q4⟩ := S.2.2.2.2.2 x cl q
    exact ⟨c', q1, by rw [q2], by rw [q2], q3⟩
theorem own_hbs {L : List Loc} {a : Addr} {k : Nat} (h : ∀ y ∈ L, y.base = a) : ∀ y ∈ L ++ [(⟨a, k⟩ : Loc)], y.base = a := fun y hy => by
  rcases List.mem_append.mp hy with q | q
  · exact h y q
  · rw [List.mem_singleton.mp q]
theorem d30_0 : decode jdk_78_method_2_code 0 = .ok (.aload_n 0, 1) := by decide +kernel
theorem d30_1 : decode jdk_78_method_2_code 1 = .ok (.invokespecial 1, 3) := by decide +kernel
theorem d30_4 : decode jdk_78_method_2_code 4 = .ok (.aload_n 0, 1) := by decide +kernel
theorem d30_5 : decode jdk_78_method_2_code 5 = .ok (.aload_n 0, 1) := by decide +kernel
theorem d30_6 : decode jdk_78_method_2_code 6 = .ok (.putfield 7, 3) := by decide +kernel
theorem d30_9 : decode jdk_78_method_2_code 9 = .ok (.aload_n 0, 1) := by decide +kernel
theorem d30_10 : decode jdk_78_method_2_code 10 = .ok (.getstatic 13, 3) := by decide +kernel
theorem d30_13 : decode jdk_78_method_2_code 13 = .ok (.putfield 17, 3) := by decide +kernel
theorem d30_16 : decode jdk_78_method_2_code 16 = .ok (.aload_n 0, 1) := by decide +kernel
theorem d30_17 : decode jdk_78_method_2_code 17 = .ok (.getstatic 20, 3) := by decide +kernel
theorem d30_20 : decode jdk_78_method_2_code 20 = .ok (.putfield 24, 3) := by decide +kernel
theorem d30_23 : decode jdk_78_method_2_code 23 = .ok (.aload_n 0, 1) := by decide +kernel
theorem d30_24 : decode jdk_78_method_2_code 24 = .ok (.invokevirtual 27, 3) := by decide +kernel
theorem d30_27 : decode jdk_78_method_2_code 27 = .ok (.pop, 1) := by decide +kernel
theorem d30_28 : decode jdk_78_method_2_code 28 = .ok (.aload_n 0, 1) := by decide +kernel
theorem d30_29 : decode jdk_78_method_2_code 29 = .ok (.aload_n 1, 1) := by decide +kernel
theorem d30_30 : decode jdk_78_method_2_code 30 = .ok (.putfield 31, 3) := by decide +kernel
theorem d30_33 : decode jdk_78_method_2_code 33 = .ok (.return_, 1) := by decide +kernel
theorem own_pn30 : plainName "java/lang/Throwable" = true := by first | (simp [plainName, overriddenIn]; done) | decide +kernel
theorem own_ef30 (m : MethodId) (x0 : Addr) (x1 : Addr) : entryFrame m #[(.ref x0), (.ref x1)] 2 = mkF m 0 #[.val (.ref x0), .val (.ref x1)] [] := by first | (simp [entryFrame, mkF, argsToLocals, Value.category]; done) | rfl
def own_Q30 (Z : State) (ax : Addr) (am : Addr) (vU : Value) (vS : Value) (h0 : Heap) (n0 : Nat) (v : Option Value) (h : Heap) (L : List Loc) : Prop := Fr n0 L ∧ v = none ∧ Keep h0 h [ax] ∧ Fld Z h ax "java/lang/Throwable" "detailMessage" "Ljava/lang/String;" (.ref am)
set_option maxRecDepth 65536 in
set_option maxHeartbeats 40000000 in
theorem rm30 (l : Launch) (Z : State) (a0 : Array Value) (hw : ∀ d ∈ tables_1, d.before a0 Z = true) (ws : List Jvm.Cond) (ax : Addr) (am : Addr) (vU : Value) (vS : Value) (h0 : Heap) (n0 : Nat) (Z0 : n0 ≤ h0.size) (Ea : Exa Z h0 ax "com/example/sigillum/sigillum/cli/UsageException") (Ua : Unt h0 ax) (T0 : Fld Z h0 ax "java/lang/Throwable" "cause" "Ljava/lang/Throwable;" .null) (T1 : Fld Z h0 ax "java/lang/Throwable" "stackTrace" "[Ljava/lang/StackTraceElement;" .null) (T2 : Fld Z h0 ax "java/lang/Throwable" "suppressedExceptions" "Ljava/util/List;" .null) (T3 : Fld Z h0 ax "java/lang/Throwable" "detailMessage" "Ljava/lang/String;" .null) (T4 : Fld Z h0 ax "java/lang/Throwable" "backtrace" "Ljava/lang/Object;" .null) (ga : n0 ≤ ax) (O5 : Sta Z Z.heap "java/lang/Throwable" "UNASSIGNED_STACK" "[Ljava/lang/StackTraceElement;" vU) (rU : vU.isRef = true) (O6 : Sta Z Z.heap "java/lang/Throwable" "SUPPRESSED_SENTINEL" "Ljava/util/List;" vS) (rS : vS.isRef = true) (X00 : Old Z n0 h0) (hlt : l.stackTraces = true) (T00 : ThS Z h0) :
    MetFree l (⟨"java/lang/Throwable", "<init>", "(Ljava/lang/String;)V"⟩ : MethodName) (head1 (Jvm.Cond.code (⟨"java/lang/Throwable", "<init>", "(Ljava/lang/String;)V"⟩ : MethodName) jdk_78_method_2_code 2 none :: ws) ({ frames := 3, cells := 1, slots := 2752, locals := 42 } : Room)) (fun a U => a = #[(.ref ax), (.ref am)] ∧ Z.Warmed39 U.vm ∧ U.heap = h0) (fun _ _ bl s _ => s.vm.MethodsKnown ∧ s.vm.FramesKnown bl) (fun _ U o U' => ∃ v L, o = .returned v ∧ own_Q30 Z ax am vU vS h0 n0 v U'.heap L ∧ FrameEnd U o U' L ({ frames := 3, cells := 1, slots := 2752, locals := 42 } : Room).cells ({ frames := 3, cells := 1, slots := 2752, locals := 42 } : Room).slots) := by
  refine MetFree.of_bodySF (plainFor_of_name own_pn30) hisR ?_
  intro p e s m args below meth c s₁ Bd hml0 hP hK
  obtain ⟨rfl, hZ, hh⟩ := hP
  have hx := Bd.exec
  have hby := Bd.bytes
  have hml : c.maxLocals = 2 := hml0
  have hown : s.vm.findClass "java/lang/Throwable" = some m.cls := findClass_of_methodNamed Bd.named
  have hnm := (name_of_methodNamed Bd.named Bd.method).1
  have X0 : Stand p l e ({ frames := 3, cells := 1, slots := 2752, locals := 42 } : Room) s m #[(.ref ax), (.ref am)] below meth c s₁ [] 0 0 := Stand.of_body Bd
  have e0 : s₁.heap = h0 := by rw [← hh, Bd.state]; rfl
  have N0 := Fr.nil n0
  refine own_pre (A := (s₁.setTop (mkF m 0 #[.val (.ref ax), .val (.ref am)] []))) (fun t k => castTop (own_ef30 m ax am) k) ?_
  rcases ref_cases rU with rfl | ⟨arU, rfl⟩
  · skip
    rcases ref_cases rS with rfl | ⟨arS, rfl⟩
    · skip
      refine own_pre (A := (s₁.setTop (mkF m 1 #[.val (.ref ax), .val (.ref am)] [(.ref ax)]))) ?_ ?_
      · intro t k
        refine XS.aloadN X0.here hx rfl (hb hby d30_0) rfl rfl ?_
        exact k
      obtain ⟨T137, X137, e137, st137⟩ := initO X0 hx hZ hown (own_w hw 173 rfl) (own_w hw 24 rfl) (own_w hw 25 rfl) e0 (g := (mkF m 1 #[.val (.ref ax), .val (.ref am)] [(.ref ax)])) rfl (by rw [hml]; rfl) rfl (hb hby d30_1) (by decide) (W := 0) (by show 2 * 0 + _ ≤ _; exact Nat.le_of_eq rfl) (by decide)
      refine own_pre (fun t k => st137 t k) ?_
      refine own_pre (A := (T137.setTop (mkF m 6 #[.val (.ref ax), .val (.ref am)] [(.ref ax), (.ref ax)]))) ?_ ?_
      · intro t k
        refine XS.aloadN X137.here hx rfl (hb hby d30_4) rfl rfl ?_
        refine XS.aloadN X137.here hx rfl (hb hby d30_5) rfl rfl ?_
        exact k
      obtain ⟨T138, h138, X138, e138, W138, st138⟩ := putF X137 hx hZ hown (host := "") (Or.inl (own_w hw 174 rfl)) Via.refl e137 T0 Ea (Or.inl (own_w hw 175 rfl)) (own_w hw 46 rfl) (ty := (.object "java/lang/Throwable")) (by decide) rfl rfl (g := (mkF m 6 #[.val (.ref ax), .val (.ref am)] [(.ref ax), (.ref ax)])) rfl rfl (hb hby d30_6)
      have Ea_138 := Ea.wr W138
      have Ua_138 := Ua.wr W138
      have X00_138 := X00.wr W138 ga
      have T1_138 := T1.other W138 (Or.inr (slot_ne (Or.inl (own_w hw 178 rfl)) (Or.inl (own_w hw 175 rfl)) (by decide) (t := (.array (.object "java/lang/StackTraceElement"))) (t' := (.object "java/lang/Throwable")) (by decide) (by decide)))
      have T2_138 := T2.other W138 (Or.inr (slot_ne (Or.inl (own_w hw 181 rfl)) (Or.inl (own_w hw 175 rfl)) (by decide) (t := (.object "java/util/List")) (t' := (.object "java/lang/Throwable")) (by decide) (by decide)))
      have T3_138 := T3.other W138 (Or.inr (slot_ne (Or.inl (own_w hw 205 rfl)) (Or.inl (own_w hw 175 rfl)) (by decide) (t := (.object "java/lang/String")) (t' := (.object "java/lang/Throwable")) (by decide) (by decide)))
      have T4_138 := T4.other W138 (Or.inr (slot_ne (Or.inl (own_w hw 206 rfl)) (Or.inl (own_w hw 175 rfl)) (by decide) (t := (.object "java/lang/Object")) (t' := (.object "java/lang/Throwable")) (by decide) (by decide)))
      have Kc138 : Keep h0 h138 [ax] := (Keep.refl h0 [ax]).wr W138 (Or.inl (List.mem_of_getElem? (i := 0) rfl))
      have N138 := Fr.snoc X138 N0 ga
      refine own_pre (fun t k => st138 t k) ?_
      refine own_pre (A := (T138.setTop (mkF m 10 #[.val (.ref ax), .val (.ref am)] [(.ref ax)]))) ?_ ?_
      · intro t k
        refine XS.aloadN X138.here hx rfl (hb hby d30_9) rfl rfl ?_
        exact k
      obtain ⟨T139, X139, e139, st139⟩ := getS2 X138 hx hZ hown (host := "") (Or.inl (own_w hw 176 rfl)) Via.refl e138 (O5.ext X00_138.2) (g := (mkF m 10 #[.val (.ref ax), .val (.ref am)] [(.ref ax)])) rfl (hb hby d30_10)
      refine own_pre (fun t k => st139 t k) ?_
      obtain ⟨T140, h140, X140, e140, W140, st140⟩ := putF X139 hx hZ hown (host := "") (Or.inl (own_w hw 177 rfl)) Via.refl e139 T1_138 Ea_138 (Or.inl (own_w hw 178 rfl)) (own_w hw 46 rfl) (ty := (.array (.object "java/lang/StackTraceElement"))) (by decide) rfl rfl (g := (mkF m 13 #[.val (.ref ax), .val (.ref am)] [.null, (.ref ax)])) rfl rfl (hb hby d30_13)
      have Ea_140 := Ea_138.wr W140
      have Ua_140 := Ua_138.wr W140
      have X00_140 := X00_138.wr W140 ga
      have T2_140 := T2_138.other W140 (Or.inr (slot_ne (Or.inl (own_w hw 181 rfl)) (Or.inl (own_w hw 178 rfl)) (by decide) (t := (.object "java/util/List")) (t' := (.array (.object "java/lang/StackTraceElement"))) (by decide) (by decide)))
      have T3_140 := T3_138.other W140 (Or.inr (slot_ne (Or.inl (own_w hw 205 rfl)) (Or.inl (own_w hw 178 rfl)) (by decide) (t := (.object "java/lang/String")) (t' := (.array (.object "java/lang/StackTraceElement"))) (by decide) (by decide)))
      have T4_140 := T4_138.other W140 (Or.inr (slot_ne (Or.inl (own_w hw 206 rfl)) (Or.inl (own_w hw 178 rfl)) (by decide) (t := (.object "java/lang/Object")) (t' := (.array (.object "java/lang/StackTraceElement"))) (by decide) (by decide)))
      have N140 := Fr.snoc X140 N138 ga
      have Fw140 := T1_138.same W140
      refine own_pre (fun t k => st140 t k) ?_
      refine own_pre (A := (T140.setTop (mkF m 17 #[.val (.ref ax), .val (.ref am)] [(.ref ax)]))) ?_ ?_
      · intro t k
        refine XS.aloadN X140.here hx rfl (hb hby d30_16) rfl rfl ?_
        exact k
      obtain ⟨T141, X141, e141, st141⟩ := getS2 X140 hx hZ hown (host := "") (Or.inl (own_w hw 179 rfl)) Via.refl e140 (O6.ext X00_140.2) (g := (mkF m 17 #[.val (.ref ax), .val (.ref am)] [(.ref ax)])) rfl (hb hby d30_17)
      refine own_pre (fun t k => st141 t k) ?_
      obtain ⟨T142, h142, X142, e142, W142, st142⟩ := putF X141 hx hZ hown (host := "") (Or.inl (own_w hw 180 rfl)) Via.refl e141 T2_140 Ea_140 (Or.inl (own_w hw 181 rfl)) (own_w hw 46 rfl) (ty := (.object "java/util/List")) (by decide) rfl rfl (g := (mkF m 20 #[.val (.ref ax), .val (.ref am)] [.null, (.ref ax)])) rfl rfl (hb hby d30_20)
      have Ea_142 := Ea_140.wr W142
      have Ua_142 := Ua_140.wr W142
      have X00_142 := X00_140.wr W142 ga
      have Fw140_142 := Fw140.other W142 (Or.inr (slot_ne (Or.inl (own_w hw 178 rfl)) (Or.inl (own_w hw 181 rfl)) (by decide) (t := (.array (.object "java/lang/StackTraceElement"))) (t' := (.object "java/util/List")) (by decide) (by decide)))
      have T3_142 := T3_140.other W142 (Or.inr (slot_ne (Or.inl (own_w hw 205 rfl)) (Or.inl (own_w hw 181 rfl)) (by decide) (t := (.object "java/lang/String")) (t' := (.object "java/util/List")) (by decide) (by decide)))
      have T4_142 := T4_140.other W142 (Or.inr (slot_ne (Or.inl (own_w hw 206 rfl)) (Or.inl (own_w hw 181 rfl)) (by decide) (t := (.object "java/lang/Object")) (t' := (.object "java/util/List")) (by decide) (by decide)))
      have N142 := Fr.snoc X142 N140 ga
      refine own_pre (fun t k => st142 t k) ?_
      refine own_pre (A := (T142.setTop (mkF m 24 #[.val (.ref ax), .val (.ref am)] [(.ref ax)]))) ?_ ?_
      · intro t k
        refine XS.aloadN X142.here hx rfl (hb hby d30_23) rfl rfl ?_
        exact k
      obtain ⟨T143, L143, X143, hl143, Ee143, Fm143, st143⟩ := own_fill X142 hx hlt hZ hw (by show ThS Z s.heap; rw [hh]; exact T00) hown hK.1 hK.2 e142 Ea_142 Ua_142 (u := .null) rfl Fw140_142 T4_142 T3_142 (O5.ext X00_142.2) (g := (mkF m 24 #[.val (.ref ax), .val (.ref am)] [(.ref ax)])) rfl (by rw [hml]; rfl) rfl (hb hby d30_24) (by decide) (W := 0) (by show 2 * 0 + _ ≤ _; exact Nat.le_of_eq rfl) (by decide) (by decide) (by decide)
      refine own_pre (fun t k => st143.trans k) ?_
      have N143 := own_frb hl143 N142 ga
      have hb143 : ∀ y ∈ L143, y.base = ax := fun y hy => (hl143 y hy).elim (fun q => by
        simp only [List.nil_append, List.mem_append, List.mem_cons, List.not_mem_nil, or_false] at q
        rcases q with (rfl | rfl) | rfl <;> rfl) id
      refine own_pre (A := (T143.setTop (mkF m 30 #[.val (.ref ax), .val (.ref am)] [(.ref am), (.ref ax)]))) ?_ ?_
      · intro t k
        refine XS.pop X143.here hx rfl (hb hby d30_27) rfl rfl ?_
        refine XS.aloadN X143.here hx rfl (hb hby d30_28) rfl rfl ?_
        refine XS.aloadN X143.here hx rfl (hb hby d30_29) rfl rfl ?_
        exact k
      obtain ⟨T144, h144, X144, e144, W144, st144⟩ := putF X143 hx hZ hown (host := "") (Or.inl (own_w hw 209 rfl)) Via.refl rfl Fm143 Ee143 (Or.inl (own_w hw 205 rfl)) (own_w hw 46 rfl) (ty := (.object "java/lang/String")) (by decide) rfl rfl (g := (mkF m 30 #[.val (.ref ax), .val (.ref am)] [(.ref am), (.ref ax)])) rfl rfl (hb hby d30_30)
      have N144 := Fr.snoc X144 N143 ga
      have Fw144 := Fm143.same W144
      refine own_pre (fun t k => st144 t k) ?_
      have KK : Keep h0 h144 [ax] := own_keep X144 hh e144 (own_hbs hb143)
      obtain ⟨fs, hr, hrun, hended, hW, hsame⟩ := X144.leave (hlocks := BodyLoose.notSynchronized Bd) (v := none) (fun _ => rfl)
      refine ⟨_, _, X144.returnOut hx Bd.returns (hb hby d30_33) hr, hrun, hended, _, _, rfl, ?_, ⟨_, rfl⟩, hW, hsame.mono (by decide) (by decide)⟩
      show own_Q30 Z ax am .null .null h0 n0 _ T144.heap _
      rw [e144]
      exact ⟨N144, rfl, KK, Fw144⟩
    · skip
      refine own_pre (A := (s₁.setTop (mkF m 1 #[.val (.ref ax), .val (.ref am)] [(.ref ax)]))) ?_ ?_
      · intro t k
        refine XS.aloadN X0.here hx rfl (hb hby d30_0) rfl rfl ?_
        exact k
      obtain ⟨T145, X145, e145, st145⟩ := initO X0 hx hZ hown (own_w hw 173 rfl) (own_w hw 24 rfl) (own_w hw 25 rfl) e0 (g := (mkF m 1 #[.val (.ref ax), .val (.ref am)] [(.ref ax)])) rfl (by rw [hml]; rfl) rfl (hb hby d30_1) (by decide) (W := 0) (by show 2 * 0 + _ ≤ _; exact Nat.le_of_eq rfl) (by decide)
      refine own_pre (fun t k => st145 t k) ?_
      refine own_pre (A := (T145.setTop (mkF m 6 #[.val (.ref ax), .val (.ref am)] [(.ref ax), (.ref ax)]))) ?_ ?_
      · intro t k
        refine XS.aloadN X145.here hx rfl (hb hby d30_4) rfl rfl ?_
        refine XS.aloadN X145.here hx rfl (hb hby d30_5) rfl rfl ?_
        exact k
      obtain ⟨T146, h146, X146, e146, W146, st146⟩ := putF X145 hx hZ hown (host := "") (Or.inl (own_w hw 174 rfl)) Via.refl e145 T0 Ea (Or.inl (own_w hw 175 rfl)) (own_w hw 46 rfl) (ty := (.object "java/lang/Throwable")) (by decide) rfl rfl (g := (mkF m 6 #[.val (.ref ax), .val (.ref am)] [(.ref ax), (.ref ax)])) rfl rfl (hb hby d30_6)
      have Ea_146 := Ea.wr W146
      have Ua_146 := Ua.wr W146
      have X00_146 := X00.wr W146 ga
      have T1_146 := T1.other W146 (Or.inr (slot_ne (Or.inl (own_w hw 178 rfl)) (Or.inl (own_w hw 175 rfl)) (by decide) (t := (.array (.object "java/lang/StackTraceElement"))) (t' := (.object "java/lang/Throwable")) (by decide) (by decide)))
      have T2_146 := T2.other W146 (Or.inr (slot_ne (Or.inl (own_w hw 181 rfl)) (Or.inl (own_w hw 175 rfl)) (by decide) (t := (.object "java/util/List")) (t' := (.object "java/lang/Throwable")) (by decide) (by decide)))
      have T3_146 := T3.other W146 (Or.inr (slot_ne (Or.inl (own_w hw 205 rfl)) (Or.inl (own_w hw 175 rfl)) (by decide) (t := (.object "java/lang/String")) (t' := (.object "java/lang/Throwable")) (by decide) (by decide)))
      have T4_146 := T4.other W146 (Or.inr (slot_ne (Or.inl (own_w hw 206 rfl)) (Or.inl (own_w hw 175 rfl)) (by decide) (t := (.object "java/lang/Object")) (t' := (.object "java/lang/Throwable")) (by decide) (by decide)))
      have Kc146 : Keep h0 h146 [ax] := (Keep.refl h0 [ax]).wr W146 (Or.inl (List.mem_of_getElem? (i := 0) rfl))
      have N146 := Fr.snoc X146 N0 ga
      refine own_pre (fun t k => st146 t k) ?_
      refine own_pre (A := (T146.setTop (mkF m 10 #[.val (.ref ax), .val (.ref am)] [(.ref ax)]))) ?_ ?_
      · intro t k
        refine XS.aloadN X146.here hx rfl (hb hby d30_9) rfl rfl ?_
        exact k
      obtain ⟨T147, X147, e147, st147⟩ := getS2 X146 hx hZ hown (host := "") (Or.inl (own_w hw 176 rfl)) Via.refl e146 (O5.ext X00_146.2) (g := (mkF m 10 #[.val (.ref ax), .val (.ref am)] [(.ref ax)])) rfl (hb hby d30_10)
      refine own_pre (fun t k => st147 t k) ?_
      obtain ⟨T148, h148, X148, e148, W148, st148⟩ := putF X147 hx hZ hown (host := "") (Or.inl (own_w hw 177 rfl)) Via.refl e147 T1_146 Ea_146 (Or.inl (own_w hw 178 rfl)) (own_w hw 46 rfl) (ty := (.array (.object "java/lang/StackTraceElement"))) (by decide) rfl rfl (g := (mkF m 13 #[.val (.ref ax), .val (.ref am)] [.null, (.ref ax)])) rfl rfl (hb hby d30_13)
      have Ea_148 := Ea_146.wr W148
      have Ua_148 := Ua_146.wr W148
      have X00_148 := X00_146.wr W148 ga
      have T2_148 := T2_146.other W148 (Or.inr (slot_ne (Or.inl (own_w hw 181 rfl)) (Or.inl (own_w hw 178 rfl)) (by decide) (t := (.object "java/util/List")) (t' := (.array (.object "java/lang/StackTraceElement"))) (by decide) (by decide)))
      have T3_148 := T3_146.other W148 (Or.inr (slot_ne (Or.inl (own_w hw 205 rfl)) (Or.inl (own_w hw 178 rfl)) (by decide) (t := (.object "java/lang/String")) (t' := (.array (.object "java/lang/StackTraceElement"))) (by decide) (by decide)))
      have T4_148 := T4_146.other W148 (Or.inr (slot_ne (Or.inl (own_w hw 206 rfl)) (Or.inl (own_w hw 178 rfl)) (by decide) (t := (.object "java/lang/Object")) (t' := (.array (.object "java/lang/StackTraceElement"))) (by decide) (by decide)))
      have N148 := Fr.snoc X148 N146 ga
      have Fw148 := T1_146.same W148
      refine own_pre (fun t k => st148 t k) ?_
      refine own_pre (A := (T148.setTop (mkF m 17 #[.val (.ref ax), .val (.ref am)] [(.ref ax)]))) ?_ ?_
      · intro t k
        refine XS.aloadN X148.here hx rfl (hb hby d30_16) rfl rfl ?_
        exact k
      obtain ⟨T149, X149, e149, st149⟩ := getS2 X148 hx hZ hown (host := "") (Or.inl (own_w hw 179 rfl)) Via.refl e148 (O6.ext X00_148.2) (g := (mkF m 17 #[.val (.ref ax), .val (.ref am)] [(.ref ax)])) rfl (hb hby d30_17)
      refine own_pre (fun t k => st149 t k) ?_
      obtain ⟨T150, h150, X150, e150, W150, st150⟩ := putF X149 hx hZ hown (host := "") (Or.inl (own_w hw 180 rfl)) Via.refl e149 T2_148 Ea_148 (Or.inl (own_w hw 181 rfl)) (own_w hw 46 rfl) (ty := (.object "java/util/List")) (by decide) rfl rfl (g := (mkF m 20 #[.val (.ref ax), .val (.ref am)] [(.ref arS), (.ref ax)])) rfl rfl (hb hby d30_20)
      have Ea_150 := Ea_148.wr W150
      have Ua_150 := Ua_148.wr W150
      have X00_150 := X00_148.wr W150 ga
      have Fw148_150 := Fw148.other W150 (Or.inr (slot_ne (Or.inl (own_w hw 178 rfl)) (Or.inl (own_w hw 181 rfl)) (by decide) (t := (.array (.object "java/lang/StackTraceElement"))) (t' := (.object "java/util/List")) (by decide) (by decide)))
      have T3_150 := T3_148.other W150 (Or.inr (slot_ne (Or.inl (own_w hw 205 rfl)) (Or.inl (own_w hw 181 rfl)) (by decide) (t := (.object "java/lang/String")) (t' := (.object "java/util/List")) (by decide) (by decide)))
      have T4_150 := T4_148.other W150 (Or.inr (slot_ne (Or.inl (own_w hw 206 rfl)) (Or.inl (own_w hw 181 rfl)) (by decide) (t := (.object "java/lang/Object")) (t' := (.object "java/util/List")) (by decide) (by decide)))
      have N150 := Fr.snoc X150 N148 ga
      refine own_pre (fun t k => st150 t k) ?_
      refine own_pre (A := (T150.setTop (mkF m 24 #[.val (.ref ax), .val (.ref am)] [(.ref ax)]))) ?_ ?_
      · intro t k
        refine XS.aloadN X150.here hx rfl (hb hby d30_23) rfl rfl ?_
        exact k
      obtain ⟨T151, L151, X151, hl151, Ee151, Fm151, st151⟩ := own_fill X150 hx hlt hZ hw (by show ThS Z s.heap; rw [hh]; exact T00) hown hK.1 hK.2 e150 Ea_150 Ua_150 (u := .null) rfl Fw148_150 T4_150 T3_150 (O5.ext X00_150.2) (g := (mkF m 24 #[.val (.ref ax), .val (.ref am)] [(.ref ax)])) rfl (by rw [hml]; rfl) rfl (hb hby d30_24) (by decide) (W := 0) (by show 2 * 0 + _ ≤ _; exact Nat.le_of_eq rfl) (by decide) (by decide) (by decide)
      refine own_pre (fun t k => st151.trans k) ?_
      have N151 := own_frb hl151 N150 ga
      have hb151 : ∀ y ∈ L151, y.base = ax := fun y hy => (hl151 y hy).elim (fun q => by
        simp only [List.nil_append, List.mem_append, List.mem_cons, List.not_mem_nil, or_false] at q
        rcases q with (rfl | rfl) | rfl <;> rfl) id
      refine own_pre (A := (T151.setTop (mkF m 30 #[.val (.ref ax), .val (.ref am)] [(.ref am), (.ref ax)]))) ?_ ?_
      · intro t k
        refine XS.pop X151.here hx rfl (hb hby d30_27) rfl rfl ?_
        refine XS.aloadN X151.here hx rfl (hb hby d30_28) rfl rfl ?_
        refine XS.aloadN X151.here hx rfl (hb hby d30_29) rfl rfl ?_
        exact k
      obtain ⟨T152, h152, X152, e152, W152, st152⟩ := putF X151 hx hZ hown (host := "") (Or.inl (own_w hw 209 rfl)) Via.refl rfl Fm151 Ee151 (Or.inl (own_w hw 205 rfl)) (own_w hw 46 rfl) (ty := (.object "java/lang/String")) (by decide) rfl rfl (g := (mkF m 30 #[.val (.ref ax), .val (.ref am)] [(.ref am), (.ref ax)])) rfl rfl (hb hby d30_30)
      have N152 := Fr.snoc X152 N151 ga
      have Fw152 := Fm151.same W152
      refine own_pre (fun t k => st152 t k) ?_
      have KK : Keep h0 h152 [ax] := own_keep X152 hh e152 (own_hbs hb151)
      obtain ⟨fs, hr, hrun, hended, hW, hsame⟩ := X152.leave (hlocks := BodyLoose.notSynchronized Bd) (v := none) (fun _ => rfl)
      refine ⟨_, _, X152.returnOut hx Bd.returns (hb hby d30_33) hr, hrun, hended, _, _, rfl, ?_, ⟨_, rfl⟩, hW, hsame.mono (by decide) (by decide)⟩
      show own_Q30 Z ax am .null (.ref arS) h0 n0 _ T152.heap _
      rw [e152]
      exact ⟨N152, rfl, KK, Fw152⟩
  · skip
    rcases ref_cases rS with rfl | ⟨arS, rfl⟩
    · skip
      refine own_pre (A := (s₁.setTop (mkF m 1 #[.val (.ref ax), .val (.ref am)] [(.ref ax)]))) ?_ ?_
      · intro t k
        refine XS.aloadN X0.here hx rfl (hb hby d30_0) rfl rfl ?_
        exact k
      obtain ⟨T153, X153, e153, st153⟩ := initO X0 hx hZ hown (own_w hw 173 rfl) (own_w hw 24 rfl) (own_w hw 25 rfl) e0 (g := (mkF m 1 #[.val (.ref ax), .val (.ref am)] [(.ref ax)])) rfl (by rw [hml]; rfl) rfl (hb hby d30_1) (by decide) (W := 0) (by show 2 * 0 + _ ≤ _; exact Nat.le_of_eq rfl) (by decide)
      refine own_pre (fun t k => st153 t k) ?_
      refine own_pre (A := (T153.setTop (mkF m 6 #[.val (.ref ax), .val (.ref am)] [(.ref ax), (.ref ax)]))) ?_ ?_
      · intro t k
        refine XS.aloadN X153.here hx rfl (hb hby d30_4) rfl rfl ?_
        refine XS.aloadN X153.here hx rfl (hb hby d30_5) rfl rfl ?_
        exact k
      obtain ⟨T154, h154, X154, e154, W154, st154⟩ := putF X153 hx hZ hown (host := "") (Or.inl (own_w hw 174 rfl)) Via.refl e153 T0 Ea (Or.inl (own_w hw 175 rfl)) (own_w hw 46 rfl) (ty := (.object "java/lang/Throwable")) (by decide) rfl rfl (g := (mkF m 6 #[.val (.ref ax), .val (.ref am)] [(.ref ax), (.ref ax)])) rfl rfl (hb hby d30_6)
      have Ea_154 := Ea.wr W154
      have Ua_154 := Ua.wr W154
      have X00_154 := X00.wr W154 ga
      have T1_154 := T1.other W154 (Or.inr (slot_ne (Or.inl (own_w hw 178 rfl)) (Or.inl (own_w hw 175 rfl)) (by decide) (t := (.array (.object "java/lang/StackTraceElement"))) (t' := (.object "java/lang/Throwable")) (by decide) (by decide)))
      have T2_154 := T2.other W154 (Or.inr (slot_ne (Or.inl (own_w hw 181 rfl)) (Or.inl (own_w hw 175 rfl)) (by decide) (t := (.object "java/util/List")) (t' := (.object "java/lang/Throwable")) (by decide) (by decide)))
      have T3_154 := T3.other W154 (Or.inr (slot_ne (Or.inl (own_w hw 205 rfl)) (Or.inl (own_w hw 175 rfl)) (by decide) (t := (.object "java/lang/String")) (t' := (.object "java/lang/Throwable")) (by decide) (by decide)))
      have T4_154 := T4.other W154 (Or.inr (slot_ne (Or.inl (own_w hw 206 rfl)) (Or.inl (own_w hw 175 rfl)) (by decide) (t := (.object "java/lang/Object")) (t' := (.object "java/lang/Throwable")) (by decide) (by decide)))
      have Kc154 : Keep h0 h154 [ax] := (Keep.refl h0 [ax]).wr W154 (Or.inl (List.mem_of_getElem? (i := 0) rfl))
      have N154 := Fr.snoc X154 N0 ga
      refine own_pre (fun t k => st154 t k) ?_
      refine own_pre (A := (T154.setTop (mkF m 10 #[.val (.ref ax), .val (.ref am)] [(.ref ax)]))) ?_ ?_
      · intro t k
        refine XS.aloadN X154.here hx rfl (hb hby d30_9) rfl rfl ?_
        exact k
      obtain ⟨T155, X155, e155, st155⟩ := getS2 X154 hx hZ hown (host := "") (Or.inl (own_w hw 176 rfl)) Via.refl e154 (O5.ext X00_154.2) (g := (mkF m 10 #[.val (.ref ax), .val (.ref am)] [(.ref ax)])) rfl (hb hby d30_10)
      refine own_pre (fun t k => st155 t k) ?_
      obtain ⟨T156, h156, X156, e156, W156, st156⟩ := putF X155 hx hZ hown (host := "") (Or.inl (own_w hw 177 rfl)) Via.refl e155 T1_154 Ea_154 (Or.inl (own_w hw 178 rfl)) (own_w hw 46 rfl) (ty := (.array (.object "java/lang/StackTraceElement"))) (by decide) rfl rfl (g := (mkF m 13 #[.val (.ref ax), .val (.ref am)] [(.ref arU), (.ref ax)])) rfl rfl (hb hby d30_13)
      have Ea_156 := Ea_154.wr W156
      have Ua_156 := Ua_154.wr W156
      have X00_156 := X00_154.wr W156 ga
      have T2_156 := T2_154.other W156 (Or.inr (slot_ne (Or.inl (own_w hw 181 rfl)) (Or.inl (own_w hw 178 rfl)) (by decide) (t := (.object "java/util/List")) (t' := (.array (.object "java/lang/StackTraceElement"))) (by decide) (by decide)))
      have T3_156 := T3_154.other W156 (Or.inr (slot_ne (Or.inl (own_w hw 205 rfl)) (Or.inl (own_w hw 178 rfl)) (by decide) (t := (.object "java/lang/String")) (t' := (.array (.object "java/lang/StackTraceElement"))) (by decide) (by decide)))
      have T4_156 := T4_154.other W156 (Or.inr (slot_ne (Or.inl (own_w hw 206 rfl)) (Or.inl (own_w hw 178 rfl)) (by decide) (t := (.object "java/lang/Object")) (t' := (.array (.object "java/lang/StackTraceElement"))) (by decide) (by decide)))
      have N156 := Fr.snoc X156 N154 ga
      have Fw156 := T1_154.same W156
      refine own_pre (fun t k => st156 t k) ?_
      refine own_pre (A := (T156.setTop (mkF m 17 #[.val (.ref ax), .val (.ref am)] [(.ref ax)]))) ?_ ?_
      · intro t k
        refine XS.aloadN X156.here hx rfl (hb hby d30_16) rfl rfl ?_
        exact k
      obtain ⟨T157, X157, e157, st157⟩ := getS2 X156 hx hZ hown (host := "") (Or.inl (own_w hw 179 rfl)) Via.refl e156 (O6.ext X00_156.2) (g := (mkF m 17 #[.val (.ref ax), .val (.ref am)] [(.ref ax)])) rfl (hb hby d30_17)
      refine own_pre (fun t k => st157 t k) ?_
      obtain ⟨T158, h158, X158, e158, W158, st158⟩ := putF X157 hx hZ hown (host := "") (Or.inl (own_w hw 180 rfl)) Via.refl e157 T2_156 Ea_156 (Or.inl (own_w hw 181 rfl)) (own_w hw 46 rfl) (ty := (.object "java/util/List")) (by decide) rfl rfl (g := (mkF m 20 #[.val (.ref ax), .val (.ref am)] [.null, (.ref ax)])) rfl rfl (hb hby d30_20)
      have Ea_158 := Ea_156.wr W158
      have Ua_158 := Ua_156.wr W158
      have X00_158 := X00_156.wr W158 ga
      have Fw156_158 := Fw156.other W158 (Or.inr (slot_ne (Or.inl (own_w hw 178 rfl)) (Or.inl (own_w hw 181 rfl)) (by decide) (t := (.array (.object "java/lang/StackTraceElement"))) (t' := (.object "java/util/List")) (by decide) (by decide)))
      have T3_158 := T3_156.other W158 (Or.inr (slot_ne (Or.inl (own_w hw 205 rfl)) (Or.inl (own_w hw 181 rfl)) (by decide) (t := (.object "java/lang/String")) (t' := (.object "java/util/List")) (by decide) (by decide)))
      have T4_158 := T4_156.other W158 (Or.inr (slot_ne (Or.inl (own_w hw 206 rfl)) (Or.inl (own_w hw 181 rfl)) (by decide) (t := (.object "java/lang/Object")) (t' := (.object "java/util/List")) (by decide) (by decide)))
      have N158 := Fr.snoc X158 N156 ga
      refine own_pre (fun t k => st158 t k) ?_
      refine own_pre (A := (T158.setTop (mkF m 24 #[.val (.ref ax), .val (.ref am)] [(.ref ax)]))) ?_ ?_
      · intro t k
        refine XS.aloadN X158.here hx rfl (hb hby d30_23) rfl rfl ?_
        exact k
      obtain ⟨T159, L159, X159, hl159, Ee159, Fm159, st159⟩ := own_fill X158 hx hlt hZ hw (by show ThS Z s.heap; rw [hh]; exact T00) hown hK.1 hK.2 e158 Ea_158 Ua_158 (u := (.ref arU)) rfl Fw156_158 T4_158 T3_158 (O5.ext X00_158.2) (g := (mkF m 24 #[.val (.ref ax), .val (.ref am)] [(.ref ax)])) rfl (by rw [hml]; rfl) rfl (hb hby d30_24) (by decide) (W := 0) (by show 2 * 0 + _ ≤ _; exact Nat.le_of_eq rfl) (by decide) (by decide) (by decide)
      refine own_pre (fun t k => st159.trans k) ?_
      have N159 := own_frb hl159 N158 ga
      have hb159 : ∀ y ∈ L159, y.base = ax := fun y hy => (hl159 y hy).elim (fun q => by
        simp only [List.nil_append, List.mem_append, List.mem_cons, List.not_mem_nil, or_false] at q
        rcases q with (rfl | rfl) | rfl <;> rfl) id
      refine own_pre (A := (T159.setTop (mkF m 30 #[.val (.ref ax), .val (.ref am)] [(.ref am), (.ref ax)]))) ?_ ?_
      · intro t k
        refine XS.pop X159.here hx rfl (hb hby d30_27) rfl rfl ?_
        refine XS.aloadN X159.here hx rfl (hb hby d30_28) rfl rfl ?_
        refine XS.aloadN X159.here hx rfl (hb hby d30_29) rfl rfl ?_
        exact k
      obtain ⟨T160, h160, X160, e160, W160, st160⟩ := putF X159 hx hZ hown (host := "") (Or.inl (own_w hw 209 rfl)) Via.refl rfl Fm159 Ee159 (Or.inl (own_w hw 205 rfl)) (own_w hw 46 rfl) (ty := (.object "java/lang/String")) (by decide) rfl rfl (g := (mkF m 30 #[.val (.ref ax), .val (.ref am)] [(.ref am), (.ref ax)])) rfl rfl (hb hby d30_30)
      have N160 := Fr.snoc X160 N159 ga
      have Fw160 := Fm159.same W160
      refine own_pre (fun t k => st160 t k) ?_
      have KK : Keep h0 h160 [ax] := own_keep X160 hh e160 (own_hbs hb159)
      obtain ⟨fs, hr, hrun, hended, hW, hsame⟩ := X160.leave (hlocks := BodyLoose.notSynchronized Bd) (v := none) (fun _ => rfl)
      refine ⟨_, _, X160.returnOut hx Bd.returns (hb hby d30_33) hr, hrun, hended, _, _, rfl, ?_, ⟨_, rfl⟩, hW, hsame.mono (by decide) (by decide)⟩
      show own_Q30 Z ax am (.ref arU) .null h0 n0 _ T160.heap _
      rw [e160]
      exact ⟨N160, rfl, KK, Fw160⟩
    · skip
      refine own_pre (A := (s₁.setTop (mkF m 1 #[.val (.ref ax), .val (.ref am)] [(.ref ax)]))) ?_ ?_
      · intro t k
        refine XS.aloadN X0.here hx rfl (hb hby d30_0) rfl rfl ?_
        exact k
      obtain ⟨T161, X161, e161, st161⟩ := initO X0 hx hZ hown (own_w hw 173 rfl) (own_w hw 24 rfl) (own_w hw 25 rfl) e0 (g := (mkF m 1 #[.val (.ref ax), .val (.ref am)] [(.ref ax)])) rfl (by rw [hml]; rfl) rfl (hb hby d30_1) (by decide) (W := 0) (by show 2 * 0 + _ ≤ _; exact Nat.le_of_eq rfl) (by decide)
      refine own_pre (fun t k => st161 t k) ?_
      refine own_pre (A := (T161.setTop (mkF m 6 #[.val (.ref ax), .val (.ref am)] [(.ref ax), (.ref ax)]))) ?_ ?_
      · intro t k
        refine XS.aloadN X161.here hx rfl (hb hby d30_4) rfl rfl ?_
        refine XS.aloadN X161.here hx rfl (hb hby d30_5) rfl rfl ?_
        exact k
      obtain ⟨T162, h162, X162, e162, W162, st162⟩ := putF X161 hx hZ hown (host := "") (Or.inl (own_w hw 174 rfl)) Via.refl e161 T0 Ea (Or.inl (own_w hw 175 rfl)) (own_w hw 46 rfl) (ty := (.object "java/lang/Throwable")) (by decide) rfl rfl (g := (mkF m 6 #[.val (.ref ax), .val (.ref am)] [(.ref ax), (.ref ax)])) rfl rfl (hb hby d30_6)
      have Ea_162 := Ea.wr W162
      have Ua_162 := Ua.wr W162
      have X00_162 := X00.wr W162 ga
      have T1_162 := T1.other W162 (Or.inr (slot_ne (Or.inl (own_w hw 178 rfl)) (Or.inl (own_w hw 175 rfl)) (by decide) (t := (.array (.object "java/lang/StackTraceElement"))) (t' := (.object "java/lang/Throwable")) (by decide) (by decide)))
      have T2_162 := T2.other W162 (Or.inr (slot_ne (Or.inl (own_w hw 181 rfl)) (Or.inl (own_w hw 175 rfl)) (by decide) (t := (.object "java/util/List")) (t' := (.object "java/lang/Throwable")) (by decide) (by decide)))
      have T3_162 := T3.other W162 (Or.inr (slot_ne (Or.inl (own_w hw 205 rfl)) (Or.inl (own_w hw 175 rfl)) (by decide) (t := (.object "java/lang/String")) (t' := (.object "java/lang/Throwable")) (by decide) (by decide)))
      have T4_162 := T4.other W162 (Or.inr (slot_ne (Or.inl (own_w hw 206 rfl)) (Or.inl (own_w hw 175 rfl)) (by decide) (t := (.object "java/lang/Object")) (t' := (.object "java/lang/Throwable")) (by decide) (by decide)))
      have Kc162 : Keep h0 h162 [ax] := (Keep.refl h0 [ax]).wr W162 (Or.inl (List.mem_of_getElem? (i := 0) rfl))
      have N162 := Fr.snoc X162 N0 ga
      refine own_pre (fun t k => st162 t k) ?_
      refine own_pre (A := (T162.setTop (mkF m 10 #[.val (.ref ax), .val (.ref am)] [(.ref ax)]))) ?_ ?_
      · intro t k
        refine XS.aloadN X162.here hx rfl (hb hby d30_9) rfl rfl ?_
        exact k
      obtain ⟨T163, X163, e163, st163⟩ := getS2 X162 hx hZ hown (host := "") (Or.inl (own_w hw 176 rfl)) Via.refl e162 (O5.ext X00_162.2) (g := (mkF m 10 #[.val (.ref ax), .val (.ref am)] [(.ref ax)])) rfl (hb hby d30_10)
      refine own_pre (fun t k => st163 t k) ?_
      obtain ⟨T164, h164, X164, e164, W164, st164⟩ := putF X163 hx hZ hown (host := "") (Or.inl (own_w hw 177 rfl)) Via.refl e163 T1_162 Ea_162 (Or.inl (own_w hw 178 rfl)) (own_w hw 46 rfl) (ty := (.array (.object "java/lang/StackTraceElement"))) (by decide) rfl rfl (g := (mkF m 13 #[.val (.ref ax), .val (.ref am)] [(.ref arU), (.ref ax)])) rfl rfl (hb hby d30_13)
      have Ea_164 := Ea_162.wr W164
      have Ua_164 := Ua_162.wr W164
      have X00_164 := X00_162.wr W164 ga
      have T2_164 := T2_162.other W164 (Or.inr (slot_ne (Or.inl (own_w hw 181 rfl)) (Or.inl (own_w hw 178 rfl)) (by decide) (t := (.object "java/util/List")) (t' := (.array (.object "java/lang/StackTraceElement"))) (by decide) (by decide)))
      have T3_164 := T3_162.other W164 (Or.inr (slot_ne (Or.inl (own_w hw 205 rfl)) (Or.inl (own_w hw 178 rfl)) (by decide) (t := (.object "java/lang/String")) (t' := (.array (.object "java/lang/StackTraceElement"))) (by decide) (by decide)))
      have T4_164 := T4_162.other W164 (Or.inr (slot_ne (Or.inl (own_w hw 206 rfl)) (Or.inl (own_w hw 178 rfl)) (by decide) (t := (.object "java/lang/Object")) (t' := (.array (.object "java/lang/StackTraceElement"))) (by decide) (by decide)))
      have N164 := Fr.snoc X164 N162 ga
      have Fw164 := T1_162.same W164
      refine own_pre (fun t k => st164 t k) ?_
      refine own_pre (A := (T164.setTop (mkF m 17 #[.val (.ref ax), .val (.ref am)] [(.ref ax)]))) ?_ ?_
      · intro t k
        refine XS.aloadN X164.here hx rfl (hb hby d30_16) rfl rfl ?_
        exact k
      obtain ⟨T165, X165, e165, st165⟩ := getS2 X164 hx hZ hown (host := "") (Or.inl (own_w hw 179 rfl)) Via.refl e164 (O6.ext X00_164.2) (g := (mkF m 17 #[.val (.ref ax), .val (.ref am)] [(.ref ax)])) rfl (hb hby d30_17)
      refine own_pre (fun t k => st165 t k) ?_
      obtain ⟨T166, h166, X166, e166, W166, st166⟩ := putF X165 hx hZ hown (host := "") (Or.inl (own_w hw 180 rfl)) Via.refl e165 T2_164 Ea_164 (Or.inl (own_w hw 181 rfl)) (own_w hw 46 rfl) (ty := (.object "java/util/List")) (by decide) rfl rfl (g := (mkF m 20 #[.val (.ref ax), .val (.ref am)] [(.ref arS), (.ref ax)])) rfl rfl (hb hby d30_20)
      have Ea_166 := Ea_164.wr W166
      have Ua_166 := Ua_164.wr W166
      have X00_166 := X00_164.wr W166 ga
      have Fw164_166 := Fw164.other W166 (Or.inr (slot_ne (Or.inl (own_w hw 178 rfl)) (Or.inl (own_w hw 181 rfl)) (by decide) (t := (.array (.object "java/lang/StackTraceElement"))) (t' := (.object "java/util/List")) (by decide) (by decide)))
      have T3_166 := T3_164.other W166 (Or.inr (slot_ne (Or.inl (own_w hw 205 rfl)) (Or.inl (own_w hw 181 rfl)) (by decide) (t := (.object "java/lang/String")) (t' := (.object "java/util/List")) (by decide) (by decide)))
      have T4_166 := T4_164.other W166 (Or.inr (slot_ne (Or.inl (own_w hw 206 rfl)) (Or.inl (own_w hw 181 rfl)) (by decide) (t := (.object "java/lang/Object")) (t' := (.object "java/util/List")) (by decide) (by decide)))
      have N166 := Fr.snoc X166 N164 ga
      refine own_pre (fun t k => st166 t k) ?_
      refine own_pre (A := (T166.setTop (mkF m 24 #[.val (.ref ax), .val (.ref am)] [(.ref ax)]))) ?_ ?_
      · intro t k
        refine XS.aloadN X166.here hx rfl (hb hby d30_23) rfl rfl ?_
        exact k
      obtain ⟨T167, L167, X167, hl167, Ee167, Fm167, st167⟩ := own_fill X166 hx hlt hZ hw (by show ThS Z s.heap; rw [hh]; exact T00) hown hK.1 hK.2 e166 Ea_166 Ua_166 (u := (.ref arU)) rfl Fw164_166 T4_166 T3_166 (O5.ext X00_166.2) (g := (mkF m 24 #[.val (.ref ax), .val (.ref am)] [(.ref ax)])) rfl (by rw [hml]; rfl) rfl (hb hby d30_24) (by decide) (W := 0) (by show 2 * 0 + _ ≤ _; exact Nat.le_of_eq rfl) (by decide) (by decide) (by decide)
      refine own_pre (fun t k => st167.trans k) ?_
      have N167 := own_frb hl167 N166 ga
      have hb167 : ∀ y ∈ L167, y.base = ax := fun y hy => (hl167 y hy).elim (fun q => by
        simp only [List.nil_append, List.mem_append, List.mem_cons, List.not_mem_nil, or_false] at q
        rcases q with (rfl | rfl) | rfl <;> rfl) id
      refine own_pre (A := (T167.setTop (mkF m 30 #[.val (.ref ax), .val (.ref am)] [(.ref am), (.ref ax)]))) ?_ ?_
      · intro t k
        refine XS.pop X167.here hx rfl (hb hby d30_27) rfl rfl ?_
        refine XS.aloadN X167.here hx rfl (hb hby d30_28) rfl rfl ?_
        refine XS.aloadN X167.here hx rfl (hb hby d30_29) rfl rfl ?_
        exact k
      obtain ⟨T168, h168, X168, e168, W168, st168⟩ := putF X167 hx hZ hown (host := "") (Or.inl (own_w hw 209 rfl)) Via.refl rfl Fm167 Ee167 (Or.inl (own_w hw 205 rfl)) (own_w hw 46 rfl) (ty := (.object "java/lang/String")) (by decide) rfl rfl (g := (mkF m 30 #[.val (.ref ax), .val (.ref am)] [(.ref am), (.ref ax)])) rfl rfl (hb hby d30_30)
      have N168 := Fr.snoc X168 N167 ga
      have Fw168 := Fm167.same W168
      refine own_pre (fun t k => st168 t k) ?_
      have KK : Keep h0 h168 [ax] := own_keep X168 hh e168 (own_hbs hb167)
      obtain ⟨fs, hr, hrun, hended, hW, hsame⟩ := X168.leave (hlocks := BodyLoose.notSynchronized Bd) (v := none) (fun _ => rfl)
      refine ⟨_, _, X168.returnOut hx Bd.returns (hb hby d30_33) hr, hrun, hended, _, _, rfl, ?_, ⟨_, rfl⟩, hW, hsame.mono (by decide) (by decide)⟩
      show own_Q30 Z ax am (.ref arU) (.ref arS) h0 n0 _ T168.heap _
      rw [e168]
      exact ⟨N168, rfl, KK, Fw168⟩
theorem d29_0 : decode jdk_59_method_2_code 0 = .ok (.aload_n 0, 1) := by decide +kernel
theorem d29_1 : decode jdk_59_method_2_code 1 = .ok (.aload_n 1, 1) := by decide +kernel
theorem d29_2 : decode jdk_59_method_2_code 2 = .ok (.invokespecial 7, 3) := by decide +kernel
theorem d29_5 : decode jdk_59_method_2_code 5 = .ok (.return_, 1) := by decide +kernel
theorem own_pn29 : plainName "java/lang/Exception" = true := by first | (simp [plainName, overriddenIn]; done) | decide +kernel
theorem own_ef29 (m : MethodId) (x0 : Addr) (x1 : Addr) : entryFrame m #[(.ref x0), (.ref x1)] 2 = mkF m 0 #[.val (.ref x0), .val (.ref x1)] [] := by first | (simp [entryFrame, mkF, argsToLocals, Value.category]; done) | rfl
def own_Q29 (Z : State) (ax : Addr) (am : Addr) (vU : Value) (vS : Value) (h0 : Heap) (n0 : Nat) (v : Option Value) (h : Heap) (L : List Loc) : Prop := Fr n0 L ∧ v = none ∧ Keep h0 h [ax] ∧ Fld Z h ax "java/lang/Throwable" "detailMessage" "Ljava/lang/String;" (.ref am)
set_option maxRecDepth 65536 in
set_option maxHeartbeats 40000000 in
theorem rm29 (l : Launch) (Z : State) (a0 : Array Value) (hw : ∀ d ∈ tables_1, d.before a0 Z = true) (ws : List Jvm.Cond) (ax : Addr) (am : Addr) (vU : Value) (vS : Value) (h0 : Heap) (n0 : Nat) (Z0 : n0 ≤ h0.size) (Ea : Exa Z h0 ax "com/example/sigillum/sigillum/cli/UsageException") (Ua : Unt h0 ax) (T0 : Fld Z h0 ax "java/lang/Throwable" "cause" "Ljava/lang/Throwable;" .null) (T1 : Fld Z h0 ax "java/lang/Throwable" "stackTrace" "[Ljava/lang/StackTraceElement;" .null) (T2 : Fld Z h0 ax "java/lang/Throwable" "suppressedExceptions" "Ljava/util/List;" .null) (T3 : Fld Z h0 ax "java/lang/Throwable" "detailMessage" "Ljava/lang/String;" .null) (T4 : Fld Z h0 ax "java/lang/Throwable" "backtrace" "Ljava/lang/Object;" .null) (ga : n0 ≤ ax) (O5 : Sta Z Z.heap "java/lang/Throwable" "UNASSIGNED_STACK" "[Ljava/lang/StackTraceElement;" vU) (rU : vU.isRef = true) (O6 : Sta Z Z.heap "java/lang/Throwable" "SUPPRESSED_SENTINEL" "Ljava/util/List;" vS) (rS : vS.isRef = true) (X00 : Old Z n0 h0) (hlt : l.stackTraces = true) (T00 : ThS Z h0) :
    MetFree l (⟨"java/lang/Exception", "<init>", "(Ljava/lang/String;)V"⟩ : MethodName) (head1 (Jvm.Cond.code (⟨"java/lang/Exception", "<init>", "(Ljava/lang/String;)V"⟩ : MethodName) jdk_59_method_2_code 2 none :: ws) ({ frames := 4, cells := 1, slots := 2752, locals := 55 } : Room)) (fun a U => a = #[(.ref ax), (.ref am)] ∧ Z.Warmed39 U.vm ∧ U.heap = h0) (fun _ _ bl s _ => s.vm.MethodsKnown ∧ s.vm.FramesKnown bl) (fun _ U o U' => ∃ v L, o = .returned v ∧ own_Q29 Z ax am vU vS h0 n0 v U'.heap L ∧ FrameEnd U o U' L ({ frames := 4, cells := 1, slots := 2752, locals := 55 } : Room).cells ({ frames := 4, cells := 1, slots := 2752, locals := 55 } : Room).slots) := by
  refine MetFree.of_bodySF (plainFor_of_name own_pn29) hisR ?_
  intro p e s m args below meth c s₁ Bd hml0 hP hK
  obtain ⟨rfl, hZ, hh⟩ := hP
  have hx := Bd.exec
  have hby := Bd.bytes
  have hml : c.maxLocals = 2 := hml0
  have hown : s.vm.findClass "java/lang/Exception" = some m.cls := findClass_of_methodNamed Bd.named
  have hnm := (name_of_methodNamed Bd.named Bd.method).1
  have X0 : Stand p l e ({ frames := 4, cells := 1, slots := 2752, locals := 55 } : Room) s m #[(.ref ax), (.ref am)] below meth c s₁ [] 0 0 := Stand.of_body Bd
  have e0 : s₁.heap = h0 := by rw [← hh, Bd.state]; rfl
  have N0 := Fr.nil n0
  refine own_pre (A := (s₁.setTop (mkF m 0 #[.val (.ref ax), .val (.ref am)] []))) (fun t k => castTop (own_ef29 m ax am) k) ?_
  refine own_pre (A := (s₁.setTop (mkF m 2 #[.val (.ref ax), .val (.ref am)] [(.ref am), (.ref ax)]))) ?_ ?_
  · intro t k
    refine XS.aloadN X0.here hx rfl (hb hby d29_0) rfl rfl ?_
    refine XS.aloadN X0.here hx rfl (hb hby d29_1) rfl rfl ?_
    exact k
  obtain ⟨_, _, ⟨T169, L169, k169, n169⟩, -, X169, ⟨Lc169, hQ169, l169, y169, z169⟩, st169⟩ := X0.specialBack hx (y := (⟨"java/lang/Throwable", "<init>", "(Ljava/lang/String;)V"⟩ : MethodName)) rfl hown (mvT hZ (own_w hw 167 rfl)) (mvT hZ (own_w hw 168 rfl)) (mvT hZ (own_w hw 172 rfl)) (by decide) (backOfKL (W := 0) (rm30 l Z a0 hw [] ax am vU vS h0 n0 Z0 Ea Ua T0 T1 T2 T3 T4 ga O5 rU O6 rS X00 hlt T00) hZ (own_w hw 172 rfl) (own_w hw 171 rfl) (by decide) (by decide) hK.1 hK.2) (g := (mkF m 2 #[.val (.ref ax), .val (.ref am)] [(.ref am), (.ref ax)])) rfl (by rw [hml]; rfl) (Steps.refl _) (a := ax) (argsL := [(.ref am)]) (rest := []) (lenOf own_pd19 rfl) rfl (by show 2 * 0 + _ ≤ _; exact Nat.le_of_eq rfl) (hb hby d29_2) (fun _ _ => ⟨rfl, e0, (by decide : 0 + 1 ≤ _), (by decide : 0 + 2752 ≤ _)⟩)
  dsimp only [Pt.U, Pt.locs, Pt.cells, Pt.slots] at X169 l169 y169 z169 st169 hQ169
  replace y169 : _ = 1 := y169
  replace z169 : _ = 2752 := z169
  subst y169 z169
  obtain ⟨Nq169, rfl, Kq169, Fm169⟩ := hQ169
  have N169 := own_frl l169 N0 Nq169
  refine own_pre (fun t k => st169.trans k) ?_
  have Kc169 : Keep h0 T169.heap [ax] := (Keep.refl h0 [ax]).trans Kq169 (allS (Or.inl (List.mem_of_getElem? (i := 0) rfl)) all0)
  obtain ⟨fs, hr, hrun, hended, hW, hsame⟩ := X169.leave (hlocks := BodyLoose.notSynchronized Bd) (v := none) (fun _ => rfl)
  refine ⟨_, _, X169.returnOut hx Bd.returns (hb hby d29_5) hr, hrun, hended, _, _, rfl, ?_, ⟨_, rfl⟩, hW, hsame.mono (by decide) (by decide)⟩
  show own_Q29 Z ax am vU vS h0 n0 _ T169.heap _
  exact ⟨N169, rfl, Kc169, Fm169⟩
theorem d28_0 : decode prog_8_method_1_code 0 = .ok (.aload_n 0, 1) := by decide +kernel
theorem d28_1 : decode prog_8_method_1_code 1 = .ok (.aload_n 1, 1) := by decide +kernel
theorem d28_2 : decode prog_8_method_1_code 2 = .ok (.invokespecial 1, 3) := by decide +kernel
theorem d28_5 : decode prog_8_method_1_code 5 = .ok (.return_, 1) := by decide +kernel
theorem own_pn28 : plainName "com/example/sigillum/sigillum/cli/UsageException" = true := by first | (simp [plainName, overriddenIn]; done) | decide +kernel
theorem own_ef28 (m : MethodId) (x0 : Addr) (x1 : Addr) : entryFrame m #[(.ref x0), (.ref x1)] 2 = mkF m 0 #[.val (.ref x0), .val (.ref x1)] [] := by first | (simp [entryFrame, mkF, argsToLocals, Value.category]; done) | rfl
def own_Q28 (Z : State) (ax : Addr) (am : Addr) (vU : Value) (vS : Value) (h0 : Heap) (n0 : Nat) (v : Option Value) (h : Heap) (L : List Loc) : Prop := Fr n0 L ∧ v = none ∧ Keep h0 h [ax] ∧ Fld Z h ax "java/lang/Throwable" "detailMessage" "Ljava/lang/String;" (.ref am)
set_option maxRecDepth 65536 in
set_option maxHeartbeats 40000000 in
theorem rm28 (l : Launch) (Z : State) (a0 : Array Value) (hw : ∀ d ∈ tables_1, d.before a0 Z = true) (ws : List Jvm.Cond) (ax : Addr) (am : Addr) (vU : Value) (vS : Value) (h0 : Heap) (n0 : Nat) (Z0 : n0 ≤ h0.size) (Ea : Exa Z h0 ax "com/example/sigillum/sigillum/cli/UsageException") (Ua : Unt h0 ax) (T0 : Fld Z h0 ax "java/lang/Throwable" "cause" "Ljava/lang/Throwable;" .null) (T1 : Fld Z h0 ax "java/lang/Throwable" "stackTrace" "[Ljava/lang/StackTraceElement;" .null) (T2 : Fld Z h0 ax "java/lang/Throwable" "suppressedExceptions" "Ljava/util/List;" .null) (T3 : Fld Z h0 ax "java/lang/Throwable" "detailMessage" "Ljava/lang/String;" .null) (T4 : Fld Z h0 ax "java/lang/Throwable" "backtrace" "Ljava/lang/Object;" .null) (ga : n0 ≤ ax) (O5 : Sta Z Z.heap "java/lang/Throwable" "UNASSIGNED_STACK" "[Ljava/lang/StackTraceElement;" vU) (rU : vU.isRef = true) (O6 : Sta Z Z.heap "java/lang/Throwable" "SUPPRESSED_SENTINEL" "Ljava/util/List;" vS) (rS : vS.isRef = true) (X00 : Old Z n0 h0) (hlt : l.stackTraces = true) (T00 : ThS Z h0) :
    MetFree l (⟨"com/example/sigillum/sigillum/cli/UsageException", "<init>", "(Ljava/lang/String;)V"⟩ : MethodName) (head1 (Jvm.Cond.code (⟨"com/example/sigillum/sigillum/cli/UsageException", "<init>", "(Ljava/lang/String;)V"⟩ : MethodName) prog_8_method_1_code 2 none :: ws) ({ frames := 5, cells := 1, slots := 2752, locals := 68 } : Room)) (fun a U => a = #[(.ref ax), (.ref am)] ∧ Z.Warmed39 U.vm ∧ U.heap = h0) (fun _ _ bl s _ => s.vm.MethodsKnown ∧ s.vm.FramesKnown bl) (fun _ U o U' => ∃ v L, o = .returned v ∧ own_Q28 Z ax am vU vS h0 n0 v U'.heap L ∧ FrameEnd U o U' L ({ frames := 5, cells := 1, slots := 2752, locals := 68 } : Room).cells ({ frames := 5, cells := 1, slots := 2752, locals := 68 } : Room).slots) := by
  refine MetFree.of_bodySF (plainFor_of_name own_pn28) hisR ?_
  intro p e s m args below meth c s₁ Bd hml0 hP hK
  obtain ⟨rfl, hZ, hh⟩ := hP
  have hx := Bd.exec
  have hby := Bd.bytes
  have hml : c.maxLocals = 2 := hml0
  have hown : s.vm.findClass "com/example/sigillum/sigillum/cli/UsageException" = some m.cls := findClass_of_methodNamed Bd.named
  have hnm := (name_of_methodNamed Bd.named Bd.method).1
  have X0 : Stand p l e ({ frames := 5, cells := 1, slots := 2752, locals := 68 } : Room) s m #[(.ref ax), (.ref am)] below meth c s₁ [] 0 0 := Stand.of_body Bd
  have e0 : s₁.heap = h0 := by rw [← hh, Bd.state]; rfl
  have N0 := Fr.nil n0
  refine own_pre (A := (s₁.setTop (mkF m 0 #[.val (.ref ax), .val (.ref am)] []))) (fun t k => castTop (own_ef28 m ax am) k) ?_
  refine own_pre (A := (s₁.setTop (mkF m 2 #[.val (.ref ax), .val (.ref am)] [(.ref am), (.ref ax)]))) ?_ ?_
  · intro t k
    refine XS.aloadN X0.here hx rfl (hb hby d28_0) rfl rfl ?_
    refine XS.aloadN X0.here hx rfl (hb hby d28_1) rfl rfl ?_
    exact k
  obtain ⟨_, _, ⟨T170, L170, k170, n170⟩, -, X170, ⟨Lc170, hQ170, l170, y170, z170⟩, st170⟩ := X0.specialBack hx (y := (⟨"java/lang/Exception", "<init>", "(Ljava/lang/String;)V"⟩ : MethodName)) rfl hown (mvT hZ (own_w hw 162 rfl)) (mvT hZ (own_w hw 163 rfl)) (mvT hZ (own_w hw 166 rfl)) (by decide) (backOfKL (W := 0) (rm29 l Z a0 hw [] ax am vU vS h0 n0 Z0 Ea Ua T0 T1 T2 T3 T4 ga O5 rU O6 rS X00 hlt T00) hZ (own_w hw 166 rfl) (own_w hw 165 rfl) (by decide) (by decide) hK.1 hK.2) (g := (mkF m 2 #[.val (.ref ax), .val (.ref am)] [(.ref am), (.ref ax)])) rfl (by rw [hml]; rfl) (Steps.refl _) (a := ax) (argsL := [(.ref am)]) (rest := []) (lenOf own_pd19 rfl) rfl (by show 2 * 0 + _ ≤ _; exact Nat.le_of_eq rfl) (hb hby d28_2) (fun _ _ => ⟨rfl, e0, (by decide : 0 + 1 ≤ _), (by decide : 0 + 2752 ≤ _)⟩)
  dsimp only [Pt.U, Pt.locs, Pt.cells, Pt.slots] at X170 l170 y170 z170 st170 hQ170
  replace y170 : _ = 1 := y170
  replace z170 : _ = 2752 := z170
  subst y170 z170
  obtain ⟨Nq170, rfl, Kq170, Fm170⟩ := hQ170
  have N170 := own_frl l170 N0 Nq170
  refine own_pre (fun t k => st170.trans k) ?_
  have Kc170 : Keep h0 T170.heap [ax] := (Keep.refl h0 [ax]).trans Kq170 (allS (Or.inl (List.mem_of_getElem? (i := 0) rfl)) all0)
  obtain ⟨fs, hr, hrun, hended, hW, hsame⟩ := X170.leave (hlocks := BodyLoose.notSynchronized Bd) (v := none) (fun _ => rfl)
  refine ⟨_, _, X170.returnOut hx Bd.returns (hb hby d28_5) hr, hrun, hended, _, _, rfl, ?_, ⟨_, rfl⟩, hW, hsame.mono (by decide) (by decide)⟩
  show own_Q28 Z ax am vU vS h0 n0 _ T170.heap _
  exact ⟨N170, rfl, Kc170, Fm170⟩
theorem d33_0 : decode jdk_78_method_6_code 0 = .ok (.aload_n 0, 1) := by decide +kernel
theorem d33_1 : decode jdk_78_method_6_code 1 = .ok (.getfield 31, 3) := by decide +kernel
theorem d33_4 : decode jdk_78_method_6_code 4 = .ok (.areturn, 1) := by decide +kernel
theorem own_pn33 : plainName "java/lang/Throwable" = true := by first | (simp [plainName, overriddenIn]; done) | decide +kernel
theorem own_ef33 (m : MethodId) (x0 : Addr) : entryFrame m #[(.ref x0)] 1 = mkF m 0 #[.val (.ref x0)] [] := by first | (simp [entryFrame, mkF, argsToLocals, Value.category]; done) | rfl
def own_Q33 (Z : State) (ax : Addr) (am : Addr) (h0 : Heap) (n0 : Nat) (v : Option Value) (h : Heap) (L : List Loc) : Prop := Fr n0 L ∧ v = some (.ref am) ∧ h = h0
set_option maxRecDepth 65536 in
set_option maxHeartbeats 40000000 in
theorem rm33 (l : Launch) (Z : State) (a0 : Array Value) (hw : ∀ d ∈ tables_1, d.before a0 Z = true) (ws : List Jvm.Cond) (ax : Addr) (am : Addr) (h0 : Heap) (n0 : Nat) (Z0 : n0 ≤ h0.size) (Fm : Fld Z h0 ax "java/lang/Throwable" "detailMessage" "Ljava/lang/String;" (.ref am)) :
    MetFree l (⟨"java/lang/Throwable", "getMessage", "()Ljava/lang/String;"⟩ : MethodName) (head1 (Jvm.Cond.code (⟨"java/lang/Throwable", "getMessage", "()Ljava/lang/String;"⟩ : MethodName) jdk_78_method_6_code 1 (some (.object "java/lang/String")) :: ws) ({ frames := 0, cells := 0, slots := 0, locals := 0 } : Room)) (fun a U => a = #[(.ref ax)] ∧ Z.Warmed39 U.vm ∧ U.heap = h0) (fun _ _ _ _ _ => True) (fun _ U o U' => ∃ v L, o = .returned v ∧ own_Q33 Z ax am h0 n0 v U'.heap L ∧ FrameEnd U o U' L ({ frames := 0, cells := 0, slots := 0, locals := 0 } : Room).cells ({ frames := 0, cells := 0, slots := 0, locals := 0 } : Room).slots) := by
  refine MetFree.of_bodySF (plainFor_of_name own_pn33) hisR ?_
  intro p e s m args below meth c s₁ Bd hml0 hP hK
  obtain ⟨rfl, hZ, hh⟩ := hP
  have hx := Bd.exec
  have hby := Bd.bytes
  have hml : c.maxLocals = 1 := hml0
  have hown : s.vm.findClass "java/lang/Throwable" = some m.cls := findClass_of_methodNamed Bd.named
  have hnm := (name_of_methodNamed Bd.named Bd.method).1
  have X0 : Stand p l e ({ frames := 0, cells := 0, slots := 0, locals := 0 } : Room) s m #[(.ref ax)] below meth c s₁ [] 0 0 := Stand.of_body Bd
  have e0 : s₁.heap = h0 := by rw [← hh, Bd.state]; rfl
  have N0 := Fr.nil n0
  refine own_pre (A := (s₁.setTop (mkF m 0 #[.val (.ref ax)] []))) (fun t k => castTop (own_ef33 m ax) k) ?_
  refine own_pre (A := (s₁.setTop (mkF m 1 #[.val (.ref ax)] [(.ref ax)]))) ?_ ?_
  · intro t k
    refine XS.aloadN X0.here hx rfl (hb hby d33_0) rfl rfl ?_
    exact k
  obtain ⟨T171, X171, e171, st171⟩ := getF X0 hx hZ hown (host := "") (Or.inl (own_w hw 209 rfl)) Via.refl e0 Fm (g := (mkF m 1 #[.val (.ref ax)] [(.ref ax)])) rfl rfl (hb hby d33_1)
  refine own_pre (fun t k => st171 t k) ?_
  obtain ⟨fs, hr, hrun, hended, hW, hsame⟩ := X171.leave (hlocks := BodyLoose.notSynchronized Bd) (v := some (.ref am)) (fun h => by rw [Bd.returns] at h; cases h)
  refine ⟨_, _, retOut X171 hx Bd.returns rfl (Or.inr (Or.inr (Or.inr (Or.inr ⟨rfl, rfl, rfl⟩)))) (hb hby d33_4) hr, hrun, hended, _, _, rfl, ?_, ⟨_, rfl⟩, hW, hsame.mono (by decide) (by decide)⟩
  show own_Q33 Z ax am h0 n0 _ T171.heap _
  rw [e171]
  exact ⟨N0, rfl, rfl⟩
theorem d9_0 : decode prog_4_method_6_code 0 = .ok (.new 98, 3) := by decide +kernel
theorem d9_3 : decode prog_4_method_6_code 3 = .ok (.dup, 1) := by decide +kernel
theorem d9_4 : decode prog_4_method_6_code 4 = .ok (.new 100, 3) := by decide +kernel
theorem d9_7 : decode prog_4_method_6_code 7 = .ok (.dup, 1) := by decide +kernel
theorem d9_8 : decode prog_4_method_6_code 8 = .ok (.invokespecial 102, 3) := by decide +kernel
theorem d9_11 : decode prog_4_method_6_code 11 = .ok (.ldc 103, 2) := by decide +kernel
theorem d9_13 : decode prog_4_method_6_code 13 = .ok (.invokevirtual 105, 3) := by decide +kernel
theorem d9_16 : decode prog_4_method_6_code 16 = .ok (.aload_n 1, 1) := by decide +kernel
theorem d9_17 : decode prog_4_method_6_code 17 = .ok (.invokevirtual 105, 3) := by decide +kernel
theorem d9_20 : decode prog_4_method_6_code 20 = .ok (.ldc 109, 2) := by decide +kernel
theorem d9_22 : decode prog_4_method_6_code 22 = .ok (.invokevirtual 105, 3) := by decide +kernel
theorem d9_25 : decode prog_4_method_6_code 25 = .ok (.aload_n 0, 1) := by decide +kernel
theorem d9_26 : decode prog_4_method_6_code 26 = .ok (.invokevirtual 105, 3) := by decide +kernel
theorem d9_29 : decode prog_4_method_6_code 29 = .ok (.ldc 111, 2) := by decide +kernel
theorem d9_31 : decode prog_4_method_6_code 31 = .ok (.invokevirtual 105, 3) := by decide +kernel
theorem d9_34 : decode prog_4_method_6_code 34 = .ok (.aload_n 2, 1) := by decide +kernel
theorem d9_35 : decode prog_4_method_6_code 35 = .ok (.invokevirtual 105, 3) := by decide +kernel
theorem d9_38 : decode prog_4_method_6_code 38 = .ok (.invokevirtual 113, 3) := by decide +kernel
theorem d9_41 : decode prog_4_method_6_code 41 = .ok (.invokespecial 116, 3) := by decide +kernel
theorem d9_44 : decode prog_4_method_6_code 44 = .ok (.areturn, 1) := by decide +kernel
theorem own_pn9 : plainName "com/example/sigillum/sigillum/cli/InputFiles" = true := by first | (simp [plainName, overriddenIn]; done) | decide +kernel
theorem own_ef9 (m : MethodId) (x0 : Addr) (x1 : Addr) (x2 : Addr) : entryFrame m #[(.ref x0), (.ref x1), (.ref x2)] 3 = mkF m 0 #[.val (.ref x0), .val (.ref x1), .val (.ref x2)] [] := by first | (simp [entryFrame, mkF, argsToLocals, Value.category]; done) | rfl
def own_Q9 (Z : State) (an : Addr) (aw : Addr) (ar : Addr) (nd : Addr) (nk : ClassId) (nn : Int32) (ncs : List Int32) (wd : Addr) (wk : ClassId) (wn : Int32) (wcs : List Int32) (rd : Addr) (rk : ClassId) (rn : Int32) (rcs : List Int32) (pG : Int32) (vU : Value) (vS : Value) (h0 : Heap) (n0 : Nat) (v : Option Value) (h : Heap) (L : List Loc) : Prop := Fr n0 L ∧ ∃ (ae am ad : Addr) (kd : ClassId) (pn : Int32), v = some (.ref ae) ∧ Exa Z h ae "com/example/sigillum/sigillum/cli/UsageException" ∧ Fld Z h ae "java/lang/Throwable" "detailMessage" "Ljava/lang/String;" (.ref am) ∧ Exa Z h am "java/lang/String" ∧ Fld Z h am "java/lang/String" "value" "[B" (.ref ad) ∧ Fld Z h am "java/lang/String" "coder" "B" (.int (0 : Int32)) ∧ Arv Z h ad kd .byte pn (List.map own_by ([99, 97, 110, 110, 111, 116, 32, 114, 101, 97, 100, 32] ++ (wcs ++ (32 :: (ncs ++ (58 :: 32 :: rcs)))))) (.int (0 : Int32)) ∧ own_n pn ([99, 97, 110, 110, 111, 116, 32, 114, 101, 97, 100, 32] ++ (wcs ++ (32 :: (ncs ++ (58 :: 32 :: rcs))))) ∧ Keep h0 h []
set_option maxRecDepth 65536 in
set_option maxHeartbeats 40000000 in
theorem rm9 (l : Launch) (Z : State) (a0 : Array Value) (hw : ∀ d ∈ tables_1, d.before a0 Z = true) (ws : List Jvm.Cond) (an : Addr) (aw : Addr) (ar : Addr) (nd : Addr) (nk : ClassId) (nn : Int32) (ncs : List Int32) (wd : Addr) (wk : ClassId) (wn : Int32) (wcs : List Int32) (rd : Addr) (rk : ClassId) (rn : Int32) (rcs : List Int32) (pG : Int32) (vU : Value) (vS : Value) (h0 : Heap) (n0 : Nat) (Z0 : n0 ≤ h0.size) (hEL : EW Z a0 own_EL) (Esn : Exa Z h0 an "java/lang/String") (Svn : Fld Z h0 an "java/lang/String" "value" "[B" (.ref nd)) (Scn : Fld Z h0 an "java/lang/String" "coder" "B" (.int (0 : Int32))) (Vsn : Arv Z h0 nd nk .byte nn (List.map own_by ncs) (.int (0 : Int32))) (hnn : own_n nn ncs) (hln : ncs.length ≤ 2) (Esw : Exa Z h0 aw "java/lang/String") (Svw : Fld Z h0 aw "java/lang/String" "value" "[B" (.ref wd)) (Scw : Fld Z h0 aw "java/lang/String" "coder" "B" (.int (0 : Int32))) (Vsw : Arv Z h0 wd wk .byte wn (List.map own_by wcs) (.int (0 : Int32))) (hnw : own_n wn wcs) (hlw : wcs.length ≤ 2) (Esr : Exa Z h0 ar "java/lang/String") (Svr : Fld Z h0 ar "java/lang/String" "value" "[B" (.ref rd)) (Scr : Fld Z h0 ar "java/lang/String" "coder" "B" (.int (0 : Int32))) (Vsr : Arv Z h0 rd rk .byte rn (List.map own_by rcs) (.int (0 : Int32))) (hnr : own_n rn rcs) (hlr : rcs.length ≤ 2) (O2 : Sta Z Z.heap "java/lang/String" "COMPACT_STRINGS" "Z" (.int pG)) (hG : ¬ pG = (0 : Int32)) (X00 : Old Z n0 h0) (O5 : Sta Z Z.heap "java/lang/Throwable" "UNASSIGNED_STACK" "[Ljava/lang/StackTraceElement;" vU) (rU : vU.isRef = true) (O6 : Sta Z Z.heap "java/lang/Throwable" "SUPPRESSED_SENTINEL" "Ljava/util/List;" vS) (rS : vS.isRef = true) (hlt : l.stackTraces = true) (T00 : ThS Z h0) :
    MetFree l (⟨"com/example/sigillum/sigillum/cli/InputFiles", "cannotRead", "(Ljava/lang/String;Ljava/lang/String;Ljava/lang/String;)Lcom/example/sigillum/sigillum/cli/UsageException;"⟩ : MethodName) (head1 (Jvm.Cond.code (⟨"com/example/sigillum/sigillum/cli/InputFiles", "cannotRead", "(Ljava/lang/String;Ljava/lang/String;Ljava/lang/String;)Lcom/example/sigillum/sigillum/cli/UsageException;"⟩ : MethodName) prog_4_method_6_code 3 (some (.object "com/example/sigillum/sigillum/cli/UsageException")) :: ws) ({ frames := 6, cells := 18, slots := 3092, locals := 93 } : Room)) (fun a U => a = #[(.ref an), (.ref aw), (.ref ar)] ∧ Z.Warmed39 U.vm ∧ U.heap = h0 ∧ CHv Z own_EL U.vm h0) (fun _ _ bl s _ => s.vm.MethodsKnown ∧ s.vm.FramesKnown bl) (fun _ U o U' => ∃ v L, o = .returned v ∧ own_Q9 Z an aw ar nd nk nn ncs wd wk wn wcs rd rk rn rcs pG vU vS h0 n0 v U'.heap L ∧ CHr Z own_EL U.vm U.heap U'.vm U'.heap ∧ ReturnedEndW U o U' L ({ frames := 6, cells := 18, slots := 3092, locals := 93 } : Room).cells ({ frames := 6, cells := 18, slots := 3092, locals := 93 } : Room).slots) := by
  refine MetFree.of_bodySF (plainFor_of_name own_pn9) hisR ?_
  intro p e s m args below meth c s₁ Bd hml0 hP hK
  obtain ⟨rfl, hZ, hh, CH0⟩ := hP
  have hx := Bd.exec
  have hby := Bd.bytes
  have hml : c.maxLocals = 3 := hml0
  have hown : s.vm.findClass "com/example/sigillum/sigillum/cli/InputFiles" = some m.cls := findClass_of_methodNamed Bd.named
  have hnm := (name_of_methodNamed Bd.named Bd.method).1
  have own_wS' : ∀ d ∈ Bundle.stringAtoms, d.before a0 Z = true := fun d hd => hw d (own_wS d hd)
  have X0 : Stand p l e ({ frames := 6, cells := 18, slots := 3092, locals := 93 } : Room) (s.setVm s.vm) m #[(.ref an), (.ref aw), (.ref ar)] below meth c s₁ [] 0 0 := Stand.of_body Bd
  have e0 : s₁.heap = h0 := by rw [← hh, Bd.state]; rfl
  have N0 := Fr.nil n0
  have hS0 : s.Since s.vm 0 := (State.WarmedH.refl s).since 0
  have hk0 : 0 ≤ h0.size := Nat.zero_le _
  have R0 := CHr.refl CH0
  refine own_pre (A := (s₁.setTop (mkF m 0 #[.val (.ref an), .val (.ref aw), .val (.ref ar)] []))) (fun t k => castTop (own_ef9 m an aw ar) k) ?_
  obtain ⟨T172, h172, X172, e172, E172, A172, D172, U172, st172⟩ := newO X0 hx hZ hown (own_w hw 45 rfl) (own_w hw 46 rfl) (own_w hw 47 rfl) e0 (g := (mkF m 0 #[.val (.ref an), .val (.ref aw), .val (.ref ar)] [])) rfl (hb hby d9_0) (by decide) (by decide)
  obtain ⟨b172, g172⟩ : ∃ z, z = h0.size := ⟨_, rfl⟩
  rw [← g172] at A172 D172 U172 st172
  have gn_b172 : n0 ≤ b172 := Nat.le_trans Z0 (Nat.le_of_eq g172.symm)
  have sz_b172 : h0.size ≤ b172 := Nat.le_trans (Keep.refl h0 []).1 (Nat.le_of_eq g172.symm)
  have X00_172 := X00.ext E172
  have Esn_172 := Esn.ext E172
  have Svn_172 := Svn.ext E172
  have Scn_172 := Scn.ext E172
  have Vsn_172 := Vsn.ext E172
  have Esw_172 := Esw.ext E172
  have Svw_172 := Svw.ext E172
  have Scw_172 := Scw.ext E172
  have Vsw_172 := Vsw.ext E172
  have Esr_172 := Esr.ext E172
  have Svr_172 := Svr.ext E172
  have Scr_172 := Scr.ext E172
  have Vsr_172 := Vsr.ext E172
  have sf_b172 : Safe Z own_EL s.vm h0 b172 := Safe.new (Nat.le_of_eq g172.symm)
  have sf_b172_172 := Safe.ext E172 R0.1 sf_b172
  have R172 := CHr.trans R0 (CHr.ext E172 R0.1)
  have hk172 := Nat.le_trans hk0 E172.1
  have Zs172 : n0 ≤ h172.size := Nat.le_trans Z0 E172.1
  have Kc172 : Keep h0 h172 [] := (Keep.refl h0 []).ext E172
  have U172 : Unt h172 b172 := U172
  have F172_cause : Fld Z h172 b172 "java/lang/Throwable" "cause" "Ljava/lang/Throwable;" .null := D172 (Or.inl (own_w hw 175 rfl)) (ty := (.object "java/lang/Throwable")) (by decide)
  have F172_stackTrace : Fld Z h172 b172 "java/lang/Throwable" "stackTrace" "[Ljava/lang/StackTraceElement;" .null := D172 (Or.inl (own_w hw 178 rfl)) (ty := (.array (.object "java/lang/StackTraceElement"))) (by decide)
  have F172_suppressedExceptions : Fld Z h172 b172 "java/lang/Throwable" "suppressedExceptions" "Ljava/util/List;" .null := D172 (Or.inl (own_w hw 181 rfl)) (ty := (.object "java/util/List")) (by decide)
  have F172_detailMessage : Fld Z h172 b172 "java/lang/Throwable" "detailMessage" "Ljava/lang/String;" .null := D172 (Or.inl (own_w hw 205 rfl)) (ty := (.object "java/lang/String")) (by decide)
  have F172_backtrace : Fld Z h172 b172 "java/lang/Throwable" "backtrace" "Ljava/lang/Object;" .null := D172 (Or.inl (own_w hw 206 rfl)) (ty := (.object "java/lang/Object")) (by decide)
  have F172_depth : Fld Z h172 b172 "java/lang/Throwable" "depth" "I" (.int (0 : Int32)) := D172 (Or.inl (own_w hw 207 rfl)) (ty := .int) (by decide)
  refine own_pre (fun t k => st172 t k) ?_
  refine own_pre (A := (T172.setTop (mkF m 4 #[.val (.ref an), .val (.ref aw), .val (.ref ar)] [(.ref b172), (.ref b172)]))) ?_ ?_
  · intro t k
    refine XS.dup X172.here hx rfl (hb hby d9_3) rfl rfl ?_
    exact k
  obtain ⟨T173, h173, X173, e173, E173, A173, D173, -, st173⟩ := newO X172 hx hZ hown (own_w hw 48 rfl) (own_w hw 49 rfl) (own_w hw 50 rfl) e172 (g := (mkF m 4 #[.val (.ref an), .val (.ref aw), .val (.ref ar)] [(.ref b172), (.ref b172)])) rfl (hb hby d9_4) (by decide) (by decide)
  obtain ⟨b173, g173⟩ : ∃ z, z = h172.size := ⟨_, rfl⟩
  rw [← g173] at A173 D173 st173
  have ne_an_b173 : an ≠ b173 := Nat.ne_of_lt (Nat.lt_of_lt_of_le Esn_172.lt (Nat.le_of_eq g173.symm))
  have ne_ar_b173 : ar ≠ b173 := Nat.ne_of_lt (Nat.lt_of_lt_of_le Esr_172.lt (Nat.le_of_eq g173.symm))
  have ne_aw_b173 : aw ≠ b173 := Nat.ne_of_lt (Nat.lt_of_lt_of_le Esw_172.lt (Nat.le_of_eq g173.symm))
  have ne_b172_b173 : b172 ≠ b173 := Nat.ne_of_lt (Nat.lt_of_lt_of_le A172.lt (Nat.le_of_eq g173.symm))
  have ne_nd_b173 : nd ≠ b173 := Nat.ne_of_lt (Nat.lt_of_lt_of_le Vsn_172.lt (Nat.le_of_eq g173.symm))
  have ne_rd_b173 : rd ≠ b173 := Nat.ne_of_lt (Nat.lt_of_lt_of_le Vsr_172.lt (Nat.le_of_eq g173.symm))
  have ne_wd_b173 : wd ≠ b173 := Nat.ne_of_lt (Nat.lt_of_lt_of_le Vsw_172.lt (Nat.le_of_eq g173.symm))
  have gn_b173 : n0 ≤ b173 := Nat.le_trans Zs172 (Nat.le_of_eq g173.symm)
  have sz_b173 : h0.size ≤ b173 := Nat.le_trans Kc172.1 (Nat.le_of_eq g173.symm)
  have X00_173 := X00_172.ext E173
  have Esn_173 := Esn_172.ext E173
  have Svn_173 := Svn_172.ext E173
  have Scn_173 := Scn_172.ext E173
  have Vsn_173 := Vsn_172.ext E173
  have Esw_173 := Esw_172.ext E173
  have Svw_173 := Svw_172.ext E173
  have Scw_173 := Scw_172.ext E173
  have Vsw_173 := Vsw_172.ext E173
  have Esr_173 := Esr_172.ext E173
  have Svr_173 := Svr_172.ext E173
  have Scr_173 := Scr_172.ext E173
  have Vsr_173 := Vsr_172.ext E173
  have U172_173 := U172.ext E173
  have A172_173 := A172.ext E173
  have F172_cause_173 := F172_cause.ext E173
  have F172_stackTrace_173 := F172_stackTrace.ext E173
  have F172_suppressedExceptions_173 := F172_suppressedExceptions.ext E173
  have F172_detailMessage_173 := F172_detailMessage.ext E173
  have F172_backtrace_173 := F172_backtrace.ext E173
  have sf_b173 : Safe Z own_EL s.vm h172 b173 := Safe.new (Nat.le_of_eq g173.symm)
  have sf_b172_173 := Safe.ext E173 R172.1 sf_b172_172
  have sf_b173_173 := Safe.ext E173 R172.1 sf_b173
  have R173 := CHr.trans R172 (CHr.ext E173 R172.1)
  have hk173 := Nat.le_trans hk172 E173.1
  have Zs173 : n0 ≤ h173.size := Nat.le_trans Zs172 E173.1
  have Kc173 : Keep h0 h173 [] := Kc172.ext E173
  have F173_value : Fld Z h173 b173 "java/lang/AbstractStringBuilder" "value" "[B" .null := D173 (Or.inl (own_w hw 63 rfl)) (ty := (.array .byte)) (by decide)
  have F173_coder : Fld Z h173 b173 "java/lang/AbstractStringBuilder" "coder" "B" (.int (0 : Int32)) := D173 (Or.inl (own_w hw 65 rfl)) (ty := .byte) (by decide)
  have F173_count : Fld Z h173 b173 "java/lang/AbstractStringBuilder" "count" "I" (.int (0 : Int32)) := D173 (Or.inl (own_w hw 88 rfl)) (ty := .int) (by decide)
  refine own_pre (fun t k => st173 t k) ?_
  refine own_pre (A := (T173.setTop (mkF m 8 #[.val (.ref an), .val (.ref aw), .val (.ref ar)] [(.ref b173), (.ref b173), (.ref b172), (.ref b172)]))) ?_ ?_
  · intro t k
    refine XS.dup X173.here hx rfl (hb hby d9_7) rfl rfl ?_
    exact k
  obtain ⟨_, _, ⟨T174, L174, k174, n174⟩, -, X174, ⟨Lc174, hQ174, l174, y174, z174⟩, st174⟩ := X173.specialBack hx (y := (⟨"java/lang/StringBuilder", "<init>", "()V"⟩ : MethodName)) rfl hown (mvT hZ (own_w hw 51 rfl)) (mvT hZ (own_w hw 52 rfl)) (mvT hZ (own_w hw 53 rfl)) (by decide) (backOf (W := 3) (rm10 l Z a0 hw [] b173 pG h173 n0 Zs173 A173 F173_value F173_coder F173_count gn_b173 O2 hG X00_173) hZ (own_w hw 53 rfl) (own_w hw 50 rfl) (by decide) (by decide)) (g := (mkF m 8 #[.val (.ref an), .val (.ref aw), .val (.ref ar)] [(.ref b173), (.ref b173), (.ref b172), (.ref b172)])) rfl (by rw [hml]; rfl) (Steps.refl _) (a := b173) (argsL := []) (rest := [(.ref b173), (.ref b172), (.ref b172)]) (lenOf own_pd28 rfl) rfl (by show 2 * 0 + _ ≤ _; exact Nat.le_of_eq rfl) (hb hby d9_8) (fun _ _ => ⟨rfl, e173, (by decide : 2 + 1 ≤ _), (by decide : 10 + 16 ≤ _)⟩)
  dsimp only [Pt.U, Pt.locs, Pt.cells, Pt.slots] at X174 l174 y174 z174 st174 hQ174
  replace y174 : _ = 3 := y174
  replace z174 : _ = 26 := z174
  subst y174 z174
  obtain ⟨Nq174, rfl, Kq174, ab174, kq174, gq174, zz174, Bv174, Bc174, Bk174, Ey174, Vq174⟩ := hQ174
  have N174 := own_frl l174 N0 Nq174
  refine own_pre (fun t k => st174.trans k) ?_
  have ne_an_ab174 : an ≠ ab174 := Nat.ne_of_lt (Nat.lt_of_lt_of_le Esn_173.lt zz174)
  have ne_ar_ab174 : ar ≠ ab174 := Nat.ne_of_lt (Nat.lt_of_lt_of_le Esr_173.lt zz174)
  have ne_aw_ab174 : aw ≠ ab174 := Nat.ne_of_lt (Nat.lt_of_lt_of_le Esw_173.lt zz174)
  have ne_b172_ab174 : b172 ≠ ab174 := Nat.ne_of_lt (Nat.lt_of_lt_of_le A172_173.lt zz174)
  have ne_b173_ab174 : b173 ≠ ab174 := Nat.ne_of_lt (Nat.lt_of_lt_of_le A173.lt zz174)
  have ne_nd_ab174 : nd ≠ ab174 := Nat.ne_of_lt (Nat.lt_of_lt_of_le Vsn_173.lt zz174)
  have ne_rd_ab174 : rd ≠ ab174 := Nat.ne_of_lt (Nat.lt_of_lt_of_le Vsr_173.lt zz174)
  have ne_wd_ab174 : wd ≠ ab174 := Nat.ne_of_lt (Nat.lt_of_lt_of_le Vsw_173.lt zz174)
  have sz_ab174 : h0.size ≤ ab174 := Nat.le_trans Kc173.1 zz174
  have sf_ab174 : Safe Z own_EL s.vm h173 ab174 := Safe.new zz174
  have X00_174 := X00_173.keep Kq174 (allS gn_b173 all0)
  have Esn_174 := Esn_173.keep Kq174
  have Svn_174 := Svn_173.keep Kq174 (ninS ne_an_b173 nin0)
  have Scn_174 := Scn_173.keep Kq174 (ninS ne_an_b173 nin0)
  have Vsn_174 := Vsn_173.keep Kq174 (ninS ne_nd_b173 nin0)
  have Esw_174 := Esw_173.keep Kq174
  have Svw_174 := Svw_173.keep Kq174 (ninS ne_aw_b173 nin0)
  have Scw_174 := Scw_173.keep Kq174 (ninS ne_aw_b173 nin0)
  have Vsw_174 := Vsw_173.keep Kq174 (ninS ne_wd_b173 nin0)
  have Esr_174 := Esr_173.keep Kq174
  have Svr_174 := Svr_173.keep Kq174 (ninS ne_ar_b173 nin0)
  have Scr_174 := Scr_173.keep Kq174 (ninS ne_ar_b173 nin0)
  have Vsr_174 := Vsr_173.keep Kq174 (ninS ne_rd_b173 nin0)
  have U172_174 := U172_173.keep Kq174 (ninS ne_b172_b173 nin0)
  have A172_174 := A172_173.keep Kq174
  have F172_cause_174 := F172_cause_173.keep Kq174 (ninS ne_b172_b173 nin0)
  have F172_stackTrace_174 := F172_stackTrace_173.keep Kq174 (ninS ne_b172_b173 nin0)
  have F172_suppressedExceptions_174 := F172_suppressedExceptions_173.keep Kq174 (ninS ne_b172_b173 nin0)
  have F172_detailMessage_174 := F172_detailMessage_173.keep Kq174 (ninS ne_b172_b173 nin0)
  have F172_backtrace_174 := F172_backtrace_173.keep Kq174 (ninS ne_b172_b173 nin0)
  have A173_174 := A173.keep Kq174
  have sf_b172_174 := Safe.keep Kq174 (sfS sf_b173_173 sf0) R173.1 sf_b172_173
  have sf_b173_174 := Safe.keep Kq174 (sfS sf_b173_173 sf0) R173.1 sf_b173_173
  have sf_ab174_174 := Safe.keep Kq174 (sfS sf_b173_173 sf0) R173.1 sf_ab174
  have R174 := CHr.trans R173 (CHr.keep Kq174 (sfS sf_b173_173 sf0) R173.1)
  have hk174 := Nat.le_trans hk173 Kq174.1
  have Zs174 : n0 ≤ T174.heap.size := Nat.le_trans Zs173 Kq174.1
  have Kc174 : Keep h0 T174.heap [] := Kc173.trans Kq174 (allS (Or.inr sz_b173) all0)
  obtain ⟨a175, T175, h175, k175, b175, kb175, X175, e175, E175, hS175, hk175, hZ175, hown175, Ea175, Fc175, Fv175, Vb175, la175, lb175, hC175, hL175, hne175, st175⟩ := ldcCH (s := s) (vm0 := s.vm) X174 hx hZ hown (own_w hw 66 rfl) own_wS' rfl hS0 hk174 hEL (List.mem_of_getElem? (i := 0) rfl) R174.1 (vs := List.map own_by [99, 97, 110, 110, 111, 116, 32, 114, 101, 97, 100, 32]) (z := (12 : Int32)) own_lt0 (by decide) (by decide) (g := (mkF m 11 #[.val (.ref an), .val (.ref aw), .val (.ref ar)] [(.ref b173), (.ref b172), (.ref b172)])) rfl (hb hby d9_11) (n := 48) (by decide +kernel) (by decide) (by decide) (by decide)
  have X00_175 := X00_174.ext E175
  have Esn_175 := Esn_174.ext E175
  have Svn_175 := Svn_174.ext E175
  have Scn_175 := Scn_174.ext E175
  have Vsn_175 := Vsn_174.ext E175
  have Esw_175 := Esw_174.ext E175
  have Svw_175 := Svw_174.ext E175
  have Scw_175 := Scw_174.ext E175
  have Vsw_175 := Vsw_174.ext E175
  have Esr_175 := Esr_174.ext E175
  have Svr_175 := Svr_174.ext E175
  have Scr_175 := Scr_174.ext E175
  have Vsr_175 := Vsr_174.ext E175
  have U172_175 := U172_174.ext E175
  have A172_175 := A172_174.ext E175
  have F172_cause_175 := F172_cause_174.ext E175
  have F172_stackTrace_175 := F172_stackTrace_174.ext E175
  have F172_suppressedExceptions_175 := F172_suppressedExceptions_174.ext E175
  have F172_detailMessage_175 := F172_detailMessage_174.ext E175
  have F172_backtrace_175 := F172_backtrace_174.ext E175
  have A173_175 := A173_174.ext E175
  have Bv174_175 := Bv174.ext E175
  have Bc174_175 := Bc174.ext E175
  have Bk174_175 := Bk174.ext E175
  have Ey174_175 := Ey174.ext E175
  have Vq174_175 := Vq174.ext E175
  have Zs175 : n0 ≤ h175.size := Nat.le_trans Zs174 E175.1
  have Kc175 : Keep h0 h175 [] := Kc174.ext E175
  refine own_pre (fun t k => st175 t k) ?_
  have R175 := CHr.trans R174 hC175
  have sf_b172_175 := hC175.safe A172_174.lt sf_b172_174
  have sf_b173_175 := hC175.safe A173_174.lt sf_b173_174
  have ne_b173_a175 := (hne175 _ sf_b173_175).1
  have ne_b173_b175 := (hne175 _ sf_b173_175).2
  have sf_ab174_175 := hC175.safe Ey174.lt sf_ab174_174
  have ne_ab174_a175 := (hne175 _ sf_ab174_175).1
  have ne_ab174_b175 := (hne175 _ sf_ab174_175).2
  obtain ⟨cq176, kq176, q176a, q176b, q176c⟩ := isOf hZ175 e175 A173_175
  obtain ⟨_, _, ⟨T176, L176, k176, n176⟩, -, X176, ⟨Lc176, hQ176, l176, y176, z176⟩, st176⟩ := X175.virtualBack hx (y := (⟨"java/lang/StringBuilder", "append", "(Ljava/lang/String;)Ljava/lang/StringBuilder;"⟩ : MethodName)) (z := (⟨"java/lang/StringBuilder", "append", "(Ljava/lang/String;)Ljava/lang/StringBuilder;"⟩ : MethodName)) hown175 (mvT hZ175 (own_w hw 67 rfl)) (mvT hZ175 (own_w hw 68 rfl)) (notFace_of_selects (args := #[]) (mvT hZ175 (own_w hw 70 rfl))) (mvT hZ175 (own_w hw 70 rfl)) (mvT hZ175 (own_w hw 69 rfl)) (by decide) (backOf (W := 2) (rm12 l Z a0 hw [] b173 a175 ab174 kq174 (16 : Int32) (0 : Int32) (List.replicate 16 (.int (0 : Int32))) [] b175 kb175 (12 : Int32) [99, 97, 110, 110, 111, 116, 32, 114, 101, 97, 100, 32] pG h175 n0 Zs175 A173_175 Bv174_175 Bc174_175 Bk174_175 Ey174_175 Vq174_175 own_ok0 gn_b173 gq174 ne_b173_ab174 Ea175 Fv175 Fc175 Vb175 ne_ab174_a175.symm ne_ab174_b175.symm ne_b173_a175.symm ne_b173_b175.symm ⟨by decide, by decide⟩ (by simp only [List.length_append, List.length_cons, List.length_nil] <;> omega) O2 hG X00_175) hZ175 (own_w hw 71 rfl) (own_w hw 50 rfl) (by decide) (by decide)) q176a q176c (g := (mkF m 13 #[.val (.ref an), .val (.ref aw), .val (.ref ar)] [(.ref a175), (.ref b173), (.ref b172), (.ref b172)])) rfl (by rw [hml]; rfl) (Steps.refl _) (argsL := [(.ref a175)]) (rest := [(.ref b172), (.ref b172)]) (lenOf own_pd29 rfl) rfl (by show 2 * 0 + _ ≤ _; exact Nat.le_of_eq rfl) (hb hby d9_13) (fun _ _ => ⟨rfl, e175, (by decide : 5 + 1 ≤ _), (by decide : 78 + 34 ≤ _)⟩)
  dsimp only [Pt.U, Pt.locs, Pt.cells, Pt.slots] at X176 l176 y176 z176 st176 hQ176
  replace y176 : _ = 6 := y176
  replace z176 : _ = 112 := z176
  subst y176 z176
  obtain ⟨Nq176, rfl, Kq176, ay176, kq176, zq176, pq176, wq176, oq176, gq176, Bv176, Bc176, Bk176, Ey176, Vq176, ok176⟩ := hQ176
  have N176 := own_frl l176 N174 Nq176
  refine own_pre (fun t k => st176.trans k) ?_
  have ne_a175_ay176 := own_or_ne oq176 ne_ab174_a175.symm Ea175.lt
  have ne_an_ay176 := own_or_ne oq176 ne_an_ab174 Esn_175.lt
  have ne_ar_ay176 := own_or_ne oq176 ne_ar_ab174 Esr_175.lt
  have ne_aw_ay176 := own_or_ne oq176 ne_aw_ab174 Esw_175.lt
  have ne_b172_ay176 := own_or_ne oq176 ne_b172_ab174 A172_175.lt
  have ne_b173_ay176 := own_or_ne oq176 ne_b173_ab174 A173_175.lt
  have ne_b175_ay176 := own_or_ne oq176 ne_ab174_b175.symm Vb175.lt
  have ne_nd_ay176 := own_or_ne oq176 ne_nd_ab174 Vsn_175.lt
  have ne_rd_ay176 := own_or_ne oq176 ne_rd_ab174 Vsr_175.lt
  have ne_wd_ay176 := own_or_ne oq176 ne_wd_ab174 Vsw_175.lt
  have sz_ay176 := own_or_le oq176 sz_ab174 Kc175.1
  have sf_ay176 := own_or_sf oq176 sf_ab174_175
  have X00_176 := X00_175.keep Kq176 (allS gn_b173 (allS gq174 all0))
  have Esn_176 := Esn_175.keep Kq176
  have Svn_176 := Svn_175.keep Kq176 (ninS ne_an_b173 (ninS ne_an_ab174 nin0))
  have Scn_176 := Scn_175.keep Kq176 (ninS ne_an_b173 (ninS ne_an_ab174 nin0))
  have Vsn_176 := Vsn_175.keep Kq176 (ninS ne_nd_b173 (ninS ne_nd_ab174 nin0))
  have Esw_176 := Esw_175.keep Kq176
  have Svw_176 := Svw_175.keep Kq176 (ninS ne_aw_b173 (ninS ne_aw_ab174 nin0))
  have Scw_176 := Scw_175.keep Kq176 (ninS ne_aw_b173 (ninS ne_aw_ab174 nin0))
  have Vsw_176 := Vsw_175.keep Kq176 (ninS ne_wd_b173 (ninS ne_wd_ab174 nin0))
  have Esr_176 := Esr_175.keep Kq176
  have Svr_176 := Svr_175.keep Kq176 (ninS ne_ar_b173 (ninS ne_ar_ab174 nin0))
  have Scr_176 := Scr_175.keep Kq176 (ninS ne_ar_b173 (ninS ne_ar_ab174 nin0))
  have Vsr_176 := Vsr_175.keep Kq176 (ninS ne_rd_b173 (ninS ne_rd_ab174 nin0))
  have U172_176 := U172_175.keep Kq176 (ninS ne_b172_b173 (ninS ne_b172_ab174 nin0))
  have A172_176 := A172_175.keep Kq176
  have F172_cause_176 := F172_cause_175.keep Kq176 (ninS ne_b172_b173 (ninS ne_b172_ab174 nin0))
  have F172_stackTrace_176 := F172_stackTrace_175.keep Kq176 (ninS ne_b172_b173 (ninS ne_b172_ab174 nin0))
  have F172_suppressedExceptions_176 := F172_suppressedExceptions_175.keep Kq176 (ninS ne_b172_b173 (ninS ne_b172_ab174 nin0))
  have F172_detailMessage_176 := F172_detailMessage_175.keep Kq176 (ninS ne_b172_b173 (ninS ne_b172_ab174 nin0))
  have F172_backtrace_176 := F172_backtrace_175.keep Kq176 (ninS ne_b172_b173 (ninS ne_b172_ab174 nin0))
  have A173_176 := A173_175.keep Kq176
  have Ea175_176 := Ea175.keep Kq176
  have Vb175_176 := Vb175.keep Kq176 (ninS ne_b173_b175.symm (ninS ne_ab174_b175.symm nin0))
  have sf_b172_176 := Safe.keep Kq176 (sfS sf_b173_175 (sfS sf_ab174_175 sf0)) R175.1 sf_b172_175
  have sf_b173_176 := Safe.keep Kq176 (sfS sf_b173_175 (sfS sf_ab174_175 sf0)) R175.1 sf_b173_175
  have sf_ay176_176 := Safe.keep Kq176 (sfS sf_b173_175 (sfS sf_ab174_175 sf0)) R175.1 sf_ay176
  have R176 := CHr.trans R175 (CHr.keep Kq176 (sfS sf_b173_175 (sfS sf_ab174_175 sf0)) R175.1)
  have hk176 := Nat.le_trans hk175 Kq176.1
  have Zs176 : n0 ≤ T176.heap.size := Nat.le_trans Zs175 Kq176.1
  have Kc176 : Keep h0 T176.heap [] := Kc175.trans Kq176 (allS (Or.inr sz_b173) (allS (Or.inr sz_ab174) all0))
  refine own_pre (A := (T176.setTop (mkF m 17 #[.val (.ref an), .val (.ref aw), .val (.ref ar)] [(.ref aw), (.ref b173), (.ref b172), (.ref b172)]))) ?_ ?_
  · intro t k
    refine XS.aloadN X176.here hx rfl (hb hby d9_16) rfl rfl ?_
    exact k
  obtain ⟨cq177, kq177, q177a, q177b, q177c⟩ := isOf hZ175 rfl A173_176
  obtain ⟨_, _, ⟨T177, L177, k177, n177⟩, -, X177, ⟨Lc177, hQ177, l177, y177, z177⟩, st177⟩ := X176.virtualBack hx (y := (⟨"java/lang/StringBuilder", "append", "(Ljava/lang/String;)Ljava/lang/StringBuilder;"⟩ : MethodName)) (z := (⟨"java/lang/StringBuilder", "append", "(Ljava/lang/String;)Ljava/lang/StringBuilder;"⟩ : MethodName)) hown175 (mvT hZ175 (own_w hw 67 rfl)) (mvT hZ175 (own_w hw 68 rfl)) (notFace_of_selects (args := #[]) (mvT hZ175 (own_w hw 70 rfl))) (mvT hZ175 (own_w hw 70 rfl)) (mvT hZ175 (own_w hw 69 rfl)) (by decide) (backOf (W := 2) (rm12 l Z a0 hw [] b173 aw ay176 kq176 zq176 pq176 wq176 ([] ++ [99, 97, 110, 110, 111, 116, 32, 114, 101, 97, 100, 32]) wd wk wn wcs pG T176.heap n0 Zs176 A173_176 Bv176 Bc176 Bk176 Ey176 Vq176 ok176 gn_b173 gq176 ne_b173_ay176 Esw_176 Svw_176 Scw_176 Vsw_176 ne_aw_ay176 ne_wd_ay176 ne_aw_b173 ne_wd_b173 hnw (by simp only [List.length_append, List.length_cons, List.length_nil] <;> omega) O2 hG X00_176) hZ175 (own_w hw 71 rfl) (own_w hw 50 rfl) (by decide) (by decide)) q177a q177c (g := (mkF m 17 #[.val (.ref an), .val (.ref aw), .val (.ref ar)] [(.ref aw), (.ref b173), (.ref b172), (.ref b172)])) rfl (by rw [hml]; rfl) (Steps.refl _) (argsL := [(.ref aw)]) (rest := [(.ref b172), (.ref b172)]) (lenOf own_pd29 rfl) rfl (by show 2 * 0 + _ ≤ _; exact Nat.le_of_eq rfl) (hb hby d9_17) (fun _ _ => ⟨rfl, rfl, (by decide : 6 + 1 ≤ _), (by decide : 112 + 34 ≤ _)⟩)
  dsimp only [Pt.U, Pt.locs, Pt.cells, Pt.slots] at X177 l177 y177 z177 st177 hQ177
  replace y177 : _ = 7 := y177
  replace z177 : _ = 146 := z177
  subst y177 z177
  obtain ⟨Nq177, rfl, Kq177, ay177, kq177, zq177, pq177, wq177, oq177, gq177, Bv177, Bc177, Bk177, Ey177, Vq177, ok177⟩ := hQ177
  have N177 := own_frl l177 N176 Nq177
  refine own_pre (fun t k => st177.trans k) ?_
  have ne_a175_ay177 := own_or_ne oq177 ne_a175_ay176 Ea175_176.lt
  have ne_an_ay177 := own_or_ne oq177 ne_an_ay176 Esn_176.lt
  have ne_ar_ay177 := own_or_ne oq177 ne_ar_ay176 Esr_176.lt
  have ne_aw_ay177 := own_or_ne oq177 ne_aw_ay176 Esw_176.lt
  have ne_b172_ay177 := own_or_ne oq177 ne_b172_ay176 A172_176.lt
  have ne_b173_ay177 := own_or_ne oq177 ne_b173_ay176 A173_176.lt
  have ne_b175_ay177 := own_or_ne oq177 ne_b175_ay176 Vb175_176.lt
  have ne_nd_ay177 := own_or_ne oq177 ne_nd_ay176 Vsn_176.lt
  have ne_rd_ay177 := own_or_ne oq177 ne_rd_ay176 Vsr_176.lt
  have ne_wd_ay177 := own_or_ne oq177 ne_wd_ay176 Vsw_176.lt
  have sz_ay177 := own_or_le oq177 sz_ay176 Kc176.1
  have sf_ay177 := own_or_sf oq177 sf_ay176_176
  have X00_177 := X00_176.keep Kq177 (allS gn_b173 (allS gq176 all0))
  have Esn_177 := Esn_176.keep Kq177
  have Svn_177 := Svn_176.keep Kq177 (ninS ne_an_b173 (ninS ne_an_ay176 nin0))
  have Scn_177 := Scn_176.keep Kq177 (ninS ne_an_b173 (ninS ne_an_ay176 nin0))
  have Vsn_177 := Vsn_176.keep Kq177 (ninS ne_nd_b173 (ninS ne_nd_ay176 nin0))
  have Esw_177 := Esw_176.keep Kq177
  have Vsw_177 := Vsw_176.keep Kq177 (ninS ne_wd_b173 (ninS ne_wd_ay176 nin0))
  have Esr_177 := Esr_176.keep Kq177
  have Svr_177 := Svr_176.keep Kq177 (ninS ne_ar_b173 (ninS ne_ar_ay176 nin0))
  have Scr_177 := Scr_176.keep Kq177 (ninS ne_ar_b173 (ninS ne_ar_ay176 nin0))
  have Vsr_177 := Vsr_176.keep Kq177 (ninS ne_rd_b173 (ninS ne_rd_ay176 nin0))
  have U172_177 := U172_176.keep Kq177 (ninS ne_b172_b173 (ninS ne_b172_ay176 nin0))
  have A172_177 := A172_176.keep Kq177
  have F172_cause_177 := F172_cause_176.keep Kq177 (ninS ne_b172_b173 (ninS ne_b172_ay176 nin0))
  have F172_stackTrace_177 := F172_stackTrace_176.keep Kq177 (ninS ne_b172_b173 (ninS ne_b172_ay176 nin0))
  have F172_suppressedExceptions_177 := F172_suppressedExceptions_176.keep Kq177 (ninS ne_b172_b173 (ninS ne_b172_ay176 nin0))
  have F172_detailMessage_177 := F172_detailMessage_176.keep Kq177 (ninS ne_b172_b173 (ninS ne_b172_ay176 nin0))
  have F172_backtrace_177 := F172_backtrace_176.keep Kq177 (ninS ne_b172_b173 (ninS ne_b172_ay176 nin0))
  have A173_177 := A173_176.keep Kq177
  have Ea175_177 := Ea175_176.keep Kq177
  have Vb175_177 := Vb175_176.keep Kq177 (ninS ne_b173_b175.symm (ninS ne_b175_ay176 nin0))
  have sf_b172_177 := Safe.keep Kq177 (sfS sf_b173_176 (sfS sf_ay176_176 sf0)) R176.1 sf_b172_176
  have sf_b173_177 := Safe.keep Kq177 (sfS sf_b173_176 (sfS sf_ay176_176 sf0)) R176.1 sf_b173_176
  have sf_ay177_177 := Safe.keep Kq177 (sfS sf_b173_176 (sfS sf_ay176_176 sf0)) R176.1 sf_ay177
  have R177 := CHr.trans R176 (CHr.keep Kq177 (sfS sf_b173_176 (sfS sf_ay176_176 sf0)) R176.1)
  have hk177 := Nat.le_trans hk176 Kq177.1
  have Zs177 : n0 ≤ T177.heap.size := Nat.le_trans Zs176 Kq177.1
  have Kc177 : Keep h0 T177.heap [] := Kc176.trans Kq177 (allS (Or.inr sz_b173) (allS (Or.inr sz_ay176) all0))
  obtain ⟨a178, T178, h178, k178, b178, kb178, X178, e178, E178, hS178, hk178, hZ178, hown178, Ea178, Fc178, Fv178, Vb178, la178, lb178, hC178, hL178, hne178, st178⟩ := ldcCH (s := s) (vm0 := T175.vm) X177 hx hZ175 hown175 (own_w hw 114 rfl) own_wS' rfl hS175 hk177 hEL (List.mem_of_getElem? (i := 1) rfl) R177.1 (vs := List.map own_by [32]) (z := (1 : Int32)) own_lt1 (by decide) (by decide) (g := (mkF m 20 #[.val (.ref an), .val (.ref aw), .val (.ref ar)] [(.ref b173), (.ref b172), (.ref b172)])) rfl (hb hby d9_20) (n := 4) (by decide +kernel) (by decide) (by decide) (by decide)
  have X00_178 := X00_177.ext E178
  have Esn_178 := Esn_177.ext E178
  have Svn_178 := Svn_177.ext E178
  have Scn_178 := Scn_177.ext E178
  have Vsn_178 := Vsn_177.ext E178
  have Esw_178 := Esw_177.ext E178
  have Vsw_178 := Vsw_177.ext E178
  have Esr_178 := Esr_177.ext E178
  have Svr_178 := Svr_177.ext E178
  have Scr_178 := Scr_177.ext E178
  have Vsr_178 := Vsr_177.ext E178
  have U172_178 := U172_177.ext E178
  have A172_178 := A172_177.ext E178
  have F172_cause_178 := F172_cause_177.ext E178
  have F172_stackTrace_178 := F172_stackTrace_177.ext E178
  have F172_suppressedExceptions_178 := F172_suppressedExceptions_177.ext E178
  have F172_detailMessage_178 := F172_detailMessage_177.ext E178
  have F172_backtrace_178 := F172_backtrace_177.ext E178
  have A173_178 := A173_177.ext E178
  have Ea175_178 := Ea175_177.ext E178
  have Vb175_178 := Vb175_177.ext E178
  have Bv177_178 := Bv177.ext E178
  have Bc177_178 := Bc177.ext E178
  have Bk177_178 := Bk177.ext E178
  have Ey177_178 := Ey177.ext E178
  have Vq177_178 := Vq177.ext E178
  have Zs178 : n0 ≤ h178.size := Nat.le_trans Zs177 E178.1
  have Kc178 : Keep h0 h178 [] := Kc177.ext E178
  refine own_pre (fun t k => st178 t k) ?_
  have R178 := CHr.trans R177 hC178
  have sf_b172_178 := hC178.safe A172_177.lt sf_b172_177
  have sf_b173_178 := hC178.safe A173_177.lt sf_b173_177
  have ne_b173_a178 := (hne178 _ sf_b173_178).1
  have ne_b173_b178 := (hne178 _ sf_b173_178).2
  have sf_ay177_178 := hC178.safe Ey177.lt sf_ay177_177
  have ne_ay177_a178 := (hne178 _ sf_ay177_178).1
  have ne_ay177_b178 := (hne178 _ sf_ay177_178).2
  obtain ⟨cq179, kq179, q179a, q179b, q179c⟩ := isOf hZ178 e178 A173_178
  obtain ⟨_, _, ⟨T179, L179, k179, n179⟩, -, X179, ⟨Lc179, hQ179, l179, y179, z179⟩, st179⟩ := X178.virtualBack hx (y := (⟨"java/lang/StringBuilder", "append", "(Ljava/lang/String;)Ljava/lang/StringBuilder;"⟩ : MethodName)) (z := (⟨"java/lang/StringBuilder", "append", "(Ljava/lang/String;)Ljava/lang/StringBuilder;"⟩ : MethodName)) hown178 (mvT hZ178 (own_w hw 67 rfl)) (mvT hZ178 (own_w hw 68 rfl)) (notFace_of_selects (args := #[]) (mvT hZ178 (own_w hw 70 rfl))) (mvT hZ178 (own_w hw 70 rfl)) (mvT hZ178 (own_w hw 69 rfl)) (by decide) (backOf (W := 2) (rm12 l Z a0 hw [] b173 a178 ay177 kq177 zq177 pq177 wq177 (([] ++ [99, 97, 110, 110, 111, 116, 32, 114, 101, 97, 100, 32]) ++ wcs) b178 kb178 (1 : Int32) [32] pG h178 n0 Zs178 A173_178 Bv177_178 Bc177_178 Bk177_178 Ey177_178 Vq177_178 ok177 gn_b173 gq177 ne_b173_ay177 Ea178 Fv178 Fc178 Vb178 ne_ay177_a178.symm ne_ay177_b178.symm ne_b173_a178.symm ne_b173_b178.symm ⟨by decide, by decide⟩ (by simp only [List.length_append, List.length_cons, List.length_nil] <;> omega) O2 hG X00_178) hZ178 (own_w hw 71 rfl) (own_w hw 50 rfl) (by decide) (by decide)) q179a q179c (g := (mkF m 22 #[.val (.ref an), .val (.ref aw), .val (.ref ar)] [(.ref a178), (.ref b173), (.ref b172), (.ref b172)])) rfl (by rw [hml]; rfl) (Steps.refl _) (argsL := [(.ref a178)]) (rest := [(.ref b172), (.ref b172)]) (lenOf own_pd29 rfl) rfl (by show 2 * 0 + _ ≤ _; exact Nat.le_of_eq rfl) (hb hby d9_22) (fun _ _ => ⟨rfl, e178, (by decide : 9 + 1 ≤ _), (by decide : 154 + 34 ≤ _)⟩)
  dsimp only [Pt.U, Pt.locs, Pt.cells, Pt.slots] at X179 l179 y179 z179 st179 hQ179
  replace y179 : _ = 10 := y179
  replace z179 : _ = 188 := z179
  subst y179 z179
  obtain ⟨Nq179, rfl, Kq179, ay179, kq179, zq179, pq179, wq179, oq179, gq179, Bv179, Bc179, Bk179, Ey179, Vq179, ok179⟩ := hQ179
  have N179 := own_frl l179 N177 Nq179
  refine own_pre (fun t k => st179.trans k) ?_
  have ne_a175_ay179 := own_or_ne oq179 ne_a175_ay177 Ea175_178.lt
  have ne_a178_ay179 := own_or_ne oq179 ne_ay177_a178.symm Ea178.lt
  have ne_an_ay179 := own_or_ne oq179 ne_an_ay177 Esn_178.lt
  have ne_ar_ay179 := own_or_ne oq179 ne_ar_ay177 Esr_178.lt
  have ne_aw_ay179 := own_or_ne oq179 ne_aw_ay177 Esw_178.lt
  have ne_b172_ay179 := own_or_ne oq179 ne_b172_ay177 A172_178.lt
  have ne_b173_ay179 := own_or_ne oq179 ne_b173_ay177 A173_178.lt
  have ne_b175_ay179 := own_or_ne oq179 ne_b175_ay177 Vb175_178.lt
  have ne_b178_ay179 := own_or_ne oq179 ne_ay177_b178.symm Vb178.lt
  have ne_nd_ay179 := own_or_ne oq179 ne_nd_ay177 Vsn_178.lt
  have ne_rd_ay179 := own_or_ne oq179 ne_rd_ay177 Vsr_178.lt
  have ne_wd_ay179 := own_or_ne oq179 ne_wd_ay177 Vsw_178.lt
  have sz_ay179 := own_or_le oq179 sz_ay177 Kc178.1
  have sf_ay179 := own_or_sf oq179 sf_ay177_178
  have X00_179 := X00_178.keep Kq179 (allS gn_b173 (allS gq177 all0))
  have Esn_179 := Esn_178.keep Kq179
  have Svn_179 := Svn_178.keep Kq179 (ninS ne_an_b173 (ninS ne_an_ay177 nin0))
  have Scn_179 := Scn_178.keep Kq179 (ninS ne_an_b173 (ninS ne_an_ay177 nin0))
  have Vsn_179 := Vsn_178.keep Kq179 (ninS ne_nd_b173 (ninS ne_nd_ay177 nin0))
  have Esw_179 := Esw_178.keep Kq179
  have Vsw_179 := Vsw_178.keep Kq179 (ninS ne_wd_b173 (ninS ne_wd_ay177 nin0))
  have Esr_179 := Esr_178.keep Kq179
  have Svr_179 := Svr_178.keep Kq179 (ninS ne_ar_b173 (ninS ne_ar_ay177 nin0))
  have Scr_179 := Scr_178.keep Kq179 (ninS ne_ar_b173 (ninS ne_ar_ay177 nin0))
  have Vsr_179 := Vsr_178.keep Kq179 (ninS ne_rd_b173 (ninS ne_rd_ay177 nin0))
  have U172_179 := U172_178.keep Kq179 (ninS ne_b172_b173 (ninS ne_b172_ay177 nin0))
  have A172_179 := A172_178.keep Kq179
  have F172_cause_179 := F172_cause_178.keep Kq179 (ninS ne_b172_b173 (ninS ne_b172_ay177 nin0))
  have F172_stackTrace_179 := F172_stackTrace_178.keep Kq179 (ninS ne_b172_b173 (ninS ne_b172_ay177 nin0))
  have F172_suppressedExceptions_179 := F172_suppressedExceptions_178.keep Kq179 (ninS ne_b172_b173 (ninS ne_b172_ay177 nin0))
  have F172_detailMessage_179 := F172_detailMessage_178.keep Kq179 (ninS ne_b172_b173 (ninS ne_b172_ay177 nin0))
  have F172_backtrace_179 := F172_backtrace_178.keep Kq179 (ninS ne_b172_b173 (ninS ne_b172_ay177 nin0))
  have A173_179 := A173_178.keep Kq179
  have Ea175_179 := Ea175_178.keep Kq179
  have Vb175_179 := Vb175_178.keep Kq179 (ninS ne_b173_b175.symm (ninS ne_b175_ay177 nin0))
  have Ea178_179 := Ea178.keep Kq179
  have Vb178_179 := Vb178.keep Kq179 (ninS ne_b173_b178.symm (ninS ne_ay177_b178.symm nin0))
  have sf_b172_179 := Safe.keep Kq179 (sfS sf_b173_178 (sfS sf_ay177_178 sf0)) R178.1 sf_b172_178
  have sf_b173_179 := Safe.keep Kq179 (sfS sf_b173_178 (sfS sf_ay177_178 sf0)) R178.1 sf_b173_178
  have sf_ay179_179 := Safe.keep Kq179 (sfS sf_b173_178 (sfS sf_ay177_178 sf0)) R178.1 sf_ay179
  have R179 := CHr.trans R178 (CHr.keep Kq179 (sfS sf_b173_178 (sfS sf_ay177_178 sf0)) R178.1)
  have hk179 := Nat.le_trans hk178 Kq179.1
  have Zs179 : n0 ≤ T179.heap.size := Nat.le_trans Zs178 Kq179.1
  have Kc179 : Keep h0 T179.heap [] := Kc178.trans Kq179 (allS (Or.inr sz_b173) (allS (Or.inr sz_ay177) all0))
  refine own_pre (A := (T179.setTop (mkF m 26 #[.val (.ref an), .val (.ref aw), .val (.ref ar)] [(.ref an), (.ref b173), (.ref b172), (.ref b172)]))) ?_ ?_
  · intro t k
    refine XS.aloadN X179.here hx rfl (hb hby d9_25) rfl rfl ?_
    exact k
  obtain ⟨cq180, kq180, q180a, q180b, q180c⟩ := isOf hZ178 rfl A173_179
  obtain ⟨_, _, ⟨T180, L180, k180, n180⟩, -, X180, ⟨Lc180, hQ180, l180, y180, z180⟩, st180⟩ := X179.virtualBack hx (y := (⟨"java/lang/StringBuilder", "append", "(Ljava/lang/String;)Ljava/lang/StringBuilder;"⟩ : MethodName)) (z := (⟨"java/lang/StringBuilder", "append", "(Ljava/lang/String;)Ljava/lang/StringBuilder;"⟩ : MethodName)) hown178 (mvT hZ178 (own_w hw 67 rfl)) (mvT hZ178 (own_w hw 68 rfl)) (notFace_of_selects (args := #[]) (mvT hZ178 (own_w hw 70 rfl))) (mvT hZ178 (own_w hw 70 rfl)) (mvT hZ178 (own_w hw 69 rfl)) (by decide) (backOf (W := 2) (rm12 l Z a0 hw [] b173 an ay179 kq179 zq179 pq179 wq179 ((([] ++ [99, 97, 110, 110, 111, 116, 32, 114, 101, 97, 100, 32]) ++ wcs) ++ [32]) nd nk nn ncs pG T179.heap n0 Zs179 A173_179 Bv179 Bc179 Bk179 Ey179 Vq179 ok179 gn_b173 gq179 ne_b173_ay179 Esn_179 Svn_179 Scn_179 Vsn_179 ne_an_ay179 ne_nd_ay179 ne_an_b173 ne_nd_b173 hnn (by simp only [List.length_append, List.length_cons, List.length_nil] <;> omega) O2 hG X00_179) hZ178 (own_w hw 71 rfl) (own_w hw 50 rfl) (by decide) (by decide)) q180a q180c (g := (mkF m 26 #[.val (.ref an), .val (.ref aw), .val (.ref ar)] [(.ref an), (.ref b173), (.ref b172), (.ref b172)])) rfl (by rw [hml]; rfl) (Steps.refl _) (argsL := [(.ref an)]) (rest := [(.ref b172), (.ref b172)]) (lenOf own_pd29 rfl) rfl (by show 2 * 0 + _ ≤ _; exact Nat.le_of_eq rfl) (hb hby d9_26) (fun _ _ => ⟨rfl, rfl, (by decide : 10 + 1 ≤ _), (by decide : 188 + 34 ≤ _)⟩)
  dsimp only [Pt.U, Pt.locs, Pt.cells, Pt.slots] at X180 l180 y180 z180 st180 hQ180
  replace y180 : _ = 11 := y180
  replace z180 : _ = 222 := z180
  subst y180 z180
  obtain ⟨Nq180, rfl, Kq180, ay180, kq180, zq180, pq180, wq180, oq180, gq180, Bv180, Bc180, Bk180, Ey180, Vq180, ok180⟩ := hQ180
  have N180 := own_frl l180 N179 Nq180
  refine own_pre (fun t k => st180.trans k) ?_
  have ne_a175_ay180 := own_or_ne oq180 ne_a175_ay179 Ea175_179.lt
  have ne_a178_ay180 := own_or_ne oq180 ne_a178_ay179 Ea178_179.lt
  have ne_an_ay180 := own_or_ne oq180 ne_an_ay179 Esn_179.lt
  have ne_ar_ay180 := own_or_ne oq180 ne_ar_ay179 Esr_179.lt
  have ne_aw_ay180 := own_or_ne oq180 ne_aw_ay179 Esw_179.lt
  have ne_b172_ay180 := own_or_ne oq180 ne_b172_ay179 A172_179.lt
  have ne_b173_ay180 := own_or_ne oq180 ne_b173_ay179 A173_179.lt
  have ne_b175_ay180 := own_or_ne oq180 ne_b175_ay179 Vb175_179.lt
  have ne_b178_ay180 := own_or_ne oq180 ne_b178_ay179 Vb178_179.lt
  have ne_nd_ay180 := own_or_ne oq180 ne_nd_ay179 Vsn_179.lt
  have ne_rd_ay180 := own_or_ne oq180 ne_rd_ay179 Vsr_179.lt
  have ne_wd_ay180 := own_or_ne oq180 ne_wd_ay179 Vsw_179.lt
  have sz_ay180 := own_or_le oq180 sz_ay179 Kc179.1
  have sf_ay180 := own_or_sf oq180 sf_ay179_179
  have X00_180 := X00_179.keep Kq180 (allS gn_b173 (allS gq179 all0))
  have Esn_180 := Esn_179.keep Kq180
  have Vsn_180 := Vsn_179.keep Kq180 (ninS ne_nd_b173 (ninS ne_nd_ay179 nin0))
  have Esw_180 := Esw_179.keep Kq180
  have Vsw_180 := Vsw_179.keep Kq180 (ninS ne_wd_b173 (ninS ne_wd_ay179 nin0))
  have Esr_180 := Esr_179.keep Kq180
  have Svr_180 := Svr_179.keep Kq180 (ninS ne_ar_b173 (ninS ne_ar_ay179 nin0))
  have Scr_180 := Scr_179.keep Kq180 (ninS ne_ar_b173 (ninS ne_ar_ay179 nin0))
  have Vsr_180 := Vsr_179.keep Kq180 (ninS ne_rd_b173 (ninS ne_rd_ay179 nin0))
  have U172_180 := U172_179.keep Kq180 (ninS ne_b172_b173 (ninS ne_b172_ay179 nin0))
  have A172_180 := A172_179.keep Kq180
  have F172_cause_180 := F172_cause_179.keep Kq180 (ninS ne_b172_b173 (ninS ne_b172_ay179 nin0))
  have F172_stackTrace_180 := F172_stackTrace_179.keep Kq180 (ninS ne_b172_b173 (ninS ne_b172_ay179 nin0))
  have F172_suppressedExceptions_180 := F172_suppressedExceptions_179.keep Kq180 (ninS ne_b172_b173 (ninS ne_b172_ay179 nin0))
  have F172_detailMessage_180 := F172_detailMessage_179.keep Kq180 (ninS ne_b172_b173 (ninS ne_b172_ay179 nin0))
  have F172_backtrace_180 := F172_backtrace_179.keep Kq180 (ninS ne_b172_b173 (ninS ne_b172_ay179 nin0))
  have A173_180 := A173_179.keep Kq180
  have Ea175_180 := Ea175_179.keep Kq180
  have Vb175_180 := Vb175_179.keep Kq180 (ninS ne_b173_b175.symm (ninS ne_b175_ay179 nin0))
  have Ea178_180 := Ea178_179.keep Kq180
  have Vb178_180 := Vb178_179.keep Kq180 (ninS ne_b173_b178.symm (ninS ne_b178_ay179 nin0))
  have sf_b172_180 := Safe.keep Kq180 (sfS sf_b173_179 (sfS sf_ay179_179 sf0)) R179.1 sf_b172_179
  have sf_b173_180 := Safe.keep Kq180 (sfS sf_b173_179 (sfS sf_ay179_179 sf0)) R179.1 sf_b173_179
  have sf_ay180_180 := Safe.keep Kq180 (sfS sf_b173_179 (sfS sf_ay179_179 sf0)) R179.1 sf_ay180
  have R180 := CHr.trans R179 (CHr.keep Kq180 (sfS sf_b173_179 (sfS sf_ay179_179 sf0)) R179.1)
  have hk180 := Nat.le_trans hk179 Kq180.1
  have Zs180 : n0 ≤ T180.heap.size := Nat.le_trans Zs179 Kq180.1
  have Kc180 : Keep h0 T180.heap [] := Kc179.trans Kq180 (allS (Or.inr sz_b173) (allS (Or.inr sz_ay179) all0))
  obtain ⟨a181, T181, h181, k181, b181, kb181, X181, e181, E181, hS181, hk181, hZ181, hown181, Ea181, Fc181, Fv181, Vb181, la181, lb181, hC181, hL181, hne181, st181⟩ := ldcCH (s := s) (vm0 := T178.vm) X180 hx hZ178 hown178 (own_w hw 115 rfl) own_wS' rfl hS178 hk180 hEL (List.mem_of_getElem? (i := 2) rfl) R180.1 (vs := List.map own_by [58, 32]) (z := (2 : Int32)) own_lt2 (by decide) (by decide) (g := (mkF m 29 #[.val (.ref an), .val (.ref aw), .val (.ref ar)] [(.ref b173), (.ref b172), (.ref b172)])) rfl (hb hby d9_29) (n := 8) (by decide +kernel) (by decide) (by decide) (by decide)
  have X00_181 := X00_180.ext E181
  have Esn_181 := Esn_180.ext E181
  have Vsn_181 := Vsn_180.ext E181
  have Esw_181 := Esw_180.ext E181
  have Vsw_181 := Vsw_180.ext E181
  have Esr_181 := Esr_180.ext E181
  have Svr_181 := Svr_180.ext E181
  have Scr_181 := Scr_180.ext E181
  have Vsr_181 := Vsr_180.ext E181
  have U172_181 := U172_180.ext E181
  have A172_181 := A172_180.ext E181
  have F172_cause_181 := F172_cause_180.ext E181
  have F172_stackTrace_181 := F172_stackTrace_180.ext E181
  have F172_suppressedExceptions_181 := F172_suppressedExceptions_180.ext E181
  have F172_detailMessage_181 := F172_detailMessage_180.ext E181
  have F172_backtrace_181 := F172_backtrace_180.ext E181
  have A173_181 := A173_180.ext E181
  have Ea175_181 := Ea175_180.ext E181
  have Vb175_181 := Vb175_180.ext E181
  have Ea178_181 := Ea178_180.ext E181
  have Vb178_181 := Vb178_180.ext E181
  have Bv180_181 := Bv180.ext E181
  have Bc180_181 := Bc180.ext E181
  have Bk180_181 := Bk180.ext E181
  have Ey180_181 := Ey180.ext E181
  have Vq180_181 := Vq180.ext E181
  have Zs181 : n0 ≤ h181.size := Nat.le_trans Zs180 E181.1
  have Kc181 : Keep h0 h181 [] := Kc180.ext E181
  refine own_pre (fun t k => st181 t k) ?_
  have R181 := CHr.trans R180 hC181
  have sf_b172_181 := hC181.safe A172_180.lt sf_b172_180
  have sf_b173_181 := hC181.safe A173_180.lt sf_b173_180
  have ne_b173_a181 := (hne181 _ sf_b173_181).1
  have ne_b173_b181 := (hne181 _ sf_b173_181).2
  have sf_ay180_181 := hC181.safe Ey180.lt sf_ay180_180
  have ne_ay180_a181 := (hne181 _ sf_ay180_181).1
  have ne_ay180_b181 := (hne181 _ sf_ay180_181).2
  obtain ⟨cq182, kq182, q182a, q182b, q182c⟩ := isOf hZ181 e181 A173_181
  obtain ⟨_, _, ⟨T182, L182, k182, n182⟩, -, X182, ⟨Lc182, hQ182, l182, y182, z182⟩, st182⟩ := X181.virtualBack hx (y := (⟨"java/lang/StringBuilder", "append", "(Ljava/lang/String;)Ljava/lang/StringBuilder;"⟩ : MethodName)) (z := (⟨"java/lang/StringBuilder", "append", "(Ljava/lang/String;)Ljava/lang/StringBuilder;"⟩ : MethodName)) hown181 (mvT hZ181 (own_w hw 67 rfl)) (mvT hZ181 (own_w hw 68 rfl)) (notFace_of_selects (args := #[]) (mvT hZ181 (own_w hw 70 rfl))) (mvT hZ181 (own_w hw 70 rfl)) (mvT hZ181 (own_w hw 69 rfl)) (by decide) (backOf (W := 2) (rm12 l Z a0 hw [] b173 a181 ay180 kq180 zq180 pq180 wq180 (((([] ++ [99, 97, 110, 110, 111, 116, 32, 114, 101, 97, 100, 32]) ++ wcs) ++ [32]) ++ ncs) b181 kb181 (2 : Int32) [58, 32] pG h181 n0 Zs181 A173_181 Bv180_181 Bc180_181 Bk180_181 Ey180_181 Vq180_181 ok180 gn_b173 gq180 ne_b173_ay180 Ea181 Fv181 Fc181 Vb181 ne_ay180_a181.symm ne_ay180_b181.symm ne_b173_a181.symm ne_b173_b181.symm ⟨by decide, by decide⟩ (by simp only [List.length_append, List.length_cons, List.length_nil] <;> omega) O2 hG X00_181) hZ181 (own_w hw 71 rfl) (own_w hw 50 rfl) (by decide) (by decide)) q182a q182c (g := (mkF m 31 #[.val (.ref an), .val (.ref aw), .val (.ref ar)] [(.ref a181), (.ref b173), (.ref b172), (.ref b172)])) rfl (by rw [hml]; rfl) (Steps.refl _) (argsL := [(.ref a181)]) (rest := [(.ref b172), (.ref b172)]) (lenOf own_pd29 rfl) rfl (by show 2 * 0 + _ ≤ _; exact Nat.le_of_eq rfl) (hb hby d9_31) (fun _ _ => ⟨rfl, e181, (by decide : 13 + 1 ≤ _), (by decide : 234 + 34 ≤ _)⟩)
  dsimp only [Pt.U, Pt.locs, Pt.cells, Pt.slots] at X182 l182 y182 z182 st182 hQ182
  replace y182 : _ = 14 := y182
  replace z182 : _ = 268 := z182
  subst y182 z182
  obtain ⟨Nq182, rfl, Kq182, ay182, kq182, zq182, pq182, wq182, oq182, gq182, Bv182, Bc182, Bk182, Ey182, Vq182, ok182⟩ := hQ182
  have N182 := own_frl l182 N180 Nq182
  refine own_pre (fun t k => st182.trans k) ?_
  have ne_a175_ay182 := own_or_ne oq182 ne_a175_ay180 Ea175_181.lt
  have ne_a178_ay182 := own_or_ne oq182 ne_a178_ay180 Ea178_181.lt
  have ne_a181_ay182 := own_or_ne oq182 ne_ay180_a181.symm Ea181.lt
  have ne_an_ay182 := own_or_ne oq182 ne_an_ay180 Esn_181.lt
  have ne_ar_ay182 := own_or_ne oq182 ne_ar_ay180 Esr_181.lt
  have ne_aw_ay182 := own_or_ne oq182 ne_aw_ay180 Esw_181.lt
  have ne_b172_ay182 := own_or_ne oq182 ne_b172_ay180 A172_181.lt
  have ne_b173_ay182 := own_or_ne oq182 ne_b173_ay180 A173_181.lt
  have ne_b175_ay182 := own_or_ne oq182 ne_b175_ay180 Vb175_181.lt
  have ne_b178_ay182 := own_or_ne oq182 ne_b178_ay180 Vb178_181.lt
  have ne_b181_ay182 := own_or_ne oq182 ne_ay180_b181.symm Vb181.lt
  have ne_nd_ay182 := own_or_ne oq182 ne_nd_ay180 Vsn_181.lt
  have ne_rd_ay182 := own_or_ne oq182 ne_rd_ay180 Vsr_181.lt
  have ne_wd_ay182 := own_or_ne oq182 ne_wd_ay180 Vsw_181.lt
  have sz_ay182 := own_or_le oq182 sz_ay180 Kc181.1
  have sf_ay182 := own_or_sf oq182 sf_ay180_181
  have X00_182 := X00_181.keep Kq182 (allS gn_b173 (allS gq180 all0))
  have Esn_182 := Esn_181.keep Kq182
  have Vsn_182 := Vsn_181.keep Kq182 (ninS ne_nd_b173 (ninS ne_nd_ay180 nin0))
  have Esw_182 := Esw_181.keep Kq182
  have Vsw_182 := Vsw_181.keep Kq182 (ninS ne_wd_b173 (ninS ne_wd_ay180 nin0))
  have Esr_182 := Esr_181.keep Kq182
  have Svr_182 := Svr_181.keep Kq182 (ninS ne_ar_b173 (ninS ne_ar_ay180 nin0))
  have Scr_182 := Scr_181.keep Kq182 (ninS ne_ar_b173 (ninS ne_ar_ay180 nin0))
  have Vsr_182 := Vsr_181.keep Kq182 (ninS ne_rd_b173 (ninS ne_rd_ay180 nin0))
  have U172_182 := U172_181.keep Kq182 (ninS ne_b172_b173 (ninS ne_b172_ay180 nin0))
  have A172_182 := A172_181.keep Kq182
  have F172_cause_182 := F172_cause_181.keep Kq182 (ninS ne_b172_b173 (ninS ne_b172_ay180 nin0))
  have F172_stackTrace_182 := F172_stackTrace_181.keep Kq182 (ninS ne_b172_b173 (ninS ne_b172_ay180 nin0))
  have F172_suppressedExceptions_182 := F172_suppressedExceptions_181.keep Kq182 (ninS ne_b172_b173 (ninS ne_b172_ay180 nin0))
  have F172_detailMessage_182 := F172_detailMessage_181.keep Kq182 (ninS ne_b172_b173 (ninS ne_b172_ay180 nin0))
  have F172_backtrace_182 := F172_backtrace_181.keep Kq182 (ninS ne_b172_b173 (ninS ne_b172_ay180 nin0))
  have A173_182 := A173_181.keep Kq182
  have Ea175_182 := Ea175_181.keep Kq182
  have Vb175_182 := Vb175_181.keep Kq182 (ninS ne_b173_b175.symm (ninS ne_b175_ay180 nin0))
  have Ea178_182 := Ea178_181.keep Kq182
  have Vb178_182 := Vb178_181.keep Kq182 (ninS ne_b173_b178.symm (ninS ne_b178_ay180 nin0))
  have Ea181_182 := Ea181.keep Kq182
  have Vb181_182 := Vb181.keep Kq182 (ninS ne_b173_b181.symm (ninS ne_ay180_b181.symm nin0))
  have sf_b172_182 := Safe.keep Kq182 (sfS sf_b173_181 (sfS sf_ay180_181 sf0)) R181.1 sf_b172_181
  have sf_b173_182 := Safe.keep Kq182 (sfS sf_b173_181 (sfS sf_ay180_181 sf0)) R181.1 sf_b173_181
  have sf_ay182_182 := Safe.keep Kq182 (sfS sf_b173_181 (sfS sf_ay180_181 sf0)) R181.1 sf_ay182
  have R182 := CHr.trans R181 (CHr.keep Kq182 (sfS sf_b173_181 (sfS sf_ay180_181 sf0)) R181.1)
  have hk182 := Nat.le_trans hk181 Kq182.1
  have Zs182 : n0 ≤ T182.heap.size := Nat.le_trans Zs181 Kq182.1
  have Kc182 : Keep h0 T182.heap [] := Kc181.trans Kq182 (allS (Or.inr sz_b173) (allS (Or.inr sz_ay180) all0))
  refine own_pre (A := (T182.setTop (mkF m 35 #[.val (.ref an), .val (.ref aw), .val (.ref ar)] [(.ref ar), (.ref b173), (.ref b172), (.ref b172)]))) ?_ ?_
  · intro t k
    refine XS.aloadN X182.here hx rfl (hb hby d9_34) rfl rfl ?_
    exact k
  obtain ⟨cq183, kq183, q183a, q183b, q183c⟩ := isOf hZ181 rfl A173_182
  obtain ⟨_, _, ⟨T183, L183, k183, n183⟩, -, X183, ⟨Lc183, hQ183, l183, y183, z183⟩, st183⟩ := X182.virtualBack hx (y := (⟨"java/lang/StringBuilder", "append", "(Ljava/lang/String;)Ljava/lang/StringBuilder;"⟩ : MethodName)) (z := (⟨"java/lang/StringBuilder", "append", "(Ljava/lang/String;)Ljava/lang/StringBuilder;"⟩ : MethodName)) hown181 (mvT hZ181 (own_w hw 67 rfl)) (mvT hZ181 (own_w hw 68 rfl)) (notFace_of_selects (args := #[]) (mvT hZ181 (own_w hw 70 rfl))) (mvT hZ181 (own_w hw 70 rfl)) (mvT hZ181 (own_w hw 69 rfl)) (by decide) (backOf (W := 2) (rm12 l Z a0 hw [] b173 ar ay182 kq182 zq182 pq182 wq182 ((((([] ++ [99, 97, 110, 110, 111, 116, 32, 114, 101, 97, 100, 32]) ++ wcs) ++ [32]) ++ ncs) ++ [58, 32]) rd rk rn rcs pG T182.heap n0 Zs182 A173_182 Bv182 Bc182 Bk182 Ey182 Vq182 ok182 gn_b173 gq182 ne_b173_ay182 Esr_182 Svr_182 Scr_182 Vsr_182 ne_ar_ay182 ne_rd_ay182 ne_ar_b173 ne_rd_b173 hnr (by simp only [List.length_append, List.length_cons, List.length_nil] <;> omega) O2 hG X00_182) hZ181 (own_w hw 71 rfl) (own_w hw 50 rfl) (by decide) (by decide)) q183a q183c (g := (mkF m 35 #[.val (.ref an), .val (.ref aw), .val (.ref ar)] [(.ref ar), (.ref b173), (.ref b172), (.ref b172)])) rfl (by rw [hml]; rfl) (Steps.refl _) (argsL := [(.ref ar)]) (rest := [(.ref b172), (.ref b172)]) (lenOf own_pd29 rfl) rfl (by show 2 * 0 + _ ≤ _; exact Nat.le_of_eq rfl) (hb hby d9_35) (fun _ _ => ⟨rfl, rfl, (by decide : 14 + 1 ≤ _), (by decide : 268 + 34 ≤ _)⟩)
  dsimp only [Pt.U, Pt.locs, Pt.cells, Pt.slots] at X183 l183 y183 z183 st183 hQ183
  replace y183 : _ = 15 := y183
  replace z183 : _ = 302 := z183
  subst y183 z183
  obtain ⟨Nq183, rfl, Kq183, ay183, kq183, zq183, pq183, wq183, oq183, gq183, Bv183, Bc183, Bk183, Ey183, Vq183, ok183⟩ := hQ183
  have N183 := own_frl l183 N182 Nq183
  refine own_pre (fun t k => st183.trans k) ?_
  have ne_a175_ay183 := own_or_ne oq183 ne_a175_ay182 Ea175_182.lt
  have ne_a178_ay183 := own_or_ne oq183 ne_a178_ay182 Ea178_182.lt
  have ne_a181_ay183 := own_or_ne oq183 ne_a181_ay182 Ea181_182.lt
  have ne_an_ay183 := own_or_ne oq183 ne_an_ay182 Esn_182.lt
  have ne_ar_ay183 := own_or_ne oq183 ne_ar_ay182 Esr_182.lt
  have ne_aw_ay183 := own_or_ne oq183 ne_aw_ay182 Esw_182.lt
  have ne_b172_ay183 := own_or_ne oq183 ne_b172_ay182 A172_182.lt
  have ne_b173_ay183 := own_or_ne oq183 ne_b173_ay182 A173_182.lt
  have ne_b175_ay183 := own_or_ne oq183 ne_b175_ay182 Vb175_182.lt
  have ne_b178_ay183 := own_or_ne oq183 ne_b178_ay182 Vb178_182.lt
  have ne_b181_ay183 := own_or_ne oq183 ne_b181_ay182 Vb181_182.lt
  have ne_nd_ay183 := own_or_ne oq183 ne_nd_ay182 Vsn_182.lt
  have ne_rd_ay183 := own_or_ne oq183 ne_rd_ay182 Vsr_182.lt
  have ne_wd_ay183 := own_or_ne oq183 ne_wd_ay182 Vsw_182.lt
  have sz_ay183 := own_or_le oq183 sz_ay182 Kc182.1
  have sf_ay183 := own_or_sf oq183 sf_ay182_182
  have X00_183 := X00_182.keep Kq183 (allS gn_b173 (allS gq182 all0))
  have U172_183 := U172_182.keep Kq183 (ninS ne_b172_b173 (ninS ne_b172_ay182 nin0))
  have A172_183 := A172_182.keep Kq183
  have F172_cause_183 := F172_cause_182.keep Kq183 (ninS ne_b172_b173 (ninS ne_b172_ay182 nin0))
  have F172_stackTrace_183 := F172_stackTrace_182.keep Kq183 (ninS ne_b172_b173 (ninS ne_b172_ay182 nin0))
  have F172_suppressedExceptions_183 := F172_suppressedExceptions_182.keep Kq183 (ninS ne_b172_b173 (ninS ne_b172_ay182 nin0))
  have F172_detailMessage_183 := F172_detailMessage_182.keep Kq183 (ninS ne_b172_b173 (ninS ne_b172_ay182 nin0))
  have F172_backtrace_183 := F172_backtrace_182.keep Kq183 (ninS ne_b172_b173 (ninS ne_b172_ay182 nin0))
  have A173_183 := A173_182.keep Kq183
  have sf_b172_183 := Safe.keep Kq183 (sfS sf_b173_182 (sfS sf_ay182_182 sf0)) R182.1 sf_b172_182
  have R183 := CHr.trans R182 (CHr.keep Kq183 (sfS sf_b173_182 (sfS sf_ay182_182 sf0)) R182.1)
  have hk183 := Nat.le_trans hk182 Kq183.1
  have Zs183 : n0 ≤ T183.heap.size := Nat.le_trans Zs182 Kq183.1
  have Kc183 : Keep h0 T183.heap [] := Kc182.trans Kq183 (allS (Or.inr sz_b173) (allS (Or.inr sz_ay182) all0))
  obtain ⟨cq184, kq184, q184a, q184b, q184c⟩ := isOf hZ181 rfl A173_183
  obtain ⟨_, _, ⟨T184, L184, k184, n184⟩, -, X184, ⟨Lc184, hQ184, l184, y184, z184⟩, st184⟩ := X183.virtualBack hx (y := (⟨"java/lang/StringBuilder", "toString", "()Ljava/lang/String;"⟩ : MethodName)) (z := (⟨"java/lang/StringBuilder", "toString", "()Ljava/lang/String;"⟩ : MethodName)) hown181 (mvT hZ181 (own_w hw 116 rfl)) (mvT hZ181 (own_w hw 117 rfl)) (notFace_of_selects (args := #[]) (mvT hZ181 (own_w hw 119 rfl))) (mvT hZ181 (own_w hw 119 rfl)) (mvT hZ181 (own_w hw 118 rfl)) (by decide) (backOf (W := 2) (rm20 l Z a0 hw [] b173 ay183 kq183 zq183 pq183 wq183 (((((([] ++ [99, 97, 110, 110, 111, 116, 32, 114, 101, 97, 100, 32]) ++ wcs) ++ [32]) ++ ncs) ++ [58, 32]) ++ rcs) pG T183.heap n0 Zs183 A173_183 Bv183 Bc183 Bk183 Ey183 Vq183 ok183 O2 hG X00_183) hZ181 (own_w hw 120 rfl) (own_w hw 50 rfl) (by decide) (by decide)) q184a q184c (g := (mkF m 38 #[.val (.ref an), .val (.ref aw), .val (.ref ar)] [(.ref b173), (.ref b172), (.ref b172)])) rfl (by rw [hml]; rfl) (Steps.refl _) (argsL := []) (rest := [(.ref b172), (.ref b172)]) (lenOf own_pd30 rfl) rfl (by show 2 * 0 + _ ≤ _; exact Nat.le_of_eq rfl) (hb hby d9_38) (fun _ _ => ⟨rfl, rfl, (by decide : 15 + 2 ≤ _), (by decide : 302 + 38 ≤ _)⟩)
  dsimp only [Pt.U, Pt.locs, Pt.cells, Pt.slots] at X184 l184 y184 z184 st184 hQ184
  replace y184 : _ = 17 := y184
  replace z184 : _ = 340 := z184
  subst y184 z184
  obtain ⟨Nq184, ar184, ad184, kq184, rfl, zr184, zd184, Eq184, Fv184, Fc184, Vq184, Kq184⟩ := hQ184
  have N184 := own_frl l184 N183 Nq184
  refine own_pre (fun t k => st184.trans k) ?_
  have ne_b172_ar184 : b172 ≠ ar184 := Nat.ne_of_lt (Nat.lt_of_lt_of_le A172_183.lt zr184)
  have ne_b172_ad184 : b172 ≠ ad184 := Nat.ne_of_lt (Nat.lt_of_lt_of_le A172_183.lt zd184)
  have X00_184 := X00_183.keep Kq184 all0
  have U172_184 := U172_183.keep Kq184 nin0
  have A172_184 := A172_183.keep Kq184
  have F172_cause_184 := F172_cause_183.keep Kq184 nin0
  have F172_stackTrace_184 := F172_stackTrace_183.keep Kq184 nin0
  have F172_suppressedExceptions_184 := F172_suppressedExceptions_183.keep Kq184 nin0
  have F172_detailMessage_184 := F172_detailMessage_183.keep Kq184 nin0
  have F172_backtrace_184 := F172_backtrace_183.keep Kq184 nin0
  have sf_b172_184 := Safe.keep Kq184 sf0 R183.1 sf_b172_183
  have R184 := CHr.trans R183 (CHr.keep Kq184 sf0 R183.1)
  have hk184 := Nat.le_trans hk183 Kq184.1
  have Zs184 : n0 ≤ T184.heap.size := Nat.le_trans Zs183 Kq184.1
  have Kc184 : Keep h0 T184.heap [] := Kc183.trans Kq184 all0
  obtain ⟨_, _, ⟨T185, L185, k185, n185⟩, -, X185, ⟨Lc185, hQ185, l185, y185, z185⟩, st185⟩ := X184.specialBack hx (y := (⟨"com/example/sigillum/sigillum/cli/UsageException", "<init>", "(Ljava/lang/String;)V"⟩ : MethodName)) rfl hown181 (mvT hZ181 (own_w hw 159 rfl)) (mvT hZ181 (own_w hw 160 rfl)) (mvT hZ181 (own_w hw 161 rfl)) (by decide) (backOfKL (W := 1) (rm28 l Z a0 hw [] b172 ar184 vU vS T184.heap n0 Zs184 A172_184 U172_184 F172_cause_184 F172_stackTrace_184 F172_suppressedExceptions_184 F172_detailMessage_184 F172_backtrace_184 gn_b172 O5 rU O6 rS X00_184 hlt (ThS.keep Kc184 ns0 T00)) hZ181 (own_w hw 161 rfl) (own_w hw 47 rfl) (by decide) (by decide) (Vm.MethodsKnown.alikeC hS181.1.alike hK.1) (Vm.FramesKnown.alikeC hS181.1.alike hK.2)) (g := (mkF m 41 #[.val (.ref an), .val (.ref aw), .val (.ref ar)] [(.ref ar184), (.ref b172), (.ref b172)])) rfl (by rw [hml]; rfl) (Steps.refl _) (a := b172) (argsL := [(.ref ar184)]) (rest := [(.ref b172)]) (lenOf own_pd19 rfl) rfl (by show 2 * 0 + _ ≤ _; exact Nat.le_of_eq rfl) (hb hby d9_41) (fun _ _ => ⟨rfl, rfl, (by decide : 17 + 1 ≤ _), (by decide : 340 + 2752 ≤ _)⟩)
  dsimp only [Pt.U, Pt.locs, Pt.cells, Pt.slots] at X185 l185 y185 z185 st185 hQ185
  replace y185 : _ = 18 := y185
  replace z185 : _ = 3092 := z185
  subst y185 z185
  obtain ⟨Nq185, rfl, Kq185, Fm185⟩ := hQ185
  have N185 := own_frl l185 N184 Nq185
  refine own_pre (fun t k => st185.trans k) ?_
  have A172_185 := A172_184.keep Kq185
  have Eq184_185 := Eq184.keep Kq185
  have Fv184_185 := Fv184.keep Kq185 (ninS ne_b172_ar184.symm nin0)
  have Fc184_185 := Fc184.keep Kq185 (ninS ne_b172_ar184.symm nin0)
  have Vq184_185 := Vq184.keep Kq185 (ninS ne_b172_ad184.symm nin0)
  have R185 := CHr.trans R184 (CHr.keep Kq185 (sfS sf_b172_184 sf0) R184.1)
  have hk185 := Nat.le_trans hk184 Kq185.1
  have Kc185 : Keep h0 T185.heap [] := Kc184.trans Kq185 (allS (Or.inr sz_b172) all0)
  have Vmm : Arv Z T185.heap ad184 kq184 .byte pq183 (List.map own_by ([99, 97, 110, 110, 111, 116, 32, 114, 101, 97, 100, 32] ++ (wcs ++ (32 :: (ncs ++ (58 :: 32 :: rcs)))))) (.int (0 : Int32)) := by
    have q := Vq184_185
    rw [own_Meq] at q
    exact q
  have hm : own_n pq183 ([99, 97, 110, 110, 111, 116, 32, 114, 101, 97, 100, 32] ++ (wcs ++ (32 :: (ncs ++ (58 :: 32 :: rcs))))) := by
    have q := (own_okn ok183)
    rw [own_Meq] at q
    exact q
  obtain ⟨fs, hr, hrun, hended, hRE⟩ := X185.leaveW (hlocks := BodyLoose.notSynchronized Bd) hS181 hk185 (v := some (.ref b172)) (fun h => by rw [Bd.returns] at h; cases h)
  refine ⟨_, _, retOut X185 hx Bd.returns rfl (Or.inr (Or.inr (Or.inr (Or.inr ⟨rfl, rfl, rfl⟩)))) (hb hby d9_44) hr, hrun, hended, _, _, rfl, ?_, ?_, hRE.1, hRE.2.1, hRE.2.2.1, hRE.2.2.2.mono (by decide) (by decide)⟩
  · show own_Q9 Z an aw ar nd nk nn ncs wd wk wn wcs rd rk rn rcs pG vU vS h0 n0 _ T185.heap _
    exact ⟨N185, b172, ar184, ad184, kq184, pq183, rfl, A172_185, Fm185, Eq184_185, Fv184_185, Fc184_185, Vmm, hm, Kc185⟩
  · show CHr Z own_EL s.vm s.heap T185.vm T185.heap
    rw [hh]
    exact CHr.trans R185 (CHv.at X185 hZ181 hEL R185.1)
theorem d34_0 : decode method_4_code 0 = .ok (.ldc 24, 2) := by decide +kernel
theorem d34_2 : decode method_4_code 2 = .ok (.astore_n 1, 1) := by decide +kernel
theorem d34_3 : decode method_4_code 3 = .ok (.aload_n 0, 1) := by decide +kernel
theorem d34_4 : decode method_4_code 4 = .ok (.iconst 0, 1) := by decide +kernel
theorem d34_5 : decode method_4_code 5 = .ok (.invokevirtual 20, 3) := by decide +kernel
theorem d34_8 : decode method_4_code 8 = .ok (.aload_n 1, 1) := by decide +kernel
theorem d34_9 : decode method_4_code 9 = .ok (.iconst 0, 1) := by decide +kernel
theorem d34_10 : decode method_4_code 10 = .ok (.invokevirtual 20, 3) := by decide +kernel
theorem d34_13 : decode method_4_code 13 = .ok (.if_icmp .ne 162, 3) := by decide +kernel
theorem d34_16 : decode method_4_code 16 = .ok (.aload_n 0, 1) := by decide +kernel
theorem d34_17 : decode method_4_code 17 = .ok (.iconst 1, 1) := by decide +kernel
theorem d34_18 : decode method_4_code 18 = .ok (.invokevirtual 20, 3) := by decide +kernel
theorem d34_21 : decode method_4_code 21 = .ok (.aload_n 1, 1) := by decide +kernel
theorem d34_22 : decode method_4_code 22 = .ok (.iconst 1, 1) := by decide +kernel
theorem d34_23 : decode method_4_code 23 = .ok (.invokevirtual 20, 3) := by decide +kernel
theorem d34_26 : decode method_4_code 26 = .ok (.if_icmp .ne 149, 3) := by decide +kernel
theorem d34_29 : decode method_4_code 29 = .ok (.aload_n 0, 1) := by decide +kernel
theorem d34_30 : decode method_4_code 30 = .ok (.iconst 2, 1) := by decide +kernel
theorem d34_31 : decode method_4_code 31 = .ok (.invokevirtual 20, 3) := by decide +kernel
theorem d34_34 : decode method_4_code 34 = .ok (.aload_n 1, 1) := by decide +kernel
theorem d34_35 : decode method_4_code 35 = .ok (.iconst 2, 1) := by decide +kernel
theorem d34_36 : decode method_4_code 36 = .ok (.invokevirtual 20, 3) := by decide +kernel
theorem d34_39 : decode method_4_code 39 = .ok (.if_icmp .ne 136, 3) := by decide +kernel
theorem d34_42 : decode method_4_code 42 = .ok (.aload_n 0, 1) := by decide +kernel
theorem d34_43 : decode method_4_code 43 = .ok (.iconst 3, 1) := by decide +kernel
theorem d34_44 : decode method_4_code 44 = .ok (.invokevirtual 20, 3) := by decide +kernel
theorem d34_47 : decode method_4_code 47 = .ok (.aload_n 1, 1) := by decide +kernel
theorem d34_48 : decode method_4_code 48 = .ok (.iconst 3, 1) := by decide +kernel
theorem d34_49 : decode method_4_code 49 = .ok (.invokevirtual 20, 3) := by decide +kernel
theorem d34_52 : decode method_4_code 52 = .ok (.if_icmp .ne 123, 3) := by decide +kernel
theorem d34_55 : decode method_4_code 55 = .ok (.aload_n 0, 1) := by decide +kernel
theorem d34_56 : decode method_4_code 56 = .ok (.iconst 4, 1) := by decide +kernel
theorem d34_57 : decode method_4_code 57 = .ok (.invokevirtual 20, 3) := by decide +kernel
theorem d34_60 : decode method_4_code 60 = .ok (.aload_n 1, 1) := by decide +kernel
theorem d34_61 : decode method_4_code 61 = .ok (.iconst 4, 1) := by decide +kernel
theorem d34_62 : decode method_4_code 62 = .ok (.invokevirtual 20, 3) := by decide +kernel
theorem d34_65 : decode method_4_code 65 = .ok (.if_icmp .ne 110, 3) := by decide +kernel
theorem d34_68 : decode method_4_code 68 = .ok (.aload_n 0, 1) := by decide +kernel
theorem d34_69 : decode method_4_code 69 = .ok (.iconst 5, 1) := by decide +kernel
theorem d34_70 : decode method_4_code 70 = .ok (.invokevirtual 20, 3) := by decide +kernel
theorem d34_73 : decode method_4_code 73 = .ok (.aload_n 1, 1) := by decide +kernel
theorem d34_74 : decode method_4_code 74 = .ok (.iconst 5, 1) := by decide +kernel
theorem d34_75 : decode method_4_code 75 = .ok (.invokevirtual 20, 3) := by decide +kernel
theorem d34_78 : decode method_4_code 78 = .ok (.if_icmp .ne 97, 3) := by decide +kernel
theorem d34_81 : decode method_4_code 81 = .ok (.aload_n 0, 1) := by decide +kernel
theorem d34_82 : decode method_4_code 82 = .ok (.bipush 6, 2) := by decide +kernel
theorem d34_84 : decode method_4_code 84 = .ok (.invokevirtual 20, 3) := by decide +kernel
theorem d34_87 : decode method_4_code 87 = .ok (.aload_n 1, 1) := by decide +kernel
theorem d34_88 : decode method_4_code 88 = .ok (.bipush 6, 2) := by decide +kernel
theorem d34_90 : decode method_4_code 90 = .ok (.invokevirtual 20, 3) := by decide +kernel
theorem d34_93 : decode method_4_code 93 = .ok (.if_icmp .ne 82, 3) := by decide +kernel
theorem d34_96 : decode method_4_code 96 = .ok (.aload_n 0, 1) := by decide +kernel
theorem d34_97 : decode method_4_code 97 = .ok (.bipush 7, 2) := by decide +kernel
theorem d34_99 : decode method_4_code 99 = .ok (.invokevirtual 20, 3) := by decide +kernel
theorem d34_102 : decode method_4_code 102 = .ok (.aload_n 1, 1) := by decide +kernel
theorem d34_103 : decode method_4_code 103 = .ok (.bipush 7, 2) := by decide +kernel
theorem d34_105 : decode method_4_code 105 = .ok (.invokevirtual 20, 3) := by decide +kernel
theorem d34_108 : decode method_4_code 108 = .ok (.if_icmp .ne 67, 3) := by decide +kernel
theorem d34_111 : decode method_4_code 111 = .ok (.aload_n 0, 1) := by decide +kernel
theorem d34_112 : decode method_4_code 112 = .ok (.bipush 8, 2) := by decide +kernel
theorem d34_114 : decode method_4_code 114 = .ok (.invokevirtual 20, 3) := by decide +kernel
theorem d34_117 : decode method_4_code 117 = .ok (.aload_n 1, 1) := by decide +kernel
theorem d34_118 : decode method_4_code 118 = .ok (.bipush 8, 2) := by decide +kernel
theorem d34_120 : decode method_4_code 120 = .ok (.invokevirtual 20, 3) := by decide +kernel
theorem d34_123 : decode method_4_code 123 = .ok (.if_icmp .ne 52, 3) := by decide +kernel
theorem d34_126 : decode method_4_code 126 = .ok (.aload_n 0, 1) := by decide +kernel
theorem d34_127 : decode method_4_code 127 = .ok (.bipush 9, 2) := by decide +kernel
theorem d34_129 : decode method_4_code 129 = .ok (.invokevirtual 20, 3) := by decide +kernel
theorem d34_132 : decode method_4_code 132 = .ok (.aload_n 1, 1) := by decide +kernel
theorem d34_133 : decode method_4_code 133 = .ok (.bipush 9, 2) := by decide +kernel
theorem d34_135 : decode method_4_code 135 = .ok (.invokevirtual 20, 3) := by decide +kernel
theorem d34_138 : decode method_4_code 138 = .ok (.if_icmp .ne 37, 3) := by decide +kernel
theorem d34_141 : decode method_4_code 141 = .ok (.aload_n 0, 1) := by decide +kernel
theorem d34_142 : decode method_4_code 142 = .ok (.bipush 10, 2) := by decide +kernel
theorem d34_144 : decode method_4_code 144 = .ok (.invokevirtual 20, 3) := by decide +kernel
theorem d34_147 : decode method_4_code 147 = .ok (.aload_n 1, 1) := by decide +kernel
theorem d34_148 : decode method_4_code 148 = .ok (.bipush 10, 2) := by decide +kernel
theorem d34_150 : decode method_4_code 150 = .ok (.invokevirtual 20, 3) := by decide +kernel
theorem d34_153 : decode method_4_code 153 = .ok (.if_icmp .ne 22, 3) := by decide +kernel
theorem d34_156 : decode method_4_code 156 = .ok (.aload_n 0, 1) := by decide +kernel
theorem d34_157 : decode method_4_code 157 = .ok (.bipush 11, 2) := by decide +kernel
theorem d34_159 : decode method_4_code 159 = .ok (.invokevirtual 20, 3) := by decide +kernel
theorem d34_162 : decode method_4_code 162 = .ok (.aload_n 1, 1) := by decide +kernel
theorem d34_163 : decode method_4_code 163 = .ok (.bipush 11, 2) := by decide +kernel
theorem d34_165 : decode method_4_code 165 = .ok (.invokevirtual 20, 3) := by decide +kernel
theorem d34_168 : decode method_4_code 168 = .ok (.if_icmp .ne 7, 3) := by decide +kernel
theorem d34_171 : decode method_4_code 171 = .ok (.iconst 1, 1) := by decide +kernel
theorem d34_172 : decode method_4_code 172 = .ok (.goto 4, 3) := by decide +kernel
theorem d34_176 : decode method_4_code 176 = .ok (.ireturn, 1) := by decide +kernel
theorem own_pn34 : plainName "com/example/sigillum/sigillum/cli/InputFilesCannotReadPinLaw" = true := by first | (simp [plainName, overriddenIn]; done) | decide +kernel
theorem own_ef34 (m : MethodId) (x0 : Addr) : entryFrame m #[(.ref x0)] 2 = mkF m 0 #[.val (.ref x0), .unset] [] := by first | (simp [entryFrame, mkF, argsToLocals, Value.category]; done) | rfl
def own_Q34 (Z : State) (am : Addr) (ad : Addr) (kd : ClassId) (pn : Int32) (rest : List Int32) (pG : Int32) (vF : Value) (h0 : Heap) (n0 : Nat) (v : Option Value) (h : Heap) (L : List Loc) : Prop := Fr n0 L ∧ v = some (.int (1 : Int32)) ∧ Keep h0 h []
set_option maxRecDepth 65536 in
set_option maxHeartbeats 40000000 in
theorem rm34 (l : Launch) (Z : State) (a0 : Array Value) (hw : ∀ d ∈ tables_1, d.before a0 Z = true) (ws : List Jvm.Cond) (am : Addr) (ad : Addr) (kd : ClassId) (pn : Int32) (rest : List Int32) (pG : Int32) (vF : Value) (h0 : Heap) (n0 : Nat) (Z0 : n0 ≤ h0.size) (hEL : EW Z a0 own_EL) (Es : Exa Z h0 am "java/lang/String") (Sv : Fld Z h0 am "java/lang/String" "value" "[B" (.ref ad)) (Sc : Fld Z h0 am "java/lang/String" "coder" "B" (.int (0 : Int32))) (Vs : Arv Z h0 ad kd .byte pn (List.map own_by ([99, 97, 110, 110, 111, 116, 32, 114, 101, 97, 100, 32] ++ rest)) (.int (0 : Int32))) (hpn : (11 : Int32) < pn) (O2 : Sta Z Z.heap "java/lang/String" "COMPACT_STRINGS" "Z" (.int pG)) (hG : ¬ pG = (0 : Int32)) (X00 : Old Z n0 h0) (O4 : Sta Z Z.heap "jdk/internal/util/Preconditions" "SIOOBE_FORMATTER" "Ljava/util/function/BiFunction;" vF) (rF : vF.isRef = true) :
    MetFree l (⟨"com/example/sigillum/sigillum/cli/InputFilesCannotReadPinLaw", "prefix", "(Ljava/lang/String;)Z"⟩ : MethodName) (head1 (Jvm.Cond.code (⟨"com/example/sigillum/sigillum/cli/InputFilesCannotReadPinLaw", "prefix", "(Ljava/lang/String;)Z"⟩ : MethodName) method_4_code 2 (some .boolean) :: ws) ({ frames := 4, cells := 2, slots := 52, locals := 54 } : Room)) (fun a U => a = #[(.ref am)] ∧ Z.Warmed39 U.vm ∧ U.heap = h0 ∧ CHv Z own_EL U.vm h0) (fun _ _ _ _ _ => True) (fun _ U o U' => ∃ v L, o = .returned v ∧ own_Q34 Z am ad kd pn rest pG vF h0 n0 v U'.heap L ∧ CHr Z own_EL U.vm U.heap U'.vm U'.heap ∧ ReturnedEndW U o U' L ({ frames := 4, cells := 2, slots := 52, locals := 54 } : Room).cells ({ frames := 4, cells := 2, slots := 52, locals := 54 } : Room).slots) := by
  refine MetFree.of_bodySF (plainFor_of_name own_pn34) hisR ?_
  intro p e s m args below meth c s₁ Bd hml0 hP hK
  obtain ⟨rfl, hZ, hh, CH0⟩ := hP
  have hx := Bd.exec
  have hby := Bd.bytes
  have hml : c.maxLocals = 2 := hml0
  have hown : s.vm.findClass "com/example/sigillum/sigillum/cli/InputFilesCannotReadPinLaw" = some m.cls := findClass_of_methodNamed Bd.named
  have hnm := (name_of_methodNamed Bd.named Bd.method).1
  have own_wS' : ∀ d ∈ Bundle.stringAtoms, d.before a0 Z = true := fun d hd => hw d (own_wS d hd)
  have X0 : Stand p l e ({ frames := 4, cells := 2, slots := 52, locals := 54 } : Room) (s.setVm s.vm) m #[(.ref am)] below meth c s₁ [] 0 0 := Stand.of_body Bd
  have e0 : s₁.heap = h0 := by rw [← hh, Bd.state]; rfl
  have N0 := Fr.nil n0
  have hS0 : s.Since s.vm 0 := (State.WarmedH.refl s).since 0
  have hk0 : 0 ≤ h0.size := Nat.zero_le _
  have R0 := CHr.refl CH0
  refine own_pre (A := (s₁.setTop (mkF m 0 #[.val (.ref am), .unset] []))) (fun t k => castTop (own_ef34 m am) k) ?_
  obtain ⟨a186, T186, h186, k186, b186, kb186, X186, e186, E186, hS186, hk186, hZ186, hown186, Ea186, Fc186, Fv186, Vb186, la186, lb186, hC186, hL186, hne186, st186⟩ := ldcCH (s := s) (vm0 := s.vm) X0 hx hZ hown (own_w hw 220 rfl) own_wS' e0 hS0 hk0 hEL (List.mem_of_getElem? (i := 3) rfl) R0.1 (vs := List.map own_by [99, 97, 110, 110, 111, 116, 32, 114, 101, 97, 100, 32]) (z := (12 : Int32)) own_lt0 (by decide) (by decide) (g := (mkF m 0 #[.val (.ref am), .unset] [])) rfl (hb hby d34_0) (n := 48) (by decide +kernel) (by decide) (by decide) (by decide)
  have X00_186 := X00.ext E186
  have Es_186 := Es.ext E186
  have Sv_186 := Sv.ext E186
  have Sc_186 := Sc.ext E186
  have Vs_186 := Vs.ext E186
  have Zs186 : n0 ≤ h186.size := Nat.le_trans Z0 E186.1
  have Kc186 : Keep h0 h186 [] := (Keep.refl h0 []).ext E186
  refine own_pre (fun t k => st186 t k) ?_
  have R186 := CHr.trans R0 hC186
  refine own_pre (A := (T186.setTop (mkF m 5 #[.val (.ref am), .val (.ref a186)] [(.int (0 : Int32)), (.ref am)]))) ?_ ?_
  · intro t k
    refine XS.astoreN X186.here hx rfl (hb hby d34_2) rfl rfl (l' := #[.val (.ref am), .val (.ref a186)]) rfl ?_
    refine XS.aloadN X186.here hx rfl (hb hby d34_3) rfl rfl ?_
    refine XS.iconst X186.here hx rfl (hb hby d34_4) ?_
    exact k
  obtain ⟨cq187, kq187, q187a, q187b, q187c⟩ := isOf hZ186 e186 Es_186
  obtain ⟨_, _, ⟨T187, L187, k187, n187⟩, -, X187, ⟨Lc187, hQ187, l187, y187, z187⟩, st187⟩ := X186.virtualBack hx (y := (⟨"java/lang/String", "charAt", "(I)C"⟩ : MethodName)) (z := (⟨"java/lang/String", "charAt", "(I)C"⟩ : MethodName)) hown186 (mvT hZ186 (own_w hw 221 rfl)) (mvT hZ186 (own_w hw 222 rfl)) (notFace_of_selects (args := #[]) (mvT hZ186 (own_w hw 224 rfl))) (mvT hZ186 (own_w hw 224 rfl)) (mvT hZ186 (own_w hw 223 rfl)) (by decide) (backOf (W := 0) (rm35 l Z a0 hw [] am (0 : Int32) ad kd pn (List.map own_by ([99, 97, 110, 110, 111, 116, 32, 114, 101, 97, 100, 32] ++ rest)) (99 : Int32) pG vF h186 n0 Zs186 Es_186 Sv_186 Sc_186 Vs_186 (by decide) (own_ltp hpn (by decide)) rfl (by decide) O2 hG X00_186 O4 rF) hZ186 (own_w hw 225 rfl) (own_w hw 6 rfl) (by decide) (by decide)) q187a q187c (g := (mkF m 5 #[.val (.ref am), .val (.ref a186)] [(.int (0 : Int32)), (.ref am)])) rfl (by rw [hml]; rfl) (Steps.refl _) (argsL := [(.int (0 : Int32))]) (rest := []) (lenOf own_pd31 rfl) rfl (by show 2 * 0 + _ ≤ _; exact Nat.le_of_eq rfl) (hb hby d34_5) (fun _ _ => ⟨rfl, e186, (by decide : 2 + 0 ≤ _), (by decide : 52 + 0 ≤ _)⟩)
  dsimp only [Pt.U, Pt.locs, Pt.cells, Pt.slots] at X187 l187 y187 z187 st187 hQ187
  replace y187 : _ = 2 := y187
  replace z187 : _ = 52 := z187
  subst y187 z187
  obtain ⟨Nq187, rfl, eq187⟩ := hQ187
  have N187 := own_frl l187 N0 Nq187
  refine own_pre (fun t k => st187.trans k) ?_
  refine own_pre (A := (T187.setTop (mkF m 10 #[.val (.ref am), .val (.ref a186)] [(.int (0 : Int32)), (.ref a186), (.int (99 : Int32))]))) ?_ ?_
  · intro t k
    refine XS.aloadN X187.here hx rfl (hb hby d34_8) rfl rfl ?_
    refine XS.iconst X187.here hx rfl (hb hby d34_9) ?_
    exact k
  obtain ⟨cq188, kq188, q188a, q188b, q188c⟩ := isOf hZ186 eq187 Ea186
  obtain ⟨_, _, ⟨T188, L188, k188, n188⟩, -, X188, ⟨Lc188, hQ188, l188, y188, z188⟩, st188⟩ := X187.virtualBack hx (y := (⟨"java/lang/String", "charAt", "(I)C"⟩ : MethodName)) (z := (⟨"java/lang/String", "charAt", "(I)C"⟩ : MethodName)) hown186 (mvT hZ186 (own_w hw 221 rfl)) (mvT hZ186 (own_w hw 222 rfl)) (notFace_of_selects (args := #[]) (mvT hZ186 (own_w hw 224 rfl))) (mvT hZ186 (own_w hw 224 rfl)) (mvT hZ186 (own_w hw 223 rfl)) (by decide) (backOf (W := 1) (rm35 l Z a0 hw [] a186 (0 : Int32) b186 kb186 (12 : Int32) (List.map own_by [99, 97, 110, 110, 111, 116, 32, 114, 101, 97, 100, 32]) (99 : Int32) pG vF h186 n0 Zs186 Ea186 Fv186 Fc186 Vb186 (by decide) (by decide) rfl (by decide) O2 hG X00_186 O4 rF) hZ186 (own_w hw 225 rfl) (own_w hw 6 rfl) (by decide) (by decide)) q188a q188c (g := (mkF m 10 #[.val (.ref am), .val (.ref a186)] [(.int (0 : Int32)), (.ref a186), (.int (99 : Int32))])) rfl (by rw [hml]; rfl) (Steps.refl _) (argsL := [(.int (0 : Int32))]) (rest := [(.int (99 : Int32))]) (lenOf own_pd31 rfl) rfl (by show 2 * 0 + _ ≤ _; exact Nat.le_of_eq rfl) (hb hby d34_10) (fun _ _ => ⟨rfl, eq187, (by decide : 2 + 0 ≤ _), (by decide : 52 + 0 ≤ _)⟩)
  dsimp only [Pt.U, Pt.locs, Pt.cells, Pt.slots] at X188 l188 y188 z188 st188 hQ188
  replace y188 : _ = 2 := y188
  replace z188 : _ = 52 := z188
  subst y188 z188
  obtain ⟨Nq188, rfl, eq188⟩ := hQ188
  have N188 := own_frl l188 N187 Nq188
  refine own_pre (fun t k => st188.trans k) ?_
  refine own_pre (A := (T188.setTop (mkF m 18 #[.val (.ref am), .val (.ref a186)] [(.int (1 : Int32)), (.ref am)]))) ?_ ?_
  · intro t k
    refine XS.icmpNo X188.here hx rfl (hb hby d34_13) rfl (teq (by decide : (99 : Int32) = (99 : Int32))).2 ?_
    refine XS.aloadN X188.here hx rfl (hb hby d34_16) rfl rfl ?_
    refine XS.iconst X188.here hx rfl (hb hby d34_17) ?_
    exact k
  obtain ⟨cq189, kq189, q189a, q189b, q189c⟩ := isOf hZ186 eq188 Es_186
  obtain ⟨_, _, ⟨T189, L189, k189, n189⟩, -, X189, ⟨Lc189, hQ189, l189, y189, z189⟩, st189⟩ := X188.virtualBack hx (y := (⟨"java/lang/String", "charAt", "(I)C"⟩ : MethodName)) (z := (⟨"java/lang/String", "charAt", "(I)C"⟩ : MethodName)) hown186 (mvT hZ186 (own_w hw 221 rfl)) (mvT hZ186 (own_w hw 222 rfl)) (notFace_of_selects (args := #[]) (mvT hZ186 (own_w hw 224 rfl))) (mvT hZ186 (own_w hw 224 rfl)) (mvT hZ186 (own_w hw 223 rfl)) (by decide) (backOf (W := 0) (rm35 l Z a0 hw [] am (1 : Int32) ad kd pn (List.map own_by ([99, 97, 110, 110, 111, 116, 32, 114, 101, 97, 100, 32] ++ rest)) (97 : Int32) pG vF h186 n0 Zs186 Es_186 Sv_186 Sc_186 Vs_186 (by decide) (own_ltp hpn (by decide)) rfl (by decide) O2 hG X00_186 O4 rF) hZ186 (own_w hw 225 rfl) (own_w hw 6 rfl) (by decide) (by decide)) q189a q189c (g := (mkF m 18 #[.val (.ref am), .val (.ref a186)] [(.int (1 : Int32)), (.ref am)])) rfl (by rw [hml]; rfl) (Steps.refl _) (argsL := [(.int (1 : Int32))]) (rest := []) (lenOf own_pd31 rfl) rfl (by show 2 * 0 + _ ≤ _; exact Nat.le_of_eq rfl) (hb hby d34_18) (fun _ _ => ⟨rfl, eq188, (by decide : 2 + 0 ≤ _), (by decide : 52 + 0 ≤ _)⟩)
  dsimp only [Pt.U, Pt.locs, Pt.cells, Pt.slots] at X189 l189 y189 z189 st189 hQ189
  replace y189 : _ = 2 := y189
  replace z189 : _ = 52 := z189
  subst y189 z189
  obtain ⟨Nq189, rfl, eq189⟩ := hQ189
  have N189 := own_frl l189 N188 Nq189
  refine own_pre (fun t k => st189.trans k) ?_
  refine own_pre (A := (T189.setTop (mkF m 23 #[.val (.ref am), .val (.ref a186)] [(.int (1 : Int32)), (.ref a186), (.int (97 : Int32))]))) ?_ ?_
  · intro t k
    refine XS.aloadN X189.here hx rfl (hb hby d34_21) rfl rfl ?_
    refine XS.iconst X189.here hx rfl (hb hby d34_22) ?_
    exact k
  obtain ⟨cq190, kq190, q190a, q190b, q190c⟩ := isOf hZ186 eq189 Ea186
  obtain ⟨_, _, ⟨T190, L190, k190, n190⟩, -, X190, ⟨Lc190, hQ190, l190, y190, z190⟩, st190⟩ := X189.virtualBack hx (y := (⟨"java/lang/String", "charAt", "(I)C"⟩ : MethodName)) (z := (⟨"java/lang/String", "charAt", "(I)C"⟩ : MethodName)) hown186 (mvT hZ186 (own_w hw 221 rfl)) (mvT hZ186 (own_w hw 222 rfl)) (notFace_of_selects (args := #[]) (mvT hZ186 (own_w hw 224 rfl))) (mvT hZ186 (own_w hw 224 rfl)) (mvT hZ186 (own_w hw 223 rfl)) (by decide) (backOf (W := 1) (rm35 l Z a0 hw [] a186 (1 : Int32) b186 kb186 (12 : Int32) (List.map own_by [99, 97, 110, 110, 111, 116, 32, 114, 101, 97, 100, 32]) (97 : Int32) pG vF h186 n0 Zs186 Ea186 Fv186 Fc186 Vb186 (by decide) (by decide) rfl (by decide) O2 hG X00_186 O4 rF) hZ186 (own_w hw 225 rfl) (own_w hw 6 rfl) (by decide) (by decide)) q190a q190c (g := (mkF m 23 #[.val (.ref am), .val (.ref a186)] [(.int (1 : Int32)), (.ref a186), (.int (97 : Int32))])) rfl (by rw [hml]; rfl) (Steps.refl _) (argsL := [(.int (1 : Int32))]) (rest := [(.int (97 : Int32))]) (lenOf own_pd31 rfl) rfl (by show 2 * 0 + _ ≤ _; exact Nat.le_of_eq rfl) (hb hby d34_23) (fun _ _ => ⟨rfl, eq189, (by decide : 2 + 0 ≤ _), (by decide : 52 + 0 ≤ _)⟩)
  dsimp only [Pt.U, Pt.locs, Pt.cells, Pt.slots] at X190 l190 y190 z190 st190 hQ190
  replace y190 : _ = 2 := y190
  replace z190 : _ = 52 := z190
  subst y190 z190
  obtain ⟨Nq190, rfl, eq190⟩ := hQ190
  have N190 := own_frl l190 N189 Nq190
  refine own_pre (fun t k => st190.trans k) ?_
  refine own_pre (A := (T190.setTop (mkF m 31 #[.val (.ref am), .val (.ref a186)] [(.int (2 : Int32)), (.ref am)]))) ?_ ?_
  · intro t k
    refine XS.icmpNo X190.here hx rfl (hb hby d34_26) rfl (teq (by decide : (97 : Int32) = (97 : Int32))).2 ?_
    refine XS.aloadN X190.here hx rfl (hb hby d34_29) rfl rfl ?_
    refine XS.iconst X190.here hx rfl (hb hby d34_30) ?_
    exact k
  obtain ⟨cq191, kq191, q191a, q191b, q191c⟩ := isOf hZ186 eq190 Es_186
  obtain ⟨_, _, ⟨T191, L191, k191, n191⟩, -, X191, ⟨Lc191, hQ191, l191, y191, z191⟩, st191⟩ := X190.virtualBack hx (y := (⟨"java/lang/String", "charAt", "(I)C"⟩ : MethodName)) (z := (⟨"java/lang/String", "charAt", "(I)C"⟩ : MethodName)) hown186 (mvT hZ186 (own_w hw 221 rfl)) (mvT hZ186 (own_w hw 222 rfl)) (notFace_of_selects (args := #[]) (mvT hZ186 (own_w hw 224 rfl))) (mvT hZ186 (own_w hw 224 rfl)) (mvT hZ186 (own_w hw 223 rfl)) (by decide) (backOf (W := 0) (rm35 l Z a0 hw [] am (2 : Int32) ad kd pn (List.map own_by ([99, 97, 110, 110, 111, 116, 32, 114, 101, 97, 100, 32] ++ rest)) (110 : Int32) pG vF h186 n0 Zs186 Es_186 Sv_186 Sc_186 Vs_186 (by decide) (own_ltp hpn (by decide)) rfl (by decide) O2 hG X00_186 O4 rF) hZ186 (own_w hw 225 rfl) (own_w hw 6 rfl) (by decide) (by decide)) q191a q191c (g := (mkF m 31 #[.val (.ref am), .val (.ref a186)] [(.int (2 : Int32)), (.ref am)])) rfl (by rw [hml]; rfl) (Steps.refl _) (argsL := [(.int (2 : Int32))]) (rest := []) (lenOf own_pd31 rfl) rfl (by show 2 * 0 + _ ≤ _; exact Nat.le_of_eq rfl) (hb hby d34_31) (fun _ _ => ⟨rfl, eq190, (by decide : 2 + 0 ≤ _), (by decide : 52 + 0 ≤ _)⟩)
  dsimp only [Pt.U, Pt.locs, Pt.cells, Pt.slots] at X191 l191 y191 z191 st191 hQ191
  replace y191 : _ = 2 := y191
  replace z191 : _ = 52 := z191
  subst y191 z191
  obtain ⟨Nq191, rfl, eq191⟩ := hQ191
  have N191 := own_frl l191 N190 Nq191
  refine own_pre (fun t k => st191.trans k) ?_
  refine own_pre (A := (T191.setTop (mkF m 36 #[.val (.ref am), .val (.ref a186)] [(.int (2 : Int32)), (.ref a186), (.int (110 : Int32))]))) ?_ ?_
  · intro t k
    refine XS.aloadN X191.here hx rfl (hb hby d34_34) rfl rfl ?_
    refine XS.iconst X191.here hx rfl (hb hby d34_35) ?_
    exact k
  obtain ⟨cq192, kq192, q192a, q192b, q192c⟩ := isOf hZ186 eq191 Ea186
  obtain ⟨_, _, ⟨T192, L192, k192, n192⟩, -, X192, ⟨Lc192, hQ192, l192, y192, z192⟩, st192⟩ := X191.virtualBack hx (y := (⟨"java/lang/String", "charAt", "(I)C"⟩ : MethodName)) (z := (⟨"java/lang/String", "charAt", "(I)C"⟩ : MethodName)) hown186 (mvT hZ186 (own_w hw 221 rfl)) (mvT hZ186 (own_w hw 222 rfl)) (notFace_of_selects (args := #[]) (mvT hZ186 (own_w hw 224 rfl))) (mvT hZ186 (own_w hw 224 rfl)) (mvT hZ186 (own_w hw 223 rfl)) (by decide) (backOf (W := 1) (rm35 l Z a0 hw [] a186 (2 : Int32) b186 kb186 (12 : Int32) (List.map own_by [99, 97, 110, 110, 111, 116, 32, 114, 101, 97, 100, 32]) (110 : Int32) pG vF h186 n0 Zs186 Ea186 Fv186 Fc186 Vb186 (by decide) (by decide) rfl (by decide) O2 hG X00_186 O4 rF) hZ186 (own_w hw 225 rfl) (own_w hw 6 rfl) (by decide) (by decide)) q192a q192c (g := (mkF m 36 #[.val (.ref am), .val (.ref a186)] [(.int (2 : Int32)), (.ref a186), (.int (110 : Int32))])) rfl (by rw [hml]; rfl) (Steps.refl _) (argsL := [(.int (2 : Int32))]) (rest := [(.int (110 : Int32))]) (lenOf own_pd31 rfl) rfl (by show 2 * 0 + _ ≤ _; exact Nat.le_of_eq rfl) (hb hby d34_36) (fun _ _ => ⟨rfl, eq191, (by decide : 2 + 0 ≤ _), (by decide : 52 + 0 ≤ _)⟩)
  dsimp only [Pt.U, Pt.locs, Pt.cells, Pt.slots] at X192 l192 y192 z192 st192 hQ192
  replace y192 : _ = 2 := y192
  replace z192 : _ = 52 := z192
  subst y192 z192
  obtain ⟨Nq192, rfl, eq192⟩ := hQ192
  have N192 := own_frl l192 N191 Nq192
  refine own_pre (fun t k => st192.trans k) ?_
  refine own_pre (A := (T192.setTop (mkF m 44 #[.val (.ref am), .val (.ref a186)] [(.int (3 : Int32)), (.ref am)]))) ?_ ?_
  · intro t k
    refine XS.icmpNo X192.here hx rfl (hb hby d34_39) rfl (teq (by decide : (110 : Int32) = (110 : Int32))).2 ?_
    refine XS.aloadN X192.here hx rfl (hb hby d34_42) rfl rfl ?_
    refine XS.iconst X192.here hx rfl (hb hby d34_43) ?_
    exact k
  obtain ⟨cq193, kq193, q193a, q193b, q193c⟩ := isOf hZ186 eq192 Es_186
  obtain ⟨_, _, ⟨T193, L193, k193, n193⟩, -, X193, ⟨Lc193, hQ193, l193, y193, z193⟩, st193⟩ := X192.virtualBack hx (y := (⟨"java/lang/String", "charAt", "(I)C"⟩ : MethodName)) (z := (⟨"java/lang/String", "charAt", "(I)C"⟩ : MethodName)) hown186 (mvT hZ186 (own_w hw 221 rfl)) (mvT hZ186 (own_w hw 222 rfl)) (notFace_of_selects (args := #[]) (mvT hZ186 (own_w hw 224 rfl))) (mvT hZ186 (own_w hw 224 rfl)) (mvT hZ186 (own_w hw 223 rfl)) (by decide) (backOf (W := 0) (rm35 l Z a0 hw [] am (3 : Int32) ad kd pn (List.map own_by ([99, 97, 110, 110, 111, 116, 32, 114, 101, 97, 100, 32] ++ rest)) (110 : Int32) pG vF h186 n0 Zs186 Es_186 Sv_186 Sc_186 Vs_186 (by decide) (own_ltp hpn (by decide)) rfl (by decide) O2 hG X00_186 O4 rF) hZ186 (own_w hw 225 rfl) (own_w hw 6 rfl) (by decide) (by decide)) q193a q193c (g := (mkF m 44 #[.val (.ref am), .val (.ref a186)] [(.int (3 : Int32)), (.ref am)])) rfl (by rw [hml]; rfl) (Steps.refl _) (argsL := [(.int (3 : Int32))]) (rest := []) (lenOf own_pd31 rfl) rfl (by show 2 * 0 + _ ≤ _; exact Nat.le_of_eq rfl) (hb hby d34_44) (fun _ _ => ⟨rfl, eq192, (by decide : 2 + 0 ≤ _), (by decide : 52 + 0 ≤ _)⟩)
  dsimp only [Pt.U, Pt.locs, Pt.cells, Pt.slots] at X193 l193 y193 z193 st193 hQ193
  replace y193 : _ = 2 := y193
  replace z193 : _ = 52 := z193
  subst y193 z193
  obtain ⟨Nq193, rfl, eq193⟩ := hQ193
  have N193 := own_frl l193 N192 Nq193
  refine own_pre (fun t k => st193.trans k) ?_
  refine own_pre (A := (T193.setTop (mkF m 49 #[.val (.ref am), .val (.ref a186)] [(.int (3 : Int32)), (.ref a186), (.int (110 : Int32))]))) ?_ ?_
  · intro t k
    refine XS.aloadN X193.here hx rfl (hb hby d34_47) rfl rfl ?_
    refine XS.iconst X193.here hx rfl (hb hby d34_48) ?_
    exact k
  obtain ⟨cq194, kq194, q194a, q194b, q194c⟩ := isOf hZ186 eq193 Ea186
  obtain ⟨_, _, ⟨T194, L194, k194, n194⟩, -, X194, ⟨Lc194, hQ194, l194, y194, z194⟩, st194⟩ := X193.virtualBack hx (y := (⟨"java/lang/String", "charAt", "(I)C"⟩ : MethodName)) (z := (⟨"java/lang/String", "charAt", "(I)C"⟩ : MethodName)) hown186 (mvT hZ186 (own_w hw 221 rfl)) (mvT hZ186 (own_w hw 222 rfl)) (notFace_of_selects (args := #[]) (mvT hZ186 (own_w hw 224 rfl))) (mvT hZ186 (own_w hw 224 rfl)) (mvT hZ186 (own_w hw 223 rfl)) (by decide) (backOf (W := 1) (rm35 l Z a0 hw [] a186 (3 : Int32) b186 kb186 (12 : Int32) (List.map own_by [99, 97, 110, 110, 111, 116, 32, 114, 101, 97, 100, 32]) (110 : Int32) pG vF h186 n0 Zs186 Ea186 Fv186 Fc186 Vb186 (by decide) (by decide) rfl (by decide) O2 hG X00_186 O4 rF) hZ186 (own_w hw 225 rfl) (own_w hw 6 rfl) (by decide) (by decide)) q194a q194c (g := (mkF m 49 #[.val (.ref am), .val (.ref a186)] [(.int (3 : Int32)), (.ref a186), (.int (110 : Int32))])) rfl (by rw [hml]; rfl) (Steps.refl _) (argsL := [(.int (3 : Int32))]) (rest := [(.int (110 : Int32))]) (lenOf own_pd31 rfl) rfl (by show 2 * 0 + _ ≤ _; exact Nat.le_of_eq rfl) (hb hby d34_49) (fun _ _ => ⟨rfl, eq193, (by decide : 2 + 0 ≤ _), (by decide : 52 + 0 ≤ _)⟩)
  dsimp only [Pt.U, Pt.locs, Pt.cells, Pt.slots] at X194 l194 y194 z194 st194 hQ194
  replace y194 : _ = 2 := y194
  replace z194 : _ = 52 := z194
  subst y194 z194
  obtain ⟨Nq194, rfl, eq194⟩ := hQ194
  have N194 := own_frl l194 N193 Nq194
  refine own_pre (fun t k => st194.trans k) ?_
  refine own_pre (A := (T194.setTop (mkF m 57 #[.val (.ref am), .val (.ref a186)] [(.int (4 : Int32)), (.ref am)]))) ?_ ?_
  · intro t k
    refine XS.icmpNo X194.here hx rfl (hb hby d34_52) rfl (teq (by decide : (110 : Int32) = (110 : Int32))).2 ?_
    refine XS.aloadN X194.here hx rfl (hb hby d34_55) rfl rfl ?_
    refine XS.iconst X194.here hx rfl (hb hby d34_56) ?_
    exact k
  obtain ⟨cq195, kq195, q195a, q195b, q195c⟩ := isOf hZ186 eq194 Es_186
  obtain ⟨_, _, ⟨T195, L195, k195, n195⟩, -, X195, ⟨Lc195, hQ195, l195, y195, z195⟩, st195⟩ := X194.virtualBack hx (y := (⟨"java/lang/String", "charAt", "(I)C"⟩ : MethodName)) (z := (⟨"java/lang/String", "charAt", "(I)C"⟩ : MethodName)) hown186 (mvT hZ186 (own_w hw 221 rfl)) (mvT hZ186 (own_w hw 222 rfl)) (notFace_of_selects (args := #[]) (mvT hZ186 (own_w hw 224 rfl))) (mvT hZ186 (own_w hw 224 rfl)) (mvT hZ186 (own_w hw 223 rfl)) (by decide) (backOf (W := 0) (rm35 l Z a0 hw [] am (4 : Int32) ad kd pn (List.map own_by ([99, 97, 110, 110, 111, 116, 32, 114, 101, 97, 100, 32] ++ rest)) (111 : Int32) pG vF h186 n0 Zs186 Es_186 Sv_186 Sc_186 Vs_186 (by decide) (own_ltp hpn (by decide)) rfl (by decide) O2 hG X00_186 O4 rF) hZ186 (own_w hw 225 rfl) (own_w hw 6 rfl) (by decide) (by decide)) q195a q195c (g := (mkF m 57 #[.val (.ref am), .val (.ref a186)] [(.int (4 : Int32)), (.ref am)])) rfl (by rw [hml]; rfl) (Steps.refl _) (argsL := [(.int (4 : Int32))]) (rest := []) (lenOf own_pd31 rfl) rfl (by show 2 * 0 + _ ≤ _; exact Nat.le_of_eq rfl) (hb hby d34_57) (fun _ _ => ⟨rfl, eq194, (by decide : 2 + 0 ≤ _), (by decide : 52 + 0 ≤ _)⟩)
  dsimp only [Pt.U, Pt.locs, Pt.cells, Pt.slots] at X195 l195 y195 z195 st195 hQ195
  replace y195 : _ = 2 := y195
  replace z195 : _ = 52 := z195
  subst y195 z195
  obtain ⟨Nq195, rfl, eq195⟩ := hQ195
  have N195 := own_frl l195 N194 Nq195
  refine own_pre (fun t k => st195.trans k) ?_
  refine own_pre (A := (T195.setTop (mkF m 62 #[.val (.ref am), .val (.ref a186)] [(.int (4 : Int32)), (.ref a186), (.int (111 : Int32))]))) ?_ ?_
  · intro t k
    refine XS.aloadN X195.here hx rfl (hb hby d34_60) rfl rfl ?_
    refine XS.iconst X195.here hx rfl (hb hby d34_61) ?_
    exact k
  obtain ⟨cq196, kq196, q196a, q196b, q196c⟩ := isOf hZ186 eq195 Ea186
  obtain ⟨_, _, ⟨T196, L196, k196, n196⟩, -, X196, ⟨Lc196, hQ196, l196, y196, z196⟩, st196⟩ := X195.virtualBack hx (y := (⟨"java/lang/String", "charAt", "(I)C"⟩ : MethodName)) (z := (⟨"java/lang/String", "charAt", "(I)C"⟩ : MethodName)) hown186 (mvT hZ186 (own_w hw 221 rfl)) (mvT hZ186 (own_w hw 222 rfl)) (notFace_of_selects (args := #[]) (mvT hZ186 (own_w hw 224 rfl))) (mvT hZ186 (own_w hw 224 rfl)) (mvT hZ186 (own_w hw 223 rfl)) (by decide) (backOf (W := 1) (rm35 l Z a0 hw [] a186 (4 : Int32) b186 kb186 (12 : Int32) (List.map own_by [99, 97, 110, 110, 111, 116, 32, 114, 101, 97, 100, 32]) (111 : Int32) pG vF h186 n0 Zs186 Ea186 Fv186 Fc186 Vb186 (by decide) (by decide) rfl (by decide) O2 hG X00_186 O4 rF) hZ186 (own_w hw 225 rfl) (own_w hw 6 rfl) (by decide) (by decide)) q196a q196c (g := (mkF m 62 #[.val (.ref am), .val (.ref a186)] [(.int (4 : Int32)), (.ref a186), (.int (111 : Int32))])) rfl (by rw [hml]; rfl) (Steps.refl _) (argsL := [(.int (4 : Int32))]) (rest := [(.int (111 : Int32))]) (lenOf own_pd31 rfl) rfl (by show 2 * 0 + _ ≤ _; exact Nat.le_of_eq rfl) (hb hby d34_62) (fun _ _ => ⟨rfl, eq195, (by decide : 2 + 0 ≤ _), (by decide : 52 + 0 ≤ _)⟩)
  dsimp only [Pt.U, Pt.locs, Pt.cells, Pt.slots] at X196 l196 y196 z196 st196 hQ196
  replace y196 : _ = 2 := y196
  replace z196 : _ = 52 := z196
  subst y196 z196
  obtain ⟨Nq196, rfl, eq196⟩ := hQ196
  have N196 := own_frl l196 N195 Nq196
  refine own_pre (fun t k => st196.trans k) ?_
  refine own_pre (A := (T196.setTop (mkF m 70 #[.val (.ref am), .val (.ref a186)] [(.int (5 : Int32)), (.ref am)]))) ?_ ?_
  · intro t k
    refine XS.icmpNo X196.here hx rfl (hb hby d34_65) rfl (teq (by decide : (111 : Int32) = (111 : Int32))).2 ?_
    refine XS.aloadN X196.here hx rfl (hb hby d34_68) rfl rfl ?_
    refine XS.iconst X196.here hx rfl (hb hby d34_69) ?_
    exact k
  obtain ⟨cq197, kq197, q197a, q197b, q197c⟩ := isOf hZ186 eq196 Es_186
  obtain ⟨_, _, ⟨T197, L197, k197, n197⟩, -, X197, ⟨Lc197, hQ197, l197, y197, z197⟩, st197⟩ := X196.virtualBack hx (y := (⟨"java/lang/String", "charAt", "(I)C"⟩ : MethodName)) (z := (⟨"java/lang/String", "charAt", "(I)C"⟩ : MethodName)) hown186 (mvT hZ186 (own_w hw 221 rfl)) (mvT hZ186 (own_w hw 222 rfl)) (notFace_of_selects (args := #[]) (mvT hZ186 (own_w hw 224 rfl))) (mvT hZ186 (own_w hw 224 rfl)) (mvT hZ186 (own_w hw 223 rfl)) (by decide) (backOf (W := 0) (rm35 l Z a0 hw [] am (5 : Int32) ad kd pn (List.map own_by ([99, 97, 110, 110, 111, 116, 32, 114, 101, 97, 100, 32] ++ rest)) (116 : Int32) pG vF h186 n0 Zs186 Es_186 Sv_186 Sc_186 Vs_186 (by decide) (own_ltp hpn (by decide)) rfl (by decide) O2 hG X00_186 O4 rF) hZ186 (own_w hw 225 rfl) (own_w hw 6 rfl) (by decide) (by decide)) q197a q197c (g := (mkF m 70 #[.val (.ref am), .val (.ref a186)] [(.int (5 : Int32)), (.ref am)])) rfl (by rw [hml]; rfl) (Steps.refl _) (argsL := [(.int (5 : Int32))]) (rest := []) (lenOf own_pd31 rfl) rfl (by show 2 * 0 + _ ≤ _; exact Nat.le_of_eq rfl) (hb hby d34_70) (fun _ _ => ⟨rfl, eq196, (by decide : 2 + 0 ≤ _), (by decide : 52 + 0 ≤ _)⟩)
  dsimp only [Pt.U, Pt.locs, Pt.cells, Pt.slots] at X197 l197 y197 z197 st197 hQ197
  replace y197 : _ = 2 := y197
  replace z197 : _ = 52 := z197
  subst y197 z197
  obtain ⟨Nq197, rfl, eq197⟩ := hQ197
  have N197 := own_frl l197 N196 Nq197
  refine own_pre (fun t k => st197.trans k) ?_
  refine own_pre (A := (T197.setTop (mkF m 75 #[.val (.ref am), .val (.ref a186)] [(.int (5 : Int32)), (.ref a186), (.int (116 : Int32))]))) ?_ ?_
  · intro t k
    refine XS.aloadN X197.here hx rfl (hb hby d34_73) rfl rfl ?_
    refine XS.iconst X197.here hx rfl (hb hby d34_74) ?_
    exact k
  obtain ⟨cq198, kq198, q198a, q198b, q198c⟩ := isOf hZ186 eq197 Ea186
  obtain ⟨_, _, ⟨T198, L198, k198, n198⟩, -, X198, ⟨Lc198, hQ198, l198, y198, z198⟩, st198⟩ := X197.virtualBack hx (y := (⟨"java/lang/String", "charAt", "(I)C"⟩ : MethodName)) (z := (⟨"java/lang/String", "charAt", "(I)C"⟩ : MethodName)) hown186 (mvT hZ186 (own_w hw 221 rfl)) (mvT hZ186 (own_w hw 222 rfl)) (notFace_of_selects (args := #[]) (mvT hZ186 (own_w hw 224 rfl))) (mvT hZ186 (own_w hw 224 rfl)) (mvT hZ186 (own_w hw 223 rfl)) (by decide) (backOf (W := 1) (rm35 l Z a0 hw [] a186 (5 : Int32) b186 kb186 (12 : Int32) (List.map own_by [99, 97, 110, 110, 111, 116, 32, 114, 101, 97, 100, 32]) (116 : Int32) pG vF h186 n0 Zs186 Ea186 Fv186 Fc186 Vb186 (by decide) (by decide) rfl (by decide) O2 hG X00_186 O4 rF) hZ186 (own_w hw 225 rfl) (own_w hw 6 rfl) (by decide) (by decide)) q198a q198c (g := (mkF m 75 #[.val (.ref am), .val (.ref a186)] [(.int (5 : Int32)), (.ref a186), (.int (116 : Int32))])) rfl (by rw [hml]; rfl) (Steps.refl _) (argsL := [(.int (5 : Int32))]) (rest := [(.int (116 : Int32))]) (lenOf own_pd31 rfl) rfl (by show 2 * 0 + _ ≤ _; exact Nat.le_of_eq rfl) (hb hby d34_75) (fun _ _ => ⟨rfl, eq197, (by decide : 2 + 0 ≤ _), (by decide : 52 + 0 ≤ _)⟩)
  dsimp only [Pt.U, Pt.locs, Pt.cells, Pt.slots] at X198 l198 y198 z198 st198 hQ198
  replace y198 : _ = 2 := y198
  replace z198 : _ = 52 := z198
  subst y198 z198
  obtain ⟨Nq198, rfl, eq198⟩ := hQ198
  have N198 := own_frl l198 N197 Nq198
  refine own_pre (fun t k => st198.trans k) ?_
  refine own_pre (A := (T198.setTop (mkF m 84 #[.val (.ref am), .val (.ref a186)] [(.int (6 : Int32)), (.ref am)]))) ?_ ?_
  · intro t k
    refine XS.icmpNo X198.here hx rfl (hb hby d34_78) rfl (teq (by decide : (116 : Int32) = (116 : Int32))).2 ?_
    refine XS.aloadN X198.here hx rfl (hb hby d34_81) rfl rfl ?_
    refine XS.bipush X198.here hx rfl (hb hby d34_82) ?_
    exact k
  obtain ⟨cq199, kq199, q199a, q199b, q199c⟩ := isOf hZ186 eq198 Es_186
  obtain ⟨_, _, ⟨T199, L199, k199, n199⟩, -, X199, ⟨Lc199, hQ199, l199, y199, z199⟩, st199⟩ := X198.virtualBack hx (y := (⟨"java/lang/String", "charAt", "(I)C"⟩ : MethodName)) (z := (⟨"java/lang/String", "charAt", "(I)C"⟩ : MethodName)) hown186 (mvT hZ186 (own_w hw 221 rfl)) (mvT hZ186 (own_w hw 222 rfl)) (notFace_of_selects (args := #[]) (mvT hZ186 (own_w hw 224 rfl))) (mvT hZ186 (own_w hw 224 rfl)) (mvT hZ186 (own_w hw 223 rfl)) (by decide) (backOf (W := 0) (rm35 l Z a0 hw [] am (6 : Int32) ad kd pn (List.map own_by ([99, 97, 110, 110, 111, 116, 32, 114, 101, 97, 100, 32] ++ rest)) (32 : Int32) pG vF h186 n0 Zs186 Es_186 Sv_186 Sc_186 Vs_186 (by decide) (own_ltp hpn (by decide)) rfl (by decide) O2 hG X00_186 O4 rF) hZ186 (own_w hw 225 rfl) (own_w hw 6 rfl) (by decide) (by decide)) q199a q199c (g := (mkF m 84 #[.val (.ref am), .val (.ref a186)] [(.int (6 : Int32)), (.ref am)])) rfl (by rw [hml]; rfl) (Steps.refl _) (argsL := [(.int (6 : Int32))]) (rest := []) (lenOf own_pd31 rfl) rfl (by show 2 * 0 + _ ≤ _; exact Nat.le_of_eq rfl) (hb hby d34_84) (fun _ _ => ⟨rfl, eq198, (by decide : 2 + 0 ≤ _), (by decide : 52 + 0 ≤ _)⟩)
  dsimp only [Pt.U, Pt.locs, Pt.cells, Pt.slots] at X199 l199 y199 z199 st199 hQ199
  replace y199 : _ = 2 := y199
  replace z199 : _ = 52 := z199
  subst y199 z199
  obtain ⟨Nq199, rfl, eq199⟩ := hQ199
  have N199 := own_frl l199 N198 Nq199
  refine own_pre (fun t k => st199.trans k) ?_
  refine own_pre (A := (T199.setTop (mkF m 90 #[.val (.ref am), .val (.ref a186)] [(.int (6 : Int32)), (.ref a186), (.int (32 : Int32))]))) ?_ ?_
  · intro t k
    refine XS.aloadN X199.here hx rfl (hb hby d34_87) rfl rfl ?_
    refine XS.bipush X199.here hx rfl (hb hby d34_88) ?_
    exact k
  obtain ⟨cq200, kq200, q200a, q200b, q200c⟩ := isOf hZ186 eq199 Ea186
  obtain ⟨_, _, ⟨T200, L200, k200, n200⟩, -, X200, ⟨Lc200, hQ200, l200, y200, z200⟩, st200⟩ := X199.virtualBack hx (y := (⟨"java/lang/String", "charAt", "(I)C"⟩ : MethodName)) (z := (⟨"java/lang/String", "charAt", "(I)C"⟩ : MethodName)) hown186 (mvT hZ186 (own_w hw 221 rfl)) (mvT hZ186 (own_w hw 222 rfl)) (notFace_of_selects (args := #[]) (mvT hZ186 (own_w hw 224 rfl))) (mvT hZ186 (own_w hw 224 rfl)) (mvT hZ186 (own_w hw 223 rfl)) (by decide) (backOf (W := 1) (rm35 l Z a0 hw [] a186 (6 : Int32) b186 kb186 (12 : Int32) (List.map own_by [99, 97, 110, 110, 111, 116, 32, 114, 101, 97, 100, 32]) (32 : Int32) pG vF h186 n0 Zs186 Ea186 Fv186 Fc186 Vb186 (by decide) (by decide) rfl (by decide) O2 hG X00_186 O4 rF) hZ186 (own_w hw 225 rfl) (own_w hw 6 rfl) (by decide) (by decide)) q200a q200c (g := (mkF m 90 #[.val (.ref am), .val (.ref a186)] [(.int (6 : Int32)), (.ref a186), (.int (32 : Int32))])) rfl (by rw [hml]; rfl) (Steps.refl _) (argsL := [(.int (6 : Int32))]) (rest := [(.int (32 : Int32))]) (lenOf own_pd31 rfl) rfl (by show 2 * 0 + _ ≤ _; exact Nat.le_of_eq rfl) (hb hby d34_90) (fun _ _ => ⟨rfl, eq199, (by decide : 2 + 0 ≤ _), (by decide : 52 + 0 ≤ _)⟩)
  dsimp only [Pt.U, Pt.locs, Pt.cells, Pt.slots] at X200 l200 y200 z200 st200 hQ200
  replace y200 : _ = 2 := y200
  replace z200 : _ = 52 := z200
  subst y200 z200
  obtain ⟨Nq200, rfl, eq200⟩ := hQ200
  have N200 := own_frl l200 N199 Nq200
  refine own_pre (fun t k => st200.trans k) ?_
  refine own_pre (A := (T200.setTop (mkF m 99 #[.val (.ref am), .val (.ref a186)] [(.int (7 : Int32)), (.ref am)]))) ?_ ?_
  · intro t k
    refine XS.icmpNo X200.here hx rfl (hb hby d34_93) rfl (teq (by decide : (32 : Int32) = (32 : Int32))).2 ?_
    refine XS.aloadN X200.here hx rfl (hb hby d34_96) rfl rfl ?_
    refine XS.bipush X200.here hx rfl (hb hby d34_97) ?_
    exact k
  obtain ⟨cq201, kq201, q201a, q201b, q201c⟩ := isOf hZ186 eq200 Es_186
  obtain ⟨_, _, ⟨T201, L201, k201, n201⟩, -, X201, ⟨Lc201, hQ201, l201, y201, z201⟩, st201⟩ := X200.virtualBack hx (y := (⟨"java/lang/String", "charAt", "(I)C"⟩ : MethodName)) (z := (⟨"java/lang/String", "charAt", "(I)C"⟩ : MethodName)) hown186 (mvT hZ186 (own_w hw 221 rfl)) (mvT hZ186 (own_w hw 222 rfl)) (notFace_of_selects (args := #[]) (mvT hZ186 (own_w hw 224 rfl))) (mvT hZ186 (own_w hw 224 rfl)) (mvT hZ186 (own_w hw 223 rfl)) (by decide) (backOf (W := 0) (rm35 l Z a0 hw [] am (7 : Int32) ad kd pn (List.map own_by ([99, 97, 110, 110, 111, 116, 32, 114, 101, 97, 100, 32] ++ rest)) (114 : Int32) pG vF h186 n0 Zs186 Es_186 Sv_186 Sc_186 Vs_186 (by decide) (own_ltp hpn (by decide)) rfl (by decide) O2 hG X00_186 O4 rF) hZ186 (own_w hw 225 rfl) (own_w hw 6 rfl) (by decide) (by decide)) q201a q201c (g := (mkF m 99 #[.val (.ref am), .val (.ref a186)] [(.int (7 : Int32)), (.ref am)])) rfl (by rw [hml]; rfl) (Steps.refl _) (argsL := [(.int (7 : Int32))]) (rest := []) (lenOf own_pd31 rfl) rfl (by show 2 * 0 + _ ≤ _; exact Nat.le_of_eq rfl) (hb hby d34_99) (fun _ _ => ⟨rfl, eq200, (by decide : 2 + 0 ≤ _), (by decide : 52 + 0 ≤ _)⟩)
  dsimp only [Pt.U, Pt.locs, Pt.cells, Pt.slots] at X201 l201 y201 z201 st201 hQ201
  replace y201 : _ = 2 := y201
  replace z201 : _ = 52 := z201
  subst y201 z201
  obtain ⟨Nq201, rfl, eq201⟩ := hQ201
  have N201 := own_frl l201 N200 Nq201
  refine own_pre (fun t k => st201.trans k) ?_
  refine own_pre (A := (T201.setTop (mkF m 105 #[.val (.ref am), .val (.ref a186)] [(.int (7 : Int32)), (.ref a186), (.int (114 : Int32))]))) ?_ ?_
  · intro t k
    refine XS.aloadN X201.here hx rfl (hb hby d34_102) rfl rfl ?_
    refine XS.bipush X201.here hx rfl (hb hby d34_103) ?_
    exact k
  obtain ⟨cq202, kq202, q202a, q202b, q202c⟩ := isOf hZ186 eq201 Ea186
  obtain ⟨_, _, ⟨T202, L202, k202, n202⟩, -, X202, ⟨Lc202, hQ202, l202, y202, z202⟩, st202⟩ := X201.virtualBack hx (y := (⟨"java/lang/String", "charAt", "(I)C"⟩ : MethodName)) (z := (⟨"java/lang/String", "charAt", "(I)C"⟩ : MethodName)) hown186 (mvT hZ186 (own_w hw 221 rfl)) (mvT hZ186 (own_w hw 222 rfl)) (notFace_of_selects (args := #[]) (mvT hZ186 (own_w hw 224 rfl))) (mvT hZ186 (own_w hw 224 rfl)) (mvT hZ186 (own_w hw 223 rfl)) (by decide) (backOf (W := 1) (rm35 l Z a0 hw [] a186 (7 : Int32) b186 kb186 (12 : Int32) (List.map own_by [99, 97, 110, 110, 111, 116, 32, 114, 101, 97, 100, 32]) (114 : Int32) pG vF h186 n0 Zs186 Ea186 Fv186 Fc186 Vb186 (by decide) (by decide) rfl (by decide) O2 hG X00_186 O4 rF) hZ186 (own_w hw 225 rfl) (own_w hw 6 rfl) (by decide) (by decide)) q202a q202c (g := (mkF m 105 #[.val (.ref am), .val (.ref a186)] [(.int (7 : Int32)), (.ref a186), (.int (114 : Int32))])) rfl (by rw [hml]; rfl) (Steps.refl _) (argsL := [(.int (7 : Int32))]) (rest := [(.int (114 : Int32))]) (lenOf own_pd31 rfl) rfl (by show 2 * 0 + _ ≤ _; exact Nat.le_of_eq rfl) (hb hby d34_105) (fun _ _ => ⟨rfl, eq201, (by decide : 2 + 0 ≤ _), (by decide : 52 + 0 ≤ _)⟩)
  dsimp only [Pt.U, Pt.locs, Pt.cells, Pt.slots] at X202 l202 y202 z202 st202 hQ202
  replace y202 : _ = 2 := y202
  replace z202 : _ = 52 := z202
  subst y202 z202
  obtain ⟨Nq202, rfl, eq202⟩ := hQ202
  have N202 := own_frl l202 N201 Nq202
  refine own_pre (fun t k => st202.trans k) ?_
  refine own_pre (A := (T202.setTop (mkF m 114 #[.val (.ref am), .val (.ref a186)] [(.int (8 : Int32)), (.ref am)]))) ?_ ?_
  · intro t k
    refine XS.icmpNo X202.here hx rfl (hb hby d34_108) rfl (teq (by decide : (114 : Int32) = (114 : Int32))).2 ?_
    refine XS.aloadN X202.here hx rfl (hb hby d34_111) rfl rfl ?_
    refine XS.bipush X202.here hx rfl (hb hby d34_112) ?_
    exact k
  obtain ⟨cq203, kq203, q203a, q203b, q203c⟩ := isOf hZ186 eq202 Es_186
  obtain ⟨_, _, ⟨T203, L203, k203, n203⟩, -, X203, ⟨Lc203, hQ203, l203, y203, z203⟩, st203⟩ := X202.virtualBack hx (y := (⟨"java/lang/String", "charAt", "(I)C"⟩ : MethodName)) (z := (⟨"java/lang/String", "charAt", "(I)C"⟩ : MethodName)) hown186 (mvT hZ186 (own_w hw 221 rfl)) (mvT hZ186 (own_w hw 222 rfl)) (notFace_of_selects (args := #[]) (mvT hZ186 (own_w hw 224 rfl))) (mvT hZ186 (own_w hw 224 rfl)) (mvT hZ186 (own_w hw 223 rfl)) (by decide) (backOf (W := 0) (rm35 l Z a0 hw [] am (8 : Int32) ad kd pn (List.map own_by ([99, 97, 110, 110, 111, 116, 32, 114, 101, 97, 100, 32] ++ rest)) (101 : Int32) pG vF h186 n0 Zs186 Es_186 Sv_186 Sc_186 Vs_186 (by decide) (own_ltp hpn (by decide)) rfl (by decide) O2 hG X00_186 O4 rF) hZ186 (own_w hw 225 rfl) (own_w hw 6 rfl) (by decide) (by decide)) q203a q203c (g := (mkF m 114 #[.val (.ref am), .val (.ref a186)] [(.int (8 : Int32)), (.ref am)])) rfl (by rw [hml]; rfl) (Steps.refl _) (argsL := [(.int (8 : Int32))]) (rest := []) (lenOf own_pd31 rfl) rfl (by show 2 * 0 + _ ≤ _; exact Nat.le_of_eq rfl) (hb hby d34_114) (fun _ _ => ⟨rfl, eq202, (by decide : 2 + 0 ≤ _), (by decide : 52 + 0 ≤ _)⟩)
  dsimp only [Pt.U, Pt.locs, Pt.cells, Pt.slots] at X203 l203 y203 z203 st203 hQ203
  replace y203 : _ = 2 := y203
  replace z203 : _ = 52 := z203
  subst y203 z203
  obtain ⟨Nq203, rfl, eq203⟩ := hQ203
  have N203 := own_frl l203 N202 Nq203
  refine own_pre (fun t k => st203.trans k) ?_
  refine own_pre (A := (T203.setTop (mkF m 120 #[.val (.ref am), .val (.ref a186)] [(.int (8 : Int32)), (.ref a186), (.int (101 : Int32))]))) ?_ ?_
  · intro t k
    refine XS.aloadN X203.here hx rfl (hb hby d34_117) rfl rfl ?_
    refine XS.bipush X203.here hx rfl (hb hby d34_118) ?_
    exact k
  obtain ⟨cq204, kq204, q204a, q204b, q204c⟩ := isOf hZ186 eq203 Ea186
  obtain ⟨_, _, ⟨T204, L204, k204, n204⟩, -, X204, ⟨Lc204, hQ204, l204, y204, z204⟩, st204⟩ := X203.virtualBack hx (y := (⟨"java/lang/String", "charAt", "(I)C"⟩ : MethodName)) (z := (⟨"java/lang/String", "charAt", "(I)C"⟩ : MethodName)) hown186 (mvT hZ186 (own_w hw 221 rfl)) (mvT hZ186 (own_w hw 222 rfl)) (notFace_of_selects (args := #[]) (mvT hZ186 (own_w hw 224 rfl))) (mvT hZ186 (own_w hw 224 rfl)) (mvT hZ186 (own_w hw 223 rfl)) (by decide) (backOf (W := 1) (rm35 l Z a0 hw [] a186 (8 : Int32) b186 kb186 (12 : Int32) (List.map own_by [99, 97, 110, 110, 111, 116, 32, 114, 101, 97, 100, 32]) (101 : Int32) pG vF h186 n0 Zs186 Ea186 Fv186 Fc186 Vb186 (by decide) (by decide) rfl (by decide) O2 hG X00_186 O4 rF) hZ186 (own_w hw 225 rfl) (own_w hw 6 rfl) (by decide) (by decide)) q204a q204c (g := (mkF m 120 #[.val (.ref am), .val (.ref a186)] [(.int (8 : Int32)), (.ref a186), (.int (101 : Int32))])) rfl (by rw [hml]; rfl) (Steps.refl _) (argsL := [(.int (8 : Int32))]) (rest := [(.int (101 : Int32))]) (lenOf own_pd31 rfl) rfl (by show 2 * 0 + _ ≤ _; exact Nat.le_of_eq rfl) (hb hby d34_120) (fun _ _ => ⟨rfl, eq203, (by decide : 2 + 0 ≤ _), (by decide : 52 + 0 ≤ _)⟩)
  dsimp only [Pt.U, Pt.locs, Pt.cells, Pt.slots] at X204 l204 y204 z204 st204 hQ204
  replace y204 : _ = 2 := y204
  replace z204 : _ = 52 := z204
  subst y204 z204
  obtain ⟨Nq204, rfl, eq204⟩ := hQ204
  have N204 := own_frl l204 N203 Nq204
  refine own_pre (fun t k => st204.trans k) ?_
  refine own_pre (A := (T204.setTop (mkF m 129 #[.val (.ref am), .val (.ref a186)] [(.int (9 : Int32)), (.ref am)]))) ?_ ?_
  · intro t k
    refine XS.icmpNo X204.here hx rfl (hb hby d34_123) rfl (teq (by decide : (101 : Int32) = (101 : Int32))).2 ?_
    refine XS.aloadN X204.here hx rfl (hb hby d34_126) rfl rfl ?_
    refine XS.bipush X204.here hx rfl (hb hby d34_127) ?_
    exact k
  obtain ⟨cq205, kq205, q205a, q205b, q205c⟩ := isOf hZ186 eq204 Es_186
  obtain ⟨_, _, ⟨T205, L205, k205, n205⟩, -, X205, ⟨Lc205, hQ205, l205, y205, z205⟩, st205⟩ := X204.virtualBack hx (y := (⟨"java/lang/String", "charAt", "(I)C"⟩ : MethodName)) (z := (⟨"java/lang/String", "charAt", "(I)C"⟩ : MethodName)) hown186 (mvT hZ186 (own_w hw 221 rfl)) (mvT hZ186 (own_w hw 222 rfl)) (notFace_of_selects (args := #[]) (mvT hZ186 (own_w hw 224 rfl))) (mvT hZ186 (own_w hw 224 rfl)) (mvT hZ186 (own_w hw 223 rfl)) (by decide) (backOf (W := 0) (rm35 l Z a0 hw [] am (9 : Int32) ad kd pn (List.map own_by ([99, 97, 110, 110, 111, 116, 32, 114, 101, 97, 100, 32] ++ rest)) (97 : Int32) pG vF h186 n0 Zs186 Es_186 Sv_186 Sc_186 Vs_186 (by decide) (own_ltp hpn (by decide)) rfl (by decide) O2 hG X00_186 O4 rF) hZ186 (own_w hw 225 rfl) (own_w hw 6 rfl) (by decide) (by decide)) q205a q205c (g := (mkF m 129 #[.val (.ref am), .val (.ref a186)] [(.int (9 : Int32)), (.ref am)])) rfl (by rw [hml]; rfl) (Steps.refl _) (argsL := [(.int (9 : Int32))]) (rest := []) (lenOf own_pd31 rfl) rfl (by show 2 * 0 + _ ≤ _; exact Nat.le_of_eq rfl) (hb hby d34_129) (fun _ _ => ⟨rfl, eq204, (by decide : 2 + 0 ≤ _), (by decide : 52 + 0 ≤ _)⟩)
  dsimp only [Pt.U, Pt.locs, Pt.cells, Pt.slots] at X205 l205 y205 z205 st205 hQ205
  replace y205 : _ = 2 := y205
  replace z205 : _ = 52 := z205
  subst y205 z205
  obtain ⟨Nq205, rfl, eq205⟩ := hQ205
  have N205 := own_frl l205 N204 Nq205
  refine own_pre (fun t k => st205.trans k) ?_
  refine own_pre (A := (T205.setTop (mkF m 135 #[.val (.ref am), .val (.ref a186)] [(.int (9 : Int32)), (.ref a186), (.int (97 : Int32))]))) ?_ ?_
  · intro t k
    refine XS.aloadN X205.here hx rfl (hb hby d34_132) rfl rfl ?_
    refine XS.bipush X205.here hx rfl (hb hby d34_133) ?_
    exact k
  obtain ⟨cq206, kq206, q206a, q206b, q206c⟩ := isOf hZ186 eq205 Ea186
  obtain ⟨_, _, ⟨T206, L206, k206, n206⟩, -, X206, ⟨Lc206, hQ206, l206, y206, z206⟩, st206⟩ := X205.virtualBack hx (y := (⟨"java/lang/String", "charAt", "(I)C"⟩ : MethodName)) (z := (⟨"java/lang/String", "charAt", "(I)C"⟩ : MethodName)) hown186 (mvT hZ186 (own_w hw 221 rfl)) (mvT hZ186 (own_w hw 222 rfl)) (notFace_of_selects (args := #[]) (mvT hZ186 (own_w hw 224 rfl))) (mvT hZ186 (own_w hw 224 rfl)) (mvT hZ186 (own_w hw 223 rfl)) (by decide) (backOf (W := 1) (rm35 l Z a0 hw [] a186 (9 : Int32) b186 kb186 (12 : Int32) (List.map own_by [99, 97, 110, 110, 111, 116, 32, 114, 101, 97, 100, 32]) (97 : Int32) pG vF h186 n0 Zs186 Ea186 Fv186 Fc186 Vb186 (by decide) (by decide) rfl (by decide) O2 hG X00_186 O4 rF) hZ186 (own_w hw 225 rfl) (own_w hw 6 rfl) (by decide) (by decide)) q206a q206c (g := (mkF m 135 #[.val (.ref am), .val (.ref a186)] [(.int (9 : Int32)), (.ref a186), (.int (97 : Int32))])) rfl (by rw [hml]; rfl) (Steps.refl _) (argsL := [(.int (9 : Int32))]) (rest := [(.int (97 : Int32))]) (lenOf own_pd31 rfl) rfl (by show 2 * 0 + _ ≤ _; exact Nat.le_of_eq rfl) (hb hby d34_135) (fun _ _ => ⟨rfl, eq205, (by decide : 2 + 0 ≤ _), (by decide : 52 + 0 ≤ _)⟩)
  dsimp only [Pt.U, Pt.locs, Pt.cells, Pt.slots] at X206 l206 y206 z206 st206 hQ206
  replace y206 : _ = 2 := y206
  replace z206 : _ = 52 := z206
  subst y206 z206
  obtain ⟨Nq206, rfl, eq206⟩ := hQ206
  have N206 := own_frl l206 N205 Nq206
  refine own_pre (fun t k => st206.trans k) ?_
  refine own_pre (A := (T206.setTop (mkF m 144 #[.val (.ref am), .val (.ref a186)] [(.int (10 : Int32)), (.ref am)]))) ?_ ?_
  · intro t k
    refine XS.icmpNo X206.here hx rfl (hb hby d34_138) rfl (teq (by decide : (97 : Int32) = (97 : Int32))).2 ?_
    refine XS.aloadN X206.here hx rfl (hb hby d34_141) rfl rfl ?_
    refine XS.bipush X206.here hx rfl (hb hby d34_142) ?_
    exact k
  obtain ⟨cq207, kq207, q207a, q207b, q207c⟩ := isOf hZ186 eq206 Es_186
  obtain ⟨_, _, ⟨T207, L207, k207, n207⟩, -, X207, ⟨Lc207, hQ207, l207, y207, z207⟩, st207⟩ := X206.virtualBack hx (y := (⟨"java/lang/String", "charAt", "(I)C"⟩ : MethodName)) (z := (⟨"java/lang/String", "charAt", "(I)C"⟩ : MethodName)) hown186 (mvT hZ186 (own_w hw 221 rfl)) (mvT hZ186 (own_w hw 222 rfl)) (notFace_of_selects (args := #[]) (mvT hZ186 (own_w hw 224 rfl))) (mvT hZ186 (own_w hw 224 rfl)) (mvT hZ186 (own_w hw 223 rfl)) (by decide) (backOf (W := 0) (rm35 l Z a0 hw [] am (10 : Int32) ad kd pn (List.map own_by ([99, 97, 110, 110, 111, 116, 32, 114, 101, 97, 100, 32] ++ rest)) (100 : Int32) pG vF h186 n0 Zs186 Es_186 Sv_186 Sc_186 Vs_186 (by decide) (own_ltp hpn (by decide)) rfl (by decide) O2 hG X00_186 O4 rF) hZ186 (own_w hw 225 rfl) (own_w hw 6 rfl) (by decide) (by decide)) q207a q207c (g := (mkF m 144 #[.val (.ref am), .val (.ref a186)] [(.int (10 : Int32)), (.ref am)])) rfl (by rw [hml]; rfl) (Steps.refl _) (argsL := [(.int (10 : Int32))]) (rest := []) (lenOf own_pd31 rfl) rfl (by show 2 * 0 + _ ≤ _; exact Nat.le_of_eq rfl) (hb hby d34_144) (fun _ _ => ⟨rfl, eq206, (by decide : 2 + 0 ≤ _), (by decide : 52 + 0 ≤ _)⟩)
  dsimp only [Pt.U, Pt.locs, Pt.cells, Pt.slots] at X207 l207 y207 z207 st207 hQ207
  replace y207 : _ = 2 := y207
  replace z207 : _ = 52 := z207
  subst y207 z207
  obtain ⟨Nq207, rfl, eq207⟩ := hQ207
  have N207 := own_frl l207 N206 Nq207
  refine own_pre (fun t k => st207.trans k) ?_
  refine own_pre (A := (T207.setTop (mkF m 150 #[.val (.ref am), .val (.ref a186)] [(.int (10 : Int32)), (.ref a186), (.int (100 : Int32))]))) ?_ ?_
  · intro t k
    refine XS.aloadN X207.here hx rfl (hb hby d34_147) rfl rfl ?_
    refine XS.bipush X207.here hx rfl (hb hby d34_148) ?_
    exact k
  obtain ⟨cq208, kq208, q208a, q208b, q208c⟩ := isOf hZ186 eq207 Ea186
  obtain ⟨_, _, ⟨T208, L208, k208, n208⟩, -, X208, ⟨Lc208, hQ208, l208, y208, z208⟩, st208⟩ := X207.virtualBack hx (y := (⟨"java/lang/String", "charAt", "(I)C"⟩ : MethodName)) (z := (⟨"java/lang/String", "charAt", "(I)C"⟩ : MethodName)) hown186 (mvT hZ186 (own_w hw 221 rfl)) (mvT hZ186 (own_w hw 222 rfl)) (notFace_of_selects (args := #[]) (mvT hZ186 (own_w hw 224 rfl))) (mvT hZ186 (own_w hw 224 rfl)) (mvT hZ186 (own_w hw 223 rfl)) (by decide) (backOf (W := 1) (rm35 l Z a0 hw [] a186 (10 : Int32) b186 kb186 (12 : Int32) (List.map own_by [99, 97, 110, 110, 111, 116, 32, 114, 101, 97, 100, 32]) (100 : Int32) pG vF h186 n0 Zs186 Ea186 Fv186 Fc186 Vb186 (by decide) (by decide) rfl (by decide) O2 hG X00_186 O4 rF) hZ186 (own_w hw 225 rfl) (own_w hw 6 rfl) (by decide) (by decide)) q208a q208c (g := (mkF m 150 #[.val (.ref am), .val (.ref a186)] [(.int (10 : Int32)), (.ref a186), (.int (100 : Int32))])) rfl (by rw [hml]; rfl) (Steps.refl _) (argsL := [(.int (10 : Int32))]) (rest := [(.int (100 : Int32))]) (lenOf own_pd31 rfl) rfl (by show 2 * 0 + _ ≤ _; exact Nat.le_of_eq rfl) (hb hby d34_150) (fun _ _ => ⟨rfl, eq207, (by decide : 2 + 0 ≤ _), (by decide : 52 + 0 ≤ _)⟩)
  dsimp only [Pt.U, Pt.locs, Pt.cells, Pt.slots] at X208 l208 y208 z208 st208 hQ208
  replace y208 : _ = 2 := y208
  replace z208 : _ = 52 := z208
  subst y208 z208
  obtain ⟨Nq208, rfl, eq208⟩ := hQ208
  have N208 := own_frl l208 N207 Nq208
  refine own_pre (fun t k => st208.trans k) ?_
  refine own_pre (A := (T208.setTop (mkF m 159 #[.val (.ref am), .val (.ref a186)] [(.int (11 : Int32)), (.ref am)]))) ?_ ?_
  · intro t k
    refine XS.icmpNo X208.here hx rfl (hb hby d34_153) rfl (teq (by decide : (100 : Int32) = (100 : Int32))).2 ?_
    refine XS.aloadN X208.here hx rfl (hb hby d34_156) rfl rfl ?_
    refine XS.bipush X208.here hx rfl (hb hby d34_157) ?_
    exact k
  obtain ⟨cq209, kq209, q209a, q209b, q209c⟩ := isOf hZ186 eq208 Es_186
  obtain ⟨_, _, ⟨T209, L209, k209, n209⟩, -, X209, ⟨Lc209, hQ209, l209, y209, z209⟩, st209⟩ := X208.virtualBack hx (y := (⟨"java/lang/String", "charAt", "(I)C"⟩ : MethodName)) (z := (⟨"java/lang/String", "charAt", "(I)C"⟩ : MethodName)) hown186 (mvT hZ186 (own_w hw 221 rfl)) (mvT hZ186 (own_w hw 222 rfl)) (notFace_of_selects (args := #[]) (mvT hZ186 (own_w hw 224 rfl))) (mvT hZ186 (own_w hw 224 rfl)) (mvT hZ186 (own_w hw 223 rfl)) (by decide) (backOf (W := 0) (rm35 l Z a0 hw [] am (11 : Int32) ad kd pn (List.map own_by ([99, 97, 110, 110, 111, 116, 32, 114, 101, 97, 100, 32] ++ rest)) (32 : Int32) pG vF h186 n0 Zs186 Es_186 Sv_186 Sc_186 Vs_186 (by decide) (own_ltp hpn (by decide)) rfl (by decide) O2 hG X00_186 O4 rF) hZ186 (own_w hw 225 rfl) (own_w hw 6 rfl) (by decide) (by decide)) q209a q209c (g := (mkF m 159 #[.val (.ref am), .val (.ref a186)] [(.int (11 : Int32)), (.ref am)])) rfl (by rw [hml]; rfl) (Steps.refl _) (argsL := [(.int (11 : Int32))]) (rest := []) (lenOf own_pd31 rfl) rfl (by show 2 * 0 + _ ≤ _; exact Nat.le_of_eq rfl) (hb hby d34_159) (fun _ _ => ⟨rfl, eq208, (by decide : 2 + 0 ≤ _), (by decide : 52 + 0 ≤ _)⟩)
  dsimp only [Pt.U, Pt.locs, Pt.cells, Pt.slots] at X209 l209 y209 z209 st209 hQ209
  replace y209 : _ = 2 := y209
  replace z209 : _ = 52 := z209
  subst y209 z209
  obtain ⟨Nq209, rfl, eq209⟩ := hQ209
  have N209 := own_frl l209 N208 Nq209
  refine own_pre (fun t k => st209.trans k) ?_
  refine own_pre (A := (T209.setTop (mkF m 165 #[.val (.ref am), .val (.ref a186)] [(.int (11 : Int32)), (.ref a186), (.int (32 : Int32))]))) ?_ ?_
  · intro t k
    refine XS.aloadN X209.here hx rfl (hb hby d34_162) rfl rfl ?_
    refine XS.bipush X209.here hx rfl (hb hby d34_163) ?_
    exact k
  obtain ⟨cq210, kq210, q210a, q210b, q210c⟩ := isOf hZ186 eq209 Ea186
  obtain ⟨_, _, ⟨T210, L210, k210, n210⟩, -, X210, ⟨Lc210, hQ210, l210, y210, z210⟩, st210⟩ := X209.virtualBack hx (y := (⟨"java/lang/String", "charAt", "(I)C"⟩ : MethodName)) (z := (⟨"java/lang/String", "charAt", "(I)C"⟩ : MethodName)) hown186 (mvT hZ186 (own_w hw 221 rfl)) (mvT hZ186 (own_w hw 222 rfl)) (notFace_of_selects (args := #[]) (mvT hZ186 (own_w hw 224 rfl))) (mvT hZ186 (own_w hw 224 rfl)) (mvT hZ186 (own_w hw 223 rfl)) (by decide) (backOf (W := 1) (rm35 l Z a0 hw [] a186 (11 : Int32) b186 kb186 (12 : Int32) (List.map own_by [99, 97, 110, 110, 111, 116, 32, 114, 101, 97, 100, 32]) (32 : Int32) pG vF h186 n0 Zs186 Ea186 Fv186 Fc186 Vb186 (by decide) (by decide) rfl (by decide) O2 hG X00_186 O4 rF) hZ186 (own_w hw 225 rfl) (own_w hw 6 rfl) (by decide) (by decide)) q210a q210c (g := (mkF m 165 #[.val (.ref am), .val (.ref a186)] [(.int (11 : Int32)), (.ref a186), (.int (32 : Int32))])) rfl (by rw [hml]; rfl) (Steps.refl _) (argsL := [(.int (11 : Int32))]) (rest := [(.int (32 : Int32))]) (lenOf own_pd31 rfl) rfl (by show 2 * 0 + _ ≤ _; exact Nat.le_of_eq rfl) (hb hby d34_165) (fun _ _ => ⟨rfl, eq209, (by decide : 2 + 0 ≤ _), (by decide : 52 + 0 ≤ _)⟩)
  dsimp only [Pt.U, Pt.locs, Pt.cells, Pt.slots] at X210 l210 y210 z210 st210 hQ210
  replace y210 : _ = 2 := y210
  replace z210 : _ = 52 := z210
  subst y210 z210
  obtain ⟨Nq210, rfl, eq210⟩ := hQ210
  have N210 := own_frl l210 N209 Nq210
  refine own_pre (fun t k => st210.trans k) ?_
  refine own_pre (A := (T210.setTop (mkF m 176 #[.val (.ref am), .val (.ref a186)] [(.int (1 : Int32))]))) ?_ ?_
  · intro t k
    refine XS.icmpNo X210.here hx rfl (hb hby d34_168) rfl (teq (by decide : (32 : Int32) = (32 : Int32))).2 ?_
    refine XS.iconst X210.here hx rfl (hb hby d34_171) ?_
    refine XS.goto X210.here hx rfl (pc0 := 172) (pc' := 176) rfl (hb hby d34_172) (by decide) (by decide) ?_
    exact k
  obtain ⟨fs, hr, hrun, hended, hRE⟩ := X210.leaveW (hlocks := BodyLoose.notSynchronized Bd) hS186 (by rw [eq210]; exact hk186) (v := some (.int (1 : Int32))) (fun h => by rw [Bd.returns] at h; cases h)
  refine ⟨_, _, retOut X210 hx Bd.returns rfl (Or.inl ⟨rfl, Or.inr (Or.inl rfl), _, rfl⟩) (hb hby d34_176) hr, hrun, hended, _, _, rfl, ?_, ?_, hRE.1, hRE.2.1, hRE.2.2.1, hRE.2.2.2.mono (by decide) (by decide)⟩
  · show own_Q34 Z am ad kd pn rest pG vF h0 n0 _ T210.heap _
    rw [eq210]
    exact ⟨N210, rfl, Kc186⟩
  · show CHr Z own_EL s.vm s.heap T210.vm T210.heap
    rw [hh, eq210]
    exact CHr.trans R186 (CHv.at X210 hZ186 hEL R186.1)
theorem d40_0 : decode method_3_code 0 = .ok (.aload_n 2, 1) := by decide +kernel
theorem d40_1 : decode method_3_code 1 = .ok (.invokevirtual 16, 3) := by decide +kernel
theorem d40_4 : decode method_3_code 4 = .ok (.ifCond .ne 5, 3) := by decide +kernel
theorem d40_7 : decode method_3_code 7 = .ok (.iconst 1, 1) := by decide +kernel
theorem d40_8 : decode method_3_code 8 = .ok (.ireturn, 1) := by decide +kernel
theorem d40_9 : decode method_3_code 9 = .ok (.aload_n 0, 1) := by decide +kernel
theorem d40_10 : decode method_3_code 10 = .ok (.iload_n 1, 1) := by decide +kernel
theorem d40_11 : decode method_3_code 11 = .ok (.invokevirtual 20, 3) := by decide +kernel
theorem d40_14 : decode method_3_code 14 = .ok (.aload_n 2, 1) := by decide +kernel
theorem d40_15 : decode method_3_code 15 = .ok (.iconst 0, 1) := by decide +kernel
theorem d40_16 : decode method_3_code 16 = .ok (.invokevirtual 20, 3) := by decide +kernel
theorem d40_19 : decode method_3_code 19 = .ok (.if_icmp .eq 5, 3) := by decide +kernel
theorem d40_24 : decode method_3_code 24 = .ok (.aload_n 2, 1) := by decide +kernel
theorem d40_25 : decode method_3_code 25 = .ok (.invokevirtual 16, 3) := by decide +kernel
theorem d40_28 : decode method_3_code 28 = .ok (.iconst 2, 1) := by decide +kernel
theorem d40_29 : decode method_3_code 29 = .ok (.if_icmp .ge 5, 3) := by decide +kernel
theorem d40_32 : decode method_3_code 32 = .ok (.iconst 1, 1) := by decide +kernel
theorem d40_33 : decode method_3_code 33 = .ok (.ireturn, 1) := by decide +kernel
theorem d40_34 : decode method_3_code 34 = .ok (.aload_n 0, 1) := by decide +kernel
theorem d40_35 : decode method_3_code 35 = .ok (.iload_n 1, 1) := by decide +kernel
theorem d40_36 : decode method_3_code 36 = .ok (.iconst 1, 1) := by decide +kernel
theorem d40_37 : decode method_3_code 37 = .ok (.iadd, 1) := by decide +kernel
theorem d40_38 : decode method_3_code 38 = .ok (.invokevirtual 20, 3) := by decide +kernel
theorem d40_41 : decode method_3_code 41 = .ok (.aload_n 2, 1) := by decide +kernel
theorem d40_42 : decode method_3_code 42 = .ok (.iconst 1, 1) := by decide +kernel
theorem d40_43 : decode method_3_code 43 = .ok (.invokevirtual 20, 3) := by decide +kernel
theorem d40_46 : decode method_3_code 46 = .ok (.if_icmp .ne 7, 3) := by decide +kernel
theorem d40_49 : decode method_3_code 49 = .ok (.iconst 1, 1) := by decide +kernel
theorem d40_50 : decode method_3_code 50 = .ok (.goto 4, 3) := by decide +kernel
theorem d40_54 : decode method_3_code 54 = .ok (.ireturn, 1) := by decide +kernel
theorem own_pn40 : plainName "com/example/sigillum/sigillum/cli/InputFilesCannotReadPinLaw" = true := by first | (simp [plainName, overriddenIn]; done) | decide +kernel
theorem own_ef40 (m : MethodId) (x0 : Addr) (x1 : Int32) (x2 : Addr) : entryFrame m #[(.ref x0), (.int x1), (.ref x2)] 3 = mkF m 0 #[.val (.ref x0), .val (.int x1), .val (.ref x2)] [] := by first | (simp [entryFrame, mkF, argsToLocals, Value.category]; done) | rfl
def own_Q40 (Z : State) (am : Addr) (pi : Int32) (as : Addr) (ad : Addr) (kd : ClassId) (pn : Int32) (vs : List Value) (sd : Addr) (sk : ClassId) (pl : Int32) (px : Int32) (py : Int32) (pG : Int32) (vF : Value) (h0 : Heap) (n0 : Nat) (v : Option Value) (h : Heap) (L : List Loc) : Prop := Fr n0 L ∧ v = some (.int (1 : Int32)) ∧ h = h0
set_option maxRecDepth 65536 in
set_option maxHeartbeats 40000000 in
theorem rm40 (l : Launch) (Z : State) (a0 : Array Value) (hw : ∀ d ∈ tables_1, d.before a0 Z = true) (ws : List Jvm.Cond) (am : Addr) (pi : Int32) (as : Addr) (ad : Addr) (kd : ClassId) (pn : Int32) (vs : List Value) (sd : Addr) (sk : ClassId) (pl : Int32) (px : Int32) (py : Int32) (pG : Int32) (vF : Value) (h0 : Heap) (n0 : Nat) (Z0 : n0 ≤ h0.size) (Es : Exa Z h0 am "java/lang/String") (Sv : Fld Z h0 am "java/lang/String" "value" "[B" (.ref ad)) (Sc : Fld Z h0 am "java/lang/String" "coder" "B" (.int (0 : Int32))) (Vs : Arv Z h0 ad kd .byte pn vs (.int (0 : Int32))) (Es2 : Exa Z h0 as "java/lang/String") (Sv2 : Fld Z h0 as "java/lang/String" "value" "[B" (.ref sd)) (Sc2 : Fld Z h0 as "java/lang/String" "coder" "B" (.int (0 : Int32))) (Vs2 : Arv Z h0 sd sk .byte pl (List.map own_by (own_s pl px py)) (.int (0 : Int32))) (hpl : pl = 0 ∨ pl = 1 ∨ pl = 2) (hp_px : 0 ≤ px.toInt ∧ px.toInt < 256) (hp_py : 0 ≤ py.toInt ∧ py.toInt < 256) (g0 : ¬ pl = 0 → (¬ pi < 0 ∧ pi < pn) ∧ vs.getD (pi).toNatClampNeg (.int (0 : Int32)) = own_by px) (g1 : ¬ pl < 2 → (¬ (pi + (1 : Int32)) < 0 ∧ (pi + (1 : Int32)) < pn) ∧ vs.getD ((pi + (1 : Int32))).toNatClampNeg (.int (0 : Int32)) = own_by py) (O2 : Sta Z Z.heap "java/lang/String" "COMPACT_STRINGS" "Z" (.int pG)) (hG : ¬ pG = (0 : Int32)) (X00 : Old Z n0 h0) (O4 : Sta Z Z.heap "jdk/internal/util/Preconditions" "SIOOBE_FORMATTER" "Ljava/util/function/BiFunction;" vF) (rF : vF.isRef = true) :
    MetFree l (⟨"com/example/sigillum/sigillum/cli/InputFilesCannotReadPinLaw", "at", "(Ljava/lang/String;ILjava/lang/String;)Z"⟩ : MethodName) (head1 (Jvm.Cond.code (⟨"com/example/sigillum/sigillum/cli/InputFilesCannotReadPinLaw", "at", "(Ljava/lang/String;ILjava/lang/String;)Z"⟩ : MethodName) method_3_code 3 (some .boolean) :: ws) ({ frames := 4, cells := 0, slots := 0, locals := 54 } : Room)) (fun a U => a = #[(.ref am), (.int pi), (.ref as)] ∧ Z.Warmed39 U.vm ∧ U.heap = h0) (fun _ _ _ _ _ => True) (fun _ U o U' => ∃ v L, o = .returned v ∧ own_Q40 Z am pi as ad kd pn vs sd sk pl px py pG vF h0 n0 v U'.heap L ∧ FrameEnd U o U' L ({ frames := 4, cells := 0, slots := 0, locals := 54 } : Room).cells ({ frames := 4, cells := 0, slots := 0, locals := 54 } : Room).slots) := by
  refine MetFree.of_bodySF (plainFor_of_name own_pn40) hisR ?_
  intro p e s m args below meth c s₁ Bd hml0 hP hK
  obtain ⟨rfl, hZ, hh⟩ := hP
  have hx := Bd.exec
  have hby := Bd.bytes
  have hml : c.maxLocals = 3 := hml0
  have hown : s.vm.findClass "com/example/sigillum/sigillum/cli/InputFilesCannotReadPinLaw" = some m.cls := findClass_of_methodNamed Bd.named
  have hnm := (name_of_methodNamed Bd.named Bd.method).1
  have X0 : Stand p l e ({ frames := 4, cells := 0, slots := 0, locals := 54 } : Room) s m #[(.ref am), (.int pi), (.ref as)] below meth c s₁ [] 0 0 := Stand.of_body Bd
  have e0 : s₁.heap = h0 := by rw [← hh, Bd.state]; rfl
  have N0 := Fr.nil n0
  refine own_pre (A := (s₁.setTop (mkF m 0 #[.val (.ref am), .val (.int pi), .val (.ref as)] []))) (fun t k => castTop (own_ef40 m am pi as) k) ?_
  refine own_pre (A := (s₁.setTop (mkF m 1 #[.val (.ref am), .val (.int pi), .val (.ref as)] [(.ref as)]))) ?_ ?_
  · intro t k
    refine XS.aloadN X0.here hx rfl (hb hby d40_0) rfl rfl ?_
    exact k
  obtain ⟨cq211, kq211, q211a, q211b, q211c⟩ := isOf hZ e0 Es2
  obtain ⟨_, _, ⟨T211, L211, k211, n211⟩, -, X211, ⟨Lc211, hQ211, l211, y211, z211⟩, st211⟩ := X0.virtualBack hx (y := (⟨"java/lang/String", "length", "()I"⟩ : MethodName)) (z := (⟨"java/lang/String", "length", "()I"⟩ : MethodName)) hown (mvT hZ (own_w hw 216 rfl)) (mvT hZ (own_w hw 78 rfl)) (notFace_of_selects (args := #[]) (mvT hZ (own_w hw 80 rfl))) (mvT hZ (own_w hw 80 rfl)) (mvT hZ (own_w hw 79 rfl)) (by decide) (backOf (W := 0) (rm14 l Z a0 hw [] as sd sk pl (List.map own_by (own_s pl px py)) pG h0 n0 Z0 Es2 Sv2 Sc2 Vs2 O2 hG X00) hZ (own_w hw 81 rfl) (own_w hw 6 rfl) (by decide) (by decide)) q211a q211c (g := (mkF m 1 #[.val (.ref am), .val (.int pi), .val (.ref as)] [(.ref as)])) rfl (by rw [hml]; rfl) (Steps.refl _) (argsL := []) (rest := []) (lenOf own_pd21 rfl) rfl (by show 2 * 0 + _ ≤ _; exact Nat.le_of_eq rfl) (hb hby d40_1) (fun _ _ => ⟨rfl, e0, (by decide : 0 + 0 ≤ _), (by decide : 0 + 0 ≤ _)⟩)
  dsimp only [Pt.U, Pt.locs, Pt.cells, Pt.slots] at X211 l211 y211 z211 st211 hQ211
  replace y211 : _ = 0 := y211
  replace z211 : _ = 0 := z211
  subst y211 z211
  obtain ⟨Nq211, rfl, eq211⟩ := hQ211
  have N211 := own_frl l211 N0 Nq211
  refine own_pre (fun t k => st211.trans k) ?_
  by_cases hc212 : pl = (0 : Int32)
  · skip
    refine own_pre (A := (T211.setTop (mkF m 7 #[.val (.ref am), .val (.int pi), .val (.ref as)] []))) ?_ ?_
    · intro t k
      refine XS.ifNo X211.here hx rfl (hb hby d40_4) rfl ((if0 _ _).trans (teq hc212).2) ?_
      exact k
    refine own_pre (A := (T211.setTop (mkF m 8 #[.val (.ref am), .val (.int pi), .val (.ref as)] [(.int (1 : Int32))]))) ?_ ?_
    · intro t k
      refine XS.iconst X211.here hx rfl (hb hby d40_7) ?_
      exact k
    obtain ⟨fs, hr, hrun, hended, hW, hsame⟩ := X211.leave (hlocks := BodyLoose.notSynchronized Bd) (v := some (.int (1 : Int32))) (fun h => by rw [Bd.returns] at h; cases h)
    refine ⟨_, _, retOut X211 hx Bd.returns rfl (Or.inl ⟨rfl, Or.inr (Or.inl rfl), _, rfl⟩) (hb hby d40_8) hr, hrun, hended, _, _, rfl, ?_, ⟨_, rfl⟩, hW, hsame.mono (by decide) (by decide)⟩
    show own_Q40 Z am pi as ad kd pn vs sd sk pl px py pG vF h0 n0 _ T211.heap _
    rw [eq211]
    exact ⟨N211, rfl, rfl⟩
  · skip
    refine own_pre (A := (T211.setTop (mkF m 9 #[.val (.ref am), .val (.int pi), .val (.ref as)] []))) ?_ ?_
    · intro t k
      refine XS.ifYes X211.here hx rfl (pc0 := 4) (pc' := 9) rfl (hb hby d40_4) rfl ((if0 _ _).trans (feq hc212).2) (by decide) (by decide) ?_
      exact k
    refine own_pre (A := (T211.setTop (mkF m 11 #[.val (.ref am), .val (.int pi), .val (.ref as)] [(.int pi), (.ref am)]))) ?_ ?_
    · intro t k
      refine XS.aloadN X211.here hx rfl (hb hby d40_9) rfl rfl ?_
      refine XS.iloadN X211.here hx rfl (hb hby d40_10) rfl ?_
      exact k
    obtain ⟨cq213, kq213, q213a, q213b, q213c⟩ := isOf hZ eq211 Es
    obtain ⟨_, _, ⟨T213, L213, k213, n213⟩, -, X213, ⟨Lc213, hQ213, l213, y213, z213⟩, st213⟩ := X211.virtualBack hx (y := (⟨"java/lang/String", "charAt", "(I)C"⟩ : MethodName)) (z := (⟨"java/lang/String", "charAt", "(I)C"⟩ : MethodName)) hown (mvT hZ (own_w hw 221 rfl)) (mvT hZ (own_w hw 222 rfl)) (notFace_of_selects (args := #[]) (mvT hZ (own_w hw 224 rfl))) (mvT hZ (own_w hw 224 rfl)) (mvT hZ (own_w hw 223 rfl)) (by decide) (backOf (W := 0) (rm35 l Z a0 hw [] am pi ad kd pn vs px pG vF h0 n0 Z0 Es Sv Sc Vs (g0 hc212).1.1 (g0 hc212).1.2 (g0 hc212).2 hp_px O2 hG X00 O4 rF) hZ (own_w hw 225 rfl) (own_w hw 6 rfl) (by decide) (by decide)) q213a q213c (g := (mkF m 11 #[.val (.ref am), .val (.int pi), .val (.ref as)] [(.int pi), (.ref am)])) rfl (by rw [hml]; rfl) (Steps.refl _) (argsL := [(.int pi)]) (rest := []) (lenOf own_pd31 rfl) rfl (by show 2 * 0 + _ ≤ _; exact Nat.le_of_eq rfl) (hb hby d40_11) (fun _ _ => ⟨rfl, eq211, (by decide : 0 + 0 ≤ _), (by decide : 0 + 0 ≤ _)⟩)
    dsimp only [Pt.U, Pt.locs, Pt.cells, Pt.slots] at X213 l213 y213 z213 st213 hQ213
    replace y213 : _ = 0 := y213
    replace z213 : _ = 0 := z213
    subst y213 z213
    obtain ⟨Nq213, rfl, eq213⟩ := hQ213
    have N213 := own_frl l213 N211 Nq213
    refine own_pre (fun t k => st213.trans k) ?_
    refine own_pre (A := (T213.setTop (mkF m 16 #[.val (.ref am), .val (.int pi), .val (.ref as)] [(.int (0 : Int32)), (.ref as), (.int px)]))) ?_ ?_
    · intro t k
      refine XS.aloadN X213.here hx rfl (hb hby d40_14) rfl rfl ?_
      refine XS.iconst X213.here hx rfl (hb hby d40_15) ?_
      exact k
    obtain ⟨cq214, kq214, q214a, q214b, q214c⟩ := isOf hZ eq213 Es2
    obtain ⟨_, _, ⟨T214, L214, k214, n214⟩, -, X214, ⟨Lc214, hQ214, l214, y214, z214⟩, st214⟩ := X213.virtualBack hx (y := (⟨"java/lang/String", "charAt", "(I)C"⟩ : MethodName)) (z := (⟨"java/lang/String", "charAt", "(I)C"⟩ : MethodName)) hown (mvT hZ (own_w hw 221 rfl)) (mvT hZ (own_w hw 222 rfl)) (notFace_of_selects (args := #[]) (mvT hZ (own_w hw 224 rfl))) (mvT hZ (own_w hw 224 rfl)) (mvT hZ (own_w hw 223 rfl)) (by decide) (backOf (W := 1) (rm35 l Z a0 hw [] as (0 : Int32) sd sk pl (List.map own_by (own_s pl px py)) px pG vF h0 n0 Z0 Es2 Sv2 Sc2 Vs2 (by decide) (own_s0 (x := px) (y := py) (d := (.int (0 : Int32))) hpl hc212).1 (own_s0 (x := px) (y := py) (d := (.int (0 : Int32))) hpl hc212).2 hp_px O2 hG X00 O4 rF) hZ (own_w hw 225 rfl) (own_w hw 6 rfl) (by decide) (by decide)) q214a q214c (g := (mkF m 16 #[.val (.ref am), .val (.int pi), .val (.ref as)] [(.int (0 : Int32)), (.ref as), (.int px)])) rfl (by rw [hml]; rfl) (Steps.refl _) (argsL := [(.int (0 : Int32))]) (rest := [(.int px)]) (lenOf own_pd31 rfl) rfl (by show 2 * 0 + _ ≤ _; exact Nat.le_of_eq rfl) (hb hby d40_16) (fun _ _ => ⟨rfl, eq213, (by decide : 0 + 0 ≤ _), (by decide : 0 + 0 ≤ _)⟩)
    dsimp only [Pt.U, Pt.locs, Pt.cells, Pt.slots] at X214 l214 y214 z214 st214 hQ214
    replace y214 : _ = 0 := y214
    replace z214 : _ = 0 := z214
    subst y214 z214
    obtain ⟨Nq214, rfl, eq214⟩ := hQ214
    have N214 := own_frl l214 N213 Nq214
    refine own_pre (fun t k => st214.trans k) ?_
    refine own_pre (A := (T214.setTop (mkF m 25 #[.val (.ref am), .val (.int pi), .val (.ref as)] [(.ref as)]))) ?_ ?_
    · intro t k
      refine XS.icmpYes X214.here hx rfl (pc0 := 19) (pc' := 24) rfl (hb hby d40_19) rfl (teq (rfl : px = px)).1 (by decide) (by decide) ?_
      refine XS.aloadN X214.here hx rfl (hb hby d40_24) rfl rfl ?_
      exact k
    obtain ⟨cq215, kq215, q215a, q215b, q215c⟩ := isOf hZ eq214 Es2
    obtain ⟨_, _, ⟨T215, L215, k215, n215⟩, -, X215, ⟨Lc215, hQ215, l215, y215, z215⟩, st215⟩ := X214.virtualBack hx (y := (⟨"java/lang/String", "length", "()I"⟩ : MethodName)) (z := (⟨"java/lang/String", "length", "()I"⟩ : MethodName)) hown (mvT hZ (own_w hw 216 rfl)) (mvT hZ (own_w hw 78 rfl)) (notFace_of_selects (args := #[]) (mvT hZ (own_w hw 80 rfl))) (mvT hZ (own_w hw 80 rfl)) (mvT hZ (own_w hw 79 rfl)) (by decide) (backOf (W := 0) (rm14 l Z a0 hw [] as sd sk pl (List.map own_by (own_s pl px py)) pG h0 n0 Z0 Es2 Sv2 Sc2 Vs2 O2 hG X00) hZ (own_w hw 81 rfl) (own_w hw 6 rfl) (by decide) (by decide)) q215a q215c (g := (mkF m 25 #[.val (.ref am), .val (.int pi), .val (.ref as)] [(.ref as)])) rfl (by rw [hml]; rfl) (Steps.refl _) (argsL := []) (rest := []) (lenOf own_pd21 rfl) rfl (by show 2 * 0 + _ ≤ _; exact Nat.le_of_eq rfl) (hb hby d40_25) (fun _ _ => ⟨rfl, eq214, (by decide : 0 + 0 ≤ _), (by decide : 0 + 0 ≤ _)⟩)
    dsimp only [Pt.U, Pt.locs, Pt.cells, Pt.slots] at X215 l215 y215 z215 st215 hQ215
    replace y215 : _ = 0 := y215
    replace z215 : _ = 0 := z215
    subst y215 z215
    obtain ⟨Nq215, rfl, eq215⟩ := hQ215
    have N215 := own_frl l215 N214 Nq215
    refine own_pre (fun t k => st215.trans k) ?_
    refine own_pre (A := (T215.setTop (mkF m 29 #[.val (.ref am), .val (.int pi), .val (.ref as)] [(.int (2 : Int32)), (.int pl)]))) ?_ ?_
    · intro t k
      refine XS.iconst X215.here hx rfl (hb hby d40_28) ?_
      exact k
    by_cases hc216 : pl < (2 : Int32)
    · skip
      refine own_pre (A := (T215.setTop (mkF m 32 #[.val (.ref am), .val (.int pi), .val (.ref as)] []))) ?_ ?_
      · intro t k
        refine XS.icmpNo X215.here hx rfl (hb hby d40_29) rfl (tlt hc216).2.1 ?_
        exact k
      refine own_pre (A := (T215.setTop (mkF m 33 #[.val (.ref am), .val (.int pi), .val (.ref as)] [(.int (1 : Int32))]))) ?_ ?_
      · intro t k
        refine XS.iconst X215.here hx rfl (hb hby d40_32) ?_
        exact k
      obtain ⟨fs, hr, hrun, hended, hW, hsame⟩ := X215.leave (hlocks := BodyLoose.notSynchronized Bd) (v := some (.int (1 : Int32))) (fun h => by rw [Bd.returns] at h; cases h)
      refine ⟨_, _, retOut X215 hx Bd.returns rfl (Or.inl ⟨rfl, Or.inr (Or.inl rfl), _, rfl⟩) (hb hby d40_33) hr, hrun, hended, _, _, rfl, ?_, ⟨_, rfl⟩, hW, hsame.mono (by decide) (by decide)⟩
      show own_Q40 Z am pi as ad kd pn vs sd sk pl px py pG vF h0 n0 _ T215.heap _
      rw [eq215]
      exact ⟨N215, rfl, rfl⟩
    · skip
      refine own_pre (A := (T215.setTop (mkF m 34 #[.val (.ref am), .val (.int pi), .val (.ref as)] []))) ?_ ?_
      · intro t k
        refine XS.icmpYes X215.here hx rfl (pc0 := 29) (pc' := 34) rfl (hb hby d40_29) rfl (flt hc216).2.1 (by decide) (by decide) ?_
        exact k
      refine own_pre (A := (T215.setTop (mkF m 38 #[.val (.ref am), .val (.int pi), .val (.ref as)] [(.int (pi + (1 : Int32))), (.ref am)]))) ?_ ?_
      · intro t k
        refine XS.aloadN X215.here hx rfl (hb hby d40_34) rfl rfl ?_
        refine XS.iloadN X215.here hx rfl (hb hby d40_35) rfl ?_
        refine XS.iconst X215.here hx rfl (hb hby d40_36) ?_
        refine XS.iadd X215.here hx rfl (hb hby d40_37) rfl ?_
        exact k
      obtain ⟨cq217, kq217, q217a, q217b, q217c⟩ := isOf hZ eq215 Es
      obtain ⟨_, _, ⟨T217, L217, k217, n217⟩, -, X217, ⟨Lc217, hQ217, l217, y217, z217⟩, st217⟩ := X215.virtualBack hx (y := (⟨"java/lang/String", "charAt", "(I)C"⟩ : MethodName)) (z := (⟨"java/lang/String", "charAt", "(I)C"⟩ : MethodName)) hown (mvT hZ (own_w hw 221 rfl)) (mvT hZ (own_w hw 222 rfl)) (notFace_of_selects (args := #[]) (mvT hZ (own_w hw 224 rfl))) (mvT hZ (own_w hw 224 rfl)) (mvT hZ (own_w hw 223 rfl)) (by decide) (backOf (W := 0) (rm35 l Z a0 hw [] am (pi + (1 : Int32)) ad kd pn vs py pG vF h0 n0 Z0 Es Sv Sc Vs (g1 hc216).1.1 (g1 hc216).1.2 (g1 hc216).2 hp_py O2 hG X00 O4 rF) hZ (own_w hw 225 rfl) (own_w hw 6 rfl) (by decide) (by decide)) q217a q217c (g := (mkF m 38 #[.val (.ref am), .val (.int pi), .val (.ref as)] [(.int (pi + (1 : Int32))), (.ref am)])) rfl (by rw [hml]; rfl) (Steps.refl _) (argsL := [(.int (pi + (1 : Int32)))]) (rest := []) (lenOf own_pd31 rfl) rfl (by show 2 * 0 + _ ≤ _; exact Nat.le_of_eq rfl) (hb hby d40_38) (fun _ _ => ⟨rfl, eq215, (by decide : 0 + 0 ≤ _), (by decide : 0 + 0 ≤ _)⟩)
      dsimp only [Pt.U, Pt.locs, Pt.cells, Pt.slots] at X217 l217 y217 z217 st217 hQ217
      replace y217 : _ = 0 := y217
      replace z217 : _ = 0 := z217
      subst y217 z217
      obtain ⟨Nq217, rfl, eq217⟩ := hQ217
      have N217 := own_frl l217 N215 Nq217
      refine own_pre (fun t k => st217.trans k) ?_
      refine own_pre (A := (T217.setTop (mkF m 43 #[.val (.ref am), .val (.int pi), .val (.ref as)] [(.int (1 : Int32)), (.ref as), (.int py)]))) ?_ ?_
      · intro t k
        refine XS.aloadN X217.here hx rfl (hb hby d40_41) rfl rfl ?_
        refine XS.iconst X217.here hx rfl (hb hby d40_42) ?_
        exact k
      obtain ⟨cq218, kq218, q218a, q218b, q218c⟩ := isOf hZ eq217 Es2
      obtain ⟨_, _, ⟨T218, L218, k218, n218⟩, -, X218, ⟨Lc218, hQ218, l218, y218, z218⟩, st218⟩ := X217.virtualBack hx (y := (⟨"java/lang/String", "charAt", "(I)C"⟩ : MethodName)) (z := (⟨"java/lang/String", "charAt", "(I)C"⟩ : MethodName)) hown (mvT hZ (own_w hw 221 rfl)) (mvT hZ (own_w hw 222 rfl)) (notFace_of_selects (args := #[]) (mvT hZ (own_w hw 224 rfl))) (mvT hZ (own_w hw 224 rfl)) (mvT hZ (own_w hw 223 rfl)) (by decide) (backOf (W := 1) (rm35 l Z a0 hw [] as (1 : Int32) sd sk pl (List.map own_by (own_s pl px py)) py pG vF h0 n0 Z0 Es2 Sv2 Sc2 Vs2 (by decide) (own_s1 (x := px) (y := py) (d := (.int (0 : Int32))) hpl hc216).1 (own_s1 (x := px) (y := py) (d := (.int (0 : Int32))) hpl hc216).2 hp_py O2 hG X00 O4 rF) hZ (own_w hw 225 rfl) (own_w hw 6 rfl) (by decide) (by decide)) q218a q218c (g := (mkF m 43 #[.val (.ref am), .val (.int pi), .val (.ref as)] [(.int (1 : Int32)), (.ref as), (.int py)])) rfl (by rw [hml]; rfl) (Steps.refl _) (argsL := [(.int (1 : Int32))]) (rest := [(.int py)]) (lenOf own_pd31 rfl) rfl (by show 2 * 0 + _ ≤ _; exact Nat.le_of_eq rfl) (hb hby d40_43) (fun _ _ => ⟨rfl, eq217, (by decide : 0 + 0 ≤ _), (by decide : 0 + 0 ≤ _)⟩)
      dsimp only [Pt.U, Pt.locs, Pt.cells, Pt.slots] at X218 l218 y218 z218 st218 hQ218
      replace y218 : _ = 0 := y218
      replace z218 : _ = 0 := z218
      subst y218 z218
      obtain ⟨Nq218, rfl, eq218⟩ := hQ218
      have N218 := own_frl l218 N217 Nq218
      refine own_pre (fun t k => st218.trans k) ?_
      refine own_pre (A := (T218.setTop (mkF m 54 #[.val (.ref am), .val (.int pi), .val (.ref as)] [(.int (1 : Int32))]))) ?_ ?_
      · intro t k
        refine XS.icmpNo X218.here hx rfl (hb hby d40_46) rfl (teq (rfl : py = py)).2 ?_
        refine XS.iconst X218.here hx rfl (hb hby d40_49) ?_
        refine XS.goto X218.here hx rfl (pc0 := 50) (pc' := 54) rfl (hb hby d40_50) (by decide) (by decide) ?_
        exact k
      obtain ⟨fs, hr, hrun, hended, hW, hsame⟩ := X218.leave (hlocks := BodyLoose.notSynchronized Bd) (v := some (.int (1 : Int32))) (fun h => by rw [Bd.returns] at h; cases h)
      refine ⟨_, _, retOut X218 hx Bd.returns rfl (Or.inl ⟨rfl, Or.inr (Or.inl rfl), _, rfl⟩) (hb hby d40_54) hr, hrun, hended, _, _, rfl, ?_, ⟨_, rfl⟩, hW, hsame.mono (by decide) (by decide)⟩
      show own_Q40 Z am pi as ad kd pn vs sd sk pl px py pG vF h0 n0 _ T218.heap _
      rw [eq218]
      exact ⟨N218, rfl, rfl⟩
theorem own_pn0 : plainName "com/example/sigillum/sigillum/cli/InputFilesCannotReadPinLaw" = true := by first | (simp [plainName, overriddenIn]; done) | decide +kernel
theorem own_ef0 (m : MethodId) (x0 : Int32) (x1 : Int32) (x2 : Int32) (x3 : Int32) : entryFrame m #[(.int x0), (.int x1), (.int x2), (.int x3)] maxLocals = mkF m 0 #[.val (.int x0), .val (.int x1), .val (.int x2), .val (.int x3), .unset, .unset, .unset, .unset, .unset, .unset, .unset, .unset] [] := by first | (simp [entryFrame, mkF, argsToLocals, Value.category, maxLocals]; done) | rfl
abbrev own_l6 (x0 : Int32) (x1 : Int32) (x2 : Int32) (x3 : Int32) : Array Slot := #[.val (.int x0), .val (.int x1), .val (.int x2), .val (.int x3), .val (.int ((x3 &&& (3 : Int32)) % (3 : Int32))), .unset, .unset, .unset, .unset, .unset, .unset, .unset]
abbrev own_l7 (x0 : Int32) (x1 : Int32) (x2 : Int32) (x3 : Int32) : Array Slot := #[.val (.int x0), .val (.int x1), .val (.int x2), .val (.int x3), .val (.int ((x3 &&& (3 : Int32)) % (3 : Int32))), .val (.int ((((x3.toUInt32 >>> ((2 : Int32) &&& 31).toUInt32).toInt32) &&& (3 : Int32)) % (3 : Int32))), .unset, .unset, .unset, .unset, .unset, .unset]
abbrev own_l8 (x0 : Int32) (x1 : Int32) (x2 : Int32) (x3 : Int32) : Array Slot := #[.val (.int x0), .val (.int x1), .val (.int x2), .val (.int x3), .val (.int ((x3 &&& (3 : Int32)) % (3 : Int32))), .val (.int ((((x3.toUInt32 >>> ((2 : Int32) &&& 31).toUInt32).toInt32) &&& (3 : Int32)) % (3 : Int32))), .val (.int ((((x3.toUInt32 >>> ((4 : Int32) &&& 31).toUInt32).toInt32) &&& (3 : Int32)) % (3 : Int32))), .unset, .unset, .unset, .unset, .unset]
abbrev own_l9 (x0 : Int32) (x1 : Int32) (x2 : Int32) (x3 : Int32) (x4 : Int32) : Array Slot := #[.val (.int x0), .val (.int x1), .val (.int x2), .val (.int x3), .val (.int x4), .val (.int ((((x3.toUInt32 >>> ((2 : Int32) &&& 31).toUInt32).toInt32) &&& (3 : Int32)) % (3 : Int32))), .val (.int ((((x3.toUInt32 >>> ((4 : Int32) &&& 31).toUInt32).toInt32) &&& (3 : Int32)) % (3 : Int32))), .unset, .unset, .unset, .unset, .unset]
abbrev own_l10 (x0 : Int32) (x1 : Int32) (x2 : Int32) (x3 : Int32) (x4 : Int32) (x5 : Int32) : Array Slot := #[.val (.int x0), .val (.int x1), .val (.int x2), .val (.int x3), .val (.int x4), .val (.int x5), .val (.int ((((x3.toUInt32 >>> ((4 : Int32) &&& 31).toUInt32).toInt32) &&& (3 : Int32)) % (3 : Int32))), .unset, .unset, .unset, .unset, .unset]
abbrev own_l11 (x0 : Int32) (x1 : Int32) (x2 : Int32) (x3 : Int32) (x4 : Int32) (x5 : Int32) (x6 : Int32) (x7 : Addr) : Array Slot := #[.val (.int x0), .val (.int x1), .val (.int x2), .val (.int x3), .val (.int x4), .val (.int x5), .val (.int x6), .val (.ref x7), .unset, .unset, .unset, .unset]
abbrev own_l12 (x0 : Int32) (x1 : Int32) (x2 : Int32) (x3 : Int32) (x4 : Int32) (x5 : Int32) (x6 : Int32) (x7 : Addr) (x8 : Addr) : Array Slot := #[.val (.int x0), .val (.int x1), .val (.int x2), .val (.int x3), .val (.int x4), .val (.int x5), .val (.int x6), .val (.ref x7), .val (.ref x8), .unset, .unset, .unset]
abbrev own_l13 (x0 : Int32) (x1 : Int32) (x2 : Int32) (x3 : Int32) (x4 : Int32) (x5 : Int32) (x6 : Int32) (x7 : Addr) (x8 : Addr) (x9 : Addr) : Array Slot := #[.val (.int x0), .val (.int x1), .val (.int x2), .val (.int x3), .val (.int x4), .val (.int x5), .val (.int x6), .val (.ref x7), .val (.ref x8), .val (.ref x9), .unset, .unset]
abbrev own_l14 (x0 : Int32) (x1 : Int32) (x2 : Int32) (x3 : Int32) (x4 : Int32) (x5 : Int32) (x6 : Int32) (x7 : Addr) (x8 : Addr) (x9 : Addr) (x10 : Addr) : Array Slot := #[.val (.int x0), .val (.int x1), .val (.int x2), .val (.int x3), .val (.int x4), .val (.int x5), .val (.int x6), .val (.ref x7), .val (.ref x8), .val (.ref x9), .val (.ref x10), .unset]
abbrev own_l15 (x0 : Int32) (x1 : Int32) (x2 : Int32) (x3 : Int32) (x4 : Int32) (x5 : Int32) (x6 : Int32) (x7 : Addr) (x8 : Addr) (x9 : Addr) (x10 : Addr) (x11 : Addr) : Array Slot := #[.val (.int x0), .val (.int x1), .val (.int x2), .val (.int x3), .val (.int x4), .val (.int x5), .val (.int x6), .val (.ref x7), .val (.ref x8), .val (.ref x9), .val (.ref x10), .val (.ref x11)]
def own_Q0 (h0 : Heap) (n0 : Nat) (v : Option Value) (h : Heap) (L : List Loc) : Prop := v = some (.int (1 : Int32)) ∧ Fr n0 L
set_option maxRecDepth 65536 in
set_option maxHeartbeats 40000000 in
theorem rm0 (l : Launch) (Z : State) (a0 : Array Value) (hw : ∀ d ∈ tables_1, d.before a0 Z = true) (ws : List Jvm.Cond) (p0 : Int32) (p1 : Int32) (p2 : Int32) (p3 : Int32) (pG : Int32) (vF : Value) (vU : Value) (vS : Value) (h0 : Heap) (n0 : Nat) (Z0 : n0 ≤ h0.size) (hEL : EW Z a0 own_EL) (O2 : Sta Z Z.heap "java/lang/String" "COMPACT_STRINGS" "Z" (.int pG)) (hG : ¬ pG = (0 : Int32)) (X00 : Old Z n0 h0) (O4 : Sta Z Z.heap "jdk/internal/util/Preconditions" "SIOOBE_FORMATTER" "Ljava/util/function/BiFunction;" vF) (rF : vF.isRef = true) (O5 : Sta Z Z.heap "java/lang/Throwable" "UNASSIGNED_STACK" "[Ljava/lang/StackTraceElement;" vU) (rU : vU.isRef = true) (O6 : Sta Z Z.heap "java/lang/Throwable" "SUPPRESSED_SENTINEL" "Ljava/util/List;" vS) (rS : vS.isRef = true) (hlt : l.stackTraces = true) (T00 : ThS Z h0) :
    MetFree l x (head1 (Jvm.Cond.code x code maxLocals ret :: ws) room_1) (fun a U => a = #[(.int p0), (.int p1), (.int p2), (.int p3)] ∧ Z.Warmed39 U.vm ∧ U.heap = h0 ∧ CHv Z own_EL U.vm h0) (fun _ _ bl s _ => s.vm.MethodsKnown ∧ s.vm.FramesKnown bl) (fun _ U o U' => ∃ v L, o = .returned v ∧ own_Q0  h0 n0 v U'.heap L ∧ CHr Z own_EL U.vm U.heap U'.vm U'.heap ∧ ReturnedEndW U o U' L room_1.cells room_1.slots) := by
  refine MetFree.of_bodySF (plainFor_of_name own_pn0) hisR ?_
  intro p e s m args below meth c s₁ Bd hml0 hP hK
  obtain ⟨rfl, hZ, hh, CH0⟩ := hP
  have hx := Bd.exec
  have hby := Bd.bytes
  have hml : c.maxLocals = 12 := hml0
  have hown : s.vm.findClass "com/example/sigillum/sigillum/cli/InputFilesCannotReadPinLaw" = some m.cls := findClass_of_methodNamed Bd.named
  have hnm := (name_of_methodNamed Bd.named Bd.method).1
  have own_wS' : ∀ d ∈ Bundle.stringAtoms, d.before a0 Z = true := fun d hd => hw d (own_wS d hd)
  have X0 : Stand p l e room_1 (s.setVm s.vm) m #[(.int p0), (.int p1), (.int p2), (.int p3)] below meth c s₁ [] 0 0 := Stand.of_body Bd
  have e0 : s₁.heap = h0 := by rw [← hh, Bd.state]; rfl
  have N0 := Fr.nil n0
  have hS0 : s.Since s.vm 0 := (State.WarmedH.refl s).since 0
  have hk0 : 0 ≤ h0.size := Nat.zero_le _
  have R0 := CHr.refl CH0
  refine own_pre (A := (s₁.setTop (mkF m 0 #[.val (.int p0), .val (.int p1), .val (.int p2), .val (.int p3), .unset, .unset, .unset, .unset, .unset, .unset, .unset, .unset] []))) (fun t k => castTop (own_ef0 m p0 p1 p2 p3) k) ?_
  refine own_pre (A := (s₁.setTop (mkF m 25 (own_l8 p0 p1 p2 p3) []))) ?_ ?_
  · intro t k
    refine XS.iloadN X0.here hx rfl (hb hby at_0) rfl ?_
    refine XS.iconst X0.here hx rfl (hb hby at_1) ?_
    refine XS.iand X0.here hx rfl (hb hby at_2) rfl ?_
    refine XS.iconst X0.here hx rfl (hb hby at_3) ?_
    show Steps p.tables e below (s₁.setTop (mkF m 4 #[.val (.int p0), .val (.int p1), .val (.int p2), .val (.int p3), .unset, .unset, .unset, .unset, .unset, .unset, .unset, .unset] [(.int (3 : Int32)), (.int (p3 &&& (3 : Int32)))])) _
    refine iremM X0 hx rfl (hb hby at_4) rfl (by decide) ?_
    show Steps p.tables e below (s₁.setTop (mkF m 5 #[.val (.int p0), .val (.int p1), .val (.int p2), .val (.int p3), .unset, .unset, .unset, .unset, .unset, .unset, .unset, .unset] [(.int ((p3 &&& (3 : Int32)) % (3 : Int32)))])) _
    refine XS.istore X0.here hx rfl (hb hby at_5) rfl (l' := (own_l6 p0 p1 p2 p3)) rfl ?_
    refine XS.iloadN X0.here hx rfl (hb hby at_7) rfl ?_
    refine XS.iconst X0.here hx rfl (hb hby at_8) ?_
    refine XS.iushr X0.here hx rfl (hb hby at_9) rfl ?_
    refine XS.iconst X0.here hx rfl (hb hby at_10) ?_
    refine XS.iand X0.here hx rfl (hb hby at_11) rfl ?_
    refine XS.iconst X0.here hx rfl (hb hby at_12) ?_
    show Steps p.tables e below (s₁.setTop (mkF m 13 (own_l6 p0 p1 p2 p3) [(.int (3 : Int32)), (.int (((p3.toUInt32 >>> ((2 : Int32) &&& 31).toUInt32).toInt32) &&& (3 : Int32)))])) _
    refine iremM X0 hx rfl (hb hby at_13) rfl (by decide) ?_
    show Steps p.tables e below (s₁.setTop (mkF m 14 (own_l6 p0 p1 p2 p3) [(.int ((((p3.toUInt32 >>> ((2 : Int32) &&& 31).toUInt32).toInt32) &&& (3 : Int32)) % (3 : Int32)))])) _
    refine XS.istore X0.here hx rfl (hb hby at_14) rfl (l' := (own_l7 p0 p1 p2 p3)) rfl ?_
    refine XS.iloadN X0.here hx rfl (hb hby at_16) rfl ?_
    refine XS.iconst X0.here hx rfl (hb hby at_17) ?_
    refine XS.iushr X0.here hx rfl (hb hby at_18) rfl ?_
    refine XS.iconst X0.here hx rfl (hb hby at_19) ?_
    refine XS.iand X0.here hx rfl (hb hby at_20) rfl ?_
    refine XS.iconst X0.here hx rfl (hb hby at_21) ?_
    show Steps p.tables e below (s₁.setTop (mkF m 22 (own_l7 p0 p1 p2 p3) [(.int (3 : Int32)), (.int (((p3.toUInt32 >>> ((4 : Int32) &&& 31).toUInt32).toInt32) &&& (3 : Int32)))])) _
    refine iremM X0 hx rfl (hb hby at_22) rfl (by decide) ?_
    show Steps p.tables e below (s₁.setTop (mkF m 23 (own_l7 p0 p1 p2 p3) [(.int ((((p3.toUInt32 >>> ((4 : Int32) &&& 31).toUInt32).toInt32) &&& (3 : Int32)) % (3 : Int32)))])) _
    refine XS.istore X0.here hx rfl (hb hby at_23) rfl (l' := (own_l8 p0 p1 p2 p3)) rfl ?_
    exact k
  obtain ⟨lw, hlw⟩ : ∃ z : Int32, z = ((p3 &&& (3 : Int32)) % (3 : Int32)) := ⟨_, rfl⟩
  show ∃ s₂ o, Steps p.tables e below (s₁.setTop (mkF m 25 #[.val (.int p0), .val (.int p1), .val (.int p2), .val (.int p3), .val (.int ((p3 &&& (3 : Int32)) % (3 : Int32))), .val (.int ((((p3.toUInt32 >>> ((2 : Int32) &&& 31).toUInt32).toInt32) &&& (3 : Int32)) % (3 : Int32))), .val (.int ((((p3.toUInt32 >>> ((4 : Int32) &&& 31).toUInt32).toInt32) &&& (3 : Int32)) % (3 : Int32))), .unset, .unset, .unset, .unset, .unset] [])) s₂ ∧ _
  rw [← hlw]
  have hl_lw : lw = 0 ∨ lw = 1 ∨ lw = 2 := by rw [hlw]; exact own_mod3 _
  obtain ⟨ln, hln⟩ : ∃ z : Int32, z = ((((p3.toUInt32 >>> ((2 : Int32) &&& 31).toUInt32).toInt32) &&& (3 : Int32)) % (3 : Int32)) := ⟨_, rfl⟩
  show ∃ s₂ o, Steps p.tables e below (s₁.setTop (mkF m 25 #[.val (.int p0), .val (.int p1), .val (.int p2), .val (.int p3), .val (.int lw), .val (.int ((((p3.toUInt32 >>> ((2 : Int32) &&& 31).toUInt32).toInt32) &&& (3 : Int32)) % (3 : Int32))), .val (.int ((((p3.toUInt32 >>> ((4 : Int32) &&& 31).toUInt32).toInt32) &&& (3 : Int32)) % (3 : Int32))), .unset, .unset, .unset, .unset, .unset] [])) s₂ ∧ _
  rw [← hln]
  have hl_ln : ln = 0 ∨ ln = 1 ∨ ln = 2 := by rw [hln]; exact own_mod3 _
  obtain ⟨lr, hlr⟩ : ∃ z : Int32, z = ((((p3.toUInt32 >>> ((4 : Int32) &&& 31).toUInt32).toInt32) &&& (3 : Int32)) % (3 : Int32)) := ⟨_, rfl⟩
  show ∃ s₂ o, Steps p.tables e below (s₁.setTop (mkF m 25 #[.val (.int p0), .val (.int p1), .val (.int p2), .val (.int p3), .val (.int lw), .val (.int ln), .val (.int ((((p3.toUInt32 >>> ((4 : Int32) &&& 31).toUInt32).toInt32) &&& (3 : Int32)) % (3 : Int32))), .unset, .unset, .unset, .unset, .unset] [])) s₂ ∧ _
  rw [← hlr]
  have hl_lr : lr = 0 ∨ lr = 1 ∨ lr = 2 := by rw [hlr]; exact own_mod3 _
  refine own_pre (A := (s₁.setTop (mkF m 42 #[.val (.int p0), .val (.int p1), .val (.int p2), .val (.int p3), .val (.int lw), .val (.int ln), .val (.int lr), .unset, .unset, .unset, .unset, .unset] [(.int ((((p0.toUInt32 >>> ((8 : Int32) &&& 31).toUInt32).toInt32) &&& (255 : Int32)).toUInt32.toUInt16.toUInt32.toInt32)), (.int ((p0 &&& (255 : Int32)).toUInt32.toUInt16.toUInt32.toInt32)), (.int lw)]))) ?_ ?_
  · intro t k
    refine XS.iload X0.here hx rfl (hb hby at_25) rfl ?_
    refine XS.iloadN X0.here hx rfl (hb hby at_27) rfl ?_
    refine XS.sipush X0.here hx rfl (hb hby at_28) ?_
    refine XS.iand X0.here hx rfl (hb hby at_31) rfl ?_
    refine XS.i2c X0.here hx rfl (hb hby at_32) rfl ?_
    refine XS.iloadN X0.here hx rfl (hb hby at_33) rfl ?_
    refine XS.bipush X0.here hx rfl (hb hby at_34) ?_
    refine XS.iushr X0.here hx rfl (hb hby at_36) rfl ?_
    refine XS.sipush X0.here hx rfl (hb hby at_37) ?_
    refine XS.iand X0.here hx rfl (hb hby at_40) rfl ?_
    refine XS.i2c X0.here hx rfl (hb hby at_41) rfl ?_
    exact k
  obtain ⟨x0, hx0⟩ : ∃ z : Int32, z = ((p0 &&& (255 : Int32)).toUInt32.toUInt16.toUInt32.toInt32) := ⟨_, rfl⟩
  rw [← hx0]
  have hp_x0 : 0 ≤ x0.toInt ∧ x0.toInt < 256 := by rw [hx0]; exact own_ch256 _
  obtain ⟨x1, hx1⟩ : ∃ z : Int32, z = ((((p0.toUInt32 >>> ((8 : Int32) &&& 31).toUInt32).toInt32) &&& (255 : Int32)).toUInt32.toUInt16.toUInt32.toInt32) := ⟨_, rfl⟩
  rw [← hx1]
  have hp_x1 : 0 ≤ x1.toInt ∧ x1.toInt < 256 := by rw [hx1]; exact own_ch256 _
  obtain ⟨_, _, ⟨T219, L219, k219, n219⟩, -, X219', hs219, hg219, ⟨Lc219, hQ219, l219, y219, z219, hR219⟩, st219⟩ := Jvm.RoadKit.callSS X0 hx (y := (⟨"com/example/sigillum/sigillum/cli/InputFilesCannotReadPinLaw", "str", "(ICC)Ljava/lang/String;"⟩ : MethodName)) hown (mvT hZ (own_w hw 0 rfl)) (mvT hZ (own_w hw 1 rfl)) (mvT hZ (own_w hw 2 rfl)) (mvT hZ (own_w hw 3 rfl)) (by decide) (backOfSH (s := s) (vm0 := s.vm) (W := 0) (rm1 l Z a0 hw [] lw x0 x1 pG h0 n0 Z0 hEL hl_lw hp_x0 hp_x1 O2 hG X00) hZ (own_w hw 3 rfl) (own_w hw 2 rfl) (by decide) (by decide) hEL R0.1) (g := (mkF m 42 #[.val (.int p0), .val (.int p1), .val (.int p2), .val (.int p3), .val (.int lw), .val (.int ln), .val (.int lr), .unset, .unset, .unset, .unset, .unset] [(.int x1), (.int x0), (.int lw)])) rfl (by rw [hml]; rfl) (argsL := [(.int lw), (.int x0), (.int x1)]) (rest := []) (lenOf own_pd32 rfl) rfl (by show 2 * 0 + _ ≤ _; exact Nat.le_of_eq rfl) (hb hby at_42) (fun _ _ => ⟨rfl, e0, (by decide : 0 + 4 ≤ _), (by decide : 0 + 8 ≤ _)⟩)
  dsimp only [Pt.U, Pt.locs, Pt.cells, Pt.slots] at X219' hs219 hg219 l219 y219 z219 st219 hQ219 hR219
  replace y219 : _ = 4 := y219
  replace z219 : _ = 8 := z219
  subst y219 z219
  obtain ⟨X219, hS219, hZ219, hown219⟩ := rebS (n1 := s₁.heap.size) hS0 (by rw [e0]; exact hk0) X219' hs219 hg219 hZ hown
  obtain ⟨Nq219, ar219, ad219, kq219, rfl, Eq219, Fv219, Fc219, Vq219, Kq219⟩ := hQ219
  have N219 := own_frl l219 N0 Nq219
  refine own_pre (fun t k => st219.trans k) ?_
  have X00_219 := X00.keep Kq219 all0
  have Zs219 : n0 ≤ T219.heap.size := Nat.le_trans Z0 Kq219.1
  have Kc219 : Keep h0 T219.heap [] := (Keep.refl h0 []).trans Kq219 all0
  have R219 := CHr.trans R0 hR219
  refine own_pre (A := (T219.setTop (mkF m 64 (own_l11 p0 p1 p2 p3 lw ln lr ar219) [(.int ((((p1.toUInt32 >>> ((8 : Int32) &&& 31).toUInt32).toInt32) &&& (255 : Int32)).toUInt32.toUInt16.toUInt32.toInt32)), (.int ((p1 &&& (255 : Int32)).toUInt32.toUInt16.toUInt32.toInt32)), (.int ln)]))) ?_ ?_
  · intro t k
    refine XS.astore X219.here hx rfl (hb hby at_45) rfl rfl (l' := (own_l11 p0 p1 p2 p3 lw ln lr ar219)) rfl ?_
    refine XS.iload X219.here hx rfl (hb hby at_47) rfl ?_
    refine XS.iloadN X219.here hx rfl (hb hby at_49) rfl ?_
    refine XS.sipush X219.here hx rfl (hb hby at_50) ?_
    refine XS.iand X219.here hx rfl (hb hby at_53) rfl ?_
    refine XS.i2c X219.here hx rfl (hb hby at_54) rfl ?_
    refine XS.iloadN X219.here hx rfl (hb hby at_55) rfl ?_
    refine XS.bipush X219.here hx rfl (hb hby at_56) ?_
    refine XS.iushr X219.here hx rfl (hb hby at_58) rfl ?_
    refine XS.sipush X219.here hx rfl (hb hby at_59) ?_
    refine XS.iand X219.here hx rfl (hb hby at_62) rfl ?_
    refine XS.i2c X219.here hx rfl (hb hby at_63) rfl ?_
    exact k
  obtain ⟨y0, hy0⟩ : ∃ z : Int32, z = ((p1 &&& (255 : Int32)).toUInt32.toUInt16.toUInt32.toInt32) := ⟨_, rfl⟩
  show ∃ s₂ o, Steps p.tables e below (T219.setTop (mkF m 64 #[.val (.int p0), .val (.int p1), .val (.int p2), .val (.int p3), .val (.int lw), .val (.int ln), .val (.int lr), .val (.ref ar219), .unset, .unset, .unset, .unset] [(.int ((((p1.toUInt32 >>> ((8 : Int32) &&& 31).toUInt32).toInt32) &&& (255 : Int32)).toUInt32.toUInt16.toUInt32.toInt32)), (.int ((p1 &&& (255 : Int32)).toUInt32.toUInt16.toUInt32.toInt32)), (.int ln)])) s₂ ∧ _
  rw [← hy0]
  have hp_y0 : 0 ≤ y0.toInt ∧ y0.toInt < 256 := by rw [hy0]; exact own_ch256 _
  obtain ⟨y1, hy1⟩ : ∃ z : Int32, z = ((((p1.toUInt32 >>> ((8 : Int32) &&& 31).toUInt32).toInt32) &&& (255 : Int32)).toUInt32.toUInt16.toUInt32.toInt32) := ⟨_, rfl⟩
  show ∃ s₂ o, Steps p.tables e below (T219.setTop (mkF m 64 #[.val (.int p0), .val (.int p1), .val (.int p2), .val (.int p3), .val (.int lw), .val (.int ln), .val (.int lr), .val (.ref ar219), .unset, .unset, .unset, .unset] [(.int ((((p1.toUInt32 >>> ((8 : Int32) &&& 31).toUInt32).toInt32) &&& (255 : Int32)).toUInt32.toUInt16.toUInt32.toInt32)), (.int y0), (.int ln)])) s₂ ∧ _
  rw [← hy1]
  have hp_y1 : 0 ≤ y1.toInt ∧ y1.toInt < 256 := by rw [hy1]; exact own_ch256 _
  obtain ⟨_, _, ⟨T220, L220, k220, n220⟩, -, X220', hs220, hg220, ⟨Lc220, hQ220, l220, y220, z220, hR220⟩, st220⟩ := Jvm.RoadKit.callSS X219 hx (y := (⟨"com/example/sigillum/sigillum/cli/InputFilesCannotReadPinLaw", "str", "(ICC)Ljava/lang/String;"⟩ : MethodName)) hown219 (mvT hZ219 (own_w hw 0 rfl)) (mvT hZ219 (own_w hw 1 rfl)) (mvT hZ219 (own_w hw 2 rfl)) (mvT hZ219 (own_w hw 3 rfl)) (by decide) (backOfSH (s := s) (vm0 := T219.vm) (W := 0) (rm1 l Z a0 hw [] ln y0 y1 pG T219.heap n0 Zs219 hEL hl_ln hp_y0 hp_y1 O2 hG X00_219) hZ219 (own_w hw 3 rfl) (own_w hw 2 rfl) (by decide) (by decide) hEL R219.1) (g := (mkF m 64 (own_l11 p0 p1 p2 p3 lw ln lr ar219) [(.int y1), (.int y0), (.int ln)])) rfl (by rw [hml]; rfl) (argsL := [(.int ln), (.int y0), (.int y1)]) (rest := []) (lenOf own_pd32 rfl) rfl (by show 2 * 0 + _ ≤ _; exact Nat.le_of_eq rfl) (hb hby at_64) (fun _ _ => ⟨rfl, rfl, (by decide : 4 + 4 ≤ _), (by decide : 8 + 8 ≤ _)⟩)
  dsimp only [Pt.U, Pt.locs, Pt.cells, Pt.slots] at X220' hs220 hg220 l220 y220 z220 st220 hQ220 hR220
  replace y220 : _ = 8 := y220
  replace z220 : _ = 16 := z220
  subst y220 z220
  obtain ⟨X220, hS220, hZ220, hown220⟩ := rebS (n1 := T219.heap.size) hS219 (Nat.le_refl _) X220' hs220 hg220 hZ219 hown219
  obtain ⟨Nq220, ar220, ad220, kq220, rfl, Eq220, Fv220, Fc220, Vq220, Kq220⟩ := hQ220
  have N220 := own_frl l220 N219 Nq220
  refine own_pre (fun t k => st220.trans k) ?_
  have X00_220 := X00_219.keep Kq220 all0
  have Eq219_220 := Eq219.keep Kq220
  have Fv219_220 := Fv219.keep Kq220 nin0
  have Fc219_220 := Fc219.keep Kq220 nin0
  have Vq219_220 := Vq219.keep Kq220 nin0
  have Zs220 : n0 ≤ T220.heap.size := Nat.le_trans Zs219 Kq220.1
  have Kc220 : Keep h0 T220.heap [] := Kc219.trans Kq220 all0
  have R220 := CHr.trans R219 hR220
  refine own_pre (A := (T220.setTop (mkF m 86 (own_l12 p0 p1 p2 p3 lw ln lr ar219 ar220) [(.int ((((p2.toUInt32 >>> ((8 : Int32) &&& 31).toUInt32).toInt32) &&& (255 : Int32)).toUInt32.toUInt16.toUInt32.toInt32)), (.int ((p2 &&& (255 : Int32)).toUInt32.toUInt16.toUInt32.toInt32)), (.int lr)]))) ?_ ?_
  · intro t k
    refine XS.astore X220.here hx rfl (hb hby at_67) rfl rfl (l' := (own_l12 p0 p1 p2 p3 lw ln lr ar219 ar220)) rfl ?_
    refine XS.iload X220.here hx rfl (hb hby at_69) rfl ?_
    refine XS.iloadN X220.here hx rfl (hb hby at_71) rfl ?_
    refine XS.sipush X220.here hx rfl (hb hby at_72) ?_
    refine XS.iand X220.here hx rfl (hb hby at_75) rfl ?_
    refine XS.i2c X220.here hx rfl (hb hby at_76) rfl ?_
    refine XS.iloadN X220.here hx rfl (hb hby at_77) rfl ?_
    refine XS.bipush X220.here hx rfl (hb hby at_78) ?_
    refine XS.iushr X220.here hx rfl (hb hby at_80) rfl ?_
    refine XS.sipush X220.here hx rfl (hb hby at_81) ?_
    refine XS.iand X220.here hx rfl (hb hby at_84) rfl ?_
    refine XS.i2c X220.here hx rfl (hb hby at_85) rfl ?_
    exact k
  obtain ⟨w0, hw0⟩ : ∃ z : Int32, z = ((p2 &&& (255 : Int32)).toUInt32.toUInt16.toUInt32.toInt32) := ⟨_, rfl⟩
  show ∃ s₂ o, Steps p.tables e below (T220.setTop (mkF m 86 #[.val (.int p0), .val (.int p1), .val (.int p2), .val (.int p3), .val (.int lw), .val (.int ln), .val (.int lr), .val (.ref ar219), .val (.ref ar220), .unset, .unset, .unset] [(.int ((((p2.toUInt32 >>> ((8 : Int32) &&& 31).toUInt32).toInt32) &&& (255 : Int32)).toUInt32.toUInt16.toUInt32.toInt32)), (.int ((p2 &&& (255 : Int32)).toUInt32.toUInt16.toUInt32.toInt32)), (.int lr)])) s₂ ∧ _
  rw [← hw0]
  have hp_w0 : 0 ≤ w0.toInt ∧ w0.toInt < 256 := by rw [hw0]; exact own_ch256 _
  obtain ⟨w1, hw1⟩ : ∃ z : Int32, z = ((((p2.toUInt32 >>> ((8 : Int32) &&& 31).toUInt32).toInt32) &&& (255 : Int32)).toUInt32.toUInt16.toUInt32.toInt32) := ⟨_, rfl⟩
  show ∃ s₂ o, Steps p.tables e below (T220.setTop (mkF m 86 #[.val (.int p0), .val (.int p1), .val (.int p2), .val (.int p3), .val (.int lw), .val (.int ln), .val (.int lr), .val (.ref ar219), .val (.ref ar220), .unset, .unset, .unset] [(.int ((((p2.toUInt32 >>> ((8 : Int32) &&& 31).toUInt32).toInt32) &&& (255 : Int32)).toUInt32.toUInt16.toUInt32.toInt32)), (.int w0), (.int lr)])) s₂ ∧ _
  rw [← hw1]
  have hp_w1 : 0 ≤ w1.toInt ∧ w1.toInt < 256 := by rw [hw1]; exact own_ch256 _
  obtain ⟨_, _, ⟨T221, L221, k221, n221⟩, -, X221', hs221, hg221, ⟨Lc221, hQ221, l221, y221, z221, hR221⟩, st221⟩ := Jvm.RoadKit.callSS X220 hx (y := (⟨"com/example/sigillum/sigillum/cli/InputFilesCannotReadPinLaw", "str", "(ICC)Ljava/lang/String;"⟩ : MethodName)) hown220 (mvT hZ220 (own_w hw 0 rfl)) (mvT hZ220 (own_w hw 1 rfl)) (mvT hZ220 (own_w hw 2 rfl)) (mvT hZ220 (own_w hw 3 rfl)) (by decide) (backOfSH (s := s) (vm0 := T220.vm) (W := 0) (rm1 l Z a0 hw [] lr w0 w1 pG T220.heap n0 Zs220 hEL hl_lr hp_w0 hp_w1 O2 hG X00_220) hZ220 (own_w hw 3 rfl) (own_w hw 2 rfl) (by decide) (by decide) hEL R220.1) (g := (mkF m 86 (own_l12 p0 p1 p2 p3 lw ln lr ar219 ar220) [(.int w1), (.int w0), (.int lr)])) rfl (by rw [hml]; rfl) (argsL := [(.int lr), (.int w0), (.int w1)]) (rest := []) (lenOf own_pd32 rfl) rfl (by show 2 * 0 + _ ≤ _; exact Nat.le_of_eq rfl) (hb hby at_86) (fun _ _ => ⟨rfl, rfl, (by decide : 8 + 4 ≤ _), (by decide : 16 + 8 ≤ _)⟩)
  dsimp only [Pt.U, Pt.locs, Pt.cells, Pt.slots] at X221' hs221 hg221 l221 y221 z221 st221 hQ221 hR221
  replace y221 : _ = 12 := y221
  replace z221 : _ = 24 := z221
  subst y221 z221
  obtain ⟨X221, hS221, hZ221, hown221⟩ := rebS (n1 := T220.heap.size) hS220 (Nat.le_refl _) X221' hs221 hg221 hZ220 hown220
  obtain ⟨Nq221, ar221, ad221, kq221, rfl, Eq221, Fv221, Fc221, Vq221, Kq221⟩ := hQ221
  have N221 := own_frl l221 N220 Nq221
  refine own_pre (fun t k => st221.trans k) ?_
  have X00_221 := X00_220.keep Kq221 all0
  have Eq219_221 := Eq219_220.keep Kq221
  have Fv219_221 := Fv219_220.keep Kq221 nin0
  have Fc219_221 := Fc219_220.keep Kq221 nin0
  have Vq219_221 := Vq219_220.keep Kq221 nin0
  have Eq220_221 := Eq220.keep Kq221
  have Fv220_221 := Fv220.keep Kq221 nin0
  have Fc220_221 := Fc220.keep Kq221 nin0
  have Vq220_221 := Vq220.keep Kq221 nin0
  have Zs221 : n0 ≤ T221.heap.size := Nat.le_trans Zs220 Kq221.1
  have Kc221 : Keep h0 T221.heap [] := Kc220.trans Kq221 all0
  have R221 := CHr.trans R220 hR221
  refine own_pre (A := (T221.setTop (mkF m 97 (own_l13 p0 p1 p2 p3 lw ln lr ar219 ar220 ar221) [(.ref ar221), (.ref ar219), (.ref ar220)]))) ?_ ?_
  · intro t k
    refine XS.astore X221.here hx rfl (hb hby at_89) rfl rfl (l' := (own_l13 p0 p1 p2 p3 lw ln lr ar219 ar220 ar221)) rfl ?_
    refine XS.aload X221.here hx rfl (hb hby at_91) rfl rfl ?_
    refine XS.aload X221.here hx rfl (hb hby at_93) rfl rfl ?_
    refine XS.aload X221.here hx rfl (hb hby at_95) rfl rfl ?_
    exact k
  obtain ⟨_, _, ⟨T222, L222, k222, n222⟩, -, X222', hs222, hg222, ⟨Lc222, hQ222, l222, y222, z222, hR222⟩, st222⟩ := Jvm.RoadKit.callSS X221 hx (y := (⟨"com/example/sigillum/sigillum/cli/InputFiles", "cannotRead", "(Ljava/lang/String;Ljava/lang/String;Ljava/lang/String;)Lcom/example/sigillum/sigillum/cli/UsageException;"⟩ : MethodName)) hown221 (mvT hZ221 (own_w hw 41 rfl)) (mvT hZ221 (own_w hw 42 rfl)) (mvT hZ221 (own_w hw 43 rfl)) (mvT hZ221 (own_w hw 44 rfl)) (by decide) (backOfSKH (s := s) (vm0 := T221.vm) (W := 0) (rm9 l Z a0 hw [] ar220 ar219 ar221 ad220 kq220 ln (own_s ln y0 y1) ad219 kq219 lw (own_s lw x0 x1) ad221 kq221 lr (own_s lr w0 w1) pG vU vS T221.heap n0 Zs221 hEL Eq220_221 Fv220_221 Fc220_221 Vq220_221 (own_sn hl_ln) own_sl Eq219_221 Fv219_221 Fc219_221 Vq219_221 (own_sn hl_lw) own_sl Eq221 Fv221 Fc221 Vq221 (own_sn hl_lr) own_sl O2 hG X00_221 O5 rU O6 rS hlt (ThS.keep Kc221 ns0 T00)) hZ221 (own_w hw 44 rfl) (own_w hw 43 rfl) (by decide) (by decide) hEL R221.1 (Vm.MethodsKnown.alikeC hS221.1.alike hK.1) (Vm.FramesKnown.alikeC hS221.1.alike hK.2)) (g := (mkF m 97 (own_l13 p0 p1 p2 p3 lw ln lr ar219 ar220 ar221) [(.ref ar221), (.ref ar219), (.ref ar220)])) rfl (by rw [hml]; rfl) (argsL := [(.ref ar220), (.ref ar219), (.ref ar221)]) (rest := []) (lenOf own_pd33 rfl) rfl (by show 2 * 0 + _ ≤ _; exact Nat.le_of_eq rfl) (hb hby at_97) (fun _ _ => ⟨rfl, rfl, (by decide : 12 + 18 ≤ _), (by decide : 24 + 3092 ≤ _)⟩)
  dsimp only [Pt.U, Pt.locs, Pt.cells, Pt.slots] at X222' hs222 hg222 l222 y222 z222 st222 hQ222 hR222
  replace y222 : _ = 30 := y222
  replace z222 : _ = 3116 := z222
  subst y222 z222
  obtain ⟨X222, hS222, hZ222, hown222⟩ := rebS (n1 := T221.heap.size) hS221 (Nat.le_refl _) X222' hs222 hg222 hZ221 hown221
  obtain ⟨Nq222, ae222, am222, ad222, kq222, pn222, rfl, Ee222, Fm222, Eq222, Fv222, Fc222, Vq222, hm222, Kq222⟩ := hQ222
  have N222 := own_frl l222 N221 Nq222
  refine own_pre (fun t k => st222.trans k) ?_
  have X00_222 := X00_221.keep Kq222 all0
  have Eq219_222 := Eq219_221.keep Kq222
  have Fv219_222 := Fv219_221.keep Kq222 nin0
  have Fc219_222 := Fc219_221.keep Kq222 nin0
  have Vq219_222 := Vq219_221.keep Kq222 nin0
  have Eq220_222 := Eq220_221.keep Kq222
  have Fv220_222 := Fv220_221.keep Kq222 nin0
  have Fc220_222 := Fc220_221.keep Kq222 nin0
  have Vq220_222 := Vq220_221.keep Kq222 nin0
  have Eq221_222 := Eq221.keep Kq222
  have Fv221_222 := Fv221.keep Kq222 nin0
  have Fc221_222 := Fc221.keep Kq222 nin0
  have Vq221_222 := Vq221.keep Kq222 nin0
  have Zs222 : n0 ≤ T222.heap.size := Nat.le_trans Zs221 Kq222.1
  have hq15 := own_len hl_lw hl_ln hl_lr hm222
  have R222 := CHr.trans R221 hR222
  refine own_pre (A := (T222.setTop (mkF m 111 (own_l14 p0 p1 p2 p3 lw ln lr ar219 ar220 ar221 ae222) [(.ref ae222)]))) ?_ ?_
  · intro t k
    refine XS.astore X222.here hx rfl (hb hby at_100) rfl rfl (l' := (own_l14 p0 p1 p2 p3 lw ln lr ar219 ar220 ar221 ae222)) rfl ?_
    refine XS.aload X222.here hx rfl (hb hby at_102) rfl rfl ?_
    refine XS.ifnonnullYes X222.here hx rfl (pc0 := 104) (pc' := 109) rfl (hb hby at_104) rfl (by decide) (by decide) ?_
    refine XS.aload X222.here hx rfl (hb hby at_109) rfl rfl ?_
    exact k
  obtain ⟨cq223, kq223, q223a, q223b, q223c⟩ := isOf hZ222 rfl Ee222
  obtain ⟨_, _, ⟨T223, L223, k223, n223⟩, -, X223, ⟨Lc223, hQ223, l223, y223, z223⟩, st223⟩ := X222.virtualBackUp hx (x := (⟨"com/example/sigillum/sigillum/cli/UsageException", "getMessage", "()Ljava/lang/String;"⟩ : MethodName)) (y := (⟨"java/lang/Throwable", "getMessage", "()Ljava/lang/String;"⟩ : MethodName)) (owner := "java/lang/Throwable") hown222 (mvT hZ222 (own_w hw 210 rfl)) (mvT hZ222 (own_w hw 211 rfl)) (mvT hZ222 (own_w hw 212 rfl)) (by decide) (mvT hZ222 (own_w hw 214 rfl)) (mvT hZ222 (own_w hw 213 rfl)) (backOf (W := 0) (rm33 l Z a0 hw [] ae222 am222 T222.heap n0 Zs222 Fm222) hZ222 (own_w hw 215 rfl) (own_w hw 171 rfl) (by decide) (by decide)) q223a q223c (g := (mkF m 111 (own_l14 p0 p1 p2 p3 lw ln lr ar219 ar220 ar221 ae222) [(.ref ae222)])) rfl (by rw [hml]; rfl) (Steps.refl _) (argsL := []) (rest := []) (lenOf own_pd30 rfl) rfl (by show 2 * 0 + _ ≤ _; exact Nat.le_of_eq rfl) (hb hby at_111) (fun _ _ => ⟨rfl, rfl, (by decide : 30 + 0 ≤ _), (by decide : 3116 + 0 ≤ _)⟩)
  dsimp only [Pt.U, Pt.locs, Pt.cells, Pt.slots] at X223 l223 y223 z223 st223 hQ223
  replace y223 : _ = 30 := y223
  replace z223 : _ = 3116 := z223
  subst y223 z223
  obtain ⟨Nq223, rfl, eq223⟩ := hQ223
  have N223 := own_frl l223 N222 Nq223
  refine own_pre (fun t k => st223.trans k) ?_
  refine own_pre (A := (T223.setTop (mkF m 125 (own_l15 p0 p1 p2 p3 lw ln lr ar219 ar220 ar221 ae222 am222) [(.ref am222)]))) ?_ ?_
  · intro t k
    refine XS.astore X223.here hx rfl (hb hby at_114) rfl rfl (l' := (own_l15 p0 p1 p2 p3 lw ln lr ar219 ar220 ar221 ae222 am222)) rfl ?_
    refine XS.aload X223.here hx rfl (hb hby at_116) rfl rfl ?_
    refine XS.ifnonnullYes X223.here hx rfl (pc0 := 118) (pc' := 123) rfl (hb hby at_118) rfl (by decide) (by decide) ?_
    refine XS.aload X223.here hx rfl (hb hby at_123) rfl rfl ?_
    exact k
  obtain ⟨cq224, kq224, q224a, q224b, q224c⟩ := isOf hZ222 eq223 Eq222
  obtain ⟨_, _, ⟨T224, L224, k224, n224⟩, -, X224, ⟨Lc224, hQ224, l224, y224, z224⟩, st224⟩ := X223.virtualBack hx (y := (⟨"java/lang/String", "length", "()I"⟩ : MethodName)) (z := (⟨"java/lang/String", "length", "()I"⟩ : MethodName)) hown222 (mvT hZ222 (own_w hw 216 rfl)) (mvT hZ222 (own_w hw 78 rfl)) (notFace_of_selects (args := #[]) (mvT hZ222 (own_w hw 80 rfl))) (mvT hZ222 (own_w hw 80 rfl)) (mvT hZ222 (own_w hw 79 rfl)) (by decide) (backOf (W := 0) (rm14 l Z a0 hw [] am222 ad222 kq222 pn222 (List.map own_by ([99, 97, 110, 110, 111, 116, 32, 114, 101, 97, 100, 32] ++ ((own_s lw x0 x1) ++ (32 :: ((own_s ln y0 y1) ++ (58 :: 32 :: (own_s lr w0 w1))))))) pG T222.heap n0 Zs222 Eq222 Fv222 Fc222 Vq222 O2 hG X00_222) hZ222 (own_w hw 81 rfl) (own_w hw 6 rfl) (by decide) (by decide)) q224a q224c (g := (mkF m 125 (own_l15 p0 p1 p2 p3 lw ln lr ar219 ar220 ar221 ae222 am222) [(.ref am222)])) rfl (by rw [hml]; rfl) (Steps.refl _) (argsL := []) (rest := []) (lenOf own_pd21 rfl) rfl (by show 2 * 0 + _ ≤ _; exact Nat.le_of_eq rfl) (hb hby at_125) (fun _ _ => ⟨rfl, eq223, (by decide : 30 + 0 ≤ _), (by decide : 3116 + 0 ≤ _)⟩)
  dsimp only [Pt.U, Pt.locs, Pt.cells, Pt.slots] at X224 l224 y224 z224 st224 hQ224
  replace y224 : _ = 30 := y224
  replace z224 : _ = 3116 := z224
  subst y224 z224
  obtain ⟨Nq224, rfl, eq224⟩ := hQ224
  have N224 := own_frl l224 N223 Nq224
  refine own_pre (fun t k => st224.trans k) ?_
  refine own_pre (A := (T224.setTop (mkF m 146 (own_l15 p0 p1 p2 p3 lw ln lr ar219 ar220 ar221 ae222 am222) [(.ref am222)]))) ?_ ?_
  · intro t k
    refine XS.bipush X224.here hx rfl (hb hby at_128) ?_
    refine XS.iload X224.here hx rfl (hb hby at_130) rfl ?_
    refine XS.iadd X224.here hx rfl (hb hby at_132) rfl ?_
    refine XS.iload X224.here hx rfl (hb hby at_133) rfl ?_
    refine XS.iadd X224.here hx rfl (hb hby at_135) rfl ?_
    refine XS.iload X224.here hx rfl (hb hby at_136) rfl ?_
    refine XS.iadd X224.here hx rfl (hb hby at_138) rfl ?_
    refine XS.icmpYes X224.here hx rfl (pc0 := 139) (pc' := 144) rfl (hb hby at_139) rfl (teq hq15).1 (by decide) (by decide) ?_
    refine XS.aload X224.here hx rfl (hb hby at_144) rfl rfl ?_
    exact k
  obtain ⟨_, _, ⟨T225, L225, k225, n225⟩, -, X225', hs225, hg225, ⟨Lc225, hQ225, l225, y225, z225, hR225⟩, st225⟩ := Jvm.RoadKit.callSS X224 hx (y := (⟨"com/example/sigillum/sigillum/cli/InputFilesCannotReadPinLaw", "prefix", "(Ljava/lang/String;)Z"⟩ : MethodName)) hown222 (mvT hZ222 (own_w hw 217 rfl)) (mvT hZ222 (own_w hw 218 rfl)) (mvT hZ222 (own_w hw 2 rfl)) (mvT hZ222 (own_w hw 219 rfl)) (by decide) (backOfSH (s := s) (vm0 := T222.vm) (W := 0) (rm34 l Z a0 hw [] am222 ad222 kq222 pn222 ((own_s lw x0 x1) ++ (32 :: ((own_s ln y0 y1) ++ (58 :: 32 :: (own_s lr w0 w1))))) pG vF T222.heap n0 Zs222 hEL Eq222 Fv222 Fc222 Vq222 (own_11 hl_lw hl_ln hl_lr hq15) O2 hG X00_222 O4 rF) hZ222 (own_w hw 219 rfl) (own_w hw 2 rfl) (by decide) (by decide) hEL R222.1) (g := (mkF m 146 (own_l15 p0 p1 p2 p3 lw ln lr ar219 ar220 ar221 ae222 am222) [(.ref am222)])) rfl (by rw [hml]; rfl) (argsL := [(.ref am222)]) (rest := []) (lenOf own_pd34 rfl) rfl (by show 2 * 0 + _ ≤ _; exact Nat.le_of_eq rfl) (hb hby at_146) (fun _ _ => ⟨rfl, eq224, (by decide : 30 + 2 ≤ _), (by decide : 3116 + 52 ≤ _)⟩)
  dsimp only [Pt.U, Pt.locs, Pt.cells, Pt.slots] at X225' hs225 hg225 l225 y225 z225 st225 hQ225 hR225
  replace y225 : _ = 32 := y225
  replace z225 : _ = 3168 := z225
  subst y225 z225
  obtain ⟨X225, hS225, hZ225, hown225⟩ := rebS (n1 := T224.heap.size) hS222 (by rw [eq224]; exact (Nat.le_refl _)) X225' hs225 hg225 hZ222 hown222
  obtain ⟨Nq225, rfl, Kq225⟩ := hQ225
  have N225 := own_frl l225 N224 Nq225
  refine own_pre (fun t k => st225.trans k) ?_
  have X00_225 := X00_222.keep Kq225 all0
  have Eq219_225 := Eq219_222.keep Kq225
  have Fv219_225 := Fv219_222.keep Kq225 nin0
  have Fc219_225 := Fc219_222.keep Kq225 nin0
  have Vq219_225 := Vq219_222.keep Kq225 nin0
  have Eq220_225 := Eq220_222.keep Kq225
  have Fv220_225 := Fv220_222.keep Kq225 nin0
  have Fc220_225 := Fc220_222.keep Kq225 nin0
  have Vq220_225 := Vq220_222.keep Kq225 nin0
  have Eq221_225 := Eq221_222.keep Kq225
  have Fv221_225 := Fv221_222.keep Kq225 nin0
  have Fc221_225 := Fc221_222.keep Kq225 nin0
  have Vq221_225 := Vq221_222.keep Kq225 nin0
  have Eq222_225 := Eq222.keep Kq225
  have Fv222_225 := Fv222.keep Kq225 nin0
  have Fc222_225 := Fc222.keep Kq225 nin0
  have Vq222_225 := Vq222.keep Kq225 nin0
  have Zs225 : n0 ≤ T225.heap.size := Nat.le_trans Zs222 Kq225.1
  have R225 := CHr.trans R222 hR225
  refine own_pre (A := (T225.setTop (mkF m 158 (own_l15 p0 p1 p2 p3 lw ln lr ar219 ar220 ar221 ae222 am222) [(.ref ar219), (.int (12 : Int32)), (.ref am222)]))) ?_ ?_
  · intro t k
    refine XS.ifNo X225.here hx rfl (hb hby at_149) rfl ((if0 _ _).trans (feq (by decide : ¬ ((1 : Int32) = (0 : Int32)))).1) ?_
    refine XS.aload X225.here hx rfl (hb hby at_152) rfl rfl ?_
    refine XS.bipush X225.here hx rfl (hb hby at_154) ?_
    refine XS.aload X225.here hx rfl (hb hby at_156) rfl rfl ?_
    exact k
  obtain ⟨_, _, ⟨T226, L226, k226, n226⟩, -, X226, ⟨Lc226, hQ226, l226, y226, z226⟩, st226⟩ := Jvm.LawKit.callS X225 hx (y := (⟨"com/example/sigillum/sigillum/cli/InputFilesCannotReadPinLaw", "at", "(Ljava/lang/String;ILjava/lang/String;)Z"⟩ : MethodName)) hown225 (mvT hZ225 (own_w hw 242 rfl)) (mvT hZ225 (own_w hw 243 rfl)) (mvT hZ225 (own_w hw 2 rfl)) (mvT hZ225 (own_w hw 244 rfl)) (by decide) (backOf (W := 0) (rm40 l Z a0 hw [] am222 (12 : Int32) ar219 ad222 kq222 pn222 (List.map own_by ([99, 97, 110, 110, 111, 116, 32, 114, 101, 97, 100, 32] ++ ((own_s lw x0 x1) ++ (32 :: ((own_s ln y0 y1) ++ (58 :: 32 :: (own_s lr w0 w1))))))) ad219 kq219 lw x0 x1 pG vF T225.heap n0 Zs225 Eq222_225 Fv222_225 Fc222_225 Vq222_225 Eq219_225 Fv219_225 Fc219_225 Vq219_225 hl_lw hp_x0 hp_x1 (own_at_w (x0 := x0) (x1 := x1) (y0 := y0) (y1 := y1) (w0 := w0) (w1 := w1) (d := (.int (0 : Int32))) hl_lw hl_ln hl_lr hq15).1 (own_at_w (x0 := x0) (x1 := x1) (y0 := y0) (y1 := y1) (w0 := w0) (w1 := w1) (d := (.int (0 : Int32))) hl_lw hl_ln hl_lr hq15).2 O2 hG X00_225 O4 rF) hZ225 (own_w hw 244 rfl) (own_w hw 2 rfl) (by decide) (by decide)) (g := (mkF m 158 (own_l15 p0 p1 p2 p3 lw ln lr ar219 ar220 ar221 ae222 am222) [(.ref ar219), (.int (12 : Int32)), (.ref am222)])) rfl (by rw [hml]; rfl) (argsL := [(.ref am222), (.int (12 : Int32)), (.ref ar219)]) (rest := []) (lenOf own_pd35 rfl) rfl (by show 2 * 0 + _ ≤ _; exact Nat.le_of_eq rfl) (hb hby at_158) (fun _ _ => ⟨rfl, rfl, (by decide : 32 + 0 ≤ _), (by decide : 3168 + 0 ≤ _)⟩)
  dsimp only [Pt.U, Pt.locs, Pt.cells, Pt.slots] at X226 l226 y226 z226 st226 hQ226
  replace y226 : _ = 32 := y226
  replace z226 : _ = 3168 := z226
  subst y226 z226
  obtain ⟨Nq226, rfl, eq226⟩ := hQ226
  have N226 := own_frl l226 N225 Nq226
  refine own_pre (fun t k => st226 t k) ?_
  refine own_pre (A := (T226.setTop (mkF m 171 (own_l15 p0 p1 p2 p3 lw ln lr ar219 ar220 ar221 ae222 am222) [(.int ((12 : Int32) + lw)), (.ref am222)]))) ?_ ?_
  · intro t k
    refine XS.ifNo X226.here hx rfl (hb hby at_161) rfl ((if0 _ _).trans (feq (by decide : ¬ ((1 : Int32) = (0 : Int32)))).1) ?_
    refine XS.aload X226.here hx rfl (hb hby at_164) rfl rfl ?_
    refine XS.bipush X226.here hx rfl (hb hby at_166) ?_
    refine XS.iload X226.here hx rfl (hb hby at_168) rfl ?_
    refine XS.iadd X226.here hx rfl (hb hby at_170) rfl ?_
    exact k
  obtain ⟨cq227, kq227, q227a, q227b, q227c⟩ := isOf hZ225 eq226 Eq222_225
  obtain ⟨_, _, ⟨T227, L227, k227, n227⟩, -, X227, ⟨Lc227, hQ227, l227, y227, z227⟩, st227⟩ := X226.virtualBack hx (y := (⟨"java/lang/String", "charAt", "(I)C"⟩ : MethodName)) (z := (⟨"java/lang/String", "charAt", "(I)C"⟩ : MethodName)) hown225 (mvT hZ225 (own_w hw 221 rfl)) (mvT hZ225 (own_w hw 222 rfl)) (notFace_of_selects (args := #[]) (mvT hZ225 (own_w hw 224 rfl))) (mvT hZ225 (own_w hw 224 rfl)) (mvT hZ225 (own_w hw 223 rfl)) (by decide) (backOf (W := 0) (rm35 l Z a0 hw [] am222 ((12 : Int32) + lw) ad222 kq222 pn222 (List.map own_by ([99, 97, 110, 110, 111, 116, 32, 114, 101, 97, 100, 32] ++ ((own_s lw x0 x1) ++ (32 :: ((own_s ln y0 y1) ++ (58 :: 32 :: (own_s lr w0 w1))))))) (32 : Int32) pG vF T225.heap n0 Zs225 Eq222_225 Fv222_225 Fc222_225 Vq222_225 (own_c1 (x0 := x0) (x1 := x1) (y0 := y0) (y1 := y1) (w0 := w0) (w1 := w1) (d := (.int (0 : Int32))) hl_lw hl_ln hl_lr hq15).1.1 (own_c1 (x0 := x0) (x1 := x1) (y0 := y0) (y1 := y1) (w0 := w0) (w1 := w1) (d := (.int (0 : Int32))) hl_lw hl_ln hl_lr hq15).1.2 (own_c1 (x0 := x0) (x1 := x1) (y0 := y0) (y1 := y1) (w0 := w0) (w1 := w1) (d := (.int (0 : Int32))) hl_lw hl_ln hl_lr hq15).2 (by decide) O2 hG X00_225 O4 rF) hZ225 (own_w hw 225 rfl) (own_w hw 6 rfl) (by decide) (by decide)) q227a q227c (g := (mkF m 171 (own_l15 p0 p1 p2 p3 lw ln lr ar219 ar220 ar221 ae222 am222) [(.int ((12 : Int32) + lw)), (.ref am222)])) rfl (by rw [hml]; rfl) (Steps.refl _) (argsL := [(.int ((12 : Int32) + lw))]) (rest := []) (lenOf own_pd31 rfl) rfl (by show 2 * 0 + _ ≤ _; exact Nat.le_of_eq rfl) (hb hby at_171) (fun _ _ => ⟨rfl, eq226, (by decide : 32 + 0 ≤ _), (by decide : 3168 + 0 ≤ _)⟩)
  dsimp only [Pt.U, Pt.locs, Pt.cells, Pt.slots] at X227 l227 y227 z227 st227 hQ227
  replace y227 : _ = 32 := y227
  replace z227 : _ = 3168 := z227
  subst y227 z227
  obtain ⟨Nq227, rfl, eq227⟩ := hQ227
  have N227 := own_frl l227 N226 Nq227
  refine own_pre (fun t k => st227.trans k) ?_
  refine own_pre (A := (T227.setTop (mkF m 188 (own_l15 p0 p1 p2 p3 lw ln lr ar219 ar220 ar221 ae222 am222) [(.ref ar220), (.int ((13 : Int32) + lw)), (.ref am222)]))) ?_ ?_
  · intro t k
    refine XS.bipush X227.here hx rfl (hb hby at_174) ?_
    refine XS.icmpNo X227.here hx rfl (hb hby at_176) rfl (teq (by decide : (32 : Int32) = (32 : Int32))).2 ?_
    refine XS.aload X227.here hx rfl (hb hby at_179) rfl rfl ?_
    refine XS.bipush X227.here hx rfl (hb hby at_181) ?_
    refine XS.iload X227.here hx rfl (hb hby at_183) rfl ?_
    refine XS.iadd X227.here hx rfl (hb hby at_185) rfl ?_
    refine XS.aload X227.here hx rfl (hb hby at_186) rfl rfl ?_
    exact k
  obtain ⟨_, _, ⟨T228, L228, k228, n228⟩, -, X228, ⟨Lc228, hQ228, l228, y228, z228⟩, st228⟩ := Jvm.LawKit.callS X227 hx (y := (⟨"com/example/sigillum/sigillum/cli/InputFilesCannotReadPinLaw", "at", "(Ljava/lang/String;ILjava/lang/String;)Z"⟩ : MethodName)) hown225 (mvT hZ225 (own_w hw 242 rfl)) (mvT hZ225 (own_w hw 243 rfl)) (mvT hZ225 (own_w hw 2 rfl)) (mvT hZ225 (own_w hw 244 rfl)) (by decide) (backOf (W := 0) (rm40 l Z a0 hw [] am222 ((13 : Int32) + lw) ar220 ad222 kq222 pn222 (List.map own_by ([99, 97, 110, 110, 111, 116, 32, 114, 101, 97, 100, 32] ++ ((own_s lw x0 x1) ++ (32 :: ((own_s ln y0 y1) ++ (58 :: 32 :: (own_s lr w0 w1))))))) ad220 kq220 ln y0 y1 pG vF T225.heap n0 Zs225 Eq222_225 Fv222_225 Fc222_225 Vq222_225 Eq220_225 Fv220_225 Fc220_225 Vq220_225 hl_ln hp_y0 hp_y1 (own_at_n (x0 := x0) (x1 := x1) (y0 := y0) (y1 := y1) (w0 := w0) (w1 := w1) (d := (.int (0 : Int32))) hl_lw hl_ln hl_lr hq15).1 (own_at_n (x0 := x0) (x1 := x1) (y0 := y0) (y1 := y1) (w0 := w0) (w1 := w1) (d := (.int (0 : Int32))) hl_lw hl_ln hl_lr hq15).2 O2 hG X00_225 O4 rF) hZ225 (own_w hw 244 rfl) (own_w hw 2 rfl) (by decide) (by decide)) (g := (mkF m 188 (own_l15 p0 p1 p2 p3 lw ln lr ar219 ar220 ar221 ae222 am222) [(.ref ar220), (.int ((13 : Int32) + lw)), (.ref am222)])) rfl (by rw [hml]; rfl) (argsL := [(.ref am222), (.int ((13 : Int32) + lw)), (.ref ar220)]) (rest := []) (lenOf own_pd35 rfl) rfl (by show 2 * 0 + _ ≤ _; exact Nat.le_of_eq rfl) (hb hby at_188) (fun _ _ => ⟨rfl, eq227, (by decide : 32 + 0 ≤ _), (by decide : 3168 + 0 ≤ _)⟩)
  dsimp only [Pt.U, Pt.locs, Pt.cells, Pt.slots] at X228 l228 y228 z228 st228 hQ228
  replace y228 : _ = 32 := y228
  replace z228 : _ = 3168 := z228
  subst y228 z228
  obtain ⟨Nq228, rfl, eq228⟩ := hQ228
  have N228 := own_frl l228 N227 Nq228
  refine own_pre (fun t k => st228 t k) ?_
  refine own_pre (A := (T228.setTop (mkF m 204 (own_l15 p0 p1 p2 p3 lw ln lr ar219 ar220 ar221 ae222 am222) [(.int (((13 : Int32) + lw) + ln)), (.ref am222)]))) ?_ ?_
  · intro t k
    refine XS.ifNo X228.here hx rfl (hb hby at_191) rfl ((if0 _ _).trans (feq (by decide : ¬ ((1 : Int32) = (0 : Int32)))).1) ?_
    refine XS.aload X228.here hx rfl (hb hby at_194) rfl rfl ?_
    refine XS.bipush X228.here hx rfl (hb hby at_196) ?_
    refine XS.iload X228.here hx rfl (hb hby at_198) rfl ?_
    refine XS.iadd X228.here hx rfl (hb hby at_200) rfl ?_
    refine XS.iload X228.here hx rfl (hb hby at_201) rfl ?_
    refine XS.iadd X228.here hx rfl (hb hby at_203) rfl ?_
    exact k
  obtain ⟨cq229, kq229, q229a, q229b, q229c⟩ := isOf hZ225 eq228 Eq222_225
  obtain ⟨_, _, ⟨T229, L229, k229, n229⟩, -, X229, ⟨Lc229, hQ229, l229, y229, z229⟩, st229⟩ := X228.virtualBack hx (y := (⟨"java/lang/String", "charAt", "(I)C"⟩ : MethodName)) (z := (⟨"java/lang/String", "charAt", "(I)C"⟩ : MethodName)) hown225 (mvT hZ225 (own_w hw 221 rfl)) (mvT hZ225 (own_w hw 222 rfl)) (notFace_of_selects (args := #[]) (mvT hZ225 (own_w hw 224 rfl))) (mvT hZ225 (own_w hw 224 rfl)) (mvT hZ225 (own_w hw 223 rfl)) (by decide) (backOf (W := 0) (rm35 l Z a0 hw [] am222 (((13 : Int32) + lw) + ln) ad222 kq222 pn222 (List.map own_by ([99, 97, 110, 110, 111, 116, 32, 114, 101, 97, 100, 32] ++ ((own_s lw x0 x1) ++ (32 :: ((own_s ln y0 y1) ++ (58 :: 32 :: (own_s lr w0 w1))))))) (58 : Int32) pG vF T225.heap n0 Zs225 Eq222_225 Fv222_225 Fc222_225 Vq222_225 (own_c2 (x0 := x0) (x1 := x1) (y0 := y0) (y1 := y1) (w0 := w0) (w1 := w1) (d := (.int (0 : Int32))) hl_lw hl_ln hl_lr hq15).1.1 (own_c2 (x0 := x0) (x1 := x1) (y0 := y0) (y1 := y1) (w0 := w0) (w1 := w1) (d := (.int (0 : Int32))) hl_lw hl_ln hl_lr hq15).1.2 (own_c2 (x0 := x0) (x1 := x1) (y0 := y0) (y1 := y1) (w0 := w0) (w1 := w1) (d := (.int (0 : Int32))) hl_lw hl_ln hl_lr hq15).2 (by decide) O2 hG X00_225 O4 rF) hZ225 (own_w hw 225 rfl) (own_w hw 6 rfl) (by decide) (by decide)) q229a q229c (g := (mkF m 204 (own_l15 p0 p1 p2 p3 lw ln lr ar219 ar220 ar221 ae222 am222) [(.int (((13 : Int32) + lw) + ln)), (.ref am222)])) rfl (by rw [hml]; rfl) (Steps.refl _) (argsL := [(.int (((13 : Int32) + lw) + ln))]) (rest := []) (lenOf own_pd31 rfl) rfl (by show 2 * 0 + _ ≤ _; exact Nat.le_of_eq rfl) (hb hby at_204) (fun _ _ => ⟨rfl, eq228, (by decide : 32 + 0 ≤ _), (by decide : 3168 + 0 ≤ _)⟩)
  dsimp only [Pt.U, Pt.locs, Pt.cells, Pt.slots] at X229 l229 y229 z229 st229 hQ229
  replace y229 : _ = 32 := y229
  replace z229 : _ = 3168 := z229
  subst y229 z229
  obtain ⟨Nq229, rfl, eq229⟩ := hQ229
  have N229 := own_frl l229 N228 Nq229
  refine own_pre (fun t k => st229.trans k) ?_
  refine own_pre (A := (T229.setTop (mkF m 222 (own_l15 p0 p1 p2 p3 lw ln lr ar219 ar220 ar221 ae222 am222) [(.int (((14 : Int32) + lw) + ln)), (.ref am222)]))) ?_ ?_
  · intro t k
    refine XS.bipush X229.here hx rfl (hb hby at_207) ?_
    refine XS.icmpNo X229.here hx rfl (hb hby at_209) rfl (teq (by decide : (58 : Int32) = (58 : Int32))).2 ?_
    refine XS.aload X229.here hx rfl (hb hby at_212) rfl rfl ?_
    refine XS.bipush X229.here hx rfl (hb hby at_214) ?_
    refine XS.iload X229.here hx rfl (hb hby at_216) rfl ?_
    refine XS.iadd X229.here hx rfl (hb hby at_218) rfl ?_
    refine XS.iload X229.here hx rfl (hb hby at_219) rfl ?_
    refine XS.iadd X229.here hx rfl (hb hby at_221) rfl ?_
    exact k
  obtain ⟨cq230, kq230, q230a, q230b, q230c⟩ := isOf hZ225 eq229 Eq222_225
  obtain ⟨_, _, ⟨T230, L230, k230, n230⟩, -, X230, ⟨Lc230, hQ230, l230, y230, z230⟩, st230⟩ := X229.virtualBack hx (y := (⟨"java/lang/String", "charAt", "(I)C"⟩ : MethodName)) (z := (⟨"java/lang/String", "charAt", "(I)C"⟩ : MethodName)) hown225 (mvT hZ225 (own_w hw 221 rfl)) (mvT hZ225 (own_w hw 222 rfl)) (notFace_of_selects (args := #[]) (mvT hZ225 (own_w hw 224 rfl))) (mvT hZ225 (own_w hw 224 rfl)) (mvT hZ225 (own_w hw 223 rfl)) (by decide) (backOf (W := 0) (rm35 l Z a0 hw [] am222 (((14 : Int32) + lw) + ln) ad222 kq222 pn222 (List.map own_by ([99, 97, 110, 110, 111, 116, 32, 114, 101, 97, 100, 32] ++ ((own_s lw x0 x1) ++ (32 :: ((own_s ln y0 y1) ++ (58 :: 32 :: (own_s lr w0 w1))))))) (32 : Int32) pG vF T225.heap n0 Zs225 Eq222_225 Fv222_225 Fc222_225 Vq222_225 (own_c3 (x0 := x0) (x1 := x1) (y0 := y0) (y1 := y1) (w0 := w0) (w1 := w1) (d := (.int (0 : Int32))) hl_lw hl_ln hl_lr hq15).1.1 (own_c3 (x0 := x0) (x1 := x1) (y0 := y0) (y1 := y1) (w0 := w0) (w1 := w1) (d := (.int (0 : Int32))) hl_lw hl_ln hl_lr hq15).1.2 (own_c3 (x0 := x0) (x1 := x1) (y0 := y0) (y1 := y1) (w0 := w0) (w1 := w1) (d := (.int (0 : Int32))) hl_lw hl_ln hl_lr hq15).2 (by decide) O2 hG X00_225 O4 rF) hZ225 (own_w hw 225 rfl) (own_w hw 6 rfl) (by decide) (by decide)) q230a q230c (g := (mkF m 222 (own_l15 p0 p1 p2 p3 lw ln lr ar219 ar220 ar221 ae222 am222) [(.int (((14 : Int32) + lw) + ln)), (.ref am222)])) rfl (by rw [hml]; rfl) (Steps.refl _) (argsL := [(.int (((14 : Int32) + lw) + ln))]) (rest := []) (lenOf own_pd31 rfl) rfl (by show 2 * 0 + _ ≤ _; exact Nat.le_of_eq rfl) (hb hby at_222) (fun _ _ => ⟨rfl, eq229, (by decide : 32 + 0 ≤ _), (by decide : 3168 + 0 ≤ _)⟩)
  dsimp only [Pt.U, Pt.locs, Pt.cells, Pt.slots] at X230 l230 y230 z230 st230 hQ230
  replace y230 : _ = 32 := y230
  replace z230 : _ = 3168 := z230
  subst y230 z230
  obtain ⟨Nq230, rfl, eq230⟩ := hQ230
  have N230 := own_frl l230 N229 Nq230
  refine own_pre (fun t k => st230.trans k) ?_
  refine own_pre (A := (T230.setTop (mkF m 242 (own_l15 p0 p1 p2 p3 lw ln lr ar219 ar220 ar221 ae222 am222) [(.ref ar221), (.int (((15 : Int32) + lw) + ln)), (.ref am222)]))) ?_ ?_
  · intro t k
    refine XS.bipush X230.here hx rfl (hb hby at_225) ?_
    refine XS.icmpNo X230.here hx rfl (hb hby at_227) rfl (teq (by decide : (32 : Int32) = (32 : Int32))).2 ?_
    refine XS.aload X230.here hx rfl (hb hby at_230) rfl rfl ?_
    refine XS.bipush X230.here hx rfl (hb hby at_232) ?_
    refine XS.iload X230.here hx rfl (hb hby at_234) rfl ?_
    refine XS.iadd X230.here hx rfl (hb hby at_236) rfl ?_
    refine XS.iload X230.here hx rfl (hb hby at_237) rfl ?_
    refine XS.iadd X230.here hx rfl (hb hby at_239) rfl ?_
    refine XS.aload X230.here hx rfl (hb hby at_240) rfl rfl ?_
    exact k
  obtain ⟨_, _, ⟨T231, L231, k231, n231⟩, -, X231, ⟨Lc231, hQ231, l231, y231, z231⟩, st231⟩ := Jvm.LawKit.callS X230 hx (y := (⟨"com/example/sigillum/sigillum/cli/InputFilesCannotReadPinLaw", "at", "(Ljava/lang/String;ILjava/lang/String;)Z"⟩ : MethodName)) hown225 (mvT hZ225 (own_w hw 242 rfl)) (mvT hZ225 (own_w hw 243 rfl)) (mvT hZ225 (own_w hw 2 rfl)) (mvT hZ225 (own_w hw 244 rfl)) (by decide) (backOf (W := 0) (rm40 l Z a0 hw [] am222 (((15 : Int32) + lw) + ln) ar221 ad222 kq222 pn222 (List.map own_by ([99, 97, 110, 110, 111, 116, 32, 114, 101, 97, 100, 32] ++ ((own_s lw x0 x1) ++ (32 :: ((own_s ln y0 y1) ++ (58 :: 32 :: (own_s lr w0 w1))))))) ad221 kq221 lr w0 w1 pG vF T225.heap n0 Zs225 Eq222_225 Fv222_225 Fc222_225 Vq222_225 Eq221_225 Fv221_225 Fc221_225 Vq221_225 hl_lr hp_w0 hp_w1 (own_at_r (x0 := x0) (x1 := x1) (y0 := y0) (y1 := y1) (w0 := w0) (w1 := w1) (d := (.int (0 : Int32))) hl_lw hl_ln hl_lr hq15).1 (own_at_r (x0 := x0) (x1 := x1) (y0 := y0) (y1 := y1) (w0 := w0) (w1 := w1) (d := (.int (0 : Int32))) hl_lw hl_ln hl_lr hq15).2 O2 hG X00_225 O4 rF) hZ225 (own_w hw 244 rfl) (own_w hw 2 rfl) (by decide) (by decide)) (g := (mkF m 242 (own_l15 p0 p1 p2 p3 lw ln lr ar219 ar220 ar221 ae222 am222) [(.ref ar221), (.int (((15 : Int32) + lw) + ln)), (.ref am222)])) rfl (by rw [hml]; rfl) (argsL := [(.ref am222), (.int (((15 : Int32) + lw) + ln)), (.ref ar221)]) (rest := []) (lenOf own_pd35 rfl) rfl (by show 2 * 0 + _ ≤ _; exact Nat.le_of_eq rfl) (hb hby at_242) (fun _ _ => ⟨rfl, eq230, (by decide : 32 + 0 ≤ _), (by decide : 3168 + 0 ≤ _)⟩)
  dsimp only [Pt.U, Pt.locs, Pt.cells, Pt.slots] at X231 l231 y231 z231 st231 hQ231
  replace y231 : _ = 32 := y231
  replace z231 : _ = 3168 := z231
  subst y231 z231
  obtain ⟨Nq231, rfl, eq231⟩ := hQ231
  have N231 := own_frl l231 N230 Nq231
  refine own_pre (fun t k => st231 t k) ?_
  refine own_pre (A := (T231.setTop (mkF m 253 (own_l15 p0 p1 p2 p3 lw ln lr ar219 ar220 ar221 ae222 am222) [(.int (1 : Int32))]))) ?_ ?_
  · intro t k
    refine XS.ifNo X231.here hx rfl (hb hby at_245) rfl ((if0 _ _).trans (feq (by decide : ¬ ((1 : Int32) = (0 : Int32)))).1) ?_
    refine XS.iconst X231.here hx rfl (hb hby at_248) ?_
    refine XS.goto X231.here hx rfl (pc0 := 249) (pc' := 253) rfl (hb hby at_249) (by decide) (by decide) ?_
    exact k
  obtain ⟨fs, hr, hrun, hended, hRE⟩ := X231.leaveW (hlocks := BodyLoose.notSynchronized Bd) hS225 (by rw [eq231]; exact (Nat.le_refl _)) (v := some (.int (1 : Int32))) (fun h => by rw [Bd.returns] at h; cases h)
  refine ⟨_, _, retOut X231 hx Bd.returns rfl (Or.inl ⟨rfl, Or.inr (Or.inl rfl), _, rfl⟩) (hb hby at_253) hr, hrun, hended, _, _, rfl, ?_, ?_, hRE.1, hRE.2.1, hRE.2.2.1, hRE.2.2.2.mono (by decide) (by decide)⟩
  · show own_Q0 h0 n0 _ T231.heap _
    rw [eq231]
    exact ⟨rfl, N231⟩
  · show CHr Z own_EL s.vm s.heap T231.vm T231.heap
    rw [hh, eq231]
    exact CHr.trans R225 (CHv.at X231 hZ225 hEL R225.1)
set_option maxRecDepth 65536 in
set_option maxHeartbeats 40000000 in
theorem comes_1 {Post : Tables → Env → Array Value → State → Outcome → State → Prop} (hpost : ∀ tb e args s v u, (limb_1_1.after args s (.returned v) u = true ∧ limb_1_2.after args s (.returned v) u = true ∧ True) → ReturnedEndW s (.returned v) u (Jvm.fieldLocs frame_1_writes args s ++ Jvm.arrayLocs frame_1_arrays args s ++ Jvm.staticLocs frame_1_statics s) 56 10944 → Post tb e args s (.returned v) u) :
    ArmFor flags0 classFile x code maxLocals ret World_1 tables_1 room_1 Calls_1 rest_1 Pre_1 Post := by
  intro l hfl _ _ p e ha hc hk s m args below hf hA hF happ hP
  obtain ⟨hcalls, hrest, hpre⟩ := hP
  obtain ⟨-, -, -, hnamed, -, -, -, hat⟩ := (Spec.applies_iff hf).mp happ
  obtain ⟨hg, hn⟩ := and_e (Cond.before_iff.mp (show (Jvm.Cond.and given_1 narrow_1).before args s = true from hpre))
  obtain ⟨gg1, gg2⟩ := and_e hg
  obtain ⟨gg3, gg4⟩ := and_e gg2
  obtain ⟨gg5, gg6⟩ := and_e gg4
  obtain ⟨gg7, gg8⟩ := and_e gg6
  obtain ⟨w0, w1, w2, w3, rfl⟩ : ∃ w0 w1 w2 w3 : Value, args = #[w0, w1, w2, w3] := by
    have hs : args.size = 4 := by simpa [Cond.value, given_1] using gg1
    obtain ⟨L⟩ := args
    match L, hs with
    | [w0, w1, w2, w3], _ => exact ⟨w0, w1, w2, w3, rfl⟩
  have hw := fun d (hd : d ∈ tables_1) => atoms_spec (ws := Jvm.Cond.code x code maxLocals ret :: tables_1) hat d (List.mem_cons_of_mem _ hd)
  obtain ⟨hsets, hown0⟩ := atoms_of _ (rest_1_c_eq ▸ (show rest_1_c.before _ s = true from hrest))
  obtain ⟨g1, eg1⟩ := is_v (Cond.before_iff.mp (hsets _ (List.mem_of_getElem? (i := 1) rfl)))
  have O2 : Sta s s.heap "java/lang/String" "COMPACT_STRINGS" "Z" (.int g1) := Sta.start eg1 (Or.inl (hsets _ (List.mem_of_getElem? (i := 0) rfl)))
  have n5 := not_v (Cond.before_iff.mp (hsets _ (List.mem_of_getElem? (i := 2) rfl)))
  have hG : ¬ (g1 = (0 : Int32)) := gotF (Cond.eq_ints eg1 (Term.int_eval (0))) n5
  obtain ⟨vF, eF, rF⟩ := isR_v (Cond.before_iff.mp (hsets _ (List.mem_of_getElem? (i := 8) rfl)))
  have O4 : Sta s s.heap "jdk/internal/util/Preconditions" "SIOOBE_FORMATTER" "Ljava/util/function/BiFunction;" vF := Sta.start eF (Or.inl (hsets _ (List.mem_of_getElem? (i := 7) rfl)))
  have hEL : EW s _ own_EL := EW.cons (text := "cannot read ") (own_w hw 66 rfl) (by decide +kernel) (EW.cons (text := " ") (own_w hw 114 rfl) (by decide +kernel) (EW.cons (text := ": ") (own_w hw 115 rfl) (by decide +kernel) (EW.cons (text := "cannot read ") (own_w hw 220 rfl) (by decide +kernel) (EW.cons (text := "") (own_w hw 38 rfl) (by decide +kernel) (EW.nil)))))
  have hCH : CHv s own_EL s.vm s.heap := CHv.start hEL (fun p hp => hcalls.2.2.1 p hp) (hsets _ (List.mem_of_getElem? (i := 2) rfl)) (own_w hw 18 rfl) (own_w hw 14 rfl)
  have hTK : s.vm.MethodsKnown := MethodsKnown_of_tablesKnown hcalls.2.1
  have hBe : s.vm.FramesKnown below := FramesKnown_of_framesKnown hcalls.1 hf
  have hlt : l.stackTraces = true := by
    have q := Jvm.ShelfD.Launch.traces_on hfl ha
    obtain ⟨-, -, -, -, hp, -⟩ := ha
    rw [hp] at q
    exact q
  obtain ⟨vU, eU, rU⟩ := isR_v (Cond.before_iff.mp (hsets _ (List.mem_of_getElem? (i := 16) rfl)))
  have O5 : Sta s s.heap "java/lang/Throwable" "UNASSIGNED_STACK" "[Ljava/lang/StackTraceElement;" vU := Sta.start eU (Or.inl (hsets _ (List.mem_of_getElem? (i := 15) rfl)))
  obtain ⟨vS, eS, rS⟩ := isR_v (Cond.before_iff.mp (hsets _ (List.mem_of_getElem? (i := 21) rfl)))
  have O6 : Sta s s.heap "java/lang/Throwable" "SUPPRESSED_SENTINEL" "Ljava/util/List;" vS := Sta.start eS (Or.inl (hsets _ (List.mem_of_getElem? (i := 20) rfl)))
  obtain ⟨i0, ei0⟩ := is_v gg3
  obtain rfl : w0 = (.int i0) := Option.some.inj ei0
  obtain ⟨i1, ei1⟩ := is_v gg5
  obtain rfl : w1 = (.int i1) := Option.some.inj ei1
  obtain ⟨i2, ei2⟩ := is_v gg7
  obtain rfl : w2 = (.int i2) := Option.some.inj ei2
  obtain ⟨i3, ei3⟩ := is_v gg8
  obtain rfl : w3 = (.int i3) := Option.some.inj ei3
  obtain ⟨n, o, h1, h2, h3, _, L, rfl, ⟨rfl, N⟩, -, hq⟩ := rm0 l s _ hw tables_1 i0 i1 i2 i3 g1 vF vU vS s.heap s.heap.size (Nat.le_refl _) hEL O2 hG (Old.start s) O4 rF O5 rU O6 rS hlt ThS.start p e ha hc hk s m _ below hf ((Spec.applies_iff_loose hf).mp happ).1 ⟨rfl, State.Warmed39.refl s, rfl, hCH⟩ ⟨hTK, hBe⟩
  refine ⟨n, _, h1, h2, h3, hpost _ _ _ _ _ _ ⟨Cond.after_iff.mpr rfl, Cond.after_iff.mpr (eq_i res_at (Term.int_eval (1)) rfl), trivial⟩ ⟨hq.1, hq.2.1, hq.2.2.1, (hq.2.2.2.sift fun y hy => Or.inr (N y hy)).mono (by decide) (by decide)⟩⟩
theorem main_1_1 : Claimed_1_1 := comes_1 fun _ _ _ _ _ _ h hF => ⟨h.1, hF⟩
theorem main_1_2 : Claimed_1_2 := comes_1 fun _ _ _ _ _ _ h hF => ⟨h.2.1, hF⟩
end Jvm.Pilot.@@N@@
namespace Jvm.Pilot.@@N@@
open Jvm Jvm.ClassFile Sem Op Lib Jvm.Free Jvm.Stand Jvm.Pilot.@@N@@.Jvm.D
/-! MADE BY PROGRAM (witnessworld.py) out of the Statement's table words and the real class files: 42 classes; the members and pool entries that the words name. The judged class is class 1, her method 4. -/
namespace start1
open Jvm.ClassFile
def u (s : String) : CpInfo := .utf8 (stringToUtf16 s)
/-- a pool by its gaps: so many unusable entries, then the entry; so many at the end -/
def gap : Nat → List CpInfo → List CpInfo
  | 0, r => r
  | n + 1, r => .unusable :: gap n r
def poolList (es : List (Nat × CpInfo)) (last : Nat) : List CpInfo := es.foldr (fun e r => gap e.1 (e.2 :: r)) (gap last [])
def pool (es : List (Nat × CpInfo)) (last : Nat) : Array CpInfo := ⟨poolList es last⟩
def fileOf (pool : Array CpInfo) (this : Nat) (attrs : Array Attribute := #[]) (ms : Array MethodInfo := #[]) (fl : Nat := 33) (sup : Nat := 0) (ifs : Array Nat := #[]) (fds : Array FieldInfo := #[]) : ClassFile where
  minorVersion := 0
  majorVersion := 65
  constantPool := pool
  accessFlags := fl
  thisClass := this
  superClass := sup
  interfaces := ifs
  fields := fds
  methods := ms
  attributes := attrs
def plain (name : String) (sup : Option ClassId) : Class where
  name := name
  kind := .ordinary
  loader := none
  accessFlags := 33
  super := sup
  interfaces := #[]
  cf := none
  fields := #[]
  methods := #[]
  instanceTypes := #[]
  staticTypes := #[]
  resolved := #[]
  callSites := []
  init := .initialized
  statics := none
  mirror := none

def pool0 : Array CpInfo := pool [(5, u "<init>"), (0, u "()V"), (1, .class_ 10), (1, u "java/lang/Object"), (85, u "clone"), (0, u "()Ljava/lang/Object;")] 26

def k0c0 : Code := { maxStack := 0, maxLocals := 1, code := object_method_1_code, exceptionTable := #[], attributes := #[] }
def k0m0 : Method := { name := "<init>", desc := "()V", sig := { parameters := [], returnType := none }, accessFlags := 1, code := some k0c0 }
def k0m1 : Method := { name := "clone", desc := "()Ljava/lang/Object;", sig := { parameters := [], returnType := some (.object "java/lang/Object") }, accessFlags := 260, code := none }
/-- java/lang/Object -/
def k0 : Class := { plain "java/lang/Object" none with
  accessFlags := 33
  interfaces := #[]
  cf := some (fileOf pool0 8 #[] #[{ accessFlags := 1, nameIndex := 5, descriptorIndex := 6, attributes := #[] }, { accessFlags := 260, nameIndex := 96, descriptorIndex := 97, attributes := #[] }] 33 0 #[] #[])
  fields := #[]
  methods := #[k0m0, k0m1]
  instanceTypes := #[]
  staticTypes := #[]
  resolved := Array.replicate 124 none
  statics := none }

def pool1 : Array CpInfo := pool [(2, .class_ 4), (1, u "java/lang/Object"), (0, u "<init>"), (0, u "()V"), (0, .class_ 8), (0, u "java/lang/String"), (0, .methodref 7 10), (0, .nameAndType 5 11), (0, u "([C)V"), (0, .methodref 7 13), (0, .nameAndType 14 15), (0, u "valueOf"), (0, u "(C)Ljava/lang/String;"), (0, .methodref 7 17), (0, .nameAndType 18 19), (0, u "length"), (0, u "()I"), (0, .methodref 7 21), (0, .nameAndType 22 23), (0, u "charAt"), (0, u "(I)C"), (0, .string 25), (0, u "cannot read "), (0, .methodref 27 28), (0, .class_ 29), (0, .nameAndType 30 31), (0, u "com/example/sigillum/sigillum/cli/InputFilesCannotReadPinLaw"), (0, u "str"), (0, u "(ICC)Ljava/lang/String;"), (0, .methodref 33 34), (0, .class_ 35), (0, .nameAndType 36 37), (0, u "com/example/sigillum/sigillum/cli/InputFiles"), (0, u "cannotRead"), (0, u "(Ljava/lang/String;Ljava/lang/String;Ljava/lang/String;)Lcom/example/sigillum/sigillum/cli/UsageException;"), (0, .methodref 39 40), (0, .class_ 41), (0, .nameAndType 42 43), (0, u "com/example/sigillum/sigillum/cli/UsageException"), (0, u "getMessage"), (0, u "()Ljava/lang/String;"), (0, .methodref 27 45), (0, .nameAndType 46 47), (0, u "prefix"), (0, u "(Ljava/lang/String;)Z"), (0, .methodref 27 49), (0, .nameAndType 50 51), (0, u "at"), (0, u "(Ljava/lang/String;ILjava/lang/String;)Z"), (3, u "law"), (0, u "(IIII)Z")] 2

def k1m0 : Method := { name := "<init>", desc := "()V", sig := { parameters := [], returnType := none }, accessFlags := 2, code := none }
def k1c1 : Code := { maxStack := 6, maxLocals := 3, code := method_2_code, exceptionTable := #[], attributes := #[] }
def k1m1 : Method := { name := "str", desc := "(ICC)Ljava/lang/String;", sig := { parameters := [.int, .char, .char], returnType := some (.object "java/lang/String") }, accessFlags := 10, code := some k1c1 }
def k1c2 : Code := { maxStack := 3, maxLocals := 3, code := method_3_code, exceptionTable := #[], attributes := #[] }
def k1m2 : Method := { name := "at", desc := "(Ljava/lang/String;ILjava/lang/String;)Z", sig := { parameters := [(.object "java/lang/String"), .int, (.object "java/lang/String")], returnType := some .boolean }, accessFlags := 10, code := some k1c2 }
def k1c3 : Code := { maxStack := 3, maxLocals := 2, code := method_4_code, exceptionTable := #[], attributes := #[] }
def k1m3 : Method := { name := "prefix", desc := "(Ljava/lang/String;)Z", sig := { parameters := [(.object "java/lang/String")], returnType := some .boolean }, accessFlags := 10, code := some k1c3 }
def k1c4 : Code := { maxStack := 4, maxLocals := 12, code := code, exceptionTable := #[], attributes := #[] }
def k1m4 : Method := { name := "law", desc := "(IIII)Z", sig := { parameters := [.int, .int, .int, .int], returnType := some .boolean }, accessFlags := 9, code := some k1c4 }
/-- com/example/sigillum/sigillum/cli/InputFilesCannotReadPinLaw -/
def k1 : Class := { plain "com/example/sigillum/sigillum/cli/InputFilesCannotReadPinLaw" (some 0) with
  accessFlags := 49
  interfaces := #[]
  cf := some (fileOf pool1 27 #[] #[{ accessFlags := 2, nameIndex := 5, descriptorIndex := 6, attributes := #[] }, { accessFlags := 10, nameIndex := 30, descriptorIndex := 31, attributes := #[] }, { accessFlags := 10, nameIndex := 50, descriptorIndex := 51, attributes := #[] }, { accessFlags := 10, nameIndex := 46, descriptorIndex := 47, attributes := #[] }, { accessFlags := 9, nameIndex := 55, descriptorIndex := 56, attributes := #[] }] 49 2 #[] #[])
  fields := #[]
  methods := #[k1m0, k1m1, k1m2, k1m3, k1m4]
  instanceTypes := #[]
  staticTypes := #[]
  resolved := Array.replicate 59 none
  statics := none }

def pool2 : Array CpInfo := pool [(1, .class_ 2), (0, u "java/io/Serializable"), (0, .class_ 4), (0, u "java/lang/Object")] 2

/-- java/io/Serializable -/
def k2 : Class := { plain "java/io/Serializable" (some 0) with
  accessFlags := 1537
  interfaces := #[]
  cf := some (fileOf pool2 1 #[] #[] 1537 3 #[] #[])
  fields := #[]
  methods := #[]
  instanceTypes := #[]
  staticTypes := #[]
  resolved := Array.replicate 7 none
  statics := none }

def pool3 : Array CpInfo := pool [(1, .class_ 2), (0, u "java/lang/Comparable"), (0, .class_ 4), (0, u "java/lang/Object")] 7

/-- java/lang/Comparable -/
def k3 : Class := { plain "java/lang/Comparable" (some 0) with
  accessFlags := 1537
  interfaces := #[]
  cf := some (fileOf pool3 1 #[] #[] 1537 3 #[] #[])
  fields := #[]
  methods := #[]
  instanceTypes := #[]
  staticTypes := #[]
  resolved := Array.replicate 12 none
  statics := none }

def pool4 : Array CpInfo := pool [(2, .class_ 4), (1, u "java/lang/CharSequence"), (42, .class_ 48), (0, u "java/lang/CharSequence$1CodePointIterator"), (10, .class_ 60), (0, u "java/lang/CharSequence$1CharIterator"), (5, .class_ 67), (0, u "java/lang/Object")] 63

/-- java/lang/CharSequence -/
def k4 : Class := { plain "java/lang/CharSequence" (some 0) with
  accessFlags := 1537
  interfaces := #[]
  cf := some (fileOf pool4 2 #[.nestMembers #[47, 59]] #[] 1537 66 #[] #[])
  fields := #[]
  methods := #[]
  instanceTypes := #[]
  staticTypes := #[]
  resolved := Array.replicate 131 none
  statics := none }

def pool5 : Array CpInfo := pool [(1, .class_ 2), (0, u "java/lang/constant/Constable"), (0, .class_ 4), (0, u "java/lang/Object")] 6

/-- java/lang/constant/Constable -/
def k5 : Class := { plain "java/lang/constant/Constable" (some 0) with
  accessFlags := 1537
  interfaces := #[]
  cf := some (fileOf pool5 1 #[] #[] 1537 3 #[] #[])
  fields := #[]
  methods := #[]
  instanceTypes := #[]
  staticTypes := #[]
  resolved := Array.replicate 11 none
  statics := none }

def pool6 : Array CpInfo := pool [(1, .class_ 2), (0, u "java/lang/constant/ConstantDesc"), (0, .class_ 4), (0, u "java/lang/Object")] 32

/-- java/lang/constant/ConstantDesc -/
def k6 : Class := { plain "java/lang/constant/ConstantDesc" (some 0) with
  accessFlags := 1537
  interfaces := #[]
  cf := some (fileOf pool6 1 #[] #[] 1537 3 #[] #[])
  fields := #[]
  methods := #[]
  instanceTypes := #[]
  staticTypes := #[]
  resolved := Array.replicate 37 none
  statics := none }

def pool7 : Array CpInfo := pool [(1, .methodref 2 3), (0, .class_ 4), (0, .nameAndType 5 6), (0, u "java/lang/Object"), (0, u "<init>"), (0, u "()V"), (0, .string 8), (0, u ""), (0, .fieldref 10 11), (0, .class_ 12), (0, .nameAndType 13 14), (0, u "java/lang/String"), (0, u "value"), (0, u "[B"), (0, .fieldref 10 16), (0, .nameAndType 17 18), (0, u "coder"), (0, u "B"), (2, u "hash"), (0, u "I"), (2, u "hashIsZero"), (0, u "Z"), (0, .methodref 10 28), (0, .nameAndType 5 29), (0, u "([CIILjava/lang/Void;)V"), (8, .fieldref 10 39), (0, .nameAndType 40 26), (0, u "COMPACT_STRINGS"), (1, .class_ 44), (1, u "java/lang/StringUTF16"), (0, u "compress"), (1, .methodref 42 48), (0, .nameAndType 49 50), (0, u "coderFromArrayLen"), (0, u "([BI)B"), (2, u "toBytes"), (0, .methodref 55 56), (0, .class_ 57), (0, .nameAndType 58 59), (0, u "java/util/Arrays"), (0, u "copyOfRange"), (0, u "([BII)[B"), (47, .class_ 109), (1, u "java/lang/StringLatin1"), (32, u "()Z"), (34, .methodref 42 178), (0, .nameAndType 45 179), (0, u "([CII)[B"), (13, .class_ 195), (1, u "java/lang/System"), (13, .methodref 10 210), (0, .nameAndType 5 211), (0, u "([BB)V"), (0, .methodref 193 213), (0, .nameAndType 214 215), (0, u "arraycopy"), (0, u "(Ljava/lang/Object;ILjava/lang/Object;II)V"), (118, u "()I"), (0, .methodref 10 336), (0, .nameAndType 17 337), (0, u "()B"), (2, u "()[B"), (22, u "([BI)C"), (5, u "(C)Z"), (21, u "(II)V"), (35, u "(I)C"), (61, .methodref 10 490), (0, .nameAndType 5 491), (0, u "(Ljava/lang/AbstractStringBuilder;Ljava/lang/Void;)V"), (0, .methodref 10 493), (0, .nameAndType 494 142), (0, u "isLatin1"), (0, .methodref 107 496), (0, .nameAndType 497 363), (0, u "charAt"), (3, u "checkIndex"), (4, .nameAndType 507 334), (0, u "length"), (24, u "getBytes"), (16, .methodref 550 506), (0, .class_ 551), (0, u "java/lang/AbstractStringBuilder"), (0, .methodref 550 553), (0, .nameAndType 554 340), (0, u "getValue"), (20, .class_ 576), (0, u "java/lang/CharSequence"), (22, u "CASE_INSENSITIVE_ORDER"), (0, u "Ljava/util/Comparator;"), (181, u "valueOf"), (0, u "(C)Ljava/lang/String;"), (37, u "([BIB)V"), (188, u "([C)V"), (4, .methodref 107 1016), (0, .nameAndType 1017 369), (0, u "canEncode"), (0, .methodref 107 1019), (0, .nameAndType 53 1020), (0, u "(C)[B"), (26, .methodref 550 493), (5, .fieldref 1054 1055), (0, .class_ 1056), (0, .nameAndType 1057 1058), (0, u "jdk/internal/util/Preconditions"), (0, u "SIOOBE_FORMATTER"), (0, u "Ljava/util/function/BiFunction;"), (0, .methodref 1054 1060), (0, .nameAndType 501 1061), (0, u "(IILjava/util/function/BiFunction;)I"), (39, u "serialPersistentFields"), (0, u "[Ljava/io/ObjectStreamField;"), (0, .class_ 1104), (0, u "java/lang/String$CaseInsensitiveComparator"), (1, .class_ 1107), (0, u "java/io/Serializable"), (0, .class_ 1109), (0, u "java/lang/Comparable"), (0, .class_ 1111), (0, u "java/lang/constant/Constable"), (0, .class_ 1113), (0, u "java/lang/constant/ConstantDesc"), (2, u "serialVersionUID"), (0, u "J"), (3, u "REPL"), (0, u "C"), (2, u "LATIN1"), (1, u "UTF16"), (105, u "(Ljava/lang/StringBuilder;)V")] 217

def k7m0 : Method := { name := "<init>", desc := "()V", sig := { parameters := [], returnType := none }, accessFlags := 1, code := none }
def k7c1 : Code := { maxStack := 5, maxLocals := 2, code := jdk_42_method_3_code, exceptionTable := #[], attributes := #[] }
def k7m1 : Method := { name := "<init>", desc := "([C)V", sig := { parameters := [(.array .char)], returnType := none }, accessFlags := 1, code := some k7c1 }
def k7c2 : Code := { maxStack := 3, maxLocals := 2, code := jdk_42_method_53_code, exceptionTable := #[], attributes := #[] }
def k7m2 : Method := { name := "<init>", desc := "(Ljava/lang/StringBuilder;)V", sig := { parameters := [(.object "java/lang/StringBuilder")], returnType := none }, accessFlags := 1, code := some k7c2 }
def k7c3 : Code := { maxStack := 2, maxLocals := 1, code := jdk_42_method_54_code, exceptionTable := #[], attributes := #[] }
def k7m3 : Method := { name := "length", desc := "()I", sig := { parameters := [], returnType := some .int }, accessFlags := 1, code := some k7c3 }
def k7c4 : Code := { maxStack := 2, maxLocals := 2, code := jdk_42_method_56_code, exceptionTable := #[], attributes := #[] }
def k7m4 : Method := { name := "charAt", desc := "(I)C", sig := { parameters := [.int], returnType := some .char }, accessFlags := 1, code := some k7c4 }
def k7c5 : Code := { maxStack := 4, maxLocals := 1, code := jdk_42_method_139_code, exceptionTable := #[], attributes := #[] }
def k7m5 : Method := { name := "valueOf", desc := "(C)Ljava/lang/String;", sig := { parameters := [.char], returnType := some (.object "java/lang/String") }, accessFlags := 9, code := some k7c5 }
def k7c6 : Code := { maxStack := 5, maxLocals := 4, code := jdk_42_method_147_code, exceptionTable := #[], attributes := #[] }
def k7m6 : Method := { name := "getBytes", desc := "([BIB)V", sig := { parameters := [(.array .byte), .int, .byte], returnType := none }, accessFlags := 0, code := some k7c6 }
def k7c7 : Code := { maxStack := 4, maxLocals := 6, code := jdk_42_method_149_code, exceptionTable := #[], attributes := #[] }
def k7m7 : Method := { name := "<init>", desc := "([CIILjava/lang/Void;)V", sig := { parameters := [(.array .char), .int, .int, (.object "java/lang/Void")], returnType := none }, accessFlags := 2, code := some k7c7 }
def k7c8 : Code := { maxStack := 5, maxLocals := 5, code := jdk_42_method_150_code, exceptionTable := #[], attributes := #[] }
def k7m8 : Method := { name := "<init>", desc := "(Ljava/lang/AbstractStringBuilder;Ljava/lang/Void;)V", sig := { parameters := [(.object "java/lang/AbstractStringBuilder"), (.object "java/lang/Void")], returnType := none }, accessFlags := 0, code := some k7c8 }
def k7c9 : Code := { maxStack := 2, maxLocals := 3, code := jdk_42_method_151_code, exceptionTable := #[], attributes := #[] }
def k7m9 : Method := { name := "<init>", desc := "([BB)V", sig := { parameters := [(.array .byte), .byte], returnType := none }, accessFlags := 0, code := some k7c9 }
def k7c10 : Code := { maxStack := 1, maxLocals := 1, code := jdk_42_method_152_code, exceptionTable := #[], attributes := #[] }
def k7m10 : Method := { name := "coder", desc := "()B", sig := { parameters := [], returnType := some .byte }, accessFlags := 0, code := some k7c10 }
def k7c11 : Code := { maxStack := 1, maxLocals := 1, code := jdk_42_method_154_code, exceptionTable := #[], attributes := #[] }
def k7m11 : Method := { name := "isLatin1", desc := "()Z", sig := { parameters := [], returnType := some .boolean }, accessFlags := 0, code := some k7c11 }
def k7c12 : Code := { maxStack := 3, maxLocals := 2, code := jdk_42_method_155_code, exceptionTable := #[], attributes := #[] }
def k7m12 : Method := { name := "checkIndex", desc := "(II)V", sig := { parameters := [.int, .int], returnType := none }, accessFlags := 8, code := some k7c12 }
/-- java/lang/String -/
def k7 : Class := { plain "java/lang/String" (some 0) with
  accessFlags := 49
  interfaces := #[2, 3, 4, 5, 6]
  cf := some (fileOf pool7 10 #[.nestMembers #[1103]] #[{ accessFlags := 1, nameIndex := 5, descriptorIndex := 6, attributes := #[] }, { accessFlags := 1, nameIndex := 5, descriptorIndex := 1010, attributes := #[] }, { accessFlags := 1, nameIndex := 5, descriptorIndex := 1233, attributes := #[] }, { accessFlags := 1, nameIndex := 507, descriptorIndex := 334, attributes := #[] }, { accessFlags := 1, nameIndex := 497, descriptorIndex := 427, attributes := #[] }, { accessFlags := 9, nameIndex := 782, descriptorIndex := 783, attributes := #[] }, { accessFlags := 0, nameIndex := 532, descriptorIndex := 821, attributes := #[] }, { accessFlags := 2, nameIndex := 5, descriptorIndex := 29, attributes := #[] }, { accessFlags := 0, nameIndex := 5, descriptorIndex := 491, attributes := #[] }, { accessFlags := 0, nameIndex := 5, descriptorIndex := 211, attributes := #[] }, { accessFlags := 0, nameIndex := 17, descriptorIndex := 337, attributes := #[] }, { accessFlags := 0, nameIndex := 494, descriptorIndex := 142, attributes := #[] }, { accessFlags := 8, nameIndex := 501, descriptorIndex := 391, attributes := #[] }] 49 2 #[1106, 1108, 575, 1110, 1112] #[{ accessFlags := 18, nameIndex := 13, descriptorIndex := 14, attributes := #[] }, { accessFlags := 18, nameIndex := 17, descriptorIndex := 18, attributes := #[] }, { accessFlags := 2, nameIndex := 21, descriptorIndex := 22, attributes := #[] }, { accessFlags := 2, nameIndex := 25, descriptorIndex := 26, attributes := #[] }, { accessFlags := 26, nameIndex := 1116, descriptorIndex := 1117, attributes := #[] }, { accessFlags := 24, nameIndex := 40, descriptorIndex := 26, attributes := #[] }, { accessFlags := 26, nameIndex := 1101, descriptorIndex := 1102, attributes := #[] }, { accessFlags := 26, nameIndex := 1121, descriptorIndex := 1122, attributes := #[] }, { accessFlags := 25, nameIndex := 599, descriptorIndex := 600, attributes := #[] }, { accessFlags := 24, nameIndex := 1125, descriptorIndex := 18, attributes := #[] }, { accessFlags := 24, nameIndex := 1127, descriptorIndex := 18, attributes := #[] }])
  fields := #[{ name := "value", type := (.array .byte), accessFlags := 18, slot := 0, constantValue := 0 }, { name := "coder", type := .byte, accessFlags := 18, slot := 1, constantValue := 0 }, { name := "hash", type := .int, accessFlags := 2, slot := 2, constantValue := 0 }, { name := "hashIsZero", type := .boolean, accessFlags := 2, slot := 3, constantValue := 0 }, { name := "serialVersionUID", type := .long, accessFlags := 26, slot := 0, constantValue := 0 }, { name := "COMPACT_STRINGS", type := .boolean, accessFlags := 24, slot := 1, constantValue := 0 }, { name := "serialPersistentFields", type := (.array (.object "java/io/ObjectStreamField")), accessFlags := 26, slot := 2, constantValue := 0 }, { name := "REPL", type := .char, accessFlags := 26, slot := 3, constantValue := 0 }, { name := "CASE_INSENSITIVE_ORDER", type := (.object "java/util/Comparator"), accessFlags := 25, slot := 4, constantValue := 0 }, { name := "LATIN1", type := .byte, accessFlags := 24, slot := 5, constantValue := 0 }, { name := "UTF16", type := .byte, accessFlags := 24, slot := 6, constantValue := 0 }]
  methods := #[k7m0, k7m1, k7m2, k7m3, k7m4, k7m5, k7m6, k7m7, k7m8, k7m9, k7m10, k7m11, k7m12]
  instanceTypes := #[(.array .byte), .byte, .int, .boolean]
  staticTypes := #[.long, .boolean, (.array (.object "java/io/ObjectStreamField")), .char, (.object "java/util/Comparator"), .byte, .byte]
  resolved := Array.replicate 1451 none
  statics := some 0 }

def pool8 : Array CpInfo := pool [(1, .class_ 2), (0, u "java/lang/String"), (1, .class_ 6), (1, u "java/lang/Object"), (0, u "<init>"), (0, u "()V"), (0, .methodref 1 10), (0, .nameAndType 11 12), (0, u "checkIndex"), (0, u "(II)V"), (1, .class_ 16), (1, u "java/lang/StringLatin1"), (36, u "([BI)C"), (36, u "canEncode"), (14, u "(C)Z"), (15, u "$assertionsDisabled"), (0, u "Z"), (98, .class_ 223), (1, u "java/lang/StringLatin1$LinesSpliterator"), (28, u "charAt"), (127, u "toBytes"), (1, u "(C)[B"), (7, .class_ 391), (0, u "java/lang/StringLatin1$CharsSpliterator")] 3

def k8m0 : Method := { name := "<init>", desc := "()V", sig := { parameters := [], returnType := none }, accessFlags := 0, code := none }
def k8c1 : Code := { maxStack := 2, maxLocals := 2, code := jdk_43_method_2_code, exceptionTable := #[], attributes := #[] }
def k8m1 : Method := { name := "charAt", desc := "([BI)C", sig := { parameters := [(.array .byte), .int], returnType := some .char }, accessFlags := 9, code := some k8c1 }
def k8c2 : Code := { maxStack := 2, maxLocals := 1, code := jdk_43_method_3_code, exceptionTable := #[], attributes := #[] }
def k8m2 : Method := { name := "canEncode", desc := "(C)Z", sig := { parameters := [.char], returnType := some .boolean }, accessFlags := 9, code := some k8c2 }
def k8c3 : Code := { maxStack := 4, maxLocals := 1, code := jdk_43_method_46_code, exceptionTable := #[], attributes := #[] }
def k8m3 : Method := { name := "toBytes", desc := "(C)[B", sig := { parameters := [.char], returnType := some (.array .byte) }, accessFlags := 9, code := some k8c3 }
/-- java/lang/StringLatin1 -/
def k8 : Class := { plain "java/lang/StringLatin1" (some 0) with
  accessFlags := 48
  interfaces := #[]
  cf := some (fileOf pool8 14 #[.nestMembers #[390, 221]] #[{ accessFlags := 0, nameIndex := 7, descriptorIndex := 8, attributes := #[] }, { accessFlags := 9, nameIndex := 252, descriptorIndex := 53, attributes := #[] }, { accessFlags := 9, nameIndex := 90, descriptorIndex := 105, attributes := #[] }, { accessFlags := 9, nameIndex := 380, descriptorIndex := 382, attributes := #[] }] 48 4 #[] #[{ accessFlags := 4120, nameIndex := 121, descriptorIndex := 122, attributes := #[] }])
  fields := #[{ name := "$assertionsDisabled", type := .boolean, accessFlags := 4120, slot := 0, constantValue := 0 }]
  methods := #[k8m0, k8m1, k8m2, k8m3]
  instanceTypes := #[]
  staticTypes := #[.boolean]
  resolved := Array.replicate 395 none
  statics := none }

def pool9 : Array CpInfo := pool [(2, .class_ 4), (0, .nameAndType 5 6), (0, u "java/lang/Object"), (0, u "<init>"), (0, u "()V"), (1, .class_ 10), (1, u "com/example/sigillum/sigillum/cli/InputFiles"), (14, u "cannotRead"), (0, u "(Ljava/lang/String;Ljava/lang/String;Ljava/lang/String;)Lcom/example/sigillum/sigillum/cli/UsageException;"), (61, u "()Ljava/lang/String;"), (9, .class_ 99), (0, u "com/example/sigillum/sigillum/cli/UsageException"), (0, .class_ 101), (0, u "java/lang/StringBuilder"), (0, .methodref 100 3), (0, .string 104), (0, u "cannot read "), (0, .methodref 100 106), (0, .nameAndType 107 108), (0, u "append"), (0, u "(Ljava/lang/String;)Ljava/lang/StringBuilder;"), (0, .string 110), (0, u " "), (0, .string 112), (0, u ": "), (0, .methodref 100 114), (0, .nameAndType 115 88), (0, u "toString"), (0, .methodref 98 117), (0, .nameAndType 5 118), (0, u "(Ljava/lang/String;)V"), (0, u "MAX_BYTES"), (0, u "I")] 15

def k9m0 : Method := { name := "<init>", desc := "()V", sig := { parameters := [], returnType := none }, accessFlags := 2, code := none }
def k9c1 : Code := { maxStack := 4, maxLocals := 3, code := prog_4_method_6_code, exceptionTable := #[], attributes := #[] }
def k9m1 : Method := { name := "cannotRead", desc := "(Ljava/lang/String;Ljava/lang/String;Ljava/lang/String;)Lcom/example/sigillum/sigillum/cli/UsageException;", sig := { parameters := [(.object "java/lang/String"), (.object "java/lang/String"), (.object "java/lang/String")], returnType := some (.object "com/example/sigillum/sigillum/cli/UsageException") }, accessFlags := 8, code := some k9c1 }
/-- com/example/sigillum/sigillum/cli/InputFiles -/
def k9 : Class := { plain "com/example/sigillum/sigillum/cli/InputFiles" (some 0) with
  accessFlags := 48
  interfaces := #[]
  cf := some (fileOf pool9 8 #[] #[{ accessFlags := 2, nameIndex := 5, descriptorIndex := 6, attributes := #[] }, { accessFlags := 8, nameIndex := 25, descriptorIndex := 26, attributes := #[] }] 48 2 #[] #[{ accessFlags := 24, nameIndex := 119, descriptorIndex := 120, attributes := #[] }])
  fields := #[{ name := "MAX_BYTES", type := .int, accessFlags := 24, slot := 0, constantValue := 0 }]
  methods := #[k9m0, k9m1]
  instanceTypes := #[]
  staticTypes := #[.int]
  resolved := Array.replicate 136 none
  statics := none }

def pool10 : Array CpInfo := pool [(1, .methodref 2 3), (0, .class_ 4), (0, .nameAndType 5 6), (0, u "java/lang/Object"), (0, u "<init>"), (0, u "()V"), (0, .fieldref 8 9), (0, .class_ 10), (0, .nameAndType 11 12), (0, u "java/lang/Throwable"), (0, u "cause"), (0, u "Ljava/lang/Throwable;"), (0, .fieldref 8 14), (0, .nameAndType 15 16), (0, u "UNASSIGNED_STACK"), (0, u "[Ljava/lang/StackTraceElement;"), (0, .fieldref 8 18), (0, .nameAndType 19 16), (0, u "stackTrace"), (0, .fieldref 8 21), (0, .nameAndType 22 23), (0, u "SUPPRESSED_SENTINEL"), (0, u "Ljava/util/List;"), (0, .fieldref 8 25), (0, .nameAndType 26 23), (0, u "suppressedExceptions"), (0, .methodref 8 28), (0, .nameAndType 29 30), (0, u "fillInStackTrace"), (0, u "()Ljava/lang/Throwable;"), (0, .fieldref 8 32), (0, .nameAndType 33 34), (0, u "detailMessage"), (0, u "Ljava/lang/String;"), (3, u "()Ljava/lang/String;"), (2, u "getMessage"), (51, .class_ 94), (0, u "java/lang/Throwable$WrappedPrintStream"), (6, .class_ 103), (1, u "java/lang/Throwable$PrintStreamOrWriter"), (61, u "$assertionsDisabled"), (0, u "Z"), (26, .class_ 194), (0, u "java/lang/Throwable$WrappedPrintWriter"), (3, .fieldref 8 199), (0, .nameAndType 200 201), (0, u "backtrace"), (0, u "Ljava/lang/Object;"), (0, .methodref 8 203), (0, .nameAndType 29 204), (0, u "(I)Ljava/lang/Throwable;"), (6, u "depth"), (0, u "I"), (10, u "(Ljava/lang/String;)V"), (45, .class_ 271), (1, u "java/lang/Throwable$SentinelHolder"), (32, u "EMPTY_THROWABLE_ARRAY"), (0, u "[Ljava/lang/Throwable;"), (12, .class_ 319), (0, u "java/io/Serializable"), (0, u "serialVersionUID"), (0, u "J"), (5, u "NULL_CAUSE_MESSAGE"), (0, u "SELF_SUPPRESSION_MESSAGE"), (0, u "CAUSE_CAPTION"), (0, u "SUPPRESSED_CAPTION")] 73

def k10c0 : Code := { maxStack := 2, maxLocals := 1, code := jdk_78_method_1_code, exceptionTable := #[], attributes := #[] }
def k10m0 : Method := { name := "<init>", desc := "()V", sig := { parameters := [], returnType := none }, accessFlags := 1, code := some k10c0 }
def k10c1 : Code := { maxStack := 2, maxLocals := 2, code := jdk_78_method_2_code, exceptionTable := #[], attributes := #[] }
def k10m1 : Method := { name := "<init>", desc := "(Ljava/lang/String;)V", sig := { parameters := [(.object "java/lang/String")], returnType := none }, accessFlags := 1, code := some k10c1 }
def k10c2 : Code := { maxStack := 1, maxLocals := 1, code := jdk_78_method_6_code, exceptionTable := #[], attributes := #[] }
def k10m2 : Method := { name := "getMessage", desc := "()Ljava/lang/String;", sig := { parameters := [], returnType := some (.object "java/lang/String") }, accessFlags := 1, code := some k10c2 }
def k10c3 : Code := { maxStack := 2, maxLocals := 1, code := ⟨#[0x2a, 0xb4, 0x00, 0x11, 0xc7, 0x00, 0x0a, 0x2a, 0xb4, 0x00, 0xc6, 0xc6, 0x00, 0x10, 0x2a, 0x03, 0xb6, 0x00, 0xca, 0x57, 0x2a, 0xb2, 0x00, 0x0d, 0xb5, 0x00, 0x11, 0x2a, 0xb0]⟩, exceptionTable := #[], attributes := #[] }
def k10m3 : Method := { name := "fillInStackTrace", desc := "()Ljava/lang/Throwable;", sig := { parameters := [], returnType := some (.object "java/lang/Throwable") }, accessFlags := 33, code := some k10c3 }
def k10m4 : Method := { name := "fillInStackTrace", desc := "(I)Ljava/lang/Throwable;", sig := { parameters := [.int], returnType := some (.object "java/lang/Throwable") }, accessFlags := 258, code := none }
/-- java/lang/Throwable -/
def k10 : Class := { plain "java/lang/Throwable" (some 0) with
  accessFlags := 33
  interfaces := #[2]
  cf := some (fileOf pool10 8 #[.nestMembers #[193, 93, 101, 269]] #[{ accessFlags := 1, nameIndex := 5, descriptorIndex := 6, attributes := #[] }, { accessFlags := 1, nameIndex := 5, descriptorIndex := 223, attributes := #[] }, { accessFlags := 1, nameIndex := 41, descriptorIndex := 38, attributes := #[] }, { accessFlags := 33, nameIndex := 29, descriptorIndex := 30, attributes := #[] }, { accessFlags := 258, nameIndex := 29, descriptorIndex := 204, attributes := #[] }] 33 2 #[318] #[{ accessFlags := 26, nameIndex := 320, descriptorIndex := 321, attributes := #[] }, { accessFlags := 130, nameIndex := 200, descriptorIndex := 201, attributes := #[] }, { accessFlags := 2, nameIndex := 33, descriptorIndex := 34, attributes := #[] }, { accessFlags := 26, nameIndex := 15, descriptorIndex := 16, attributes := #[] }, { accessFlags := 2, nameIndex := 11, descriptorIndex := 12, attributes := #[] }, { accessFlags := 2, nameIndex := 19, descriptorIndex := 16, attributes := #[] }, { accessFlags := 130, nameIndex := 211, descriptorIndex := 212, attributes := #[] }, { accessFlags := 26, nameIndex := 22, descriptorIndex := 23, attributes := #[] }, { accessFlags := 2, nameIndex := 26, descriptorIndex := 23, attributes := #[] }, { accessFlags := 26, nameIndex := 327, descriptorIndex := 34, attributes := #[] }, { accessFlags := 26, nameIndex := 328, descriptorIndex := 34, attributes := #[] }, { accessFlags := 26, nameIndex := 329, descriptorIndex := 34, attributes := #[] }, { accessFlags := 26, nameIndex := 330, descriptorIndex := 34, attributes := #[] }, { accessFlags := 26, nameIndex := 304, descriptorIndex := 305, attributes := #[] }, { accessFlags := 4120, nameIndex := 165, descriptorIndex := 166, attributes := #[] }])
  fields := #[{ name := "serialVersionUID", type := .long, accessFlags := 26, slot := 0, constantValue := 0 }, { name := "backtrace", type := (.object "java/lang/Object"), accessFlags := 130, slot := 0, constantValue := 0 }, { name := "detailMessage", type := (.object "java/lang/String"), accessFlags := 2, slot := 1, constantValue := 0 }, { name := "UNASSIGNED_STACK", type := (.array (.object "java/lang/StackTraceElement")), accessFlags := 26, slot := 1, constantValue := 0 }, { name := "cause", type := (.object "java/lang/Throwable"), accessFlags := 2, slot := 2, constantValue := 0 }, { name := "stackTrace", type := (.array (.object "java/lang/StackTraceElement")), accessFlags := 2, slot := 3, constantValue := 0 }, { name := "depth", type := .int, accessFlags := 130, slot := 4, constantValue := 0 }, { name := "SUPPRESSED_SENTINEL", type := (.object "java/util/List"), accessFlags := 26, slot := 2, constantValue := 0 }, { name := "suppressedExceptions", type := (.object "java/util/List"), accessFlags := 2, slot := 5, constantValue := 0 }, { name := "NULL_CAUSE_MESSAGE", type := (.object "java/lang/String"), accessFlags := 26, slot := 3, constantValue := 0 }, { name := "SELF_SUPPRESSION_MESSAGE", type := (.object "java/lang/String"), accessFlags := 26, slot := 4, constantValue := 0 }, { name := "CAUSE_CAPTION", type := (.object "java/lang/String"), accessFlags := 26, slot := 5, constantValue := 0 }, { name := "SUPPRESSED_CAPTION", type := (.object "java/lang/String"), accessFlags := 26, slot := 6, constantValue := 0 }, { name := "EMPTY_THROWABLE_ARRAY", type := (.array (.object "java/lang/Throwable")), accessFlags := 26, slot := 7, constantValue := 0 }, { name := "$assertionsDisabled", type := .boolean, accessFlags := 4120, slot := 8, constantValue := 0 }]
  methods := #[k10m0, k10m1, k10m2, k10m3, k10m4]
  instanceTypes := #[(.object "java/lang/Object"), (.object "java/lang/String"), (.object "java/lang/Throwable"), (.array (.object "java/lang/StackTraceElement")), .int, (.object "java/util/List")]
  staticTypes := #[.long, (.array (.object "java/lang/StackTraceElement")), (.object "java/util/List"), (.object "java/lang/String"), (.object "java/lang/String"), (.object "java/lang/String"), (.object "java/lang/String"), (.array (.object "java/lang/Throwable")), .boolean]
  resolved := Array.replicate 404 none
  statics := some 1 }

def pool11 : Array CpInfo := pool [(2, .class_ 4), (1, u "java/lang/Throwable"), (0, u "<init>"), (0, u "()V"), (0, .methodref 2 8), (0, .nameAndType 5 9), (0, u "(Ljava/lang/String;)V"), (9, .class_ 20), (0, u "java/lang/Exception"), (0, u "serialVersionUID"), (0, u "J")] 17

def k11m0 : Method := { name := "<init>", desc := "()V", sig := { parameters := [], returnType := none }, accessFlags := 1, code := none }
def k11c1 : Code := { maxStack := 2, maxLocals := 2, code := jdk_59_method_2_code, exceptionTable := #[], attributes := #[] }
def k11m1 : Method := { name := "<init>", desc := "(Ljava/lang/String;)V", sig := { parameters := [(.object "java/lang/String")], returnType := none }, accessFlags := 1, code := some k11c1 }
/-- java/lang/Exception -/
def k11 : Class := { plain "java/lang/Exception" (some 10) with
  accessFlags := 33
  interfaces := #[]
  cf := some (fileOf pool11 19 #[] #[{ accessFlags := 1, nameIndex := 5, descriptorIndex := 6, attributes := #[] }, { accessFlags := 1, nameIndex := 5, descriptorIndex := 9, attributes := #[] }] 33 2 #[] #[{ accessFlags := 24, nameIndex := 21, descriptorIndex := 22, attributes := #[] }])
  fields := #[{ name := "serialVersionUID", type := .long, accessFlags := 24, slot := 0, constantValue := 0 }]
  methods := #[k11m0, k11m1]
  instanceTypes := #[(.object "java/lang/Object"), (.object "java/lang/String"), (.object "java/lang/Throwable"), (.array (.object "java/lang/StackTraceElement")), .int, (.object "java/util/List")]
  staticTypes := #[.long]
  resolved := Array.replicate 40 none
  statics := none }

def pool12 : Array CpInfo := pool [(1, .methodref 2 3), (0, .class_ 4), (0, .nameAndType 5 6), (0, u "java/lang/Exception"), (0, u "<init>"), (0, u "(Ljava/lang/String;)V"), (0, .class_ 8), (0, u "com/example/sigillum/sigillum/cli/UsageException"), (0, u "serialVersionUID"), (0, u "J")] 7

def k12c0 : Code := { maxStack := 2, maxLocals := 2, code := prog_8_method_1_code, exceptionTable := #[], attributes := #[] }
def k12m0 : Method := { name := "<init>", desc := "(Ljava/lang/String;)V", sig := { parameters := [(.object "java/lang/String")], returnType := none }, accessFlags := 0, code := some k12c0 }
/-- com/example/sigillum/sigillum/cli/UsageException -/
def k12 : Class := { plain "com/example/sigillum/sigillum/cli/UsageException" (some 11) with
  accessFlags := 48
  interfaces := #[]
  cf := some (fileOf pool12 7 #[] #[{ accessFlags := 0, nameIndex := 5, descriptorIndex := 6, attributes := #[] }] 48 2 #[] #[{ accessFlags := 26, nameIndex := 9, descriptorIndex := 10, attributes := #[] }])
  fields := #[{ name := "serialVersionUID", type := .long, accessFlags := 26, slot := 0, constantValue := 0 }]
  methods := #[k12m0]
  instanceTypes := #[(.object "java/lang/Object"), (.object "java/lang/String"), (.object "java/lang/Throwable"), (.array (.object "java/lang/StackTraceElement")), .int, (.object "java/util/List")]
  staticTypes := #[.long]
  resolved := Array.replicate 18 none
  statics := none }

def pool13 : Array CpInfo := pool [(1, .class_ 2), (0, u "java/lang/Appendable"), (0, .class_ 4), (0, u "java/lang/Object")] 9

/-- java/lang/Appendable -/
def k13 : Class := { plain "java/lang/Appendable" (some 0) with
  accessFlags := 1537
  interfaces := #[]
  cf := some (fileOf pool13 1 #[] #[] 1537 3 #[] #[])
  fields := #[]
  methods := #[]
  instanceTypes := #[]
  staticTypes := #[]
  resolved := Array.replicate 14 none
  statics := none }

def pool14 : Array CpInfo := pool [(1, .class_ 2), (0, u "java/lang/String"), (0, .methodref 4 5), (0, .class_ 6), (0, .nameAndType 7 8), (0, u "java/lang/Object"), (0, u "<init>"), (0, u "()V"), (1, .class_ 12), (1, u "java/lang/AbstractStringBuilder"), (0, u "EMPTYVALUE"), (0, u "[B"), (0, .fieldref 10 16), (0, .nameAndType 17 14), (0, u "value"), (0, .fieldref 1 19), (0, .nameAndType 20 21), (0, u "COMPACT_STRINGS"), (0, u "Z"), (0, .fieldref 10 23), (0, .nameAndType 24 25), (0, u "coder"), (0, u "B"), (6, .methodref 1 33), (0, .nameAndType 34 35), (0, u "length"), (0, u "()I"), (3, .integer 2147483647), (0, .methodref 1 41), (0, .nameAndType 24 42), (0, u "()B"), (2, u "append"), (0, u "(Ljava/lang/String;)Ljava/lang/AbstractStringBuilder;"), (1, .class_ 49), (0, u "java/lang/CharSequence"), (19, u "(Ljava/lang/String;)V"), (5, u "maybeLatin1"), (3, .fieldref 10 80), (0, .nameAndType 81 82), (0, u "count"), (0, u "I"), (2, u "isLatin1"), (0, u "()Z"), (13, .methodref 10 101), (0, .nameAndType 102 103), (0, u "ensureCapacityInternal"), (0, u "(I)V"), (0, .methodref 10 105), (0, .nameAndType 106 107), (0, u "newCapacity"), (0, u "(I)I"), (0, .methodref 109 110), (0, .class_ 111), (0, .nameAndType 112 113), (0, u "java/util/Arrays"), (0, u "copyOf"), (0, u "([BI)[B"), (0, .methodref 115 116), (0, .class_ 117), (0, .nameAndType 118 119), (0, u "jdk/internal/util/ArraysSupport"), (0, u "newLength"), (0, u "(III)I"), (88, .methodref 10 209), (0, .nameAndType 210 211), (0, u "putStringAt"), (0, u "(ILjava/lang/String;)V"), (5, u "inflateIfNeededFor"), (2, .nameAndType 221 222), (0, u "getBytes"), (0, u "([BIB)V"), (174, .methodref 10 398), (0, .nameAndType 217 69), (0, .methodref 1 220), (3, u "()[B"), (40, .class_ 445), (0, u "java/lang/Appendable"), (106, u "getValue")] 56

def k14m0 : Method := { name := "<init>", desc := "()V", sig := { parameters := [], returnType := none }, accessFlags := 0, code := none }
def k14c1 : Code := { maxStack := 2, maxLocals := 2, code := jdk_68_method_2_code, exceptionTable := #[], attributes := #[] }
def k14m1 : Method := { name := "<init>", desc := "(I)V", sig := { parameters := [.int], returnType := none }, accessFlags := 0, code := some k14c1 }
def k14c2 : Code := { maxStack := 1, maxLocals := 1, code := jdk_68_method_6_code, exceptionTable := #[], attributes := #[] }
def k14m2 : Method := { name := "length", desc := "()I", sig := { parameters := [], returnType := some .int }, accessFlags := 1, code := some k14c2 }
def k14c3 : Code := { maxStack := 4, maxLocals := 3, code := jdk_68_method_9_code, exceptionTable := #[], attributes := #[] }
def k14m3 : Method := { name := "ensureCapacityInternal", desc := "(I)V", sig := { parameters := [.int], returnType := none }, accessFlags := 2, code := some k14c3 }
def k14c4 : Code := { maxStack := 5, maxLocals := 6, code := jdk_68_method_10_code, exceptionTable := #[], attributes := #[] }
def k14m4 : Method := { name := "newCapacity", desc := "(I)I", sig := { parameters := [.int], returnType := some .int }, accessFlags := 2, code := some k14c4 }
def k14c5 : Code := { maxStack := 3, maxLocals := 3, code := jdk_68_method_22_code, exceptionTable := #[], attributes := #[] }
def k14m5 : Method := { name := "append", desc := "(Ljava/lang/String;)Ljava/lang/AbstractStringBuilder;", sig := { parameters := [(.object "java/lang/String")], returnType := some (.object "java/lang/AbstractStringBuilder") }, accessFlags := 1, code := some k14c5 }
def k14c6 : Code := { maxStack := 1, maxLocals := 1, code := jdk_68_method_64_code, exceptionTable := #[], attributes := #[] }
def k14m6 : Method := { name := "getValue", desc := "()[B", sig := { parameters := [], returnType := some (.array .byte) }, accessFlags := 16, code := some k14c6 }
def k14c7 : Code := { maxStack := 1, maxLocals := 1, code := jdk_68_method_68_code, exceptionTable := #[], attributes := #[] }
def k14m7 : Method := { name := "isLatin1", desc := "()Z", sig := { parameters := [], returnType := some .boolean }, accessFlags := 16, code := some k14c7 }
def k14c8 : Code := { maxStack := 2, maxLocals := 2, code := jdk_68_method_71_code, exceptionTable := #[], attributes := #[] }
def k14m8 : Method := { name := "inflateIfNeededFor", desc := "(Ljava/lang/String;)V", sig := { parameters := [(.object "java/lang/String")], returnType := none }, accessFlags := 2, code := some k14c8 }
def k14c9 : Code := { maxStack := 4, maxLocals := 3, code := jdk_68_method_73_code, exceptionTable := #[], attributes := #[] }
def k14m9 : Method := { name := "putStringAt", desc := "(ILjava/lang/String;)V", sig := { parameters := [.int, (.object "java/lang/String")], returnType := none }, accessFlags := 2, code := some k14c9 }
/-- java/lang/AbstractStringBuilder -/
def k14 : Class := { plain "java/lang/AbstractStringBuilder" (some 0) with
  accessFlags := 1056
  interfaces := #[13, 4]
  cf := some (fileOf pool14 10 #[] #[{ accessFlags := 0, nameIndex := 7, descriptorIndex := 8, attributes := #[] }, { accessFlags := 0, nameIndex := 7, descriptorIndex := 103, attributes := #[] }, { accessFlags := 1, nameIndex := 34, descriptorIndex := 35, attributes := #[] }, { accessFlags := 2, nameIndex := 102, descriptorIndex := 103, attributes := #[] }, { accessFlags := 2, nameIndex := 106, descriptorIndex := 107, attributes := #[] }, { accessFlags := 1, nameIndex := 45, descriptorIndex := 46, attributes := #[] }, { accessFlags := 16, nameIndex := 552, descriptorIndex := 403, attributes := #[] }, { accessFlags := 16, nameIndex := 85, descriptorIndex := 86, attributes := #[] }, { accessFlags := 2, nameIndex := 217, descriptorIndex := 69, attributes := #[] }, { accessFlags := 2, nameIndex := 210, descriptorIndex := 211, attributes := #[] }] 1056 4 #[444, 48] #[{ accessFlags := 0, nameIndex := 17, descriptorIndex := 14, attributes := #[] }, { accessFlags := 0, nameIndex := 24, descriptorIndex := 25, attributes := #[] }, { accessFlags := 0, nameIndex := 75, descriptorIndex := 21, attributes := #[] }, { accessFlags := 0, nameIndex := 81, descriptorIndex := 82, attributes := #[] }, { accessFlags := 26, nameIndex := 13, descriptorIndex := 14, attributes := #[] }])
  fields := #[{ name := "value", type := (.array .byte), accessFlags := 0, slot := 0, constantValue := 0 }, { name := "coder", type := .byte, accessFlags := 0, slot := 1, constantValue := 0 }, { name := "maybeLatin1", type := .boolean, accessFlags := 0, slot := 2, constantValue := 0 }, { name := "count", type := .int, accessFlags := 0, slot := 3, constantValue := 0 }, { name := "EMPTYVALUE", type := (.array .byte), accessFlags := 26, slot := 0, constantValue := 0 }]
  methods := #[k14m0, k14m1, k14m2, k14m3, k14m4, k14m5, k14m6, k14m7, k14m8, k14m9]
  instanceTypes := #[(.array .byte), .byte, .boolean, .int]
  staticTypes := #[(.array .byte)]
  resolved := Array.replicate 609 none
  statics := none }

def pool15 : Array CpInfo := pool [(1, .methodref 2 3), (0, .class_ 4), (0, .nameAndType 5 6), (0, u "java/lang/AbstractStringBuilder"), (0, u "<init>"), (0, u "(I)V"), (11, .class_ 20), (1, u "java/lang/String"), (3, .class_ 26), (1, u "java/lang/StringBuilder"), (0, u "append"), (0, u "(Ljava/lang/String;)Ljava/lang/StringBuilder;"), (0, .methodref 2 30), (0, .nameAndType 27 31), (0, u "(Ljava/lang/String;)Ljava/lang/AbstractStringBuilder;"), (105, .methodref 18 138), (0, .nameAndType 5 139), (0, u "(Ljava/lang/StringBuilder;)V"), (5, u "()V"), (10, u "()I"), (186, .methodref 2 344), (0, .nameAndType 345 156), (0, u "length"), (3, .class_ 350), (0, u "java/lang/Appendable"), (0, .class_ 352), (0, u "java/io/Serializable"), (0, .class_ 354), (0, u "java/lang/Comparable"), (0, .class_ 356), (0, u "java/lang/CharSequence"), (0, u "serialVersionUID"), (0, u "J"), (40, u "toString"), (0, u "()Ljava/lang/String;")] 21

def k15c0 : Code := { maxStack := 2, maxLocals := 1, code := jdk_67_method_1_code, exceptionTable := #[], attributes := #[] }
def k15m0 : Method := { name := "<init>", desc := "()V", sig := { parameters := [], returnType := none }, accessFlags := 1, code := some k15c0 }
def k15c1 : Code := { maxStack := 2, maxLocals := 2, code := jdk_67_method_7_code, exceptionTable := #[], attributes := #[] }
def k15m1 : Method := { name := "append", desc := "(Ljava/lang/String;)Ljava/lang/StringBuilder;", sig := { parameters := [(.object "java/lang/String")], returnType := some (.object "java/lang/StringBuilder") }, accessFlags := 1, code := some k15c1 }
def k15c2 : Code := { maxStack := 3, maxLocals := 1, code := jdk_67_method_42_code, exceptionTable := #[], attributes := #[] }
def k15m2 : Method := { name := "toString", desc := "()Ljava/lang/String;", sig := { parameters := [], returnType := some (.object "java/lang/String") }, accessFlags := 1, code := some k15c2 }
def k15c3 : Code := { maxStack := 1, maxLocals := 1, code := jdk_67_method_93_code, exceptionTable := #[], attributes := #[] }
def k15m3 : Method := { name := "length", desc := "()I", sig := { parameters := [], returnType := some .int }, accessFlags := 4161, code := some k15c3 }
/-- java/lang/StringBuilder -/
def k15 : Class := { plain "java/lang/StringBuilder" (some 14) with
  accessFlags := 49
  interfaces := #[13, 2, 3, 4]
  cf := some (fileOf pool15 24 #[] #[{ accessFlags := 1, nameIndex := 5, descriptorIndex := 145, attributes := #[] }, { accessFlags := 1, nameIndex := 27, descriptorIndex := 28, attributes := #[] }, { accessFlags := 1, nameIndex := 399, descriptorIndex := 400, attributes := #[] }, { accessFlags := 4161, nameIndex := 345, descriptorIndex := 156, attributes := #[] }] 49 2 #[349, 351, 353, 355] #[{ accessFlags := 24, nameIndex := 357, descriptorIndex := 358, attributes := #[] }])
  fields := #[{ name := "serialVersionUID", type := .long, accessFlags := 24, slot := 0, constantValue := 0 }]
  methods := #[k15m0, k15m1, k15m2, k15m3]
  instanceTypes := #[(.array .byte), .byte, .boolean, .int]
  staticTypes := #[.long]
  resolved := Array.replicate 422 none
  statics := none }

def pool16 : Array CpInfo := pool [(2, .class_ 4), (1, u "java/lang/Object"), (0, u "<init>"), (0, u "()V"), (1, .class_ 10), (1, u "java/lang/System"), (0, u "allowSecurityManager"), (0, u "I"), (16, u "cons"), (0, u "Ljava/io/Console;"), (77, .class_ 110), (1, u "java/lang/System$CallersHolder"), (43, u "initialErrStream"), (0, u "Ljava/io/PrintStream;"), (19, u "security"), (0, u "Ljava/lang/SecurityManager;"), (31, .class_ 209), (0, u "java/lang/System$1"), (7, u "props"), (0, u "Ljava/util/Properties;"), (2, u "lineSeparator"), (0, u "Ljava/lang/String;"), (96, .class_ 321), (1, u "java/lang/System$LoggerFinder"), (5, .class_ 328), (0, u "java/lang/System$Logger"), (67, u "err"), (2, u "out"), (91, u "notSupportedJnuEncoding"), (15, u "in"), (17, u "initialIn"), (0, u "Ljava/io/InputStream;"), (35, u "bootLayer"), (0, u "Ljava/lang/ModuleLayer;"), (99, .class_ 664), (0, u "java/lang/System$2"), (9, u "NEVER"), (2, u "MAYBE"), (49, u "arraycopy"), (0, u "(Ljava/lang/Object;ILjava/lang/Object;II)V"), (72, .class_ 802), (0, u "java/lang/System$Logger$Level")] 31

def k16m0 : Method := { name := "<init>", desc := "()V", sig := { parameters := [], returnType := none }, accessFlags := 2, code := none }
def k16m1 : Method := { name := "arraycopy", desc := "(Ljava/lang/Object;ILjava/lang/Object;II)V", sig := { parameters := [(.object "java/lang/Object"), .int, (.object "java/lang/Object"), .int, .int], returnType := none }, accessFlags := 265, code := none }
/-- java/lang/System -/
def k16 : Class := { plain "java/lang/System" (some 0) with
  accessFlags := 49
  interfaces := #[]
  cf := some (fileOf pool16 8 #[.nestMembers #[319, 327, 801, 108, 663, 208]] #[{ accessFlags := 2, nameIndex := 5, descriptorIndex := 6, attributes := #[] }, { accessFlags := 265, nameIndex := 727, descriptorIndex := 728, attributes := #[] }] 49 2 #[] #[{ accessFlags := 25, nameIndex := 507, descriptorIndex := 526, attributes := #[] }, { accessFlags := 25, nameIndex := 399, descriptorIndex := 155, attributes := #[] }, { accessFlags := 25, nameIndex := 396, descriptorIndex := 155, attributes := #[] }, { accessFlags := 10, nameIndex := 525, descriptorIndex := 526, attributes := #[] }, { accessFlags := 26, nameIndex := 674, descriptorIndex := 12, attributes := #[] }, { accessFlags := 26, nameIndex := 677, descriptorIndex := 12, attributes := #[] }, { accessFlags := 10, nameIndex := 11, descriptorIndex := 12, attributes := #[] }, { accessFlags := 74, nameIndex := 175, descriptorIndex := 176, attributes := #[] }, { accessFlags := 10, nameIndex := 491, descriptorIndex := 222, attributes := #[] }, { accessFlags := 74, nameIndex := 29, descriptorIndex := 30, attributes := #[] }, { accessFlags := 74, nameIndex := 154, descriptorIndex := 155, attributes := #[] }, { accessFlags := 10, nameIndex := 217, descriptorIndex := 218, attributes := #[] }, { accessFlags := 10, nameIndex := 221, descriptorIndex := 222, attributes := #[] }, { accessFlags := 8, nameIndex := 562, descriptorIndex := 563, attributes := #[] }])
  fields := #[{ name := "in", type := (.object "java/io/InputStream"), accessFlags := 25, slot := 0, constantValue := 0 }, { name := "out", type := (.object "java/io/PrintStream"), accessFlags := 25, slot := 1, constantValue := 0 }, { name := "err", type := (.object "java/io/PrintStream"), accessFlags := 25, slot := 2, constantValue := 0 }, { name := "initialIn", type := (.object "java/io/InputStream"), accessFlags := 10, slot := 3, constantValue := 0 }, { name := "NEVER", type := .int, accessFlags := 26, slot := 4, constantValue := 0 }, { name := "MAYBE", type := .int, accessFlags := 26, slot := 5, constantValue := 0 }, { name := "allowSecurityManager", type := .int, accessFlags := 10, slot := 6, constantValue := 0 }, { name := "security", type := (.object "java/lang/SecurityManager"), accessFlags := 74, slot := 7, constantValue := 0 }, { name := "notSupportedJnuEncoding", type := (.object "java/lang/String"), accessFlags := 10, slot := 8, constantValue := 0 }, { name := "cons", type := (.object "java/io/Console"), accessFlags := 74, slot := 9, constantValue := 0 }, { name := "initialErrStream", type := (.object "java/io/PrintStream"), accessFlags := 74, slot := 10, constantValue := 0 }, { name := "props", type := (.object "java/util/Properties"), accessFlags := 10, slot := 11, constantValue := 0 }, { name := "lineSeparator", type := (.object "java/lang/String"), accessFlags := 10, slot := 12, constantValue := 0 }, { name := "bootLayer", type := (.object "java/lang/ModuleLayer"), accessFlags := 8, slot := 13, constantValue := 0 }]
  methods := #[k16m0, k16m1]
  instanceTypes := #[]
  staticTypes := #[(.object "java/io/InputStream"), (.object "java/io/PrintStream"), (.object "java/io/PrintStream"), (.object "java/io/InputStream"), .int, .int, .int, (.object "java/lang/SecurityManager"), (.object "java/lang/String"), (.object "java/io/Console"), (.object "java/io/PrintStream"), (.object "java/util/Properties"), (.object "java/lang/String"), (.object "java/lang/ModuleLayer")]
  resolved := Array.replicate 834 none
  statics := none }

def pool17 : Array CpInfo := pool [(2, .class_ 4), (1, u "java/lang/Object"), (0, u "<init>"), (0, u "()V"), (7, .class_ 16), (1, u "java/util/Arrays"), (57, .class_ 76), (1, u "java/util/Arrays$NaturalOrder"), (32, u "()Ljava/lang/Object;"), (3, .class_ 115), (1, u "java/util/Arrays$LegacyMergeSort"), (1, u "Z"), (10, .nameAndType 129 109), (0, u "clone"), (9, u "copyOfRange"), (10, .methodref 151 152), (0, .class_ 153), (0, .nameAndType 154 155), (0, u "java/lang/System"), (0, u "arraycopy"), (0, u "(Ljava/lang/Object;ILjava/lang/Object;II)V"), (146, u "copyOf"), (1, .methodref 305 306), (0, .class_ 307), (0, .nameAndType 308 309), (0, u "java/lang/Math"), (0, u "min"), (0, u "(II)I"), (0, .methodref 311 128), (0, .class_ 312), (0, u "[B"), (26, .methodref 14 340), (0, .nameAndType 341 342), (0, u "copyOfRangeByte"), (0, u "([BII)[B"), (0, .methodref 14 344), (0, .nameAndType 345 346), (0, u "checkLength"), (0, u "(II)V"), (28, .class_ 376), (0, u "java/util/Arrays$ArrayList"), (68, u "$assertionsDisabled"), (269, u "MIN_ARRAY_SORT_GRAN"), (0, u "I"), (2, u "INSERTIONSORT_THRESHOLD"), (149, u "([BI)[B"), (105, .class_ 976), (0, u "java/util/Arrays$ArrayItr")] 52

def k17m0 : Method := { name := "<init>", desc := "()V", sig := { parameters := [], returnType := none }, accessFlags := 2, code := none }
def k17c1 : Code := { maxStack := 6, maxLocals := 3, code := jdk_65_method_121_code, exceptionTable := #[], attributes := #[] }
def k17m1 : Method := { name := "copyOf", desc := "([BI)[B", sig := { parameters := [(.array .byte), .int], returnType := some (.array .byte) }, accessFlags := 9, code := some k17c1 }
def k17c2 : Code := { maxStack := 4, maxLocals := 2, code := jdk_65_method_131_code, exceptionTable := #[], attributes := #[] }
def k17m2 : Method := { name := "checkLength", desc := "(II)V", sig := { parameters := [.int, .int], returnType := none }, accessFlags := 10, code := some k17c2 }
def k17c3 : Code := { maxStack := 3, maxLocals := 3, code := jdk_65_method_132_code, exceptionTable := #[], attributes := #[] }
def k17m3 : Method := { name := "copyOfRange", desc := "([BII)[B", sig := { parameters := [(.array .byte), .int, .int], returnType := some (.array .byte) }, accessFlags := 9, code := some k17c3 }
def k17c4 : Code := { maxStack := 6, maxLocals := 5, code := jdk_65_method_133_code, exceptionTable := #[], attributes := #[] }
def k17m4 : Method := { name := "copyOfRangeByte", desc := "([BII)[B", sig := { parameters := [(.array .byte), .int, .int], returnType := some (.array .byte) }, accessFlags := 10, code := some k17c4 }
/-- java/util/Arrays -/
def k17 : Class := { plain "java/util/Arrays" (some 0) with
  accessFlags := 49
  interfaces := #[]
  cf := some (fileOf pool17 14 #[.nestMembers #[975, 375, 113, 74]] #[{ accessFlags := 2, nameIndex := 5, descriptorIndex := 6, attributes := #[] }, { accessFlags := 9, nameIndex := 302, descriptorIndex := 869, attributes := #[] }, { accessFlags := 10, nameIndex := 345, descriptorIndex := 346, attributes := #[] }, { accessFlags := 9, nameIndex := 139, descriptorIndex := 342, attributes := #[] }, { accessFlags := 10, nameIndex := 341, descriptorIndex := 342, attributes := #[] }] 49 2 #[] #[{ accessFlags := 26, nameIndex := 715, descriptorIndex := 716, attributes := #[] }, { accessFlags := 26, nameIndex := 719, descriptorIndex := 716, attributes := #[] }, { accessFlags := 4120, nameIndex := 445, descriptorIndex := 117, attributes := #[] }])
  fields := #[{ name := "MIN_ARRAY_SORT_GRAN", type := .int, accessFlags := 26, slot := 0, constantValue := 0 }, { name := "INSERTIONSORT_THRESHOLD", type := .int, accessFlags := 26, slot := 1, constantValue := 0 }, { name := "$assertionsDisabled", type := .boolean, accessFlags := 4120, slot := 2, constantValue := 0 }]
  methods := #[k17m0, k17m1, k17m2, k17m3, k17m4]
  instanceTypes := #[]
  staticTypes := #[.int, .int, .boolean]
  resolved := Array.replicate 1029 none
  statics := none }

def pool18 : Array CpInfo := pool [(1, .class_ 2), (0, u "java/lang/Cloneable"), (0, .class_ 4), (0, u "java/lang/Object")] 2

/-- java/lang/Cloneable -/
def k18 : Class := { plain "java/lang/Cloneable" (some 0) with
  accessFlags := 1537
  interfaces := #[]
  cf := some (fileOf pool18 1 #[] #[] 1537 3 #[] #[])
  fields := #[]
  methods := #[]
  instanceTypes := #[]
  staticTypes := #[]
  resolved := Array.replicate 7 none
  statics := none }

def pool19 : Array CpInfo := pool [(2, .class_ 4), (1, u "java/lang/Object"), (0, u "<init>"), (0, u "()V"), (17, .class_ 26), (1, u "jdk/internal/util/Preconditions"), (6, u "checkIndex"), (21, .class_ 56), (0, u "jdk/internal/util/Preconditions$4"), (57, .class_ 115), (0, u "jdk/internal/util/Preconditions$1"), (7, u "SIOOBE_FORMATTER"), (0, u "Ljava/util/function/BiFunction;"), (0, .class_ 126), (0, u "jdk/internal/util/Preconditions$2"), (3, u "AIOOBE_FORMATTER"), (0, .class_ 132), (0, u "jdk/internal/util/Preconditions$3"), (3, u "IOOBE_FORMATTER"), (41, u "(IILjava/util/function/BiFunction;)I")] 15

def k19m0 : Method := { name := "<init>", desc := "()V", sig := { parameters := [], returnType := none }, accessFlags := 1, code := none }
def k19c1 : Code := { maxStack := 3, maxLocals := 3, code := jdk_41_method_11_code, exceptionTable := #[], attributes := #[] }
def k19m1 : Method := { name := "checkIndex", desc := "(IILjava/util/function/BiFunction;)I", sig := { parameters := [.int, .int, (.object "java/util/function/BiFunction")], returnType := some .int }, accessFlags := 9, code := some k19c1 }
/-- jdk/internal/util/Preconditions -/
def k19 : Class := { plain "jdk/internal/util/Preconditions" (some 0) with
  accessFlags := 33
  interfaces := #[]
  cf := some (fileOf pool19 24 #[.nestMembers #[55, 131, 125, 114]] #[{ accessFlags := 1, nameIndex := 5, descriptorIndex := 6, attributes := #[] }, { accessFlags := 9, nameIndex := 33, descriptorIndex := 178, attributes := #[] }] 33 2 #[] #[{ accessFlags := 25, nameIndex := 123, descriptorIndex := 124, attributes := #[] }, { accessFlags := 25, nameIndex := 130, descriptorIndex := 124, attributes := #[] }, { accessFlags := 25, nameIndex := 136, descriptorIndex := 124, attributes := #[] }])
  fields := #[{ name := "SIOOBE_FORMATTER", type := (.object "java/util/function/BiFunction"), accessFlags := 25, slot := 0, constantValue := 0 }, { name := "AIOOBE_FORMATTER", type := (.object "java/util/function/BiFunction"), accessFlags := 25, slot := 1, constantValue := 0 }, { name := "IOOBE_FORMATTER", type := (.object "java/util/function/BiFunction"), accessFlags := 25, slot := 2, constantValue := 0 }]
  methods := #[k19m0, k19m1]
  instanceTypes := #[]
  staticTypes := #[(.object "java/util/function/BiFunction"), (.object "java/util/function/BiFunction"), (.object "java/util/function/BiFunction")]
  resolved := Array.replicate 194 none
  statics := some 2 }

def pool20 : Array CpInfo := pool [(6, .class_ 8), (1, u "java/lang/Object"), (0, u "<init>"), (0, u "()V"), (1, .class_ 14), (1, u "java/lang/StringUTF16"), (31, u "$assertionsDisabled"), (0, u "Z"), (13, u "HI_BYTE_SHIFT"), (0, u "I"), (2, u "LO_BYTE_SHIFT"), (49, .methodref 12 116), (0, .nameAndType 117 118), (0, u "compress"), (0, u "([CI[BII)I"), (3, u "([CII)[B"), (138, u "coderFromArrayLen"), (0, u "([BI)B"), (106, .class_ 371), (1, u "java/lang/StringUTF16$LinesSpliterator"), (58, u "MAX_LENGTH"), (196, .class_ 628), (0, u "java/lang/StringUTF16$CodePointsSpliterator"), (0, .class_ 630), (0, u "java/lang/StringUTF16$CharsSpliterator")] 4

def k20m0 : Method := { name := "<init>", desc := "()V", sig := { parameters := [], returnType := none }, accessFlags := 0, code := none }
def k20c1 : Code := { maxStack := 2, maxLocals := 2, code := jdk_52_method_15_code, exceptionTable := #[], attributes := #[] }
def k20m1 : Method := { name := "coderFromArrayLen", desc := "([BI)B", sig := { parameters := [(.array .byte), .int], returnType := some .byte }, accessFlags := 8, code := some k20c1 }
def k20c2 : Code := { maxStack := 5, maxLocals := 6, code := jdk_52_method_16_code, exceptionTable := #[], attributes := #[] }
def k20m2 : Method := { name := "compress", desc := "([CII)[B", sig := { parameters := [(.array .char), .int, .int], returnType := some (.array .byte) }, accessFlags := 9, code := some k20c2 }
def k20c3 : Code := { maxStack := 3, maxLocals := 7, code := jdk_52_method_21_code, exceptionTable := #[], attributes := #[] }
def k20m3 : Method := { name := "compress", desc := "([CI[BII)I", sig := { parameters := [(.array .char), .int, (.array .byte), .int, .int], returnType := some .int }, accessFlags := 9, code := some k20c3 }
/-- java/lang/StringUTF16 -/
def k20 : Class := { plain "java/lang/StringUTF16" (some 0) with
  accessFlags := 48
  interfaces := #[]
  cf := some (fileOf pool20 12 #[.nestMembers #[627, 629, 369]] #[{ accessFlags := 0, nameIndex := 9, descriptorIndex := 10, attributes := #[] }, { accessFlags := 8, nameIndex := 261, descriptorIndex := 262, attributes := #[] }, { accessFlags := 9, nameIndex := 117, descriptorIndex := 122, attributes := #[] }, { accessFlags := 9, nameIndex := 117, descriptorIndex := 118, attributes := #[] }] 48 6 #[] #[{ accessFlags := 26, nameIndex := 61, descriptorIndex := 62, attributes := #[] }, { accessFlags := 26, nameIndex := 65, descriptorIndex := 62, attributes := #[] }, { accessFlags := 24, nameIndex := 430, descriptorIndex := 62, attributes := #[] }, { accessFlags := 4120, nameIndex := 46, descriptorIndex := 47, attributes := #[] }])
  fields := #[{ name := "HI_BYTE_SHIFT", type := .int, accessFlags := 26, slot := 0, constantValue := 0 }, { name := "LO_BYTE_SHIFT", type := .int, accessFlags := 26, slot := 1, constantValue := 0 }, { name := "MAX_LENGTH", type := .int, accessFlags := 24, slot := 2, constantValue := 0 }, { name := "$assertionsDisabled", type := .boolean, accessFlags := 4120, slot := 3, constantValue := 0 }]
  methods := #[k20m0, k20m1, k20m2, k20m3]
  instanceTypes := #[]
  staticTypes := #[.int, .int, .int, .boolean]
  resolved := Array.replicate 635 none
  statics := none }

def pool21 : Array CpInfo := pool [(9, u "<init>"), (6, .class_ 18), (1, u "java/lang/Object"), (0, u "()V"), (1, .class_ 23), (1, u "jdk/internal/util/ArraysSupport"), (0, u "LOG2_ARRAY_LONG_INDEX_SCALE"), (0, u "I"), (2, u "U"), (0, u "Ljdk/internal/misc/Unsafe;"), (8, u "BIG_ENDIAN"), (0, u "Z"), (8, u "LOG2_BYTE_BIT_SIZE"), (4, u "LOG2_ARRAY_INT_INDEX_SCALE"), (54, u "JLA"), (0, u "Ljdk/internal/access/JavaLangAccess;"), (11, u "LOG2_ARRAY_BOOLEAN_INDEX_SCALE"), (9, u "LOG2_ARRAY_BYTE_INDEX_SCALE"), (5, u "LOG2_ARRAY_CHAR_INDEX_SCALE"), (5, u "LOG2_ARRAY_SHORT_INDEX_SCALE"), (18, u "LOG2_ARRAY_FLOAT_INDEX_SCALE"), (24, u "LOG2_ARRAY_DOUBLE_INDEX_SCALE"), (6, .methodref 195 196), (0, .class_ 197), (0, .nameAndType 198 199), (0, u "java/lang/Math"), (0, u "max"), (0, u "(II)I"), (0, .integer 2147483639), (76, u "T_BOOLEAN"), (2, u "T_CHAR"), (1, u "T_FLOAT"), (1, u "T_DOUBLE"), (1, u "T_BYTE"), (1, u "T_SHORT"), (1, u "T_INT"), (1, u "T_LONG"), (1, u "SOFT_MAX_ARRAY_LENGTH"), (56, u "newLength"), (0, u "(III)I")] 25

def k21m0 : Method := { name := "<init>", desc := "()V", sig := { parameters := [], returnType := none }, accessFlags := 2, code := none }
def k21c1 : Code := { maxStack := 3, maxLocals := 4, code := jdk_48_method_27_code, exceptionTable := #[], attributes := #[] }
def k21m1 : Method := { name := "newLength", desc := "(III)I", sig := { parameters := [.int, .int, .int], returnType := some .int }, accessFlags := 9, code := some k21c1 }
/-- jdk/internal/util/ArraysSupport -/
def k21 : Class := { plain "jdk/internal/util/ArraysSupport" (some 0) with
  accessFlags := 33
  interfaces := #[]
  cf := some (fileOf pool21 21 #[] #[{ accessFlags := 2, nameIndex := 9, descriptorIndex := 19, attributes := #[] }, { accessFlags := 9, nameIndex := 351, descriptorIndex := 352, attributes := #[] }] 33 16 #[] #[{ accessFlags := 24, nameIndex := 28, descriptorIndex := 29, attributes := #[] }, { accessFlags := 26, nameIndex := 38, descriptorIndex := 39, attributes := #[] }, { accessFlags := 25, nameIndex := 121, descriptorIndex := 25, attributes := #[] }, { accessFlags := 25, nameIndex := 131, descriptorIndex := 25, attributes := #[] }, { accessFlags := 25, nameIndex := 137, descriptorIndex := 25, attributes := #[] }, { accessFlags := 25, nameIndex := 143, descriptorIndex := 25, attributes := #[] }, { accessFlags := 25, nameIndex := 53, descriptorIndex := 25, attributes := #[] }, { accessFlags := 25, nameIndex := 24, descriptorIndex := 25, attributes := #[] }, { accessFlags := 25, nameIndex := 162, descriptorIndex := 25, attributes := #[] }, { accessFlags := 25, nameIndex := 187, descriptorIndex := 25, attributes := #[] }, { accessFlags := 26, nameIndex := 48, descriptorIndex := 25, attributes := #[] }, { accessFlags := 25, nameIndex := 277, descriptorIndex := 25, attributes := #[] }, { accessFlags := 25, nameIndex := 280, descriptorIndex := 25, attributes := #[] }, { accessFlags := 25, nameIndex := 282, descriptorIndex := 25, attributes := #[] }, { accessFlags := 25, nameIndex := 284, descriptorIndex := 25, attributes := #[] }, { accessFlags := 25, nameIndex := 286, descriptorIndex := 25, attributes := #[] }, { accessFlags := 25, nameIndex := 288, descriptorIndex := 25, attributes := #[] }, { accessFlags := 25, nameIndex := 290, descriptorIndex := 25, attributes := #[] }, { accessFlags := 25, nameIndex := 292, descriptorIndex := 25, attributes := #[] }, { accessFlags := 26, nameIndex := 108, descriptorIndex := 109, attributes := #[] }, { accessFlags := 25, nameIndex := 294, descriptorIndex := 25, attributes := #[] }])
  fields := #[{ name := "U", type := (.object "jdk/internal/misc/Unsafe"), accessFlags := 24, slot := 0, constantValue := 0 }, { name := "BIG_ENDIAN", type := .boolean, accessFlags := 26, slot := 1, constantValue := 0 }, { name := "LOG2_ARRAY_BOOLEAN_INDEX_SCALE", type := .int, accessFlags := 25, slot := 2, constantValue := 0 }, { name := "LOG2_ARRAY_BYTE_INDEX_SCALE", type := .int, accessFlags := 25, slot := 3, constantValue := 0 }, { name := "LOG2_ARRAY_CHAR_INDEX_SCALE", type := .int, accessFlags := 25, slot := 4, constantValue := 0 }, { name := "LOG2_ARRAY_SHORT_INDEX_SCALE", type := .int, accessFlags := 25, slot := 5, constantValue := 0 }, { name := "LOG2_ARRAY_INT_INDEX_SCALE", type := .int, accessFlags := 25, slot := 6, constantValue := 0 }, { name := "LOG2_ARRAY_LONG_INDEX_SCALE", type := .int, accessFlags := 25, slot := 7, constantValue := 0 }, { name := "LOG2_ARRAY_FLOAT_INDEX_SCALE", type := .int, accessFlags := 25, slot := 8, constantValue := 0 }, { name := "LOG2_ARRAY_DOUBLE_INDEX_SCALE", type := .int, accessFlags := 25, slot := 9, constantValue := 0 }, { name := "LOG2_BYTE_BIT_SIZE", type := .int, accessFlags := 26, slot := 10, constantValue := 0 }, { name := "T_BOOLEAN", type := .int, accessFlags := 25, slot := 11, constantValue := 0 }, { name := "T_CHAR", type := .int, accessFlags := 25, slot := 12, constantValue := 0 }, { name := "T_FLOAT", type := .int, accessFlags := 25, slot := 13, constantValue := 0 }, { name := "T_DOUBLE", type := .int, accessFlags := 25, slot := 14, constantValue := 0 }, { name := "T_BYTE", type := .int, accessFlags := 25, slot := 15, constantValue := 0 }, { name := "T_SHORT", type := .int, accessFlags := 25, slot := 16, constantValue := 0 }, { name := "T_INT", type := .int, accessFlags := 25, slot := 17, constantValue := 0 }, { name := "T_LONG", type := .int, accessFlags := 25, slot := 18, constantValue := 0 }, { name := "JLA", type := (.object "jdk/internal/access/JavaLangAccess"), accessFlags := 26, slot := 19, constantValue := 0 }, { name := "SOFT_MAX_ARRAY_LENGTH", type := .int, accessFlags := 25, slot := 20, constantValue := 0 }]
  methods := #[k21m0, k21m1]
  instanceTypes := #[]
  staticTypes := #[(.object "jdk/internal/misc/Unsafe"), .boolean, .int, .int, .int, .int, .int, .int, .int, .int, .int, .int, .int, .int, .int, .int, .int, .int, .int, (.object "jdk/internal/access/JavaLangAccess"), .int]
  resolved := Array.replicate 378 none
  statics := none }

def pool22 : Array CpInfo := pool [(1, .class_ 2), (0, u "java/lang/Math"), (1, .class_ 6), (1, u "java/lang/Object"), (0, u "<init>"), (0, u "()V"), (89, .class_ 100), (1, u "java/lang/Math$RandomNumberGeneratorHolder"), (71, u "negativeZeroFloatBits"), (0, u "J"), (2, u "negativeZeroDoubleBits"), (21, u "max"), (2, u "min"), (43, u "$assertionsDisabled"), (0, u "Z"), (88, u "(II)I"), (2, u "twoToTheDoubleScaleDown"), (0, u "D"), (4, u "twoToTheDoubleScaleUp"), (9, u "E"), (3, u "PI"), (2, u "TAU"), (2, u "DEGREES_TO_RADIANS"), (0, u "RADIANS_TO_DEGREES")] 94

def k22m0 : Method := { name := "<init>", desc := "()V", sig := { parameters := [], returnType := none }, accessFlags := 2, code := none }
def k22c1 : Code := { maxStack := 2, maxLocals := 2, code := jdk_29_method_65_code, exceptionTable := #[], attributes := #[] }
def k22m1 : Method := { name := "max", desc := "(II)I", sig := { parameters := [.int, .int], returnType := some .int }, accessFlags := 9, code := some k22c1 }
def k22c2 : Code := { maxStack := 2, maxLocals := 2, code := jdk_29_method_69_code, exceptionTable := #[], attributes := #[] }
def k22m2 : Method := { name := "min", desc := "(II)I", sig := { parameters := [.int, .int], returnType := some .int }, accessFlags := 9, code := some k22c2 }
/-- java/lang/Math -/
def k22 : Class := { plain "java/lang/Math" (some 0) with
  accessFlags := 49
  interfaces := #[]
  cf := some (fileOf pool22 1 #[.nestMembers #[98]] #[{ accessFlags := 2, nameIndex := 7, descriptorIndex := 8, attributes := #[] }, { accessFlags := 9, nameIndex := 198, descriptorIndex := 335, attributes := #[] }, { accessFlags := 9, nameIndex := 201, descriptorIndex := 335, attributes := #[] }] 49 4 #[] #[{ accessFlags := 25, nameIndex := 354, descriptorIndex := 339, attributes := #[] }, { accessFlags := 25, nameIndex := 358, descriptorIndex := 339, attributes := #[] }, { accessFlags := 25, nameIndex := 361, descriptorIndex := 339, attributes := #[] }, { accessFlags := 26, nameIndex := 364, descriptorIndex := 339, attributes := #[] }, { accessFlags := 26, nameIndex := 365, descriptorIndex := 339, attributes := #[] }, { accessFlags := 26, nameIndex := 172, descriptorIndex := 173, attributes := #[] }, { accessFlags := 26, nameIndex := 176, descriptorIndex := 173, attributes := #[] }, { accessFlags := 8, nameIndex := 344, descriptorIndex := 339, attributes := #[] }, { accessFlags := 8, nameIndex := 338, descriptorIndex := 339, attributes := #[] }, { accessFlags := 4120, nameIndex := 245, descriptorIndex := 246, attributes := #[] }])
  fields := #[{ name := "E", type := .double, accessFlags := 25, slot := 0, constantValue := 0 }, { name := "PI", type := .double, accessFlags := 25, slot := 1, constantValue := 0 }, { name := "TAU", type := .double, accessFlags := 25, slot := 2, constantValue := 0 }, { name := "DEGREES_TO_RADIANS", type := .double, accessFlags := 26, slot := 3, constantValue := 0 }, { name := "RADIANS_TO_DEGREES", type := .double, accessFlags := 26, slot := 4, constantValue := 0 }, { name := "negativeZeroFloatBits", type := .long, accessFlags := 26, slot := 5, constantValue := 0 }, { name := "negativeZeroDoubleBits", type := .long, accessFlags := 26, slot := 6, constantValue := 0 }, { name := "twoToTheDoubleScaleUp", type := .double, accessFlags := 8, slot := 7, constantValue := 0 }, { name := "twoToTheDoubleScaleDown", type := .double, accessFlags := 8, slot := 8, constantValue := 0 }, { name := "$assertionsDisabled", type := .boolean, accessFlags := 4120, slot := 9, constantValue := 0 }]
  methods := #[k22m0, k22m1, k22m2]
  instanceTypes := #[]
  staticTypes := #[.double, .double, .double, .double, .double, .long, .long, .double, .double, .boolean]
  resolved := Array.replicate 460 none
  statics := none }

def pool23 : Array CpInfo := pool [(2, .class_ 4), (1, u "java/lang/Object"), (0, u "<init>"), (0, u "()V"), (12, .class_ 20), (0, u "java/util/Collections"), (63, u "r"), (0, u "Ljava/util/Random;"), (80, .class_ 167), (0, u "java/util/Collections$UnmodifiableCollection"), (6, .class_ 175), (0, u "java/util/Collections$UnmodifiableSequencedCollection"), (6, .class_ 183), (0, u "java/util/Collections$UnmodifiableSet"), (6, .class_ 191), (0, u "java/util/Collections$UnmodifiableSequencedSet"), (6, .class_ 199), (0, u "java/util/Collections$UnmodifiableSortedSet"), (6, .class_ 207), (0, u "java/util/Collections$UnmodifiableNavigableSet"), (4, .class_ 213), (0, u "java/util/Collections$UnmodifiableList"), (1, .class_ 216), (0, u "java/util/Collections$UnmodifiableRandomAccessList"), (6, .class_ 224), (0, u "java/util/Collections$UnmodifiableMap"), (6, .class_ 232), (0, u "java/util/Collections$UnmodifiableSequencedMap"), (4, .class_ 238), (0, u "java/util/Collections$UnmodifiableSortedMap"), (6, .class_ 246), (0, u "java/util/Collections$UnmodifiableNavigableMap"), (3, .class_ 251), (0, u "java/util/Collections$SynchronizedCollection"), (4, .class_ 257), (0, u "java/util/Collections$SynchronizedSet"), (4, .class_ 263), (0, u "java/util/Collections$SynchronizedSortedSet"), (1, .class_ 266), (0, u "java/util/Collections$SynchronizedNavigableSet"), (1, .class_ 269), (0, u "java/util/Collections$SynchronizedRandomAccessList"), (1, .class_ 272), (0, u "java/util/Collections$SynchronizedList"), (5, .class_ 279), (0, u "java/util/Collections$SynchronizedMap"), (1, .class_ 282), (0, u "java/util/Collections$SynchronizedSortedMap"), (1, .class_ 285), (0, u "java/util/Collections$SynchronizedNavigableMap"), (1, .class_ 288), (0, u "java/util/Collections$CheckedCollection"), (11, .class_ 301), (0, u "java/util/Collections$CheckedQueue"), (3, .class_ 306), (0, u "java/util/Collections$CheckedSet"), (3, .class_ 311), (0, u "java/util/Collections$CheckedSortedSet"), (3, .class_ 316), (0, u "java/util/Collections$CheckedNavigableSet"), (3, .class_ 321), (0, u "java/util/Collections$CheckedRandomAccessList"), (3, .class_ 326), (0, u "java/util/Collections$CheckedList"), (1, .class_ 329), (0, u "java/util/Collections$CheckedMap"), (3, .class_ 334), (0, u "java/util/Collections$CheckedSortedMap"), (3, .class_ 339), (0, u "java/util/Collections$CheckedNavigableMap"), (4, .class_ 346), (1, u "java/util/Collections$EmptyIterator"), (3, .class_ 352), (1, u "java/util/Collections$EmptyListIterator"), (2, .class_ 357), (1, u "java/util/Collections$EmptyEnumeration"), (4, u "EMPTY_SET"), (0, u "Ljava/util/Set;"), (6, u "EMPTY_LIST"), (0, u "Ljava/util/List;"), (2, u "EMPTY_MAP"), (0, u "Ljava/util/Map;"), (4, .class_ 381), (0, u "java/util/Collections$SingletonSet"), (2, .class_ 385), (0, u "java/util/Collections$1"), (1, .class_ 388), (0, u "java/util/Collections$2"), (1, .class_ 391), (0, u "java/util/Collections$SingletonList"), (1, .class_ 394), (0, u "java/util/Collections$SingletonMap"), (22, .class_ 418), (0, u "java/util/Collections$CopiesList"), (4, .class_ 425), (1, u "java/util/Collections$ReverseComparator"), (8, .class_ 435), (0, u "java/util/Collections$ReverseComparator2"), (6, .class_ 443), (0, u "java/util/Collections$3"), (25, .class_ 470), (0, u "java/util/Collections$SetFromMap"), (2, .class_ 474), (0, u "java/util/Collections$SequencedSetFromMap"), (3, .class_ 479), (0, u "java/util/Collections$AsLIFOQueue"), (11, .class_ 492), (0, u "java/util/Collections$EmptySet"), (1, .class_ 495), (0, u "java/util/Collections$EmptyList"), (1, .class_ 498), (0, u "java/util/Collections$EmptyMap"), (1, u "BINARYSEARCH_THRESHOLD"), (0, u "I"), (2, u "REVERSE_THRESHOLD"), (1, u "SHUFFLE_THRESHOLD"), (1, u "FILL_THRESHOLD"), (1, u "ROTATE_THRESHOLD"), (1, u "COPY_THRESHOLD"), (1, u "REPLACEALL_THRESHOLD"), (1, u "INDEXOFSUBLIST_THRESHOLD"), (333, .class_ 851), (0, u "java/util/Collections$CheckedMap$CheckedEntrySet"), (0, .class_ 853), (0, u "java/util/Collections$CheckedMap$CheckedEntrySet$CheckedEntry"), (0, .class_ 855), (0, u "java/util/Collections$CheckedMap$CheckedEntrySet$1"), (0, .class_ 857), (0, u "java/util/Collections$CheckedList$1"), (0, .class_ 859), (0, u "java/util/Collections$CheckedCollection$1"), (0, .class_ 861), (0, u "java/util/Collections$UnmodifiableNavigableMap$EmptyNavigableMap"), (0, .class_ 863), (0, u "java/util/Collections$UnmodifiableMap$UnmodifiableEntrySet"), (0, .class_ 865), (0, u "java/util/Collections$UnmodifiableMap$UnmodifiableEntrySet$UnmodifiableEntry"), (0, .class_ 867), (0, u "java/util/Collections$UnmodifiableMap$UnmodifiableEntrySet$UnmodifiableEntrySetSpliterator"), (0, .class_ 869), (0, u "java/util/Collections$UnmodifiableMap$UnmodifiableEntrySet$1"), (0, .class_ 871), (0, u "java/util/Collections$UnmodifiableList$1"), (0, .class_ 873), (0, u "java/util/Collections$UnmodifiableNavigableSet$EmptyNavigableSet"), (0, .class_ 875), (0, u "java/util/Collections$UnmodifiableCollection$1")] 57

def k23m0 : Method := { name := "<init>", desc := "()V", sig := { parameters := [], returnType := none }, accessFlags := 2, code := none }
/-- java/util/Collections -/
def k23 : Class := { plain "java/util/Collections" (some 0) with
  accessFlags := 33
  interfaces := #[]
  cf := some (fileOf pool23 19 #[.nestMembers #[478, 473, 469, 434, 423, 417, 393, 390, 380, 497, 494, 491, 355, 350, 344, 338, 333, 328, 850, 852, 854, 320, 325, 856, 315, 310, 305, 300, 287, 858, 284, 281, 278, 268, 271, 265, 262, 256, 250, 245, 860, 237, 231, 223, 862, 864, 866, 868, 215, 212, 870, 206, 872, 198, 190, 182, 174, 166, 874, 442, 387, 384]] #[{ accessFlags := 2, nameIndex := 5, descriptorIndex := 6, attributes := #[] }] 33 2 #[] #[{ accessFlags := 26, nameIndex := 500, descriptorIndex := 501, attributes := #[] }, { accessFlags := 26, nameIndex := 504, descriptorIndex := 501, attributes := #[] }, { accessFlags := 26, nameIndex := 506, descriptorIndex := 501, attributes := #[] }, { accessFlags := 26, nameIndex := 508, descriptorIndex := 501, attributes := #[] }, { accessFlags := 26, nameIndex := 510, descriptorIndex := 501, attributes := #[] }, { accessFlags := 26, nameIndex := 512, descriptorIndex := 501, attributes := #[] }, { accessFlags := 26, nameIndex := 514, descriptorIndex := 501, attributes := #[] }, { accessFlags := 26, nameIndex := 516, descriptorIndex := 501, attributes := #[] }, { accessFlags := 10, nameIndex := 84, descriptorIndex := 85, attributes := #[] }, { accessFlags := 25, nameIndex := 362, descriptorIndex := 363, attributes := #[] }, { accessFlags := 25, nameIndex := 370, descriptorIndex := 371, attributes := #[] }, { accessFlags := 25, nameIndex := 374, descriptorIndex := 375, attributes := #[] }])
  fields := #[{ name := "BINARYSEARCH_THRESHOLD", type := .int, accessFlags := 26, slot := 0, constantValue := 0 }, { name := "REVERSE_THRESHOLD", type := .int, accessFlags := 26, slot := 1, constantValue := 0 }, { name := "SHUFFLE_THRESHOLD", type := .int, accessFlags := 26, slot := 2, constantValue := 0 }, { name := "FILL_THRESHOLD", type := .int, accessFlags := 26, slot := 3, constantValue := 0 }, { name := "ROTATE_THRESHOLD", type := .int, accessFlags := 26, slot := 4, constantValue := 0 }, { name := "COPY_THRESHOLD", type := .int, accessFlags := 26, slot := 5, constantValue := 0 }, { name := "REPLACEALL_THRESHOLD", type := .int, accessFlags := 26, slot := 6, constantValue := 0 }, { name := "INDEXOFSUBLIST_THRESHOLD", type := .int, accessFlags := 26, slot := 7, constantValue := 0 }, { name := "r", type := (.object "java/util/Random"), accessFlags := 10, slot := 8, constantValue := 0 }, { name := "EMPTY_SET", type := (.object "java/util/Set"), accessFlags := 25, slot := 9, constantValue := 0 }, { name := "EMPTY_LIST", type := (.object "java/util/List"), accessFlags := 25, slot := 10, constantValue := 0 }, { name := "EMPTY_MAP", type := (.object "java/util/Map"), accessFlags := 25, slot := 11, constantValue := 0 }]
  methods := #[k23m0]
  instanceTypes := #[]
  staticTypes := #[.int, .int, .int, .int, .int, .int, .int, .int, (.object "java/util/Random"), (.object "java/util/Set"), (.object "java/util/List"), (.object "java/util/Map")]
  resolved := Array.replicate 933 none
  statics := some 3 }

def pool24 : Array CpInfo := pool [(8, .class_ 10), (1, u "java/lang/Iterable"), (24, .class_ 36), (0, u "java/lang/Object")] 25

/-- java/lang/Iterable -/
def k24 : Class := { plain "java/lang/Iterable" (some 0) with
  accessFlags := 1537
  interfaces := #[]
  cf := some (fileOf pool24 8 #[] #[] 1537 35 #[] #[])
  fields := #[]
  methods := #[]
  instanceTypes := #[]
  staticTypes := #[]
  resolved := Array.replicate 62 none
  statics := none }

def pool25 : Array CpInfo := pool [(10, .class_ 12), (1, u "java/util/Collection"), (47, .class_ 61), (0, u "java/lang/Object"), (0, .class_ 63), (0, u "java/lang/Iterable")] 51

/-- java/util/Collection -/
def k25 : Class := { plain "java/util/Collection" (some 0) with
  accessFlags := 1537
  interfaces := #[24]
  cf := some (fileOf pool25 10 #[] #[] 1537 60 #[62] #[])
  fields := #[]
  methods := #[]
  instanceTypes := #[]
  staticTypes := #[]
  resolved := Array.replicate 115 none
  statics := none }

def pool26 : Array CpInfo := pool [(2, .class_ 4), (1, u "java/lang/Object"), (0, u "<init>"), (0, u "()V"), (1, .class_ 10), (1, u "java/util/AbstractCollection"), (66, .class_ 78), (0, u "java/util/Collection")] 81

def k26m0 : Method := { name := "<init>", desc := "()V", sig := { parameters := [], returnType := none }, accessFlags := 4, code := none }
/-- java/util/AbstractCollection -/
def k26 : Class := { plain "java/util/AbstractCollection" (some 0) with
  accessFlags := 1057
  interfaces := #[25]
  cf := some (fileOf pool26 8 #[] #[{ accessFlags := 4, nameIndex := 5, descriptorIndex := 6, attributes := #[] }] 1057 2 #[77] #[])
  fields := #[]
  methods := #[k26m0]
  instanceTypes := #[]
  staticTypes := #[]
  resolved := Array.replicate 160 none
  statics := none }

def pool27 : Array CpInfo := pool [(8, .class_ 10), (1, u "java/util/SequencedCollection"), (15, .class_ 27), (0, u "java/lang/Object"), (0, .class_ 29), (0, u "java/util/Collection")] 27

/-- java/util/SequencedCollection -/
def k27 : Class := { plain "java/util/SequencedCollection" (some 0) with
  accessFlags := 1537
  interfaces := #[25]
  cf := some (fileOf pool27 8 #[] #[] 1537 26 #[28] #[])
  fields := #[]
  methods := #[]
  instanceTypes := #[]
  staticTypes := #[]
  resolved := Array.replicate 57 none
  statics := none }

def pool28 : Array CpInfo := pool [(8, .class_ 10), (1, u "java/util/List"), (92, .class_ 104), (0, u "java/lang/Object"), (15, .class_ 121), (0, u "java/util/SequencedCollection")] 129

/-- java/util/List -/
def k28 : Class := { plain "java/util/List" (some 0) with
  accessFlags := 1537
  interfaces := #[27]
  cf := some (fileOf pool28 8 #[] #[] 1537 103 #[120] #[])
  fields := #[]
  methods := #[]
  instanceTypes := #[]
  staticTypes := #[]
  resolved := Array.replicate 251 none
  statics := none }

def pool29 : Array CpInfo := pool [(2, .class_ 4), (1, u "java/util/AbstractCollection"), (0, u "<init>"), (0, u "()V"), (1, .class_ 10), (1, u "java/util/AbstractList"), (0, u "modCount"), (0, u "I"), (64, .class_ 78), (0, u "java/util/AbstractList$Itr"), (3, .class_ 83), (0, u "java/util/AbstractList$ListItr"), (9, .class_ 94), (0, u "java/util/AbstractList$RandomAccessSubList"), (3, .class_ 99), (0, u "java/util/AbstractList$SubList"), (33, .class_ 134), (0, u "java/util/List"), (73, .class_ 209), (0, u "java/util/AbstractList$SubList$1"), (0, .class_ 211), (0, u "java/util/AbstractList$RandomAccessSpliterator")] 6

def k29m0 : Method := { name := "<init>", desc := "()V", sig := { parameters := [], returnType := none }, accessFlags := 4, code := none }
/-- java/util/AbstractList -/
def k29 : Class := { plain "java/util/AbstractList" (some 26) with
  accessFlags := 1057
  interfaces := #[28]
  cf := some (fileOf pool29 8 #[.nestMembers #[93, 98, 208, 210, 82, 77]] #[{ accessFlags := 4, nameIndex := 5, descriptorIndex := 6, attributes := #[] }] 1057 2 #[133] #[{ accessFlags := 132, nameIndex := 11, descriptorIndex := 12, attributes := #[] }])
  fields := #[{ name := "modCount", type := .int, accessFlags := 132, slot := 0, constantValue := 0 }]
  methods := #[k29m0]
  instanceTypes := #[.int]
  staticTypes := #[]
  resolved := Array.replicate 218 none
  statics := none }

def pool30 : Array CpInfo := pool [(1, .class_ 2), (0, u "java/util/RandomAccess"), (0, .class_ 4), (0, u "java/lang/Object")] 2

/-- java/util/RandomAccess -/
def k30 : Class := { plain "java/util/RandomAccess" (some 0) with
  accessFlags := 1537
  interfaces := #[]
  cf := some (fileOf pool30 1 #[] #[] 1537 3 #[] #[])
  fields := #[]
  methods := #[]
  instanceTypes := #[]
  staticTypes := #[]
  resolved := Array.replicate 7 none
  statics := none }

def pool31 : Array CpInfo := pool [(2, .class_ 4), (1, u "java/util/AbstractList"), (0, u "<init>"), (0, u "()V"), (1, .class_ 10), (1, u "java/util/Collections"), (54, .class_ 66), (0, u "java/util/Collections$EmptyList"), (0, .class_ 68), (0, u "java/util/RandomAccess"), (0, .class_ 70), (0, u "java/io/Serializable"), (0, u "serialVersionUID"), (0, u "J")] 77

def k31m0 : Method := { name := "<init>", desc := "()V", sig := { parameters := [], returnType := none }, accessFlags := 2, code := none }
/-- java/util/Collections$EmptyList -/
def k31 : Class := { plain "java/util/Collections$EmptyList" (some 29) with
  accessFlags := 32
  interfaces := #[30, 2]
  cf := some (fileOf pool31 65 #[.nestHost 8] #[{ accessFlags := 2, nameIndex := 5, descriptorIndex := 6, attributes := #[] }] 32 2 #[67, 69] #[{ accessFlags := 26, nameIndex := 71, descriptorIndex := 72, attributes := #[] }])
  fields := #[{ name := "serialVersionUID", type := .long, accessFlags := 26, slot := 0, constantValue := 0 }]
  methods := #[k31m0]
  instanceTypes := #[.int]
  staticTypes := #[.long]
  resolved := Array.replicate 150 none
  statics := none }

def pool32 : Array CpInfo := pool [(2, .class_ 4), (1, u "java/lang/StackTraceElement"), (0, u "<init>"), (2, .class_ 10), (1, u "java/lang/Object"), (0, u "()V"), (2, u "format"), (0, u "B"), (2, u "classLoaderName"), (0, u "Ljava/lang/String;"), (2, u "moduleName"), (2, u "moduleVersion"), (12, u "declaringClass"), (4, u "methodName"), (2, u "fileName"), (2, u "lineNumber"), (0, u "I"), (65, u "declaringClassObject"), (0, u "Ljava/lang/Class;"), (33, .class_ 153), (1, u "java/lang/StackTraceElement$HashedModules"), (17, .class_ 172), (0, u "java/io/Serializable"), (0, u "NATIVE_METHOD"), (1, u "UNKNOWN_SOURCE"), (2, u "BUILTIN_CLASS_LOADER"), (1, u "JDK_NON_UPGRADEABLE_MODULE"), (1, u "serialVersionUID"), (0, u "J")] 51

def k32m0 : Method := { name := "<init>", desc := "()V", sig := { parameters := [], returnType := none }, accessFlags := 2, code := none }
/-- java/lang/StackTraceElement -/
def k32 : Class := { plain "java/lang/StackTraceElement" (some 0) with
  accessFlags := 49
  interfaces := #[2]
  cf := some (fileOf pool32 2 #[.nestMembers #[151]] #[{ accessFlags := 2, nameIndex := 5, descriptorIndex := 11, attributes := #[] }] 49 8 #[171] #[{ accessFlags := 26, nameIndex := 173, descriptorIndex := 19, attributes := #[] }, { accessFlags := 26, nameIndex := 175, descriptorIndex := 19, attributes := #[] }, { accessFlags := 130, nameIndex := 116, descriptorIndex := 117, attributes := #[] }, { accessFlags := 2, nameIndex := 18, descriptorIndex := 19, attributes := #[] }, { accessFlags := 2, nameIndex := 22, descriptorIndex := 19, attributes := #[] }, { accessFlags := 2, nameIndex := 25, descriptorIndex := 19, attributes := #[] }, { accessFlags := 2, nameIndex := 38, descriptorIndex := 19, attributes := #[] }, { accessFlags := 2, nameIndex := 43, descriptorIndex := 19, attributes := #[] }, { accessFlags := 2, nameIndex := 46, descriptorIndex := 19, attributes := #[] }, { accessFlags := 2, nameIndex := 49, descriptorIndex := 50, attributes := #[] }, { accessFlags := 2, nameIndex := 14, descriptorIndex := 15, attributes := #[] }, { accessFlags := 26, nameIndex := 178, descriptorIndex := 15, attributes := #[] }, { accessFlags := 26, nameIndex := 180, descriptorIndex := 15, attributes := #[] }, { accessFlags := 26, nameIndex := 182, descriptorIndex := 183, attributes := #[] }])
  fields := #[{ name := "NATIVE_METHOD", type := (.object "java/lang/String"), accessFlags := 26, slot := 0, constantValue := 0 }, { name := "UNKNOWN_SOURCE", type := (.object "java/lang/String"), accessFlags := 26, slot := 1, constantValue := 0 }, { name := "declaringClassObject", type := (.object "java/lang/Class"), accessFlags := 130, slot := 0, constantValue := 0 }, { name := "classLoaderName", type := (.object "java/lang/String"), accessFlags := 2, slot := 1, constantValue := 0 }, { name := "moduleName", type := (.object "java/lang/String"), accessFlags := 2, slot := 2, constantValue := 0 }, { name := "moduleVersion", type := (.object "java/lang/String"), accessFlags := 2, slot := 3, constantValue := 0 }, { name := "declaringClass", type := (.object "java/lang/String"), accessFlags := 2, slot := 4, constantValue := 0 }, { name := "methodName", type := (.object "java/lang/String"), accessFlags := 2, slot := 5, constantValue := 0 }, { name := "fileName", type := (.object "java/lang/String"), accessFlags := 2, slot := 6, constantValue := 0 }, { name := "lineNumber", type := .int, accessFlags := 2, slot := 7, constantValue := 0 }, { name := "format", type := .byte, accessFlags := 2, slot := 8, constantValue := 0 }, { name := "BUILTIN_CLASS_LOADER", type := .byte, accessFlags := 26, slot := 2, constantValue := 0 }, { name := "JDK_NON_UPGRADEABLE_MODULE", type := .byte, accessFlags := 26, slot := 3, constantValue := 0 }, { name := "serialVersionUID", type := .long, accessFlags := 26, slot := 4, constantValue := 0 }]
  methods := #[k32m0]
  instanceTypes := #[(.object "java/lang/Class"), (.object "java/lang/String"), (.object "java/lang/String"), (.object "java/lang/String"), (.object "java/lang/String"), (.object "java/lang/String"), (.object "java/lang/String"), .int, .byte]
  staticTypes := #[(.object "java/lang/String"), (.object "java/lang/String"), .byte, .byte, .long]
  resolved := Array.replicate 235 none
  statics := none }

/-- the primitive byte -/
def k33 : Class := { plain "byte" none with kind := .primitive 'B', accessFlags := 0x411 }
/-- [B -/
def k34 : Class := { plain "[B" (some 0) with kind := .array 33 .byte, interfaces := #[18, 2], accessFlags := 1041 }

/-- the primitive char -/
def k35 : Class := { plain "char" none with kind := .primitive 'C', accessFlags := 0x411 }
/-- [C -/
def k36 : Class := { plain "[C" (some 0) with kind := .array 35 .char, interfaces := #[18, 2], accessFlags := 1041 }

/-- the primitive int -/
def k37 : Class := { plain "int" none with kind := .primitive 'I', accessFlags := 0x411 }
/-- [I -/
def k38 : Class := { plain "[I" (some 0) with kind := .array 37 .int, interfaces := #[18, 2], accessFlags := 1041 }

/-- [Ljava/lang/Object; -/
def k39 : Class := { plain "[Ljava/lang/Object;" (some 0) with kind := .array 0 (.object "java/lang/Object"), interfaces := #[18, 2], accessFlags := 1041 }

/-- [Ljava/lang/StackTraceElement; -/
def k40 : Class := { plain "[Ljava/lang/StackTraceElement;" (some 0) with kind := .array 32 (.object "java/lang/StackTraceElement"), interfaces := #[18, 2], accessFlags := 1041 }

/-- [Ljava/lang/Throwable; -/
def k41 : Class := { plain "[Ljava/lang/Throwable;" (some 0) with kind := .array 10 (.object "java/lang/Throwable"), interfaces := #[18, 2], accessFlags := 1041 }

def heap : Heap := #[{ cls := 7, slots := #[.long 0, .int 1, .null, .int 0, .null, .int 0, .int 0], vm := .statics 7 },
  { cls := 10, slots := #[.long 0, .ref 4, .ref 5, .null, .null, .null, .null, .ref 6, .int 1], vm := .statics 10 },
  { cls := 19, slots := #[.null, .null, .null], vm := .statics 19 },
  { cls := 23, slots := #[.int 0, .int 0, .int 0, .int 0, .int 0, .int 0, .int 0, .int 0, .null, .null, .ref 5, .null], vm := .statics 23 },
  { cls := 40, slots := #[], vm := .none },
  { cls := 31, slots := #[.int 0], vm := .none },
  { cls := 41, slots := #[], vm := .none }]
def classes : Array Class := #[k0, k1, k2, k3, k4, k5, k6, k7, k8, k9, k10, k11, k12, k13, k14, k15, k16, k17, k18, k19, k20, k21, k22, k23, k24, k25, k26, k27, k28, k29, k30, k31, k32, k33, k34, k35, k36, k37, k38, k39, k40, k41]
def interned : List (Array UInt16 × Addr) := []
def slotsUsed : Nat := 32
def theMethod : MethodId := ⟨1, 4⟩
def args0 : Array Value := #[.int 5, .int 7, .int 9, .int 3]
def aboutOver (below : List Frame) : State where
  vm := { classes := classes, interned := interned.toArray }
  heap := heap
  slotsUsed := slotsUsed
  threads := #[{ frames := .invoking theMethod args0 :: below }]
def below0 : List Frame := [.native { method := ⟨0, 0⟩, args := #[] }]
def about1 : State := aboutOver below0
def p0 : Program := .bare "" "" ""
def e0 : Env := launch0.env 0 0 0
theorem w_frames : about1.frames = Frame.invoking theMethod args0 :: below0 := rfl
set_option maxRecDepth 65536 in
theorem w_args : argsFit about1.vm theMethod args0 = true := by decide +kernel
set_option maxRecDepth 65536 in
theorem w_heap : heapFits about1 = true := by decide +kernel
set_option maxRecDepth 65536 in
theorem w_runnable : about1.curStatus? = some .runnable := by decide +kernel
set_option maxRecDepth 65536 in
theorem w_alone : about1.alone = true := by decide +kernel
set_option maxRecDepth 65536 in
theorem w_named : about1.methodNamed? x = some theMethod := by decide +kernel
set_option maxRecDepth 65536 in
theorem w_hears : about1.hears theMethod below0 = true := by decide +kernel
set_option maxRecDepth 65536 in
theorem w_ripe : about1.ripe theMethod args0 below0 = true := by decide +kernel
theorem w_running : about1.status = .running := rfl
set_option maxRecDepth 65536 in
theorem w_room : about1.hasRoom e0.platform room_1 = true :=
  launch0.hasRoom_least _ room_1 (by decide +kernel) (by decide +kernel) (by decide +kernel) (by decide +kernel) (by decide +kernel) (by decide +kernel)
theorem allAtoms_all (ts : List Jvm.Cond) (a : Array Jvm.Value) (st : Jvm.State) : (allAtoms ts).before a st = ts.all (fun c => c.before a st) := by
  induction ts with
  | nil => rfl
  | cons c t ih =>
    show (Jvm.Cond.and c (allAtoms t)).before a st = _
    rw [Jvm.Cond.before_and, ih, List.all_cons]
def words1 : List Jvm.Cond := Jvm.Cond.code x code maxLocals ret :: tables_1
/-- a 'code' word, met by the world's own term for the bytes: nothing is compared byte by byte -/
theorem code_word {y : MethodName} {bytes : ByteArray} {mx : Nat} {rt : Option FieldType} {a : Array Value} {s : State} {m : MethodId} {meth : Method} {c : Code} (h1 : s.methodNamed? y = some m) (h2 : s.vm.method? m = some meth) (h3 : meth.code = some c) (h4 : c.code = bytes)
    (h5 : (c.maxLocals == mx && c.exceptionTable.isEmpty && decide (c.maxStack ≤ mostOperands) && decide (meth.sig.returnType = rt) && !meth.locks && decide (parseMethodDescriptor y.desc = some meth.sig)) = true) : (Jvm.Cond.code y bytes mx rt).before a s = true := by
  simp only [Bool.and_eq_true, beq_iff_eq, Bool.not_eq_true', decide_eq_true_eq] at h5
  obtain ⟨⟨⟨⟨⟨g1, g2⟩, g3⟩, g4⟩, g5⟩, g6⟩ := h5
  simp [Cond.before, Cond.holds, Cond.value, h1, h2, h3, h4, g1, g2, g3, g4, g5, g6]
def isCode : Jvm.Cond → Bool
  | .code _ _ _ _ => true
  | _ => false
theorem all_split {L : List Jvm.Cond} {P : Jvm.Cond → Bool} (h1 : L.all (fun c => isCode c || P c) = true) (h2 : ∀ c ∈ L.filter isCode, P c = true) : L.all P = true := by
  refine List.all_eq_true.mpr fun c hc => ?_
  have h := List.all_eq_true.mp h1 c hc
  rcases Bool.eq_false_or_eq_true (isCode c) with hi | hi
  · exact h2 c (List.mem_filter.mpr ⟨hc, hi⟩)
  · simpa [hi] using h
set_option maxRecDepth 65536 in
theorem w_c0 : (Jvm.Cond.code x code maxLocals ret).before args0 about1 = true := code_word (m := ⟨1, 4⟩) (meth := k1m4) (c := k1c4) (by decide +kernel) rfl rfl rfl (by decide +kernel)
set_option maxRecDepth 65536 in
theorem w_c1 : (Jvm.Cond.code ({ cls := "com/example/sigillum/sigillum/cli/InputFilesCannotReadPinLaw", name := "str", desc := "(ICC)Ljava/lang/String;" } : Jvm.MethodName) method_2_code (3 : Nat) (Option.some (Jvm.ClassFile.FieldType.object "java/lang/String"))).before args0 about1 = true := code_word (m := ⟨1, 1⟩) (meth := k1m1) (c := k1c1) (by decide +kernel) rfl rfl rfl (by decide +kernel)
set_option maxRecDepth 65536 in
theorem w_c2 : (Jvm.Cond.code ({ cls := "java/lang/String", name := "valueOf", desc := "(C)Ljava/lang/String;" } : Jvm.MethodName) jdk_42_method_139_code (1 : Nat) (Option.some (Jvm.ClassFile.FieldType.object "java/lang/String"))).before args0 about1 = true := code_word (m := ⟨7, 5⟩) (meth := k7m5) (c := k7c5) (by decide +kernel) rfl rfl rfl (by decide +kernel)
set_option maxRecDepth 65536 in
theorem w_c3 : (Jvm.Cond.code ({ cls := "java/lang/StringLatin1", name := "canEncode", desc := "(C)Z" } : Jvm.MethodName) jdk_43_method_3_code (1 : Nat) (Option.some Jvm.ClassFile.FieldType.boolean)).before args0 about1 = true := code_word (m := ⟨8, 2⟩) (meth := k8m2) (c := k8c2) (by decide +kernel) rfl rfl rfl (by decide +kernel)
set_option maxRecDepth 65536 in
theorem w_c4 : (Jvm.Cond.code ({ cls := "java/lang/StringLatin1", name := "toBytes", desc := "(C)[B" } : Jvm.MethodName) jdk_43_method_46_code (1 : Nat) (Option.some (Jvm.ClassFile.FieldType.array Jvm.ClassFile.FieldType.byte))).before args0 about1 = true := code_word (m := ⟨8, 3⟩) (meth := k8m3) (c := k8c3) (by decide +kernel) rfl rfl rfl (by decide +kernel)
set_option maxRecDepth 65536 in
theorem w_c5 : (Jvm.Cond.code ({ cls := "java/lang/String", name := "<init>", desc := "([BB)V" } : Jvm.MethodName) jdk_42_method_151_code (3 : Nat) (Option.none : Option Jvm.ClassFile.FieldType)).before args0 about1 = true := code_word (m := ⟨7, 9⟩) (meth := k7m9) (c := k7c9) (by decide +kernel) rfl rfl rfl (by decide +kernel)
set_option maxRecDepth 65536 in
theorem w_c6 : (Jvm.Cond.code ({ cls := "java/lang/Object", name := "<init>", desc := "()V" } : Jvm.MethodName) object_method_1_code (1 : Nat) (Option.none : Option Jvm.ClassFile.FieldType)).before args0 about1 = true := code_word (m := ⟨0, 0⟩) (meth := k0m0) (c := k0c0) (by decide +kernel) rfl rfl rfl (by decide +kernel)
set_option maxRecDepth 65536 in
theorem w_c7 : (Jvm.Cond.code ({ cls := "java/lang/String", name := "<init>", desc := "([C)V" } : Jvm.MethodName) jdk_42_method_3_code (2 : Nat) (Option.none : Option Jvm.ClassFile.FieldType)).before args0 about1 = true := code_word (m := ⟨7, 1⟩) (meth := k7m1) (c := k7c1) (by decide +kernel) rfl rfl rfl (by decide +kernel)
set_option maxRecDepth 65536 in
theorem w_c8 : (Jvm.Cond.code ({ cls := "java/lang/String", name := "<init>", desc := "([CIILjava/lang/Void;)V" } : Jvm.MethodName) jdk_42_method_149_code (6 : Nat) (Option.none : Option Jvm.ClassFile.FieldType)).before args0 about1 = true := code_word (m := ⟨7, 7⟩) (meth := k7m7) (c := k7c7) (by decide +kernel) rfl rfl rfl (by decide +kernel)
set_option maxRecDepth 65536 in
theorem w_c9 : (Jvm.Cond.code ({ cls := "com/example/sigillum/sigillum/cli/InputFiles", name := "cannotRead", desc := "(Ljava/lang/String;Ljava/lang/String;Ljava/lang/String;)Lcom/example/sigillum/sigillum/cli/UsageException;" } : Jvm.MethodName) prog_4_method_6_code (3 : Nat) (Option.some (Jvm.ClassFile.FieldType.object "com/example/sigillum/sigillum/cli/UsageException"))).before args0 about1 = true := code_word (m := ⟨9, 1⟩) (meth := k9m1) (c := k9c1) (by decide +kernel) rfl rfl rfl (by decide +kernel)
set_option maxRecDepth 65536 in
theorem w_c10 : (Jvm.Cond.code ({ cls := "java/lang/StringBuilder", name := "<init>", desc := "()V" } : Jvm.MethodName) jdk_67_method_1_code (1 : Nat) (Option.none : Option Jvm.ClassFile.FieldType)).before args0 about1 = true := code_word (m := ⟨15, 0⟩) (meth := k15m0) (c := k15c0) (by decide +kernel) rfl rfl rfl (by decide +kernel)
set_option maxRecDepth 65536 in
theorem w_c11 : (Jvm.Cond.code ({ cls := "java/lang/AbstractStringBuilder", name := "<init>", desc := "(I)V" } : Jvm.MethodName) jdk_68_method_2_code (2 : Nat) (Option.none : Option Jvm.ClassFile.FieldType)).before args0 about1 = true := code_word (m := ⟨14, 1⟩) (meth := k14m1) (c := k14c1) (by decide +kernel) rfl rfl rfl (by decide +kernel)
set_option maxRecDepth 65536 in
theorem w_c12 : (Jvm.Cond.code ({ cls := "java/lang/StringBuilder", name := "append", desc := "(Ljava/lang/String;)Ljava/lang/StringBuilder;" } : Jvm.MethodName) jdk_67_method_7_code (2 : Nat) (Option.some (Jvm.ClassFile.FieldType.object "java/lang/StringBuilder"))).before args0 about1 = true := code_word (m := ⟨15, 1⟩) (meth := k15m1) (c := k15c1) (by decide +kernel) rfl rfl rfl (by decide +kernel)
set_option maxRecDepth 65536 in
theorem w_c13 : (Jvm.Cond.code ({ cls := "java/lang/AbstractStringBuilder", name := "append", desc := "(Ljava/lang/String;)Ljava/lang/AbstractStringBuilder;" } : Jvm.MethodName) jdk_68_method_22_code (3 : Nat) (Option.some (Jvm.ClassFile.FieldType.object "java/lang/AbstractStringBuilder"))).before args0 about1 = true := code_word (m := ⟨14, 5⟩) (meth := k14m5) (c := k14c5) (by decide +kernel) rfl rfl rfl (by decide +kernel)
set_option maxRecDepth 65536 in
theorem w_c14 : (Jvm.Cond.code ({ cls := "java/lang/String", name := "length", desc := "()I" } : Jvm.MethodName) jdk_42_method_54_code (1 : Nat) (Option.some Jvm.ClassFile.FieldType.int)).before args0 about1 = true := code_word (m := ⟨7, 3⟩) (meth := k7m3) (c := k7c3) (by decide +kernel) rfl rfl rfl (by decide +kernel)
set_option maxRecDepth 65536 in
theorem w_c15 : (Jvm.Cond.code ({ cls := "java/lang/String", name := "coder", desc := "()B" } : Jvm.MethodName) jdk_42_method_152_code (1 : Nat) (Option.some Jvm.ClassFile.FieldType.byte)).before args0 about1 = true := code_word (m := ⟨7, 10⟩) (meth := k7m10) (c := k7c10) (by decide +kernel) rfl rfl rfl (by decide +kernel)
set_option maxRecDepth 65536 in
theorem w_c16 : (Jvm.Cond.code ({ cls := "java/lang/AbstractStringBuilder", name := "ensureCapacityInternal", desc := "(I)V" } : Jvm.MethodName) jdk_68_method_9_code (3 : Nat) (Option.none : Option Jvm.ClassFile.FieldType)).before args0 about1 = true := code_word (m := ⟨14, 3⟩) (meth := k14m3) (c := k14c3) (by decide +kernel) rfl rfl rfl (by decide +kernel)
set_option maxRecDepth 65536 in
theorem w_c17 : (Jvm.Cond.code ({ cls := "java/lang/AbstractStringBuilder", name := "putStringAt", desc := "(ILjava/lang/String;)V" } : Jvm.MethodName) jdk_68_method_73_code (3 : Nat) (Option.none : Option Jvm.ClassFile.FieldType)).before args0 about1 = true := code_word (m := ⟨14, 9⟩) (meth := k14m9) (c := k14c9) (by decide +kernel) rfl rfl rfl (by decide +kernel)
set_option maxRecDepth 65536 in
theorem w_c18 : (Jvm.Cond.code ({ cls := "java/lang/AbstractStringBuilder", name := "inflateIfNeededFor", desc := "(Ljava/lang/String;)V" } : Jvm.MethodName) jdk_68_method_71_code (2 : Nat) (Option.none : Option Jvm.ClassFile.FieldType)).before args0 about1 = true := code_word (m := ⟨14, 8⟩) (meth := k14m8) (c := k14c8) (by decide +kernel) rfl rfl rfl (by decide +kernel)
set_option maxRecDepth 65536 in
theorem w_c19 : (Jvm.Cond.code ({ cls := "java/lang/String", name := "getBytes", desc := "([BIB)V" } : Jvm.MethodName) jdk_42_method_147_code (4 : Nat) (Option.none : Option Jvm.ClassFile.FieldType)).before args0 about1 = true := code_word (m := ⟨7, 6⟩) (meth := k7m6) (c := k7c6) (by decide +kernel) rfl rfl rfl (by decide +kernel)
set_option maxRecDepth 65536 in
theorem w_c20 : (Jvm.Cond.code ({ cls := "java/lang/StringBuilder", name := "toString", desc := "()Ljava/lang/String;" } : Jvm.MethodName) jdk_67_method_42_code (1 : Nat) (Option.some (Jvm.ClassFile.FieldType.object "java/lang/String"))).before args0 about1 = true := code_word (m := ⟨15, 2⟩) (meth := k15m2) (c := k15c2) (by decide +kernel) rfl rfl rfl (by decide +kernel)
set_option maxRecDepth 65536 in
theorem w_c21 : (Jvm.Cond.code ({ cls := "java/lang/String", name := "<init>", desc := "(Ljava/lang/StringBuilder;)V" } : Jvm.MethodName) jdk_42_method_53_code (2 : Nat) (Option.none : Option Jvm.ClassFile.FieldType)).before args0 about1 = true := code_word (m := ⟨7, 2⟩) (meth := k7m2) (c := k7c2) (by decide +kernel) rfl rfl rfl (by decide +kernel)
set_option maxRecDepth 65536 in
theorem w_c22 : (Jvm.Cond.code ({ cls := "java/lang/String", name := "<init>", desc := "(Ljava/lang/AbstractStringBuilder;Ljava/lang/Void;)V" } : Jvm.MethodName) jdk_42_method_150_code (5 : Nat) (Option.none : Option Jvm.ClassFile.FieldType)).before args0 about1 = true := code_word (m := ⟨7, 8⟩) (meth := k7m8) (c := k7c8) (by decide +kernel) rfl rfl rfl (by decide +kernel)
set_option maxRecDepth 65536 in
theorem w_c23 : (Jvm.Cond.code ({ cls := "java/lang/AbstractStringBuilder", name := "getValue", desc := "()[B" } : Jvm.MethodName) jdk_68_method_64_code (1 : Nat) (Option.some (Jvm.ClassFile.FieldType.array Jvm.ClassFile.FieldType.byte))).before args0 about1 = true := code_word (m := ⟨14, 6⟩) (meth := k14m6) (c := k14c6) (by decide +kernel) rfl rfl rfl (by decide +kernel)
set_option maxRecDepth 65536 in
theorem w_c24 : (Jvm.Cond.code ({ cls := "java/lang/StringBuilder", name := "length", desc := "()I" } : Jvm.MethodName) jdk_67_method_93_code (1 : Nat) (Option.some Jvm.ClassFile.FieldType.int)).before args0 about1 = true := code_word (m := ⟨15, 3⟩) (meth := k15m3) (c := k15c3) (by decide +kernel) rfl rfl rfl (by decide +kernel)
set_option maxRecDepth 65536 in
theorem w_c25 : (Jvm.Cond.code ({ cls := "java/lang/AbstractStringBuilder", name := "length", desc := "()I" } : Jvm.MethodName) jdk_68_method_6_code (1 : Nat) (Option.some Jvm.ClassFile.FieldType.int)).before args0 about1 = true := code_word (m := ⟨14, 2⟩) (meth := k14m2) (c := k14c2) (by decide +kernel) rfl rfl rfl (by decide +kernel)
set_option maxRecDepth 65536 in
theorem w_c26 : (Jvm.Cond.code ({ cls := "java/lang/AbstractStringBuilder", name := "isLatin1", desc := "()Z" } : Jvm.MethodName) jdk_68_method_68_code (1 : Nat) (Option.some Jvm.ClassFile.FieldType.boolean)).before args0 about1 = true := code_word (m := ⟨14, 7⟩) (meth := k14m7) (c := k14c7) (by decide +kernel) rfl rfl rfl (by decide +kernel)
set_option maxRecDepth 65536 in
theorem w_c27 : (Jvm.Cond.code ({ cls := "java/util/Arrays", name := "copyOfRange", desc := "([BII)[B" } : Jvm.MethodName) jdk_65_method_132_code (3 : Nat) (Option.some (Jvm.ClassFile.FieldType.array Jvm.ClassFile.FieldType.byte))).before args0 about1 = true := code_word (m := ⟨17, 3⟩) (meth := k17m3) (c := k17c3) (by decide +kernel) rfl rfl rfl (by decide +kernel)
set_option maxRecDepth 65536 in
theorem w_c28 : (Jvm.Cond.code ({ cls := "com/example/sigillum/sigillum/cli/UsageException", name := "<init>", desc := "(Ljava/lang/String;)V" } : Jvm.MethodName) prog_8_method_1_code (2 : Nat) (Option.none : Option Jvm.ClassFile.FieldType)).before args0 about1 = true := code_word (m := ⟨12, 0⟩) (meth := k12m0) (c := k12c0) (by decide +kernel) rfl rfl rfl (by decide +kernel)
set_option maxRecDepth 65536 in
theorem w_c29 : (Jvm.Cond.code ({ cls := "java/lang/Exception", name := "<init>", desc := "(Ljava/lang/String;)V" } : Jvm.MethodName) jdk_59_method_2_code (2 : Nat) (Option.none : Option Jvm.ClassFile.FieldType)).before args0 about1 = true := code_word (m := ⟨11, 1⟩) (meth := k11m1) (c := k11c1) (by decide +kernel) rfl rfl rfl (by decide +kernel)
set_option maxRecDepth 65536 in
theorem w_c30 : (Jvm.Cond.code ({ cls := "java/lang/Throwable", name := "<init>", desc := "(Ljava/lang/String;)V" } : Jvm.MethodName) jdk_78_method_2_code (2 : Nat) (Option.none : Option Jvm.ClassFile.FieldType)).before args0 about1 = true := code_word (m := ⟨10, 1⟩) (meth := k10m1) (c := k10c1) (by decide +kernel) rfl rfl rfl (by decide +kernel)
set_option maxRecDepth 65536 in
theorem w_c31 : (Jvm.Cond.code ({ cls := "java/lang/Throwable", name := "<init>", desc := "()V" } : Jvm.MethodName) jdk_78_method_1_code (1 : Nat) (Option.none : Option Jvm.ClassFile.FieldType)).before args0 about1 = true := code_word (m := ⟨10, 0⟩) (meth := k10m0) (c := k10c0) (by decide +kernel) rfl rfl rfl (by decide +kernel)
set_option maxRecDepth 65536 in
theorem w_c32 : (Jvm.Cond.code ({ cls := "java/lang/Throwable", name := "getMessage", desc := "()Ljava/lang/String;" } : Jvm.MethodName) jdk_78_method_6_code (1 : Nat) (Option.some (Jvm.ClassFile.FieldType.object "java/lang/String"))).before args0 about1 = true := code_word (m := ⟨10, 2⟩) (meth := k10m2) (c := k10c2) (by decide +kernel) rfl rfl rfl (by decide +kernel)
set_option maxRecDepth 65536 in
theorem w_c33 : (Jvm.Cond.code ({ cls := "com/example/sigillum/sigillum/cli/InputFilesCannotReadPinLaw", name := "prefix", desc := "(Ljava/lang/String;)Z" } : Jvm.MethodName) method_4_code (2 : Nat) (Option.some Jvm.ClassFile.FieldType.boolean)).before args0 about1 = true := code_word (m := ⟨1, 3⟩) (meth := k1m3) (c := k1c3) (by decide +kernel) rfl rfl rfl (by decide +kernel)
set_option maxRecDepth 65536 in
theorem w_c34 : (Jvm.Cond.code ({ cls := "java/lang/String", name := "charAt", desc := "(I)C" } : Jvm.MethodName) jdk_42_method_56_code (2 : Nat) (Option.some Jvm.ClassFile.FieldType.char)).before args0 about1 = true := code_word (m := ⟨7, 4⟩) (meth := k7m4) (c := k7c4) (by decide +kernel) rfl rfl rfl (by decide +kernel)
set_option maxRecDepth 65536 in
theorem w_c35 : (Jvm.Cond.code ({ cls := "java/lang/String", name := "isLatin1", desc := "()Z" } : Jvm.MethodName) jdk_42_method_154_code (1 : Nat) (Option.some Jvm.ClassFile.FieldType.boolean)).before args0 about1 = true := code_word (m := ⟨7, 11⟩) (meth := k7m11) (c := k7c11) (by decide +kernel) rfl rfl rfl (by decide +kernel)
set_option maxRecDepth 65536 in
theorem w_c36 : (Jvm.Cond.code ({ cls := "java/lang/StringLatin1", name := "charAt", desc := "([BI)C" } : Jvm.MethodName) jdk_43_method_2_code (2 : Nat) (Option.some Jvm.ClassFile.FieldType.char)).before args0 about1 = true := code_word (m := ⟨8, 1⟩) (meth := k8m1) (c := k8c1) (by decide +kernel) rfl rfl rfl (by decide +kernel)
set_option maxRecDepth 65536 in
theorem w_c37 : (Jvm.Cond.code ({ cls := "java/lang/String", name := "checkIndex", desc := "(II)V" } : Jvm.MethodName) jdk_42_method_155_code (2 : Nat) (Option.none : Option Jvm.ClassFile.FieldType)).before args0 about1 = true := code_word (m := ⟨7, 12⟩) (meth := k7m12) (c := k7c12) (by decide +kernel) rfl rfl rfl (by decide +kernel)
set_option maxRecDepth 65536 in
theorem w_c38 : (Jvm.Cond.code ({ cls := "jdk/internal/util/Preconditions", name := "checkIndex", desc := "(IILjava/util/function/BiFunction;)I" } : Jvm.MethodName) jdk_41_method_11_code (3 : Nat) (Option.some Jvm.ClassFile.FieldType.int)).before args0 about1 = true := code_word (m := ⟨19, 1⟩) (meth := k19m1) (c := k19c1) (by decide +kernel) rfl rfl rfl (by decide +kernel)
set_option maxRecDepth 65536 in
theorem w_c39 : (Jvm.Cond.code ({ cls := "com/example/sigillum/sigillum/cli/InputFilesCannotReadPinLaw", name := "at", desc := "(Ljava/lang/String;ILjava/lang/String;)Z" } : Jvm.MethodName) method_3_code (3 : Nat) (Option.some Jvm.ClassFile.FieldType.boolean)).before args0 about1 = true := code_word (m := ⟨1, 2⟩) (meth := k1m2) (c := k1c2) (by decide +kernel) rfl rfl rfl (by decide +kernel)
set_option maxRecDepth 65536 in
theorem w_c40 : (Jvm.Cond.code ({ cls := "java/lang/StringUTF16", name := "compress", desc := "([CII)[B" } : Jvm.MethodName) jdk_52_method_16_code (6 : Nat) (Option.some (Jvm.ClassFile.FieldType.array Jvm.ClassFile.FieldType.byte))).before args0 about1 = true := code_word (m := ⟨20, 2⟩) (meth := k20m2) (c := k20c2) (by decide +kernel) rfl rfl rfl (by decide +kernel)
set_option maxRecDepth 65536 in
theorem w_c41 : (Jvm.Cond.code ({ cls := "java/lang/StringUTF16", name := "compress", desc := "([CI[BII)I" } : Jvm.MethodName) jdk_52_method_21_code (7 : Nat) (Option.some Jvm.ClassFile.FieldType.int)).before args0 about1 = true := code_word (m := ⟨20, 3⟩) (meth := k20m3) (c := k20c3) (by decide +kernel) rfl rfl rfl (by decide +kernel)
set_option maxRecDepth 65536 in
theorem w_c42 : (Jvm.Cond.code ({ cls := "java/lang/StringUTF16", name := "coderFromArrayLen", desc := "([BI)B" } : Jvm.MethodName) jdk_52_method_15_code (2 : Nat) (Option.some Jvm.ClassFile.FieldType.byte)).before args0 about1 = true := code_word (m := ⟨20, 1⟩) (meth := k20m1) (c := k20c1) (by decide +kernel) rfl rfl rfl (by decide +kernel)
set_option maxRecDepth 65536 in
theorem w_c43 : (Jvm.Cond.code ({ cls := "java/lang/AbstractStringBuilder", name := "newCapacity", desc := "(I)I" } : Jvm.MethodName) jdk_68_method_10_code (6 : Nat) (Option.some Jvm.ClassFile.FieldType.int)).before args0 about1 = true := code_word (m := ⟨14, 4⟩) (meth := k14m4) (c := k14c4) (by decide +kernel) rfl rfl rfl (by decide +kernel)
set_option maxRecDepth 65536 in
theorem w_c44 : (Jvm.Cond.code ({ cls := "jdk/internal/util/ArraysSupport", name := "newLength", desc := "(III)I" } : Jvm.MethodName) jdk_48_method_27_code (4 : Nat) (Option.some Jvm.ClassFile.FieldType.int)).before args0 about1 = true := code_word (m := ⟨21, 1⟩) (meth := k21m1) (c := k21c1) (by decide +kernel) rfl rfl rfl (by decide +kernel)
set_option maxRecDepth 65536 in
theorem w_c45 : (Jvm.Cond.code ({ cls := "java/lang/Math", name := "max", desc := "(II)I" } : Jvm.MethodName) jdk_29_method_65_code (2 : Nat) (Option.some Jvm.ClassFile.FieldType.int)).before args0 about1 = true := code_word (m := ⟨22, 1⟩) (meth := k22m1) (c := k22c1) (by decide +kernel) rfl rfl rfl (by decide +kernel)
set_option maxRecDepth 65536 in
theorem w_c46 : (Jvm.Cond.code ({ cls := "java/util/Arrays", name := "copyOf", desc := "([BI)[B" } : Jvm.MethodName) jdk_65_method_121_code (3 : Nat) (Option.some (Jvm.ClassFile.FieldType.array Jvm.ClassFile.FieldType.byte))).before args0 about1 = true := code_word (m := ⟨17, 1⟩) (meth := k17m1) (c := k17c1) (by decide +kernel) rfl rfl rfl (by decide +kernel)
set_option maxRecDepth 65536 in
theorem w_c47 : (Jvm.Cond.code ({ cls := "java/lang/Math", name := "min", desc := "(II)I" } : Jvm.MethodName) jdk_29_method_69_code (2 : Nat) (Option.some Jvm.ClassFile.FieldType.int)).before args0 about1 = true := code_word (m := ⟨22, 2⟩) (meth := k22m2) (c := k22c2) (by decide +kernel) rfl rfl rfl (by decide +kernel)
set_option maxRecDepth 65536 in
theorem w_c48 : (Jvm.Cond.code ({ cls := "java/util/Arrays", name := "copyOfRangeByte", desc := "([BII)[B" } : Jvm.MethodName) jdk_65_method_133_code (5 : Nat) (Option.some (Jvm.ClassFile.FieldType.array Jvm.ClassFile.FieldType.byte))).before args0 about1 = true := code_word (m := ⟨17, 4⟩) (meth := k17m4) (c := k17c4) (by decide +kernel) rfl rfl rfl (by decide +kernel)
set_option maxRecDepth 65536 in
theorem w_c49 : (Jvm.Cond.code ({ cls := "java/util/Arrays", name := "checkLength", desc := "(II)V" } : Jvm.MethodName) jdk_65_method_131_code (2 : Nat) (Option.none : Option Jvm.ClassFile.FieldType)).before args0 about1 = true := code_word (m := ⟨17, 2⟩) (meth := k17m2) (c := k17c2) (by decide +kernel) rfl rfl rfl (by decide +kernel)
def codes1 : List Jvm.Cond := [Jvm.Cond.code x code maxLocals ret, Jvm.Cond.code ({ cls := "com/example/sigillum/sigillum/cli/InputFilesCannotReadPinLaw", name := "str", desc := "(ICC)Ljava/lang/String;" } : Jvm.MethodName) method_2_code (3 : Nat) (Option.some (Jvm.ClassFile.FieldType.object "java/lang/String")), Jvm.Cond.code ({ cls := "java/lang/String", name := "valueOf", desc := "(C)Ljava/lang/String;" } : Jvm.MethodName) jdk_42_method_139_code (1 : Nat) (Option.some (Jvm.ClassFile.FieldType.object "java/lang/String")), Jvm.Cond.code ({ cls := "java/lang/StringLatin1", name := "canEncode", desc := "(C)Z" } : Jvm.MethodName) jdk_43_method_3_code (1 : Nat) (Option.some Jvm.ClassFile.FieldType.boolean), Jvm.Cond.code ({ cls := "java/lang/StringLatin1", name := "toBytes", desc := "(C)[B" } : Jvm.MethodName) jdk_43_method_46_code (1 : Nat) (Option.some (Jvm.ClassFile.FieldType.array Jvm.ClassFile.FieldType.byte)), Jvm.Cond.code ({ cls := "java/lang/String", name := "<init>", desc := "([BB)V" } : Jvm.MethodName) jdk_42_method_151_code (3 : Nat) (Option.none : Option Jvm.ClassFile.FieldType), Jvm.Cond.code ({ cls := "java/lang/Object", name := "<init>", desc := "()V" } : Jvm.MethodName) object_method_1_code (1 : Nat) (Option.none : Option Jvm.ClassFile.FieldType), Jvm.Cond.code ({ cls := "java/lang/String", name := "<init>", desc := "([C)V" } : Jvm.MethodName) jdk_42_method_3_code (2 : Nat) (Option.none : Option Jvm.ClassFile.FieldType), Jvm.Cond.code ({ cls := "java/lang/String", name := "<init>", desc := "([CIILjava/lang/Void;)V" } : Jvm.MethodName) jdk_42_method_149_code (6 : Nat) (Option.none : Option Jvm.ClassFile.FieldType), Jvm.Cond.code ({ cls := "com/example/sigillum/sigillum/cli/InputFiles", name := "cannotRead", desc := "(Ljava/lang/String;Ljava/lang/String;Ljava/lang/String;)Lcom/example/sigillum/sigillum/cli/UsageException;" } : Jvm.MethodName) prog_4_method_6_code (3 : Nat) (Option.some (Jvm.ClassFile.FieldType.object "com/example/sigillum/sigillum/cli/UsageException")), Jvm.Cond.code ({ cls := "java/lang/StringBuilder", name := "<init>", desc := "()V" } : Jvm.MethodName) jdk_67_method_1_code (1 : Nat) (Option.none : Option Jvm.ClassFile.FieldType), Jvm.Cond.code ({ cls := "java/lang/AbstractStringBuilder", name := "<init>", desc := "(I)V" } : Jvm.MethodName) jdk_68_method_2_code (2 : Nat) (Option.none : Option Jvm.ClassFile.FieldType), Jvm.Cond.code ({ cls := "java/lang/StringBuilder", name := "append", desc := "(Ljava/lang/String;)Ljava/lang/StringBuilder;" } : Jvm.MethodName) jdk_67_method_7_code (2 : Nat) (Option.some (Jvm.ClassFile.FieldType.object "java/lang/StringBuilder")), Jvm.Cond.code ({ cls := "java/lang/AbstractStringBuilder", name := "append", desc := "(Ljava/lang/String;)Ljava/lang/AbstractStringBuilder;" } : Jvm.MethodName) jdk_68_method_22_code (3 : Nat) (Option.some (Jvm.ClassFile.FieldType.object "java/lang/AbstractStringBuilder")), Jvm.Cond.code ({ cls := "java/lang/String", name := "length", desc := "()I" } : Jvm.MethodName) jdk_42_method_54_code (1 : Nat) (Option.some Jvm.ClassFile.FieldType.int), Jvm.Cond.code ({ cls := "java/lang/String", name := "coder", desc := "()B" } : Jvm.MethodName) jdk_42_method_152_code (1 : Nat) (Option.some Jvm.ClassFile.FieldType.byte), Jvm.Cond.code ({ cls := "java/lang/AbstractStringBuilder", name := "ensureCapacityInternal", desc := "(I)V" } : Jvm.MethodName) jdk_68_method_9_code (3 : Nat) (Option.none : Option Jvm.ClassFile.FieldType), Jvm.Cond.code ({ cls := "java/lang/AbstractStringBuilder", name := "putStringAt", desc := "(ILjava/lang/String;)V" } : Jvm.MethodName) jdk_68_method_73_code (3 : Nat) (Option.none : Option Jvm.ClassFile.FieldType), Jvm.Cond.code ({ cls := "java/lang/AbstractStringBuilder", name := "inflateIfNeededFor", desc := "(Ljava/lang/String;)V" } : Jvm.MethodName) jdk_68_method_71_code (2 : Nat) (Option.none : Option Jvm.ClassFile.FieldType), Jvm.Cond.code ({ cls := "java/lang/String", name := "getBytes", desc := "([BIB)V" } : Jvm.MethodName) jdk_42_method_147_code (4 : Nat) (Option.none : Option Jvm.ClassFile.FieldType), Jvm.Cond.code ({ cls := "java/lang/StringBuilder", name := "toString", desc := "()Ljava/lang/String;" } : Jvm.MethodName) jdk_67_method_42_code (1 : Nat) (Option.some (Jvm.ClassFile.FieldType.object "java/lang/String")), Jvm.Cond.code ({ cls := "java/lang/String", name := "<init>", desc := "(Ljava/lang/StringBuilder;)V" } : Jvm.MethodName) jdk_42_method_53_code (2 : Nat) (Option.none : Option Jvm.ClassFile.FieldType), Jvm.Cond.code ({ cls := "java/lang/String", name := "<init>", desc := "(Ljava/lang/AbstractStringBuilder;Ljava/lang/Void;)V" } : Jvm.MethodName) jdk_42_method_150_code (5 : Nat) (Option.none : Option Jvm.ClassFile.FieldType), Jvm.Cond.code ({ cls := "java/lang/AbstractStringBuilder", name := "getValue", desc := "()[B" } : Jvm.MethodName) jdk_68_method_64_code (1 : Nat) (Option.some (Jvm.ClassFile.FieldType.array Jvm.ClassFile.FieldType.byte)), Jvm.Cond.code ({ cls := "java/lang/StringBuilder", name := "length", desc := "()I" } : Jvm.MethodName) jdk_67_method_93_code (1 : Nat) (Option.some Jvm.ClassFile.FieldType.int), Jvm.Cond.code ({ cls := "java/lang/AbstractStringBuilder", name := "length", desc := "()I" } : Jvm.MethodName) jdk_68_method_6_code (1 : Nat) (Option.some Jvm.ClassFile.FieldType.int), Jvm.Cond.code ({ cls := "java/lang/AbstractStringBuilder", name := "isLatin1", desc := "()Z" } : Jvm.MethodName) jdk_68_method_68_code (1 : Nat) (Option.some Jvm.ClassFile.FieldType.boolean), Jvm.Cond.code ({ cls := "java/util/Arrays", name := "copyOfRange", desc := "([BII)[B" } : Jvm.MethodName) jdk_65_method_132_code (3 : Nat) (Option.some (Jvm.ClassFile.FieldType.array Jvm.ClassFile.FieldType.byte)), Jvm.Cond.code ({ cls := "com/example/sigillum/sigillum/cli/UsageException", name := "<init>", desc := "(Ljava/lang/String;)V" } : Jvm.MethodName) prog_8_method_1_code (2 : Nat) (Option.none : Option Jvm.ClassFile.FieldType), Jvm.Cond.code ({ cls := "java/lang/Exception", name := "<init>", desc := "(Ljava/lang/String;)V" } : Jvm.MethodName) jdk_59_method_2_code (2 : Nat) (Option.none : Option Jvm.ClassFile.FieldType), Jvm.Cond.code ({ cls := "java/lang/Throwable", name := "<init>", desc := "(Ljava/lang/String;)V" } : Jvm.MethodName) jdk_78_method_2_code (2 : Nat) (Option.none : Option Jvm.ClassFile.FieldType), Jvm.Cond.code ({ cls := "java/lang/Throwable", name := "<init>", desc := "()V" } : Jvm.MethodName) jdk_78_method_1_code (1 : Nat) (Option.none : Option Jvm.ClassFile.FieldType), Jvm.Cond.code ({ cls := "java/lang/Throwable", name := "getMessage", desc := "()Ljava/lang/String;" } : Jvm.MethodName) jdk_78_method_6_code (1 : Nat) (Option.some (Jvm.ClassFile.FieldType.object "java/lang/String")), Jvm.Cond.code ({ cls := "com/example/sigillum/sigillum/cli/InputFilesCannotReadPinLaw", name := "prefix", desc := "(Ljava/lang/String;)Z" } : Jvm.MethodName) method_4_code (2 : Nat) (Option.some Jvm.ClassFile.FieldType.boolean), Jvm.Cond.code ({ cls := "java/lang/String", name := "charAt", desc := "(I)C" } : Jvm.MethodName) jdk_42_method_56_code (2 : Nat) (Option.some Jvm.ClassFile.FieldType.char), Jvm.Cond.code ({ cls := "java/lang/String", name := "isLatin1", desc := "()Z" } : Jvm.MethodName) jdk_42_method_154_code (1 : Nat) (Option.some Jvm.ClassFile.FieldType.boolean), Jvm.Cond.code ({ cls := "java/lang/StringLatin1", name := "charAt", desc := "([BI)C" } : Jvm.MethodName) jdk_43_method_2_code (2 : Nat) (Option.some Jvm.ClassFile.FieldType.char), Jvm.Cond.code ({ cls := "java/lang/String", name := "checkIndex", desc := "(II)V" } : Jvm.MethodName) jdk_42_method_155_code (2 : Nat) (Option.none : Option Jvm.ClassFile.FieldType), Jvm.Cond.code ({ cls := "jdk/internal/util/Preconditions", name := "checkIndex", desc := "(IILjava/util/function/BiFunction;)I" } : Jvm.MethodName) jdk_41_method_11_code (3 : Nat) (Option.some Jvm.ClassFile.FieldType.int), Jvm.Cond.code ({ cls := "com/example/sigillum/sigillum/cli/InputFilesCannotReadPinLaw", name := "at", desc := "(Ljava/lang/String;ILjava/lang/String;)Z" } : Jvm.MethodName) method_3_code (3 : Nat) (Option.some Jvm.ClassFile.FieldType.boolean), Jvm.Cond.code ({ cls := "java/lang/StringUTF16", name := "compress", desc := "([CII)[B" } : Jvm.MethodName) jdk_52_method_16_code (6 : Nat) (Option.some (Jvm.ClassFile.FieldType.array Jvm.ClassFile.FieldType.byte)), Jvm.Cond.code ({ cls := "java/lang/StringUTF16", name := "compress", desc := "([CI[BII)I" } : Jvm.MethodName) jdk_52_method_21_code (7 : Nat) (Option.some Jvm.ClassFile.FieldType.int), Jvm.Cond.code ({ cls := "java/lang/StringUTF16", name := "coderFromArrayLen", desc := "([BI)B" } : Jvm.MethodName) jdk_52_method_15_code (2 : Nat) (Option.some Jvm.ClassFile.FieldType.byte), Jvm.Cond.code ({ cls := "java/lang/AbstractStringBuilder", name := "newCapacity", desc := "(I)I" } : Jvm.MethodName) jdk_68_method_10_code (6 : Nat) (Option.some Jvm.ClassFile.FieldType.int), Jvm.Cond.code ({ cls := "jdk/internal/util/ArraysSupport", name := "newLength", desc := "(III)I" } : Jvm.MethodName) jdk_48_method_27_code (4 : Nat) (Option.some Jvm.ClassFile.FieldType.int), Jvm.Cond.code ({ cls := "java/lang/Math", name := "max", desc := "(II)I" } : Jvm.MethodName) jdk_29_method_65_code (2 : Nat) (Option.some Jvm.ClassFile.FieldType.int), Jvm.Cond.code ({ cls := "java/util/Arrays", name := "copyOf", desc := "([BI)[B" } : Jvm.MethodName) jdk_65_method_121_code (3 : Nat) (Option.some (Jvm.ClassFile.FieldType.array Jvm.ClassFile.FieldType.byte)), Jvm.Cond.code ({ cls := "java/lang/Math", name := "min", desc := "(II)I" } : Jvm.MethodName) jdk_29_method_69_code (2 : Nat) (Option.some Jvm.ClassFile.FieldType.int), Jvm.Cond.code ({ cls := "java/util/Arrays", name := "copyOfRangeByte", desc := "([BII)[B" } : Jvm.MethodName) jdk_65_method_133_code (5 : Nat) (Option.some (Jvm.ClassFile.FieldType.array Jvm.ClassFile.FieldType.byte)), Jvm.Cond.code ({ cls := "java/util/Arrays", name := "checkLength", desc := "(II)V" } : Jvm.MethodName) jdk_65_method_131_code (2 : Nat) (Option.none : Option Jvm.ClassFile.FieldType)]
set_option maxRecDepth 65536 in
theorem codes_eq : words1.filter isCode = codes1 := rfl
theorem w_codes : ∀ c ∈ words1.filter isCode, c.before args0 about1 = true := by
  rw [codes_eq]
  intro c hc
  simp only [codes1, List.mem_cons, List.not_mem_nil, or_false] at hc
  rcases hc with rfl | rfl | rfl | rfl | rfl | rfl | rfl | rfl | rfl | rfl | rfl | rfl | rfl | rfl | rfl | rfl | rfl | rfl | rfl | rfl | rfl | rfl | rfl | rfl | rfl | rfl | rfl | rfl | rfl | rfl | rfl | rfl | rfl | rfl | rfl | rfl | rfl | rfl | rfl | rfl | rfl | rfl | rfl | rfl | rfl | rfl | rfl | rfl | rfl | rfl
  · exact w_c0
  · exact w_c1
  · exact w_c2
  · exact w_c3
  · exact w_c4
  · exact w_c5
  · exact w_c6
  · exact w_c7
  · exact w_c8
  · exact w_c9
  · exact w_c10
  · exact w_c11
  · exact w_c12
  · exact w_c13
  · exact w_c14
  · exact w_c15
  · exact w_c16
  · exact w_c17
  · exact w_c18
  · exact w_c19
  · exact w_c20
  · exact w_c21
  · exact w_c22
  · exact w_c23
  · exact w_c24
  · exact w_c25
  · exact w_c26
  · exact w_c27
  · exact w_c28
  · exact w_c29
  · exact w_c30
  · exact w_c31
  · exact w_c32
  · exact w_c33
  · exact w_c34
  · exact w_c35
  · exact w_c36
  · exact w_c37
  · exact w_c38
  · exact w_c39
  · exact w_c40
  · exact w_c41
  · exact w_c42
  · exact w_c43
  · exact w_c44
  · exact w_c45
  · exact w_c46
  · exact w_c47
  · exact w_c48
  · exact w_c49
set_option maxRecDepth 65536 in
theorem w_t1 : (words1.take 24).all (fun c => isCode c || c.before args0 about1) = true := by decide +kernel
set_option maxRecDepth 65536 in
theorem w_t2 : ((words1.drop 24).take 24).all (fun c => isCode c || c.before args0 about1) = true := by decide +kernel
set_option maxRecDepth 65536 in
theorem w_t3 : (((words1.drop 24).drop 24).take 24).all (fun c => isCode c || c.before args0 about1) = true := by decide +kernel
set_option maxRecDepth 65536 in
theorem w_t4 : ((((words1.drop 24).drop 24).drop 24).take 24).all (fun c => isCode c || c.before args0 about1) = true := by decide +kernel
set_option maxRecDepth 65536 in
theorem w_t5 : (((((words1.drop 24).drop 24).drop 24).drop 24).take 24).all (fun c => isCode c || c.before args0 about1) = true := by decide +kernel
set_option maxRecDepth 65536 in
theorem w_t6 : ((((((words1.drop 24).drop 24).drop 24).drop 24).drop 24).take 24).all (fun c => isCode c || c.before args0 about1) = true := by decide +kernel
set_option maxRecDepth 65536 in
theorem w_t7 : (((((((words1.drop 24).drop 24).drop 24).drop 24).drop 24).drop 24).take 24).all (fun c => isCode c || c.before args0 about1) = true := by decide +kernel
set_option maxRecDepth 65536 in
theorem w_t8 : ((((((((words1.drop 24).drop 24).drop 24).drop 24).drop 24).drop 24).drop 24).take 24).all (fun c => isCode c || c.before args0 about1) = true := by decide +kernel
set_option maxRecDepth 65536 in
theorem w_t9 : (((((((((words1.drop 24).drop 24).drop 24).drop 24).drop 24).drop 24).drop 24).drop 24).take 24).all (fun c => isCode c || c.before args0 about1) = true := by decide +kernel
set_option maxRecDepth 65536 in
theorem w_t10 : ((((((((((words1.drop 24).drop 24).drop 24).drop 24).drop 24).drop 24).drop 24).drop 24).drop 24).take 24).all (fun c => isCode c || c.before args0 about1) = true := by decide +kernel
set_option maxRecDepth 65536 in
theorem w_t11 : (((((((((((words1.drop 24).drop 24).drop 24).drop 24).drop 24).drop 24).drop 24).drop 24).drop 24).drop 24).take 24).all (fun c => isCode c || c.before args0 about1) = true := by decide +kernel
set_option maxRecDepth 65536 in
theorem w_t12 : (((((((((((words1.drop 24).drop 24).drop 24).drop 24).drop 24).drop 24).drop 24).drop 24).drop 24).drop 24).drop 24).all (fun c => isCode c || c.before args0 about1) = true := by decide +kernel
theorem w_tables : (allAtoms (Jvm.Cond.code x code maxLocals ret :: tables_1)).before args0 about1 = true := by
  rw [allAtoms_all]
  show words1.all (fun c => c.before args0 about1) = true
  refine all_split ?_ w_codes
  rw [← List.take_append_drop 24 words1, List.all_append, w_t1, ← List.take_append_drop 24 (words1.drop 24), List.all_append, w_t2, ← List.take_append_drop 24 ((words1.drop 24).drop 24), List.all_append, w_t3, ← List.take_append_drop 24 (((words1.drop 24).drop 24).drop 24), List.all_append, w_t4, ← List.take_append_drop 24 ((((words1.drop 24).drop 24).drop 24).drop 24), List.all_append, w_t5, ← List.take_append_drop 24 (((((words1.drop 24).drop 24).drop 24).drop 24).drop 24), List.all_append, w_t6, ← List.take_append_drop 24 ((((((words1.drop 24).drop 24).drop 24).drop 24).drop 24).drop 24), List.all_append, w_t7, ← List.take_append_drop 24 (((((((words1.drop 24).drop 24).drop 24).drop 24).drop 24).drop 24).drop 24), List.all_append, w_t8, ← List.take_append_drop 24 ((((((((words1.drop 24).drop 24).drop 24).drop 24).drop 24).drop 24).drop 24).drop 24), List.all_append, w_t9, ← List.take_append_drop 24 (((((((((words1.drop 24).drop 24).drop 24).drop 24).drop 24).drop 24).drop 24).drop 24).drop 24), List.all_append, w_t10, ← List.take_append_drop 24 ((((((((((words1.drop 24).drop 24).drop 24).drop 24).drop 24).drop 24).drop 24).drop 24).drop 24).drop 24), List.all_append, w_t11, w_t12]
  rfl
set_option maxRecDepth 65536 in
theorem w_rest : rest_1_c.before args0 about1 = true := by decide +kernel
set_option maxRecDepth 65536 in
theorem w_case : (Jvm.Cond.and given_1 narrow_1).before args0 about1 = true := by decide +kernel
set_option maxRecDepth 65536 in
theorem w_consts : constsHeld consts_1 about1 := Jvm.Lit.constsHeldB_iff.mp (by decide +kernel)
theorem w_applies : (headSpec (Jvm.Cond.code x code maxLocals ret :: tables_1) room_1).applies x e0.platform about1 = true :=
  (Spec.applies_iff w_frames).mpr ⟨w_running, w_runnable, w_alone, w_named, w_hears, w_ripe, w_room, w_tables⟩
theorem atStart : AtStart classFile x code maxLocals ret World_1 tables_1 room_1 Calls_1 rest_1 Pre_1 launch0 p0 e0 about1 theMethod args0 below0 :=
  ⟨lists_1, trivial, launch0.admits_env _ _ _, launch0.least_env, fairChoices_fair.cas, fairChoices_fair.clock, w_frames, w_args, w_heap, w_applies, ⟨(by decide +kernel : framesKnown about1 = true), ⟨(by decide +kernel : tablesKnown about1 = true), ⟨w_consts, trivial⟩⟩⟩, w_rest, w_case⟩
end start1
theorem witness_1 : WitnessClaimed_1 := ⟨start1.p0, start1.e0, start1.about1, start1.theMethod, start1.args0, start1.below0, start1.atStart⟩
end Jvm.Pilot.@@N@@
