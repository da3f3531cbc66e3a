import JvmDerived
import JvmDerived.Pilot.@@N@@Statement
import JvmDerived.Pilot.@@N@@Code
set_option linter.unusedVariables false
set_option linter.unusedSimpArgs false

namespace Jvm.Pilot.@@N@@
open Jvm Jvm.ClassFile Sem Op Lib Jvm.Free Jvm.Stand Jvm.LawKit Jvm.RoadKit Bundle Jvm.Pilot.@@N@@.Jvm.D
theorem own_pre {tb : Tables} {e : Env} {below : List Frame} {A B : State} {C : State → Outcome → Prop} (k : ∀ t, Steps tb e below A t → Steps tb e below B t) (h : ∃ s₂ o, Steps tb e below A s₂ ∧ C s₂ o) : ∃ s₂ o, Steps tb e below B s₂ ∧ C s₂ o := by
  obtain ⟨s2, o, h1, h2⟩ := h
  exact ⟨s2, o, k _ h1, h2⟩
theorem own_lrem {p : Program} {l : Launch} {e : Env} {R : Room} {s : State} {m : MethodId} {args : Array Value} {below : List Frame} {meth : Method} {c : Code} {T : State} {locs : List Loc} {cells slots : Nat} {g : JFrame} {target : State} (X : Stand p l e R s m args below meth c T locs cells slots) (hx : p.tables.exec = Jvm.exec) (hg : g.method = m) {x y : Int64} {rest : List Value} (hd : decode c.code g.pc = .ok (.lrem, 1)) (hs : g.stack = .long y :: .long x :: rest) (hy : y ≠ 0)
    (hr : Steps p.tables e below (T.setTop { g with pc := g.pc + 1, stack := .long (x % y) :: rest }) target) : Steps p.tables e below (T.setTop g) target :=
  XS.lrem X.here hx hg hd hs hy (by rw [lrem_mod]; exact hr)
theorem own_w {wl : List Jvm.Cond} {a0 : Array Value} {Z : State} (h : ∀ d ∈ wl, d.before a0 Z = true) (i : Nat) {d : Jvm.Cond} (g : wl[i]? = some d) : d.before a0 Z = true := h d (List.mem_of_getElem? g)

abbrev own_l0 (x0 : Int64) (x1 : Int32) (x2 : Int32) (x3 : Int32) (x4 : Int32) : Array Slot := #[.val (.long x0), .second, .val (.int x1), .val (.int x2), .val (.int x3), .val (.int x4), .unset, .unset, .unset, .unset, .unset, .unset, .unset, .unset, .unset, .unset, .unset, .unset, .unset, .unset, .unset, .unset, .unset, .unset, .unset, .unset, .unset, .unset, .unset, .unset]
abbrev own_l1 (x0 : Int64) (x1 : Int32) (x2 : Int32) (x3 : Int32) (x4 : Int32) : Array Slot := #[.val (.long x0), .second, .val (.int x1), .val (.int x2), .val (.int x3), .val (.int x4), .val (.long ((x1 &&& (262143 : Int32)).toInt64)), .second, .unset, .unset, .unset, .unset, .unset, .unset, .unset, .unset, .unset, .unset, .unset, .unset, .unset, .unset, .unset, .unset, .unset, .unset, .unset, .unset, .unset, .unset]
abbrev own_l2 (x0 : Int64) (x1 : Int32) (x2 : Int32) (x3 : Int32) (x4 : Int32) : Array Slot := #[.val (.long x0), .second, .val (.int x1), .val (.int x2), .val (.int x3), .val (.int x4), .val (.long ((x1 &&& (262143 : Int32)).toInt64)), .second, .val (.long ((x2 &&& (262143 : Int32)).toInt64)), .second, .unset, .unset, .unset, .unset, .unset, .unset, .unset, .unset, .unset, .unset, .unset, .unset, .unset, .unset, .unset, .unset, .unset, .unset, .unset, .unset]
abbrev own_l3 (x0 : Int64) (x1 : Int32) (x2 : Int32) (x3 : Int32) (x4 : Int32) : Array Slot := #[.val (.long x0), .second, .val (.int x1), .val (.int x2), .val (.int x3), .val (.int x4), .val (.long ((x1 &&& (262143 : Int32)).toInt64)), .second, .val (.long ((x2 &&& (262143 : Int32)).toInt64)), .second, .val (.long ((x3 &&& (262143 : Int32)).toInt64)), .second, .unset, .unset, .unset, .unset, .unset, .unset, .unset, .unset, .unset, .unset, .unset, .unset, .unset, .unset, .unset, .unset, .unset, .unset]
abbrev own_l4 (x0 : Int64) (x1 : Int32) (x2 : Int32) (x3 : Int32) (x4 : Int32) : Array Slot := #[.val (.long x0), .second, .val (.int x1), .val (.int x2), .val (.int x3), .val (.int x4), .val (.long ((x1 &&& (262143 : Int32)).toInt64)), .second, .val (.long ((x2 &&& (262143 : Int32)).toInt64)), .second, .val (.long ((x3 &&& (262143 : Int32)).toInt64)), .second, .val (.int ((1 : Int32) + ((x4 &&& (2147483647 : Int32)) % (3 : Int32)))), .unset, .unset, .unset, .unset, .unset, .unset, .unset, .unset, .unset, .unset, .unset, .unset, .unset, .unset, .unset, .unset, .unset]
abbrev own_l5 (x0 : Int64) (x1 : Int32) (x2 : Int32) (x3 : Int32) (x4 : Int32) : Array Slot := #[.val (.long x0), .second, .val (.int x1), .val (.int x2), .val (.int x3), .val (.int x4), .val (.long ((x1 &&& (262143 : Int32)).toInt64)), .second, .val (.long ((x2 &&& (262143 : Int32)).toInt64)), .second, .val (.long ((x3 &&& (262143 : Int32)).toInt64)), .second, .val (.int ((1 : Int32) + ((x4 &&& (2147483647 : Int32)) % (3 : Int32)))), .val (.long (x4.toInt64)), .second, .unset, .unset, .unset, .unset, .unset, .unset, .unset, .unset, .unset, .unset, .unset, .unset, .unset, .unset, .unset]
abbrev own_l6 (x0 : Int64) (x1 : Int32) (x2 : Int32) (x3 : Int32) (x4 : Int32) (x5 : Int64) : Array Slot := #[.val (.long x0), .second, .val (.int x1), .val (.int x2), .val (.int x3), .val (.int x4), .val (.long x5), .second, .val (.long ((x2 &&& (262143 : Int32)).toInt64)), .second, .val (.long ((x3 &&& (262143 : Int32)).toInt64)), .second, .val (.int ((1 : Int32) + ((x4 &&& (2147483647 : Int32)) % (3 : Int32)))), .val (.long (x4.toInt64)), .second, .unset, .unset, .unset, .unset, .unset, .unset, .unset, .unset, .unset, .unset, .unset, .unset, .unset, .unset, .unset]
abbrev own_l7 (x0 : Int64) (x1 : Int32) (x2 : Int32) (x3 : Int32) (x4 : Int32) (x5 : Int64) (x6 : Int64) : Array Slot := #[.val (.long x0), .second, .val (.int x1), .val (.int x2), .val (.int x3), .val (.int x4), .val (.long x5), .second, .val (.long x6), .second, .val (.long ((x3 &&& (262143 : Int32)).toInt64)), .second, .val (.int ((1 : Int32) + ((x4 &&& (2147483647 : Int32)) % (3 : Int32)))), .val (.long (x4.toInt64)), .second, .unset, .unset, .unset, .unset, .unset, .unset, .unset, .unset, .unset, .unset, .unset, .unset, .unset, .unset, .unset]
abbrev own_l8 (x0 : Int64) (x1 : Int32) (x2 : Int32) (x3 : Int32) (x4 : Int32) (x5 : Int64) (x6 : Int64) (x7 : Int64) : Array Slot := #[.val (.long x0), .second, .val (.int x1), .val (.int x2), .val (.int x3), .val (.int x4), .val (.long x5), .second, .val (.long x6), .second, .val (.long x7), .second, .val (.int ((1 : Int32) + ((x4 &&& (2147483647 : Int32)) % (3 : Int32)))), .val (.long (x4.toInt64)), .second, .unset, .unset, .unset, .unset, .unset, .unset, .unset, .unset, .unset, .unset, .unset, .unset, .unset, .unset, .unset]
abbrev own_l9 (x0 : Int64) (x1 : Int32) (x2 : Int32) (x3 : Int32) (x4 : Int32) (x5 : Int64) (x6 : Int64) (x7 : Int64) (x8 : Int64) : Array Slot := #[.val (.long x0), .second, .val (.int x1), .val (.int x2), .val (.int x3), .val (.int x4), .val (.long x5), .second, .val (.long x6), .second, .val (.long x7), .second, .val (.int ((1 : Int32) + ((x4 &&& (2147483647 : Int32)) % (3 : Int32)))), .val (.long x8), .second, .unset, .unset, .unset, .unset, .unset, .unset, .unset, .unset, .unset, .unset, .unset, .unset, .unset, .unset, .unset]
abbrev own_l10 (x0 : Int64) (x1 : Int32) (x2 : Int32) (x3 : Int32) (x4 : Int32) (x5 : Int64) (x6 : Int64) (x7 : Int64) (x8 : Int64) : Array Slot := #[.val (.long x0), .second, .val (.int x1), .val (.int x2), .val (.int x3), .val (.int x4), .val (.long x5), .second, .val (.long x6), .second, .val (.long x7), .second, .val (.int (1 : Int32)), .val (.long x8), .second, .unset, .unset, .unset, .unset, .unset, .unset, .unset, .unset, .unset, .unset, .unset, .unset, .unset, .unset, .unset]
theorem own_pd0 : parseMethodDescriptor "(J)V" = some ⟨[.long], none⟩ := by decide +kernel
abbrev own_l11 (x0 : Int64) (x1 : Int32) (x2 : Int32) (x3 : Int32) (x4 : Int32) (x5 : Int64) (x6 : Int64) (x7 : Int64) (x8 : Int64) (x9 : Addr) : Array Slot := #[.val (.long x0), .second, .val (.int x1), .val (.int x2), .val (.int x3), .val (.int x4), .val (.long x5), .second, .val (.long x6), .second, .val (.long x7), .second, .val (.int (1 : Int32)), .val (.long x8), .second, .val (.ref x9), .unset, .unset, .unset, .unset, .unset, .unset, .unset, .unset, .unset, .unset, .unset, .unset, .unset, .unset]
theorem own_pd1 : parseMethodDescriptor "(JJ)V" = some ⟨[.long, .long], none⟩ := by decide +kernel
abbrev own_l12 (x0 : Int64) (x1 : Int32) (x2 : Int32) (x3 : Int32) (x4 : Int32) (x5 : Int64) (x6 : Int64) (x7 : Int64) (x8 : Int64) (x9 : Addr) : Array Slot := #[.val (.long x0), .second, .val (.int x1), .val (.int x2), .val (.int x3), .val (.int x4), .val (.long x5), .second, .val (.long x6), .second, .val (.long x7), .second, .val (.int (1 : Int32)), .val (.long x8), .second, .val (.ref x9), .val (.long (x0 + x5)), .second, .unset, .unset, .unset, .unset, .unset, .unset, .unset, .unset, .unset, .unset, .unset, .unset]
abbrev own_l13 (x0 : Int64) (x1 : Int32) (x2 : Int32) (x3 : Int32) (x4 : Int32) (x5 : Int64) (x6 : Int64) (x7 : Int64) (x8 : Int64) (x9 : Addr) : Array Slot := #[.val (.long x0), .second, .val (.int x1), .val (.int x2), .val (.int x3), .val (.int x4), .val (.long x5), .second, .val (.long x6), .second, .val (.long x7), .second, .val (.int (1 : Int32)), .val (.long x8), .second, .val (.ref x9), .val (.long (x0 + x5)), .second, .val (.long ((x0 + x5) + x6)), .second, .unset, .unset, .unset, .unset, .unset, .unset, .unset, .unset, .unset, .unset]
abbrev own_l14 (x0 : Int64) (x1 : Int32) (x2 : Int32) (x3 : Int32) (x4 : Int32) (x5 : Int64) (x6 : Int64) (x7 : Int64) (x8 : Int64) (x9 : Addr) : Array Slot := #[.val (.long x0), .second, .val (.int x1), .val (.int x2), .val (.int x3), .val (.int x4), .val (.long x5), .second, .val (.long x6), .second, .val (.long x7), .second, .val (.int (1 : Int32)), .val (.long x8), .second, .val (.ref x9), .val (.long (x0 + x5)), .second, .val (.long ((x0 + x5) + x6)), .second, .val (.long (((x0 + x5) + x6) + x7)), .second, .unset, .unset, .unset, .unset, .unset, .unset, .unset, .unset]
abbrev own_l15 (x0 : Int64) (x1 : Int32) (x2 : Int32) (x3 : Int32) (x4 : Int32) (x5 : Int64) (x6 : Int64) (x7 : Int64) (x8 : Int64) (x9 : Addr) : Array Slot := #[.val (.long x0), .second, .val (.int x1), .val (.int x2), .val (.int x3), .val (.int x4), .val (.long x5), .second, .val (.long x6), .second, .val (.long x7), .second, .val (.int (1 : Int32)), .val (.long x8), .second, .val (.ref x9), .val (.long (x0 + x5)), .second, .val (.long ((x0 + x5) + x6)), .second, .val (.long (((x0 + x5) + x6) + x7)), .second, .val (.long (x0 + x5)), .second, .unset, .unset, .unset, .unset, .unset, .unset]
abbrev own_l16 (x0 : Int64) (x1 : Int32) (x2 : Int32) (x3 : Int32) (x4 : Int32) (x5 : Int64) (x6 : Int64) (x7 : Int64) (x8 : Int64) (x9 : Addr) : Array Slot := #[.val (.long x0), .second, .val (.int x1), .val (.int x2), .val (.int x3), .val (.int x4), .val (.long x5), .second, .val (.long x6), .second, .val (.long x7), .second, .val (.int (1 : Int32)), .val (.long x8), .second, .val (.ref x9), .val (.long (x0 + x5)), .second, .val (.long ((x0 + x5) + x6)), .second, .val (.long (((x0 + x5) + x6) + x7)), .second, .val (.long (x0 + x5)), .second, .val (.long (65536 : Int64)), .second, .unset, .unset, .unset, .unset]
abbrev own_l17 (x0 : Int64) (x1 : Int32) (x2 : Int32) (x3 : Int32) (x4 : Int32) (x5 : Int64) (x6 : Int64) (x7 : Int64) (x8 : Int64) (x9 : Addr) : Array Slot := #[.val (.long x0), .second, .val (.int x1), .val (.int x2), .val (.int x3), .val (.int x4), .val (.long x5), .second, .val (.long x6), .second, .val (.long x7), .second, .val (.int (1 : Int32)), .val (.long x8), .second, .val (.ref x9), .val (.long (x0 + x5)), .second, .val (.long ((x0 + x5) + x6)), .second, .val (.long (((x0 + x5) + x6) + x7)), .second, .val (.long (x0 + x5)), .second, .val (.long (65536 : Int64)), .second, .val (.int (0 : Int32)), .unset, .unset, .unset]
abbrev own_l18 (x0 : Int64) (x1 : Int32) (x2 : Int32) (x3 : Int32) (x4 : Int32) (x5 : Int64) (x6 : Int64) (x7 : Int64) (x8 : Int64) (x9 : Addr) : Array Slot := #[.val (.long x0), .second, .val (.int x1), .val (.int x2), .val (.int x3), .val (.int x4), .val (.long x5), .second, .val (.long x6), .second, .val (.long x7), .second, .val (.int (1 : Int32)), .val (.long x8), .second, .val (.ref x9), .val (.long (x0 + x5)), .second, .val (.long ((x0 + x5) + x6)), .second, .val (.long (((x0 + x5) + x6) + x7)), .second, .val (.long (x0 + x5)), .second, .val (.long (65536 : Int64)), .second, .val (.int (0 : Int32)), .val (.int (0 : Int32)), .unset, .unset]
theorem own_pd2 : parseMethodDescriptor "(I)J" = some ⟨[.int], some .long⟩ := by decide +kernel
abbrev own_l19 (x0 : Int64) (x1 : Int32) (x2 : Int32) (x3 : Int32) (x4 : Int32) (x5 : Int64) (x6 : Int64) (x7 : Int64) (x8 : Int64) (x9 : Addr) : Array Slot := #[.val (.long x0), .second, .val (.int x1), .val (.int x2), .val (.int x3), .val (.int x4), .val (.long x5), .second, .val (.long x6), .second, .val (.long x7), .second, .val (.int (1 : Int32)), .val (.long x8), .second, .val (.ref x9), .val (.long (x0 + x5)), .second, .val (.long ((x0 + x5) + x6)), .second, .val (.long (((x0 + x5) + x6) + x7)), .second, .val (.long (x0 + x5)), .second, .val (.long (65536 : Int64)), .second, .val (.int (0 : Int32)), .val (.int (0 : Int32)), .val (.int (1 : Int32)), .unset]
abbrev own_l20 (x0 : Int64) (x1 : Int32) (x2 : Int32) (x3 : Int32) (x4 : Int32) (x5 : Int64) (x6 : Int64) (x7 : Int64) (x8 : Int64) : Array Slot := #[.val (.long x0), .second, .val (.int x1), .val (.int x2), .val (.int x3), .val (.int x4), .val (.long x5), .second, .val (.long x6), .second, .val (.long x7), .second, .val (.int (2 : Int32)), .val (.long x8), .second, .unset, .unset, .unset, .unset, .unset, .unset, .unset, .unset, .unset, .unset, .unset, .unset, .unset, .unset, .unset]
abbrev own_l21 (x0 : Int64) (x1 : Int32) (x2 : Int32) (x3 : Int32) (x4 : Int32) (x5 : Int64) (x6 : Int64) (x7 : Int64) (x8 : Int64) (x9 : Addr) : Array Slot := #[.val (.long x0), .second, .val (.int x1), .val (.int x2), .val (.int x3), .val (.int x4), .val (.long x5), .second, .val (.long x6), .second, .val (.long x7), .second, .val (.int (2 : Int32)), .val (.long x8), .second, .val (.ref x9), .unset, .unset, .unset, .unset, .unset, .unset, .unset, .unset, .unset, .unset, .unset, .unset, .unset, .unset]
abbrev own_l22 (x0 : Int64) (x1 : Int32) (x2 : Int32) (x3 : Int32) (x4 : Int32) (x5 : Int64) (x6 : Int64) (x7 : Int64) (x8 : Int64) (x9 : Addr) : Array Slot := #[.val (.long x0), .second, .val (.int x1), .val (.int x2), .val (.int x3), .val (.int x4), .val (.long x5), .second, .val (.long x6), .second, .val (.long x7), .second, .val (.int (2 : Int32)), .val (.long x8), .second, .val (.ref x9), .val (.long (x0 + x5)), .second, .unset, .unset, .unset, .unset, .unset, .unset, .unset, .unset, .unset, .unset, .unset, .unset]
abbrev own_l23 (x0 : Int64) (x1 : Int32) (x2 : Int32) (x3 : Int32) (x4 : Int32) (x5 : Int64) (x6 : Int64) (x7 : Int64) (x8 : Int64) (x9 : Addr) : Array Slot := #[.val (.long x0), .second, .val (.int x1), .val (.int x2), .val (.int x3), .val (.int x4), .val (.long x5), .second, .val (.long x6), .second, .val (.long x7), .second, .val (.int (2 : Int32)), .val (.long x8), .second, .val (.ref x9), .val (.long (x0 + x5)), .second, .val (.long ((x0 + x5) + x6)), .second, .unset, .unset, .unset, .unset, .unset, .unset, .unset, .unset, .unset, .unset]
abbrev own_l24 (x0 : Int64) (x1 : Int32) (x2 : Int32) (x3 : Int32) (x4 : Int32) (x5 : Int64) (x6 : Int64) (x7 : Int64) (x8 : Int64) (x9 : Addr) : Array Slot := #[.val (.long x0), .second, .val (.int x1), .val (.int x2), .val (.int x3), .val (.int x4), .val (.long x5), .second, .val (.long x6), .second, .val (.long x7), .second, .val (.int (2 : Int32)), .val (.long x8), .second, .val (.ref x9), .val (.long (x0 + x5)), .second, .val (.long ((x0 + x5) + x6)), .second, .val (.long (((x0 + x5) + x6) + x7)), .second, .unset, .unset, .unset, .unset, .unset, .unset, .unset, .unset]
abbrev own_l25 (x0 : Int64) (x1 : Int32) (x2 : Int32) (x3 : Int32) (x4 : Int32) (x5 : Int64) (x6 : Int64) (x7 : Int64) (x8 : Int64) (x9 : Addr) : Array Slot := #[.val (.long x0), .second, .val (.int x1), .val (.int x2), .val (.int x3), .val (.int x4), .val (.long x5), .second, .val (.long x6), .second, .val (.long x7), .second, .val (.int (2 : Int32)), .val (.long x8), .second, .val (.ref x9), .val (.long (x0 + x5)), .second, .val (.long ((x0 + x5) + x6)), .second, .val (.long (((x0 + x5) + x6) + x7)), .second, .val (.long ((x0 + x5) + x6)), .second, .unset, .unset, .unset, .unset, .unset, .unset]
abbrev own_l26 (x0 : Int64) (x1 : Int32) (x2 : Int32) (x3 : Int32) (x4 : Int32) (x5 : Int64) (x6 : Int64) (x7 : Int64) (x8 : Int64) (x9 : Addr) : Array Slot := #[.val (.long x0), .second, .val (.int x1), .val (.int x2), .val (.int x3), .val (.int x4), .val (.long x5), .second, .val (.long x6), .second, .val (.long x7), .second, .val (.int (2 : Int32)), .val (.long x8), .second, .val (.ref x9), .val (.long (x0 + x5)), .second, .val (.long ((x0 + x5) + x6)), .second, .val (.long (((x0 + x5) + x6) + x7)), .second, .val (.long ((x0 + x5) + x6)), .second, .val (.long (65536 : Int64)), .second, .unset, .unset, .unset, .unset]
abbrev own_l27 (x0 : Int64) (x1 : Int32) (x2 : Int32) (x3 : Int32) (x4 : Int32) (x5 : Int64) (x6 : Int64) (x7 : Int64) (x8 : Int64) (x9 : Addr) : Array Slot := #[.val (.long x0), .second, .val (.int x1), .val (.int x2), .val (.int x3), .val (.int x4), .val (.long x5), .second, .val (.long x6), .second, .val (.long x7), .second, .val (.int (2 : Int32)), .val (.long x8), .second, .val (.ref x9), .val (.long (x0 + x5)), .second, .val (.long ((x0 + x5) + x6)), .second, .val (.long (((x0 + x5) + x6) + x7)), .second, .val (.long ((x0 + x5) + x6)), .second, .val (.long (65536 : Int64)), .second, .val (.int (0 : Int32)), .unset, .unset, .unset]
abbrev own_l28 (x0 : Int64) (x1 : Int32) (x2 : Int32) (x3 : Int32) (x4 : Int32) (x5 : Int64) (x6 : Int64) (x7 : Int64) (x8 : Int64) (x9 : Addr) : Array Slot := #[.val (.long x0), .second, .val (.int x1), .val (.int x2), .val (.int x3), .val (.int x4), .val (.long x5), .second, .val (.long x6), .second, .val (.long x7), .second, .val (.int (2 : Int32)), .val (.long x8), .second, .val (.ref x9), .val (.long (x0 + x5)), .second, .val (.long ((x0 + x5) + x6)), .second, .val (.long (((x0 + x5) + x6) + x7)), .second, .val (.long ((x0 + x5) + x6)), .second, .val (.long (65536 : Int64)), .second, .val (.int (0 : Int32)), .val (.int (0 : Int32)), .unset, .unset]
abbrev own_l29 (x0 : Int64) (x1 : Int32) (x2 : Int32) (x3 : Int32) (x4 : Int32) (x5 : Int64) (x6 : Int64) (x7 : Int64) (x8 : Int64) (x9 : Addr) : Array Slot := #[.val (.long x0), .second, .val (.int x1), .val (.int x2), .val (.int x3), .val (.int x4), .val (.long x5), .second, .val (.long x6), .second, .val (.long x7), .second, .val (.int (2 : Int32)), .val (.long x8), .second, .val (.ref x9), .val (.long (x0 + x5)), .second, .val (.long ((x0 + x5) + x6)), .second, .val (.long (((x0 + x5) + x6) + x7)), .second, .val (.long ((x0 + x5) + x6)), .second, .val (.long (65536 : Int64)), .second, .val (.int (0 : Int32)), .val (.int (0 : Int32)), .val (.int (1 : Int32)), .unset]
abbrev own_l30 (x0 : Int64) (x1 : Int32) (x2 : Int32) (x3 : Int32) (x4 : Int32) (x5 : Int64) (x6 : Int64) (x7 : Int64) (x8 : Int64) (x9 : Addr) : Array Slot := #[.val (.long x0), .second, .val (.int x1), .val (.int x2), .val (.int x3), .val (.int x4), .val (.long x5), .second, .val (.long x6), .second, .val (.long x7), .second, .val (.int (2 : Int32)), .val (.long x8), .second, .val (.ref x9), .val (.long (x0 + x5)), .second, .val (.long ((x0 + x5) + x6)), .second, .val (.long (((x0 + x5) + x6) + x7)), .second, .val (.long ((x0 + x5) + x6)), .second, .val (.long (65536 : Int64)), .second, .val (.int (1 : Int32)), .unset, .unset, .unset]
abbrev own_l31 (x0 : Int64) (x1 : Int32) (x2 : Int32) (x3 : Int32) (x4 : Int32) (x5 : Int64) (x6 : Int64) (x7 : Int64) (x8 : Int64) (x9 : Addr) : Array Slot := #[.val (.long x0), .second, .val (.int x1), .val (.int x2), .val (.int x3), .val (.int x4), .val (.long x5), .second, .val (.long x6), .second, .val (.long x7), .second, .val (.int (2 : Int32)), .val (.long x8), .second, .val (.ref x9), .val (.long (x0 + x5)), .second, .val (.long ((x0 + x5) + x6)), .second, .val (.long (((x0 + x5) + x6) + x7)), .second, .val (.long ((x0 + x5) + x6)), .second, .val (.long (65536 : Int64)), .second, .val (.int (1 : Int32)), .val (.int (0 : Int32)), .unset, .unset]
abbrev own_l32 (x0 : Int64) (x1 : Int32) (x2 : Int32) (x3 : Int32) (x4 : Int32) (x5 : Int64) (x6 : Int64) (x7 : Int64) (x8 : Int64) (x9 : Addr) : Array Slot := #[.val (.long x0), .second, .val (.int x1), .val (.int x2), .val (.int x3), .val (.int x4), .val (.long x5), .second, .val (.long x6), .second, .val (.long x7), .second, .val (.int (2 : Int32)), .val (.long x8), .second, .val (.ref x9), .val (.long (x0 + x5)), .second, .val (.long ((x0 + x5) + x6)), .second, .val (.long (((x0 + x5) + x6) + x7)), .second, .val (.long ((x0 + x5) + x6)), .second, .val (.long (65536 : Int64)), .second, .val (.int (1 : Int32)), .val (.int (0 : Int32)), .val (.int (1 : Int32)), .unset]
abbrev own_l33 (x0 : Int64) (x1 : Int32) (x2 : Int32) (x3 : Int32) (x4 : Int32) (x5 : Int64) (x6 : Int64) (x7 : Int64) (x8 : Int64) : Array Slot := #[.val (.long x0), .second, .val (.int x1), .val (.int x2), .val (.int x3), .val (.int x4), .val (.long x5), .second, .val (.long x6), .second, .val (.long x7), .second, .val (.int (3 : Int32)), .val (.long x8), .second, .unset, .unset, .unset, .unset, .unset, .unset, .unset, .unset, .unset, .unset, .unset, .unset, .unset, .unset, .unset]
abbrev own_l34 (x0 : Int64) (x1 : Int32) (x2 : Int32) (x3 : Int32) (x4 : Int32) (x5 : Int64) (x6 : Int64) (x7 : Int64) (x8 : Int64) (x9 : Addr) : Array Slot := #[.val (.long x0), .second, .val (.int x1), .val (.int x2), .val (.int x3), .val (.int x4), .val (.long x5), .second, .val (.long x6), .second, .val (.long x7), .second, .val (.int (3 : Int32)), .val (.long x8), .second, .val (.ref x9), .unset, .unset, .unset, .unset, .unset, .unset, .unset, .unset, .unset, .unset, .unset, .unset, .unset, .unset]
abbrev own_l35 (x0 : Int64) (x1 : Int32) (x2 : Int32) (x3 : Int32) (x4 : Int32) (x5 : Int64) (x6 : Int64) (x7 : Int64) (x8 : Int64) (x9 : Addr) : Array Slot := #[.val (.long x0), .second, .val (.int x1), .val (.int x2), .val (.int x3), .val (.int x4), .val (.long x5), .second, .val (.long x6), .second, .val (.long x7), .second, .val (.int (3 : Int32)), .val (.long x8), .second, .val (.ref x9), .val (.long (x0 + x5)), .second, .unset, .unset, .unset, .unset, .unset, .unset, .unset, .unset, .unset, .unset, .unset, .unset]
abbrev own_l36 (x0 : Int64) (x1 : Int32) (x2 : Int32) (x3 : Int32) (x4 : Int32) (x5 : Int64) (x6 : Int64) (x7 : Int64) (x8 : Int64) (x9 : Addr) : Array Slot := #[.val (.long x0), .second, .val (.int x1), .val (.int x2), .val (.int x3), .val (.int x4), .val (.long x5), .second, .val (.long x6), .second, .val (.long x7), .second, .val (.int (3 : Int32)), .val (.long x8), .second, .val (.ref x9), .val (.long (x0 + x5)), .second, .val (.long ((x0 + x5) + x6)), .second, .unset, .unset, .unset, .unset, .unset, .unset, .unset, .unset, .unset, .unset]
abbrev own_l37 (x0 : Int64) (x1 : Int32) (x2 : Int32) (x3 : Int32) (x4 : Int32) (x5 : Int64) (x6 : Int64) (x7 : Int64) (x8 : Int64) (x9 : Addr) : Array Slot := #[.val (.long x0), .second, .val (.int x1), .val (.int x2), .val (.int x3), .val (.int x4), .val (.long x5), .second, .val (.long x6), .second, .val (.long x7), .second, .val (.int (3 : Int32)), .val (.long x8), .second, .val (.ref x9), .val (.long (x0 + x5)), .second, .val (.long ((x0 + x5) + x6)), .second, .val (.long (((x0 + x5) + x6) + x7)), .second, .unset, .unset, .unset, .unset, .unset, .unset, .unset, .unset]
abbrev own_l38 (x0 : Int64) (x1 : Int32) (x2 : Int32) (x3 : Int32) (x4 : Int32) (x5 : Int64) (x6 : Int64) (x7 : Int64) (x8 : Int64) (x9 : Addr) : Array Slot := #[.val (.long x0), .second, .val (.int x1), .val (.int x2), .val (.int x3), .val (.int x4), .val (.long x5), .second, .val (.long x6), .second, .val (.long x7), .second, .val (.int (3 : Int32)), .val (.long x8), .second, .val (.ref x9), .val (.long (x0 + x5)), .second, .val (.long ((x0 + x5) + x6)), .second, .val (.long (((x0 + x5) + x6) + x7)), .second, .val (.long (((x0 + x5) + x6) + x7)), .second, .unset, .unset, .unset, .unset, .unset, .unset]
abbrev own_l39 (x0 : Int64) (x1 : Int32) (x2 : Int32) (x3 : Int32) (x4 : Int32) (x5 : Int64) (x6 : Int64) (x7 : Int64) (x8 : Int64) (x9 : Addr) : Array Slot := #[.val (.long x0), .second, .val (.int x1), .val (.int x2), .val (.int x3), .val (.int x4), .val (.long x5), .second, .val (.long x6), .second, .val (.long x7), .second, .val (.int (3 : Int32)), .val (.long x8), .second, .val (.ref x9), .val (.long (x0 + x5)), .second, .val (.long ((x0 + x5) + x6)), .second, .val (.long (((x0 + x5) + x6) + x7)), .second, .val (.long (((x0 + x5) + x6) + x7)), .second, .val (.long (65536 : Int64)), .second, .unset, .unset, .unset, .unset]
abbrev own_l40 (x0 : Int64) (x1 : Int32) (x2 : Int32) (x3 : Int32) (x4 : Int32) (x5 : Int64) (x6 : Int64) (x7 : Int64) (x8 : Int64) (x9 : Addr) : Array Slot := #[.val (.long x0), .second, .val (.int x1), .val (.int x2), .val (.int x3), .val (.int x4), .val (.long x5), .second, .val (.long x6), .second, .val (.long x7), .second, .val (.int (3 : Int32)), .val (.long x8), .second, .val (.ref x9), .val (.long (x0 + x5)), .second, .val (.long ((x0 + x5) + x6)), .second, .val (.long (((x0 + x5) + x6) + x7)), .second, .val (.long (((x0 + x5) + x6) + x7)), .second, .val (.long (65536 : Int64)), .second, .val (.int (0 : Int32)), .unset, .unset, .unset]
abbrev own_l41 (x0 : Int64) (x1 : Int32) (x2 : Int32) (x3 : Int32) (x4 : Int32) (x5 : Int64) (x6 : Int64) (x7 : Int64) (x8 : Int64) (x9 : Addr) : Array Slot := #[.val (.long x0), .second, .val (.int x1), .val (.int x2), .val (.int x3), .val (.int x4), .val (.long x5), .second, .val (.long x6), .second, .val (.long x7), .second, .val (.int (3 : Int32)), .val (.long x8), .second, .val (.ref x9), .val (.long (x0 + x5)), .second, .val (.long ((x0 + x5) + x6)), .second, .val (.long (((x0 + x5) + x6) + x7)), .second, .val (.long (((x0 + x5) + x6) + x7)), .second, .val (.long (65536 : Int64)), .second, .val (.int (0 : Int32)), .val (.int (0 : Int32)), .unset, .unset]
abbrev own_l42 (x0 : Int64) (x1 : Int32) (x2 : Int32) (x3 : Int32) (x4 : Int32) (x5 : Int64) (x6 : Int64) (x7 : Int64) (x8 : Int64) (x9 : Addr) : Array Slot := #[.val (.long x0), .second, .val (.int x1), .val (.int x2), .val (.int x3), .val (.int x4), .val (.long x5), .second, .val (.long x6), .second, .val (.long x7), .second, .val (.int (3 : Int32)), .val (.long x8), .second, .val (.ref x9), .val (.long (x0 + x5)), .second, .val (.long ((x0 + x5) + x6)), .second, .val (.long (((x0 + x5) + x6) + x7)), .second, .val (.long (((x0 + x5) + x6) + x7)), .second, .val (.long (65536 : Int64)), .second, .val (.int (0 : Int32)), .val (.int (0 : Int32)), .val (.int (1 : Int32)), .unset]
abbrev own_l43 (x0 : Int64) (x1 : Int32) (x2 : Int32) (x3 : Int32) (x4 : Int32) (x5 : Int64) (x6 : Int64) (x7 : Int64) (x8 : Int64) (x9 : Addr) : Array Slot := #[.val (.long x0), .second, .val (.int x1), .val (.int x2), .val (.int x3), .val (.int x4), .val (.long x5), .second, .val (.long x6), .second, .val (.long x7), .second, .val (.int (3 : Int32)), .val (.long x8), .second, .val (.ref x9), .val (.long (x0 + x5)), .second, .val (.long ((x0 + x5) + x6)), .second, .val (.long (((x0 + x5) + x6) + x7)), .second, .val (.long (((x0 + x5) + x6) + x7)), .second, .val (.long (65536 : Int64)), .second, .val (.int (0 : Int32)), .val (.int (1 : Int32)), .unset, .unset]
abbrev own_l44 (x0 : Int64) (x1 : Int32) (x2 : Int32) (x3 : Int32) (x4 : Int32) (x5 : Int64) (x6 : Int64) (x7 : Int64) (x8 : Int64) (x9 : Addr) : Array Slot := #[.val (.long x0), .second, .val (.int x1), .val (.int x2), .val (.int x3), .val (.int x4), .val (.long x5), .second, .val (.long x6), .second, .val (.long x7), .second, .val (.int (3 : Int32)), .val (.long x8), .second, .val (.ref x9), .val (.long (x0 + x5)), .second, .val (.long ((x0 + x5) + x6)), .second, .val (.long (((x0 + x5) + x6) + x7)), .second, .val (.long (((x0 + x5) + x6) + x7)), .second, .val (.long (65536 : Int64)), .second, .val (.int (0 : Int32)), .val (.int (1 : Int32)), .val (.int (1 : Int32)), .unset]
abbrev own_l45 (x0 : Int64) (x1 : Int32) (x2 : Int32) (x3 : Int32) (x4 : Int32) (x5 : Int64) (x6 : Int64) (x7 : Int64) (x8 : Int64) (x9 : Addr) : Array Slot := #[.val (.long x0), .second, .val (.int x1), .val (.int x2), .val (.int x3), .val (.int x4), .val (.long x5), .second, .val (.long x6), .second, .val (.long x7), .second, .val (.int (3 : Int32)), .val (.long x8), .second, .val (.ref x9), .val (.long (x0 + x5)), .second, .val (.long ((x0 + x5) + x6)), .second, .val (.long (((x0 + x5) + x6) + x7)), .second, .val (.long (((x0 + x5) + x6) + x7)), .second, .val (.long (65536 : Int64)), .second, .val (.int (0 : Int32)), .val (.int (1 : Int32)), .val (.int (1 : Int32)), .val (.int (1 : Int32))]
abbrev own_l46 (x0 : Int64) (x1 : Int32) (x2 : Int32) (x3 : Int32) (x4 : Int32) (x5 : Int64) (x6 : Int64) (x7 : Int64) (x8 : Int64) (x9 : Addr) : Array Slot := #[.val (.long x0), .second, .val (.int x1), .val (.int x2), .val (.int x3), .val (.int x4), .val (.long x5), .second, .val (.long x6), .second, .val (.long x7), .second, .val (.int (3 : Int32)), .val (.long x8), .second, .val (.ref x9), .val (.long (x0 + x5)), .second, .val (.long ((x0 + x5) + x6)), .second, .val (.long (((x0 + x5) + x6) + x7)), .second, .val (.long (((x0 + x5) + x6) + x7)), .second, .val (.long (65536 : Int64)), .second, .val (.int (1 : Int32)), .unset, .unset, .unset]
abbrev own_l47 (x0 : Int64) (x1 : Int32) (x2 : Int32) (x3 : Int32) (x4 : Int32) (x5 : Int64) (x6 : Int64) (x7 : Int64) (x8 : Int64) (x9 : Addr) : Array Slot := #[.val (.long x0), .second, .val (.int x1), .val (.int x2), .val (.int x3), .val (.int x4), .val (.long x5), .second, .val (.long x6), .second, .val (.long x7), .second, .val (.int (3 : Int32)), .val (.long x8), .second, .val (.ref x9), .val (.long (x0 + x5)), .second, .val (.long ((x0 + x5) + x6)), .second, .val (.long (((x0 + x5) + x6) + x7)), .second, .val (.long (((x0 + x5) + x6) + x7)), .second, .val (.long (65536 : Int64)), .second, .val (.int (1 : Int32)), .val (.int (0 : Int32)), .unset, .unset]
abbrev own_l48 (x0 : Int64) (x1 : Int32) (x2 : Int32) (x3 : Int32) (x4 : Int32) (x5 : Int64) (x6 : Int64) (x7 : Int64) (x8 : Int64) (x9 : Addr) : Array Slot := #[.val (.long x0), .second, .val (.int x1), .val (.int x2), .val (.int x3), .val (.int x4), .val (.long x5), .second, .val (.long x6), .second, .val (.long x7), .second, .val (.int (3 : Int32)), .val (.long x8), .second, .val (.ref x9), .val (.long (x0 + x5)), .second, .val (.long ((x0 + x5) + x6)), .second, .val (.long (((x0 + x5) + x6) + x7)), .second, .val (.long (((x0 + x5) + x6) + x7)), .second, .val (.long (65536 : Int64)), .second, .val (.int (1 : Int32)), .val (.int (0 : Int32)), .val (.int (1 : Int32)), .unset]
abbrev own_l49 (x0 : Int64) (x1 : Int32) (x2 : Int32) (x3 : Int32) (x4 : Int32) (x5 : Int64) (x6 : Int64) (x7 : Int64) (x8 : Int64) (x9 : Addr) : Array Slot := #[.val (.long x0), .second, .val (.int x1), .val (.int x2), .val (.int x3), .val (.int x4), .val (.long x5), .second, .val (.long x6), .second, .val (.long x7), .second, .val (.int (3 : Int32)), .val (.long x8), .second, .val (.ref x9), .val (.long (x0 + x5)), .second, .val (.long ((x0 + x5) + x6)), .second, .val (.long (((x0 + x5) + x6) + x7)), .second, .val (.long (((x0 + x5) + x6) + x7)), .second, .val (.long (65536 : Int64)), .second, .val (.int (1 : Int32)), .val (.int (1 : Int32)), .unset, .unset]
abbrev own_l50 (x0 : Int64) (x1 : Int32) (x2 : Int32) (x3 : Int32) (x4 : Int32) (x5 : Int64) (x6 : Int64) (x7 : Int64) (x8 : Int64) (x9 : Addr) : Array Slot := #[.val (.long x0), .second, .val (.int x1), .val (.int x2), .val (.int x3), .val (.int x4), .val (.long x5), .second, .val (.long x6), .second, .val (.long x7), .second, .val (.int (3 : Int32)), .val (.long x8), .second, .val (.ref x9), .val (.long (x0 + x5)), .second, .val (.long ((x0 + x5) + x6)), .second, .val (.long (((x0 + x5) + x6) + x7)), .second, .val (.long (((x0 + x5) + x6) + x7)), .second, .val (.long (65536 : Int64)), .second, .val (.int (1 : Int32)), .val (.int (1 : Int32)), .val (.int (1 : Int32)), .unset]
abbrev own_l51 (x0 : Int64) (x1 : Int32) (x2 : Int32) (x3 : Int32) (x4 : Int32) (x5 : Int64) (x6 : Int64) (x7 : Int64) (x8 : Int64) (x9 : Addr) : Array Slot := #[.val (.long x0), .second, .val (.int x1), .val (.int x2), .val (.int x3), .val (.int x4), .val (.long x5), .second, .val (.long x6), .second, .val (.long x7), .second, .val (.int (3 : Int32)), .val (.long x8), .second, .val (.ref x9), .val (.long (x0 + x5)), .second, .val (.long ((x0 + x5) + x6)), .second, .val (.long (((x0 + x5) + x6) + x7)), .second, .val (.long (((x0 + x5) + x6) + x7)), .second, .val (.long (65536 : Int64)), .second, .val (.int (1 : Int32)), .val (.int (1 : Int32)), .val (.int (1 : Int32)), .val (.int (2 : Int32))]
def own_Al (Z : State) (h : Heap) (a : Addr) (ty : FieldType) (n : Int32) : Prop := ∃ c : Cell, Arr Z h a c ty ∧ c.slots.size = n.toNatClampNeg ∧ ¬ n < 0
theorem own_Al.lt {Z : State} {h : Heap} {a : Addr} {ty : FieldType} {n : Int32} (F : own_Al Z h a ty n) : a < h.size := by obtain ⟨c, A, -⟩ := F; exact A.lt
theorem own_Al.ext {Z : State} {h h' : Heap} {a : Addr} {ty : FieldType} {n : Int32} (F : own_Al Z h a ty n) (E : Ext h h') : own_Al Z h' a ty n := by obtain ⟨c, A, r⟩ := F; exact ⟨c, A.ext E, r⟩
theorem own_Al.other {Z : State} {h h' : Heap} {a b : Addr} {ty : FieldType} {n : Int32} {sl : Nat} {v : Value} (F : own_Al Z h b ty n) (W : Wr h h' a sl v) (q : b ≠ a) : own_Al Z h' b ty n := by obtain ⟨c, A, r⟩ := F; exact ⟨c, A.other W q, r⟩
theorem own_Al.keep {Z : State} {h h' : Heap} {a : Addr} {ty : FieldType} {n : Int32} {ws : List Addr} (F : own_Al Z h a ty n) (K : Keep h h' ws) (q : a ∉ ws) : own_Al Z h' a ty n := by obtain ⟨c, A, r⟩ := F; exact ⟨c, ⟨K.2.1 a c A.1 q, A.2⟩, r⟩
def own_SI (Z : State) (h : Heap) (n0 : Nat) (a ap ar at' : Addr) (kp ks : ClassId) (en ct : Int32) (qe ql : Int64) (p0 p1 p2 p3 : Int32) (s0 s1 s2 s3 : Int64) : Prop :=
  Exa Z h a "com/example/coho/coho/eventlog/SegmentIndex" ∧ Fld Z h a "com/example/coho/coho/eventlog/SegmentIndex" "places" "[I" (.ref ap) ∧ Fld Z h a "com/example/coho/coho/eventlog/SegmentIndex" "starts" "[J" (.ref ar) ∧ Fld Z h a "com/example/coho/coho/eventlog/SegmentIndex" "times" "[J" (.ref at') ∧ Fld Z h a "com/example/coho/coho/eventlog/SegmentIndex" "entries" "I" (.int en) ∧ Fld Z h a "com/example/coho/coho/eventlog/SegmentIndex" "count" "I" (.int ct) ∧ Fld Z h a "com/example/coho/coho/eventlog/SegmentIndex" "end" "J" (.long qe) ∧ Fld Z h a "com/example/coho/coho/eventlog/SegmentIndex" "lastTime" "J" (.long ql) ∧
  Arv Z h ap kp .int (4 : Int32) [(.int p0), (.int p1), (.int p2), (.int p3)] (.int (0 : Int32)) ∧ Arv Z h ar ks .long (4 : Int32) [(.long s0), (.long s1), (.long s2), (.long s3)] (.long (0 : Int64)) ∧ own_Al Z h at' .long (4 : Int32) ∧
  a ≠ ap ∧ a ≠ ar ∧ a ≠ at' ∧ ap ≠ ar ∧ ap ≠ at' ∧ ar ≠ at' ∧ n0 ≤ a ∧ n0 ≤ ap ∧ n0 ≤ ar ∧ n0 ≤ at'
theorem d1_0 : decode prog_34_method_1_code 0 = .ok (.aload_n 0, 1) := by decide +kernel
theorem d1_1 : decode prog_34_method_1_code 1 = .ok (.invokespecial 1, 3) := by decide +kernel
theorem d1_4 : decode prog_34_method_1_code 4 = .ok (.aload_n 0, 1) := by decide +kernel
theorem d1_5 : decode prog_34_method_1_code 5 = .ok (.iconst 4, 1) := by decide +kernel
theorem d1_6 : decode prog_34_method_1_code 6 = .ok (.newarray .int, 2) := by decide +kernel
theorem d1_8 : decode prog_34_method_1_code 8 = .ok (.putfield 7, 3) := by decide +kernel
theorem d1_11 : decode prog_34_method_1_code 11 = .ok (.aload_n 0, 1) := by decide +kernel
theorem d1_12 : decode prog_34_method_1_code 12 = .ok (.iconst 4, 1) := by decide +kernel
theorem d1_13 : decode prog_34_method_1_code 13 = .ok (.newarray .long, 2) := by decide +kernel
theorem d1_15 : decode prog_34_method_1_code 15 = .ok (.putfield 13, 3) := by decide +kernel
theorem d1_18 : decode prog_34_method_1_code 18 = .ok (.aload_n 0, 1) := by decide +kernel
theorem d1_19 : decode prog_34_method_1_code 19 = .ok (.iconst 4, 1) := by decide +kernel
theorem d1_20 : decode prog_34_method_1_code 20 = .ok (.newarray .long, 2) := by decide +kernel
theorem d1_22 : decode prog_34_method_1_code 22 = .ok (.putfield 17, 3) := by decide +kernel
theorem d1_25 : decode prog_34_method_1_code 25 = .ok (.aload_n 0, 1) := by decide +kernel
theorem d1_26 : decode prog_34_method_1_code 26 = .ok (.ldc2_w 22, 3) := by decide +kernel
theorem d1_29 : decode prog_34_method_1_code 29 = .ok (.putfield 24, 3) := by decide +kernel
theorem d1_32 : decode prog_34_method_1_code 32 = .ok (.aload_n 0, 1) := by decide +kernel
theorem d1_33 : decode prog_34_method_1_code 33 = .ok (.lload_n 1, 1) := by decide +kernel
theorem d1_34 : decode prog_34_method_1_code 34 = .ok (.putfield 28, 3) := by decide +kernel
theorem d1_37 : decode prog_34_method_1_code 37 = .ok (.return_, 1) := by decide +kernel
theorem own_pn1 : plainName "com/example/coho/coho/eventlog/SegmentIndex" = true := by first | (simp [plainName, overriddenIn]; done) | decide +kernel
theorem own_ef1 (m : MethodId) (x0 : Addr) (x1 : Int64) : entryFrame m #[(.ref x0), (.long x1)] 3 = mkF m 0 #[.val (.ref x0), .val (.long x1), .second] [] := by first | (simp [entryFrame, mkF, argsToLocals, Value.category]; done) | rfl
def own_Q1 (Z : State) (ax : Addr) (qs : Int64) (h0 : Heap) (n0 : Nat) (v : Option Value) (h : Heap) (L : List Loc) : Prop := v = none ∧ Fr n0 L ∧ ∃ (ap ar at' : Addr) (kp ks : ClassId), Keep h0 h [ax] ∧ h0.size ≤ ap ∧ h0.size ≤ ar ∧ h0.size ≤ at' ∧ own_SI Z h n0 ax ap ar at' kp ks (0 : Int32) (0 : Int32) qs (-9223372036854775808 : Int64) (0 : Int32) (0 : Int32) (0 : Int32) (0 : Int32) (0 : Int64) (0 : Int64) (0 : Int64) (0 : Int64)
set_option maxRecDepth 65536 in
set_option maxHeartbeats 40000000 in
theorem rm1 (l : Launch) (Z : State) (a0 : Array Value) (hw : ∀ d ∈ tables_1, d.before a0 Z = true) (ws : List Jvm.Cond) (ax : Addr) (qs : Int64) (h0 : Heap) (n0 : Nat) (Z0 : n0 ≤ h0.size) (Ea : Exa Z h0 ax "com/example/coho/coho/eventlog/SegmentIndex") (Fplaces : Fld Z h0 ax "com/example/coho/coho/eventlog/SegmentIndex" "places" "[I" .null) (Fstarts : Fld Z h0 ax "com/example/coho/coho/eventlog/SegmentIndex" "starts" "[J" .null) (Ftimes : Fld Z h0 ax "com/example/coho/coho/eventlog/SegmentIndex" "times" "[J" .null) (Fentries : Fld Z h0 ax "com/example/coho/coho/eventlog/SegmentIndex" "entries" "I" (.int (0 : Int32))) (Fcount : Fld Z h0 ax "com/example/coho/coho/eventlog/SegmentIndex" "count" "I" (.int (0 : Int32))) (Fend : Fld Z h0 ax "com/example/coho/coho/eventlog/SegmentIndex" "end" "J" (.long (0 : Int64))) (FlastTime : Fld Z h0 ax "com/example/coho/coho/eventlog/SegmentIndex" "lastTime" "J" (.long (0 : Int64))) (ga : n0 ≤ ax) :
    MetFree l (⟨"com/example/coho/coho/eventlog/SegmentIndex", "<init>", "(J)V"⟩ : MethodName) (head1 (Jvm.Cond.code (⟨"com/example/coho/coho/eventlog/SegmentIndex", "<init>", "(J)V"⟩ : MethodName) prog_34_method_1_code 3 none :: ws) ({ frames := 1, cells := 3, slots := 12, locals := 12 } : Room)) (fun a U => a = #[(.ref ax), (.long qs)] ∧ Z.Warmed39 U.vm ∧ U.heap = h0) (fun _ _ _ _ _ => True) (fun _ U o U' => ∃ v L, o = .returned v ∧ own_Q1 Z ax qs h0 n0 v U'.heap L ∧ FrameEnd U o U' L ({ frames := 1, cells := 3, slots := 12, locals := 12 } : Room).cells ({ frames := 1, cells := 3, slots := 12, locals := 12 } : Room).slots) := by
  refine MetFree.of_bodySF (plainFor_of_name own_pn1) hisR ?_
  intro p e s m args below meth c s₁ Bd hml0 hP hK
  obtain ⟨rfl, hZ, hh⟩ := hP
  have hx := Bd.exec
  have hby := Bd.bytes
  have hml : c.maxLocals = 3 := hml0
  have hown : s.vm.findClass "com/example/coho/coho/eventlog/SegmentIndex" = some m.cls := findClass_of_methodNamed Bd.named
  have hnm := (name_of_methodNamed Bd.named Bd.method).1
  have X0 : Stand p l e ({ frames := 1, cells := 3, slots := 12, locals := 12 } : Room) s m #[(.ref ax), (.long qs)] below meth c s₁ [] 0 0 := Stand.of_body Bd
  have e0 : s₁.heap = h0 := by rw [← hh, Bd.state]; rfl
  have N0 := Fr.nil n0
  refine own_pre (A := (s₁.setTop (mkF m 0 #[.val (.ref ax), .val (.long qs), .second] []))) (fun t k => castTop (own_ef1 m ax qs) k) ?_
  refine own_pre (A := (s₁.setTop (mkF m 1 #[.val (.ref ax), .val (.long qs), .second] [(.ref ax)]))) ?_ ?_
  · intro t k
    show Steps p.tables e below (s₁.setTop (mkF m 0 #[.val (.ref ax), .val (.long qs), .second] [])) _
    refine XS.aloadN X0.here hx rfl (hb hby d1_0) rfl rfl ?_
    exact k
  obtain ⟨T1, X1, e1, st1⟩ := initO X0 hx hZ hown (own_w hw 8 rfl) (own_w hw 9 rfl) (own_w hw 10 rfl) e0 (g := (mkF m 1 #[.val (.ref ax), .val (.long qs), .second] [(.ref ax)])) rfl (by rw [hml]; rfl) rfl (hb hby d1_1) (by decide) (W := 0) (by show 2 * 0 + _ ≤ _; exact Nat.le_of_eq rfl) (by decide)
  refine own_pre (fun t k => st1 t k) ?_
  refine own_pre (A := (T1.setTop (mkF m 6 #[.val (.ref ax), .val (.long qs), .second] [(.int (4 : Int32)), (.ref ax)]))) ?_ ?_
  · intro t k
    show Steps p.tables e below (T1.setTop (mkF m 4 #[.val (.ref ax), .val (.long qs), .second] [])) _
    refine XS.aloadN X1.here hx rfl (hb hby d1_4) rfl rfl ?_
    refine XS.iconst X1.here hx rfl (hb hby d1_5) ?_
    exact k
  obtain ⟨T2, h2, k2, X2, e2, E2, A2, st2⟩ := newP X1 hx hZ (own_w hw 11 rfl) e1 (g := (mkF m 6 #[.val (.ref ax), .val (.long qs), .second] [(.int (4 : Int32)), (.ref ax)])) rfl (hb hby d1_6) rfl (by decide) (cap := 4) (by decide) (by decide) (by decide) (by decide)
  obtain ⟨b2, g2⟩ : ∃ z, z = h0.size := ⟨_, rfl⟩
  rw [← g2] at A2 st2
  have ne_ax_b2 : ax ≠ b2 := Nat.ne_of_lt (Nat.lt_of_lt_of_le Ea.lt (Nat.le_of_eq g2.symm))
  have gn_b2 : n0 ≤ b2 := Nat.le_trans Z0 (Nat.le_of_eq g2.symm)
  have sz_b2 : h0.size ≤ b2 := Nat.le_trans (Keep.refl h0 [ax]).1 (Nat.le_of_eq g2.symm)
  have Ea_2 := Ea.ext E2
  have Fplaces_2 := Fplaces.ext E2
  have Fstarts_2 := Fstarts.ext E2
  have Ftimes_2 := Ftimes.ext E2
  have Fentries_2 := Fentries.ext E2
  have Fcount_2 := Fcount.ext E2
  have Fend_2 := Fend.ext E2
  have FlastTime_2 := FlastTime.ext E2
  have Zs2 : n0 ≤ h2.size := Nat.le_trans Z0 E2.1
  have Kc2 : Keep h0 h2 [ax] := (Keep.refl h0 [ax]).ext E2
  have V2 : Arv Z h2 b2 k2 .int (4 : Int32) [(.int (0 : Int32)), (.int (0 : Int32)), (.int (0 : Int32)), (.int (0 : Int32))] (.int (0 : Int32)) := (Arv.new A2 (by decide)).pad (pad_rep [] (.int (0 : Int32)) 4)
  refine own_pre (fun t k => st2 t k) ?_
  obtain ⟨T3, h3, X3, e3, W3, st3⟩ := putF X2 hx hZ hown (host := "") (Or.inl (own_w hw 12 rfl)) Via.refl e2 Fplaces_2 Ea_2 (Or.inl (own_w hw 13 rfl)) (own_w hw 3 rfl) (ty := (.array .int)) (by decide) rfl rfl (g := (mkF m 8 #[.val (.ref ax), .val (.long qs), .second] [(.ref b2), (.ref ax)])) rfl rfl (hb hby d1_8)
  have Ea_3 := Ea_2.wr W3
  have Fstarts_3 := Fstarts_2.other W3 (Or.inr (slot_ne (Or.inl (own_w hw 16 rfl)) (Or.inl (own_w hw 13 rfl)) (by decide) (t := (.array .long)) (t' := (.array .int)) (by decide) (by decide)))
  have Ftimes_3 := Ftimes_2.other W3 (Or.inr (slot_ne (Or.inl (own_w hw 18 rfl)) (Or.inl (own_w hw 13 rfl)) (by decide) (t := (.array .long)) (t' := (.array .int)) (by decide) (by decide)))
  have Fentries_3 := Fentries_2.other W3 (Or.inr (slot_ne (Or.inl (own_w hw 30 rfl)) (Or.inl (own_w hw 13 rfl)) (by decide) (t := .int) (t' := (.array .int)) (by decide) (by decide)))
  have Fcount_3 := Fcount_2.other W3 (Or.inr (slot_ne (Or.inl (own_w hw 32 rfl)) (Or.inl (own_w hw 13 rfl)) (by decide) (t := .int) (t' := (.array .int)) (by decide) (by decide)))
  have Fend_3 := Fend_2.other W3 (Or.inr (slot_ne (Or.inl (own_w hw 23 rfl)) (Or.inl (own_w hw 13 rfl)) (by decide) (t := .long) (t' := (.array .int)) (by decide) (by decide)))
  have FlastTime_3 := FlastTime_2.other W3 (Or.inr (slot_ne (Or.inl (own_w hw 21 rfl)) (Or.inl (own_w hw 13 rfl)) (by decide) (t := .long) (t' := (.array .int)) (by decide) (by decide)))
  have V2_3 := V2.other W3 ne_ax_b2.symm
  have Zs3 : n0 ≤ h3.size := Nat.le_trans Zs2 (Keep.of_wr W3).1
  have Kc3 : Keep h0 h3 [ax] := Kc2.wr W3 (Or.inl (List.mem_of_getElem? (i := 0) rfl))
  have N3 := Fr.snoc X3 N0 ga
  have Fw3 := Fplaces_2.same W3
  refine own_pre (fun t k => st3 t k) ?_
  refine own_pre (A := (T3.setTop (mkF m 13 #[.val (.ref ax), .val (.long qs), .second] [(.int (4 : Int32)), (.ref ax)]))) ?_ ?_
  · intro t k
    show Steps p.tables e below (T3.setTop (mkF m 11 #[.val (.ref ax), .val (.long qs), .second] [])) _
    refine XS.aloadN X3.here hx rfl (hb hby d1_11) rfl rfl ?_
    refine XS.iconst X3.here hx rfl (hb hby d1_12) ?_
    exact k
  obtain ⟨T4, h4, k4, X4, e4, E4, A4, st4⟩ := newP X3 hx hZ (own_w hw 14 rfl) e3 (g := (mkF m 13 #[.val (.ref ax), .val (.long qs), .second] [(.int (4 : Int32)), (.ref ax)])) rfl (hb hby d1_13) rfl (by decide) (cap := 4) (by decide) (by decide) (by decide) (by decide)
  obtain ⟨b4, g4⟩ : ∃ z, z = h3.size := ⟨_, rfl⟩
  rw [← g4] at A4 st4
  have ne_ax_b4 : ax ≠ b4 := Nat.ne_of_lt (Nat.lt_of_lt_of_le Ea_3.lt (Nat.le_of_eq g4.symm))
  have ne_b2_b4 : b2 ≠ b4 := Nat.ne_of_lt (Nat.lt_of_lt_of_le V2_3.lt (Nat.le_of_eq g4.symm))
  have gn_b4 : n0 ≤ b4 := Nat.le_trans Zs3 (Nat.le_of_eq g4.symm)
  have sz_b4 : h0.size ≤ b4 := Nat.le_trans Kc3.1 (Nat.le_of_eq g4.symm)
  have Ea_4 := Ea_3.ext E4
  have Fw3_4 := Fw3.ext E4
  have Fstarts_4 := Fstarts_3.ext E4
  have Ftimes_4 := Ftimes_3.ext E4
  have Fentries_4 := Fentries_3.ext E4
  have Fcount_4 := Fcount_3.ext E4
  have Fend_4 := Fend_3.ext E4
  have FlastTime_4 := FlastTime_3.ext E4
  have V2_4 := V2_3.ext E4
  have Zs4 : n0 ≤ h4.size := Nat.le_trans Zs3 E4.1
  have Kc4 : Keep h0 h4 [ax] := Kc3.ext E4
  have V4 : Arv Z h4 b4 k4 .long (4 : Int32) [(.long (0 : Int64)), (.long (0 : Int64)), (.long (0 : Int64)), (.long (0 : Int64))] (.long (0 : Int64)) := (Arv.new A4 (by decide)).pad (pad_rep [] (.long (0 : Int64)) 4)
  refine own_pre (fun t k => st4 t k) ?_
  obtain ⟨T5, h5, X5, e5, W5, st5⟩ := putF X4 hx hZ hown (host := "") (Or.inl (own_w hw 15 rfl)) Via.refl e4 Fstarts_4 Ea_4 (Or.inl (own_w hw 16 rfl)) (own_w hw 3 rfl) (ty := (.array .long)) (by decide) rfl rfl (g := (mkF m 15 #[.val (.ref ax), .val (.long qs), .second] [(.ref b4), (.ref ax)])) rfl rfl (hb hby d1_15)
  have Ea_5 := Ea_4.wr W5
  have Fw3_5 := Fw3_4.other W5 (Or.inr (slot_ne (Or.inl (own_w hw 13 rfl)) (Or.inl (own_w hw 16 rfl)) (by decide) (t := (.array .int)) (t' := (.array .long)) (by decide) (by decide)))
  have Ftimes_5 := Ftimes_4.other W5 (Or.inr (slot_ne (Or.inl (own_w hw 18 rfl)) (Or.inl (own_w hw 16 rfl)) (by decide) (t := (.array .long)) (t' := (.array .long)) (by decide) (by decide)))
  have Fentries_5 := Fentries_4.other W5 (Or.inr (slot_ne (Or.inl (own_w hw 30 rfl)) (Or.inl (own_w hw 16 rfl)) (by decide) (t := .int) (t' := (.array .long)) (by decide) (by decide)))
  have Fcount_5 := Fcount_4.other W5 (Or.inr (slot_ne (Or.inl (own_w hw 32 rfl)) (Or.inl (own_w hw 16 rfl)) (by decide) (t := .int) (t' := (.array .long)) (by decide) (by decide)))
  have Fend_5 := Fend_4.other W5 (Or.inr (slot_ne (Or.inl (own_w hw 23 rfl)) (Or.inl (own_w hw 16 rfl)) (by decide) (t := .long) (t' := (.array .long)) (by decide) (by decide)))
  have FlastTime_5 := FlastTime_4.other W5 (Or.inr (slot_ne (Or.inl (own_w hw 21 rfl)) (Or.inl (own_w hw 16 rfl)) (by decide) (t := .long) (t' := (.array .long)) (by decide) (by decide)))
  have V2_5 := V2_4.other W5 ne_ax_b2.symm
  have V4_5 := V4.other W5 ne_ax_b4.symm
  have Zs5 : n0 ≤ h5.size := Nat.le_trans Zs4 (Keep.of_wr W5).1
  have Kc5 : Keep h0 h5 [ax] := Kc4.wr W5 (Or.inl (List.mem_of_getElem? (i := 0) rfl))
  have N5 := Fr.snoc X5 N3 ga
  have Fw5 := Fstarts_4.same W5
  refine own_pre (fun t k => st5 t k) ?_
  refine own_pre (A := (T5.setTop (mkF m 20 #[.val (.ref ax), .val (.long qs), .second] [(.int (4 : Int32)), (.ref ax)]))) ?_ ?_
  · intro t k
    show Steps p.tables e below (T5.setTop (mkF m 18 #[.val (.ref ax), .val (.long qs), .second] [])) _
    refine XS.aloadN X5.here hx rfl (hb hby d1_18) rfl rfl ?_
    refine XS.iconst X5.here hx rfl (hb hby d1_19) ?_
    exact k
  obtain ⟨T6, h6, k6, X6, e6, E6, A6, st6⟩ := newP X5 hx hZ (own_w hw 14 rfl) e5 (g := (mkF m 20 #[.val (.ref ax), .val (.long qs), .second] [(.int (4 : Int32)), (.ref ax)])) rfl (hb hby d1_20) rfl (by decide) (cap := 4) (by decide) (by decide) (by decide) (by decide)
  obtain ⟨b6, g6⟩ : ∃ z, z = h5.size := ⟨_, rfl⟩
  rw [← g6] at A6 st6
  have ne_ax_b6 : ax ≠ b6 := Nat.ne_of_lt (Nat.lt_of_lt_of_le Ea_5.lt (Nat.le_of_eq g6.symm))
  have ne_b2_b6 : b2 ≠ b6 := Nat.ne_of_lt (Nat.lt_of_lt_of_le V2_5.lt (Nat.le_of_eq g6.symm))
  have ne_b4_b6 : b4 ≠ b6 := Nat.ne_of_lt (Nat.lt_of_lt_of_le V4_5.lt (Nat.le_of_eq g6.symm))
  have gn_b6 : n0 ≤ b6 := Nat.le_trans Zs5 (Nat.le_of_eq g6.symm)
  have sz_b6 : h0.size ≤ b6 := Nat.le_trans Kc5.1 (Nat.le_of_eq g6.symm)
  have Ea_6 := Ea_5.ext E6
  have Fw3_6 := Fw3_5.ext E6
  have Fw5_6 := Fw5.ext E6
  have Ftimes_6 := Ftimes_5.ext E6
  have Fentries_6 := Fentries_5.ext E6
  have Fcount_6 := Fcount_5.ext E6
  have Fend_6 := Fend_5.ext E6
  have FlastTime_6 := FlastTime_5.ext E6
  have V2_6 := V2_5.ext E6
  have V4_6 := V4_5.ext E6
  have Kc6 : Keep h0 h6 [ax] := Kc5.ext E6
  have V6 : own_Al Z h6 b6 .long (4 : Int32) := ⟨_, A6, sz_new _ _ _, (by decide)⟩
  refine own_pre (fun t k => st6 t k) ?_
  obtain ⟨T7, h7, X7, e7, W7, st7⟩ := putF X6 hx hZ hown (host := "") (Or.inl (own_w hw 17 rfl)) Via.refl e6 Ftimes_6 Ea_6 (Or.inl (own_w hw 18 rfl)) (own_w hw 3 rfl) (ty := (.array .long)) (by decide) rfl rfl (g := (mkF m 22 #[.val (.ref ax), .val (.long qs), .second] [(.ref b6), (.ref ax)])) rfl rfl (hb hby d1_22)
  have Ea_7 := Ea_6.wr W7
  have Fw3_7 := Fw3_6.other W7 (Or.inr (slot_ne (Or.inl (own_w hw 13 rfl)) (Or.inl (own_w hw 18 rfl)) (by decide) (t := (.array .int)) (t' := (.array .long)) (by decide) (by decide)))
  have Fw5_7 := Fw5_6.other W7 (Or.inr (slot_ne (Or.inl (own_w hw 16 rfl)) (Or.inl (own_w hw 18 rfl)) (by decide) (t := (.array .long)) (t' := (.array .long)) (by decide) (by decide)))
  have Fentries_7 := Fentries_6.other W7 (Or.inr (slot_ne (Or.inl (own_w hw 30 rfl)) (Or.inl (own_w hw 18 rfl)) (by decide) (t := .int) (t' := (.array .long)) (by decide) (by decide)))
  have Fcount_7 := Fcount_6.other W7 (Or.inr (slot_ne (Or.inl (own_w hw 32 rfl)) (Or.inl (own_w hw 18 rfl)) (by decide) (t := .int) (t' := (.array .long)) (by decide) (by decide)))
  have Fend_7 := Fend_6.other W7 (Or.inr (slot_ne (Or.inl (own_w hw 23 rfl)) (Or.inl (own_w hw 18 rfl)) (by decide) (t := .long) (t' := (.array .long)) (by decide) (by decide)))
  have FlastTime_7 := FlastTime_6.other W7 (Or.inr (slot_ne (Or.inl (own_w hw 21 rfl)) (Or.inl (own_w hw 18 rfl)) (by decide) (t := .long) (t' := (.array .long)) (by decide) (by decide)))
  have V2_7 := V2_6.other W7 ne_ax_b2.symm
  have V4_7 := V4_6.other W7 ne_ax_b4.symm
  have V6_7 := V6.other W7 ne_ax_b6.symm
  have Kc7 : Keep h0 h7 [ax] := Kc6.wr W7 (Or.inl (List.mem_of_getElem? (i := 0) rfl))
  have N7 := Fr.snoc X7 N5 ga
  have Fw7 := Ftimes_6.same W7
  refine own_pre (fun t k => st7 t k) ?_
  refine own_pre (A := (T7.setTop (mkF m 29 #[.val (.ref ax), .val (.long qs), .second] [(.long (-9223372036854775808 : Int64)), (.ref ax)]))) ?_ ?_
  · intro t k
    show Steps p.tables e below (T7.setTop (mkF m 25 #[.val (.ref ax), .val (.long qs), .second] [])) _
    refine XS.aloadN X7.here hx rfl (hb hby d1_25) rfl rfl ?_
    show Steps p.tables e below (T7.setTop (mkF m 26 #[.val (.ref ax), .val (.long qs), .second] [(.ref ax)])) _
    refine X7.ldc2Long hx hown (mvT hZ (own_w hw 19 rfl)) (g := (mkF m 26 #[.val (.ref ax), .val (.long qs), .second] [(.ref ax)])) rfl (hb hby d1_26) _ ?_
    exact k
  obtain ⟨T8, h8, X8, e8, W8, st8⟩ := putF X7 hx hZ hown (host := "") (Or.inl (own_w hw 20 rfl)) Via.refl e7 FlastTime_7 Ea_7 (Or.inl (own_w hw 21 rfl)) (own_w hw 3 rfl) (ty := .long) (by decide) rfl rfl (g := (mkF m 29 #[.val (.ref ax), .val (.long qs), .second] [(.long (-9223372036854775808 : Int64)), (.ref ax)])) rfl rfl (hb hby d1_29)
  have Ea_8 := Ea_7.wr W8
  have Fw3_8 := Fw3_7.other W8 (Or.inr (slot_ne (Or.inl (own_w hw 13 rfl)) (Or.inl (own_w hw 21 rfl)) (by decide) (t := (.array .int)) (t' := .long) (by decide) (by decide)))
  have Fw5_8 := Fw5_7.other W8 (Or.inr (slot_ne (Or.inl (own_w hw 16 rfl)) (Or.inl (own_w hw 21 rfl)) (by decide) (t := (.array .long)) (t' := .long) (by decide) (by decide)))
  have Fw7_8 := Fw7.other W8 (Or.inr (slot_ne (Or.inl (own_w hw 18 rfl)) (Or.inl (own_w hw 21 rfl)) (by decide) (t := (.array .long)) (t' := .long) (by decide) (by decide)))
  have Fentries_8 := Fentries_7.other W8 (Or.inr (slot_ne (Or.inl (own_w hw 30 rfl)) (Or.inl (own_w hw 21 rfl)) (by decide) (t := .int) (t' := .long) (by decide) (by decide)))
  have Fcount_8 := Fcount_7.other W8 (Or.inr (slot_ne (Or.inl (own_w hw 32 rfl)) (Or.inl (own_w hw 21 rfl)) (by decide) (t := .int) (t' := .long) (by decide) (by decide)))
  have Fend_8 := Fend_7.other W8 (Or.inr (slot_ne (Or.inl (own_w hw 23 rfl)) (Or.inl (own_w hw 21 rfl)) (by decide) (t := .long) (t' := .long) (by decide) (by decide)))
  have V2_8 := V2_7.other W8 ne_ax_b2.symm
  have V4_8 := V4_7.other W8 ne_ax_b4.symm
  have V6_8 := V6_7.other W8 ne_ax_b6.symm
  have Kc8 : Keep h0 h8 [ax] := Kc7.wr W8 (Or.inl (List.mem_of_getElem? (i := 0) rfl))
  have N8 := Fr.snoc X8 N7 ga
  have Fw8 := FlastTime_7.same W8
  refine own_pre (fun t k => st8 t k) ?_
  refine own_pre (A := (T8.setTop (mkF m 34 #[.val (.ref ax), .val (.long qs), .second] [(.long qs), (.ref ax)]))) ?_ ?_
  · intro t k
    show Steps p.tables e below (T8.setTop (mkF m 32 #[.val (.ref ax), .val (.long qs), .second] [])) _
    refine XS.aloadN X8.here hx rfl (hb hby d1_32) rfl rfl ?_
    refine XS.lloadN X8.here hx rfl (hb hby d1_33) rfl ?_
    exact k
  obtain ⟨T9, h9, X9, e9, W9, st9⟩ := putF X8 hx hZ hown (host := "") (Or.inl (own_w hw 22 rfl)) Via.refl e8 Fend_8 Ea_8 (Or.inl (own_w hw 23 rfl)) (own_w hw 3 rfl) (ty := .long) (by decide) rfl rfl (g := (mkF m 34 #[.val (.ref ax), .val (.long qs), .second] [(.long qs), (.ref ax)])) rfl rfl (hb hby d1_34)
  have Ea_9 := Ea_8.wr W9
  have Fw3_9 := Fw3_8.other W9 (Or.inr (slot_ne (Or.inl (own_w hw 13 rfl)) (Or.inl (own_w hw 23 rfl)) (by decide) (t := (.array .int)) (t' := .long) (by decide) (by decide)))
  have Fw5_9 := Fw5_8.other W9 (Or.inr (slot_ne (Or.inl (own_w hw 16 rfl)) (Or.inl (own_w hw 23 rfl)) (by decide) (t := (.array .long)) (t' := .long) (by decide) (by decide)))
  have Fw7_9 := Fw7_8.other W9 (Or.inr (slot_ne (Or.inl (own_w hw 18 rfl)) (Or.inl (own_w hw 23 rfl)) (by decide) (t := (.array .long)) (t' := .long) (by decide) (by decide)))
  have Fentries_9 := Fentries_8.other W9 (Or.inr (slot_ne (Or.inl (own_w hw 30 rfl)) (Or.inl (own_w hw 23 rfl)) (by decide) (t := .int) (t' := .long) (by decide) (by decide)))
  have Fcount_9 := Fcount_8.other W9 (Or.inr (slot_ne (Or.inl (own_w hw 32 rfl)) (Or.inl (own_w hw 23 rfl)) (by decide) (t := .int) (t' := .long) (by decide) (by decide)))
  have Fw8_9 := Fw8.other W9 (Or.inr (slot_ne (Or.inl (own_w hw 21 rfl)) (Or.inl (own_w hw 23 rfl)) (by decide) (t := .long) (t' := .long) (by decide) (by decide)))
  have V2_9 := V2_8.other W9 ne_ax_b2.symm
  have V4_9 := V4_8.other W9 ne_ax_b4.symm
  have V6_9 := V6_8.other W9 ne_ax_b6.symm
  have Kc9 : Keep h0 h9 [ax] := Kc8.wr W9 (Or.inl (List.mem_of_getElem? (i := 0) rfl))
  have N9 := Fr.snoc X9 N8 ga
  have Fw9 := Fend_8.same W9
  refine own_pre (fun t k => st9 t k) ?_
  obtain ⟨fs, hr, hrun, hended, hW, hsame⟩ := X9.leave (hlocks := BodyLoose.notSynchronized Bd) (v := none) (fun _ => rfl)
  refine ⟨_, _, X9.returnOut hx Bd.returns (hb hby d1_37) hr, hrun, hended, _, _, rfl, ?_, ⟨_, rfl⟩, hW, hsame.mono (by decide) (by decide)⟩
  show own_Q1 Z ax qs h0 n0 _ T9.heap _
  rw [e9]
  exact ⟨rfl, N9, b2, b4, b6, k2, k4, Kc9, sz_b2, sz_b4, sz_b6, ⟨Ea_9, Fw3_9, Fw5_9, Fw7_9, Fentries_9, Fcount_9, Fw9, Fw8_9, V2_9, V4_9, V6_9, ne_ax_b2, ne_ax_b4, ne_ax_b6, ne_b2_b4, ne_b2_b6, ne_b4_b6, ga, gn_b2, gn_b4, gn_b6⟩⟩
theorem own_m3 (x : Int32) : ((1 : Int32) + ((x &&& (2147483647 : Int32)) % (3 : Int32))) = (1 : Int32) ∨ ((1 : Int32) + ((x &&& (2147483647 : Int32)) % (3 : Int32))) = (2 : Int32) ∨ ((1 : Int32) + ((x &&& (2147483647 : Int32)) % (3 : Int32))) = (3 : Int32) := by
  have h1 := (c_and x (2147483647 : Int32) (by decide)).1
  have h := (c_irem (x &&& (2147483647 : Int32)) (3 : Int32) 3 (by decide)).1 h1
  have h2 := c_iadd (1 : Int32) ((x &&& (2147483647 : Int32)) % (3 : Int32))
  have r := rng32 ((1 : Int32) + ((x &&& (2147483647 : Int32)) % (3 : Int32)))
  have o : (1 : Int32).toInt = 1 := by decide
  have w : (2 : Int32).toInt = 2 := by decide
  have t : (3 : Int32).toInt = 3 := by decide
  rw [h, o] at h2
  simp only [← Int32.toInt_inj, o, w, t]
  omega
theorem own_sub1 (s a : Int64) : (s + a) - s = a := by
  apply Int64.toInt_inj.mp
  have h1 := c_ladd s a
  have h2 := c_lsub (s + a) s
  have r1 := rng64 (s + a)
  have r2 := rng64 ((s + a) - s)
  have r3 := rng64 a
  have r4 := rng64 s
  omega
theorem own_sub2 (s a b : Int64) : ((s + a) + b) - s = a + b := by rw [Int64.add_assoc]; exact own_sub1 s (a + b)
theorem own_pn0 : plainName "com/example/coho/coho/eventlog/SegmentIndexStretchEndPinLaw" = true := by first | (simp [plainName, overriddenIn]; done) | decide +kernel
theorem own_ef0 (m : MethodId) (x0 : Int64) (x1 : Int32) (x2 : Int32) (x3 : Int32) (x4 : Int32) : entryFrame m #[(.long x0), (.int x1), (.int x2), (.int x3), (.int x4)] maxLocals = mkF m 0 #[.val (.long x0), .second, .val (.int x1), .val (.int x2), .val (.int x3), .val (.int x4), .unset, .unset, .unset, .unset, .unset, .unset, .unset, .unset, .unset, .unset, .unset, .unset, .unset, .unset, .unset, .unset, .unset, .unset, .unset, .unset, .unset, .unset, .unset, .unset] [] := by first | (simp [entryFrame, mkF, argsToLocals, Value.category, maxLocals]; done) | rfl
theorem d3_0 : decode prog_34_method_2_code 0 = .ok (.aload_n 0, 1) := by decide +kernel
theorem d3_1 : decode prog_34_method_2_code 1 = .ok (.getfield 31, 3) := by decide +kernel
theorem d3_4 : decode prog_34_method_2_code 4 = .ok (.ifCond .eq 26, 3) := by decide +kernel
theorem d3_7 : decode prog_34_method_2_code 7 = .ok (.aload_n 0, 1) := by decide +kernel
theorem d3_8 : decode prog_34_method_2_code 8 = .ok (.getfield 28, 3) := by decide +kernel
theorem d3_11 : decode prog_34_method_2_code 11 = .ok (.aload_n 0, 1) := by decide +kernel
theorem d3_12 : decode prog_34_method_2_code 12 = .ok (.getfield 13, 3) := by decide +kernel
theorem d3_15 : decode prog_34_method_2_code 15 = .ok (.aload_n 0, 1) := by decide +kernel
theorem d3_16 : decode prog_34_method_2_code 16 = .ok (.getfield 31, 3) := by decide +kernel
theorem d3_19 : decode prog_34_method_2_code 19 = .ok (.iconst 1, 1) := by decide +kernel
theorem d3_20 : decode prog_34_method_2_code 20 = .ok (.isub, 1) := by decide +kernel
theorem d3_21 : decode prog_34_method_2_code 21 = .ok (.laload, 1) := by decide +kernel
theorem d3_22 : decode prog_34_method_2_code 22 = .ok (.lsub, 1) := by decide +kernel
theorem d3_23 : decode prog_34_method_2_code 23 = .ok (.ldc2_w 35, 3) := by decide +kernel
theorem d3_26 : decode prog_34_method_2_code 26 = .ok (.lcmp, 1) := by decide +kernel
theorem d3_27 : decode prog_34_method_2_code 27 = .ok (.ifCond .lt 71, 3) := by decide +kernel
theorem d3_30 : decode prog_34_method_2_code 30 = .ok (.aload_n 0, 1) := by decide +kernel
theorem d3_31 : decode prog_34_method_2_code 31 = .ok (.getfield 31, 3) := by decide +kernel
theorem d3_34 : decode prog_34_method_2_code 34 = .ok (.aload_n 0, 1) := by decide +kernel
theorem d3_35 : decode prog_34_method_2_code 35 = .ok (.getfield 7, 3) := by decide +kernel
theorem d3_38 : decode prog_34_method_2_code 38 = .ok (.arraylength, 1) := by decide +kernel
theorem d3_39 : decode prog_34_method_2_code 39 = .ok (.if_icmp .ne 13, 3) := by decide +kernel
theorem d3_52 : decode prog_34_method_2_code 52 = .ok (.aload_n 0, 1) := by decide +kernel
theorem d3_53 : decode prog_34_method_2_code 53 = .ok (.getfield 7, 3) := by decide +kernel
theorem d3_56 : decode prog_34_method_2_code 56 = .ok (.aload_n 0, 1) := by decide +kernel
theorem d3_57 : decode prog_34_method_2_code 57 = .ok (.getfield 31, 3) := by decide +kernel
theorem d3_60 : decode prog_34_method_2_code 60 = .ok (.aload_n 0, 1) := by decide +kernel
theorem d3_61 : decode prog_34_method_2_code 61 = .ok (.getfield 41, 3) := by decide +kernel
theorem d3_64 : decode prog_34_method_2_code 64 = .ok (.iastore, 1) := by decide +kernel
theorem d3_65 : decode prog_34_method_2_code 65 = .ok (.aload_n 0, 1) := by decide +kernel
theorem d3_66 : decode prog_34_method_2_code 66 = .ok (.getfield 13, 3) := by decide +kernel
theorem d3_69 : decode prog_34_method_2_code 69 = .ok (.aload_n 0, 1) := by decide +kernel
theorem d3_70 : decode prog_34_method_2_code 70 = .ok (.getfield 31, 3) := by decide +kernel
theorem d3_73 : decode prog_34_method_2_code 73 = .ok (.aload_n 0, 1) := by decide +kernel
theorem d3_74 : decode prog_34_method_2_code 74 = .ok (.getfield 28, 3) := by decide +kernel
theorem d3_77 : decode prog_34_method_2_code 77 = .ok (.lastore, 1) := by decide +kernel
theorem d3_78 : decode prog_34_method_2_code 78 = .ok (.aload_n 0, 1) := by decide +kernel
theorem d3_79 : decode prog_34_method_2_code 79 = .ok (.getfield 17, 3) := by decide +kernel
theorem d3_82 : decode prog_34_method_2_code 82 = .ok (.aload_n 0, 1) := by decide +kernel
theorem d3_83 : decode prog_34_method_2_code 83 = .ok (.getfield 31, 3) := by decide +kernel
theorem d3_86 : decode prog_34_method_2_code 86 = .ok (.lload_n 3, 1) := by decide +kernel
theorem d3_87 : decode prog_34_method_2_code 87 = .ok (.lastore, 1) := by decide +kernel
theorem d3_88 : decode prog_34_method_2_code 88 = .ok (.aload_n 0, 1) := by decide +kernel
theorem d3_89 : decode prog_34_method_2_code 89 = .ok (.dup, 1) := by decide +kernel
theorem d3_90 : decode prog_34_method_2_code 90 = .ok (.getfield 31, 3) := by decide +kernel
theorem d3_93 : decode prog_34_method_2_code 93 = .ok (.iconst 1, 1) := by decide +kernel
theorem d3_94 : decode prog_34_method_2_code 94 = .ok (.iadd, 1) := by decide +kernel
theorem d3_95 : decode prog_34_method_2_code 95 = .ok (.putfield 31, 3) := by decide +kernel
theorem d3_98 : decode prog_34_method_2_code 98 = .ok (.aload_n 0, 1) := by decide +kernel
theorem d3_99 : decode prog_34_method_2_code 99 = .ok (.dup, 1) := by decide +kernel
theorem d3_100 : decode prog_34_method_2_code 100 = .ok (.getfield 28, 3) := by decide +kernel
theorem d3_103 : decode prog_34_method_2_code 103 = .ok (.lload_n 1, 1) := by decide +kernel
theorem d3_104 : decode prog_34_method_2_code 104 = .ok (.ladd, 1) := by decide +kernel
theorem d3_105 : decode prog_34_method_2_code 105 = .ok (.putfield 28, 3) := by decide +kernel
theorem d3_108 : decode prog_34_method_2_code 108 = .ok (.aload_n 0, 1) := by decide +kernel
theorem d3_109 : decode prog_34_method_2_code 109 = .ok (.lload_n 3, 1) := by decide +kernel
theorem d3_110 : decode prog_34_method_2_code 110 = .ok (.putfield 24, 3) := by decide +kernel
theorem d3_113 : decode prog_34_method_2_code 113 = .ok (.aload_n 0, 1) := by decide +kernel
theorem d3_114 : decode prog_34_method_2_code 114 = .ok (.dup, 1) := by decide +kernel
theorem d3_115 : decode prog_34_method_2_code 115 = .ok (.getfield 41, 3) := by decide +kernel
theorem d3_118 : decode prog_34_method_2_code 118 = .ok (.iconst 1, 1) := by decide +kernel
theorem d3_119 : decode prog_34_method_2_code 119 = .ok (.iadd, 1) := by decide +kernel
theorem d3_120 : decode prog_34_method_2_code 120 = .ok (.putfield 41, 3) := by decide +kernel
theorem d3_123 : decode prog_34_method_2_code 123 = .ok (.return_, 1) := by decide +kernel
theorem own_pn3 : plainName "com/example/coho/coho/eventlog/SegmentIndex" = true := by first | (simp [plainName, overriddenIn]; done) | decide +kernel
theorem own_ef3 (m : MethodId) (x0 : Addr) (x1 : Int64) (x2 : Int64) : entryFrame m #[(.ref x0), (.long x1), (.long x2)] 5 = mkF m 0 #[.val (.ref x0), .val (.long x1), .second, .val (.long x2), .second] [] := by first | (simp [entryFrame, mkF, argsToLocals, Value.category]; done) | rfl
def own_Q3_0 (Z : State) (ax : Addr) (qz : Int64) (qt : Int64) (ap : Addr) (ar : Addr) (at' : Addr) (kp : ClassId) (ks : ClassId) (ct : Int32) (qe : Int64) (ql : Int64) (pp0 : Int32) (pp1 : Int32) (pp2 : Int32) (pp3 : Int32) (ss0 : Int64) (ss1 : Int64) (ss2 : Int64) (ss3 : Int64) (h0 : Heap) (n0 : Nat) (v : Option Value) (h : Heap) (L : List Loc) : Prop := v = none ∧ Fr n0 L ∧ Keep h0 h [ax, ap, ar, at'] ∧ own_SI Z h n0 ax ap ar at' kp ks (1 : Int32) (ct + (1 : Int32)) (qe + qz) qt ct pp1 pp2 pp3 qe ss1 ss2 ss3
set_option maxRecDepth 65536 in
set_option maxHeartbeats 40000000 in
theorem rm3_0 (l : Launch) (Z : State) (a0 : Array Value) (hw : ∀ d ∈ tables_1, d.before a0 Z = true) (ws : List Jvm.Cond) (ax : Addr) (qz : Int64) (qt : Int64) (ap : Addr) (ar : Addr) (at' : Addr) (kp : ClassId) (ks : ClassId) (ct : Int32) (qe : Int64) (ql : Int64) (pp0 : Int32) (pp1 : Int32) (pp2 : Int32) (pp3 : Int32) (ss0 : Int64) (ss1 : Int64) (ss2 : Int64) (ss3 : Int64) (h0 : Heap) (n0 : Nat) (Z0 : n0 ≤ h0.size) (B : own_SI Z h0 n0 ax ap ar at' kp ks (0 : Int32) ct qe ql pp0 pp1 pp2 pp3 ss0 ss1 ss2 ss3) :
    MetFree l (⟨"com/example/coho/coho/eventlog/SegmentIndex", "add", "(JJ)V"⟩ : MethodName) (head1 (Jvm.Cond.code (⟨"com/example/coho/coho/eventlog/SegmentIndex", "add", "(JJ)V"⟩ : MethodName) prog_34_method_2_code 5 none :: ws) ({ frames := 0, cells := 0, slots := 0, locals := 0 } : Room)) (fun a U => a = #[(.ref ax), (.long qz), (.long qt)] ∧ Z.Warmed39 U.vm ∧ U.heap = h0) (fun _ _ _ _ _ => True) (fun _ U o U' => ∃ v L, o = .returned v ∧ own_Q3_0 Z ax qz qt ap ar at' kp ks ct qe ql pp0 pp1 pp2 pp3 ss0 ss1 ss2 ss3 h0 n0 v U'.heap L ∧ FrameEnd U o U' L ({ frames := 0, cells := 0, slots := 0, locals := 0 } : Room).cells ({ frames := 0, cells := 0, slots := 0, locals := 0 } : Room).slots) := by
  refine MetFree.of_bodySF (plainFor_of_name own_pn3) hisR ?_
  intro p e s m args below meth c s₁ Bd hml0 hP hK
  obtain ⟨rfl, hZ, hh⟩ := hP
  have hx := Bd.exec
  have hby := Bd.bytes
  have hml : c.maxLocals = 5 := hml0
  have hown : s.vm.findClass "com/example/coho/coho/eventlog/SegmentIndex" = some m.cls := findClass_of_methodNamed Bd.named
  have hnm := (name_of_methodNamed Bd.named Bd.method).1
  have X0 : Stand p l e ({ frames := 0, cells := 0, slots := 0, locals := 0 } : Room) s m #[(.ref ax), (.long qz), (.long qt)] below meth c s₁ [] 0 0 := Stand.of_body Bd
  have e0 : s₁.heap = h0 := by rw [← hh, Bd.state]; rfl
  have N0 := Fr.nil n0
  refine own_pre (A := (s₁.setTop (mkF m 0 #[.val (.ref ax), .val (.long qz), .second, .val (.long qt), .second] []))) (fun t k => castTop (own_ef3 m ax qz qt) k) ?_
  obtain ⟨Ea_, Fplaces_, Fstarts_, Ftimes_, Fentries_, Fcount_, Fend_, FlastTime_, Vp_, Vs_, Vt_, n0_, n1_, n2_, n3_, n4_, n5_, gg0_, gg1_, gg2_, gg3_⟩ := B
  refine own_pre (A := (s₁.setTop (mkF m 1 #[.val (.ref ax), .val (.long qz), .second, .val (.long qt), .second] [(.ref ax)]))) ?_ ?_
  · intro t k
    show Steps p.tables e below (s₁.setTop (mkF m 0 #[.val (.ref ax), .val (.long qz), .second, .val (.long qt), .second] [])) _
    refine XS.aloadN X0.here hx rfl (hb hby d3_0) rfl rfl ?_
    exact k
  obtain ⟨T13, X13, e13, st13⟩ := getF X0 hx hZ hown (host := "") (Or.inl (own_w hw 29 rfl)) Via.refl e0 Fentries_ (g := (mkF m 1 #[.val (.ref ax), .val (.long qz), .second, .val (.long qt), .second] [(.ref ax)])) rfl rfl (hb hby d3_1)
  refine own_pre (fun t k => st13 t k) ?_
  refine own_pre (A := (T13.setTop (mkF m 31 #[.val (.ref ax), .val (.long qz), .second, .val (.long qt), .second] [(.ref ax)]))) ?_ ?_
  · intro t k
    show Steps p.tables e below (T13.setTop (mkF m 4 #[.val (.ref ax), .val (.long qz), .second, .val (.long qt), .second] [(.int (0 : Int32))])) _
    refine XS.ifYes X13.here hx rfl (pc0 := 4) (pc' := 30) rfl (hb hby d3_4) rfl ((if0 _ _).trans (teq (by decide : (0 : Int32) = (0 : Int32))).1) (by decide) (by decide) ?_
    refine XS.aloadN X13.here hx rfl (hb hby d3_30) rfl rfl ?_
    exact k
  obtain ⟨T14, X14, e14, st14⟩ := getF X13 hx hZ hown (host := "") (Or.inl (own_w hw 29 rfl)) Via.refl e13 Fentries_ (g := (mkF m 31 #[.val (.ref ax), .val (.long qz), .second, .val (.long qt), .second] [(.ref ax)])) rfl rfl (hb hby d3_31)
  refine own_pre (fun t k => st14 t k) ?_
  refine own_pre (A := (T14.setTop (mkF m 35 #[.val (.ref ax), .val (.long qz), .second, .val (.long qt), .second] [(.ref ax), (.int (0 : Int32))]))) ?_ ?_
  · intro t k
    show Steps p.tables e below (T14.setTop (mkF m 34 #[.val (.ref ax), .val (.long qz), .second, .val (.long qt), .second] [(.int (0 : Int32))])) _
    refine XS.aloadN X14.here hx rfl (hb hby d3_34) rfl rfl ?_
    exact k
  obtain ⟨T15, X15, e15, st15⟩ := getF X14 hx hZ hown (host := "") (Or.inl (own_w hw 12 rfl)) Via.refl e14 Fplaces_ (g := (mkF m 35 #[.val (.ref ax), .val (.long qz), .second, .val (.long qt), .second] [(.ref ax), (.int (0 : Int32))])) rfl rfl (hb hby d3_35)
  refine own_pre (fun t k => st15 t k) ?_
  refine own_pre (A := (T15.setTop (mkF m 53 #[.val (.ref ax), .val (.long qz), .second, .val (.long qt), .second] [(.ref ax)]))) ?_ ?_
  · intro t k
    show Steps p.tables e below (T15.setTop (mkF m 38 #[.val (.ref ax), .val (.long qz), .second, .val (.long qt), .second] [(.ref ap), (.int (0 : Int32))])) _
    obtain ⟨cl16, Ar16, -, S16, N16, -, -⟩ := Vp_
    refine X15.arraylength hx (by rw [e15]; exact Ar16.1) (State.isArrayOf_alike hZ.alike Ar16.2.1) (g := (mkF m 38 #[.val (.ref ax), .val (.long qz), .second, .val (.long qt), .second] [(.ref ap), (.int (0 : Int32))])) rfl rfl (hb hby d3_38) _ ?_
    rw [len_of S16 N16]
    show Steps p.tables e below (T15.setTop (mkF m 39 #[.val (.ref ax), .val (.long qz), .second, .val (.long qt), .second] [(.int (4 : Int32)), (.int (0 : Int32))])) _
    refine XS.icmpYes X15.here hx rfl (pc0 := 39) (pc' := 52) rfl (hb hby d3_39) rfl (feq (by decide : ¬ ((0 : Int32) = (4 : Int32)))).2 (by decide) (by decide) ?_
    refine XS.aloadN X15.here hx rfl (hb hby d3_52) rfl rfl ?_
    exact k
  obtain ⟨T17, X17, e17, st17⟩ := getF X15 hx hZ hown (host := "") (Or.inl (own_w hw 12 rfl)) Via.refl e15 Fplaces_ (g := (mkF m 53 #[.val (.ref ax), .val (.long qz), .second, .val (.long qt), .second] [(.ref ax)])) rfl rfl (hb hby d3_53)
  refine own_pre (fun t k => st17 t k) ?_
  refine own_pre (A := (T17.setTop (mkF m 57 #[.val (.ref ax), .val (.long qz), .second, .val (.long qt), .second] [(.ref ax), (.ref ap)]))) ?_ ?_
  · intro t k
    show Steps p.tables e below (T17.setTop (mkF m 56 #[.val (.ref ax), .val (.long qz), .second, .val (.long qt), .second] [(.ref ap)])) _
    refine XS.aloadN X17.here hx rfl (hb hby d3_56) rfl rfl ?_
    exact k
  obtain ⟨T18, X18, e18, st18⟩ := getF X17 hx hZ hown (host := "") (Or.inl (own_w hw 29 rfl)) Via.refl e17 Fentries_ (g := (mkF m 57 #[.val (.ref ax), .val (.long qz), .second, .val (.long qt), .second] [(.ref ax), (.ref ap)])) rfl rfl (hb hby d3_57)
  refine own_pre (fun t k => st18 t k) ?_
  refine own_pre (A := (T18.setTop (mkF m 61 #[.val (.ref ax), .val (.long qz), .second, .val (.long qt), .second] [(.ref ax), (.int (0 : Int32)), (.ref ap)]))) ?_ ?_
  · intro t k
    show Steps p.tables e below (T18.setTop (mkF m 60 #[.val (.ref ax), .val (.long qz), .second, .val (.long qt), .second] [(.int (0 : Int32)), (.ref ap)])) _
    refine XS.aloadN X18.here hx rfl (hb hby d3_60) rfl rfl ?_
    exact k
  obtain ⟨T19, X19, e19, st19⟩ := getF X18 hx hZ hown (host := "") (Or.inl (own_w hw 31 rfl)) Via.refl e18 Fcount_ (g := (mkF m 61 #[.val (.ref ax), .val (.long qz), .second, .val (.long qt), .second] [(.ref ax), (.int (0 : Int32)), (.ref ap)])) rfl rfl (hb hby d3_61)
  refine own_pre (fun t k => st19 t k) ?_
  obtain ⟨cl20, Ar20, q20, S20, N20, H20, G20⟩ := Vp_
  have hin20 : ¬ ((0 : Int32) < 0 ∨ cl20.slots.size ≤ ((0 : Int32)).toNatClampNeg) := inb_of S20 ⟨by decide, by decide⟩
  obtain ⟨T20, h20, X20, e20, W20, st20⟩ := stI X19 hx hZ e19 Ar20 (j := (0 : Int32)) hin20 (g := (mkF m 64 #[.val (.ref ax), .val (.long qz), .second, .val (.long qt), .second] [(.int ct), (.int (0 : Int32)), (.ref ap)])) rfl rfl (hb hby d3_64)
  have V20 : Arv Z h20 ap kp .int (4 : Int32) [(.int ct), (.int pp1), (.int pp2), (.int pp3)] (.int (0 : Int32)) := Arv.set Ar20 q20 S20 N20 H20 G20 rfl W20 0 rfl (Nat.le_of_ble_eq_true rfl)
  have Ea__20 := Ea_.wr W20
  have Fplaces__20 := Fplaces_.other W20 (Or.inl n0_)
  have Fstarts__20 := Fstarts_.other W20 (Or.inl n0_)
  have Ftimes__20 := Ftimes_.other W20 (Or.inl n0_)
  have Fentries__20 := Fentries_.other W20 (Or.inl n0_)
  have Fcount__20 := Fcount_.other W20 (Or.inl n0_)
  have Fend__20 := Fend_.other W20 (Or.inl n0_)
  have FlastTime__20 := FlastTime_.other W20 (Or.inl n0_)
  have Vs__20 := Vs_.other W20 n3_.symm
  have Vt__20 := Vt_.other W20 n4_.symm
  have Kc20 : Keep h0 h20 [ax, ap, ar, at'] := (Keep.refl h0 [ax, ap, ar, at']).wr W20 (Or.inl (List.mem_of_getElem? (i := 1) rfl))
  have N20 := Fr.snoc X20 N0 gg1_
  refine own_pre (fun t k => st20 t k) ?_
  refine own_pre (A := (T20.setTop (mkF m 66 #[.val (.ref ax), .val (.long qz), .second, .val (.long qt), .second] [(.ref ax)]))) ?_ ?_
  · intro t k
    show Steps p.tables e below (T20.setTop (mkF m 65 #[.val (.ref ax), .val (.long qz), .second, .val (.long qt), .second] [])) _
    refine XS.aloadN X20.here hx rfl (hb hby d3_65) rfl rfl ?_
    exact k
  obtain ⟨T21, X21, e21, st21⟩ := getF X20 hx hZ hown (host := "") (Or.inl (own_w hw 15 rfl)) Via.refl e20 Fstarts__20 (g := (mkF m 66 #[.val (.ref ax), .val (.long qz), .second, .val (.long qt), .second] [(.ref ax)])) rfl rfl (hb hby d3_66)
  refine own_pre (fun t k => st21 t k) ?_
  refine own_pre (A := (T21.setTop (mkF m 70 #[.val (.ref ax), .val (.long qz), .second, .val (.long qt), .second] [(.ref ax), (.ref ar)]))) ?_ ?_
  · intro t k
    show Steps p.tables e below (T21.setTop (mkF m 69 #[.val (.ref ax), .val (.long qz), .second, .val (.long qt), .second] [(.ref ar)])) _
    refine XS.aloadN X21.here hx rfl (hb hby d3_69) rfl rfl ?_
    exact k
  obtain ⟨T22, X22, e22, st22⟩ := getF X21 hx hZ hown (host := "") (Or.inl (own_w hw 29 rfl)) Via.refl e21 Fentries__20 (g := (mkF m 70 #[.val (.ref ax), .val (.long qz), .second, .val (.long qt), .second] [(.ref ax), (.ref ar)])) rfl rfl (hb hby d3_70)
  refine own_pre (fun t k => st22 t k) ?_
  refine own_pre (A := (T22.setTop (mkF m 74 #[.val (.ref ax), .val (.long qz), .second, .val (.long qt), .second] [(.ref ax), (.int (0 : Int32)), (.ref ar)]))) ?_ ?_
  · intro t k
    show Steps p.tables e below (T22.setTop (mkF m 73 #[.val (.ref ax), .val (.long qz), .second, .val (.long qt), .second] [(.int (0 : Int32)), (.ref ar)])) _
    refine XS.aloadN X22.here hx rfl (hb hby d3_73) rfl rfl ?_
    exact k
  obtain ⟨T23, X23, e23, st23⟩ := getF X22 hx hZ hown (host := "") (Or.inl (own_w hw 22 rfl)) Via.refl e22 Fend__20 (g := (mkF m 74 #[.val (.ref ax), .val (.long qz), .second, .val (.long qt), .second] [(.ref ax), (.int (0 : Int32)), (.ref ar)])) rfl rfl (hb hby d3_74)
  refine own_pre (fun t k => st23 t k) ?_
  obtain ⟨cl24, Ar24, q24, S24, N24, H24, G24⟩ := Vs__20
  have hin24 : ¬ ((0 : Int32) < 0 ∨ cl24.slots.size ≤ ((0 : Int32)).toNatClampNeg) := inb_of S24 ⟨by decide, by decide⟩
  obtain ⟨T24, h24, X24, e24, W24, st24⟩ := stJ X23 hx hZ e23 Ar24 (j := (0 : Int32)) hin24 (g := (mkF m 77 #[.val (.ref ax), .val (.long qz), .second, .val (.long qt), .second] [(.long qe), (.int (0 : Int32)), (.ref ar)])) rfl rfl (hb hby d3_77)
  have V24 : Arv Z h24 ar ks .long (4 : Int32) [(.long qe), (.long ss1), (.long ss2), (.long ss3)] (.long (0 : Int64)) := Arv.set Ar24 q24 S24 N24 H24 G24 rfl W24 0 rfl (Nat.le_of_ble_eq_true rfl)
  have Ea__24 := Ea__20.wr W24
  have Fplaces__24 := Fplaces__20.other W24 (Or.inl n1_)
  have Fstarts__24 := Fstarts__20.other W24 (Or.inl n1_)
  have Ftimes__24 := Ftimes__20.other W24 (Or.inl n1_)
  have Fentries__24 := Fentries__20.other W24 (Or.inl n1_)
  have Fcount__24 := Fcount__20.other W24 (Or.inl n1_)
  have Fend__24 := Fend__20.other W24 (Or.inl n1_)
  have FlastTime__24 := FlastTime__20.other W24 (Or.inl n1_)
  have V20_24 := V20.other W24 n3_
  have Vt__24 := Vt__20.other W24 n5_.symm
  have Kc24 : Keep h0 h24 [ax, ap, ar, at'] := Kc20.wr W24 (Or.inl (List.mem_of_getElem? (i := 2) rfl))
  have N24 := Fr.snoc X24 N20 gg2_
  refine own_pre (fun t k => st24 t k) ?_
  refine own_pre (A := (T24.setTop (mkF m 79 #[.val (.ref ax), .val (.long qz), .second, .val (.long qt), .second] [(.ref ax)]))) ?_ ?_
  · intro t k
    show Steps p.tables e below (T24.setTop (mkF m 78 #[.val (.ref ax), .val (.long qz), .second, .val (.long qt), .second] [])) _
    refine XS.aloadN X24.here hx rfl (hb hby d3_78) rfl rfl ?_
    exact k
  obtain ⟨T25, X25, e25, st25⟩ := getF X24 hx hZ hown (host := "") (Or.inl (own_w hw 17 rfl)) Via.refl e24 Ftimes__24 (g := (mkF m 79 #[.val (.ref ax), .val (.long qz), .second, .val (.long qt), .second] [(.ref ax)])) rfl rfl (hb hby d3_79)
  refine own_pre (fun t k => st25 t k) ?_
  refine own_pre (A := (T25.setTop (mkF m 83 #[.val (.ref ax), .val (.long qz), .second, .val (.long qt), .second] [(.ref ax), (.ref at')]))) ?_ ?_
  · intro t k
    show Steps p.tables e below (T25.setTop (mkF m 82 #[.val (.ref ax), .val (.long qz), .second, .val (.long qt), .second] [(.ref at')])) _
    refine XS.aloadN X25.here hx rfl (hb hby d3_82) rfl rfl ?_
    exact k
  obtain ⟨T26, X26, e26, st26⟩ := getF X25 hx hZ hown (host := "") (Or.inl (own_w hw 29 rfl)) Via.refl e25 Fentries__24 (g := (mkF m 83 #[.val (.ref ax), .val (.long qz), .second, .val (.long qt), .second] [(.ref ax), (.ref at')])) rfl rfl (hb hby d3_83)
  refine own_pre (fun t k => st26 t k) ?_
  refine own_pre (A := (T26.setTop (mkF m 87 #[.val (.ref ax), .val (.long qz), .second, .val (.long qt), .second] [(.long qt), (.int (0 : Int32)), (.ref at')]))) ?_ ?_
  · intro t k
    show Steps p.tables e below (T26.setTop (mkF m 86 #[.val (.ref ax), .val (.long qz), .second, .val (.long qt), .second] [(.int (0 : Int32)), (.ref at')])) _
    refine XS.lloadN X26.here hx rfl (hb hby d3_86) rfl ?_
    exact k
  obtain ⟨cl27, Ar27, S27, N27⟩ := Vt__24
  have hin27 : ¬ ((0 : Int32) < 0 ∨ cl27.slots.size ≤ ((0 : Int32)).toNatClampNeg) := inb_of S27 ⟨by decide, by decide⟩
  obtain ⟨T27, h27, X27, e27, W27, st27⟩ := stJ X26 hx hZ e26 Ar27 (j := (0 : Int32)) hin27 (g := (mkF m 87 #[.val (.ref ax), .val (.long qz), .second, .val (.long qt), .second] [(.long qt), (.int (0 : Int32)), (.ref at')])) rfl rfl (hb hby d3_87)
  have V27 : own_Al Z h27 at' .long (4 : Int32) := ⟨_, Ar27.same W27, (sz_set _ _ _).trans S27, N27⟩
  have Ea__27 := Ea__24.wr W27
  have Fplaces__27 := Fplaces__24.other W27 (Or.inl n2_)
  have Fstarts__27 := Fstarts__24.other W27 (Or.inl n2_)
  have Ftimes__27 := Ftimes__24.other W27 (Or.inl n2_)
  have Fentries__27 := Fentries__24.other W27 (Or.inl n2_)
  have Fcount__27 := Fcount__24.other W27 (Or.inl n2_)
  have Fend__27 := Fend__24.other W27 (Or.inl n2_)
  have FlastTime__27 := FlastTime__24.other W27 (Or.inl n2_)
  have V20_27 := V20_24.other W27 n4_
  have V24_27 := V24.other W27 n5_
  have Kc27 : Keep h0 h27 [ax, ap, ar, at'] := Kc24.wr W27 (Or.inl (List.mem_of_getElem? (i := 3) rfl))
  have N27 := Fr.snoc X27 N24 gg3_
  refine own_pre (fun t k => st27 t k) ?_
  refine own_pre (A := (T27.setTop (mkF m 90 #[.val (.ref ax), .val (.long qz), .second, .val (.long qt), .second] [(.ref ax), (.ref ax)]))) ?_ ?_
  · intro t k
    show Steps p.tables e below (T27.setTop (mkF m 88 #[.val (.ref ax), .val (.long qz), .second, .val (.long qt), .second] [])) _
    refine XS.aloadN X27.here hx rfl (hb hby d3_88) rfl rfl ?_
    refine XS.dup X27.here hx rfl (hb hby d3_89) rfl rfl ?_
    exact k
  obtain ⟨T28, X28, e28, st28⟩ := getF X27 hx hZ hown (host := "") (Or.inl (own_w hw 29 rfl)) Via.refl e27 Fentries__27 (g := (mkF m 90 #[.val (.ref ax), .val (.long qz), .second, .val (.long qt), .second] [(.ref ax), (.ref ax)])) rfl rfl (hb hby d3_90)
  refine own_pre (fun t k => st28 t k) ?_
  refine own_pre (A := (T28.setTop (mkF m 95 #[.val (.ref ax), .val (.long qz), .second, .val (.long qt), .second] [(.int (1 : Int32)), (.ref ax)]))) ?_ ?_
  · intro t k
    show Steps p.tables e below (T28.setTop (mkF m 93 #[.val (.ref ax), .val (.long qz), .second, .val (.long qt), .second] [(.int (0 : Int32)), (.ref ax)])) _
    refine XS.iconst X28.here hx rfl (hb hby d3_93) ?_
    refine XS.iadd X28.here hx rfl (hb hby d3_94) rfl ?_
    show Steps p.tables e below (T28.setTop (mkF m 95 #[.val (.ref ax), .val (.long qz), .second, .val (.long qt), .second] [(.int ((0 : Int32) + (1 : Int32))), (.ref ax)])) _
    rw [show ((0 : Int32) + (1 : Int32)) = (1 : Int32) from by decide]
    exact k
  obtain ⟨T29, h29, X29, e29, W29, st29⟩ := putF X28 hx hZ hown (host := "") (Or.inl (own_w hw 29 rfl)) Via.refl e28 Fentries__27 Ea__27 (Or.inl (own_w hw 30 rfl)) (own_w hw 3 rfl) (ty := .int) (by decide) rfl rfl (g := (mkF m 95 #[.val (.ref ax), .val (.long qz), .second, .val (.long qt), .second] [(.int (1 : Int32)), (.ref ax)])) rfl rfl (hb hby d3_95)
  have Ea__29 := Ea__27.wr W29
  have Fplaces__29 := Fplaces__27.other W29 (Or.inr (slot_ne (Or.inl (own_w hw 13 rfl)) (Or.inl (own_w hw 30 rfl)) (by decide) (t := (.array .int)) (t' := .int) (by decide) (by decide)))
  have Fstarts__29 := Fstarts__27.other W29 (Or.inr (slot_ne (Or.inl (own_w hw 16 rfl)) (Or.inl (own_w hw 30 rfl)) (by decide) (t := (.array .long)) (t' := .int) (by decide) (by decide)))
  have Ftimes__29 := Ftimes__27.other W29 (Or.inr (slot_ne (Or.inl (own_w hw 18 rfl)) (Or.inl (own_w hw 30 rfl)) (by decide) (t := (.array .long)) (t' := .int) (by decide) (by decide)))
  have Fcount__29 := Fcount__27.other W29 (Or.inr (slot_ne (Or.inl (own_w hw 32 rfl)) (Or.inl (own_w hw 30 rfl)) (by decide) (t := .int) (t' := .int) (by decide) (by decide)))
  have Fend__29 := Fend__27.other W29 (Or.inr (slot_ne (Or.inl (own_w hw 23 rfl)) (Or.inl (own_w hw 30 rfl)) (by decide) (t := .long) (t' := .int) (by decide) (by decide)))
  have FlastTime__29 := FlastTime__27.other W29 (Or.inr (slot_ne (Or.inl (own_w hw 21 rfl)) (Or.inl (own_w hw 30 rfl)) (by decide) (t := .long) (t' := .int) (by decide) (by decide)))
  have V20_29 := V20_27.other W29 n0_.symm
  have V24_29 := V24_27.other W29 n1_.symm
  have V27_29 := V27.other W29 n2_.symm
  have Kc29 : Keep h0 h29 [ax, ap, ar, at'] := Kc27.wr W29 (Or.inl (List.mem_of_getElem? (i := 0) rfl))
  have N29 := Fr.snoc X29 N27 gg0_
  have Fw29 := Fentries__27.same W29
  refine own_pre (fun t k => st29 t k) ?_
  refine own_pre (A := (T29.setTop (mkF m 100 #[.val (.ref ax), .val (.long qz), .second, .val (.long qt), .second] [(.ref ax), (.ref ax)]))) ?_ ?_
  · intro t k
    show Steps p.tables e below (T29.setTop (mkF m 98 #[.val (.ref ax), .val (.long qz), .second, .val (.long qt), .second] [])) _
    refine XS.aloadN X29.here hx rfl (hb hby d3_98) rfl rfl ?_
    refine XS.dup X29.here hx rfl (hb hby d3_99) rfl rfl ?_
    exact k
  obtain ⟨T30, X30, e30, st30⟩ := getF X29 hx hZ hown (host := "") (Or.inl (own_w hw 22 rfl)) Via.refl e29 Fend__29 (g := (mkF m 100 #[.val (.ref ax), .val (.long qz), .second, .val (.long qt), .second] [(.ref ax), (.ref ax)])) rfl rfl (hb hby d3_100)
  refine own_pre (fun t k => st30 t k) ?_
  refine own_pre (A := (T30.setTop (mkF m 105 #[.val (.ref ax), .val (.long qz), .second, .val (.long qt), .second] [(.long (qe + qz)), (.ref ax)]))) ?_ ?_
  · intro t k
    show Steps p.tables e below (T30.setTop (mkF m 103 #[.val (.ref ax), .val (.long qz), .second, .val (.long qt), .second] [(.long qe), (.ref ax)])) _
    refine XS.lloadN X30.here hx rfl (hb hby d3_103) rfl ?_
    refine XS.ladd X30.here hx rfl (hb hby d3_104) rfl ?_
    exact k
  obtain ⟨T31, h31, X31, e31, W31, st31⟩ := putF X30 hx hZ hown (host := "") (Or.inl (own_w hw 22 rfl)) Via.refl e30 Fend__29 Ea__29 (Or.inl (own_w hw 23 rfl)) (own_w hw 3 rfl) (ty := .long) (by decide) rfl rfl (g := (mkF m 105 #[.val (.ref ax), .val (.long qz), .second, .val (.long qt), .second] [(.long (qe + qz)), (.ref ax)])) rfl rfl (hb hby d3_105)
  have Ea__31 := Ea__29.wr W31
  have Fplaces__31 := Fplaces__29.other W31 (Or.inr (slot_ne (Or.inl (own_w hw 13 rfl)) (Or.inl (own_w hw 23 rfl)) (by decide) (t := (.array .int)) (t' := .long) (by decide) (by decide)))
  have Fstarts__31 := Fstarts__29.other W31 (Or.inr (slot_ne (Or.inl (own_w hw 16 rfl)) (Or.inl (own_w hw 23 rfl)) (by decide) (t := (.array .long)) (t' := .long) (by decide) (by decide)))
  have Ftimes__31 := Ftimes__29.other W31 (Or.inr (slot_ne (Or.inl (own_w hw 18 rfl)) (Or.inl (own_w hw 23 rfl)) (by decide) (t := (.array .long)) (t' := .long) (by decide) (by decide)))
  have Fw29_31 := Fw29.other W31 (Or.inr (slot_ne (Or.inl (own_w hw 30 rfl)) (Or.inl (own_w hw 23 rfl)) (by decide) (t := .int) (t' := .long) (by decide) (by decide)))
  have Fcount__31 := Fcount__29.other W31 (Or.inr (slot_ne (Or.inl (own_w hw 32 rfl)) (Or.inl (own_w hw 23 rfl)) (by decide) (t := .int) (t' := .long) (by decide) (by decide)))
  have FlastTime__31 := FlastTime__29.other W31 (Or.inr (slot_ne (Or.inl (own_w hw 21 rfl)) (Or.inl (own_w hw 23 rfl)) (by decide) (t := .long) (t' := .long) (by decide) (by decide)))
  have V20_31 := V20_29.other W31 n0_.symm
  have V24_31 := V24_29.other W31 n1_.symm
  have V27_31 := V27_29.other W31 n2_.symm
  have Kc31 : Keep h0 h31 [ax, ap, ar, at'] := Kc29.wr W31 (Or.inl (List.mem_of_getElem? (i := 0) rfl))
  have N31 := Fr.snoc X31 N29 gg0_
  have Fw31 := Fend__29.same W31
  refine own_pre (fun t k => st31 t k) ?_
  refine own_pre (A := (T31.setTop (mkF m 110 #[.val (.ref ax), .val (.long qz), .second, .val (.long qt), .second] [(.long qt), (.ref ax)]))) ?_ ?_
  · intro t k
    show Steps p.tables e below (T31.setTop (mkF m 108 #[.val (.ref ax), .val (.long qz), .second, .val (.long qt), .second] [])) _
    refine XS.aloadN X31.here hx rfl (hb hby d3_108) rfl rfl ?_
    refine XS.lloadN X31.here hx rfl (hb hby d3_109) rfl ?_
    exact k
  obtain ⟨T32, h32, X32, e32, W32, st32⟩ := putF X31 hx hZ hown (host := "") (Or.inl (own_w hw 20 rfl)) Via.refl e31 FlastTime__31 Ea__31 (Or.inl (own_w hw 21 rfl)) (own_w hw 3 rfl) (ty := .long) (by decide) rfl rfl (g := (mkF m 110 #[.val (.ref ax), .val (.long qz), .second, .val (.long qt), .second] [(.long qt), (.ref ax)])) rfl rfl (hb hby d3_110)
  have Ea__32 := Ea__31.wr W32
  have Fplaces__32 := Fplaces__31.other W32 (Or.inr (slot_ne (Or.inl (own_w hw 13 rfl)) (Or.inl (own_w hw 21 rfl)) (by decide) (t := (.array .int)) (t' := .long) (by decide) (by decide)))
  have Fstarts__32 := Fstarts__31.other W32 (Or.inr (slot_ne (Or.inl (own_w hw 16 rfl)) (Or.inl (own_w hw 21 rfl)) (by decide) (t := (.array .long)) (t' := .long) (by decide) (by decide)))
  have Ftimes__32 := Ftimes__31.other W32 (Or.inr (slot_ne (Or.inl (own_w hw 18 rfl)) (Or.inl (own_w hw 21 rfl)) (by decide) (t := (.array .long)) (t' := .long) (by decide) (by decide)))
  have Fw29_32 := Fw29_31.other W32 (Or.inr (slot_ne (Or.inl (own_w hw 30 rfl)) (Or.inl (own_w hw 21 rfl)) (by decide) (t := .int) (t' := .long) (by decide) (by decide)))
  have Fcount__32 := Fcount__31.other W32 (Or.inr (slot_ne (Or.inl (own_w hw 32 rfl)) (Or.inl (own_w hw 21 rfl)) (by decide) (t := .int) (t' := .long) (by decide) (by decide)))
  have Fw31_32 := Fw31.other W32 (Or.inr (slot_ne (Or.inl (own_w hw 23 rfl)) (Or.inl (own_w hw 21 rfl)) (by decide) (t := .long) (t' := .long) (by decide) (by decide)))
  have V20_32 := V20_31.other W32 n0_.symm
  have V24_32 := V24_31.other W32 n1_.symm
  have V27_32 := V27_31.other W32 n2_.symm
  have Kc32 : Keep h0 h32 [ax, ap, ar, at'] := Kc31.wr W32 (Or.inl (List.mem_of_getElem? (i := 0) rfl))
  have N32 := Fr.snoc X32 N31 gg0_
  have Fw32 := FlastTime__31.same W32
  refine own_pre (fun t k => st32 t k) ?_
  refine own_pre (A := (T32.setTop (mkF m 115 #[.val (.ref ax), .val (.long qz), .second, .val (.long qt), .second] [(.ref ax), (.ref ax)]))) ?_ ?_
  · intro t k
    show Steps p.tables e below (T32.setTop (mkF m 113 #[.val (.ref ax), .val (.long qz), .second, .val (.long qt), .second] [])) _
    refine XS.aloadN X32.here hx rfl (hb hby d3_113) rfl rfl ?_
    refine XS.dup X32.here hx rfl (hb hby d3_114) rfl rfl ?_
    exact k
  obtain ⟨T33, X33, e33, st33⟩ := getF X32 hx hZ hown (host := "") (Or.inl (own_w hw 31 rfl)) Via.refl e32 Fcount__32 (g := (mkF m 115 #[.val (.ref ax), .val (.long qz), .second, .val (.long qt), .second] [(.ref ax), (.ref ax)])) rfl rfl (hb hby d3_115)
  refine own_pre (fun t k => st33 t k) ?_
  refine own_pre (A := (T33.setTop (mkF m 120 #[.val (.ref ax), .val (.long qz), .second, .val (.long qt), .second] [(.int (ct + (1 : Int32))), (.ref ax)]))) ?_ ?_
  · intro t k
    show Steps p.tables e below (T33.setTop (mkF m 118 #[.val (.ref ax), .val (.long qz), .second, .val (.long qt), .second] [(.int ct), (.ref ax)])) _
    refine XS.iconst X33.here hx rfl (hb hby d3_118) ?_
    refine XS.iadd X33.here hx rfl (hb hby d3_119) rfl ?_
    exact k
  obtain ⟨T34, h34, X34, e34, W34, st34⟩ := putF X33 hx hZ hown (host := "") (Or.inl (own_w hw 31 rfl)) Via.refl e33 Fcount__32 Ea__32 (Or.inl (own_w hw 32 rfl)) (own_w hw 3 rfl) (ty := .int) (by decide) rfl rfl (g := (mkF m 120 #[.val (.ref ax), .val (.long qz), .second, .val (.long qt), .second] [(.int (ct + (1 : Int32))), (.ref ax)])) rfl rfl (hb hby d3_120)
  have Ea__34 := Ea__32.wr W34
  have Fplaces__34 := Fplaces__32.other W34 (Or.inr (slot_ne (Or.inl (own_w hw 13 rfl)) (Or.inl (own_w hw 32 rfl)) (by decide) (t := (.array .int)) (t' := .int) (by decide) (by decide)))
  have Fstarts__34 := Fstarts__32.other W34 (Or.inr (slot_ne (Or.inl (own_w hw 16 rfl)) (Or.inl (own_w hw 32 rfl)) (by decide) (t := (.array .long)) (t' := .int) (by decide) (by decide)))
  have Ftimes__34 := Ftimes__32.other W34 (Or.inr (slot_ne (Or.inl (own_w hw 18 rfl)) (Or.inl (own_w hw 32 rfl)) (by decide) (t := (.array .long)) (t' := .int) (by decide) (by decide)))
  have Fw29_34 := Fw29_32.other W34 (Or.inr (slot_ne (Or.inl (own_w hw 30 rfl)) (Or.inl (own_w hw 32 rfl)) (by decide) (t := .int) (t' := .int) (by decide) (by decide)))
  have Fw31_34 := Fw31_32.other W34 (Or.inr (slot_ne (Or.inl (own_w hw 23 rfl)) (Or.inl (own_w hw 32 rfl)) (by decide) (t := .long) (t' := .int) (by decide) (by decide)))
  have Fw32_34 := Fw32.other W34 (Or.inr (slot_ne (Or.inl (own_w hw 21 rfl)) (Or.inl (own_w hw 32 rfl)) (by decide) (t := .long) (t' := .int) (by decide) (by decide)))
  have V20_34 := V20_32.other W34 n0_.symm
  have V24_34 := V24_32.other W34 n1_.symm
  have V27_34 := V27_32.other W34 n2_.symm
  have Kc34 : Keep h0 h34 [ax, ap, ar, at'] := Kc32.wr W34 (Or.inl (List.mem_of_getElem? (i := 0) rfl))
  have N34 := Fr.snoc X34 N32 gg0_
  have Fw34 := Fcount__32.same W34
  refine own_pre (fun t k => st34 t k) ?_
  obtain ⟨fs, hr, hrun, hended, hW, hsame⟩ := X34.leave (hlocks := BodyLoose.notSynchronized Bd) (v := none) (fun _ => rfl)
  refine ⟨_, _, X34.returnOut hx Bd.returns (hb hby d3_123) hr, hrun, hended, _, _, rfl, ?_, ⟨_, rfl⟩, hW, hsame.mono (by decide) (by decide)⟩
  show own_Q3_0 Z ax qz qt ap ar at' kp ks ct qe ql pp0 pp1 pp2 pp3 ss0 ss1 ss2 ss3 h0 n0 _ T34.heap _
  rw [e34]
  exact ⟨rfl, N34, Kc34, ⟨Ea__34, Fplaces__34, Fstarts__34, Ftimes__34, Fw29_34, Fw34, Fw31_34, Fw32_34, V20_34, V24_34, V27_34, n0_, n1_, n2_, n3_, n4_, n5_, gg0_, gg1_, gg2_, gg3_⟩⟩
theorem d4_0 : decode prog_34_method_10_code 0 = .ok (.iload_n 1, 1) := by decide +kernel
theorem d4_1 : decode prog_34_method_10_code 1 = .ok (.iconst 1, 1) := by decide +kernel
theorem d4_2 : decode prog_34_method_10_code 2 = .ok (.iadd, 1) := by decide +kernel
theorem d4_3 : decode prog_34_method_10_code 3 = .ok (.aload_n 0, 1) := by decide +kernel
theorem d4_4 : decode prog_34_method_10_code 4 = .ok (.getfield 31, 3) := by decide +kernel
theorem d4_7 : decode prog_34_method_10_code 7 = .ok (.if_icmp .ge 14, 3) := by decide +kernel
theorem d4_10 : decode prog_34_method_10_code 10 = .ok (.aload_n 0, 1) := by decide +kernel
theorem d4_11 : decode prog_34_method_10_code 11 = .ok (.getfield 13, 3) := by decide +kernel
theorem d4_14 : decode prog_34_method_10_code 14 = .ok (.iload_n 1, 1) := by decide +kernel
theorem d4_15 : decode prog_34_method_10_code 15 = .ok (.iconst 1, 1) := by decide +kernel
theorem d4_16 : decode prog_34_method_10_code 16 = .ok (.iadd, 1) := by decide +kernel
theorem d4_17 : decode prog_34_method_10_code 17 = .ok (.laload, 1) := by decide +kernel
theorem d4_18 : decode prog_34_method_10_code 18 = .ok (.goto 7, 3) := by decide +kernel
theorem d4_21 : decode prog_34_method_10_code 21 = .ok (.aload_n 0, 1) := by decide +kernel
theorem d4_22 : decode prog_34_method_10_code 22 = .ok (.getfield 28, 3) := by decide +kernel
theorem d4_25 : decode prog_34_method_10_code 25 = .ok (.lreturn, 1) := by decide +kernel
theorem own_pn4 : plainName "com/example/coho/coho/eventlog/SegmentIndex" = true := by first | (simp [plainName, overriddenIn]; done) | decide +kernel
theorem own_ef4 (m : MethodId) (x0 : Addr) (x1 : Int32) : entryFrame m #[(.ref x0), (.int x1)] 2 = mkF m 0 #[.val (.ref x0), .val (.int x1)] [] := by first | (simp [entryFrame, mkF, argsToLocals, Value.category]; done) | rfl
def own_Q4_0_1 (Z : State) (ax : Addr) (ap : Addr) (kp : ClassId) (ct : Int32) (qe : Int64) (uu0 : Int64) (uu1 : Int64) (uu2 : Int64) (uu3 : Int64) (h0 : Heap) (n0 : Nat) (v : Option Value) (h : Heap) (L : List Loc) : Prop := Fr n0 L ∧ v = some (.long qe) ∧ h = h0
set_option maxRecDepth 65536 in
set_option maxHeartbeats 40000000 in
theorem rm4_0_1 (l : Launch) (Z : State) (a0 : Array Value) (hw : ∀ d ∈ tables_1, d.before a0 Z = true) (ws : List Jvm.Cond) (ax : Addr) (ap : Addr) (kp : ClassId) (ct : Int32) (qe : Int64) (uu0 : Int64) (uu1 : Int64) (uu2 : Int64) (uu3 : Int64) (h0 : Heap) (n0 : Nat) (Z0 : n0 ≤ h0.size) (Fe : Fld Z h0 ax "com/example/coho/coho/eventlog/SegmentIndex" "entries" "I" (.int (1 : Int32))) (Fc : Fld Z h0 ax "com/example/coho/coho/eventlog/SegmentIndex" "count" "I" (.int ct)) (Fq : Fld Z h0 ax "com/example/coho/coho/eventlog/SegmentIndex" "end" "J" (.long qe)) (Fa : Fld Z h0 ax "com/example/coho/coho/eventlog/SegmentIndex" "starts" "[J" (.ref ap)) (Va : Arv Z h0 ap kp .long (4 : Int32) [(.long uu0), (.long uu1), (.long uu2), (.long uu3)] (.long (0 : Int64))) :
    MetFree l (⟨"com/example/coho/coho/eventlog/SegmentIndex", "stretchEnd", "(I)J"⟩ : MethodName) (head1 (Jvm.Cond.code (⟨"com/example/coho/coho/eventlog/SegmentIndex", "stretchEnd", "(I)J"⟩ : MethodName) prog_34_method_10_code 2 (some .long) :: ws) ({ frames := 0, cells := 0, slots := 0, locals := 0 } : Room)) (fun a U => a = #[(.ref ax), (.int (0 : Int32))] ∧ Z.Warmed39 U.vm ∧ U.heap = h0) (fun _ _ _ _ _ => True) (fun _ U o U' => ∃ v L, o = .returned v ∧ own_Q4_0_1 Z ax ap kp ct qe uu0 uu1 uu2 uu3 h0 n0 v U'.heap L ∧ FrameEnd U o U' L ({ frames := 0, cells := 0, slots := 0, locals := 0 } : Room).cells ({ frames := 0, cells := 0, slots := 0, locals := 0 } : Room).slots) := by
  refine MetFree.of_bodySF (plainFor_of_name own_pn4) hisR ?_
  intro p e s m args below meth c s₁ Bd hml0 hP hK
  obtain ⟨rfl, hZ, hh⟩ := hP
  have hx := Bd.exec
  have hby := Bd.bytes
  have hml : c.maxLocals = 2 := hml0
  have hown : s.vm.findClass "com/example/coho/coho/eventlog/SegmentIndex" = some m.cls := findClass_of_methodNamed Bd.named
  have hnm := (name_of_methodNamed Bd.named Bd.method).1
  have X0 : Stand p l e ({ frames := 0, cells := 0, slots := 0, locals := 0 } : Room) s m #[(.ref ax), (.int (0 : Int32))] below meth c s₁ [] 0 0 := Stand.of_body Bd
  have e0 : s₁.heap = h0 := by rw [← hh, Bd.state]; rfl
  have N0 := Fr.nil n0
  refine own_pre (A := (s₁.setTop (mkF m 0 #[.val (.ref ax), .val (.int (0 : Int32))] []))) (fun t k => castTop (own_ef4 m ax (0 : Int32)) k) ?_
  refine own_pre (A := (s₁.setTop (mkF m 4 #[.val (.ref ax), .val (.int (0 : Int32))] [(.ref ax), (.int (1 : Int32))]))) ?_ ?_
  · intro t k
    show Steps p.tables e below (s₁.setTop (mkF m 0 #[.val (.ref ax), .val (.int (0 : Int32))] [])) _
    refine XS.iloadN X0.here hx rfl (hb hby d4_0) rfl ?_
    refine XS.iconst X0.here hx rfl (hb hby d4_1) ?_
    refine XS.iadd X0.here hx rfl (hb hby d4_2) rfl ?_
    show Steps p.tables e below (s₁.setTop (mkF m 3 #[.val (.ref ax), .val (.int (0 : Int32))] [(.int ((0 : Int32) + (1 : Int32)))])) _
    rw [show ((0 : Int32) + (1 : Int32)) = (1 : Int32) from by decide]
    show Steps p.tables e below (s₁.setTop (mkF m 3 #[.val (.ref ax), .val (.int (0 : Int32))] [(.int (1 : Int32))])) _
    refine XS.aloadN X0.here hx rfl (hb hby d4_3) rfl rfl ?_
    exact k
  obtain ⟨T36, X36, e36, st36⟩ := getF X0 hx hZ hown (host := "") (Or.inl (own_w hw 29 rfl)) Via.refl e0 Fe (g := (mkF m 4 #[.val (.ref ax), .val (.int (0 : Int32))] [(.ref ax), (.int (1 : Int32))])) rfl rfl (hb hby d4_4)
  refine own_pre (fun t k => st36 t k) ?_
  refine own_pre (A := (T36.setTop (mkF m 22 #[.val (.ref ax), .val (.int (0 : Int32))] [(.ref ax)]))) ?_ ?_
  · intro t k
    show Steps p.tables e below (T36.setTop (mkF m 7 #[.val (.ref ax), .val (.int (0 : Int32))] [(.int (1 : Int32)), (.int (1 : Int32))])) _
    refine XS.icmpYes X36.here hx rfl (pc0 := 7) (pc' := 21) rfl (hb hby d4_7) rfl (flt (by decide : ¬ ((1 : Int32) < (1 : Int32)))).2.1 (by decide) (by decide) ?_
    refine XS.aloadN X36.here hx rfl (hb hby d4_21) rfl rfl ?_
    exact k
  obtain ⟨T37, X37, e37, st37⟩ := getF X36 hx hZ hown (host := "") (Or.inl (own_w hw 22 rfl)) Via.refl e36 Fq (g := (mkF m 22 #[.val (.ref ax), .val (.int (0 : Int32))] [(.ref ax)])) rfl rfl (hb hby d4_22)
  refine own_pre (fun t k => st37 t k) ?_
  obtain ⟨fs, hr, hrun, hended, hW, hsame⟩ := X37.leave (hlocks := BodyLoose.notSynchronized Bd) (v := some (.long qe)) (fun h => by rw [Bd.returns] at h; cases h)
  refine ⟨_, _, retOut X37 hx Bd.returns rfl (Or.inr (Or.inl ⟨rfl, rfl, _, rfl⟩)) (hb hby d4_25) hr, hrun, hended, _, _, rfl, ?_, ⟨_, rfl⟩, hW, hsame.mono (by decide) (by decide)⟩
  show own_Q4_0_1 Z ax ap kp ct qe uu0 uu1 uu2 uu3 h0 n0 _ T37.heap _
  rw [e37]
  exact ⟨N0, rfl, rfl⟩
def own_Q3_1A (Z : State) (ax : Addr) (qz : Int64) (qt : Int64) (ap : Addr) (ar : Addr) (at' : Addr) (kp : ClassId) (ks : ClassId) (ct : Int32) (qe : Int64) (ql : Int64) (pp0 : Int32) (pp1 : Int32) (pp2 : Int32) (pp3 : Int32) (ss0 : Int64) (ss1 : Int64) (ss2 : Int64) (ss3 : Int64) (h0 : Heap) (n0 : Nat) (v : Option Value) (h : Heap) (L : List Loc) : Prop := v = none ∧ Fr n0 L ∧ Keep h0 h [ax, ap, ar, at'] ∧ own_SI Z h n0 ax ap ar at' kp ks (1 : Int32) (ct + (1 : Int32)) (qe + qz) qt pp0 pp1 pp2 pp3 ss0 ss1 ss2 ss3
set_option maxRecDepth 65536 in
set_option maxHeartbeats 40000000 in
theorem rm3_1A (l : Launch) (Z : State) (a0 : Array Value) (hw : ∀ d ∈ tables_1, d.before a0 Z = true) (ws : List Jvm.Cond) (ax : Addr) (qz : Int64) (qt : Int64) (ap : Addr) (ar : Addr) (at' : Addr) (kp : ClassId) (ks : ClassId) (ct : Int32) (qe : Int64) (ql : Int64) (pp0 : Int32) (pp1 : Int32) (pp2 : Int32) (pp3 : Int32) (ss0 : Int64) (ss1 : Int64) (ss2 : Int64) (ss3 : Int64) (h0 : Heap) (n0 : Nat) (Z0 : n0 ≤ h0.size) (B : own_SI Z h0 n0 ax ap ar at' kp ks (1 : Int32) ct qe ql pp0 pp1 pp2 pp3 ss0 ss1 ss2 ss3) (hs : (qe - ss0) < (65536 : Int64)) :
    MetFree l (⟨"com/example/coho/coho/eventlog/SegmentIndex", "add", "(JJ)V"⟩ : MethodName) (head1 (Jvm.Cond.code (⟨"com/example/coho/coho/eventlog/SegmentIndex", "add", "(JJ)V"⟩ : MethodName) prog_34_method_2_code 5 none :: ws) ({ frames := 0, cells := 0, slots := 0, locals := 0 } : Room)) (fun a U => a = #[(.ref ax), (.long qz), (.long qt)] ∧ Z.Warmed39 U.vm ∧ U.heap = h0) (fun _ _ _ _ _ => True) (fun _ U o U' => ∃ v L, o = .returned v ∧ own_Q3_1A Z ax qz qt ap ar at' kp ks ct qe ql pp0 pp1 pp2 pp3 ss0 ss1 ss2 ss3 h0 n0 v U'.heap L ∧ FrameEnd U o U' L ({ frames := 0, cells := 0, slots := 0, locals := 0 } : Room).cells ({ frames := 0, cells := 0, slots := 0, locals := 0 } : Room).slots) := by
  refine MetFree.of_bodySF (plainFor_of_name own_pn3) hisR ?_
  intro p e s m args below meth c s₁ Bd hml0 hP hK
  obtain ⟨rfl, hZ, hh⟩ := hP
  have hx := Bd.exec
  have hby := Bd.bytes
  have hml : c.maxLocals = 5 := hml0
  have hown : s.vm.findClass "com/example/coho/coho/eventlog/SegmentIndex" = some m.cls := findClass_of_methodNamed Bd.named
  have hnm := (name_of_methodNamed Bd.named Bd.method).1
  have X0 : Stand p l e ({ frames := 0, cells := 0, slots := 0, locals := 0 } : Room) s m #[(.ref ax), (.long qz), (.long qt)] below meth c s₁ [] 0 0 := Stand.of_body Bd
  have e0 : s₁.heap = h0 := by rw [← hh, Bd.state]; rfl
  have N0 := Fr.nil n0
  refine own_pre (A := (s₁.setTop (mkF m 0 #[.val (.ref ax), .val (.long qz), .second, .val (.long qt), .second] []))) (fun t k => castTop (own_ef3 m ax qz qt) k) ?_
  obtain ⟨Ea_, Fplaces_, Fstarts_, Ftimes_, Fentries_, Fcount_, Fend_, FlastTime_, Vp_, Vs_, Vt_, n0_, n1_, n2_, n3_, n4_, n5_, gg0_, gg1_, gg2_, gg3_⟩ := B
  refine own_pre (A := (s₁.setTop (mkF m 1 #[.val (.ref ax), .val (.long qz), .second, .val (.long qt), .second] [(.ref ax)]))) ?_ ?_
  · intro t k
    show Steps p.tables e below (s₁.setTop (mkF m 0 #[.val (.ref ax), .val (.long qz), .second, .val (.long qt), .second] [])) _
    refine XS.aloadN X0.here hx rfl (hb hby d3_0) rfl rfl ?_
    exact k
  obtain ⟨T43, X43, e43, st43⟩ := getF X0 hx hZ hown (host := "") (Or.inl (own_w hw 29 rfl)) Via.refl e0 Fentries_ (g := (mkF m 1 #[.val (.ref ax), .val (.long qz), .second, .val (.long qt), .second] [(.ref ax)])) rfl rfl (hb hby d3_1)
  refine own_pre (fun t k => st43 t k) ?_
  refine own_pre (A := (T43.setTop (mkF m 8 #[.val (.ref ax), .val (.long qz), .second, .val (.long qt), .second] [(.ref ax)]))) ?_ ?_
  · intro t k
    show Steps p.tables e below (T43.setTop (mkF m 4 #[.val (.ref ax), .val (.long qz), .second, .val (.long qt), .second] [(.int (1 : Int32))])) _
    refine XS.ifNo X43.here hx rfl (hb hby d3_4) rfl ((if0 _ _).trans (feq (by decide : ¬ ((1 : Int32) = (0 : Int32)))).1) ?_
    refine XS.aloadN X43.here hx rfl (hb hby d3_7) rfl rfl ?_
    exact k
  obtain ⟨T44, X44, e44, st44⟩ := getF X43 hx hZ hown (host := "") (Or.inl (own_w hw 22 rfl)) Via.refl e43 Fend_ (g := (mkF m 8 #[.val (.ref ax), .val (.long qz), .second, .val (.long qt), .second] [(.ref ax)])) rfl rfl (hb hby d3_8)
  refine own_pre (fun t k => st44 t k) ?_
  refine own_pre (A := (T44.setTop (mkF m 12 #[.val (.ref ax), .val (.long qz), .second, .val (.long qt), .second] [(.ref ax), (.long qe)]))) ?_ ?_
  · intro t k
    show Steps p.tables e below (T44.setTop (mkF m 11 #[.val (.ref ax), .val (.long qz), .second, .val (.long qt), .second] [(.long qe)])) _
    refine XS.aloadN X44.here hx rfl (hb hby d3_11) rfl rfl ?_
    exact k
  obtain ⟨T45, X45, e45, st45⟩ := getF X44 hx hZ hown (host := "") (Or.inl (own_w hw 15 rfl)) Via.refl e44 Fstarts_ (g := (mkF m 12 #[.val (.ref ax), .val (.long qz), .second, .val (.long qt), .second] [(.ref ax), (.long qe)])) rfl rfl (hb hby d3_12)
  refine own_pre (fun t k => st45 t k) ?_
  refine own_pre (A := (T45.setTop (mkF m 16 #[.val (.ref ax), .val (.long qz), .second, .val (.long qt), .second] [(.ref ax), (.ref ar), (.long qe)]))) ?_ ?_
  · intro t k
    show Steps p.tables e below (T45.setTop (mkF m 15 #[.val (.ref ax), .val (.long qz), .second, .val (.long qt), .second] [(.ref ar), (.long qe)])) _
    refine XS.aloadN X45.here hx rfl (hb hby d3_15) rfl rfl ?_
    exact k
  obtain ⟨T46, X46, e46, st46⟩ := getF X45 hx hZ hown (host := "") (Or.inl (own_w hw 29 rfl)) Via.refl e45 Fentries_ (g := (mkF m 16 #[.val (.ref ax), .val (.long qz), .second, .val (.long qt), .second] [(.ref ax), (.ref ar), (.long qe)])) rfl rfl (hb hby d3_16)
  refine own_pre (fun t k => st46 t k) ?_
  refine own_pre (A := (T46.setTop (mkF m 100 #[.val (.ref ax), .val (.long qz), .second, .val (.long qt), .second] [(.ref ax), (.ref ax)]))) ?_ ?_
  · intro t k
    show Steps p.tables e below (T46.setTop (mkF m 19 #[.val (.ref ax), .val (.long qz), .second, .val (.long qt), .second] [(.int (1 : Int32)), (.ref ar), (.long qe)])) _
    refine XS.iconst X46.here hx rfl (hb hby d3_19) ?_
    refine XS.isub X46.here hx rfl (hb hby d3_20) rfl ?_
    show Steps p.tables e below (T46.setTop (mkF m 21 #[.val (.ref ax), .val (.long qz), .second, .val (.long qt), .second] [(.int ((1 : Int32) - (1 : Int32))), (.ref ar), (.long qe)])) _
    rw [show ((1 : Int32) - (1 : Int32)) = (0 : Int32) from by decide]
    show Steps p.tables e below (T46.setTop (mkF m 21 #[.val (.ref ax), .val (.long qz), .second, .val (.long qt), .second] [(.int (0 : Int32)), (.ref ar), (.long qe)])) _
    obtain ⟨cl47, Ar47, q47, S47, N47, H47, G47⟩ := Vs_
    have hin47 : ¬ ((0 : Int32) < 0 ∨ cl47.slots.size ≤ ((0 : Int32)).toNatClampNeg) := inb_of S47 ⟨by decide, by decide⟩
    refine X46.laload hx (j := (0 : Int32)) (v := (.long ss0)) (by rw [e46]; exact Ar47.1) (State.isArrayOf_alike hZ.alike Ar47.2.1) Ar47.2.2 hin47 (H47.at hin47 rfl) (g := (mkF m 21 #[.val (.ref ax), .val (.long qz), .second, .val (.long qt), .second] [(.int (0 : Int32)), (.ref ar), (.long qe)])) rfl rfl (hb hby d3_21) _ ?_
    show Steps p.tables e below (T46.setTop (mkF m 22 #[.val (.ref ax), .val (.long qz), .second, .val (.long qt), .second] [(.long ss0), (.long qe)])) _
    refine XS.lsub X46.here hx rfl (hb hby d3_22) rfl ?_
    show Steps p.tables e below (T46.setTop (mkF m 23 #[.val (.ref ax), .val (.long qz), .second, .val (.long qt), .second] [(.long (qe - ss0))])) _
    refine X46.ldc2Long hx hown (mvT hZ (own_w hw 39 rfl)) (g := (mkF m 23 #[.val (.ref ax), .val (.long qz), .second, .val (.long qt), .second] [(.long (qe - ss0))])) rfl (hb hby d3_23) _ ?_
    show Steps p.tables e below (T46.setTop (mkF m 26 #[.val (.ref ax), .val (.long qz), .second, .val (.long qt), .second] [(.long (65536 : Int64)), (.long (qe - ss0))])) _
    refine XS.lcmp X46.here hx rfl (hb hby d3_26) rfl ?_
    show Steps p.tables e below (T46.setTop (mkF m 27 #[.val (.ref ax), .val (.long qz), .second, .val (.long qt), .second] [(.int (lcmpW (qe - ss0) (65536 : Int64)))])) _
    refine XS.ifYes X46.here hx rfl (pc0 := 27) (pc' := 98) rfl (hb hby d3_27) rfl ((if0 _ _).trans (tlt ((lw_lt (qe - ss0) (65536 : Int64)).mpr hs)).1) (by decide) (by decide) ?_
    refine XS.aloadN X46.here hx rfl (hb hby d3_98) rfl rfl ?_
    refine XS.dup X46.here hx rfl (hb hby d3_99) rfl rfl ?_
    exact k
  obtain ⟨T48, X48, e48, st48⟩ := getF X46 hx hZ hown (host := "") (Or.inl (own_w hw 22 rfl)) Via.refl e46 Fend_ (g := (mkF m 100 #[.val (.ref ax), .val (.long qz), .second, .val (.long qt), .second] [(.ref ax), (.ref ax)])) rfl rfl (hb hby d3_100)
  refine own_pre (fun t k => st48 t k) ?_
  refine own_pre (A := (T48.setTop (mkF m 105 #[.val (.ref ax), .val (.long qz), .second, .val (.long qt), .second] [(.long (qe + qz)), (.ref ax)]))) ?_ ?_
  · intro t k
    show Steps p.tables e below (T48.setTop (mkF m 103 #[.val (.ref ax), .val (.long qz), .second, .val (.long qt), .second] [(.long qe), (.ref ax)])) _
    refine XS.lloadN X48.here hx rfl (hb hby d3_103) rfl ?_
    refine XS.ladd X48.here hx rfl (hb hby d3_104) rfl ?_
    exact k
  obtain ⟨T49, h49, X49, e49, W49, st49⟩ := putF X48 hx hZ hown (host := "") (Or.inl (own_w hw 22 rfl)) Via.refl e48 Fend_ Ea_ (Or.inl (own_w hw 23 rfl)) (own_w hw 3 rfl) (ty := .long) (by decide) rfl rfl (g := (mkF m 105 #[.val (.ref ax), .val (.long qz), .second, .val (.long qt), .second] [(.long (qe + qz)), (.ref ax)])) rfl rfl (hb hby d3_105)
  have Ea__49 := Ea_.wr W49
  have Fplaces__49 := Fplaces_.other W49 (Or.inr (slot_ne (Or.inl (own_w hw 13 rfl)) (Or.inl (own_w hw 23 rfl)) (by decide) (t := (.array .int)) (t' := .long) (by decide) (by decide)))
  have Fstarts__49 := Fstarts_.other W49 (Or.inr (slot_ne (Or.inl (own_w hw 16 rfl)) (Or.inl (own_w hw 23 rfl)) (by decide) (t := (.array .long)) (t' := .long) (by decide) (by decide)))
  have Ftimes__49 := Ftimes_.other W49 (Or.inr (slot_ne (Or.inl (own_w hw 18 rfl)) (Or.inl (own_w hw 23 rfl)) (by decide) (t := (.array .long)) (t' := .long) (by decide) (by decide)))
  have Fentries__49 := Fentries_.other W49 (Or.inr (slot_ne (Or.inl (own_w hw 30 rfl)) (Or.inl (own_w hw 23 rfl)) (by decide) (t := .int) (t' := .long) (by decide) (by decide)))
  have Fcount__49 := Fcount_.other W49 (Or.inr (slot_ne (Or.inl (own_w hw 32 rfl)) (Or.inl (own_w hw 23 rfl)) (by decide) (t := .int) (t' := .long) (by decide) (by decide)))
  have FlastTime__49 := FlastTime_.other W49 (Or.inr (slot_ne (Or.inl (own_w hw 21 rfl)) (Or.inl (own_w hw 23 rfl)) (by decide) (t := .long) (t' := .long) (by decide) (by decide)))
  have Vp__49 := Vp_.other W49 n0_.symm
  have Vs__49 := Vs_.other W49 n1_.symm
  have Vt__49 := Vt_.other W49 n2_.symm
  have Kc49 : Keep h0 h49 [ax, ap, ar, at'] := (Keep.refl h0 [ax, ap, ar, at']).wr W49 (Or.inl (List.mem_of_getElem? (i := 0) rfl))
  have N49 := Fr.snoc X49 N0 gg0_
  have Fw49 := Fend_.same W49
  refine own_pre (fun t k => st49 t k) ?_
  refine own_pre (A := (T49.setTop (mkF m 110 #[.val (.ref ax), .val (.long qz), .second, .val (.long qt), .second] [(.long qt), (.ref ax)]))) ?_ ?_
  · intro t k
    show Steps p.tables e below (T49.setTop (mkF m 108 #[.val (.ref ax), .val (.long qz), .second, .val (.long qt), .second] [])) _
    refine XS.aloadN X49.here hx rfl (hb hby d3_108) rfl rfl ?_
    refine XS.lloadN X49.here hx rfl (hb hby d3_109) rfl ?_
    exact k
  obtain ⟨T50, h50, X50, e50, W50, st50⟩ := putF X49 hx hZ hown (host := "") (Or.inl (own_w hw 20 rfl)) Via.refl e49 FlastTime__49 Ea__49 (Or.inl (own_w hw 21 rfl)) (own_w hw 3 rfl) (ty := .long) (by decide) rfl rfl (g := (mkF m 110 #[.val (.ref ax), .val (.long qz), .second, .val (.long qt), .second] [(.long qt), (.ref ax)])) rfl rfl (hb hby d3_110)
  have Ea__50 := Ea__49.wr W50
  have Fplaces__50 := Fplaces__49.other W50 (Or.inr (slot_ne (Or.inl (own_w hw 13 rfl)) (Or.inl (own_w hw 21 rfl)) (by decide) (t := (.array .int)) (t' := .long) (by decide) (by decide)))
  have Fstarts__50 := Fstarts__49.other W50 (Or.inr (slot_ne (Or.inl (own_w hw 16 rfl)) (Or.inl (own_w hw 21 rfl)) (by decide) (t := (.array .long)) (t' := .long) (by decide) (by decide)))
  have Ftimes__50 := Ftimes__49.other W50 (Or.inr (slot_ne (Or.inl (own_w hw 18 rfl)) (Or.inl (own_w hw 21 rfl)) (by decide) (t := (.array .long)) (t' := .long) (by decide) (by decide)))
  have Fentries__50 := Fentries__49.other W50 (Or.inr (slot_ne (Or.inl (own_w hw 30 rfl)) (Or.inl (own_w hw 21 rfl)) (by decide) (t := .int) (t' := .long) (by decide) (by decide)))
  have Fcount__50 := Fcount__49.other W50 (Or.inr (slot_ne (Or.inl (own_w hw 32 rfl)) (Or.inl (own_w hw 21 rfl)) (by decide) (t := .int) (t' := .long) (by decide) (by decide)))
  have Fw49_50 := Fw49.other W50 (Or.inr (slot_ne (Or.inl (own_w hw 23 rfl)) (Or.inl (own_w hw 21 rfl)) (by decide) (t := .long) (t' := .long) (by decide) (by decide)))
  have Vp__50 := Vp__49.other W50 n0_.symm
  have Vs__50 := Vs__49.other W50 n1_.symm
  have Vt__50 := Vt__49.other W50 n2_.symm
  have Kc50 : Keep h0 h50 [ax, ap, ar, at'] := Kc49.wr W50 (Or.inl (List.mem_of_getElem? (i := 0) rfl))
  have N50 := Fr.snoc X50 N49 gg0_
  have Fw50 := FlastTime__49.same W50
  refine own_pre (fun t k => st50 t k) ?_
  refine own_pre (A := (T50.setTop (mkF m 115 #[.val (.ref ax), .val (.long qz), .second, .val (.long qt), .second] [(.ref ax), (.ref ax)]))) ?_ ?_
  · intro t k
    show Steps p.tables e below (T50.setTop (mkF m 113 #[.val (.ref ax), .val (.long qz), .second, .val (.long qt), .second] [])) _
    refine XS.aloadN X50.here hx rfl (hb hby d3_113) rfl rfl ?_
    refine XS.dup X50.here hx rfl (hb hby d3_114) rfl rfl ?_
    exact k
  obtain ⟨T51, X51, e51, st51⟩ := getF X50 hx hZ hown (host := "") (Or.inl (own_w hw 31 rfl)) Via.refl e50 Fcount__50 (g := (mkF m 115 #[.val (.ref ax), .val (.long qz), .second, .val (.long qt), .second] [(.ref ax), (.ref ax)])) rfl rfl (hb hby d3_115)
  refine own_pre (fun t k => st51 t k) ?_
  refine own_pre (A := (T51.setTop (mkF m 120 #[.val (.ref ax), .val (.long qz), .second, .val (.long qt), .second] [(.int (ct + (1 : Int32))), (.ref ax)]))) ?_ ?_
  · intro t k
    show Steps p.tables e below (T51.setTop (mkF m 118 #[.val (.ref ax), .val (.long qz), .second, .val (.long qt), .second] [(.int ct), (.ref ax)])) _
    refine XS.iconst X51.here hx rfl (hb hby d3_118) ?_
    refine XS.iadd X51.here hx rfl (hb hby d3_119) rfl ?_
    exact k
  obtain ⟨T52, h52, X52, e52, W52, st52⟩ := putF X51 hx hZ hown (host := "") (Or.inl (own_w hw 31 rfl)) Via.refl e51 Fcount__50 Ea__50 (Or.inl (own_w hw 32 rfl)) (own_w hw 3 rfl) (ty := .int) (by decide) rfl rfl (g := (mkF m 120 #[.val (.ref ax), .val (.long qz), .second, .val (.long qt), .second] [(.int (ct + (1 : Int32))), (.ref ax)])) rfl rfl (hb hby d3_120)
  have Ea__52 := Ea__50.wr W52
  have Fplaces__52 := Fplaces__50.other W52 (Or.inr (slot_ne (Or.inl (own_w hw 13 rfl)) (Or.inl (own_w hw 32 rfl)) (by decide) (t := (.array .int)) (t' := .int) (by decide) (by decide)))
  have Fstarts__52 := Fstarts__50.other W52 (Or.inr (slot_ne (Or.inl (own_w hw 16 rfl)) (Or.inl (own_w hw 32 rfl)) (by decide) (t := (.array .long)) (t' := .int) (by decide) (by decide)))
  have Ftimes__52 := Ftimes__50.other W52 (Or.inr (slot_ne (Or.inl (own_w hw 18 rfl)) (Or.inl (own_w hw 32 rfl)) (by decide) (t := (.array .long)) (t' := .int) (by decide) (by decide)))
  have Fentries__52 := Fentries__50.other W52 (Or.inr (slot_ne (Or.inl (own_w hw 30 rfl)) (Or.inl (own_w hw 32 rfl)) (by decide) (t := .int) (t' := .int) (by decide) (by decide)))
  have Fw49_52 := Fw49_50.other W52 (Or.inr (slot_ne (Or.inl (own_w hw 23 rfl)) (Or.inl (own_w hw 32 rfl)) (by decide) (t := .long) (t' := .int) (by decide) (by decide)))
  have Fw50_52 := Fw50.other W52 (Or.inr (slot_ne (Or.inl (own_w hw 21 rfl)) (Or.inl (own_w hw 32 rfl)) (by decide) (t := .long) (t' := .int) (by decide) (by decide)))
  have Vp__52 := Vp__50.other W52 n0_.symm
  have Vs__52 := Vs__50.other W52 n1_.symm
  have Vt__52 := Vt__50.other W52 n2_.symm
  have Kc52 : Keep h0 h52 [ax, ap, ar, at'] := Kc50.wr W52 (Or.inl (List.mem_of_getElem? (i := 0) rfl))
  have N52 := Fr.snoc X52 N50 gg0_
  have Fw52 := Fcount__50.same W52
  refine own_pre (fun t k => st52 t k) ?_
  obtain ⟨fs, hr, hrun, hended, hW, hsame⟩ := X52.leave (hlocks := BodyLoose.notSynchronized Bd) (v := none) (fun _ => rfl)
  refine ⟨_, _, X52.returnOut hx Bd.returns (hb hby d3_123) hr, hrun, hended, _, _, rfl, ?_, ⟨_, rfl⟩, hW, hsame.mono (by decide) (by decide)⟩
  show own_Q3_1A Z ax qz qt ap ar at' kp ks ct qe ql pp0 pp1 pp2 pp3 ss0 ss1 ss2 ss3 h0 n0 _ T52.heap _
  rw [e52]
  exact ⟨rfl, N52, Kc52, ⟨Ea__52, Fplaces__52, Fstarts__52, Ftimes__52, Fentries__52, Fw52, Fw49_52, Fw50_52, Vp__52, Vs__52, Vt__52, n0_, n1_, n2_, n3_, n4_, n5_, gg0_, gg1_, gg2_, gg3_⟩⟩
def own_Q3_1B (Z : State) (ax : Addr) (qz : Int64) (qt : Int64) (ap : Addr) (ar : Addr) (at' : Addr) (kp : ClassId) (ks : ClassId) (ct : Int32) (qe : Int64) (ql : Int64) (pp0 : Int32) (pp1 : Int32) (pp2 : Int32) (pp3 : Int32) (ss0 : Int64) (ss1 : Int64) (ss2 : Int64) (ss3 : Int64) (h0 : Heap) (n0 : Nat) (v : Option Value) (h : Heap) (L : List Loc) : Prop := v = none ∧ Fr n0 L ∧ Keep h0 h [ax, ap, ar, at'] ∧ own_SI Z h n0 ax ap ar at' kp ks (2 : Int32) (ct + (1 : Int32)) (qe + qz) qt pp0 ct pp2 pp3 ss0 qe ss2 ss3
set_option maxRecDepth 65536 in
set_option maxHeartbeats 40000000 in
theorem rm3_1B (l : Launch) (Z : State) (a0 : Array Value) (hw : ∀ d ∈ tables_1, d.before a0 Z = true) (ws : List Jvm.Cond) (ax : Addr) (qz : Int64) (qt : Int64) (ap : Addr) (ar : Addr) (at' : Addr) (kp : ClassId) (ks : ClassId) (ct : Int32) (qe : Int64) (ql : Int64) (pp0 : Int32) (pp1 : Int32) (pp2 : Int32) (pp3 : Int32) (ss0 : Int64) (ss1 : Int64) (ss2 : Int64) (ss3 : Int64) (h0 : Heap) (n0 : Nat) (Z0 : n0 ≤ h0.size) (B : own_SI Z h0 n0 ax ap ar at' kp ks (1 : Int32) ct qe ql pp0 pp1 pp2 pp3 ss0 ss1 ss2 ss3) (hs : ¬ (qe - ss0) < (65536 : Int64)) :
    MetFree l (⟨"com/example/coho/coho/eventlog/SegmentIndex", "add", "(JJ)V"⟩ : MethodName) (head1 (Jvm.Cond.code (⟨"com/example/coho/coho/eventlog/SegmentIndex", "add", "(JJ)V"⟩ : MethodName) prog_34_method_2_code 5 none :: ws) ({ frames := 0, cells := 0, slots := 0, locals := 0 } : Room)) (fun a U => a = #[(.ref ax), (.long qz), (.long qt)] ∧ Z.Warmed39 U.vm ∧ U.heap = h0) (fun _ _ _ _ _ => True) (fun _ U o U' => ∃ v L, o = .returned v ∧ own_Q3_1B Z ax qz qt ap ar at' kp ks ct qe ql pp0 pp1 pp2 pp3 ss0 ss1 ss2 ss3 h0 n0 v U'.heap L ∧ FrameEnd U o U' L ({ frames := 0, cells := 0, slots := 0, locals := 0 } : Room).cells ({ frames := 0, cells := 0, slots := 0, locals := 0 } : Room).slots) := by
  refine MetFree.of_bodySF (plainFor_of_name own_pn3) hisR ?_
  intro p e s m args below meth c s₁ Bd hml0 hP hK
  obtain ⟨rfl, hZ, hh⟩ := hP
  have hx := Bd.exec
  have hby := Bd.bytes
  have hml : c.maxLocals = 5 := hml0
  have hown : s.vm.findClass "com/example/coho/coho/eventlog/SegmentIndex" = some m.cls := findClass_of_methodNamed Bd.named
  have hnm := (name_of_methodNamed Bd.named Bd.method).1
  have X0 : Stand p l e ({ frames := 0, cells := 0, slots := 0, locals := 0 } : Room) s m #[(.ref ax), (.long qz), (.long qt)] below meth c s₁ [] 0 0 := Stand.of_body Bd
  have e0 : s₁.heap = h0 := by rw [← hh, Bd.state]; rfl
  have N0 := Fr.nil n0
  refine own_pre (A := (s₁.setTop (mkF m 0 #[.val (.ref ax), .val (.long qz), .second, .val (.long qt), .second] []))) (fun t k => castTop (own_ef3 m ax qz qt) k) ?_
  obtain ⟨Ea_, Fplaces_, Fstarts_, Ftimes_, Fentries_, Fcount_, Fend_, FlastTime_, Vp_, Vs_, Vt_, n0_, n1_, n2_, n3_, n4_, n5_, gg0_, gg1_, gg2_, gg3_⟩ := B
  refine own_pre (A := (s₁.setTop (mkF m 1 #[.val (.ref ax), .val (.long qz), .second, .val (.long qt), .second] [(.ref ax)]))) ?_ ?_
  · intro t k
    show Steps p.tables e below (s₁.setTop (mkF m 0 #[.val (.ref ax), .val (.long qz), .second, .val (.long qt), .second] [])) _
    refine XS.aloadN X0.here hx rfl (hb hby d3_0) rfl rfl ?_
    exact k
  obtain ⟨T55, X55, e55, st55⟩ := getF X0 hx hZ hown (host := "") (Or.inl (own_w hw 29 rfl)) Via.refl e0 Fentries_ (g := (mkF m 1 #[.val (.ref ax), .val (.long qz), .second, .val (.long qt), .second] [(.ref ax)])) rfl rfl (hb hby d3_1)
  refine own_pre (fun t k => st55 t k) ?_
  refine own_pre (A := (T55.setTop (mkF m 8 #[.val (.ref ax), .val (.long qz), .second, .val (.long qt), .second] [(.ref ax)]))) ?_ ?_
  · intro t k
    show Steps p.tables e below (T55.setTop (mkF m 4 #[.val (.ref ax), .val (.long qz), .second, .val (.long qt), .second] [(.int (1 : Int32))])) _
    refine XS.ifNo X55.here hx rfl (hb hby d3_4) rfl ((if0 _ _).trans (feq (by decide : ¬ ((1 : Int32) = (0 : Int32)))).1) ?_
    refine XS.aloadN X55.here hx rfl (hb hby d3_7) rfl rfl ?_
    exact k
  obtain ⟨T56, X56, e56, st56⟩ := getF X55 hx hZ hown (host := "") (Or.inl (own_w hw 22 rfl)) Via.refl e55 Fend_ (g := (mkF m 8 #[.val (.ref ax), .val (.long qz), .second, .val (.long qt), .second] [(.ref ax)])) rfl rfl (hb hby d3_8)
  refine own_pre (fun t k => st56 t k) ?_
  refine own_pre (A := (T56.setTop (mkF m 12 #[.val (.ref ax), .val (.long qz), .second, .val (.long qt), .second] [(.ref ax), (.long qe)]))) ?_ ?_
  · intro t k
    show Steps p.tables e below (T56.setTop (mkF m 11 #[.val (.ref ax), .val (.long qz), .second, .val (.long qt), .second] [(.long qe)])) _
    refine XS.aloadN X56.here hx rfl (hb hby d3_11) rfl rfl ?_
    exact k
  obtain ⟨T57, X57, e57, st57⟩ := getF X56 hx hZ hown (host := "") (Or.inl (own_w hw 15 rfl)) Via.refl e56 Fstarts_ (g := (mkF m 12 #[.val (.ref ax), .val (.long qz), .second, .val (.long qt), .second] [(.ref ax), (.long qe)])) rfl rfl (hb hby d3_12)
  refine own_pre (fun t k => st57 t k) ?_
  refine own_pre (A := (T57.setTop (mkF m 16 #[.val (.ref ax), .val (.long qz), .second, .val (.long qt), .second] [(.ref ax), (.ref ar), (.long qe)]))) ?_ ?_
  · intro t k
    show Steps p.tables e below (T57.setTop (mkF m 15 #[.val (.ref ax), .val (.long qz), .second, .val (.long qt), .second] [(.ref ar), (.long qe)])) _
    refine XS.aloadN X57.here hx rfl (hb hby d3_15) rfl rfl ?_
    exact k
  obtain ⟨T58, X58, e58, st58⟩ := getF X57 hx hZ hown (host := "") (Or.inl (own_w hw 29 rfl)) Via.refl e57 Fentries_ (g := (mkF m 16 #[.val (.ref ax), .val (.long qz), .second, .val (.long qt), .second] [(.ref ax), (.ref ar), (.long qe)])) rfl rfl (hb hby d3_16)
  refine own_pre (fun t k => st58 t k) ?_
  refine own_pre (A := (T58.setTop (mkF m 31 #[.val (.ref ax), .val (.long qz), .second, .val (.long qt), .second] [(.ref ax)]))) ?_ ?_
  · intro t k
    show Steps p.tables e below (T58.setTop (mkF m 19 #[.val (.ref ax), .val (.long qz), .second, .val (.long qt), .second] [(.int (1 : Int32)), (.ref ar), (.long qe)])) _
    refine XS.iconst X58.here hx rfl (hb hby d3_19) ?_
    refine XS.isub X58.here hx rfl (hb hby d3_20) rfl ?_
    show Steps p.tables e below (T58.setTop (mkF m 21 #[.val (.ref ax), .val (.long qz), .second, .val (.long qt), .second] [(.int ((1 : Int32) - (1 : Int32))), (.ref ar), (.long qe)])) _
    rw [show ((1 : Int32) - (1 : Int32)) = (0 : Int32) from by decide]
    show Steps p.tables e below (T58.setTop (mkF m 21 #[.val (.ref ax), .val (.long qz), .second, .val (.long qt), .second] [(.int (0 : Int32)), (.ref ar), (.long qe)])) _
    obtain ⟨cl59, Ar59, q59, S59, N59, H59, G59⟩ := Vs_
    have hin59 : ¬ ((0 : Int32) < 0 ∨ cl59.slots.size ≤ ((0 : Int32)).toNatClampNeg) := inb_of S59 ⟨by decide, by decide⟩
    refine X58.laload hx (j := (0 : Int32)) (v := (.long ss0)) (by rw [e58]; exact Ar59.1) (State.isArrayOf_alike hZ.alike Ar59.2.1) Ar59.2.2 hin59 (H59.at hin59 rfl) (g := (mkF m 21 #[.val (.ref ax), .val (.long qz), .second, .val (.long qt), .second] [(.int (0 : Int32)), (.ref ar), (.long qe)])) rfl rfl (hb hby d3_21) _ ?_
    show Steps p.tables e below (T58.setTop (mkF m 22 #[.val (.ref ax), .val (.long qz), .second, .val (.long qt), .second] [(.long ss0), (.long qe)])) _
    refine XS.lsub X58.here hx rfl (hb hby d3_22) rfl ?_
    show Steps p.tables e below (T58.setTop (mkF m 23 #[.val (.ref ax), .val (.long qz), .second, .val (.long qt), .second] [(.long (qe - ss0))])) _
    refine X58.ldc2Long hx hown (mvT hZ (own_w hw 39 rfl)) (g := (mkF m 23 #[.val (.ref ax), .val (.long qz), .second, .val (.long qt), .second] [(.long (qe - ss0))])) rfl (hb hby d3_23) _ ?_
    show Steps p.tables e below (T58.setTop (mkF m 26 #[.val (.ref ax), .val (.long qz), .second, .val (.long qt), .second] [(.long (65536 : Int64)), (.long (qe - ss0))])) _
    refine XS.lcmp X58.here hx rfl (hb hby d3_26) rfl ?_
    refine XS.ifNo X58.here hx rfl (hb hby d3_27) rfl ((if0 _ _).trans (flt (fun q => hs ((lw_lt (qe - ss0) (65536 : Int64)).mp q))).1) ?_
    refine XS.aloadN X58.here hx rfl (hb hby d3_30) rfl rfl ?_
    exact k
  obtain ⟨T60, X60, e60, st60⟩ := getF X58 hx hZ hown (host := "") (Or.inl (own_w hw 29 rfl)) Via.refl e58 Fentries_ (g := (mkF m 31 #[.val (.ref ax), .val (.long qz), .second, .val (.long qt), .second] [(.ref ax)])) rfl rfl (hb hby d3_31)
  refine own_pre (fun t k => st60 t k) ?_
  refine own_pre (A := (T60.setTop (mkF m 35 #[.val (.ref ax), .val (.long qz), .second, .val (.long qt), .second] [(.ref ax), (.int (1 : Int32))]))) ?_ ?_
  · intro t k
    show Steps p.tables e below (T60.setTop (mkF m 34 #[.val (.ref ax), .val (.long qz), .second, .val (.long qt), .second] [(.int (1 : Int32))])) _
    refine XS.aloadN X60.here hx rfl (hb hby d3_34) rfl rfl ?_
    exact k
  obtain ⟨T61, X61, e61, st61⟩ := getF X60 hx hZ hown (host := "") (Or.inl (own_w hw 12 rfl)) Via.refl e60 Fplaces_ (g := (mkF m 35 #[.val (.ref ax), .val (.long qz), .second, .val (.long qt), .second] [(.ref ax), (.int (1 : Int32))])) rfl rfl (hb hby d3_35)
  refine own_pre (fun t k => st61 t k) ?_
  refine own_pre (A := (T61.setTop (mkF m 53 #[.val (.ref ax), .val (.long qz), .second, .val (.long qt), .second] [(.ref ax)]))) ?_ ?_
  · intro t k
    show Steps p.tables e below (T61.setTop (mkF m 38 #[.val (.ref ax), .val (.long qz), .second, .val (.long qt), .second] [(.ref ap), (.int (1 : Int32))])) _
    obtain ⟨cl62, Ar62, -, S62, N62, -, -⟩ := Vp_
    refine X61.arraylength hx (by rw [e61]; exact Ar62.1) (State.isArrayOf_alike hZ.alike Ar62.2.1) (g := (mkF m 38 #[.val (.ref ax), .val (.long qz), .second, .val (.long qt), .second] [(.ref ap), (.int (1 : Int32))])) rfl rfl (hb hby d3_38) _ ?_
    rw [len_of S62 N62]
    show Steps p.tables e below (T61.setTop (mkF m 39 #[.val (.ref ax), .val (.long qz), .second, .val (.long qt), .second] [(.int (4 : Int32)), (.int (1 : Int32))])) _
    refine XS.icmpYes X61.here hx rfl (pc0 := 39) (pc' := 52) rfl (hb hby d3_39) rfl (feq (by decide : ¬ ((1 : Int32) = (4 : Int32)))).2 (by decide) (by decide) ?_
    refine XS.aloadN X61.here hx rfl (hb hby d3_52) rfl rfl ?_
    exact k
  obtain ⟨T63, X63, e63, st63⟩ := getF X61 hx hZ hown (host := "") (Or.inl (own_w hw 12 rfl)) Via.refl e61 Fplaces_ (g := (mkF m 53 #[.val (.ref ax), .val (.long qz), .second, .val (.long qt), .second] [(.ref ax)])) rfl rfl (hb hby d3_53)
  refine own_pre (fun t k => st63 t k) ?_
  refine own_pre (A := (T63.setTop (mkF m 57 #[.val (.ref ax), .val (.long qz), .second, .val (.long qt), .second] [(.ref ax), (.ref ap)]))) ?_ ?_
  · intro t k
    show Steps p.tables e below (T63.setTop (mkF m 56 #[.val (.ref ax), .val (.long qz), .second, .val (.long qt), .second] [(.ref ap)])) _
    refine XS.aloadN X63.here hx rfl (hb hby d3_56) rfl rfl ?_
    exact k
  obtain ⟨T64, X64, e64, st64⟩ := getF X63 hx hZ hown (host := "") (Or.inl (own_w hw 29 rfl)) Via.refl e63 Fentries_ (g := (mkF m 57 #[.val (.ref ax), .val (.long qz), .second, .val (.long qt), .second] [(.ref ax), (.ref ap)])) rfl rfl (hb hby d3_57)
  refine own_pre (fun t k => st64 t k) ?_
  refine own_pre (A := (T64.setTop (mkF m 61 #[.val (.ref ax), .val (.long qz), .second, .val (.long qt), .second] [(.ref ax), (.int (1 : Int32)), (.ref ap)]))) ?_ ?_
  · intro t k
    show Steps p.tables e below (T64.setTop (mkF m 60 #[.val (.ref ax), .val (.long qz), .second, .val (.long qt), .second] [(.int (1 : Int32)), (.ref ap)])) _
    refine XS.aloadN X64.here hx rfl (hb hby d3_60) rfl rfl ?_
    exact k
  obtain ⟨T65, X65, e65, st65⟩ := getF X64 hx hZ hown (host := "") (Or.inl (own_w hw 31 rfl)) Via.refl e64 Fcount_ (g := (mkF m 61 #[.val (.ref ax), .val (.long qz), .second, .val (.long qt), .second] [(.ref ax), (.int (1 : Int32)), (.ref ap)])) rfl rfl (hb hby d3_61)
  refine own_pre (fun t k => st65 t k) ?_
  obtain ⟨cl66, Ar66, q66, S66, N66, H66, G66⟩ := Vp_
  have hin66 : ¬ ((1 : Int32) < 0 ∨ cl66.slots.size ≤ ((1 : Int32)).toNatClampNeg) := inb_of S66 ⟨by decide, by decide⟩
  obtain ⟨T66, h66, X66, e66, W66, st66⟩ := stI X65 hx hZ e65 Ar66 (j := (1 : Int32)) hin66 (g := (mkF m 64 #[.val (.ref ax), .val (.long qz), .second, .val (.long qt), .second] [(.int ct), (.int (1 : Int32)), (.ref ap)])) rfl rfl (hb hby d3_64)
  have V66 : Arv Z h66 ap kp .int (4 : Int32) [(.int pp0), (.int ct), (.int pp2), (.int pp3)] (.int (0 : Int32)) := Arv.set Ar66 q66 S66 N66 H66 G66 rfl W66 1 rfl (Nat.le_of_ble_eq_true rfl)
  have Ea__66 := Ea_.wr W66
  have Fplaces__66 := Fplaces_.other W66 (Or.inl n0_)
  have Fstarts__66 := Fstarts_.other W66 (Or.inl n0_)
  have Ftimes__66 := Ftimes_.other W66 (Or.inl n0_)
  have Fentries__66 := Fentries_.other W66 (Or.inl n0_)
  have Fcount__66 := Fcount_.other W66 (Or.inl n0_)
  have Fend__66 := Fend_.other W66 (Or.inl n0_)
  have FlastTime__66 := FlastTime_.other W66 (Or.inl n0_)
  have Vs__66 := Vs_.other W66 n3_.symm
  have Vt__66 := Vt_.other W66 n4_.symm
  have Kc66 : Keep h0 h66 [ax, ap, ar, at'] := (Keep.refl h0 [ax, ap, ar, at']).wr W66 (Or.inl (List.mem_of_getElem? (i := 1) rfl))
  have N66 := Fr.snoc X66 N0 gg1_
  refine own_pre (fun t k => st66 t k) ?_
  refine own_pre (A := (T66.setTop (mkF m 66 #[.val (.ref ax), .val (.long qz), .second, .val (.long qt), .second] [(.ref ax)]))) ?_ ?_
  · intro t k
    show Steps p.tables e below (T66.setTop (mkF m 65 #[.val (.ref ax), .val (.long qz), .second, .val (.long qt), .second] [])) _
    refine XS.aloadN X66.here hx rfl (hb hby d3_65) rfl rfl ?_
    exact k
  obtain ⟨T67, X67, e67, st67⟩ := getF X66 hx hZ hown (host := "") (Or.inl (own_w hw 15 rfl)) Via.refl e66 Fstarts__66 (g := (mkF m 66 #[.val (.ref ax), .val (.long qz), .second, .val (.long qt), .second] [(.ref ax)])) rfl rfl (hb hby d3_66)
  refine own_pre (fun t k => st67 t k) ?_
  refine own_pre (A := (T67.setTop (mkF m 70 #[.val (.ref ax), .val (.long qz), .second, .val (.long qt), .second] [(.ref ax), (.ref ar)]))) ?_ ?_
  · intro t k
    show Steps p.tables e below (T67.setTop (mkF m 69 #[.val (.ref ax), .val (.long qz), .second, .val (.long qt), .second] [(.ref ar)])) _
    refine XS.aloadN X67.here hx rfl (hb hby d3_69) rfl rfl ?_
    exact k
  obtain ⟨T68, X68, e68, st68⟩ := getF X67 hx hZ hown (host := "") (Or.inl (own_w hw 29 rfl)) Via.refl e67 Fentries__66 (g := (mkF m 70 #[.val (.ref ax), .val (.long qz), .second, .val (.long qt), .second] [(.ref ax), (.ref ar)])) rfl rfl (hb hby d3_70)
  refine own_pre (fun t k => st68 t k) ?_
  refine own_pre (A := (T68.setTop (mkF m 74 #[.val (.ref ax), .val (.long qz), .second, .val (.long qt), .second] [(.ref ax), (.int (1 : Int32)), (.ref ar)]))) ?_ ?_
  · intro t k
    show Steps p.tables e below (T68.setTop (mkF m 73 #[.val (.ref ax), .val (.long qz), .second, .val (.long qt), .second] [(.int (1 : Int32)), (.ref ar)])) _
    refine XS.aloadN X68.here hx rfl (hb hby d3_73) rfl rfl ?_
    exact k
  obtain ⟨T69, X69, e69, st69⟩ := getF X68 hx hZ hown (host := "") (Or.inl (own_w hw 22 rfl)) Via.refl e68 Fend__66 (g := (mkF m 74 #[.val (.ref ax), .val (.long qz), .second, .val (.long qt), .second] [(.ref ax), (.int (1 : Int32)), (.ref ar)])) rfl rfl (hb hby d3_74)
  refine own_pre (fun t k => st69 t k) ?_
  obtain ⟨cl70, Ar70, q70, S70, N70, H70, G70⟩ := Vs__66
  have hin70 : ¬ ((1 : Int32) < 0 ∨ cl70.slots.size ≤ ((1 : Int32)).toNatClampNeg) := inb_of S70 ⟨by decide, by decide⟩
  obtain ⟨T70, h70, X70, e70, W70, st70⟩ := stJ X69 hx hZ e69 Ar70 (j := (1 : Int32)) hin70 (g := (mkF m 77 #[.val (.ref ax), .val (.long qz), .second, .val (.long qt), .second] [(.long qe), (.int (1 : Int32)), (.ref ar)])) rfl rfl (hb hby d3_77)
  have V70 : Arv Z h70 ar ks .long (4 : Int32) [(.long ss0), (.long qe), (.long ss2), (.long ss3)] (.long (0 : Int64)) := Arv.set Ar70 q70 S70 N70 H70 G70 rfl W70 1 rfl (Nat.le_of_ble_eq_true rfl)
  have Ea__70 := Ea__66.wr W70
  have Fplaces__70 := Fplaces__66.other W70 (Or.inl n1_)
  have Fstarts__70 := Fstarts__66.other W70 (Or.inl n1_)
  have Ftimes__70 := Ftimes__66.other W70 (Or.inl n1_)
  have Fentries__70 := Fentries__66.other W70 (Or.inl n1_)
  have Fcount__70 := Fcount__66.other W70 (Or.inl n1_)
  have Fend__70 := Fend__66.other W70 (Or.inl n1_)
  have FlastTime__70 := FlastTime__66.other W70 (Or.inl n1_)
  have V66_70 := V66.other W70 n3_
  have Vt__70 := Vt__66.other W70 n5_.symm
  have Kc70 : Keep h0 h70 [ax, ap, ar, at'] := Kc66.wr W70 (Or.inl (List.mem_of_getElem? (i := 2) rfl))
  have N70 := Fr.snoc X70 N66 gg2_
  refine own_pre (fun t k => st70 t k) ?_
  refine own_pre (A := (T70.setTop (mkF m 79 #[.val (.ref ax), .val (.long qz), .second, .val (.long qt), .second] [(.ref ax)]))) ?_ ?_
  · intro t k
    show Steps p.tables e below (T70.setTop (mkF m 78 #[.val (.ref ax), .val (.long qz), .second, .val (.long qt), .second] [])) _
    refine XS.aloadN X70.here hx rfl (hb hby d3_78) rfl rfl ?_
    exact k
  obtain ⟨T71, X71, e71, st71⟩ := getF X70 hx hZ hown (host := "") (Or.inl (own_w hw 17 rfl)) Via.refl e70 Ftimes__70 (g := (mkF m 79 #[.val (.ref ax), .val (.long qz), .second, .val (.long qt), .second] [(.ref ax)])) rfl rfl (hb hby d3_79)
  refine own_pre (fun t k => st71 t k) ?_
  refine own_pre (A := (T71.setTop (mkF m 83 #[.val (.ref ax), .val (.long qz), .second, .val (.long qt), .second] [(.ref ax), (.ref at')]))) ?_ ?_
  · intro t k
    show Steps p.tables e below (T71.setTop (mkF m 82 #[.val (.ref ax), .val (.long qz), .second, .val (.long qt), .second] [(.ref at')])) _
    refine XS.aloadN X71.here hx rfl (hb hby d3_82) rfl rfl ?_
    exact k
  obtain ⟨T72, X72, e72, st72⟩ := getF X71 hx hZ hown (host := "") (Or.inl (own_w hw 29 rfl)) Via.refl e71 Fentries__70 (g := (mkF m 83 #[.val (.ref ax), .val (.long qz), .second, .val (.long qt), .second] [(.ref ax), (.ref at')])) rfl rfl (hb hby d3_83)
  refine own_pre (fun t k => st72 t k) ?_
  refine own_pre (A := (T72.setTop (mkF m 87 #[.val (.ref ax), .val (.long qz), .second, .val (.long qt), .second] [(.long qt), (.int (1 : Int32)), (.ref at')]))) ?_ ?_
  · intro t k
    show Steps p.tables e below (T72.setTop (mkF m 86 #[.val (.ref ax), .val (.long qz), .second, .val (.long qt), .second] [(.int (1 : Int32)), (.ref at')])) _
    refine XS.lloadN X72.here hx rfl (hb hby d3_86) rfl ?_
    exact k
  obtain ⟨cl73, Ar73, S73, N73⟩ := Vt__70
  have hin73 : ¬ ((1 : Int32) < 0 ∨ cl73.slots.size ≤ ((1 : Int32)).toNatClampNeg) := inb_of S73 ⟨by decide, by decide⟩
  obtain ⟨T73, h73, X73, e73, W73, st73⟩ := stJ X72 hx hZ e72 Ar73 (j := (1 : Int32)) hin73 (g := (mkF m 87 #[.val (.ref ax), .val (.long qz), .second, .val (.long qt), .second] [(.long qt), (.int (1 : Int32)), (.ref at')])) rfl rfl (hb hby d3_87)
  have V73 : own_Al Z h73 at' .long (4 : Int32) := ⟨_, Ar73.same W73, (sz_set _ _ _).trans S73, N73⟩
  have Ea__73 := Ea__70.wr W73
  have Fplaces__73 := Fplaces__70.other W73 (Or.inl n2_)
  have Fstarts__73 := Fstarts__70.other W73 (Or.inl n2_)
  have Ftimes__73 := Ftimes__70.other W73 (Or.inl n2_)
  have Fentries__73 := Fentries__70.other W73 (Or.inl n2_)
  have Fcount__73 := Fcount__70.other W73 (Or.inl n2_)
  have Fend__73 := Fend__70.other W73 (Or.inl n2_)
  have FlastTime__73 := FlastTime__70.other W73 (Or.inl n2_)
  have V66_73 := V66_70.other W73 n4_
  have V70_73 := V70.other W73 n5_
  have Kc73 : Keep h0 h73 [ax, ap, ar, at'] := Kc70.wr W73 (Or.inl (List.mem_of_getElem? (i := 3) rfl))
  have N73 := Fr.snoc X73 N70 gg3_
  refine own_pre (fun t k => st73 t k) ?_
  refine own_pre (A := (T73.setTop (mkF m 90 #[.val (.ref ax), .val (.long qz), .second, .val (.long qt), .second] [(.ref ax), (.ref ax)]))) ?_ ?_
  · intro t k
    show Steps p.tables e below (T73.setTop (mkF m 88 #[.val (.ref ax), .val (.long qz), .second, .val (.long qt), .second] [])) _
    refine XS.aloadN X73.here hx rfl (hb hby d3_88) rfl rfl ?_
    refine XS.dup X73.here hx rfl (hb hby d3_89) rfl rfl ?_
    exact k
  obtain ⟨T74, X74, e74, st74⟩ := getF X73 hx hZ hown (host := "") (Or.inl (own_w hw 29 rfl)) Via.refl e73 Fentries__73 (g := (mkF m 90 #[.val (.ref ax), .val (.long qz), .second, .val (.long qt), .second] [(.ref ax), (.ref ax)])) rfl rfl (hb hby d3_90)
  refine own_pre (fun t k => st74 t k) ?_
  refine own_pre (A := (T74.setTop (mkF m 95 #[.val (.ref ax), .val (.long qz), .second, .val (.long qt), .second] [(.int (2 : Int32)), (.ref ax)]))) ?_ ?_
  · intro t k
    show Steps p.tables e below (T74.setTop (mkF m 93 #[.val (.ref ax), .val (.long qz), .second, .val (.long qt), .second] [(.int (1 : Int32)), (.ref ax)])) _
    refine XS.iconst X74.here hx rfl (hb hby d3_93) ?_
    refine XS.iadd X74.here hx rfl (hb hby d3_94) rfl ?_
    show Steps p.tables e below (T74.setTop (mkF m 95 #[.val (.ref ax), .val (.long qz), .second, .val (.long qt), .second] [(.int ((1 : Int32) + (1 : Int32))), (.ref ax)])) _
    rw [show ((1 : Int32) + (1 : Int32)) = (2 : Int32) from by decide]
    exact k
  obtain ⟨T75, h75, X75, e75, W75, st75⟩ := putF X74 hx hZ hown (host := "") (Or.inl (own_w hw 29 rfl)) Via.refl e74 Fentries__73 Ea__73 (Or.inl (own_w hw 30 rfl)) (own_w hw 3 rfl) (ty := .int) (by decide) rfl rfl (g := (mkF m 95 #[.val (.ref ax), .val (.long qz), .second, .val (.long qt), .second] [(.int (2 : Int32)), (.ref ax)])) rfl rfl (hb hby d3_95)
  have Ea__75 := Ea__73.wr W75
  have Fplaces__75 := Fplaces__73.other W75 (Or.inr (slot_ne (Or.inl (own_w hw 13 rfl)) (Or.inl (own_w hw 30 rfl)) (by decide) (t := (.array .int)) (t' := .int) (by decide) (by decide)))
  have Fstarts__75 := Fstarts__73.other W75 (Or.inr (slot_ne (Or.inl (own_w hw 16 rfl)) (Or.inl (own_w hw 30 rfl)) (by decide) (t := (.array .long)) (t' := .int) (by decide) (by decide)))
  have Ftimes__75 := Ftimes__73.other W75 (Or.inr (slot_ne (Or.inl (own_w hw 18 rfl)) (Or.inl (own_w hw 30 rfl)) (by decide) (t := (.array .long)) (t' := .int) (by decide) (by decide)))
  have Fcount__75 := Fcount__73.other W75 (Or.inr (slot_ne (Or.inl (own_w hw 32 rfl)) (Or.inl (own_w hw 30 rfl)) (by decide) (t := .int) (t' := .int) (by decide) (by decide)))
  have Fend__75 := Fend__73.other W75 (Or.inr (slot_ne (Or.inl (own_w hw 23 rfl)) (Or.inl (own_w hw 30 rfl)) (by decide) (t := .long) (t' := .int) (by decide) (by decide)))
  have FlastTime__75 := FlastTime__73.other W75 (Or.inr (slot_ne (Or.inl (own_w hw 21 rfl)) (Or.inl (own_w hw 30 rfl)) (by decide) (t := .long) (t' := .int) (by decide) (by decide)))
  have V66_75 := V66_73.other W75 n0_.symm
  have V70_75 := V70_73.other W75 n1_.symm
  have V73_75 := V73.other W75 n2_.symm
  have Kc75 : Keep h0 h75 [ax, ap, ar, at'] := Kc73.wr W75 (Or.inl (List.mem_of_getElem? (i := 0) rfl))
  have N75 := Fr.snoc X75 N73 gg0_
  have Fw75 := Fentries__73.same W75
  refine own_pre (fun t k => st75 t k) ?_
  refine own_pre (A := (T75.setTop (mkF m 100 #[.val (.ref ax), .val (.long qz), .second, .val (.long qt), .second] [(.ref ax), (.ref ax)]))) ?_ ?_
  · intro t k
    show Steps p.tables e below (T75.setTop (mkF m 98 #[.val (.ref ax), .val (.long qz), .second, .val (.long qt), .second] [])) _
    refine XS.aloadN X75.here hx rfl (hb hby d3_98) rfl rfl ?_
    refine XS.dup X75.here hx rfl (hb hby d3_99) rfl rfl ?_
    exact k
  obtain ⟨T76, X76, e76, st76⟩ := getF X75 hx hZ hown (host := "") (Or.inl (own_w hw 22 rfl)) Via.refl e75 Fend__75 (g := (mkF m 100 #[.val (.ref ax), .val (.long qz), .second, .val (.long qt), .second] [(.ref ax), (.ref ax)])) rfl rfl (hb hby d3_100)
  refine own_pre (fun t k => st76 t k) ?_
  refine own_pre (A := (T76.setTop (mkF m 105 #[.val (.ref ax), .val (.long qz), .second, .val (.long qt), .second] [(.long (qe + qz)), (.ref ax)]))) ?_ ?_
  · intro t k
    show Steps p.tables e below (T76.setTop (mkF m 103 #[.val (.ref ax), .val (.long qz), .second, .val (.long qt), .second] [(.long qe), (.ref ax)])) _
    refine XS.lloadN X76.here hx rfl (hb hby d3_103) rfl ?_
    refine XS.ladd X76.here hx rfl (hb hby d3_104) rfl ?_
    exact k
  obtain ⟨T77, h77, X77, e77, W77, st77⟩ := putF X76 hx hZ hown (host := "") (Or.inl (own_w hw 22 rfl)) Via.refl e76 Fend__75 Ea__75 (Or.inl (own_w hw 23 rfl)) (own_w hw 3 rfl) (ty := .long) (by decide) rfl rfl (g := (mkF m 105 #[.val (.ref ax), .val (.long qz), .second, .val (.long qt), .second] [(.long (qe + qz)), (.ref ax)])) rfl rfl (hb hby d3_105)
  have Ea__77 := Ea__75.wr W77
  have Fplaces__77 := Fplaces__75.other W77 (Or.inr (slot_ne (Or.inl (own_w hw 13 rfl)) (Or.inl (own_w hw 23 rfl)) (by decide) (t := (.array .int)) (t' := .long) (by decide) (by decide)))
  have Fstarts__77 := Fstarts__75.other W77 (Or.inr (slot_ne (Or.inl (own_w hw 16 rfl)) (Or.inl (own_w hw 23 rfl)) (by decide) (t := (.array .long)) (t' := .long) (by decide) (by decide)))
  have Ftimes__77 := Ftimes__75.other W77 (Or.inr (slot_ne (Or.inl (own_w hw 18 rfl)) (Or.inl (own_w hw 23 rfl)) (by decide) (t := (.array .long)) (t' := .long) (by decide) (by decide)))
  have Fw75_77 := Fw75.other W77 (Or.inr (slot_ne (Or.inl (own_w hw 30 rfl)) (Or.inl (own_w hw 23 rfl)) (by decide) (t := .int) (t' := .long) (by decide) (by decide)))
  have Fcount__77 := Fcount__75.other W77 (Or.inr (slot_ne (Or.inl (own_w hw 32 rfl)) (Or.inl (own_w hw 23 rfl)) (by decide) (t := .int) (t' := .long) (by decide) (by decide)))
  have FlastTime__77 := FlastTime__75.other W77 (Or.inr (slot_ne (Or.inl (own_w hw 21 rfl)) (Or.inl (own_w hw 23 rfl)) (by decide) (t := .long) (t' := .long) (by decide) (by decide)))
  have V66_77 := V66_75.other W77 n0_.symm
  have V70_77 := V70_75.other W77 n1_.symm
  have V73_77 := V73_75.other W77 n2_.symm
  have Kc77 : Keep h0 h77 [ax, ap, ar, at'] := Kc75.wr W77 (Or.inl (List.mem_of_getElem? (i := 0) rfl))
  have N77 := Fr.snoc X77 N75 gg0_
  have Fw77 := Fend__75.same W77
  refine own_pre (fun t k => st77 t k) ?_
  refine own_pre (A := (T77.setTop (mkF m 110 #[.val (.ref ax), .val (.long qz), .second, .val (.long qt), .second] [(.long qt), (.ref ax)]))) ?_ ?_
  · intro t k
    show Steps p.tables e below (T77.setTop (mkF m 108 #[.val (.ref ax), .val (.long qz), .second, .val (.long qt), .second] [])) _
    refine XS.aloadN X77.here hx rfl (hb hby d3_108) rfl rfl ?_
    refine XS.lloadN X77.here hx rfl (hb hby d3_109) rfl ?_
    exact k
  obtain ⟨T78, h78, X78, e78, W78, st78⟩ := putF X77 hx hZ hown (host := "") (Or.inl (own_w hw 20 rfl)) Via.refl e77 FlastTime__77 Ea__77 (Or.inl (own_w hw 21 rfl)) (own_w hw 3 rfl) (ty := .long) (by decide) rfl rfl (g := (mkF m 110 #[.val (.ref ax), .val (.long qz), .second, .val (.long qt), .second] [(.long qt), (.ref ax)])) rfl rfl (hb hby d3_110)
  have Ea__78 := Ea__77.wr W78
  have Fplaces__78 := Fplaces__77.other W78 (Or.inr (slot_ne (Or.inl (own_w hw 13 rfl)) (Or.inl (own_w hw 21 rfl)) (by decide) (t := (.array .int)) (t' := .long) (by decide) (by decide)))
  have Fstarts__78 := Fstarts__77.other W78 (Or.inr (slot_ne (Or.inl (own_w hw 16 rfl)) (Or.inl (own_w hw 21 rfl)) (by decide) (t := (.array .long)) (t' := .long) (by decide) (by decide)))
  have Ftimes__78 := Ftimes__77.other W78 (Or.inr (slot_ne (Or.inl (own_w hw 18 rfl)) (Or.inl (own_w hw 21 rfl)) (by decide) (t := (.array .long)) (t' := .long) (by decide) (by decide)))
  have Fw75_78 := Fw75_77.other W78 (Or.inr (slot_ne (Or.inl (own_w hw 30 rfl)) (Or.inl (own_w hw 21 rfl)) (by decide) (t := .int) (t' := .long) (by decide) (by decide)))
  have Fcount__78 := Fcount__77.other W78 (Or.inr (slot_ne (Or.inl (own_w hw 32 rfl)) (Or.inl (own_w hw 21 rfl)) (by decide) (t := .int) (t' := .long) (by decide) (by decide)))
  have Fw77_78 := Fw77.other W78 (Or.inr (slot_ne (Or.inl (own_w hw 23 rfl)) (Or.inl (own_w hw 21 rfl)) (by decide) (t := .long) (t' := .long) (by decide) (by decide)))
  have V66_78 := V66_77.other W78 n0_.symm
  have V70_78 := V70_77.other W78 n1_.symm
  have V73_78 := V73_77.other W78 n2_.symm
  have Kc78 : Keep h0 h78 [ax, ap, ar, at'] := Kc77.wr W78 (Or.inl (List.mem_of_getElem? (i := 0) rfl))
  have N78 := Fr.snoc X78 N77 gg0_
  have Fw78 := FlastTime__77.same W78
  refine own_pre (fun t k => st78 t k) ?_
  refine own_pre (A := (T78.setTop (mkF m 115 #[.val (.ref ax), .val (.long qz), .second, .val (.long qt), .second] [(.ref ax), (.ref ax)]))) ?_ ?_
  · intro t k
    show Steps p.tables e below (T78.setTop (mkF m 113 #[.val (.ref ax), .val (.long qz), .second, .val (.long qt), .second] [])) _
    refine XS.aloadN X78.here hx rfl (hb hby d3_113) rfl rfl ?_
    refine XS.dup X78.here hx rfl (hb hby d3_114) rfl rfl ?_
    exact k
  obtain ⟨T79, X79, e79, st79⟩ := getF X78 hx hZ hown (host := "") (Or.inl (own_w hw 31 rfl)) Via.refl e78 Fcount__78 (g := (mkF m 115 #[.val (.ref ax), .val (.long qz), .second, .val (.long qt), .second] [(.ref ax), (.ref ax)])) rfl rfl (hb hby d3_115)
  refine own_pre (fun t k => st79 t k) ?_
  refine own_pre (A := (T79.setTop (mkF m 120 #[.val (.ref ax), .val (.long qz), .second, .val (.long qt), .second] [(.int (ct + (1 : Int32))), (.ref ax)]))) ?_ ?_
  · intro t k
    show Steps p.tables e below (T79.setTop (mkF m 118 #[.val (.ref ax), .val (.long qz), .second, .val (.long qt), .second] [(.int ct), (.ref ax)])) _
    refine XS.iconst X79.here hx rfl (hb hby d3_118) ?_
    refine XS.iadd X79.here hx rfl (hb hby d3_119) rfl ?_
    exact k
  obtain ⟨T80, h80, X80, e80, W80, st80⟩ := putF X79 hx hZ hown (host := "") (Or.inl (own_w hw 31 rfl)) Via.refl e79 Fcount__78 Ea__78 (Or.inl (own_w hw 32 rfl)) (own_w hw 3 rfl) (ty := .int) (by decide) rfl rfl (g := (mkF m 120 #[.val (.ref ax), .val (.long qz), .second, .val (.long qt), .second] [(.int (ct + (1 : Int32))), (.ref ax)])) rfl rfl (hb hby d3_120)
  have Ea__80 := Ea__78.wr W80
  have Fplaces__80 := Fplaces__78.other W80 (Or.inr (slot_ne (Or.inl (own_w hw 13 rfl)) (Or.inl (own_w hw 32 rfl)) (by decide) (t := (.array .int)) (t' := .int) (by decide) (by decide)))
  have Fstarts__80 := Fstarts__78.other W80 (Or.inr (slot_ne (Or.inl (own_w hw 16 rfl)) (Or.inl (own_w hw 32 rfl)) (by decide) (t := (.array .long)) (t' := .int) (by decide) (by decide)))
  have Ftimes__80 := Ftimes__78.other W80 (Or.inr (slot_ne (Or.inl (own_w hw 18 rfl)) (Or.inl (own_w hw 32 rfl)) (by decide) (t := (.array .long)) (t' := .int) (by decide) (by decide)))
  have Fw75_80 := Fw75_78.other W80 (Or.inr (slot_ne (Or.inl (own_w hw 30 rfl)) (Or.inl (own_w hw 32 rfl)) (by decide) (t := .int) (t' := .int) (by decide) (by decide)))
  have Fw77_80 := Fw77_78.other W80 (Or.inr (slot_ne (Or.inl (own_w hw 23 rfl)) (Or.inl (own_w hw 32 rfl)) (by decide) (t := .long) (t' := .int) (by decide) (by decide)))
  have Fw78_80 := Fw78.other W80 (Or.inr (slot_ne (Or.inl (own_w hw 21 rfl)) (Or.inl (own_w hw 32 rfl)) (by decide) (t := .long) (t' := .int) (by decide) (by decide)))
  have V66_80 := V66_78.other W80 n0_.symm
  have V70_80 := V70_78.other W80 n1_.symm
  have V73_80 := V73_78.other W80 n2_.symm
  have Kc80 : Keep h0 h80 [ax, ap, ar, at'] := Kc78.wr W80 (Or.inl (List.mem_of_getElem? (i := 0) rfl))
  have N80 := Fr.snoc X80 N78 gg0_
  have Fw80 := Fcount__78.same W80
  refine own_pre (fun t k => st80 t k) ?_
  obtain ⟨fs, hr, hrun, hended, hW, hsame⟩ := X80.leave (hlocks := BodyLoose.notSynchronized Bd) (v := none) (fun _ => rfl)
  refine ⟨_, _, X80.returnOut hx Bd.returns (hb hby d3_123) hr, hrun, hended, _, _, rfl, ?_, ⟨_, rfl⟩, hW, hsame.mono (by decide) (by decide)⟩
  show own_Q3_1B Z ax qz qt ap ar at' kp ks ct qe ql pp0 pp1 pp2 pp3 ss0 ss1 ss2 ss3 h0 n0 _ T80.heap _
  rw [e80]
  exact ⟨rfl, N80, Kc80, ⟨Ea__80, Fplaces__80, Fstarts__80, Ftimes__80, Fw75_80, Fw80, Fw77_80, Fw78_80, V66_80, V70_80, V73_80, n0_, n1_, n2_, n3_, n4_, n5_, gg0_, gg1_, gg2_, gg3_⟩⟩
def own_Q4_0_2 (Z : State) (ax : Addr) (ap : Addr) (kp : ClassId) (ct : Int32) (qe : Int64) (uu0 : Int64) (uu1 : Int64) (uu2 : Int64) (uu3 : Int64) (h0 : Heap) (n0 : Nat) (v : Option Value) (h : Heap) (L : List Loc) : Prop := Fr n0 L ∧ v = some (.long uu1) ∧ h = h0
set_option maxRecDepth 65536 in
set_option maxHeartbeats 40000000 in
theorem rm4_0_2 (l : Launch) (Z : State) (a0 : Array Value) (hw : ∀ d ∈ tables_1, d.before a0 Z = true) (ws : List Jvm.Cond) (ax : Addr) (ap : Addr) (kp : ClassId) (ct : Int32) (qe : Int64) (uu0 : Int64) (uu1 : Int64) (uu2 : Int64) (uu3 : Int64) (h0 : Heap) (n0 : Nat) (Z0 : n0 ≤ h0.size) (Fe : Fld Z h0 ax "com/example/coho/coho/eventlog/SegmentIndex" "entries" "I" (.int (2 : Int32))) (Fc : Fld Z h0 ax "com/example/coho/coho/eventlog/SegmentIndex" "count" "I" (.int ct)) (Fq : Fld Z h0 ax "com/example/coho/coho/eventlog/SegmentIndex" "end" "J" (.long qe)) (Fa : Fld Z h0 ax "com/example/coho/coho/eventlog/SegmentIndex" "starts" "[J" (.ref ap)) (Va : Arv Z h0 ap kp .long (4 : Int32) [(.long uu0), (.long uu1), (.long uu2), (.long uu3)] (.long (0 : Int64))) :
    MetFree l (⟨"com/example/coho/coho/eventlog/SegmentIndex", "stretchEnd", "(I)J"⟩ : MethodName) (head1 (Jvm.Cond.code (⟨"com/example/coho/coho/eventlog/SegmentIndex", "stretchEnd", "(I)J"⟩ : MethodName) prog_34_method_10_code 2 (some .long) :: ws) ({ frames := 0, cells := 0, slots := 0, locals := 0 } : Room)) (fun a U => a = #[(.ref ax), (.int (0 : Int32))] ∧ Z.Warmed39 U.vm ∧ U.heap = h0) (fun _ _ _ _ _ => True) (fun _ U o U' => ∃ v L, o = .returned v ∧ own_Q4_0_2 Z ax ap kp ct qe uu0 uu1 uu2 uu3 h0 n0 v U'.heap L ∧ FrameEnd U o U' L ({ frames := 0, cells := 0, slots := 0, locals := 0 } : Room).cells ({ frames := 0, cells := 0, slots := 0, locals := 0 } : Room).slots) := by
  refine MetFree.of_bodySF (plainFor_of_name own_pn4) hisR ?_
  intro p e s m args below meth c s₁ Bd hml0 hP hK
  obtain ⟨rfl, hZ, hh⟩ := hP
  have hx := Bd.exec
  have hby := Bd.bytes
  have hml : c.maxLocals = 2 := hml0
  have hown : s.vm.findClass "com/example/coho/coho/eventlog/SegmentIndex" = some m.cls := findClass_of_methodNamed Bd.named
  have hnm := (name_of_methodNamed Bd.named Bd.method).1
  have X0 : Stand p l e ({ frames := 0, cells := 0, slots := 0, locals := 0 } : Room) s m #[(.ref ax), (.int (0 : Int32))] below meth c s₁ [] 0 0 := Stand.of_body Bd
  have e0 : s₁.heap = h0 := by rw [← hh, Bd.state]; rfl
  have N0 := Fr.nil n0
  refine own_pre (A := (s₁.setTop (mkF m 0 #[.val (.ref ax), .val (.int (0 : Int32))] []))) (fun t k => castTop (own_ef4 m ax (0 : Int32)) k) ?_
  refine own_pre (A := (s₁.setTop (mkF m 4 #[.val (.ref ax), .val (.int (0 : Int32))] [(.ref ax), (.int (1 : Int32))]))) ?_ ?_
  · intro t k
    show Steps p.tables e below (s₁.setTop (mkF m 0 #[.val (.ref ax), .val (.int (0 : Int32))] [])) _
    refine XS.iloadN X0.here hx rfl (hb hby d4_0) rfl ?_
    refine XS.iconst X0.here hx rfl (hb hby d4_1) ?_
    refine XS.iadd X0.here hx rfl (hb hby d4_2) rfl ?_
    show Steps p.tables e below (s₁.setTop (mkF m 3 #[.val (.ref ax), .val (.int (0 : Int32))] [(.int ((0 : Int32) + (1 : Int32)))])) _
    rw [show ((0 : Int32) + (1 : Int32)) = (1 : Int32) from by decide]
    show Steps p.tables e below (s₁.setTop (mkF m 3 #[.val (.ref ax), .val (.int (0 : Int32))] [(.int (1 : Int32))])) _
    refine XS.aloadN X0.here hx rfl (hb hby d4_3) rfl rfl ?_
    exact k
  obtain ⟨T82, X82, e82, st82⟩ := getF X0 hx hZ hown (host := "") (Or.inl (own_w hw 29 rfl)) Via.refl e0 Fe (g := (mkF m 4 #[.val (.ref ax), .val (.int (0 : Int32))] [(.ref ax), (.int (1 : Int32))])) rfl rfl (hb hby d4_4)
  refine own_pre (fun t k => st82 t k) ?_
  refine own_pre (A := (T82.setTop (mkF m 11 #[.val (.ref ax), .val (.int (0 : Int32))] [(.ref ax)]))) ?_ ?_
  · intro t k
    show Steps p.tables e below (T82.setTop (mkF m 7 #[.val (.ref ax), .val (.int (0 : Int32))] [(.int (2 : Int32)), (.int (1 : Int32))])) _
    refine XS.icmpNo X82.here hx rfl (hb hby d4_7) rfl (tlt (by decide : (1 : Int32) < (2 : Int32))).2.1 ?_
    refine XS.aloadN X82.here hx rfl (hb hby d4_10) rfl rfl ?_
    exact k
  obtain ⟨T83, X83, e83, st83⟩ := getF X82 hx hZ hown (host := "") (Or.inl (own_w hw 15 rfl)) Via.refl e82 Fa (g := (mkF m 11 #[.val (.ref ax), .val (.int (0 : Int32))] [(.ref ax)])) rfl rfl (hb hby d4_11)
  refine own_pre (fun t k => st83 t k) ?_
  refine own_pre (A := (T83.setTop (mkF m 25 #[.val (.ref ax), .val (.int (0 : Int32))] [(.long uu1)]))) ?_ ?_
  · intro t k
    show Steps p.tables e below (T83.setTop (mkF m 14 #[.val (.ref ax), .val (.int (0 : Int32))] [(.ref ap)])) _
    refine XS.iloadN X83.here hx rfl (hb hby d4_14) rfl ?_
    refine XS.iconst X83.here hx rfl (hb hby d4_15) ?_
    refine XS.iadd X83.here hx rfl (hb hby d4_16) rfl ?_
    show Steps p.tables e below (T83.setTop (mkF m 17 #[.val (.ref ax), .val (.int (0 : Int32))] [(.int ((0 : Int32) + (1 : Int32))), (.ref ap)])) _
    rw [show ((0 : Int32) + (1 : Int32)) = (1 : Int32) from by decide]
    show Steps p.tables e below (T83.setTop (mkF m 17 #[.val (.ref ax), .val (.int (0 : Int32))] [(.int (1 : Int32)), (.ref ap)])) _
    obtain ⟨cl84, Ar84, q84, S84, N84, H84, G84⟩ := Va
    have hin84 : ¬ ((1 : Int32) < 0 ∨ cl84.slots.size ≤ ((1 : Int32)).toNatClampNeg) := inb_of S84 ⟨by decide, by decide⟩
    refine X83.laload hx (j := (1 : Int32)) (v := (.long uu1)) (by rw [e83]; exact Ar84.1) (State.isArrayOf_alike hZ.alike Ar84.2.1) Ar84.2.2 hin84 (H84.at hin84 rfl) (g := (mkF m 17 #[.val (.ref ax), .val (.int (0 : Int32))] [(.int (1 : Int32)), (.ref ap)])) rfl rfl (hb hby d4_17) _ ?_
    show Steps p.tables e below (T83.setTop (mkF m 18 #[.val (.ref ax), .val (.int (0 : Int32))] [(.long uu1)])) _
    refine XS.goto X83.here hx rfl (pc0 := 18) (pc' := 25) rfl (hb hby d4_18) (by decide) (by decide) ?_
    exact k
  obtain ⟨fs, hr, hrun, hended, hW, hsame⟩ := X83.leave (hlocks := BodyLoose.notSynchronized Bd) (v := some (.long uu1)) (fun h => by rw [Bd.returns] at h; cases h)
  refine ⟨_, _, retOut X83 hx Bd.returns rfl (Or.inr (Or.inl ⟨rfl, rfl, _, rfl⟩)) (hb hby d4_25) hr, hrun, hended, _, _, rfl, ?_, ⟨_, rfl⟩, hW, hsame.mono (by decide) (by decide)⟩
  show own_Q4_0_2 Z ax ap kp ct qe uu0 uu1 uu2 uu3 h0 n0 _ T83.heap _
  rw [e83]
  exact ⟨N0, rfl, rfl⟩
def own_Q4_1_2 (Z : State) (ax : Addr) (ap : Addr) (kp : ClassId) (ct : Int32) (qe : Int64) (uu0 : Int64) (uu1 : Int64) (uu2 : Int64) (uu3 : Int64) (h0 : Heap) (n0 : Nat) (v : Option Value) (h : Heap) (L : List Loc) : Prop := Fr n0 L ∧ v = some (.long qe) ∧ h = h0
set_option maxRecDepth 65536 in
set_option maxHeartbeats 40000000 in
theorem rm4_1_2 (l : Launch) (Z : State) (a0 : Array Value) (hw : ∀ d ∈ tables_1, d.before a0 Z = true) (ws : List Jvm.Cond) (ax : Addr) (ap : Addr) (kp : ClassId) (ct : Int32) (qe : Int64) (uu0 : Int64) (uu1 : Int64) (uu2 : Int64) (uu3 : Int64) (h0 : Heap) (n0 : Nat) (Z0 : n0 ≤ h0.size) (Fe : Fld Z h0 ax "com/example/coho/coho/eventlog/SegmentIndex" "entries" "I" (.int (2 : Int32))) (Fc : Fld Z h0 ax "com/example/coho/coho/eventlog/SegmentIndex" "count" "I" (.int ct)) (Fq : Fld Z h0 ax "com/example/coho/coho/eventlog/SegmentIndex" "end" "J" (.long qe)) (Fa : Fld Z h0 ax "com/example/coho/coho/eventlog/SegmentIndex" "starts" "[J" (.ref ap)) (Va : Arv Z h0 ap kp .long (4 : Int32) [(.long uu0), (.long uu1), (.long uu2), (.long uu3)] (.long (0 : Int64))) :
    MetFree l (⟨"com/example/coho/coho/eventlog/SegmentIndex", "stretchEnd", "(I)J"⟩ : MethodName) (head1 (Jvm.Cond.code (⟨"com/example/coho/coho/eventlog/SegmentIndex", "stretchEnd", "(I)J"⟩ : MethodName) prog_34_method_10_code 2 (some .long) :: ws) ({ frames := 0, cells := 0, slots := 0, locals := 0 } : Room)) (fun a U => a = #[(.ref ax), (.int (1 : Int32))] ∧ Z.Warmed39 U.vm ∧ U.heap = h0) (fun _ _ _ _ _ => True) (fun _ U o U' => ∃ v L, o = .returned v ∧ own_Q4_1_2 Z ax ap kp ct qe uu0 uu1 uu2 uu3 h0 n0 v U'.heap L ∧ FrameEnd U o U' L ({ frames := 0, cells := 0, slots := 0, locals := 0 } : Room).cells ({ frames := 0, cells := 0, slots := 0, locals := 0 } : Room).slots) := by
  refine MetFree.of_bodySF (plainFor_of_name own_pn4) hisR ?_
  intro p e s m args below meth c s₁ Bd hml0 hP hK
  obtain ⟨rfl, hZ, hh⟩ := hP
  have hx := Bd.exec
  have hby := Bd.bytes
  have hml : c.maxLocals = 2 := hml0
  have hown : s.vm.findClass "com/example/coho/coho/eventlog/SegmentIndex" = some m.cls := findClass_of_methodNamed Bd.named
  have hnm := (name_of_methodNamed Bd.named Bd.method).1
  have X0 : Stand p l e ({ frames := 0, cells := 0, slots := 0, locals := 0 } : Room) s m #[(.ref ax), (.int (1 : Int32))] below meth c s₁ [] 0 0 := Stand.of_body Bd
  have e0 : s₁.heap = h0 := by rw [← hh, Bd.state]; rfl
  have N0 := Fr.nil n0
  refine own_pre (A := (s₁.setTop (mkF m 0 #[.val (.ref ax), .val (.int (1 : Int32))] []))) (fun t k => castTop (own_ef4 m ax (1 : Int32)) k) ?_
  refine own_pre (A := (s₁.setTop (mkF m 4 #[.val (.ref ax), .val (.int (1 : Int32))] [(.ref ax), (.int (2 : Int32))]))) ?_ ?_
  · intro t k
    show Steps p.tables e below (s₁.setTop (mkF m 0 #[.val (.ref ax), .val (.int (1 : Int32))] [])) _
    refine XS.iloadN X0.here hx rfl (hb hby d4_0) rfl ?_
    refine XS.iconst X0.here hx rfl (hb hby d4_1) ?_
    refine XS.iadd X0.here hx rfl (hb hby d4_2) rfl ?_
    show Steps p.tables e below (s₁.setTop (mkF m 3 #[.val (.ref ax), .val (.int (1 : Int32))] [(.int ((1 : Int32) + (1 : Int32)))])) _
    rw [show ((1 : Int32) + (1 : Int32)) = (2 : Int32) from by decide]
    show Steps p.tables e below (s₁.setTop (mkF m 3 #[.val (.ref ax), .val (.int (1 : Int32))] [(.int (2 : Int32))])) _
    refine XS.aloadN X0.here hx rfl (hb hby d4_3) rfl rfl ?_
    exact k
  obtain ⟨T86, X86, e86, st86⟩ := getF X0 hx hZ hown (host := "") (Or.inl (own_w hw 29 rfl)) Via.refl e0 Fe (g := (mkF m 4 #[.val (.ref ax), .val (.int (1 : Int32))] [(.ref ax), (.int (2 : Int32))])) rfl rfl (hb hby d4_4)
  refine own_pre (fun t k => st86 t k) ?_
  refine own_pre (A := (T86.setTop (mkF m 22 #[.val (.ref ax), .val (.int (1 : Int32))] [(.ref ax)]))) ?_ ?_
  · intro t k
    show Steps p.tables e below (T86.setTop (mkF m 7 #[.val (.ref ax), .val (.int (1 : Int32))] [(.int (2 : Int32)), (.int (2 : Int32))])) _
    refine XS.icmpYes X86.here hx rfl (pc0 := 7) (pc' := 21) rfl (hb hby d4_7) rfl (flt (by decide : ¬ ((2 : Int32) < (2 : Int32)))).2.1 (by decide) (by decide) ?_
    refine XS.aloadN X86.here hx rfl (hb hby d4_21) rfl rfl ?_
    exact k
  obtain ⟨T87, X87, e87, st87⟩ := getF X86 hx hZ hown (host := "") (Or.inl (own_w hw 22 rfl)) Via.refl e86 Fq (g := (mkF m 22 #[.val (.ref ax), .val (.int (1 : Int32))] [(.ref ax)])) rfl rfl (hb hby d4_22)
  refine own_pre (fun t k => st87 t k) ?_
  obtain ⟨fs, hr, hrun, hended, hW, hsame⟩ := X87.leave (hlocks := BodyLoose.notSynchronized Bd) (v := some (.long qe)) (fun h => by rw [Bd.returns] at h; cases h)
  refine ⟨_, _, retOut X87 hx Bd.returns rfl (Or.inr (Or.inl ⟨rfl, rfl, _, rfl⟩)) (hb hby d4_25) hr, hrun, hended, _, _, rfl, ?_, ⟨_, rfl⟩, hW, hsame.mono (by decide) (by decide)⟩
  show own_Q4_1_2 Z ax ap kp ct qe uu0 uu1 uu2 uu3 h0 n0 _ T87.heap _
  rw [e87]
  exact ⟨N0, rfl, rfl⟩
def own_Q3_2A (Z : State) (ax : Addr) (qz : Int64) (qt : Int64) (ap : Addr) (ar : Addr) (at' : Addr) (kp : ClassId) (ks : ClassId) (ct : Int32) (qe : Int64) (ql : Int64) (pp0 : Int32) (pp1 : Int32) (pp2 : Int32) (pp3 : Int32) (ss0 : Int64) (ss1 : Int64) (ss2 : Int64) (ss3 : Int64) (h0 : Heap) (n0 : Nat) (v : Option Value) (h : Heap) (L : List Loc) : Prop := v = none ∧ Fr n0 L ∧ Keep h0 h [ax, ap, ar, at'] ∧ own_SI Z h n0 ax ap ar at' kp ks (2 : Int32) (ct + (1 : Int32)) (qe + qz) qt pp0 pp1 pp2 pp3 ss0 ss1 ss2 ss3
set_option maxRecDepth 65536 in
set_option maxHeartbeats 40000000 in
theorem rm3_2A (l : Launch) (Z : State) (a0 : Array Value) (hw : ∀ d ∈ tables_1, d.before a0 Z = true) (ws : List Jvm.Cond) (ax : Addr) (qz : Int64) (qt : Int64) (ap : Addr) (ar : Addr) (at' : Addr) (kp : ClassId) (ks : ClassId) (ct : Int32) (qe : Int64) (ql : Int64) (pp0 : Int32) (pp1 : Int32) (pp2 : Int32) (pp3 : Int32) (ss0 : Int64) (ss1 : Int64) (ss2 : Int64) (ss3 : Int64) (h0 : Heap) (n0 : Nat) (Z0 : n0 ≤ h0.size) (B : own_SI Z h0 n0 ax ap ar at' kp ks (2 : Int32) ct qe ql pp0 pp1 pp2 pp3 ss0 ss1 ss2 ss3) (hs : (qe - ss1) < (65536 : Int64)) :
    MetFree l (⟨"com/example/coho/coho/eventlog/SegmentIndex", "add", "(JJ)V"⟩ : MethodName) (head1 (Jvm.Cond.code (⟨"com/example/coho/coho/eventlog/SegmentIndex", "add", "(JJ)V"⟩ : MethodName) prog_34_method_2_code 5 none :: ws) ({ frames := 0, cells := 0, slots := 0, locals := 0 } : Room)) (fun a U => a = #[(.ref ax), (.long qz), (.long qt)] ∧ Z.Warmed39 U.vm ∧ U.heap = h0) (fun _ _ _ _ _ => True) (fun _ U o U' => ∃ v L, o = .returned v ∧ own_Q3_2A Z ax qz qt ap ar at' kp ks ct qe ql pp0 pp1 pp2 pp3 ss0 ss1 ss2 ss3 h0 n0 v U'.heap L ∧ FrameEnd U o U' L ({ frames := 0, cells := 0, slots := 0, locals := 0 } : Room).cells ({ frames := 0, cells := 0, slots := 0, locals := 0 } : Room).slots) := by
  refine MetFree.of_bodySF (plainFor_of_name own_pn3) hisR ?_
  intro p e s m args below meth c s₁ Bd hml0 hP hK
  obtain ⟨rfl, hZ, hh⟩ := hP
  have hx := Bd.exec
  have hby := Bd.bytes
  have hml : c.maxLocals = 5 := hml0
  have hown : s.vm.findClass "com/example/coho/coho/eventlog/SegmentIndex" = some m.cls := findClass_of_methodNamed Bd.named
  have hnm := (name_of_methodNamed Bd.named Bd.method).1
  have X0 : Stand p l e ({ frames := 0, cells := 0, slots := 0, locals := 0 } : Room) s m #[(.ref ax), (.long qz), (.long qt)] below meth c s₁ [] 0 0 := Stand.of_body Bd
  have e0 : s₁.heap = h0 := by rw [← hh, Bd.state]; rfl
  have N0 := Fr.nil n0
  refine own_pre (A := (s₁.setTop (mkF m 0 #[.val (.ref ax), .val (.long qz), .second, .val (.long qt), .second] []))) (fun t k => castTop (own_ef3 m ax qz qt) k) ?_
  obtain ⟨Ea_, Fplaces_, Fstarts_, Ftimes_, Fentries_, Fcount_, Fend_, FlastTime_, Vp_, Vs_, Vt_, n0_, n1_, n2_, n3_, n4_, n5_, gg0_, gg1_, gg2_, gg3_⟩ := B
  refine own_pre (A := (s₁.setTop (mkF m 1 #[.val (.ref ax), .val (.long qz), .second, .val (.long qt), .second] [(.ref ax)]))) ?_ ?_
  · intro t k
    show Steps p.tables e below (s₁.setTop (mkF m 0 #[.val (.ref ax), .val (.long qz), .second, .val (.long qt), .second] [])) _
    refine XS.aloadN X0.here hx rfl (hb hby d3_0) rfl rfl ?_
    exact k
  obtain ⟨T102, X102, e102, st102⟩ := getF X0 hx hZ hown (host := "") (Or.inl (own_w hw 29 rfl)) Via.refl e0 Fentries_ (g := (mkF m 1 #[.val (.ref ax), .val (.long qz), .second, .val (.long qt), .second] [(.ref ax)])) rfl rfl (hb hby d3_1)
  refine own_pre (fun t k => st102 t k) ?_
  refine own_pre (A := (T102.setTop (mkF m 8 #[.val (.ref ax), .val (.long qz), .second, .val (.long qt), .second] [(.ref ax)]))) ?_ ?_
  · intro t k
    show Steps p.tables e below (T102.setTop (mkF m 4 #[.val (.ref ax), .val (.long qz), .second, .val (.long qt), .second] [(.int (2 : Int32))])) _
    refine XS.ifNo X102.here hx rfl (hb hby d3_4) rfl ((if0 _ _).trans (feq (by decide : ¬ ((2 : Int32) = (0 : Int32)))).1) ?_
    refine XS.aloadN X102.here hx rfl (hb hby d3_7) rfl rfl ?_
    exact k
  obtain ⟨T103, X103, e103, st103⟩ := getF X102 hx hZ hown (host := "") (Or.inl (own_w hw 22 rfl)) Via.refl e102 Fend_ (g := (mkF m 8 #[.val (.ref ax), .val (.long qz), .second, .val (.long qt), .second] [(.ref ax)])) rfl rfl (hb hby d3_8)
  refine own_pre (fun t k => st103 t k) ?_
  refine own_pre (A := (T103.setTop (mkF m 12 #[.val (.ref ax), .val (.long qz), .second, .val (.long qt), .second] [(.ref ax), (.long qe)]))) ?_ ?_
  · intro t k
    show Steps p.tables e below (T103.setTop (mkF m 11 #[.val (.ref ax), .val (.long qz), .second, .val (.long qt), .second] [(.long qe)])) _
    refine XS.aloadN X103.here hx rfl (hb hby d3_11) rfl rfl ?_
    exact k
  obtain ⟨T104, X104, e104, st104⟩ := getF X103 hx hZ hown (host := "") (Or.inl (own_w hw 15 rfl)) Via.refl e103 Fstarts_ (g := (mkF m 12 #[.val (.ref ax), .val (.long qz), .second, .val (.long qt), .second] [(.ref ax), (.long qe)])) rfl rfl (hb hby d3_12)
  refine own_pre (fun t k => st104 t k) ?_
  refine own_pre (A := (T104.setTop (mkF m 16 #[.val (.ref ax), .val (.long qz), .second, .val (.long qt), .second] [(.ref ax), (.ref ar), (.long qe)]))) ?_ ?_
  · intro t k
    show Steps p.tables e below (T104.setTop (mkF m 15 #[.val (.ref ax), .val (.long qz), .second, .val (.long qt), .second] [(.ref ar), (.long qe)])) _
    refine XS.aloadN X104.here hx rfl (hb hby d3_15) rfl rfl ?_
    exact k
  obtain ⟨T105, X105, e105, st105⟩ := getF X104 hx hZ hown (host := "") (Or.inl (own_w hw 29 rfl)) Via.refl e104 Fentries_ (g := (mkF m 16 #[.val (.ref ax), .val (.long qz), .second, .val (.long qt), .second] [(.ref ax), (.ref ar), (.long qe)])) rfl rfl (hb hby d3_16)
  refine own_pre (fun t k => st105 t k) ?_
  refine own_pre (A := (T105.setTop (mkF m 100 #[.val (.ref ax), .val (.long qz), .second, .val (.long qt), .second] [(.ref ax), (.ref ax)]))) ?_ ?_
  · intro t k
    show Steps p.tables e below (T105.setTop (mkF m 19 #[.val (.ref ax), .val (.long qz), .second, .val (.long qt), .second] [(.int (2 : Int32)), (.ref ar), (.long qe)])) _
    refine XS.iconst X105.here hx rfl (hb hby d3_19) ?_
    refine XS.isub X105.here hx rfl (hb hby d3_20) rfl ?_
    show Steps p.tables e below (T105.setTop (mkF m 21 #[.val (.ref ax), .val (.long qz), .second, .val (.long qt), .second] [(.int ((2 : Int32) - (1 : Int32))), (.ref ar), (.long qe)])) _
    rw [show ((2 : Int32) - (1 : Int32)) = (1 : Int32) from by decide]
    show Steps p.tables e below (T105.setTop (mkF m 21 #[.val (.ref ax), .val (.long qz), .second, .val (.long qt), .second] [(.int (1 : Int32)), (.ref ar), (.long qe)])) _
    obtain ⟨cl106, Ar106, q106, S106, N106, H106, G106⟩ := Vs_
    have hin106 : ¬ ((1 : Int32) < 0 ∨ cl106.slots.size ≤ ((1 : Int32)).toNatClampNeg) := inb_of S106 ⟨by decide, by decide⟩
    refine X105.laload hx (j := (1 : Int32)) (v := (.long ss1)) (by rw [e105]; exact Ar106.1) (State.isArrayOf_alike hZ.alike Ar106.2.1) Ar106.2.2 hin106 (H106.at hin106 rfl) (g := (mkF m 21 #[.val (.ref ax), .val (.long qz), .second, .val (.long qt), .second] [(.int (1 : Int32)), (.ref ar), (.long qe)])) rfl rfl (hb hby d3_21) _ ?_
    show Steps p.tables e below (T105.setTop (mkF m 22 #[.val (.ref ax), .val (.long qz), .second, .val (.long qt), .second] [(.long ss1), (.long qe)])) _
    refine XS.lsub X105.here hx rfl (hb hby d3_22) rfl ?_
    show Steps p.tables e below (T105.setTop (mkF m 23 #[.val (.ref ax), .val (.long qz), .second, .val (.long qt), .second] [(.long (qe - ss1))])) _
    refine X105.ldc2Long hx hown (mvT hZ (own_w hw 39 rfl)) (g := (mkF m 23 #[.val (.ref ax), .val (.long qz), .second, .val (.long qt), .second] [(.long (qe - ss1))])) rfl (hb hby d3_23) _ ?_
    show Steps p.tables e below (T105.setTop (mkF m 26 #[.val (.ref ax), .val (.long qz), .second, .val (.long qt), .second] [(.long (65536 : Int64)), (.long (qe - ss1))])) _
    refine XS.lcmp X105.here hx rfl (hb hby d3_26) rfl ?_
    show Steps p.tables e below (T105.setTop (mkF m 27 #[.val (.ref ax), .val (.long qz), .second, .val (.long qt), .second] [(.int (lcmpW (qe - ss1) (65536 : Int64)))])) _
    refine XS.ifYes X105.here hx rfl (pc0 := 27) (pc' := 98) rfl (hb hby d3_27) rfl ((if0 _ _).trans (tlt ((lw_lt (qe - ss1) (65536 : Int64)).mpr hs)).1) (by decide) (by decide) ?_
    refine XS.aloadN X105.here hx rfl (hb hby d3_98) rfl rfl ?_
    refine XS.dup X105.here hx rfl (hb hby d3_99) rfl rfl ?_
    exact k
  obtain ⟨T107, X107, e107, st107⟩ := getF X105 hx hZ hown (host := "") (Or.inl (own_w hw 22 rfl)) Via.refl e105 Fend_ (g := (mkF m 100 #[.val (.ref ax), .val (.long qz), .second, .val (.long qt), .second] [(.ref ax), (.ref ax)])) rfl rfl (hb hby d3_100)
  refine own_pre (fun t k => st107 t k) ?_
  refine own_pre (A := (T107.setTop (mkF m 105 #[.val (.ref ax), .val (.long qz), .second, .val (.long qt), .second] [(.long (qe + qz)), (.ref ax)]))) ?_ ?_
  · intro t k
    show Steps p.tables e below (T107.setTop (mkF m 103 #[.val (.ref ax), .val (.long qz), .second, .val (.long qt), .second] [(.long qe), (.ref ax)])) _
    refine XS.lloadN X107.here hx rfl (hb hby d3_103) rfl ?_
    refine XS.ladd X107.here hx rfl (hb hby d3_104) rfl ?_
    exact k
  obtain ⟨T108, h108, X108, e108, W108, st108⟩ := putF X107 hx hZ hown (host := "") (Or.inl (own_w hw 22 rfl)) Via.refl e107 Fend_ Ea_ (Or.inl (own_w hw 23 rfl)) (own_w hw 3 rfl) (ty := .long) (by decide) rfl rfl (g := (mkF m 105 #[.val (.ref ax), .val (.long qz), .second, .val (.long qt), .second] [(.long (qe + qz)), (.ref ax)])) rfl rfl (hb hby d3_105)
  have Ea__108 := Ea_.wr W108
  have Fplaces__108 := Fplaces_.other W108 (Or.inr (slot_ne (Or.inl (own_w hw 13 rfl)) (Or.inl (own_w hw 23 rfl)) (by decide) (t := (.array .int)) (t' := .long) (by decide) (by decide)))
  have Fstarts__108 := Fstarts_.other W108 (Or.inr (slot_ne (Or.inl (own_w hw 16 rfl)) (Or.inl (own_w hw 23 rfl)) (by decide) (t := (.array .long)) (t' := .long) (by decide) (by decide)))
  have Ftimes__108 := Ftimes_.other W108 (Or.inr (slot_ne (Or.inl (own_w hw 18 rfl)) (Or.inl (own_w hw 23 rfl)) (by decide) (t := (.array .long)) (t' := .long) (by decide) (by decide)))
  have Fentries__108 := Fentries_.other W108 (Or.inr (slot_ne (Or.inl (own_w hw 30 rfl)) (Or.inl (own_w hw 23 rfl)) (by decide) (t := .int) (t' := .long) (by decide) (by decide)))
  have Fcount__108 := Fcount_.other W108 (Or.inr (slot_ne (Or.inl (own_w hw 32 rfl)) (Or.inl (own_w hw 23 rfl)) (by decide) (t := .int) (t' := .long) (by decide) (by decide)))
  have FlastTime__108 := FlastTime_.other W108 (Or.inr (slot_ne (Or.inl (own_w hw 21 rfl)) (Or.inl (own_w hw 23 rfl)) (by decide) (t := .long) (t' := .long) (by decide) (by decide)))
  have Vp__108 := Vp_.other W108 n0_.symm
  have Vs__108 := Vs_.other W108 n1_.symm
  have Vt__108 := Vt_.other W108 n2_.symm
  have Kc108 : Keep h0 h108 [ax, ap, ar, at'] := (Keep.refl h0 [ax, ap, ar, at']).wr W108 (Or.inl (List.mem_of_getElem? (i := 0) rfl))
  have N108 := Fr.snoc X108 N0 gg0_
  have Fw108 := Fend_.same W108
  refine own_pre (fun t k => st108 t k) ?_
  refine own_pre (A := (T108.setTop (mkF m 110 #[.val (.ref ax), .val (.long qz), .second, .val (.long qt), .second] [(.long qt), (.ref ax)]))) ?_ ?_
  · intro t k
    show Steps p.tables e below (T108.setTop (mkF m 108 #[.val (.ref ax), .val (.long qz), .second, .val (.long qt), .second] [])) _
    refine XS.aloadN X108.here hx rfl (hb hby d3_108) rfl rfl ?_
    refine XS.lloadN X108.here hx rfl (hb hby d3_109) rfl ?_
    exact k
  obtain ⟨T109, h109, X109, e109, W109, st109⟩ := putF X108 hx hZ hown (host := "") (Or.inl (own_w hw 20 rfl)) Via.refl e108 FlastTime__108 Ea__108 (Or.inl (own_w hw 21 rfl)) (own_w hw 3 rfl) (ty := .long) (by decide) rfl rfl (g := (mkF m 110 #[.val (.ref ax), .val (.long qz), .second, .val (.long qt), .second] [(.long qt), (.ref ax)])) rfl rfl (hb hby d3_110)
  have Ea__109 := Ea__108.wr W109
  have Fplaces__109 := Fplaces__108.other W109 (Or.inr (slot_ne (Or.inl (own_w hw 13 rfl)) (Or.inl (own_w hw 21 rfl)) (by decide) (t := (.array .int)) (t' := .long) (by decide) (by decide)))
  have Fstarts__109 := Fstarts__108.other W109 (Or.inr (slot_ne (Or.inl (own_w hw 16 rfl)) (Or.inl (own_w hw 21 rfl)) (by decide) (t := (.array .long)) (t' := .long) (by decide) (by decide)))
  have Ftimes__109 := Ftimes__108.other W109 (Or.inr (slot_ne (Or.inl (own_w hw 18 rfl)) (Or.inl (own_w hw 21 rfl)) (by decide) (t := (.array .long)) (t' := .long) (by decide) (by decide)))
  have Fentries__109 := Fentries__108.other W109 (Or.inr (slot_ne (Or.inl (own_w hw 30 rfl)) (Or.inl (own_w hw 21 rfl)) (by decide) (t := .int) (t' := .long) (by decide) (by decide)))
  have Fcount__109 := Fcount__108.other W109 (Or.inr (slot_ne (Or.inl (own_w hw 32 rfl)) (Or.inl (own_w hw 21 rfl)) (by decide) (t := .int) (t' := .long) (by decide) (by decide)))
  have Fw108_109 := Fw108.other W109 (Or.inr (slot_ne (Or.inl (own_w hw 23 rfl)) (Or.inl (own_w hw 21 rfl)) (by decide) (t := .long) (t' := .long) (by decide) (by decide)))
  have Vp__109 := Vp__108.other W109 n0_.symm
  have Vs__109 := Vs__108.other W109 n1_.symm
  have Vt__109 := Vt__108.other W109 n2_.symm
  have Kc109 : Keep h0 h109 [ax, ap, ar, at'] := Kc108.wr W109 (Or.inl (List.mem_of_getElem? (i := 0) rfl))
  have N109 := Fr.snoc X109 N108 gg0_
  have Fw109 := FlastTime__108.same W109
  refine own_pre (fun t k => st109 t k) ?_
  refine own_pre (A := (T109.setTop (mkF m 115 #[.val (.ref ax), .val (.long qz), .second, .val (.long qt), .second] [(.ref ax), (.ref ax)]))) ?_ ?_
  · intro t k
    show Steps p.tables e below (T109.setTop (mkF m 113 #[.val (.ref ax), .val (.long qz), .second, .val (.long qt), .second] [])) _
    refine XS.aloadN X109.here hx rfl (hb hby d3_113) rfl rfl ?_
    refine XS.dup X109.here hx rfl (hb hby d3_114) rfl rfl ?_
    exact k
  obtain ⟨T110, X110, e110, st110⟩ := getF X109 hx hZ hown (host := "") (Or.inl (own_w hw 31 rfl)) Via.refl e109 Fcount__109 (g := (mkF m 115 #[.val (.ref ax), .val (.long qz), .second, .val (.long qt), .second] [(.ref ax), (.ref ax)])) rfl rfl (hb hby d3_115)
  refine own_pre (fun t k => st110 t k) ?_
  refine own_pre (A := (T110.setTop (mkF m 120 #[.val (.ref ax), .val (.long qz), .second, .val (.long qt), .second] [(.int (ct + (1 : Int32))), (.ref ax)]))) ?_ ?_
  · intro t k
    show Steps p.tables e below (T110.setTop (mkF m 118 #[.val (.ref ax), .val (.long qz), .second, .val (.long qt), .second] [(.int ct), (.ref ax)])) _
    refine XS.iconst X110.here hx rfl (hb hby d3_118) ?_
    refine XS.iadd X110.here hx rfl (hb hby d3_119) rfl ?_
    exact k
  obtain ⟨T111, h111, X111, e111, W111, st111⟩ := putF X110 hx hZ hown (host := "") (Or.inl (own_w hw 31 rfl)) Via.refl e110 Fcount__109 Ea__109 (Or.inl (own_w hw 32 rfl)) (own_w hw 3 rfl) (ty := .int) (by decide) rfl rfl (g := (mkF m 120 #[.val (.ref ax), .val (.long qz), .second, .val (.long qt), .second] [(.int (ct + (1 : Int32))), (.ref ax)])) rfl rfl (hb hby d3_120)
  have Ea__111 := Ea__109.wr W111
  have Fplaces__111 := Fplaces__109.other W111 (Or.inr (slot_ne (Or.inl (own_w hw 13 rfl)) (Or.inl (own_w hw 32 rfl)) (by decide) (t := (.array .int)) (t' := .int) (by decide) (by decide)))
  have Fstarts__111 := Fstarts__109.other W111 (Or.inr (slot_ne (Or.inl (own_w hw 16 rfl)) (Or.inl (own_w hw 32 rfl)) (by decide) (t := (.array .long)) (t' := .int) (by decide) (by decide)))
  have Ftimes__111 := Ftimes__109.other W111 (Or.inr (slot_ne (Or.inl (own_w hw 18 rfl)) (Or.inl (own_w hw 32 rfl)) (by decide) (t := (.array .long)) (t' := .int) (by decide) (by decide)))
  have Fentries__111 := Fentries__109.other W111 (Or.inr (slot_ne (Or.inl (own_w hw 30 rfl)) (Or.inl (own_w hw 32 rfl)) (by decide) (t := .int) (t' := .int) (by decide) (by decide)))
  have Fw108_111 := Fw108_109.other W111 (Or.inr (slot_ne (Or.inl (own_w hw 23 rfl)) (Or.inl (own_w hw 32 rfl)) (by decide) (t := .long) (t' := .int) (by decide) (by decide)))
  have Fw109_111 := Fw109.other W111 (Or.inr (slot_ne (Or.inl (own_w hw 21 rfl)) (Or.inl (own_w hw 32 rfl)) (by decide) (t := .long) (t' := .int) (by decide) (by decide)))
  have Vp__111 := Vp__109.other W111 n0_.symm
  have Vs__111 := Vs__109.other W111 n1_.symm
  have Vt__111 := Vt__109.other W111 n2_.symm
  have Kc111 : Keep h0 h111 [ax, ap, ar, at'] := Kc109.wr W111 (Or.inl (List.mem_of_getElem? (i := 0) rfl))
  have N111 := Fr.snoc X111 N109 gg0_
  have Fw111 := Fcount__109.same W111
  refine own_pre (fun t k => st111 t k) ?_
  obtain ⟨fs, hr, hrun, hended, hW, hsame⟩ := X111.leave (hlocks := BodyLoose.notSynchronized Bd) (v := none) (fun _ => rfl)
  refine ⟨_, _, X111.returnOut hx Bd.returns (hb hby d3_123) hr, hrun, hended, _, _, rfl, ?_, ⟨_, rfl⟩, hW, hsame.mono (by decide) (by decide)⟩
  show own_Q3_2A Z ax qz qt ap ar at' kp ks ct qe ql pp0 pp1 pp2 pp3 ss0 ss1 ss2 ss3 h0 n0 _ T111.heap _
  rw [e111]
  exact ⟨rfl, N111, Kc111, ⟨Ea__111, Fplaces__111, Fstarts__111, Ftimes__111, Fentries__111, Fw111, Fw108_111, Fw109_111, Vp__111, Vs__111, Vt__111, n0_, n1_, n2_, n3_, n4_, n5_, gg0_, gg1_, gg2_, gg3_⟩⟩
def own_Q3_2B (Z : State) (ax : Addr) (qz : Int64) (qt : Int64) (ap : Addr) (ar : Addr) (at' : Addr) (kp : ClassId) (ks : ClassId) (ct : Int32) (qe : Int64) (ql : Int64) (pp0 : Int32) (pp1 : Int32) (pp2 : Int32) (pp3 : Int32) (ss0 : Int64) (ss1 : Int64) (ss2 : Int64) (ss3 : Int64) (h0 : Heap) (n0 : Nat) (v : Option Value) (h : Heap) (L : List Loc) : Prop := v = none ∧ Fr n0 L ∧ Keep h0 h [ax, ap, ar, at'] ∧ own_SI Z h n0 ax ap ar at' kp ks (3 : Int32) (ct + (1 : Int32)) (qe + qz) qt pp0 pp1 ct pp3 ss0 ss1 qe ss3
set_option maxRecDepth 65536 in
set_option maxHeartbeats 40000000 in
theorem rm3_2B (l : Launch) (Z : State) (a0 : Array Value) (hw : ∀ d ∈ tables_1, d.before a0 Z = true) (ws : List Jvm.Cond) (ax : Addr) (qz : Int64) (qt : Int64) (ap : Addr) (ar : Addr) (at' : Addr) (kp : ClassId) (ks : ClassId) (ct : Int32) (qe : Int64) (ql : Int64) (pp0 : Int32) (pp1 : Int32) (pp2 : Int32) (pp3 : Int32) (ss0 : Int64) (ss1 : Int64) (ss2 : Int64) (ss3 : Int64) (h0 : Heap) (n0 : Nat) (Z0 : n0 ≤ h0.size) (B : own_SI Z h0 n0 ax ap ar at' kp ks (2 : Int32) ct qe ql pp0 pp1 pp2 pp3 ss0 ss1 ss2 ss3) (hs : ¬ (qe - ss1) < (65536 : Int64)) :
    MetFree l (⟨"com/example/coho/coho/eventlog/SegmentIndex", "add", "(JJ)V"⟩ : MethodName) (head1 (Jvm.Cond.code (⟨"com/example/coho/coho/eventlog/SegmentIndex", "add", "(JJ)V"⟩ : MethodName) prog_34_method_2_code 5 none :: ws) ({ frames := 0, cells := 0, slots := 0, locals := 0 } : Room)) (fun a U => a = #[(.ref ax), (.long qz), (.long qt)] ∧ Z.Warmed39 U.vm ∧ U.heap = h0) (fun _ _ _ _ _ => True) (fun _ U o U' => ∃ v L, o = .returned v ∧ own_Q3_2B Z ax qz qt ap ar at' kp ks ct qe ql pp0 pp1 pp2 pp3 ss0 ss1 ss2 ss3 h0 n0 v U'.heap L ∧ FrameEnd U o U' L ({ frames := 0, cells := 0, slots := 0, locals := 0 } : Room).cells ({ frames := 0, cells := 0, slots := 0, locals := 0 } : Room).slots) := by
  refine MetFree.of_bodySF (plainFor_of_name own_pn3) hisR ?_
  intro p e s m args below meth c s₁ Bd hml0 hP hK
  obtain ⟨rfl, hZ, hh⟩ := hP
  have hx := Bd.exec
  have hby := Bd.bytes
  have hml : c.maxLocals = 5 := hml0
  have hown : s.vm.findClass "com/example/coho/coho/eventlog/SegmentIndex" = some m.cls := findClass_of_methodNamed Bd.named
  have hnm := (name_of_methodNamed Bd.named Bd.method).1
  have X0 : Stand p l e ({ frames := 0, cells := 0, slots := 0, locals := 0 } : Room) s m #[(.ref ax), (.long qz), (.long qt)] below meth c s₁ [] 0 0 := Stand.of_body Bd
  have e0 : s₁.heap = h0 := by rw [← hh, Bd.state]; rfl
  have N0 := Fr.nil n0
  refine own_pre (A := (s₁.setTop (mkF m 0 #[.val (.ref ax), .val (.long qz), .second, .val (.long qt), .second] []))) (fun t k => castTop (own_ef3 m ax qz qt) k) ?_
  obtain ⟨Ea_, Fplaces_, Fstarts_, Ftimes_, Fentries_, Fcount_, Fend_, FlastTime_, Vp_, Vs_, Vt_, n0_, n1_, n2_, n3_, n4_, n5_, gg0_, gg1_, gg2_, gg3_⟩ := B
  refine own_pre (A := (s₁.setTop (mkF m 1 #[.val (.ref ax), .val (.long qz), .second, .val (.long qt), .second] [(.ref ax)]))) ?_ ?_
  · intro t k
    show Steps p.tables e below (s₁.setTop (mkF m 0 #[.val (.ref ax), .val (.long qz), .second, .val (.long qt), .second] [])) _
    refine XS.aloadN X0.here hx rfl (hb hby d3_0) rfl rfl ?_
    exact k
  obtain ⟨T115, X115, e115, st115⟩ := getF X0 hx hZ hown (host := "") (Or.inl (own_w hw 29 rfl)) Via.refl e0 Fentries_ (g := (mkF m 1 #[.val (.ref ax), .val (.long qz), .second, .val (.long qt), .second] [(.ref ax)])) rfl rfl (hb hby d3_1)
  refine own_pre (fun t k => st115 t k) ?_
  refine own_pre (A := (T115.setTop (mkF m 8 #[.val (.ref ax), .val (.long qz), .second, .val (.long qt), .second] [(.ref ax)]))) ?_ ?_
  · intro t k
    show Steps p.tables e below (T115.setTop (mkF m 4 #[.val (.ref ax), .val (.long qz), .second, .val (.long qt), .second] [(.int (2 : Int32))])) _
    refine XS.ifNo X115.here hx rfl (hb hby d3_4) rfl ((if0 _ _).trans (feq (by decide : ¬ ((2 : Int32) = (0 : Int32)))).1) ?_
    refine XS.aloadN X115.here hx rfl (hb hby d3_7) rfl rfl ?_
    exact k
  obtain ⟨T116, X116, e116, st116⟩ := getF X115 hx hZ hown (host := "") (Or.inl (own_w hw 22 rfl)) Via.refl e115 Fend_ (g := (mkF m 8 #[.val (.ref ax), .val (.long qz), .second, .val (.long qt), .second] [(.ref ax)])) rfl rfl (hb hby d3_8)
  refine own_pre (fun t k => st116 t k) ?_
  refine own_pre (A := (T116.setTop (mkF m 12 #[.val (.ref ax), .val (.long qz), .second, .val (.long qt), .second] [(.ref ax), (.long qe)]))) ?_ ?_
  · intro t k
    show Steps p.tables e below (T116.setTop (mkF m 11 #[.val (.ref ax), .val (.long qz), .second, .val (.long qt), .second] [(.long qe)])) _
    refine XS.aloadN X116.here hx rfl (hb hby d3_11) rfl rfl ?_
    exact k
  obtain ⟨T117, X117, e117, st117⟩ := getF X116 hx hZ hown (host := "") (Or.inl (own_w hw 15 rfl)) Via.refl e116 Fstarts_ (g := (mkF m 12 #[.val (.ref ax), .val (.long qz), .second, .val (.long qt), .second] [(.ref ax), (.long qe)])) rfl rfl (hb hby d3_12)
  refine own_pre (fun t k => st117 t k) ?_
  refine own_pre (A := (T117.setTop (mkF m 16 #[.val (.ref ax), .val (.long qz), .second, .val (.long qt), .second] [(.ref ax), (.ref ar), (.long qe)]))) ?_ ?_
  · intro t k
    show Steps p.tables e below (T117.setTop (mkF m 15 #[.val (.ref ax), .val (.long qz), .second, .val (.long qt), .second] [(.ref ar), (.long qe)])) _
    refine XS.aloadN X117.here hx rfl (hb hby d3_15) rfl rfl ?_
    exact k
  obtain ⟨T118, X118, e118, st118⟩ := getF X117 hx hZ hown (host := "") (Or.inl (own_w hw 29 rfl)) Via.refl e117 Fentries_ (g := (mkF m 16 #[.val (.ref ax), .val (.long qz), .second, .val (.long qt), .second] [(.ref ax), (.ref ar), (.long qe)])) rfl rfl (hb hby d3_16)
  refine own_pre (fun t k => st118 t k) ?_
  refine own_pre (A := (T118.setTop (mkF m 31 #[.val (.ref ax), .val (.long qz), .second, .val (.long qt), .second] [(.ref ax)]))) ?_ ?_
  · intro t k
    show Steps p.tables e below (T118.setTop (mkF m 19 #[.val (.ref ax), .val (.long qz), .second, .val (.long qt), .second] [(.int (2 : Int32)), (.ref ar), (.long qe)])) _
    refine XS.iconst X118.here hx rfl (hb hby d3_19) ?_
    refine XS.isub X118.here hx rfl (hb hby d3_20) rfl ?_
    show Steps p.tables e below (T118.setTop (mkF m 21 #[.val (.ref ax), .val (.long qz), .second, .val (.long qt), .second] [(.int ((2 : Int32) - (1 : Int32))), (.ref ar), (.long qe)])) _
    rw [show ((2 : Int32) - (1 : Int32)) = (1 : Int32) from by decide]
    show Steps p.tables e below (T118.setTop (mkF m 21 #[.val (.ref ax), .val (.long qz), .second, .val (.long qt), .second] [(.int (1 : Int32)), (.ref ar), (.long qe)])) _
    obtain ⟨cl119, Ar119, q119, S119, N119, H119, G119⟩ := Vs_
    have hin119 : ¬ ((1 : Int32) < 0 ∨ cl119.slots.size ≤ ((1 : Int32)).toNatClampNeg) := inb_of S119 ⟨by decide, by decide⟩
    refine X118.laload hx (j := (1 : Int32)) (v := (.long ss1)) (by rw [e118]; exact Ar119.1) (State.isArrayOf_alike hZ.alike Ar119.2.1) Ar119.2.2 hin119 (H119.at hin119 rfl) (g := (mkF m 21 #[.val (.ref ax), .val (.long qz), .second, .val (.long qt), .second] [(.int (1 : Int32)), (.ref ar), (.long qe)])) rfl rfl (hb hby d3_21) _ ?_
    show Steps p.tables e below (T118.setTop (mkF m 22 #[.val (.ref ax), .val (.long qz), .second, .val (.long qt), .second] [(.long ss1), (.long qe)])) _
    refine XS.lsub X118.here hx rfl (hb hby d3_22) rfl ?_
    show Steps p.tables e below (T118.setTop (mkF m 23 #[.val (.ref ax), .val (.long qz), .second, .val (.long qt), .second] [(.long (qe - ss1))])) _
    refine X118.ldc2Long hx hown (mvT hZ (own_w hw 39 rfl)) (g := (mkF m 23 #[.val (.ref ax), .val (.long qz), .second, .val (.long qt), .second] [(.long (qe - ss1))])) rfl (hb hby d3_23) _ ?_
    show Steps p.tables e below (T118.setTop (mkF m 26 #[.val (.ref ax), .val (.long qz), .second, .val (.long qt), .second] [(.long (65536 : Int64)), (.long (qe - ss1))])) _
    refine XS.lcmp X118.here hx rfl (hb hby d3_26) rfl ?_
    refine XS.ifNo X118.here hx rfl (hb hby d3_27) rfl ((if0 _ _).trans (flt (fun q => hs ((lw_lt (qe - ss1) (65536 : Int64)).mp q))).1) ?_
    refine XS.aloadN X118.here hx rfl (hb hby d3_30) rfl rfl ?_
    exact k
  obtain ⟨T120, X120, e120, st120⟩ := getF X118 hx hZ hown (host := "") (Or.inl (own_w hw 29 rfl)) Via.refl e118 Fentries_ (g := (mkF m 31 #[.val (.ref ax), .val (.long qz), .second, .val (.long qt), .second] [(.ref ax)])) rfl rfl (hb hby d3_31)
  refine own_pre (fun t k => st120 t k) ?_
  refine own_pre (A := (T120.setTop (mkF m 35 #[.val (.ref ax), .val (.long qz), .second, .val (.long qt), .second] [(.ref ax), (.int (2 : Int32))]))) ?_ ?_
  · intro t k
    show Steps p.tables e below (T120.setTop (mkF m 34 #[.val (.ref ax), .val (.long qz), .second, .val (.long qt), .second] [(.int (2 : Int32))])) _
    refine XS.aloadN X120.here hx rfl (hb hby d3_34) rfl rfl ?_
    exact k
  obtain ⟨T121, X121, e121, st121⟩ := getF X120 hx hZ hown (host := "") (Or.inl (own_w hw 12 rfl)) Via.refl e120 Fplaces_ (g := (mkF m 35 #[.val (.ref ax), .val (.long qz), .second, .val (.long qt), .second] [(.ref ax), (.int (2 : Int32))])) rfl rfl (hb hby d3_35)
  refine own_pre (fun t k => st121 t k) ?_
  refine own_pre (A := (T121.setTop (mkF m 53 #[.val (.ref ax), .val (.long qz), .second, .val (.long qt), .second] [(.ref ax)]))) ?_ ?_
  · intro t k
    show Steps p.tables e below (T121.setTop (mkF m 38 #[.val (.ref ax), .val (.long qz), .second, .val (.long qt), .second] [(.ref ap), (.int (2 : Int32))])) _
    obtain ⟨cl122, Ar122, -, S122, N122, -, -⟩ := Vp_
    refine X121.arraylength hx (by rw [e121]; exact Ar122.1) (State.isArrayOf_alike hZ.alike Ar122.2.1) (g := (mkF m 38 #[.val (.ref ax), .val (.long qz), .second, .val (.long qt), .second] [(.ref ap), (.int (2 : Int32))])) rfl rfl (hb hby d3_38) _ ?_
    rw [len_of S122 N122]
    show Steps p.tables e below (T121.setTop (mkF m 39 #[.val (.ref ax), .val (.long qz), .second, .val (.long qt), .second] [(.int (4 : Int32)), (.int (2 : Int32))])) _
    refine XS.icmpYes X121.here hx rfl (pc0 := 39) (pc' := 52) rfl (hb hby d3_39) rfl (feq (by decide : ¬ ((2 : Int32) = (4 : Int32)))).2 (by decide) (by decide) ?_
    refine XS.aloadN X121.here hx rfl (hb hby d3_52) rfl rfl ?_
    exact k
  obtain ⟨T123, X123, e123, st123⟩ := getF X121 hx hZ hown (host := "") (Or.inl (own_w hw 12 rfl)) Via.refl e121 Fplaces_ (g := (mkF m 53 #[.val (.ref ax), .val (.long qz), .second, .val (.long qt), .second] [(.ref ax)])) rfl rfl (hb hby d3_53)
  refine own_pre (fun t k => st123 t k) ?_
  refine own_pre (A := (T123.setTop (mkF m 57 #[.val (.ref ax), .val (.long qz), .second, .val (.long qt), .second] [(.ref ax), (.ref ap)]))) ?_ ?_
  · intro t k
    show Steps p.tables e below (T123.setTop (mkF m 56 #[.val (.ref ax), .val (.long qz), .second, .val (.long qt), .second] [(.ref ap)])) _
    refine XS.aloadN X123.here hx rfl (hb hby d3_56) rfl rfl ?_
    exact k
  obtain ⟨T124, X124, e124, st124⟩ := getF X123 hx hZ hown (host := "") (Or.inl (own_w hw 29 rfl)) Via.refl e123 Fentries_ (g := (mkF m 57 #[.val (.ref ax), .val (.long qz), .second, .val (.long qt), .second] [(.ref ax), (.ref ap)])) rfl rfl (hb hby d3_57)
  refine own_pre (fun t k => st124 t k) ?_
  refine own_pre (A := (T124.setTop (mkF m 61 #[.val (.ref ax), .val (.long qz), .second, .val (.long qt), .second] [(.ref ax), (.int (2 : Int32)), (.ref ap)]))) ?_ ?_
  · intro t k
    show Steps p.tables e below (T124.setTop (mkF m 60 #[.val (.ref ax), .val (.long qz), .second, .val (.long qt), .second] [(.int (2 : Int32)), (.ref ap)])) _
    refine XS.aloadN X124.here hx rfl (hb hby d3_60) rfl rfl ?_
    exact k
  obtain ⟨T125, X125, e125, st125⟩ := getF X124 hx hZ hown (host := "") (Or.inl (own_w hw 31 rfl)) Via.refl e124 Fcount_ (g := (mkF m 61 #[.val (.ref ax), .val (.long qz), .second, .val (.long qt), .second] [(.ref ax), (.int (2 : Int32)), (.ref ap)])) rfl rfl (hb hby d3_61)
  refine own_pre (fun t k => st125 t k) ?_
  obtain ⟨cl126, Ar126, q126, S126, N126, H126, G126⟩ := Vp_
  have hin126 : ¬ ((2 : Int32) < 0 ∨ cl126.slots.size ≤ ((2 : Int32)).toNatClampNeg) := inb_of S126 ⟨by decide, by decide⟩
  obtain ⟨T126, h126, X126, e126, W126, st126⟩ := stI X125 hx hZ e125 Ar126 (j := (2 : Int32)) hin126 (g := (mkF m 64 #[.val (.ref ax), .val (.long qz), .second, .val (.long qt), .second] [(.int ct), (.int (2 : Int32)), (.ref ap)])) rfl rfl (hb hby d3_64)
  have V126 : Arv Z h126 ap kp .int (4 : Int32) [(.int pp0), (.int pp1), (.int ct), (.int pp3)] (.int (0 : Int32)) := Arv.set Ar126 q126 S126 N126 H126 G126 rfl W126 2 rfl (Nat.le_of_ble_eq_true rfl)
  have Ea__126 := Ea_.wr W126
  have Fplaces__126 := Fplaces_.other W126 (Or.inl n0_)
  have Fstarts__126 := Fstarts_.other W126 (Or.inl n0_)
  have Ftimes__126 := Ftimes_.other W126 (Or.inl n0_)
  have Fentries__126 := Fentries_.other W126 (Or.inl n0_)
  have Fcount__126 := Fcount_.other W126 (Or.inl n0_)
  have Fend__126 := Fend_.other W126 (Or.inl n0_)
  have FlastTime__126 := FlastTime_.other W126 (Or.inl n0_)
  have Vs__126 := Vs_.other W126 n3_.symm
  have Vt__126 := Vt_.other W126 n4_.symm
  have Kc126 : Keep h0 h126 [ax, ap, ar, at'] := (Keep.refl h0 [ax, ap, ar, at']).wr W126 (Or.inl (List.mem_of_getElem? (i := 1) rfl))
  have N126 := Fr.snoc X126 N0 gg1_
  refine own_pre (fun t k => st126 t k) ?_
  refine own_pre (A := (T126.setTop (mkF m 66 #[.val (.ref ax), .val (.long qz), .second, .val (.long qt), .second] [(.ref ax)]))) ?_ ?_
  · intro t k
    show Steps p.tables e below (T126.setTop (mkF m 65 #[.val (.ref ax), .val (.long qz), .second, .val (.long qt), .second] [])) _
    refine XS.aloadN X126.here hx rfl (hb hby d3_65) rfl rfl ?_
    exact k
  obtain ⟨T127, X127, e127, st127⟩ := getF X126 hx hZ hown (host := "") (Or.inl (own_w hw 15 rfl)) Via.refl e126 Fstarts__126 (g := (mkF m 66 #[.val (.ref ax), .val (.long qz), .second, .val (.long qt), .second] [(.ref ax)])) rfl rfl (hb hby d3_66)
  refine own_pre (fun t k => st127 t k) ?_
  refine own_pre (A := (T127.setTop (mkF m 70 #[.val (.ref ax), .val (.long qz), .second, .val (.long qt), .second] [(.ref ax), (.ref ar)]))) ?_ ?_
  · intro t k
    show Steps p.tables e below (T127.setTop (mkF m 69 #[.val (.ref ax), .val (.long qz), .second, .val (.long qt), .second] [(.ref ar)])) _
    refine XS.aloadN X127.here hx rfl (hb hby d3_69) rfl rfl ?_
    exact k
  obtain ⟨T128, X128, e128, st128⟩ := getF X127 hx hZ hown (host := "") (Or.inl (own_w hw 29 rfl)) Via.refl e127 Fentries__126 (g := (mkF m 70 #[.val (.ref ax), .val (.long qz), .second, .val (.long qt), .second] [(.ref ax), (.ref ar)])) rfl rfl (hb hby d3_70)
  refine own_pre (fun t k => st128 t k) ?_
  refine own_pre (A := (T128.setTop (mkF m 74 #[.val (.ref ax), .val (.long qz), .second, .val (.long qt), .second] [(.ref ax), (.int (2 : Int32)), (.ref ar)]))) ?_ ?_
  · intro t k
    show Steps p.tables e below (T128.setTop (mkF m 73 #[.val (.ref ax), .val (.long qz), .second, .val (.long qt), .second] [(.int (2 : Int32)), (.ref ar)])) _
    refine XS.aloadN X128.here hx rfl (hb hby d3_73) rfl rfl ?_
    exact k
  obtain ⟨T129, X129, e129, st129⟩ := getF X128 hx hZ hown (host := "") (Or.inl (own_w hw 22 rfl)) Via.refl e128 Fend__126 (g := (mkF m 74 #[.val (.ref ax), .val (.long qz), .second, .val (.long qt), .second] [(.ref ax), (.int (2 : Int32)), (.ref ar)])) rfl rfl (hb hby d3_74)
  refine own_pre (fun t k => st129 t k) ?_
  obtain ⟨cl130, Ar130, q130, S130, N130, H130, G130⟩ := Vs__126
  have hin130 : ¬ ((2 : Int32) < 0 ∨ cl130.slots.size ≤ ((2 : Int32)).toNatClampNeg) := inb_of S130 ⟨by decide, by decide⟩
  obtain ⟨T130, h130, X130, e130, W130, st130⟩ := stJ X129 hx hZ e129 Ar130 (j := (2 : Int32)) hin130 (g := (mkF m 77 #[.val (.ref ax), .val (.long qz), .second, .val (.long qt), .second] [(.long qe), (.int (2 : Int32)), (.ref ar)])) rfl rfl (hb hby d3_77)
  have V130 : Arv Z h130 ar ks .long (4 : Int32) [(.long ss0), (.long ss1), (.long qe), (.long ss3)] (.long (0 : Int64)) := Arv.set Ar130 q130 S130 N130 H130 G130 rfl W130 2 rfl (Nat.le_of_ble_eq_true rfl)
  have Ea__130 := Ea__126.wr W130
  have Fplaces__130 := Fplaces__126.other W130 (Or.inl n1_)
  have Fstarts__130 := Fstarts__126.other W130 (Or.inl n1_)
  have Ftimes__130 := Ftimes__126.other W130 (Or.inl n1_)
  have Fentries__130 := Fentries__126.other W130 (Or.inl n1_)
  have Fcount__130 := Fcount__126.other W130 (Or.inl n1_)
  have Fend__130 := Fend__126.other W130 (Or.inl n1_)
  have FlastTime__130 := FlastTime__126.other W130 (Or.inl n1_)
  have V126_130 := V126.other W130 n3_
  have Vt__130 := Vt__126.other W130 n5_.symm
  have Kc130 : Keep h0 h130 [ax, ap, ar, at'] := Kc126.wr W130 (Or.inl (List.mem_of_getElem? (i := 2) rfl))
  have N130 := Fr.snoc X130 N126 gg2_
  refine own_pre (fun t k => st130 t k) ?_
  refine own_pre (A := (T130.setTop (mkF m 79 #[.val (.ref ax), .val (.long qz), .second, .val (.long qt), .second] [(.ref ax)]))) ?_ ?_
  · intro t k
    show Steps p.tables e below (T130.setTop (mkF m 78 #[.val (.ref ax), .val (.long qz), .second, .val (.long qt), .second] [])) _
    refine XS.aloadN X130.here hx rfl (hb hby d3_78) rfl rfl ?_
    exact k
  obtain ⟨T131, X131, e131, st131⟩ := getF X130 hx hZ hown (host := "") (Or.inl (own_w hw 17 rfl)) Via.refl e130 Ftimes__130 (g := (mkF m 79 #[.val (.ref ax), .val (.long qz), .second, .val (.long qt), .second] [(.ref ax)])) rfl rfl (hb hby d3_79)
  refine own_pre (fun t k => st131 t k) ?_
  refine own_pre (A := (T131.setTop (mkF m 83 #[.val (.ref ax), .val (.long qz), .second, .val (.long qt), .second] [(.ref ax), (.ref at')]))) ?_ ?_
  · intro t k
    show Steps p.tables e below (T131.setTop (mkF m 82 #[.val (.ref ax), .val (.long qz), .second, .val (.long qt), .second] [(.ref at')])) _
    refine XS.aloadN X131.here hx rfl (hb hby d3_82) rfl rfl ?_
    exact k
  obtain ⟨T132, X132, e132, st132⟩ := getF X131 hx hZ hown (host := "") (Or.inl (own_w hw 29 rfl)) Via.refl e131 Fentries__130 (g := (mkF m 83 #[.val (.ref ax), .val (.long qz), .second, .val (.long qt), .second] [(.ref ax), (.ref at')])) rfl rfl (hb hby d3_83)
  refine own_pre (fun t k => st132 t k) ?_
  refine own_pre (A := (T132.setTop (mkF m 87 #[.val (.ref ax), .val (.long qz), .second, .val (.long qt), .second] [(.long qt), (.int (2 : Int32)), (.ref at')]))) ?_ ?_
  · intro t k
    show Steps p.tables e below (T132.setTop (mkF m 86 #[.val (.ref ax), .val (.long qz), .second, .val (.long qt), .second] [(.int (2 : Int32)), (.ref at')])) _
    refine XS.lloadN X132.here hx rfl (hb hby d3_86) rfl ?_
    exact k
  obtain ⟨cl133, Ar133, S133, N133⟩ := Vt__130
  have hin133 : ¬ ((2 : Int32) < 0 ∨ cl133.slots.size ≤ ((2 : Int32)).toNatClampNeg) := inb_of S133 ⟨by decide, by decide⟩
  obtain ⟨T133, h133, X133, e133, W133, st133⟩ := stJ X132 hx hZ e132 Ar133 (j := (2 : Int32)) hin133 (g := (mkF m 87 #[.val (.ref ax), .val (.long qz), .second, .val (.long qt), .second] [(.long qt), (.int (2 : Int32)), (.ref at')])) rfl rfl (hb hby d3_87)
  have V133 : own_Al Z h133 at' .long (4 : Int32) := ⟨_, Ar133.same W133, (sz_set _ _ _).trans S133, N133⟩
  have Ea__133 := Ea__130.wr W133
  have Fplaces__133 := Fplaces__130.other W133 (Or.inl n2_)
  have Fstarts__133 := Fstarts__130.other W133 (Or.inl n2_)
  have Ftimes__133 := Ftimes__130.other W133 (Or.inl n2_)
  have Fentries__133 := Fentries__130.other W133 (Or.inl n2_)
  have Fcount__133 := Fcount__130.other W133 (Or.inl n2_)
  have Fend__133 := Fend__130.other W133 (Or.inl n2_)
  have FlastTime__133 := FlastTime__130.other W133 (Or.inl n2_)
  have V126_133 := V126_130.other W133 n4_
  have V130_133 := V130.other W133 n5_
  have Kc133 : Keep h0 h133 [ax, ap, ar, at'] := Kc130.wr W133 (Or.inl (List.mem_of_getElem? (i := 3) rfl))
  have N133 := Fr.snoc X133 N130 gg3_
  refine own_pre (fun t k => st133 t k) ?_
  refine own_pre (A := (T133.setTop (mkF m 90 #[.val (.ref ax), .val (.long qz), .second, .val (.long qt), .second] [(.ref ax), (.ref ax)]))) ?_ ?_
  · intro t k
    show Steps p.tables e below (T133.setTop (mkF m 88 #[.val (.ref ax), .val (.long qz), .second, .val (.long qt), .second] [])) _
    refine XS.aloadN X133.here hx rfl (hb hby d3_88) rfl rfl ?_
    refine XS.dup X133.here hx rfl (hb hby d3_89) rfl rfl ?_
    exact k
  obtain ⟨T134, X134, e134, st134⟩ := getF X133 hx hZ hown (host := "") (Or.inl (own_w hw 29 rfl)) Via.refl e133 Fentries__133 (g := (mkF m 90 #[.val (.ref ax), .val (.long qz), .second, .val (.long qt), .second] [(.ref ax), (.ref ax)])) rfl rfl (hb hby d3_90)
  refine own_pre (fun t k => st134 t k) ?_
  refine own_pre (A := (T134.setTop (mkF m 95 #[.val (.ref ax), .val (.long qz), .second, .val (.long qt), .second] [(.int (3 : Int32)), (.ref ax)]))) ?_ ?_
  · intro t k
    show Steps p.tables e below (T134.setTop (mkF m 93 #[.val (.ref ax), .val (.long qz), .second, .val (.long qt), .second] [(.int (2 : Int32)), (.ref ax)])) _
    refine XS.iconst X134.here hx rfl (hb hby d3_93) ?_
    refine XS.iadd X134.here hx rfl (hb hby d3_94) rfl ?_
    show Steps p.tables e below (T134.setTop (mkF m 95 #[.val (.ref ax), .val (.long qz), .second, .val (.long qt), .second] [(.int ((2 : Int32) + (1 : Int32))), (.ref ax)])) _
    rw [show ((2 : Int32) + (1 : Int32)) = (3 : Int32) from by decide]
    exact k
  obtain ⟨T135, h135, X135, e135, W135, st135⟩ := putF X134 hx hZ hown (host := "") (Or.inl (own_w hw 29 rfl)) Via.refl e134 Fentries__133 Ea__133 (Or.inl (own_w hw 30 rfl)) (own_w hw 3 rfl) (ty := .int) (by decide) rfl rfl (g := (mkF m 95 #[.val (.ref ax), .val (.long qz), .second, .val (.long qt), .second] [(.int (3 : Int32)), (.ref ax)])) rfl rfl (hb hby d3_95)
  have Ea__135 := Ea__133.wr W135
  have Fplaces__135 := Fplaces__133.other W135 (Or.inr (slot_ne (Or.inl (own_w hw 13 rfl)) (Or.inl (own_w hw 30 rfl)) (by decide) (t := (.array .int)) (t' := .int) (by decide) (by decide)))
  have Fstarts__135 := Fstarts__133.other W135 (Or.inr (slot_ne (Or.inl (own_w hw 16 rfl)) (Or.inl (own_w hw 30 rfl)) (by decide) (t := (.array .long)) (t' := .int) (by decide) (by decide)))
  have Ftimes__135 := Ftimes__133.other W135 (Or.inr (slot_ne (Or.inl (own_w hw 18 rfl)) (Or.inl (own_w hw 30 rfl)) (by decide) (t := (.array .long)) (t' := .int) (by decide) (by decide)))
  have Fcount__135 := Fcount__133.other W135 (Or.inr (slot_ne (Or.inl (own_w hw 32 rfl)) (Or.inl (own_w hw 30 rfl)) (by decide) (t := .int) (t' := .int) (by decide) (by decide)))
  have Fend__135 := Fend__133.other W135 (Or.inr (slot_ne (Or.inl (own_w hw 23 rfl)) (Or.inl (own_w hw 30 rfl)) (by decide) (t := .long) (t' := .int) (by decide) (by decide)))
  have FlastTime__135 := FlastTime__133.other W135 (Or.inr (slot_ne (Or.inl (own_w hw 21 rfl)) (Or.inl (own_w hw 30 rfl)) (by decide) (t := .long) (t' := .int) (by decide) (by decide)))
  have V126_135 := V126_133.other W135 n0_.symm
  have V130_135 := V130_133.other W135 n1_.symm
  have V133_135 := V133.other W135 n2_.symm
  have Kc135 : Keep h0 h135 [ax, ap, ar, at'] := Kc133.wr W135 (Or.inl (List.mem_of_getElem? (i := 0) rfl))
  have N135 := Fr.snoc X135 N133 gg0_
  have Fw135 := Fentries__133.same W135
  refine own_pre (fun t k => st135 t k) ?_
  refine own_pre (A := (T135.setTop (mkF m 100 #[.val (.ref ax), .val (.long qz), .second, .val (.long qt), .second] [(.ref ax), (.ref ax)]))) ?_ ?_
  · intro t k
    show Steps p.tables e below (T135.setTop (mkF m 98 #[.val (.ref ax), .val (.long qz), .second, .val (.long qt), .second] [])) _
    refine XS.aloadN X135.here hx rfl (hb hby d3_98) rfl rfl ?_
    refine XS.dup X135.here hx rfl (hb hby d3_99) rfl rfl ?_
    exact k
  obtain ⟨T136, X136, e136, st136⟩ := getF X135 hx hZ hown (host := "") (Or.inl (own_w hw 22 rfl)) Via.refl e135 Fend__135 (g := (mkF m 100 #[.val (.ref ax), .val (.long qz), .second, .val (.long qt), .second] [(.ref ax), (.ref ax)])) rfl rfl (hb hby d3_100)
  refine own_pre (fun t k => st136 t k) ?_
  refine own_pre (A := (T136.setTop (mkF m 105 #[.val (.ref ax), .val (.long qz), .second, .val (.long qt), .second] [(.long (qe + qz)), (.ref ax)]))) ?_ ?_
  · intro t k
    show Steps p.tables e below (T136.setTop (mkF m 103 #[.val (.ref ax), .val (.long qz), .second, .val (.long qt), .second] [(.long qe), (.ref ax)])) _
    refine XS.lloadN X136.here hx rfl (hb hby d3_103) rfl ?_
    refine XS.ladd X136.here hx rfl (hb hby d3_104) rfl ?_
    exact k
  obtain ⟨T137, h137, X137, e137, W137, st137⟩ := putF X136 hx hZ hown (host := "") (Or.inl (own_w hw 22 rfl)) Via.refl e136 Fend__135 Ea__135 (Or.inl (own_w hw 23 rfl)) (own_w hw 3 rfl) (ty := .long) (by decide) rfl rfl (g := (mkF m 105 #[.val (.ref ax), .val (.long qz), .second, .val (.long qt), .second] [(.long (qe + qz)), (.ref ax)])) rfl rfl (hb hby d3_105)
  have Ea__137 := Ea__135.wr W137
  have Fplaces__137 := Fplaces__135.other W137 (Or.inr (slot_ne (Or.inl (own_w hw 13 rfl)) (Or.inl (own_w hw 23 rfl)) (by decide) (t := (.array .int)) (t' := .long) (by decide) (by decide)))
  have Fstarts__137 := Fstarts__135.other W137 (Or.inr (slot_ne (Or.inl (own_w hw 16 rfl)) (Or.inl (own_w hw 23 rfl)) (by decide) (t := (.array .long)) (t' := .long) (by decide) (by decide)))
  have Ftimes__137 := Ftimes__135.other W137 (Or.inr (slot_ne (Or.inl (own_w hw 18 rfl)) (Or.inl (own_w hw 23 rfl)) (by decide) (t := (.array .long)) (t' := .long) (by decide) (by decide)))
  have Fw135_137 := Fw135.other W137 (Or.inr (slot_ne (Or.inl (own_w hw 30 rfl)) (Or.inl (own_w hw 23 rfl)) (by decide) (t := .int) (t' := .long) (by decide) (by decide)))
  have Fcount__137 := Fcount__135.other W137 (Or.inr (slot_ne (Or.inl (own_w hw 32 rfl)) (Or.inl (own_w hw 23 rfl)) (by decide) (t := .int) (t' := .long) (by decide) (by decide)))
  have FlastTime__137 := FlastTime__135.other W137 (Or.inr (slot_ne (Or.inl (own_w hw 21 rfl)) (Or.inl (own_w hw 23 rfl)) (by decide) (t := .long) (t' := .long) (by decide) (by decide)))
  have V126_137 := V126_135.other W137 n0_.symm
  have V130_137 := V130_135.other W137 n1_.symm
  have V133_137 := V133_135.other W137 n2_.symm
  have Kc137 : Keep h0 h137 [ax, ap, ar, at'] := Kc135.wr W137 (Or.inl (List.mem_of_getElem? (i := 0) rfl))
  have N137 := Fr.snoc X137 N135 gg0_
  have Fw137 := Fend__135.same W137
  refine own_pre (fun t k => st137 t k) ?_
  refine own_pre (A := (T137.setTop (mkF m 110 #[.val (.ref ax), .val (.long qz), .second, .val (.long qt), .second] [(.long qt), (.ref ax)]))) ?_ ?_
  · intro t k
    show Steps p.tables e below (T137.setTop (mkF m 108 #[.val (.ref ax), .val (.long qz), .second, .val (.long qt), .second] [])) _
    refine XS.aloadN X137.here hx rfl (hb hby d3_108) rfl rfl ?_
    refine XS.lloadN X137.here hx rfl (hb hby d3_109) rfl ?_
    exact k
  obtain ⟨T138, h138, X138, e138, W138, st138⟩ := putF X137 hx hZ hown (host := "") (Or.inl (own_w hw 20 rfl)) Via.refl e137 FlastTime__137 Ea__137 (Or.inl (own_w hw 21 rfl)) (own_w hw 3 rfl) (ty := .long) (by decide) rfl rfl (g := (mkF m 110 #[.val (.ref ax), .val (.long qz), .second, .val (.long qt), .second] [(.long qt), (.ref ax)])) rfl rfl (hb hby d3_110)
  have Ea__138 := Ea__137.wr W138
  have Fplaces__138 := Fplaces__137.other W138 (Or.inr (slot_ne (Or.inl (own_w hw 13 rfl)) (Or.inl (own_w hw 21 rfl)) (by decide) (t := (.array .int)) (t' := .long) (by decide) (by decide)))
  have Fstarts__138 := Fstarts__137.other W138 (Or.inr (slot_ne (Or.inl (own_w hw 16 rfl)) (Or.inl (own_w hw 21 rfl)) (by decide) (t := (.array .long)) (t' := .long) (by decide) (by decide)))
  have Ftimes__138 := Ftimes__137.other W138 (Or.inr (slot_ne (Or.inl (own_w hw 18 rfl)) (Or.inl (own_w hw 21 rfl)) (by decide) (t := (.array .long)) (t' := .long) (by decide) (by decide)))
  have Fw135_138 := Fw135_137.other W138 (Or.inr (slot_ne (Or.inl (own_w hw 30 rfl)) (Or.inl (own_w hw 21 rfl)) (by decide) (t := .int) (t' := .long) (by decide) (by decide)))
  have Fcount__138 := Fcount__137.other W138 (Or.inr (slot_ne (Or.inl (own_w hw 32 rfl)) (Or.inl (own_w hw 21 rfl)) (by decide) (t := .int) (t' := .long) (by decide) (by decide)))
  have Fw137_138 := Fw137.other W138 (Or.inr (slot_ne (Or.inl (own_w hw 23 rfl)) (Or.inl (own_w hw 21 rfl)) (by decide) (t := .long) (t' := .long) (by decide) (by decide)))
  have V126_138 := V126_137.other W138 n0_.symm
  have V130_138 := V130_137.other W138 n1_.symm
  have V133_138 := V133_137.other W138 n2_.symm
  have Kc138 : Keep h0 h138 [ax, ap, ar, at'] := Kc137.wr W138 (Or.inl (List.mem_of_getElem? (i := 0) rfl))
  have N138 := Fr.snoc X138 N137 gg0_
  have Fw138 := FlastTime__137.same W138
  refine own_pre (fun t k => st138 t k) ?_
  refine own_pre (A := (T138.setTop (mkF m 115 #[.val (.ref ax), .val (.long qz), .second, .val (.long qt), .second] [(.ref ax), (.ref ax)]))) ?_ ?_
  · intro t k
    show Steps p.tables e below (T138.setTop (mkF m 113 #[.val (.ref ax), .val (.long qz), .second, .val (.long qt), .second] [])) _
    refine XS.aloadN X138.here hx rfl (hb hby d3_113) rfl rfl ?_
    refine XS.dup X138.here hx rfl (hb hby d3_114) rfl rfl ?_
    exact k
  obtain ⟨T139, X139, e139, st139⟩ := getF X138 hx hZ hown (host := "") (Or.inl (own_w hw 31 rfl)) Via.refl e138 Fcount__138 (g := (mkF m 115 #[.val (.ref ax), .val (.long qz), .second, .val (.long qt), .second] [(.ref ax), (.ref ax)])) rfl rfl (hb hby d3_115)
  refine own_pre (fun t k => st139 t k) ?_
  refine own_pre (A := (T139.setTop (mkF m 120 #[.val (.ref ax), .val (.long qz), .second, .val (.long qt), .second] [(.int (ct + (1 : Int32))), (.ref ax)]))) ?_ ?_
  · intro t k
    show Steps p.tables e below (T139.setTop (mkF m 118 #[.val (.ref ax), .val (.long qz), .second, .val (.long qt), .second] [(.int ct), (.ref ax)])) _
    refine XS.iconst X139.here hx rfl (hb hby d3_118) ?_
    refine XS.iadd X139.here hx rfl (hb hby d3_119) rfl ?_
    exact k
  obtain ⟨T140, h140, X140, e140, W140, st140⟩ := putF X139 hx hZ hown (host := "") (Or.inl (own_w hw 31 rfl)) Via.refl e139 Fcount__138 Ea__138 (Or.inl (own_w hw 32 rfl)) (own_w hw 3 rfl) (ty := .int) (by decide) rfl rfl (g := (mkF m 120 #[.val (.ref ax), .val (.long qz), .second, .val (.long qt), .second] [(.int (ct + (1 : Int32))), (.ref ax)])) rfl rfl (hb hby d3_120)
  have Ea__140 := Ea__138.wr W140
  have Fplaces__140 := Fplaces__138.other W140 (Or.inr (slot_ne (Or.inl (own_w hw 13 rfl)) (Or.inl (own_w hw 32 rfl)) (by decide) (t := (.array .int)) (t' := .int) (by decide) (by decide)))
  have Fstarts__140 := Fstarts__138.other W140 (Or.inr (slot_ne (Or.inl (own_w hw 16 rfl)) (Or.inl (own_w hw 32 rfl)) (by decide) (t := (.array .long)) (t' := .int) (by decide) (by decide)))
  have Ftimes__140 := Ftimes__138.other W140 (Or.inr (slot_ne (Or.inl (own_w hw 18 rfl)) (Or.inl (own_w hw 32 rfl)) (by decide) (t := (.array .long)) (t' := .int) (by decide) (by decide)))
  have Fw135_140 := Fw135_138.other W140 (Or.inr (slot_ne (Or.inl (own_w hw 30 rfl)) (Or.inl (own_w hw 32 rfl)) (by decide) (t := .int) (t' := .int) (by decide) (by decide)))
  have Fw137_140 := Fw137_138.other W140 (Or.inr (slot_ne (Or.inl (own_w hw 23 rfl)) (Or.inl (own_w hw 32 rfl)) (by decide) (t := .long) (t' := .int) (by decide) (by decide)))
  have Fw138_140 := Fw138.other W140 (Or.inr (slot_ne (Or.inl (own_w hw 21 rfl)) (Or.inl (own_w hw 32 rfl)) (by decide) (t := .long) (t' := .int) (by decide) (by decide)))
  have V126_140 := V126_138.other W140 n0_.symm
  have V130_140 := V130_138.other W140 n1_.symm
  have V133_140 := V133_138.other W140 n2_.symm
  have Kc140 : Keep h0 h140 [ax, ap, ar, at'] := Kc138.wr W140 (Or.inl (List.mem_of_getElem? (i := 0) rfl))
  have N140 := Fr.snoc X140 N138 gg0_
  have Fw140 := Fcount__138.same W140
  refine own_pre (fun t k => st140 t k) ?_
  obtain ⟨fs, hr, hrun, hended, hW, hsame⟩ := X140.leave (hlocks := BodyLoose.notSynchronized Bd) (v := none) (fun _ => rfl)
  refine ⟨_, _, X140.returnOut hx Bd.returns (hb hby d3_123) hr, hrun, hended, _, _, rfl, ?_, ⟨_, rfl⟩, hW, hsame.mono (by decide) (by decide)⟩
  show own_Q3_2B Z ax qz qt ap ar at' kp ks ct qe ql pp0 pp1 pp2 pp3 ss0 ss1 ss2 ss3 h0 n0 _ T140.heap _
  rw [e140]
  exact ⟨rfl, N140, Kc140, ⟨Ea__140, Fplaces__140, Fstarts__140, Ftimes__140, Fw135_140, Fw140, Fw137_140, Fw138_140, V126_140, V130_140, V133_140, n0_, n1_, n2_, n3_, n4_, n5_, gg0_, gg1_, gg2_, gg3_⟩⟩
def own_Q4_0_3 (Z : State) (ax : Addr) (ap : Addr) (kp : ClassId) (ct : Int32) (qe : Int64) (uu0 : Int64) (uu1 : Int64) (uu2 : Int64) (uu3 : Int64) (h0 : Heap) (n0 : Nat) (v : Option Value) (h : Heap) (L : List Loc) : Prop := Fr n0 L ∧ v = some (.long uu1) ∧ h = h0
set_option maxRecDepth 65536 in
set_option maxHeartbeats 40000000 in
theorem rm4_0_3 (l : Launch) (Z : State) (a0 : Array Value) (hw : ∀ d ∈ tables_1, d.before a0 Z = true) (ws : List Jvm.Cond) (ax : Addr) (ap : Addr) (kp : ClassId) (ct : Int32) (qe : Int64) (uu0 : Int64) (uu1 : Int64) (uu2 : Int64) (uu3 : Int64) (h0 : Heap) (n0 : Nat) (Z0 : n0 ≤ h0.size) (Fe : Fld Z h0 ax "com/example/coho/coho/eventlog/SegmentIndex" "entries" "I" (.int (3 : Int32))) (Fc : Fld Z h0 ax "com/example/coho/coho/eventlog/SegmentIndex" "count" "I" (.int ct)) (Fq : Fld Z h0 ax "com/example/coho/coho/eventlog/SegmentIndex" "end" "J" (.long qe)) (Fa : Fld Z h0 ax "com/example/coho/coho/eventlog/SegmentIndex" "starts" "[J" (.ref ap)) (Va : Arv Z h0 ap kp .long (4 : Int32) [(.long uu0), (.long uu1), (.long uu2), (.long uu3)] (.long (0 : Int64))) :
    MetFree l (⟨"com/example/coho/coho/eventlog/SegmentIndex", "stretchEnd", "(I)J"⟩ : MethodName) (head1 (Jvm.Cond.code (⟨"com/example/coho/coho/eventlog/SegmentIndex", "stretchEnd", "(I)J"⟩ : MethodName) prog_34_method_10_code 2 (some .long) :: ws) ({ frames := 0, cells := 0, slots := 0, locals := 0 } : Room)) (fun a U => a = #[(.ref ax), (.int (0 : Int32))] ∧ Z.Warmed39 U.vm ∧ U.heap = h0) (fun _ _ _ _ _ => True) (fun _ U o U' => ∃ v L, o = .returned v ∧ own_Q4_0_3 Z ax ap kp ct qe uu0 uu1 uu2 uu3 h0 n0 v U'.heap L ∧ FrameEnd U o U' L ({ frames := 0, cells := 0, slots := 0, locals := 0 } : Room).cells ({ frames := 0, cells := 0, slots := 0, locals := 0 } : Room).slots) := by
  refine MetFree.of_bodySF (plainFor_of_name own_pn4) hisR ?_
  intro p e s m args below meth c s₁ Bd hml0 hP hK
  obtain ⟨rfl, hZ, hh⟩ := hP
  have hx := Bd.exec
  have hby := Bd.bytes
  have hml : c.maxLocals = 2 := hml0
  have hown : s.vm.findClass "com/example/coho/coho/eventlog/SegmentIndex" = some m.cls := findClass_of_methodNamed Bd.named
  have hnm := (name_of_methodNamed Bd.named Bd.method).1
  have X0 : Stand p l e ({ frames := 0, cells := 0, slots := 0, locals := 0 } : Room) s m #[(.ref ax), (.int (0 : Int32))] below meth c s₁ [] 0 0 := Stand.of_body Bd
  have e0 : s₁.heap = h0 := by rw [← hh, Bd.state]; rfl
  have N0 := Fr.nil n0
  refine own_pre (A := (s₁.setTop (mkF m 0 #[.val (.ref ax), .val (.int (0 : Int32))] []))) (fun t k => castTop (own_ef4 m ax (0 : Int32)) k) ?_
  refine own_pre (A := (s₁.setTop (mkF m 4 #[.val (.ref ax), .val (.int (0 : Int32))] [(.ref ax), (.int (1 : Int32))]))) ?_ ?_
  · intro t k
    show Steps p.tables e below (s₁.setTop (mkF m 0 #[.val (.ref ax), .val (.int (0 : Int32))] [])) _
    refine XS.iloadN X0.here hx rfl (hb hby d4_0) rfl ?_
    refine XS.iconst X0.here hx rfl (hb hby d4_1) ?_
    refine XS.iadd X0.here hx rfl (hb hby d4_2) rfl ?_
    show Steps p.tables e below (s₁.setTop (mkF m 3 #[.val (.ref ax), .val (.int (0 : Int32))] [(.int ((0 : Int32) + (1 : Int32)))])) _
    rw [show ((0 : Int32) + (1 : Int32)) = (1 : Int32) from by decide]
    show Steps p.tables e below (s₁.setTop (mkF m 3 #[.val (.ref ax), .val (.int (0 : Int32))] [(.int (1 : Int32))])) _
    refine XS.aloadN X0.here hx rfl (hb hby d4_3) rfl rfl ?_
    exact k
  obtain ⟨T142, X142, e142, st142⟩ := getF X0 hx hZ hown (host := "") (Or.inl (own_w hw 29 rfl)) Via.refl e0 Fe (g := (mkF m 4 #[.val (.ref ax), .val (.int (0 : Int32))] [(.ref ax), (.int (1 : Int32))])) rfl rfl (hb hby d4_4)
  refine own_pre (fun t k => st142 t k) ?_
  refine own_pre (A := (T142.setTop (mkF m 11 #[.val (.ref ax), .val (.int (0 : Int32))] [(.ref ax)]))) ?_ ?_
  · intro t k
    show Steps p.tables e below (T142.setTop (mkF m 7 #[.val (.ref ax), .val (.int (0 : Int32))] [(.int (3 : Int32)), (.int (1 : Int32))])) _
    refine XS.icmpNo X142.here hx rfl (hb hby d4_7) rfl (tlt (by decide : (1 : Int32) < (3 : Int32))).2.1 ?_
    refine XS.aloadN X142.here hx rfl (hb hby d4_10) rfl rfl ?_
    exact k
  obtain ⟨T143, X143, e143, st143⟩ := getF X142 hx hZ hown (host := "") (Or.inl (own_w hw 15 rfl)) Via.refl e142 Fa (g := (mkF m 11 #[.val (.ref ax), .val (.int (0 : Int32))] [(.ref ax)])) rfl rfl (hb hby d4_11)
  refine own_pre (fun t k => st143 t k) ?_
  refine own_pre (A := (T143.setTop (mkF m 25 #[.val (.ref ax), .val (.int (0 : Int32))] [(.long uu1)]))) ?_ ?_
  · intro t k
    show Steps p.tables e below (T143.setTop (mkF m 14 #[.val (.ref ax), .val (.int (0 : Int32))] [(.ref ap)])) _
    refine XS.iloadN X143.here hx rfl (hb hby d4_14) rfl ?_
    refine XS.iconst X143.here hx rfl (hb hby d4_15) ?_
    refine XS.iadd X143.here hx rfl (hb hby d4_16) rfl ?_
    show Steps p.tables e below (T143.setTop (mkF m 17 #[.val (.ref ax), .val (.int (0 : Int32))] [(.int ((0 : Int32) + (1 : Int32))), (.ref ap)])) _
    rw [show ((0 : Int32) + (1 : Int32)) = (1 : Int32) from by decide]
    show Steps p.tables e below (T143.setTop (mkF m 17 #[.val (.ref ax), .val (.int (0 : Int32))] [(.int (1 : Int32)), (.ref ap)])) _
    obtain ⟨cl144, Ar144, q144, S144, N144, H144, G144⟩ := Va
    have hin144 : ¬ ((1 : Int32) < 0 ∨ cl144.slots.size ≤ ((1 : Int32)).toNatClampNeg) := inb_of S144 ⟨by decide, by decide⟩
    refine X143.laload hx (j := (1 : Int32)) (v := (.long uu1)) (by rw [e143]; exact Ar144.1) (State.isArrayOf_alike hZ.alike Ar144.2.1) Ar144.2.2 hin144 (H144.at hin144 rfl) (g := (mkF m 17 #[.val (.ref ax), .val (.int (0 : Int32))] [(.int (1 : Int32)), (.ref ap)])) rfl rfl (hb hby d4_17) _ ?_
    show Steps p.tables e below (T143.setTop (mkF m 18 #[.val (.ref ax), .val (.int (0 : Int32))] [(.long uu1)])) _
    refine XS.goto X143.here hx rfl (pc0 := 18) (pc' := 25) rfl (hb hby d4_18) (by decide) (by decide) ?_
    exact k
  obtain ⟨fs, hr, hrun, hended, hW, hsame⟩ := X143.leave (hlocks := BodyLoose.notSynchronized Bd) (v := some (.long uu1)) (fun h => by rw [Bd.returns] at h; cases h)
  refine ⟨_, _, retOut X143 hx Bd.returns rfl (Or.inr (Or.inl ⟨rfl, rfl, _, rfl⟩)) (hb hby d4_25) hr, hrun, hended, _, _, rfl, ?_, ⟨_, rfl⟩, hW, hsame.mono (by decide) (by decide)⟩
  show own_Q4_0_3 Z ax ap kp ct qe uu0 uu1 uu2 uu3 h0 n0 _ T143.heap _
  rw [e143]
  exact ⟨N0, rfl, rfl⟩
def own_Q4_1_3 (Z : State) (ax : Addr) (ap : Addr) (kp : ClassId) (ct : Int32) (qe : Int64) (uu0 : Int64) (uu1 : Int64) (uu2 : Int64) (uu3 : Int64) (h0 : Heap) (n0 : Nat) (v : Option Value) (h : Heap) (L : List Loc) : Prop := Fr n0 L ∧ v = some (.long uu2) ∧ h = h0
set_option maxRecDepth 65536 in
set_option maxHeartbeats 40000000 in
theorem rm4_1_3 (l : Launch) (Z : State) (a0 : Array Value) (hw : ∀ d ∈ tables_1, d.before a0 Z = true) (ws : List Jvm.Cond) (ax : Addr) (ap : Addr) (kp : ClassId) (ct : Int32) (qe : Int64) (uu0 : Int64) (uu1 : Int64) (uu2 : Int64) (uu3 : Int64) (h0 : Heap) (n0 : Nat) (Z0 : n0 ≤ h0.size) (Fe : Fld Z h0 ax "com/example/coho/coho/eventlog/SegmentIndex" "entries" "I" (.int (3 : Int32))) (Fc : Fld Z h0 ax "com/example/coho/coho/eventlog/SegmentIndex" "count" "I" (.int ct)) (Fq : Fld Z h0 ax "com/example/coho/coho/eventlog/SegmentIndex" "end" "J" (.long qe)) (Fa : Fld Z h0 ax "com/example/coho/coho/eventlog/SegmentIndex" "starts" "[J" (.ref ap)) (Va : Arv Z h0 ap kp .long (4 : Int32) [(.long uu0), (.long uu1), (.long uu2), (.long uu3)] (.long (0 : Int64))) :
    MetFree l (⟨"com/example/coho/coho/eventlog/SegmentIndex", "stretchEnd", "(I)J"⟩ : MethodName) (head1 (Jvm.Cond.code (⟨"com/example/coho/coho/eventlog/SegmentIndex", "stretchEnd", "(I)J"⟩ : MethodName) prog_34_method_10_code 2 (some .long) :: ws) ({ frames := 0, cells := 0, slots := 0, locals := 0 } : Room)) (fun a U => a = #[(.ref ax), (.int (1 : Int32))] ∧ Z.Warmed39 U.vm ∧ U.heap = h0) (fun _ _ _ _ _ => True) (fun _ U o U' => ∃ v L, o = .returned v ∧ own_Q4_1_3 Z ax ap kp ct qe uu0 uu1 uu2 uu3 h0 n0 v U'.heap L ∧ FrameEnd U o U' L ({ frames := 0, cells := 0, slots := 0, locals := 0 } : Room).cells ({ frames := 0, cells := 0, slots := 0, locals := 0 } : Room).slots) := by
  refine MetFree.of_bodySF (plainFor_of_name own_pn4) hisR ?_
  intro p e s m args below meth c s₁ Bd hml0 hP hK
  obtain ⟨rfl, hZ, hh⟩ := hP
  have hx := Bd.exec
  have hby := Bd.bytes
  have hml : c.maxLocals = 2 := hml0
  have hown : s.vm.findClass "com/example/coho/coho/eventlog/SegmentIndex" = some m.cls := findClass_of_methodNamed Bd.named
  have hnm := (name_of_methodNamed Bd.named Bd.method).1
  have X0 : Stand p l e ({ frames := 0, cells := 0, slots := 0, locals := 0 } : Room) s m #[(.ref ax), (.int (1 : Int32))] below meth c s₁ [] 0 0 := Stand.of_body Bd
  have e0 : s₁.heap = h0 := by rw [← hh, Bd.state]; rfl
  have N0 := Fr.nil n0
  refine own_pre (A := (s₁.setTop (mkF m 0 #[.val (.ref ax), .val (.int (1 : Int32))] []))) (fun t k => castTop (own_ef4 m ax (1 : Int32)) k) ?_
  refine own_pre (A := (s₁.setTop (mkF m 4 #[.val (.ref ax), .val (.int (1 : Int32))] [(.ref ax), (.int (2 : Int32))]))) ?_ ?_
  · intro t k
    show Steps p.tables e below (s₁.setTop (mkF m 0 #[.val (.ref ax), .val (.int (1 : Int32))] [])) _
    refine XS.iloadN X0.here hx rfl (hb hby d4_0) rfl ?_
    refine XS.iconst X0.here hx rfl (hb hby d4_1) ?_
    refine XS.iadd X0.here hx rfl (hb hby d4_2) rfl ?_
    show Steps p.tables e below (s₁.setTop (mkF m 3 #[.val (.ref ax), .val (.int (1 : Int32))] [(.int ((1 : Int32) + (1 : Int32)))])) _
    rw [show ((1 : Int32) + (1 : Int32)) = (2 : Int32) from by decide]
    show Steps p.tables e below (s₁.setTop (mkF m 3 #[.val (.ref ax), .val (.int (1 : Int32))] [(.int (2 : Int32))])) _
    refine XS.aloadN X0.here hx rfl (hb hby d4_3) rfl rfl ?_
    exact k
  obtain ⟨T146, X146, e146, st146⟩ := getF X0 hx hZ hown (host := "") (Or.inl (own_w hw 29 rfl)) Via.refl e0 Fe (g := (mkF m 4 #[.val (.ref ax), .val (.int (1 : Int32))] [(.ref ax), (.int (2 : Int32))])) rfl rfl (hb hby d4_4)
  refine own_pre (fun t k => st146 t k) ?_
  refine own_pre (A := (T146.setTop (mkF m 11 #[.val (.ref ax), .val (.int (1 : Int32))] [(.ref ax)]))) ?_ ?_
  · intro t k
    show Steps p.tables e below (T146.setTop (mkF m 7 #[.val (.ref ax), .val (.int (1 : Int32))] [(.int (3 : Int32)), (.int (2 : Int32))])) _
    refine XS.icmpNo X146.here hx rfl (hb hby d4_7) rfl (tlt (by decide : (2 : Int32) < (3 : Int32))).2.1 ?_
    refine XS.aloadN X146.here hx rfl (hb hby d4_10) rfl rfl ?_
    exact k
  obtain ⟨T147, X147, e147, st147⟩ := getF X146 hx hZ hown (host := "") (Or.inl (own_w hw 15 rfl)) Via.refl e146 Fa (g := (mkF m 11 #[.val (.ref ax), .val (.int (1 : Int32))] [(.ref ax)])) rfl rfl (hb hby d4_11)
  refine own_pre (fun t k => st147 t k) ?_
  refine own_pre (A := (T147.setTop (mkF m 25 #[.val (.ref ax), .val (.int (1 : Int32))] [(.long uu2)]))) ?_ ?_
  · intro t k
    show Steps p.tables e below (T147.setTop (mkF m 14 #[.val (.ref ax), .val (.int (1 : Int32))] [(.ref ap)])) _
    refine XS.iloadN X147.here hx rfl (hb hby d4_14) rfl ?_
    refine XS.iconst X147.here hx rfl (hb hby d4_15) ?_
    refine XS.iadd X147.here hx rfl (hb hby d4_16) rfl ?_
    show Steps p.tables e below (T147.setTop (mkF m 17 #[.val (.ref ax), .val (.int (1 : Int32))] [(.int ((1 : Int32) + (1 : Int32))), (.ref ap)])) _
    rw [show ((1 : Int32) + (1 : Int32)) = (2 : Int32) from by decide]
    show Steps p.tables e below (T147.setTop (mkF m 17 #[.val (.ref ax), .val (.int (1 : Int32))] [(.int (2 : Int32)), (.ref ap)])) _
    obtain ⟨cl148, Ar148, q148, S148, N148, H148, G148⟩ := Va
    have hin148 : ¬ ((2 : Int32) < 0 ∨ cl148.slots.size ≤ ((2 : Int32)).toNatClampNeg) := inb_of S148 ⟨by decide, by decide⟩
    refine X147.laload hx (j := (2 : Int32)) (v := (.long uu2)) (by rw [e147]; exact Ar148.1) (State.isArrayOf_alike hZ.alike Ar148.2.1) Ar148.2.2 hin148 (H148.at hin148 rfl) (g := (mkF m 17 #[.val (.ref ax), .val (.int (1 : Int32))] [(.int (2 : Int32)), (.ref ap)])) rfl rfl (hb hby d4_17) _ ?_
    show Steps p.tables e below (T147.setTop (mkF m 18 #[.val (.ref ax), .val (.int (1 : Int32))] [(.long uu2)])) _
    refine XS.goto X147.here hx rfl (pc0 := 18) (pc' := 25) rfl (hb hby d4_18) (by decide) (by decide) ?_
    exact k
  obtain ⟨fs, hr, hrun, hended, hW, hsame⟩ := X147.leave (hlocks := BodyLoose.notSynchronized Bd) (v := some (.long uu2)) (fun h => by rw [Bd.returns] at h; cases h)
  refine ⟨_, _, retOut X147 hx Bd.returns rfl (Or.inr (Or.inl ⟨rfl, rfl, _, rfl⟩)) (hb hby d4_25) hr, hrun, hended, _, _, rfl, ?_, ⟨_, rfl⟩, hW, hsame.mono (by decide) (by decide)⟩
  show own_Q4_1_3 Z ax ap kp ct qe uu0 uu1 uu2 uu3 h0 n0 _ T147.heap _
  rw [e147]
  exact ⟨N0, rfl, rfl⟩
def own_Q4_2_3 (Z : State) (ax : Addr) (ap : Addr) (kp : ClassId) (ct : Int32) (qe : Int64) (uu0 : Int64) (uu1 : Int64) (uu2 : Int64) (uu3 : Int64) (h0 : Heap) (n0 : Nat) (v : Option Value) (h : Heap) (L : List Loc) : Prop := Fr n0 L ∧ v = some (.long qe) ∧ h = h0
set_option maxRecDepth 65536 in
set_option maxHeartbeats 40000000 in
theorem rm4_2_3 (l : Launch) (Z : State) (a0 : Array Value) (hw : ∀ d ∈ tables_1, d.before a0 Z = true) (ws : List Jvm.Cond) (ax : Addr) (ap : Addr) (kp : ClassId) (ct : Int32) (qe : Int64) (uu0 : Int64) (uu1 : Int64) (uu2 : Int64) (uu3 : Int64) (h0 : Heap) (n0 : Nat) (Z0 : n0 ≤ h0.size) (Fe : Fld Z h0 ax "com/example/coho/coho/eventlog/SegmentIndex" "entries" "I" (.int (3 : Int32))) (Fc : Fld Z h0 ax "com/example/coho/coho/eventlog/SegmentIndex" "count" "I" (.int ct)) (Fq : Fld Z h0 ax "com/example/coho/coho/eventlog/SegmentIndex" "end" "J" (.long qe)) (Fa : Fld Z h0 ax "com/example/coho/coho/eventlog/SegmentIndex" "starts" "[J" (.ref ap)) (Va : Arv Z h0 ap kp .long (4 : Int32) [(.long uu0), (.long uu1), (.long uu2), (.long uu3)] (.long (0 : Int64))) :
    MetFree l (⟨"com/example/coho/coho/eventlog/SegmentIndex", "stretchEnd", "(I)J"⟩ : MethodName) (head1 (Jvm.Cond.code (⟨"com/example/coho/coho/eventlog/SegmentIndex", "stretchEnd", "(I)J"⟩ : MethodName) prog_34_method_10_code 2 (some .long) :: ws) ({ frames := 0, cells := 0, slots := 0, locals := 0 } : Room)) (fun a U => a = #[(.ref ax), (.int (2 : Int32))] ∧ Z.Warmed39 U.vm ∧ U.heap = h0) (fun _ _ _ _ _ => True) (fun _ U o U' => ∃ v L, o = .returned v ∧ own_Q4_2_3 Z ax ap kp ct qe uu0 uu1 uu2 uu3 h0 n0 v U'.heap L ∧ FrameEnd U o U' L ({ frames := 0, cells := 0, slots := 0, locals := 0 } : Room).cells ({ frames := 0, cells := 0, slots := 0, locals := 0 } : Room).slots) := by
  refine MetFree.of_bodySF (plainFor_of_name own_pn4) hisR ?_
  intro p e s m args below meth c s₁ Bd hml0 hP hK
  obtain ⟨rfl, hZ, hh⟩ := hP
  have hx := Bd.exec
  have hby := Bd.bytes
  have hml : c.maxLocals = 2 := hml0
  have hown : s.vm.findClass "com/example/coho/coho/eventlog/SegmentIndex" = some m.cls := findClass_of_methodNamed Bd.named
  have hnm := (name_of_methodNamed Bd.named Bd.method).1
  have X0 : Stand p l e ({ frames := 0, cells := 0, slots := 0, locals := 0 } : Room) s m #[(.ref ax), (.int (2 : Int32))] below meth c s₁ [] 0 0 := Stand.of_body Bd
  have e0 : s₁.heap = h0 := by rw [← hh, Bd.state]; rfl
  have N0 := Fr.nil n0
  refine own_pre (A := (s₁.setTop (mkF m 0 #[.val (.ref ax), .val (.int (2 : Int32))] []))) (fun t k => castTop (own_ef4 m ax (2 : Int32)) k) ?_
  refine own_pre (A := (s₁.setTop (mkF m 4 #[.val (.ref ax), .val (.int (2 : Int32))] [(.ref ax), (.int (3 : Int32))]))) ?_ ?_
  · intro t k
    show Steps p.tables e below (s₁.setTop (mkF m 0 #[.val (.ref ax), .val (.int (2 : Int32))] [])) _
    refine XS.iloadN X0.here hx rfl (hb hby d4_0) rfl ?_
    refine XS.iconst X0.here hx rfl (hb hby d4_1) ?_
    refine XS.iadd X0.here hx rfl (hb hby d4_2) rfl ?_
    show Steps p.tables e below (s₁.setTop (mkF m 3 #[.val (.ref ax), .val (.int (2 : Int32))] [(.int ((2 : Int32) + (1 : Int32)))])) _
    rw [show ((2 : Int32) + (1 : Int32)) = (3 : Int32) from by decide]
    show Steps p.tables e below (s₁.setTop (mkF m 3 #[.val (.ref ax), .val (.int (2 : Int32))] [(.int (3 : Int32))])) _
    refine XS.aloadN X0.here hx rfl (hb hby d4_3) rfl rfl ?_
    exact k
  obtain ⟨T150, X150, e150, st150⟩ := getF X0 hx hZ hown (host := "") (Or.inl (own_w hw 29 rfl)) Via.refl e0 Fe (g := (mkF m 4 #[.val (.ref ax), .val (.int (2 : Int32))] [(.ref ax), (.int (3 : Int32))])) rfl rfl (hb hby d4_4)
  refine own_pre (fun t k => st150 t k) ?_
  refine own_pre (A := (T150.setTop (mkF m 22 #[.val (.ref ax), .val (.int (2 : Int32))] [(.ref ax)]))) ?_ ?_
  · intro t k
    show Steps p.tables e below (T150.setTop (mkF m 7 #[.val (.ref ax), .val (.int (2 : Int32))] [(.int (3 : Int32)), (.int (3 : Int32))])) _
    refine XS.icmpYes X150.here hx rfl (pc0 := 7) (pc' := 21) rfl (hb hby d4_7) rfl (flt (by decide : ¬ ((3 : Int32) < (3 : Int32)))).2.1 (by decide) (by decide) ?_
    refine XS.aloadN X150.here hx rfl (hb hby d4_21) rfl rfl ?_
    exact k
  obtain ⟨T151, X151, e151, st151⟩ := getF X150 hx hZ hown (host := "") (Or.inl (own_w hw 22 rfl)) Via.refl e150 Fq (g := (mkF m 22 #[.val (.ref ax), .val (.int (2 : Int32))] [(.ref ax)])) rfl rfl (hb hby d4_22)
  refine own_pre (fun t k => st151 t k) ?_
  obtain ⟨fs, hr, hrun, hended, hW, hsame⟩ := X151.leave (hlocks := BodyLoose.notSynchronized Bd) (v := some (.long qe)) (fun h => by rw [Bd.returns] at h; cases h)
  refine ⟨_, _, retOut X151 hx Bd.returns rfl (Or.inr (Or.inl ⟨rfl, rfl, _, rfl⟩)) (hb hby d4_25) hr, hrun, hended, _, _, rfl, ?_, ⟨_, rfl⟩, hW, hsame.mono (by decide) (by decide)⟩
  show own_Q4_2_3 Z ax ap kp ct qe uu0 uu1 uu2 uu3 h0 n0 _ T151.heap _
  rw [e151]
  exact ⟨N0, rfl, rfl⟩
def own_Q0 (h0 : Heap) (n0 : Nat) (v : Option Value) (h : Heap) (L : List Loc) : Prop := v = some (.int (1 : Int32)) ∧ Fr n0 L
set_option maxRecDepth 65536 in
set_option maxHeartbeats 40000000 in
theorem rm0 (l : Launch) (Z : State) (a0 : Array Value) (hw : ∀ d ∈ tables_1, d.before a0 Z = true) (ws : List Jvm.Cond) (qs : Int64) (p2 : Int32) (p3 : Int32) (p4 : Int32) (p5 : Int32) (h0 : Heap) (n0 : Nat) (Z0 : n0 ≤ h0.size) :
    MetFree l x (head1 (Jvm.Cond.code x code maxLocals ret :: ws) room_1) (fun a U => a = #[(.long qs), (.int p2), (.int p3), (.int p4), (.int p5)] ∧ Z.Warmed39 U.vm ∧ U.heap = h0) (fun _ _ _ _ _ => True) (fun _ U o U' => ∃ v L, o = .returned v ∧ own_Q0  h0 n0 v U'.heap L ∧ FrameEnd U o U' L room_1.cells room_1.slots) := by
  refine MetFree.of_bodySF (plainFor_of_name own_pn0) hisR ?_
  intro p e s m args below meth c s₁ Bd hml0 hP hK
  obtain ⟨rfl, hZ, hh⟩ := hP
  have hx := Bd.exec
  have hby := Bd.bytes
  have hml : c.maxLocals = 30 := hml0
  have hown : s.vm.findClass "com/example/coho/coho/eventlog/SegmentIndexStretchEndPinLaw" = some m.cls := findClass_of_methodNamed Bd.named
  have hnm := (name_of_methodNamed Bd.named Bd.method).1
  have X0 : Stand p l e room_1 s m #[(.long qs), (.int p2), (.int p3), (.int p4), (.int p5)] below meth c s₁ [] 0 0 := Stand.of_body Bd
  have e0 : s₁.heap = h0 := by rw [← hh, Bd.state]; rfl
  have N0 := Fr.nil n0
  refine own_pre (A := (s₁.setTop (mkF m 0 (own_l0 qs p2 p3 p4 p5) []))) (fun t k => castTop (own_ef0 m qs p2 p3 p4 p5) k) ?_
  refine own_pre (A := (s₁.setTop (mkF m 38 (own_l5 qs p2 p3 p4 p5) []))) ?_ ?_
  · intro t k
    show Steps p.tables e below (s₁.setTop (mkF m 0 (own_l0 qs p2 p3 p4 p5) [])) _
    refine XS.iloadN X0.here hx rfl (hb hby at_0) rfl ?_
    show Steps p.tables e below (s₁.setTop (mkF m 1 (own_l0 qs p2 p3 p4 p5) [(.int p2)])) _
    refine X0.ldcInt hx hown (mvT hZ (own_w hw 0 rfl)) (g := (mkF m 1 (own_l0 qs p2 p3 p4 p5) [(.int p2)])) rfl (hb hby at_1) _ ?_
    show Steps p.tables e below (s₁.setTop (mkF m 3 (own_l0 qs p2 p3 p4 p5) [(.int (262143 : Int32)), (.int p2)])) _
    refine XS.iand X0.here hx rfl (hb hby at_3) rfl ?_
    refine XS.i2l X0.here hx rfl (hb hby at_4) rfl ?_
    show Steps p.tables e below (s₁.setTop (mkF m 5 (own_l0 qs p2 p3 p4 p5) [(.long ((p2 &&& (262143 : Int32)).toInt64))])) _
    refine XS.lstore X0.here hx rfl (hb hby at_5) rfl (l' := (own_l1 qs p2 p3 p4 p5)) rfl ?_
    refine XS.iloadN X0.here hx rfl (hb hby at_7) rfl ?_
    show Steps p.tables e below (s₁.setTop (mkF m 8 (own_l1 qs p2 p3 p4 p5) [(.int p3)])) _
    refine X0.ldcInt hx hown (mvT hZ (own_w hw 0 rfl)) (g := (mkF m 8 (own_l1 qs p2 p3 p4 p5) [(.int p3)])) rfl (hb hby at_8) _ ?_
    show Steps p.tables e below (s₁.setTop (mkF m 10 (own_l1 qs p2 p3 p4 p5) [(.int (262143 : Int32)), (.int p3)])) _
    refine XS.iand X0.here hx rfl (hb hby at_10) rfl ?_
    refine XS.i2l X0.here hx rfl (hb hby at_11) rfl ?_
    show Steps p.tables e below (s₁.setTop (mkF m 12 (own_l1 qs p2 p3 p4 p5) [(.long ((p3 &&& (262143 : Int32)).toInt64))])) _
    refine XS.lstore X0.here hx rfl (hb hby at_12) rfl (l' := (own_l2 qs p2 p3 p4 p5)) rfl ?_
    refine XS.iload X0.here hx rfl (hb hby at_14) rfl ?_
    show Steps p.tables e below (s₁.setTop (mkF m 16 (own_l2 qs p2 p3 p4 p5) [(.int p4)])) _
    refine X0.ldcInt hx hown (mvT hZ (own_w hw 0 rfl)) (g := (mkF m 16 (own_l2 qs p2 p3 p4 p5) [(.int p4)])) rfl (hb hby at_16) _ ?_
    show Steps p.tables e below (s₁.setTop (mkF m 18 (own_l2 qs p2 p3 p4 p5) [(.int (262143 : Int32)), (.int p4)])) _
    refine XS.iand X0.here hx rfl (hb hby at_18) rfl ?_
    refine XS.i2l X0.here hx rfl (hb hby at_19) rfl ?_
    show Steps p.tables e below (s₁.setTop (mkF m 20 (own_l2 qs p2 p3 p4 p5) [(.long ((p4 &&& (262143 : Int32)).toInt64))])) _
    refine XS.lstore X0.here hx rfl (hb hby at_20) rfl (l' := (own_l3 qs p2 p3 p4 p5)) rfl ?_
    refine XS.iconst X0.here hx rfl (hb hby at_22) ?_
    refine XS.iload X0.here hx rfl (hb hby at_23) rfl ?_
    show Steps p.tables e below (s₁.setTop (mkF m 25 (own_l3 qs p2 p3 p4 p5) [(.int p5), (.int (1 : Int32))])) _
    refine X0.ldcInt hx hown (mvT hZ (own_w hw 1 rfl)) (g := (mkF m 25 (own_l3 qs p2 p3 p4 p5) [(.int p5), (.int (1 : Int32))])) rfl (hb hby at_25) _ ?_
    show Steps p.tables e below (s₁.setTop (mkF m 27 (own_l3 qs p2 p3 p4 p5) [(.int (2147483647 : Int32)), (.int p5), (.int (1 : Int32))])) _
    refine XS.iand X0.here hx rfl (hb hby at_27) rfl ?_
    refine XS.iconst X0.here hx rfl (hb hby at_28) ?_
    show Steps p.tables e below (s₁.setTop (mkF m 29 (own_l3 qs p2 p3 p4 p5) [(.int (3 : Int32)), (.int (p5 &&& (2147483647 : Int32))), (.int (1 : Int32))])) _
    refine iremM X0 hx rfl (hb hby at_29) rfl (by decide) ?_
    show Steps p.tables e below (s₁.setTop (mkF m 30 (own_l3 qs p2 p3 p4 p5) [(.int ((p5 &&& (2147483647 : Int32)) % (3 : Int32))), (.int (1 : Int32))])) _
    refine XS.iadd X0.here hx rfl (hb hby at_30) rfl ?_
    show Steps p.tables e below (s₁.setTop (mkF m 31 (own_l3 qs p2 p3 p4 p5) [(.int ((1 : Int32) + ((p5 &&& (2147483647 : Int32)) % (3 : Int32))))])) _
    refine XS.istore X0.here hx rfl (hb hby at_31) rfl (l' := (own_l4 qs p2 p3 p4 p5)) rfl ?_
    refine XS.iload X0.here hx rfl (hb hby at_33) rfl ?_
    refine XS.i2l X0.here hx rfl (hb hby at_35) rfl ?_
    show Steps p.tables e below (s₁.setTop (mkF m 36 (own_l4 qs p2 p3 p4 p5) [(.long (p5.toInt64))])) _
    refine XS.lstore X0.here hx rfl (hb hby at_36) rfl (l' := (own_l5 qs p2 p3 p4 p5)) rfl ?_
    exact k
  obtain ⟨qa, hqa⟩ : ∃ z : Int64, z = ((p2 &&& (262143 : Int32)).toInt64) := ⟨_, rfl⟩
  show ∃ s₂ o, Steps p.tables e below (s₁.setTop (mkF m 38 #[.val (.long qs), .second, .val (.int p2), .val (.int p3), .val (.int p4), .val (.int p5), .val (.long ((p2 &&& (262143 : Int32)).toInt64)), .second, .val (.long ((p3 &&& (262143 : Int32)).toInt64)), .second, .val (.long ((p4 &&& (262143 : Int32)).toInt64)), .second, .val (.int ((1 : Int32) + ((p5 &&& (2147483647 : Int32)) % (3 : Int32)))), .val (.long (p5.toInt64)), .second, .unset, .unset, .unset, .unset, .unset, .unset, .unset, .unset, .unset, .unset, .unset, .unset, .unset, .unset, .unset] [])) s₂ ∧ _
  rw [← hqa]
  obtain ⟨qb, hqb⟩ : ∃ z : Int64, z = ((p3 &&& (262143 : Int32)).toInt64) := ⟨_, rfl⟩
  show ∃ s₂ o, Steps p.tables e below (s₁.setTop (mkF m 38 #[.val (.long qs), .second, .val (.int p2), .val (.int p3), .val (.int p4), .val (.int p5), .val (.long qa), .second, .val (.long ((p3 &&& (262143 : Int32)).toInt64)), .second, .val (.long ((p4 &&& (262143 : Int32)).toInt64)), .second, .val (.int ((1 : Int32) + ((p5 &&& (2147483647 : Int32)) % (3 : Int32)))), .val (.long (p5.toInt64)), .second, .unset, .unset, .unset, .unset, .unset, .unset, .unset, .unset, .unset, .unset, .unset, .unset, .unset, .unset, .unset] [])) s₂ ∧ _
  rw [← hqb]
  obtain ⟨qc, hqc⟩ : ∃ z : Int64, z = ((p4 &&& (262143 : Int32)).toInt64) := ⟨_, rfl⟩
  show ∃ s₂ o, Steps p.tables e below (s₁.setTop (mkF m 38 #[.val (.long qs), .second, .val (.int p2), .val (.int p3), .val (.int p4), .val (.int p5), .val (.long qa), .second, .val (.long qb), .second, .val (.long ((p4 &&& (262143 : Int32)).toInt64)), .second, .val (.int ((1 : Int32) + ((p5 &&& (2147483647 : Int32)) % (3 : Int32)))), .val (.long (p5.toInt64)), .second, .unset, .unset, .unset, .unset, .unset, .unset, .unset, .unset, .unset, .unset, .unset, .unset, .unset, .unset, .unset] [])) s₂ ∧ _
  rw [← hqc]
  obtain ⟨qt, hqt⟩ : ∃ z : Int64, z = (p5.toInt64) := ⟨_, rfl⟩
  show ∃ s₂ o, Steps p.tables e below (s₁.setTop (mkF m 38 #[.val (.long qs), .second, .val (.int p2), .val (.int p3), .val (.int p4), .val (.int p5), .val (.long qa), .second, .val (.long qb), .second, .val (.long qc), .second, .val (.int ((1 : Int32) + ((p5 &&& (2147483647 : Int32)) % (3 : Int32)))), .val (.long (p5.toInt64)), .second, .unset, .unset, .unset, .unset, .unset, .unset, .unset, .unset, .unset, .unset, .unset, .unset, .unset, .unset, .unset] [])) s₂ ∧ _
  rw [← hqt]
  obtain ⟨pm, hpm⟩ : ∃ z : Int32, z = ((1 : Int32) + ((p5 &&& (2147483647 : Int32)) % (3 : Int32))) := ⟨_, rfl⟩
  show ∃ s₂ o, Steps p.tables e below (s₁.setTop (mkF m 38 #[.val (.long qs), .second, .val (.int p2), .val (.int p3), .val (.int p4), .val (.int p5), .val (.long qa), .second, .val (.long qb), .second, .val (.long qc), .second, .val (.int ((1 : Int32) + ((p5 &&& (2147483647 : Int32)) % (3 : Int32)))), .val (.long qt), .second, .unset, .unset, .unset, .unset, .unset, .unset, .unset, .unset, .unset, .unset, .unset, .unset, .unset, .unset, .unset] [])) s₂ ∧ _
  rw [← hpm]
  have hm : pm = (1 : Int32) ∨ pm = (2 : Int32) ∨ pm = (3 : Int32) := by rw [hpm]; exact own_m3 _
  clear hpm
  rcases hm with rfl | rfl | rfl
  · skip
    obtain ⟨T10, h10, X10, e10, E10, A10, D10, -, st10⟩ := newO X0 hx hZ hown (own_w hw 2 rfl) (own_w hw 3 rfl) (own_w hw 4 rfl) e0 (g := (mkF m 38 (own_l10 qs p2 p3 p4 p5 qa qb qc qt) [])) rfl (hb hby at_38) (by decide) (by decide)
    obtain ⟨b10, g10⟩ : ∃ z, z = h0.size := ⟨_, rfl⟩
    rw [← g10] at A10 D10 st10
    have gn_b10 : n0 ≤ b10 := Nat.le_trans Z0 (Nat.le_of_eq g10.symm)
    have Zs10 : n0 ≤ h10.size := Nat.le_trans Z0 E10.1
    have Kc10 : Keep h0 h10 [] := (Keep.refl h0 []).ext E10
    have F10_places : Fld Z h10 b10 "com/example/coho/coho/eventlog/SegmentIndex" "places" "[I" .null := D10 (Or.inl (own_w hw 13 rfl)) (ty := (.array .int)) (by decide)
    have F10_starts : Fld Z h10 b10 "com/example/coho/coho/eventlog/SegmentIndex" "starts" "[J" .null := D10 (Or.inl (own_w hw 16 rfl)) (ty := (.array .long)) (by decide)
    have F10_times : Fld Z h10 b10 "com/example/coho/coho/eventlog/SegmentIndex" "times" "[J" .null := D10 (Or.inl (own_w hw 18 rfl)) (ty := (.array .long)) (by decide)
    have F10_lastTime : Fld Z h10 b10 "com/example/coho/coho/eventlog/SegmentIndex" "lastTime" "J" (.long (0 : Int64)) := D10 (Or.inl (own_w hw 21 rfl)) (ty := .long) (by decide)
    have F10_end : Fld Z h10 b10 "com/example/coho/coho/eventlog/SegmentIndex" "end" "J" (.long (0 : Int64)) := D10 (Or.inl (own_w hw 23 rfl)) (ty := .long) (by decide)
    have F10_entries : Fld Z h10 b10 "com/example/coho/coho/eventlog/SegmentIndex" "entries" "I" (.int (0 : Int32)) := D10 (Or.inl (own_w hw 30 rfl)) (ty := .int) (by decide)
    have F10_count : Fld Z h10 b10 "com/example/coho/coho/eventlog/SegmentIndex" "count" "I" (.int (0 : Int32)) := D10 (Or.inl (own_w hw 32 rfl)) (ty := .int) (by decide)
    refine own_pre (fun t k => st10 t k) ?_
    refine own_pre (A := (T10.setTop (mkF m 43 (own_l10 qs p2 p3 p4 p5 qa qb qc qt) [(.long qs), (.ref b10), (.ref b10)]))) ?_ ?_
    · intro t k
      show Steps p.tables e below (T10.setTop (mkF m 41 (own_l10 qs p2 p3 p4 p5 qa qb qc qt) [(.ref b10)])) _
      refine XS.dup X10.here hx rfl (hb hby at_41) rfl rfl ?_
      refine XS.lloadN X10.here hx rfl (hb hby at_42) rfl ?_
      exact k
    obtain ⟨_, _, ⟨T11, L11, k11, n11⟩, -, X11, ⟨Lc11, hQ11, l11, y11, z11⟩, st11⟩ := X10.specialBack hx (y := (⟨"com/example/coho/coho/eventlog/SegmentIndex", "<init>", "(J)V"⟩ : MethodName)) rfl hown (mvT hZ (own_w hw 5 rfl)) (mvT hZ (own_w hw 6 rfl)) (mvT hZ (own_w hw 7 rfl)) (by decide) (backOf (W := 1) (rm1 l Z a0 hw [] b10 qs h10 n0 Zs10 A10 F10_places F10_starts F10_times F10_entries F10_count F10_end F10_lastTime gn_b10) hZ (own_w hw 7 rfl) (own_w hw 4 rfl) (by decide) (by decide)) (g := (mkF m 43 (own_l10 qs p2 p3 p4 p5 qa qb qc qt) [(.long qs), (.ref b10), (.ref b10)])) rfl (by rw [hml]; rfl) (Steps.refl _) (a := b10) (argsL := [(.long qs)]) (rest := [(.ref b10)]) (lenOf own_pd0 rfl) rfl (by show 2 * 0 + _ ≤ _; exact Nat.le_of_eq rfl) (hb hby at_43) (fun _ _ => ⟨rfl, e10, (by decide : 1 + 3 ≤ _), (by decide : 7 + 12 ≤ _)⟩)
    dsimp only [Pt.U, Pt.locs, Pt.cells, Pt.slots] at X11 l11 y11 z11 st11 hQ11
    subst l11 y11 z11
    obtain ⟨rfl, Nq11, ap11, ar11, at11, kp11, ks11, Kq11, zz011, zz111, zz211, B11⟩ := hQ11
    have N11 := Fr.app N0 Nq11
    refine own_pre (fun t k => st11.trans k) ?_
    have Zs11 : n0 ≤ T11.heap.size := Nat.le_trans Zs10 Kq11.1
    obtain ⟨Ea11, Fplaces11, Fstarts11, Ftimes11, Fentries11, Fcount11, Fend11, FlastTime11, Vp11, Vs11, Vt11, n011, n111, n211, n311, n411, n511, gg011, gg111, gg211, gg311⟩ := B11
    refine own_pre (A := (T11.setTop (mkF m 54 (own_l11 qs p2 p3 p4 p5 qa qb qc qt b10) [(.long qt), (.long qa), (.ref b10)]))) ?_ ?_
    · intro t k
      show Steps p.tables e below (T11.setTop (mkF m 46 (own_l10 qs p2 p3 p4 p5 qa qb qc qt) [(.ref b10)])) _
      refine XS.astore X11.here hx rfl (hb hby at_46) rfl rfl (l' := (own_l11 qs p2 p3 p4 p5 qa qb qc qt b10)) rfl ?_
      refine XS.aload X11.here hx rfl (hb hby at_48) rfl rfl ?_
      refine XS.lload X11.here hx rfl (hb hby at_50) rfl ?_
      refine XS.lload X11.here hx rfl (hb hby at_52) rfl ?_
      exact k
    obtain ⟨cq12, kq12, q12a, q12b, q12c⟩ := isOf hZ rfl Ea11
    obtain ⟨_, _, ⟨T12, L12, k12, n12⟩, -, X12, ⟨Lc12, hQ12, l12, y12, z12⟩, st12⟩ := X11.virtualBack hx (y := (⟨"com/example/coho/coho/eventlog/SegmentIndex", "add", "(JJ)V"⟩ : MethodName)) (z := (⟨"com/example/coho/coho/eventlog/SegmentIndex", "add", "(JJ)V"⟩ : MethodName)) hown (mvT hZ (own_w hw 24 rfl)) (mvT hZ (own_w hw 25 rfl)) (notFace_of_selects (args := #[]) (mvT hZ (own_w hw 27 rfl))) (mvT hZ (own_w hw 27 rfl)) (mvT hZ (own_w hw 26 rfl)) (by decide) (backOf (W := 0) (rm3_0 l Z a0 hw [] b10 qa qt ap11 ar11 at11 kp11 ks11 (0 : Int32) qs (-9223372036854775808 : Int64) (0 : Int32) (0 : Int32) (0 : Int32) (0 : Int32) (0 : Int64) (0 : Int64) (0 : Int64) (0 : Int64) T11.heap n0 Zs11 ⟨Ea11, Fplaces11, Fstarts11, Ftimes11, Fentries11, Fcount11, Fend11, FlastTime11, Vp11, Vs11, Vt11, n011, n111, n211, n311, n411, n511, gg011, gg111, gg211, gg311⟩) hZ (own_w hw 28 rfl) (own_w hw 4 rfl) (by decide) (by decide)) q12a q12c (g := (mkF m 54 (own_l11 qs p2 p3 p4 p5 qa qb qc qt b10) [(.long qt), (.long qa), (.ref b10)])) rfl (by rw [hml]; rfl) (Steps.refl _) (argsL := [(.long qa), (.long qt)]) (rest := []) (lenOf own_pd1 rfl) rfl (by show 2 * 0 + _ ≤ _; exact Nat.le_of_eq rfl) (hb hby at_54) (fun _ _ => ⟨rfl, rfl, (by decide : 4 + 0 ≤ _), (by decide : 19 + 0 ≤ _)⟩)
    dsimp only [Pt.U, Pt.locs, Pt.cells, Pt.slots] at X12 l12 y12 z12 st12 hQ12
    subst l12 y12 z12
    obtain ⟨rfl, Nq12, Kq12, B12⟩ := hQ12
    have N12 := Fr.app N11 Nq12
    refine own_pre (fun t k => st12.trans k) ?_
    have Zs12 : n0 ≤ T12.heap.size := Nat.le_trans Zs11 Kq12.1
    obtain ⟨Ea12, Fplaces12, Fstarts12, Ftimes12, Fentries12, Fcount12, Fend12, FlastTime12, Vp12, Vs12, Vt12, n012, n112, n212, n312, n412, n512, gg012, gg112, gg212, gg312⟩ := B12
    rw [show ((0 : Int32) + (1 : Int32)) = (1 : Int32) from by decide] at Fcount12
    refine own_pre (A := (T12.setTop (mkF m 196 (own_l18 qs p2 p3 p4 p5 qa qb qc qt b10) [(.int (0 : Int32)), (.ref b10)]))) ?_ ?_
    · intro t k
      show Steps p.tables e below (T12.setTop (mkF m 57 (own_l11 qs p2 p3 p4 p5 qa qb qc qt b10) [])) _
      refine XS.iload X12.here hx rfl (hb hby at_57) rfl ?_
      refine XS.iconst X12.here hx rfl (hb hby at_59) ?_
      show Steps p.tables e below (T12.setTop (mkF m 60 (own_l11 qs p2 p3 p4 p5 qa qb qc qt b10) [(.int (2 : Int32)), (.int (1 : Int32))])) _
      refine XS.icmpYes X12.here hx rfl (pc0 := 60) (pc' := 72) rfl (hb hby at_60) rfl (tlt (by decide : (1 : Int32) < (2 : Int32))).1 (by decide) (by decide) ?_
      refine XS.iload X12.here hx rfl (hb hby at_72) rfl ?_
      refine XS.iconst X12.here hx rfl (hb hby at_74) ?_
      show Steps p.tables e below (T12.setTop (mkF m 75 (own_l11 qs p2 p3 p4 p5 qa qb qc qt b10) [(.int (3 : Int32)), (.int (1 : Int32))])) _
      refine XS.icmpYes X12.here hx rfl (pc0 := 75) (pc' := 87) rfl (hb hby at_75) rfl (tlt (by decide : (1 : Int32) < (3 : Int32))).1 (by decide) (by decide) ?_
      refine XS.lloadN X12.here hx rfl (hb hby at_87) rfl ?_
      refine XS.lload X12.here hx rfl (hb hby at_88) rfl ?_
      refine XS.ladd X12.here hx rfl (hb hby at_90) rfl ?_
      show Steps p.tables e below (T12.setTop (mkF m 91 (own_l11 qs p2 p3 p4 p5 qa qb qc qt b10) [(.long (qs + qa))])) _
      refine XS.lstore X12.here hx rfl (hb hby at_91) rfl (l' := (own_l12 qs p2 p3 p4 p5 qa qb qc qt b10)) rfl ?_
      refine XS.lload X12.here hx rfl (hb hby at_93) rfl ?_
      refine XS.lload X12.here hx rfl (hb hby at_95) rfl ?_
      refine XS.ladd X12.here hx rfl (hb hby at_97) rfl ?_
      show Steps p.tables e below (T12.setTop (mkF m 98 (own_l12 qs p2 p3 p4 p5 qa qb qc qt b10) [(.long ((qs + qa) + qb))])) _
      refine XS.lstore X12.here hx rfl (hb hby at_98) rfl (l' := (own_l13 qs p2 p3 p4 p5 qa qb qc qt b10)) rfl ?_
      refine XS.lload X12.here hx rfl (hb hby at_100) rfl ?_
      refine XS.lload X12.here hx rfl (hb hby at_102) rfl ?_
      refine XS.ladd X12.here hx rfl (hb hby at_104) rfl ?_
      show Steps p.tables e below (T12.setTop (mkF m 105 (own_l13 qs p2 p3 p4 p5 qa qb qc qt b10) [(.long (((qs + qa) + qb) + qc))])) _
      refine XS.lstore X12.here hx rfl (hb hby at_105) rfl (l' := (own_l14 qs p2 p3 p4 p5 qa qb qc qt b10)) rfl ?_
      refine XS.iload X12.here hx rfl (hb hby at_107) rfl ?_
      refine XS.iconst X12.here hx rfl (hb hby at_109) ?_
      refine XS.icmpNo X12.here hx rfl (hb hby at_110) rfl (teq (by decide : (1 : Int32) = (1 : Int32))).2 ?_
      refine XS.lload X12.here hx rfl (hb hby at_113) rfl ?_
      show Steps p.tables e below (T12.setTop (mkF m 115 (own_l14 qs p2 p3 p4 p5 qa qb qc qt b10) [(.long (qs + qa))])) _
      refine XS.goto X12.here hx rfl (pc0 := 115) (pc' := 131) rfl (hb hby at_115) (by decide) (by decide) ?_
      show Steps p.tables e below (T12.setTop (mkF m 131 (own_l14 qs p2 p3 p4 p5 qa qb qc qt b10) [(.long (qs + qa))])) _
      refine XS.lstore X12.here hx rfl (hb hby at_131) rfl (l' := (own_l15 qs p2 p3 p4 p5 qa qb qc qt b10)) rfl ?_
      show Steps p.tables e below (T12.setTop (mkF m 133 (own_l15 qs p2 p3 p4 p5 qa qb qc qt b10) [])) _
      refine X12.ldc2Long hx hown (mvT hZ (own_w hw 33 rfl)) (g := (mkF m 133 (own_l15 qs p2 p3 p4 p5 qa qb qc qt b10) [])) rfl (hb hby at_133) _ ?_
      show Steps p.tables e below (T12.setTop (mkF m 136 (own_l15 qs p2 p3 p4 p5 qa qb qc qt b10) [(.long (65536 : Int64))])) _
      refine XS.lstore X12.here hx rfl (hb hby at_136) rfl (l' := (own_l16 qs p2 p3 p4 p5 qa qb qc qt b10)) rfl ?_
      refine XS.iload X12.here hx rfl (hb hby at_138) rfl ?_
      refine XS.iconst X12.here hx rfl (hb hby at_140) ?_
      show Steps p.tables e below (T12.setTop (mkF m 141 (own_l16 qs p2 p3 p4 p5 qa qb qc qt b10) [(.int (2 : Int32)), (.int (1 : Int32))])) _
      refine XS.icmpYes X12.here hx rfl (pc0 := 141) (pc' := 156) rfl (hb hby at_141) rfl (tlt (by decide : (1 : Int32) < (2 : Int32))).1 (by decide) (by decide) ?_
      refine XS.iconst X12.here hx rfl (hb hby at_156) ?_
      show Steps p.tables e below (T12.setTop (mkF m 157 (own_l16 qs p2 p3 p4 p5 qa qb qc qt b10) [(.int (0 : Int32))])) _
      refine XS.istore X12.here hx rfl (hb hby at_157) rfl (l' := (own_l17 qs p2 p3 p4 p5 qa qb qc qt b10)) rfl ?_
      refine XS.iload X12.here hx rfl (hb hby at_159) rfl ?_
      refine XS.iconst X12.here hx rfl (hb hby at_161) ?_
      show Steps p.tables e below (T12.setTop (mkF m 162 (own_l17 qs p2 p3 p4 p5 qa qb qc qt b10) [(.int (3 : Int32)), (.int (1 : Int32))])) _
      refine XS.icmpYes X12.here hx rfl (pc0 := 162) (pc' := 190) rfl (hb hby at_162) rfl (tlt (by decide : (1 : Int32) < (3 : Int32))).1 (by decide) (by decide) ?_
      refine XS.iconst X12.here hx rfl (hb hby at_190) ?_
      show Steps p.tables e below (T12.setTop (mkF m 191 (own_l17 qs p2 p3 p4 p5 qa qb qc qt b10) [(.int (0 : Int32))])) _
      refine XS.istore X12.here hx rfl (hb hby at_191) rfl (l' := (own_l18 qs p2 p3 p4 p5 qa qb qc qt b10)) rfl ?_
      refine XS.aload X12.here hx rfl (hb hby at_193) rfl rfl ?_
      refine XS.iconst X12.here hx rfl (hb hby at_195) ?_
      exact k
    obtain ⟨cq35, kq35, q35a, q35b, q35c⟩ := isOf hZ rfl Ea12
    obtain ⟨_, _, ⟨T35, L35, k35, n35⟩, -, X35, ⟨Lc35, hQ35, l35, y35, z35⟩, st35⟩ := X12.virtualBack hx (y := (⟨"com/example/coho/coho/eventlog/SegmentIndex", "stretchEnd", "(I)J"⟩ : MethodName)) (z := (⟨"com/example/coho/coho/eventlog/SegmentIndex", "stretchEnd", "(I)J"⟩ : MethodName)) hown (mvT hZ (own_w hw 34 rfl)) (mvT hZ (own_w hw 35 rfl)) (notFace_of_selects (args := #[]) (mvT hZ (own_w hw 37 rfl))) (mvT hZ (own_w hw 37 rfl)) (mvT hZ (own_w hw 36 rfl)) (by decide) (backOf (W := 0) (rm4_0_1 l Z a0 hw [] b10 ar11 ks11 (1 : Int32) (qs + qa) qs (0 : Int64) (0 : Int64) (0 : Int64) T12.heap n0 Zs12 Fentries12 Fcount12 Fend12 Fstarts12 Vs12) hZ (own_w hw 38 rfl) (own_w hw 4 rfl) (by decide) (by decide)) q35a q35c (g := (mkF m 196 (own_l18 qs p2 p3 p4 p5 qa qb qc qt b10) [(.int (0 : Int32)), (.ref b10)])) rfl (by rw [hml]; rfl) (Steps.refl _) (argsL := [(.int (0 : Int32))]) (rest := []) (lenOf own_pd2 rfl) rfl (by show 2 * 0 + _ ≤ _; exact Nat.le_of_eq rfl) (hb hby at_196) (fun _ _ => ⟨rfl, rfl, (by decide : 4 + 0 ≤ _), (by decide : 19 + 0 ≤ _)⟩)
    dsimp only [Pt.U, Pt.locs, Pt.cells, Pt.slots] at X35 l35 y35 z35 st35 hQ35
    subst l35 y35 z35
    obtain ⟨Nq35, rfl, eq35⟩ := hQ35
    have N35 := Fr.app N12 Nq35
    refine own_pre (fun t k => st35.trans k) ?_
    refine own_pre (A := (T35.setTop (mkF m 315 (own_l19 qs p2 p3 p4 p5 qa qb qc qt b10) [(.int (1 : Int32))]))) ?_ ?_
    · intro t k
      show Steps p.tables e below (T35.setTop (mkF m 199 (own_l18 qs p2 p3 p4 p5 qa qb qc qt b10) [(.long (qs + qa))])) _
      refine XS.iload X35.here hx rfl (hb hby at_199) rfl ?_
      show Steps p.tables e below (T35.setTop (mkF m 201 (own_l18 qs p2 p3 p4 p5 qa qb qc qt b10) [(.int (0 : Int32)), (.long (qs + qa))])) _
      refine XS.ifYes X35.here hx rfl (pc0 := 201) (pc' := 209) rfl (hb hby at_201) rfl ((if0 _ _).trans (teq (by decide : (0 : Int32) = (0 : Int32))).1) (by decide) (by decide) ?_
      refine XS.iload X35.here hx rfl (hb hby at_209) rfl ?_
      show Steps p.tables e below (T35.setTop (mkF m 211 (own_l18 qs p2 p3 p4 p5 qa qb qc qt b10) [(.int (0 : Int32)), (.long (qs + qa))])) _
      refine XS.ifYes X35.here hx rfl (pc0 := 211) (pc' := 219) rfl (hb hby at_211) rfl ((if0 _ _).trans (teq (by decide : (0 : Int32) = (0 : Int32))).1) (by decide) (by decide) ?_
      refine XS.lload X35.here hx rfl (hb hby at_219) rfl ?_
      refine XS.lcmp X35.here hx rfl (hb hby at_221) rfl ?_
      refine XS.ifNo X35.here hx rfl (hb hby at_222) rfl ((if0 _ _).trans (teq ((lw_eq (qs + qa) (qs + qa)).mpr (rfl : (qs + qa) = (qs + qa)))).2) ?_
      refine XS.iconst X35.here hx rfl (hb hby at_225) ?_
      show Steps p.tables e below (T35.setTop (mkF m 226 (own_l18 qs p2 p3 p4 p5 qa qb qc qt b10) [(.int (1 : Int32))])) _
      refine XS.goto X35.here hx rfl (pc0 := 226) (pc' := 230) rfl (hb hby at_226) (by decide) (by decide) ?_
      show Steps p.tables e below (T35.setTop (mkF m 230 (own_l18 qs p2 p3 p4 p5 qa qb qc qt b10) [(.int (1 : Int32))])) _
      refine XS.istore X35.here hx rfl (hb hby at_230) rfl (l' := (own_l19 qs p2 p3 p4 p5 qa qb qc qt b10)) rfl ?_
      refine XS.iload X35.here hx rfl (hb hby at_232) rfl ?_
      show Steps p.tables e below (T35.setTop (mkF m 234 (own_l19 qs p2 p3 p4 p5 qa qb qc qt b10) [(.int (0 : Int32))])) _
      refine XS.ifYes X35.here hx rfl (pc0 := 234) (pc' := 271) rfl (hb hby at_234) rfl ((if0 _ _).trans (teq (by decide : (0 : Int32) = (0 : Int32))).1) (by decide) (by decide) ?_
      refine XS.iload X35.here hx rfl (hb hby at_271) rfl ?_
      show Steps p.tables e below (T35.setTop (mkF m 273 (own_l19 qs p2 p3 p4 p5 qa qb qc qt b10) [(.int (0 : Int32))])) _
      refine XS.ifYes X35.here hx rfl (pc0 := 273) (pc' := 313) rfl (hb hby at_273) rfl ((if0 _ _).trans (teq (by decide : (0 : Int32) = (0 : Int32))).1) (by decide) (by decide) ?_
      refine XS.iload X35.here hx rfl (hb hby at_313) rfl ?_
      exact k
    obtain ⟨fs, hr, hrun, hended, hW, hsame⟩ := X35.leave (hlocks := BodyLoose.notSynchronized Bd) (v := some (.int (1 : Int32))) (fun h => by rw [Bd.returns] at h; cases h)
    refine ⟨_, _, retOut X35 hx Bd.returns rfl (Or.inl ⟨rfl, Or.inr (Or.inl rfl), _, rfl⟩) (hb hby at_315) hr, hrun, hended, _, _, rfl, ?_, ⟨_, rfl⟩, hW, hsame.mono (by decide) (by decide)⟩
    show own_Q0 h0 n0 _ T35.heap _
    rw [eq35]
    exact ⟨rfl, N35⟩
  · skip
    obtain ⟨T38, h38, X38, e38, E38, A38, D38, -, st38⟩ := newO X0 hx hZ hown (own_w hw 2 rfl) (own_w hw 3 rfl) (own_w hw 4 rfl) e0 (g := (mkF m 38 (own_l20 qs p2 p3 p4 p5 qa qb qc qt) [])) rfl (hb hby at_38) (by decide) (by decide)
    obtain ⟨b38, g38⟩ : ∃ z, z = h0.size := ⟨_, rfl⟩
    rw [← g38] at A38 D38 st38
    have gn_b38 : n0 ≤ b38 := Nat.le_trans Z0 (Nat.le_of_eq g38.symm)
    have Zs38 : n0 ≤ h38.size := Nat.le_trans Z0 E38.1
    have Kc38 : Keep h0 h38 [] := (Keep.refl h0 []).ext E38
    have F38_places : Fld Z h38 b38 "com/example/coho/coho/eventlog/SegmentIndex" "places" "[I" .null := D38 (Or.inl (own_w hw 13 rfl)) (ty := (.array .int)) (by decide)
    have F38_starts : Fld Z h38 b38 "com/example/coho/coho/eventlog/SegmentIndex" "starts" "[J" .null := D38 (Or.inl (own_w hw 16 rfl)) (ty := (.array .long)) (by decide)
    have F38_times : Fld Z h38 b38 "com/example/coho/coho/eventlog/SegmentIndex" "times" "[J" .null := D38 (Or.inl (own_w hw 18 rfl)) (ty := (.array .long)) (by decide)
    have F38_lastTime : Fld Z h38 b38 "com/example/coho/coho/eventlog/SegmentIndex" "lastTime" "J" (.long (0 : Int64)) := D38 (Or.inl (own_w hw 21 rfl)) (ty := .long) (by decide)
    have F38_end : Fld Z h38 b38 "com/example/coho/coho/eventlog/SegmentIndex" "end" "J" (.long (0 : Int64)) := D38 (Or.inl (own_w hw 23 rfl)) (ty := .long) (by decide)
    have F38_entries : Fld Z h38 b38 "com/example/coho/coho/eventlog/SegmentIndex" "entries" "I" (.int (0 : Int32)) := D38 (Or.inl (own_w hw 30 rfl)) (ty := .int) (by decide)
    have F38_count : Fld Z h38 b38 "com/example/coho/coho/eventlog/SegmentIndex" "count" "I" (.int (0 : Int32)) := D38 (Or.inl (own_w hw 32 rfl)) (ty := .int) (by decide)
    refine own_pre (fun t k => st38 t k) ?_
    refine own_pre (A := (T38.setTop (mkF m 43 (own_l20 qs p2 p3 p4 p5 qa qb qc qt) [(.long qs), (.ref b38), (.ref b38)]))) ?_ ?_
    · intro t k
      show Steps p.tables e below (T38.setTop (mkF m 41 (own_l20 qs p2 p3 p4 p5 qa qb qc qt) [(.ref b38)])) _
      refine XS.dup X38.here hx rfl (hb hby at_41) rfl rfl ?_
      refine XS.lloadN X38.here hx rfl (hb hby at_42) rfl ?_
      exact k
    obtain ⟨_, _, ⟨T39, L39, k39, n39⟩, -, X39, ⟨Lc39, hQ39, l39, y39, z39⟩, st39⟩ := X38.specialBack hx (y := (⟨"com/example/coho/coho/eventlog/SegmentIndex", "<init>", "(J)V"⟩ : MethodName)) rfl hown (mvT hZ (own_w hw 5 rfl)) (mvT hZ (own_w hw 6 rfl)) (mvT hZ (own_w hw 7 rfl)) (by decide) (backOf (W := 1) (rm1 l Z a0 hw [] b38 qs h38 n0 Zs38 A38 F38_places F38_starts F38_times F38_entries F38_count F38_end F38_lastTime gn_b38) hZ (own_w hw 7 rfl) (own_w hw 4 rfl) (by decide) (by decide)) (g := (mkF m 43 (own_l20 qs p2 p3 p4 p5 qa qb qc qt) [(.long qs), (.ref b38), (.ref b38)])) rfl (by rw [hml]; rfl) (Steps.refl _) (a := b38) (argsL := [(.long qs)]) (rest := [(.ref b38)]) (lenOf own_pd0 rfl) rfl (by show 2 * 0 + _ ≤ _; exact Nat.le_of_eq rfl) (hb hby at_43) (fun _ _ => ⟨rfl, e38, (by decide : 1 + 3 ≤ _), (by decide : 7 + 12 ≤ _)⟩)
    dsimp only [Pt.U, Pt.locs, Pt.cells, Pt.slots] at X39 l39 y39 z39 st39 hQ39
    subst l39 y39 z39
    obtain ⟨rfl, Nq39, ap39, ar39, at39, kp39, ks39, Kq39, zz039, zz139, zz239, B39⟩ := hQ39
    have N39 := Fr.app N0 Nq39
    refine own_pre (fun t k => st39.trans k) ?_
    have Zs39 : n0 ≤ T39.heap.size := Nat.le_trans Zs38 Kq39.1
    obtain ⟨Ea39, Fplaces39, Fstarts39, Ftimes39, Fentries39, Fcount39, Fend39, FlastTime39, Vp39, Vs39, Vt39, n039, n139, n239, n339, n439, n539, gg039, gg139, gg239, gg339⟩ := B39
    refine own_pre (A := (T39.setTop (mkF m 54 (own_l21 qs p2 p3 p4 p5 qa qb qc qt b38) [(.long qt), (.long qa), (.ref b38)]))) ?_ ?_
    · intro t k
      show Steps p.tables e below (T39.setTop (mkF m 46 (own_l20 qs p2 p3 p4 p5 qa qb qc qt) [(.ref b38)])) _
      refine XS.astore X39.here hx rfl (hb hby at_46) rfl rfl (l' := (own_l21 qs p2 p3 p4 p5 qa qb qc qt b38)) rfl ?_
      refine XS.aload X39.here hx rfl (hb hby at_48) rfl rfl ?_
      refine XS.lload X39.here hx rfl (hb hby at_50) rfl ?_
      refine XS.lload X39.here hx rfl (hb hby at_52) rfl ?_
      exact k
    obtain ⟨cq40, kq40, q40a, q40b, q40c⟩ := isOf hZ rfl Ea39
    obtain ⟨_, _, ⟨T40, L40, k40, n40⟩, -, X40, ⟨Lc40, hQ40, l40, y40, z40⟩, st40⟩ := X39.virtualBack hx (y := (⟨"com/example/coho/coho/eventlog/SegmentIndex", "add", "(JJ)V"⟩ : MethodName)) (z := (⟨"com/example/coho/coho/eventlog/SegmentIndex", "add", "(JJ)V"⟩ : MethodName)) hown (mvT hZ (own_w hw 24 rfl)) (mvT hZ (own_w hw 25 rfl)) (notFace_of_selects (args := #[]) (mvT hZ (own_w hw 27 rfl))) (mvT hZ (own_w hw 27 rfl)) (mvT hZ (own_w hw 26 rfl)) (by decide) (backOf (W := 0) (rm3_0 l Z a0 hw [] b38 qa qt ap39 ar39 at39 kp39 ks39 (0 : Int32) qs (-9223372036854775808 : Int64) (0 : Int32) (0 : Int32) (0 : Int32) (0 : Int32) (0 : Int64) (0 : Int64) (0 : Int64) (0 : Int64) T39.heap n0 Zs39 ⟨Ea39, Fplaces39, Fstarts39, Ftimes39, Fentries39, Fcount39, Fend39, FlastTime39, Vp39, Vs39, Vt39, n039, n139, n239, n339, n439, n539, gg039, gg139, gg239, gg339⟩) hZ (own_w hw 28 rfl) (own_w hw 4 rfl) (by decide) (by decide)) q40a q40c (g := (mkF m 54 (own_l21 qs p2 p3 p4 p5 qa qb qc qt b38) [(.long qt), (.long qa), (.ref b38)])) rfl (by rw [hml]; rfl) (Steps.refl _) (argsL := [(.long qa), (.long qt)]) (rest := []) (lenOf own_pd1 rfl) rfl (by show 2 * 0 + _ ≤ _; exact Nat.le_of_eq rfl) (hb hby at_54) (fun _ _ => ⟨rfl, rfl, (by decide : 4 + 0 ≤ _), (by decide : 19 + 0 ≤ _)⟩)
    dsimp only [Pt.U, Pt.locs, Pt.cells, Pt.slots] at X40 l40 y40 z40 st40 hQ40
    subst l40 y40 z40
    obtain ⟨rfl, Nq40, Kq40, B40⟩ := hQ40
    have N40 := Fr.app N39 Nq40
    refine own_pre (fun t k => st40.trans k) ?_
    have Zs40 : n0 ≤ T40.heap.size := Nat.le_trans Zs39 Kq40.1
    obtain ⟨Ea40, Fplaces40, Fstarts40, Ftimes40, Fentries40, Fcount40, Fend40, FlastTime40, Vp40, Vs40, Vt40, n040, n140, n240, n340, n440, n540, gg040, gg140, gg240, gg340⟩ := B40
    rw [show ((0 : Int32) + (1 : Int32)) = (1 : Int32) from by decide] at Fcount40
    refine own_pre (A := (T40.setTop (mkF m 69 (own_l21 qs p2 p3 p4 p5 qa qb qc qt b38) [(.long qt), (.long qb), (.ref b38)]))) ?_ ?_
    · intro t k
      show Steps p.tables e below (T40.setTop (mkF m 57 (own_l21 qs p2 p3 p4 p5 qa qb qc qt b38) [])) _
      refine XS.iload X40.here hx rfl (hb hby at_57) rfl ?_
      refine XS.iconst X40.here hx rfl (hb hby at_59) ?_
      refine XS.icmpNo X40.here hx rfl (hb hby at_60) rfl (flt (by decide : ¬ ((2 : Int32) < (2 : Int32)))).1 ?_
      refine XS.aload X40.here hx rfl (hb hby at_63) rfl rfl ?_
      refine XS.lload X40.here hx rfl (hb hby at_65) rfl ?_
      refine XS.lload X40.here hx rfl (hb hby at_67) rfl ?_
      exact k
    by_cases hw41 : qa < (65536 : Int64)
    · skip
      obtain ⟨cq42, kq42, q42a, q42b, q42c⟩ := isOf hZ rfl Ea40
      obtain ⟨_, _, ⟨T42, L42, k42, n42⟩, -, X42, ⟨Lc42, hQ42, l42, y42, z42⟩, st42⟩ := X40.virtualBack hx (y := (⟨"com/example/coho/coho/eventlog/SegmentIndex", "add", "(JJ)V"⟩ : MethodName)) (z := (⟨"com/example/coho/coho/eventlog/SegmentIndex", "add", "(JJ)V"⟩ : MethodName)) hown (mvT hZ (own_w hw 24 rfl)) (mvT hZ (own_w hw 25 rfl)) (notFace_of_selects (args := #[]) (mvT hZ (own_w hw 27 rfl))) (mvT hZ (own_w hw 27 rfl)) (mvT hZ (own_w hw 26 rfl)) (by decide) (backOf (W := 0) (rm3_1A l Z a0 hw [] b38 qb qt ap39 ar39 at39 kp39 ks39 (1 : Int32) (qs + qa) qt (0 : Int32) (0 : Int32) (0 : Int32) (0 : Int32) qs (0 : Int64) (0 : Int64) (0 : Int64) T40.heap n0 Zs40 ⟨Ea40, Fplaces40, Fstarts40, Ftimes40, Fentries40, Fcount40, Fend40, FlastTime40, Vp40, Vs40, Vt40, n040, n140, n240, n340, n440, n540, gg040, gg140, gg240, gg340⟩ (by rw [own_sub1]; exact hw41)) hZ (own_w hw 28 rfl) (own_w hw 4 rfl) (by decide) (by decide)) q42a q42c (g := (mkF m 69 (own_l21 qs p2 p3 p4 p5 qa qb qc qt b38) [(.long qt), (.long qb), (.ref b38)])) rfl (by rw [hml]; rfl) (Steps.refl _) (argsL := [(.long qb), (.long qt)]) (rest := []) (lenOf own_pd1 rfl) rfl (by show 2 * 0 + _ ≤ _; exact Nat.le_of_eq rfl) (hb hby at_69) (fun _ _ => ⟨rfl, rfl, (by decide : 4 + 0 ≤ _), (by decide : 19 + 0 ≤ _)⟩)
      dsimp only [Pt.U, Pt.locs, Pt.cells, Pt.slots] at X42 l42 y42 z42 st42 hQ42
      subst l42 y42 z42
      obtain ⟨rfl, Nq42, Kq42, B42⟩ := hQ42
      have N42 := Fr.app N40 Nq42
      refine own_pre (fun t k => st42.trans k) ?_
      have Zs42 : n0 ≤ T42.heap.size := Nat.le_trans Zs40 Kq42.1
      obtain ⟨Ea42, Fplaces42, Fstarts42, Ftimes42, Fentries42, Fcount42, Fend42, FlastTime42, Vp42, Vs42, Vt42, n042, n142, n242, n342, n442, n542, gg042, gg142, gg242, gg342⟩ := B42
      rw [show ((1 : Int32) + (1 : Int32)) = (2 : Int32) from by decide] at Fcount42
      refine own_pre (A := (T42.setTop (mkF m 196 (own_l28 qs p2 p3 p4 p5 qa qb qc qt b38) [(.int (0 : Int32)), (.ref b38)]))) ?_ ?_
      · intro t k
        show Steps p.tables e below (T42.setTop (mkF m 72 (own_l21 qs p2 p3 p4 p5 qa qb qc qt b38) [])) _
        refine XS.iload X42.here hx rfl (hb hby at_72) rfl ?_
        refine XS.iconst X42.here hx rfl (hb hby at_74) ?_
        show Steps p.tables e below (T42.setTop (mkF m 75 (own_l21 qs p2 p3 p4 p5 qa qb qc qt b38) [(.int (3 : Int32)), (.int (2 : Int32))])) _
        refine XS.icmpYes X42.here hx rfl (pc0 := 75) (pc' := 87) rfl (hb hby at_75) rfl (tlt (by decide : (2 : Int32) < (3 : Int32))).1 (by decide) (by decide) ?_
        refine XS.lloadN X42.here hx rfl (hb hby at_87) rfl ?_
        refine XS.lload X42.here hx rfl (hb hby at_88) rfl ?_
        refine XS.ladd X42.here hx rfl (hb hby at_90) rfl ?_
        show Steps p.tables e below (T42.setTop (mkF m 91 (own_l21 qs p2 p3 p4 p5 qa qb qc qt b38) [(.long (qs + qa))])) _
        refine XS.lstore X42.here hx rfl (hb hby at_91) rfl (l' := (own_l22 qs p2 p3 p4 p5 qa qb qc qt b38)) rfl ?_
        refine XS.lload X42.here hx rfl (hb hby at_93) rfl ?_
        refine XS.lload X42.here hx rfl (hb hby at_95) rfl ?_
        refine XS.ladd X42.here hx rfl (hb hby at_97) rfl ?_
        show Steps p.tables e below (T42.setTop (mkF m 98 (own_l22 qs p2 p3 p4 p5 qa qb qc qt b38) [(.long ((qs + qa) + qb))])) _
        refine XS.lstore X42.here hx rfl (hb hby at_98) rfl (l' := (own_l23 qs p2 p3 p4 p5 qa qb qc qt b38)) rfl ?_
        refine XS.lload X42.here hx rfl (hb hby at_100) rfl ?_
        refine XS.lload X42.here hx rfl (hb hby at_102) rfl ?_
        refine XS.ladd X42.here hx rfl (hb hby at_104) rfl ?_
        show Steps p.tables e below (T42.setTop (mkF m 105 (own_l23 qs p2 p3 p4 p5 qa qb qc qt b38) [(.long (((qs + qa) + qb) + qc))])) _
        refine XS.lstore X42.here hx rfl (hb hby at_105) rfl (l' := (own_l24 qs p2 p3 p4 p5 qa qb qc qt b38)) rfl ?_
        refine XS.iload X42.here hx rfl (hb hby at_107) rfl ?_
        refine XS.iconst X42.here hx rfl (hb hby at_109) ?_
        show Steps p.tables e below (T42.setTop (mkF m 110 (own_l24 qs p2 p3 p4 p5 qa qb qc qt b38) [(.int (1 : Int32)), (.int (2 : Int32))])) _
        refine XS.icmpYes X42.here hx rfl (pc0 := 110) (pc' := 118) rfl (hb hby at_110) rfl (feq (by decide : ¬ ((2 : Int32) = (1 : Int32)))).2 (by decide) (by decide) ?_
        refine XS.iload X42.here hx rfl (hb hby at_118) rfl ?_
        refine XS.iconst X42.here hx rfl (hb hby at_120) ?_
        refine XS.icmpNo X42.here hx rfl (hb hby at_121) rfl (teq (by decide : (2 : Int32) = (2 : Int32))).2 ?_
        refine XS.lload X42.here hx rfl (hb hby at_124) rfl ?_
        show Steps p.tables e below (T42.setTop (mkF m 126 (own_l24 qs p2 p3 p4 p5 qa qb qc qt b38) [(.long ((qs + qa) + qb))])) _
        refine XS.goto X42.here hx rfl (pc0 := 126) (pc' := 131) rfl (hb hby at_126) (by decide) (by decide) ?_
        show Steps p.tables e below (T42.setTop (mkF m 131 (own_l24 qs p2 p3 p4 p5 qa qb qc qt b38) [(.long ((qs + qa) + qb))])) _
        refine XS.lstore X42.here hx rfl (hb hby at_131) rfl (l' := (own_l25 qs p2 p3 p4 p5 qa qb qc qt b38)) rfl ?_
        show Steps p.tables e below (T42.setTop (mkF m 133 (own_l25 qs p2 p3 p4 p5 qa qb qc qt b38) [])) _
        refine X42.ldc2Long hx hown (mvT hZ (own_w hw 33 rfl)) (g := (mkF m 133 (own_l25 qs p2 p3 p4 p5 qa qb qc qt b38) [])) rfl (hb hby at_133) _ ?_
        show Steps p.tables e below (T42.setTop (mkF m 136 (own_l25 qs p2 p3 p4 p5 qa qb qc qt b38) [(.long (65536 : Int64))])) _
        refine XS.lstore X42.here hx rfl (hb hby at_136) rfl (l' := (own_l26 qs p2 p3 p4 p5 qa qb qc qt b38)) rfl ?_
        refine XS.iload X42.here hx rfl (hb hby at_138) rfl ?_
        refine XS.iconst X42.here hx rfl (hb hby at_140) ?_
        refine XS.icmpNo X42.here hx rfl (hb hby at_141) rfl (flt (by decide : ¬ ((2 : Int32) < (2 : Int32)))).1 ?_
        refine XS.lload X42.here hx rfl (hb hby at_144) rfl ?_
        refine XS.lload X42.here hx rfl (hb hby at_146) rfl ?_
        refine XS.lcmp X42.here hx rfl (hb hby at_148) rfl ?_
        show Steps p.tables e below (T42.setTop (mkF m 149 (own_l26 qs p2 p3 p4 p5 qa qb qc qt b38) [(.int (lcmpW qa (65536 : Int64)))])) _
        refine XS.ifYes X42.here hx rfl (pc0 := 149) (pc' := 156) rfl (hb hby at_149) rfl ((if0 _ _).trans (tlt ((lw_lt qa (65536 : Int64)).mpr hw41)).1) (by decide) (by decide) ?_
        refine XS.iconst X42.here hx rfl (hb hby at_156) ?_
        show Steps p.tables e below (T42.setTop (mkF m 157 (own_l26 qs p2 p3 p4 p5 qa qb qc qt b38) [(.int (0 : Int32))])) _
        refine XS.istore X42.here hx rfl (hb hby at_157) rfl (l' := (own_l27 qs p2 p3 p4 p5 qa qb qc qt b38)) rfl ?_
        refine XS.iload X42.here hx rfl (hb hby at_159) rfl ?_
        refine XS.iconst X42.here hx rfl (hb hby at_161) ?_
        show Steps p.tables e below (T42.setTop (mkF m 162 (own_l27 qs p2 p3 p4 p5 qa qb qc qt b38) [(.int (3 : Int32)), (.int (2 : Int32))])) _
        refine XS.icmpYes X42.here hx rfl (pc0 := 162) (pc' := 190) rfl (hb hby at_162) rfl (tlt (by decide : (2 : Int32) < (3 : Int32))).1 (by decide) (by decide) ?_
        refine XS.iconst X42.here hx rfl (hb hby at_190) ?_
        show Steps p.tables e below (T42.setTop (mkF m 191 (own_l27 qs p2 p3 p4 p5 qa qb qc qt b38) [(.int (0 : Int32))])) _
        refine XS.istore X42.here hx rfl (hb hby at_191) rfl (l' := (own_l28 qs p2 p3 p4 p5 qa qb qc qt b38)) rfl ?_
        refine XS.aload X42.here hx rfl (hb hby at_193) rfl rfl ?_
        refine XS.iconst X42.here hx rfl (hb hby at_195) ?_
        exact k
      obtain ⟨cq53, kq53, q53a, q53b, q53c⟩ := isOf hZ rfl Ea42
      obtain ⟨_, _, ⟨T53, L53, k53, n53⟩, -, X53, ⟨Lc53, hQ53, l53, y53, z53⟩, st53⟩ := X42.virtualBack hx (y := (⟨"com/example/coho/coho/eventlog/SegmentIndex", "stretchEnd", "(I)J"⟩ : MethodName)) (z := (⟨"com/example/coho/coho/eventlog/SegmentIndex", "stretchEnd", "(I)J"⟩ : MethodName)) hown (mvT hZ (own_w hw 34 rfl)) (mvT hZ (own_w hw 35 rfl)) (notFace_of_selects (args := #[]) (mvT hZ (own_w hw 37 rfl))) (mvT hZ (own_w hw 37 rfl)) (mvT hZ (own_w hw 36 rfl)) (by decide) (backOf (W := 0) (rm4_0_1 l Z a0 hw [] b38 ar39 ks39 (2 : Int32) ((qs + qa) + qb) qs (0 : Int64) (0 : Int64) (0 : Int64) T42.heap n0 Zs42 Fentries42 Fcount42 Fend42 Fstarts42 Vs42) hZ (own_w hw 38 rfl) (own_w hw 4 rfl) (by decide) (by decide)) q53a q53c (g := (mkF m 196 (own_l28 qs p2 p3 p4 p5 qa qb qc qt b38) [(.int (0 : Int32)), (.ref b38)])) rfl (by rw [hml]; rfl) (Steps.refl _) (argsL := [(.int (0 : Int32))]) (rest := []) (lenOf own_pd2 rfl) rfl (by show 2 * 0 + _ ≤ _; exact Nat.le_of_eq rfl) (hb hby at_196) (fun _ _ => ⟨rfl, rfl, (by decide : 4 + 0 ≤ _), (by decide : 19 + 0 ≤ _)⟩)
      dsimp only [Pt.U, Pt.locs, Pt.cells, Pt.slots] at X53 l53 y53 z53 st53 hQ53
      subst l53 y53 z53
      obtain ⟨Nq53, rfl, eq53⟩ := hQ53
      have N53 := Fr.app N42 Nq53
      refine own_pre (fun t k => st53.trans k) ?_
      refine own_pre (A := (T53.setTop (mkF m 315 (own_l29 qs p2 p3 p4 p5 qa qb qc qt b38) [(.int (1 : Int32))]))) ?_ ?_
      · intro t k
        show Steps p.tables e below (T53.setTop (mkF m 199 (own_l28 qs p2 p3 p4 p5 qa qb qc qt b38) [(.long ((qs + qa) + qb))])) _
        refine XS.iload X53.here hx rfl (hb hby at_199) rfl ?_
        show Steps p.tables e below (T53.setTop (mkF m 201 (own_l28 qs p2 p3 p4 p5 qa qb qc qt b38) [(.int (0 : Int32)), (.long ((qs + qa) + qb))])) _
        refine XS.ifYes X53.here hx rfl (pc0 := 201) (pc' := 209) rfl (hb hby at_201) rfl ((if0 _ _).trans (teq (by decide : (0 : Int32) = (0 : Int32))).1) (by decide) (by decide) ?_
        refine XS.iload X53.here hx rfl (hb hby at_209) rfl ?_
        show Steps p.tables e below (T53.setTop (mkF m 211 (own_l28 qs p2 p3 p4 p5 qa qb qc qt b38) [(.int (0 : Int32)), (.long ((qs + qa) + qb))])) _
        refine XS.ifYes X53.here hx rfl (pc0 := 211) (pc' := 219) rfl (hb hby at_211) rfl ((if0 _ _).trans (teq (by decide : (0 : Int32) = (0 : Int32))).1) (by decide) (by decide) ?_
        refine XS.lload X53.here hx rfl (hb hby at_219) rfl ?_
        refine XS.lcmp X53.here hx rfl (hb hby at_221) rfl ?_
        refine XS.ifNo X53.here hx rfl (hb hby at_222) rfl ((if0 _ _).trans (teq ((lw_eq ((qs + qa) + qb) ((qs + qa) + qb)).mpr (rfl : ((qs + qa) + qb) = ((qs + qa) + qb)))).2) ?_
        refine XS.iconst X53.here hx rfl (hb hby at_225) ?_
        show Steps p.tables e below (T53.setTop (mkF m 226 (own_l28 qs p2 p3 p4 p5 qa qb qc qt b38) [(.int (1 : Int32))])) _
        refine XS.goto X53.here hx rfl (pc0 := 226) (pc' := 230) rfl (hb hby at_226) (by decide) (by decide) ?_
        show Steps p.tables e below (T53.setTop (mkF m 230 (own_l28 qs p2 p3 p4 p5 qa qb qc qt b38) [(.int (1 : Int32))])) _
        refine XS.istore X53.here hx rfl (hb hby at_230) rfl (l' := (own_l29 qs p2 p3 p4 p5 qa qb qc qt b38)) rfl ?_
        refine XS.iload X53.here hx rfl (hb hby at_232) rfl ?_
        show Steps p.tables e below (T53.setTop (mkF m 234 (own_l29 qs p2 p3 p4 p5 qa qb qc qt b38) [(.int (0 : Int32))])) _
        refine XS.ifYes X53.here hx rfl (pc0 := 234) (pc' := 271) rfl (hb hby at_234) rfl ((if0 _ _).trans (teq (by decide : (0 : Int32) = (0 : Int32))).1) (by decide) (by decide) ?_
        refine XS.iload X53.here hx rfl (hb hby at_271) rfl ?_
        show Steps p.tables e below (T53.setTop (mkF m 273 (own_l29 qs p2 p3 p4 p5 qa qb qc qt b38) [(.int (0 : Int32))])) _
        refine XS.ifYes X53.here hx rfl (pc0 := 273) (pc' := 313) rfl (hb hby at_273) rfl ((if0 _ _).trans (teq (by decide : (0 : Int32) = (0 : Int32))).1) (by decide) (by decide) ?_
        refine XS.iload X53.here hx rfl (hb hby at_313) rfl ?_
        exact k
      obtain ⟨fs, hr, hrun, hended, hW, hsame⟩ := X53.leave (hlocks := BodyLoose.notSynchronized Bd) (v := some (.int (1 : Int32))) (fun h => by rw [Bd.returns] at h; cases h)
      refine ⟨_, _, retOut X53 hx Bd.returns rfl (Or.inl ⟨rfl, Or.inr (Or.inl rfl), _, rfl⟩) (hb hby at_315) hr, hrun, hended, _, _, rfl, ?_, ⟨_, rfl⟩, hW, hsame.mono (by decide) (by decide)⟩
      show own_Q0 h0 n0 _ T53.heap _
      rw [eq53]
      exact ⟨rfl, N53⟩
    · skip
      obtain ⟨cq54, kq54, q54a, q54b, q54c⟩ := isOf hZ rfl Ea40
      obtain ⟨_, _, ⟨T54, L54, k54, n54⟩, -, X54, ⟨Lc54, hQ54, l54, y54, z54⟩, st54⟩ := X40.virtualBack hx (y := (⟨"com/example/coho/coho/eventlog/SegmentIndex", "add", "(JJ)V"⟩ : MethodName)) (z := (⟨"com/example/coho/coho/eventlog/SegmentIndex", "add", "(JJ)V"⟩ : MethodName)) hown (mvT hZ (own_w hw 24 rfl)) (mvT hZ (own_w hw 25 rfl)) (notFace_of_selects (args := #[]) (mvT hZ (own_w hw 27 rfl))) (mvT hZ (own_w hw 27 rfl)) (mvT hZ (own_w hw 26 rfl)) (by decide) (backOf (W := 0) (rm3_1B l Z a0 hw [] b38 qb qt ap39 ar39 at39 kp39 ks39 (1 : Int32) (qs + qa) qt (0 : Int32) (0 : Int32) (0 : Int32) (0 : Int32) qs (0 : Int64) (0 : Int64) (0 : Int64) T40.heap n0 Zs40 ⟨Ea40, Fplaces40, Fstarts40, Ftimes40, Fentries40, Fcount40, Fend40, FlastTime40, Vp40, Vs40, Vt40, n040, n140, n240, n340, n440, n540, gg040, gg140, gg240, gg340⟩ (by rw [own_sub1]; exact hw41)) hZ (own_w hw 28 rfl) (own_w hw 4 rfl) (by decide) (by decide)) q54a q54c (g := (mkF m 69 (own_l21 qs p2 p3 p4 p5 qa qb qc qt b38) [(.long qt), (.long qb), (.ref b38)])) rfl (by rw [hml]; rfl) (Steps.refl _) (argsL := [(.long qb), (.long qt)]) (rest := []) (lenOf own_pd1 rfl) rfl (by show 2 * 0 + _ ≤ _; exact Nat.le_of_eq rfl) (hb hby at_69) (fun _ _ => ⟨rfl, rfl, (by decide : 4 + 0 ≤ _), (by decide : 19 + 0 ≤ _)⟩)
      dsimp only [Pt.U, Pt.locs, Pt.cells, Pt.slots] at X54 l54 y54 z54 st54 hQ54
      subst l54 y54 z54
      obtain ⟨rfl, Nq54, Kq54, B54⟩ := hQ54
      have N54 := Fr.app N40 Nq54
      refine own_pre (fun t k => st54.trans k) ?_
      have Zs54 : n0 ≤ T54.heap.size := Nat.le_trans Zs40 Kq54.1
      obtain ⟨Ea54, Fplaces54, Fstarts54, Ftimes54, Fentries54, Fcount54, Fend54, FlastTime54, Vp54, Vs54, Vt54, n054, n154, n254, n354, n454, n554, gg054, gg154, gg254, gg354⟩ := B54
      rw [show ((1 : Int32) + (1 : Int32)) = (2 : Int32) from by decide] at Fcount54
      refine own_pre (A := (T54.setTop (mkF m 196 (own_l31 qs p2 p3 p4 p5 qa qb qc qt b38) [(.int (0 : Int32)), (.ref b38)]))) ?_ ?_
      · intro t k
        show Steps p.tables e below (T54.setTop (mkF m 72 (own_l21 qs p2 p3 p4 p5 qa qb qc qt b38) [])) _
        refine XS.iload X54.here hx rfl (hb hby at_72) rfl ?_
        refine XS.iconst X54.here hx rfl (hb hby at_74) ?_
        show Steps p.tables e below (T54.setTop (mkF m 75 (own_l21 qs p2 p3 p4 p5 qa qb qc qt b38) [(.int (3 : Int32)), (.int (2 : Int32))])) _
        refine XS.icmpYes X54.here hx rfl (pc0 := 75) (pc' := 87) rfl (hb hby at_75) rfl (tlt (by decide : (2 : Int32) < (3 : Int32))).1 (by decide) (by decide) ?_
        refine XS.lloadN X54.here hx rfl (hb hby at_87) rfl ?_
        refine XS.lload X54.here hx rfl (hb hby at_88) rfl ?_
        refine XS.ladd X54.here hx rfl (hb hby at_90) rfl ?_
        show Steps p.tables e below (T54.setTop (mkF m 91 (own_l21 qs p2 p3 p4 p5 qa qb qc qt b38) [(.long (qs + qa))])) _
        refine XS.lstore X54.here hx rfl (hb hby at_91) rfl (l' := (own_l22 qs p2 p3 p4 p5 qa qb qc qt b38)) rfl ?_
        refine XS.lload X54.here hx rfl (hb hby at_93) rfl ?_
        refine XS.lload X54.here hx rfl (hb hby at_95) rfl ?_
        refine XS.ladd X54.here hx rfl (hb hby at_97) rfl ?_
        show Steps p.tables e below (T54.setTop (mkF m 98 (own_l22 qs p2 p3 p4 p5 qa qb qc qt b38) [(.long ((qs + qa) + qb))])) _
        refine XS.lstore X54.here hx rfl (hb hby at_98) rfl (l' := (own_l23 qs p2 p3 p4 p5 qa qb qc qt b38)) rfl ?_
        refine XS.lload X54.here hx rfl (hb hby at_100) rfl ?_
        refine XS.lload X54.here hx rfl (hb hby at_102) rfl ?_
        refine XS.ladd X54.here hx rfl (hb hby at_104) rfl ?_
        show Steps p.tables e below (T54.setTop (mkF m 105 (own_l23 qs p2 p3 p4 p5 qa qb qc qt b38) [(.long (((qs + qa) + qb) + qc))])) _
        refine XS.lstore X54.here hx rfl (hb hby at_105) rfl (l' := (own_l24 qs p2 p3 p4 p5 qa qb qc qt b38)) rfl ?_
        refine XS.iload X54.here hx rfl (hb hby at_107) rfl ?_
        refine XS.iconst X54.here hx rfl (hb hby at_109) ?_
        show Steps p.tables e below (T54.setTop (mkF m 110 (own_l24 qs p2 p3 p4 p5 qa qb qc qt b38) [(.int (1 : Int32)), (.int (2 : Int32))])) _
        refine XS.icmpYes X54.here hx rfl (pc0 := 110) (pc' := 118) rfl (hb hby at_110) rfl (feq (by decide : ¬ ((2 : Int32) = (1 : Int32)))).2 (by decide) (by decide) ?_
        refine XS.iload X54.here hx rfl (hb hby at_118) rfl ?_
        refine XS.iconst X54.here hx rfl (hb hby at_120) ?_
        refine XS.icmpNo X54.here hx rfl (hb hby at_121) rfl (teq (by decide : (2 : Int32) = (2 : Int32))).2 ?_
        refine XS.lload X54.here hx rfl (hb hby at_124) rfl ?_
        show Steps p.tables e below (T54.setTop (mkF m 126 (own_l24 qs p2 p3 p4 p5 qa qb qc qt b38) [(.long ((qs + qa) + qb))])) _
        refine XS.goto X54.here hx rfl (pc0 := 126) (pc' := 131) rfl (hb hby at_126) (by decide) (by decide) ?_
        show Steps p.tables e below (T54.setTop (mkF m 131 (own_l24 qs p2 p3 p4 p5 qa qb qc qt b38) [(.long ((qs + qa) + qb))])) _
        refine XS.lstore X54.here hx rfl (hb hby at_131) rfl (l' := (own_l25 qs p2 p3 p4 p5 qa qb qc qt b38)) rfl ?_
        show Steps p.tables e below (T54.setTop (mkF m 133 (own_l25 qs p2 p3 p4 p5 qa qb qc qt b38) [])) _
        refine X54.ldc2Long hx hown (mvT hZ (own_w hw 33 rfl)) (g := (mkF m 133 (own_l25 qs p2 p3 p4 p5 qa qb qc qt b38) [])) rfl (hb hby at_133) _ ?_
        show Steps p.tables e below (T54.setTop (mkF m 136 (own_l25 qs p2 p3 p4 p5 qa qb qc qt b38) [(.long (65536 : Int64))])) _
        refine XS.lstore X54.here hx rfl (hb hby at_136) rfl (l' := (own_l26 qs p2 p3 p4 p5 qa qb qc qt b38)) rfl ?_
        refine XS.iload X54.here hx rfl (hb hby at_138) rfl ?_
        refine XS.iconst X54.here hx rfl (hb hby at_140) ?_
        refine XS.icmpNo X54.here hx rfl (hb hby at_141) rfl (flt (by decide : ¬ ((2 : Int32) < (2 : Int32)))).1 ?_
        refine XS.lload X54.here hx rfl (hb hby at_144) rfl ?_
        refine XS.lload X54.here hx rfl (hb hby at_146) rfl ?_
        refine XS.lcmp X54.here hx rfl (hb hby at_148) rfl ?_
        refine XS.ifNo X54.here hx rfl (hb hby at_149) rfl ((if0 _ _).trans (flt (fun q => hw41 ((lw_lt qa (65536 : Int64)).mp q))).1) ?_
        refine XS.iconst X54.here hx rfl (hb hby at_152) ?_
        show Steps p.tables e below (T54.setTop (mkF m 153 (own_l26 qs p2 p3 p4 p5 qa qb qc qt b38) [(.int (1 : Int32))])) _
        refine XS.goto X54.here hx rfl (pc0 := 153) (pc' := 157) rfl (hb hby at_153) (by decide) (by decide) ?_
        show Steps p.tables e below (T54.setTop (mkF m 157 (own_l26 qs p2 p3 p4 p5 qa qb qc qt b38) [(.int (1 : Int32))])) _
        refine XS.istore X54.here hx rfl (hb hby at_157) rfl (l' := (own_l30 qs p2 p3 p4 p5 qa qb qc qt b38)) rfl ?_
        refine XS.iload X54.here hx rfl (hb hby at_159) rfl ?_
        refine XS.iconst X54.here hx rfl (hb hby at_161) ?_
        show Steps p.tables e below (T54.setTop (mkF m 162 (own_l30 qs p2 p3 p4 p5 qa qb qc qt b38) [(.int (3 : Int32)), (.int (2 : Int32))])) _
        refine XS.icmpYes X54.here hx rfl (pc0 := 162) (pc' := 190) rfl (hb hby at_162) rfl (tlt (by decide : (2 : Int32) < (3 : Int32))).1 (by decide) (by decide) ?_
        refine XS.iconst X54.here hx rfl (hb hby at_190) ?_
        show Steps p.tables e below (T54.setTop (mkF m 191 (own_l30 qs p2 p3 p4 p5 qa qb qc qt b38) [(.int (0 : Int32))])) _
        refine XS.istore X54.here hx rfl (hb hby at_191) rfl (l' := (own_l31 qs p2 p3 p4 p5 qa qb qc qt b38)) rfl ?_
        refine XS.aload X54.here hx rfl (hb hby at_193) rfl rfl ?_
        refine XS.iconst X54.here hx rfl (hb hby at_195) ?_
        exact k
      obtain ⟨cq81, kq81, q81a, q81b, q81c⟩ := isOf hZ rfl Ea54
      obtain ⟨_, _, ⟨T81, L81, k81, n81⟩, -, X81, ⟨Lc81, hQ81, l81, y81, z81⟩, st81⟩ := X54.virtualBack hx (y := (⟨"com/example/coho/coho/eventlog/SegmentIndex", "stretchEnd", "(I)J"⟩ : MethodName)) (z := (⟨"com/example/coho/coho/eventlog/SegmentIndex", "stretchEnd", "(I)J"⟩ : MethodName)) hown (mvT hZ (own_w hw 34 rfl)) (mvT hZ (own_w hw 35 rfl)) (notFace_of_selects (args := #[]) (mvT hZ (own_w hw 37 rfl))) (mvT hZ (own_w hw 37 rfl)) (mvT hZ (own_w hw 36 rfl)) (by decide) (backOf (W := 0) (rm4_0_2 l Z a0 hw [] b38 ar39 ks39 (2 : Int32) ((qs + qa) + qb) qs (qs + qa) (0 : Int64) (0 : Int64) T54.heap n0 Zs54 Fentries54 Fcount54 Fend54 Fstarts54 Vs54) hZ (own_w hw 38 rfl) (own_w hw 4 rfl) (by decide) (by decide)) q81a q81c (g := (mkF m 196 (own_l31 qs p2 p3 p4 p5 qa qb qc qt b38) [(.int (0 : Int32)), (.ref b38)])) rfl (by rw [hml]; rfl) (Steps.refl _) (argsL := [(.int (0 : Int32))]) (rest := []) (lenOf own_pd2 rfl) rfl (by show 2 * 0 + _ ≤ _; exact Nat.le_of_eq rfl) (hb hby at_196) (fun _ _ => ⟨rfl, rfl, (by decide : 4 + 0 ≤ _), (by decide : 19 + 0 ≤ _)⟩)
      dsimp only [Pt.U, Pt.locs, Pt.cells, Pt.slots] at X81 l81 y81 z81 st81 hQ81
      subst l81 y81 z81
      obtain ⟨Nq81, rfl, eq81⟩ := hQ81
      have N81 := Fr.app N54 Nq81
      refine own_pre (fun t k => st81.trans k) ?_
      refine own_pre (A := (T81.setTop (mkF m 245 (own_l32 qs p2 p3 p4 p5 qa qb qc qt b38) [(.int (1 : Int32)), (.ref b38)]))) ?_ ?_
      · intro t k
        show Steps p.tables e below (T81.setTop (mkF m 199 (own_l31 qs p2 p3 p4 p5 qa qb qc qt b38) [(.long (qs + qa))])) _
        refine XS.iload X81.here hx rfl (hb hby at_199) rfl ?_
        refine XS.ifNo X81.here hx rfl (hb hby at_201) rfl ((if0 _ _).trans (feq (by decide : ¬ ((1 : Int32) = (0 : Int32)))).1) ?_
        refine XS.lload X81.here hx rfl (hb hby at_204) rfl ?_
        show Steps p.tables e below (T81.setTop (mkF m 206 (own_l31 qs p2 p3 p4 p5 qa qb qc qt b38) [(.long (qs + qa)), (.long (qs + qa))])) _
        refine XS.goto X81.here hx rfl (pc0 := 206) (pc' := 221) rfl (hb hby at_206) (by decide) (by decide) ?_
        refine XS.lcmp X81.here hx rfl (hb hby at_221) rfl ?_
        refine XS.ifNo X81.here hx rfl (hb hby at_222) rfl ((if0 _ _).trans (teq ((lw_eq (qs + qa) (qs + qa)).mpr (rfl : (qs + qa) = (qs + qa)))).2) ?_
        refine XS.iconst X81.here hx rfl (hb hby at_225) ?_
        show Steps p.tables e below (T81.setTop (mkF m 226 (own_l31 qs p2 p3 p4 p5 qa qb qc qt b38) [(.int (1 : Int32))])) _
        refine XS.goto X81.here hx rfl (pc0 := 226) (pc' := 230) rfl (hb hby at_226) (by decide) (by decide) ?_
        show Steps p.tables e below (T81.setTop (mkF m 230 (own_l31 qs p2 p3 p4 p5 qa qb qc qt b38) [(.int (1 : Int32))])) _
        refine XS.istore X81.here hx rfl (hb hby at_230) rfl (l' := (own_l32 qs p2 p3 p4 p5 qa qb qc qt b38)) rfl ?_
        refine XS.iload X81.here hx rfl (hb hby at_232) rfl ?_
        refine XS.ifNo X81.here hx rfl (hb hby at_234) rfl ((if0 _ _).trans (feq (by decide : ¬ ((1 : Int32) = (0 : Int32)))).1) ?_
        refine XS.iload X81.here hx rfl (hb hby at_237) rfl ?_
        refine XS.ifNo X81.here hx rfl (hb hby at_239) rfl ((if0 _ _).trans (feq (by decide : ¬ ((1 : Int32) = (0 : Int32)))).1) ?_
        refine XS.aload X81.here hx rfl (hb hby at_242) rfl rfl ?_
        refine XS.iconst X81.here hx rfl (hb hby at_244) ?_
        exact k
      obtain ⟨cq85, kq85, q85a, q85b, q85c⟩ := isOf hZ eq81 Ea54
      obtain ⟨_, _, ⟨T85, L85, k85, n85⟩, -, X85, ⟨Lc85, hQ85, l85, y85, z85⟩, st85⟩ := X81.virtualBack hx (y := (⟨"com/example/coho/coho/eventlog/SegmentIndex", "stretchEnd", "(I)J"⟩ : MethodName)) (z := (⟨"com/example/coho/coho/eventlog/SegmentIndex", "stretchEnd", "(I)J"⟩ : MethodName)) hown (mvT hZ (own_w hw 34 rfl)) (mvT hZ (own_w hw 35 rfl)) (notFace_of_selects (args := #[]) (mvT hZ (own_w hw 37 rfl))) (mvT hZ (own_w hw 37 rfl)) (mvT hZ (own_w hw 36 rfl)) (by decide) (backOf (W := 0) (rm4_1_2 l Z a0 hw [] b38 ar39 ks39 (2 : Int32) ((qs + qa) + qb) qs (qs + qa) (0 : Int64) (0 : Int64) T54.heap n0 Zs54 Fentries54 Fcount54 Fend54 Fstarts54 Vs54) hZ (own_w hw 38 rfl) (own_w hw 4 rfl) (by decide) (by decide)) q85a q85c (g := (mkF m 245 (own_l32 qs p2 p3 p4 p5 qa qb qc qt b38) [(.int (1 : Int32)), (.ref b38)])) rfl (by rw [hml]; rfl) (Steps.refl _) (argsL := [(.int (1 : Int32))]) (rest := []) (lenOf own_pd2 rfl) rfl (by show 2 * 0 + _ ≤ _; exact Nat.le_of_eq rfl) (hb hby at_245) (fun _ _ => ⟨rfl, eq81, (by decide : 4 + 0 ≤ _), (by decide : 19 + 0 ≤ _)⟩)
      dsimp only [Pt.U, Pt.locs, Pt.cells, Pt.slots] at X85 l85 y85 z85 st85 hQ85
      subst l85 y85 z85
      obtain ⟨Nq85, rfl, eq85⟩ := hQ85
      have N85 := Fr.app N81 Nq85
      refine own_pre (fun t k => st85.trans k) ?_
      refine own_pre (A := (T85.setTop (mkF m 315 (own_l32 qs p2 p3 p4 p5 qa qb qc qt b38) [(.int (1 : Int32))]))) ?_ ?_
      · intro t k
        show Steps p.tables e below (T85.setTop (mkF m 248 (own_l32 qs p2 p3 p4 p5 qa qb qc qt b38) [(.long ((qs + qa) + qb))])) _
        refine XS.iload X85.here hx rfl (hb hby at_248) rfl ?_
        show Steps p.tables e below (T85.setTop (mkF m 250 (own_l32 qs p2 p3 p4 p5 qa qb qc qt b38) [(.int (0 : Int32)), (.long ((qs + qa) + qb))])) _
        refine XS.ifYes X85.here hx rfl (pc0 := 250) (pc' := 258) rfl (hb hby at_250) rfl ((if0 _ _).trans (teq (by decide : (0 : Int32) = (0 : Int32))).1) (by decide) (by decide) ?_
        refine XS.lload X85.here hx rfl (hb hby at_258) rfl ?_
        refine XS.lcmp X85.here hx rfl (hb hby at_260) rfl ?_
        refine XS.ifNo X85.here hx rfl (hb hby at_261) rfl ((if0 _ _).trans (teq ((lw_eq ((qs + qa) + qb) ((qs + qa) + qb)).mpr (rfl : ((qs + qa) + qb) = ((qs + qa) + qb)))).2) ?_
        refine XS.iconst X85.here hx rfl (hb hby at_264) ?_
        show Steps p.tables e below (T85.setTop (mkF m 265 (own_l32 qs p2 p3 p4 p5 qa qb qc qt b38) [(.int (1 : Int32))])) _
        refine XS.goto X85.here hx rfl (pc0 := 265) (pc' := 269) rfl (hb hby at_265) (by decide) (by decide) ?_
        show Steps p.tables e below (T85.setTop (mkF m 269 (own_l32 qs p2 p3 p4 p5 qa qb qc qt b38) [(.int (1 : Int32))])) _
        refine XS.istore X85.here hx rfl (hb hby at_269) rfl (l' := (own_l32 qs p2 p3 p4 p5 qa qb qc qt b38)) rfl ?_
        refine XS.iload X85.here hx rfl (hb hby at_271) rfl ?_
        show Steps p.tables e below (T85.setTop (mkF m 273 (own_l32 qs p2 p3 p4 p5 qa qb qc qt b38) [(.int (0 : Int32))])) _
        refine XS.ifYes X85.here hx rfl (pc0 := 273) (pc' := 313) rfl (hb hby at_273) rfl ((if0 _ _).trans (teq (by decide : (0 : Int32) = (0 : Int32))).1) (by decide) (by decide) ?_
        refine XS.iload X85.here hx rfl (hb hby at_313) rfl ?_
        exact k
      obtain ⟨fs, hr, hrun, hended, hW, hsame⟩ := X85.leave (hlocks := BodyLoose.notSynchronized Bd) (v := some (.int (1 : Int32))) (fun h => by rw [Bd.returns] at h; cases h)
      refine ⟨_, _, retOut X85 hx Bd.returns rfl (Or.inl ⟨rfl, Or.inr (Or.inl rfl), _, rfl⟩) (hb hby at_315) hr, hrun, hended, _, _, rfl, ?_, ⟨_, rfl⟩, hW, hsame.mono (by decide) (by decide)⟩
      show own_Q0 h0 n0 _ T85.heap _
      rw [eq85]
      exact ⟨rfl, N85⟩
  · skip
    obtain ⟨T88, h88, X88, e88, E88, A88, D88, -, st88⟩ := newO X0 hx hZ hown (own_w hw 2 rfl) (own_w hw 3 rfl) (own_w hw 4 rfl) e0 (g := (mkF m 38 (own_l33 qs p2 p3 p4 p5 qa qb qc qt) [])) rfl (hb hby at_38) (by decide) (by decide)
    obtain ⟨b88, g88⟩ : ∃ z, z = h0.size := ⟨_, rfl⟩
    rw [← g88] at A88 D88 st88
    have gn_b88 : n0 ≤ b88 := Nat.le_trans Z0 (Nat.le_of_eq g88.symm)
    have Zs88 : n0 ≤ h88.size := Nat.le_trans Z0 E88.1
    have Kc88 : Keep h0 h88 [] := (Keep.refl h0 []).ext E88
    have F88_places : Fld Z h88 b88 "com/example/coho/coho/eventlog/SegmentIndex" "places" "[I" .null := D88 (Or.inl (own_w hw 13 rfl)) (ty := (.array .int)) (by decide)
    have F88_starts : Fld Z h88 b88 "com/example/coho/coho/eventlog/SegmentIndex" "starts" "[J" .null := D88 (Or.inl (own_w hw 16 rfl)) (ty := (.array .long)) (by decide)
    have F88_times : Fld Z h88 b88 "com/example/coho/coho/eventlog/SegmentIndex" "times" "[J" .null := D88 (Or.inl (own_w hw 18 rfl)) (ty := (.array .long)) (by decide)
    have F88_lastTime : Fld Z h88 b88 "com/example/coho/coho/eventlog/SegmentIndex" "lastTime" "J" (.long (0 : Int64)) := D88 (Or.inl (own_w hw 21 rfl)) (ty := .long) (by decide)
    have F88_end : Fld Z h88 b88 "com/example/coho/coho/eventlog/SegmentIndex" "end" "J" (.long (0 : Int64)) := D88 (Or.inl (own_w hw 23 rfl)) (ty := .long) (by decide)
    have F88_entries : Fld Z h88 b88 "com/example/coho/coho/eventlog/SegmentIndex" "entries" "I" (.int (0 : Int32)) := D88 (Or.inl (own_w hw 30 rfl)) (ty := .int) (by decide)
    have F88_count : Fld Z h88 b88 "com/example/coho/coho/eventlog/SegmentIndex" "count" "I" (.int (0 : Int32)) := D88 (Or.inl (own_w hw 32 rfl)) (ty := .int) (by decide)
    refine own_pre (fun t k => st88 t k) ?_
    refine own_pre (A := (T88.setTop (mkF m 43 (own_l33 qs p2 p3 p4 p5 qa qb qc qt) [(.long qs), (.ref b88), (.ref b88)]))) ?_ ?_
    · intro t k
      show Steps p.tables e below (T88.setTop (mkF m 41 (own_l33 qs p2 p3 p4 p5 qa qb qc qt) [(.ref b88)])) _
      refine XS.dup X88.here hx rfl (hb hby at_41) rfl rfl ?_
      refine XS.lloadN X88.here hx rfl (hb hby at_42) rfl ?_
      exact k
    obtain ⟨_, _, ⟨T89, L89, k89, n89⟩, -, X89, ⟨Lc89, hQ89, l89, y89, z89⟩, st89⟩ := X88.specialBack hx (y := (⟨"com/example/coho/coho/eventlog/SegmentIndex", "<init>", "(J)V"⟩ : MethodName)) rfl hown (mvT hZ (own_w hw 5 rfl)) (mvT hZ (own_w hw 6 rfl)) (mvT hZ (own_w hw 7 rfl)) (by decide) (backOf (W := 1) (rm1 l Z a0 hw [] b88 qs h88 n0 Zs88 A88 F88_places F88_starts F88_times F88_entries F88_count F88_end F88_lastTime gn_b88) hZ (own_w hw 7 rfl) (own_w hw 4 rfl) (by decide) (by decide)) (g := (mkF m 43 (own_l33 qs p2 p3 p4 p5 qa qb qc qt) [(.long qs), (.ref b88), (.ref b88)])) rfl (by rw [hml]; rfl) (Steps.refl _) (a := b88) (argsL := [(.long qs)]) (rest := [(.ref b88)]) (lenOf own_pd0 rfl) rfl (by show 2 * 0 + _ ≤ _; exact Nat.le_of_eq rfl) (hb hby at_43) (fun _ _ => ⟨rfl, e88, (by decide : 1 + 3 ≤ _), (by decide : 7 + 12 ≤ _)⟩)
    dsimp only [Pt.U, Pt.locs, Pt.cells, Pt.slots] at X89 l89 y89 z89 st89 hQ89
    subst l89 y89 z89
    obtain ⟨rfl, Nq89, ap89, ar89, at89, kp89, ks89, Kq89, zz089, zz189, zz289, B89⟩ := hQ89
    have N89 := Fr.app N0 Nq89
    refine own_pre (fun t k => st89.trans k) ?_
    have Zs89 : n0 ≤ T89.heap.size := Nat.le_trans Zs88 Kq89.1
    obtain ⟨Ea89, Fplaces89, Fstarts89, Ftimes89, Fentries89, Fcount89, Fend89, FlastTime89, Vp89, Vs89, Vt89, n089, n189, n289, n389, n489, n589, gg089, gg189, gg289, gg389⟩ := B89
    refine own_pre (A := (T89.setTop (mkF m 54 (own_l34 qs p2 p3 p4 p5 qa qb qc qt b88) [(.long qt), (.long qa), (.ref b88)]))) ?_ ?_
    · intro t k
      show Steps p.tables e below (T89.setTop (mkF m 46 (own_l33 qs p2 p3 p4 p5 qa qb qc qt) [(.ref b88)])) _
      refine XS.astore X89.here hx rfl (hb hby at_46) rfl rfl (l' := (own_l34 qs p2 p3 p4 p5 qa qb qc qt b88)) rfl ?_
      refine XS.aload X89.here hx rfl (hb hby at_48) rfl rfl ?_
      refine XS.lload X89.here hx rfl (hb hby at_50) rfl ?_
      refine XS.lload X89.here hx rfl (hb hby at_52) rfl ?_
      exact k
    obtain ⟨cq90, kq90, q90a, q90b, q90c⟩ := isOf hZ rfl Ea89
    obtain ⟨_, _, ⟨T90, L90, k90, n90⟩, -, X90, ⟨Lc90, hQ90, l90, y90, z90⟩, st90⟩ := X89.virtualBack hx (y := (⟨"com/example/coho/coho/eventlog/SegmentIndex", "add", "(JJ)V"⟩ : MethodName)) (z := (⟨"com/example/coho/coho/eventlog/SegmentIndex", "add", "(JJ)V"⟩ : MethodName)) hown (mvT hZ (own_w hw 24 rfl)) (mvT hZ (own_w hw 25 rfl)) (notFace_of_selects (args := #[]) (mvT hZ (own_w hw 27 rfl))) (mvT hZ (own_w hw 27 rfl)) (mvT hZ (own_w hw 26 rfl)) (by decide) (backOf (W := 0) (rm3_0 l Z a0 hw [] b88 qa qt ap89 ar89 at89 kp89 ks89 (0 : Int32) qs (-9223372036854775808 : Int64) (0 : Int32) (0 : Int32) (0 : Int32) (0 : Int32) (0 : Int64) (0 : Int64) (0 : Int64) (0 : Int64) T89.heap n0 Zs89 ⟨Ea89, Fplaces89, Fstarts89, Ftimes89, Fentries89, Fcount89, Fend89, FlastTime89, Vp89, Vs89, Vt89, n089, n189, n289, n389, n489, n589, gg089, gg189, gg289, gg389⟩) hZ (own_w hw 28 rfl) (own_w hw 4 rfl) (by decide) (by decide)) q90a q90c (g := (mkF m 54 (own_l34 qs p2 p3 p4 p5 qa qb qc qt b88) [(.long qt), (.long qa), (.ref b88)])) rfl (by rw [hml]; rfl) (Steps.refl _) (argsL := [(.long qa), (.long qt)]) (rest := []) (lenOf own_pd1 rfl) rfl (by show 2 * 0 + _ ≤ _; exact Nat.le_of_eq rfl) (hb hby at_54) (fun _ _ => ⟨rfl, rfl, (by decide : 4 + 0 ≤ _), (by decide : 19 + 0 ≤ _)⟩)
    dsimp only [Pt.U, Pt.locs, Pt.cells, Pt.slots] at X90 l90 y90 z90 st90 hQ90
    subst l90 y90 z90
    obtain ⟨rfl, Nq90, Kq90, B90⟩ := hQ90
    have N90 := Fr.app N89 Nq90
    refine own_pre (fun t k => st90.trans k) ?_
    have Zs90 : n0 ≤ T90.heap.size := Nat.le_trans Zs89 Kq90.1
    obtain ⟨Ea90, Fplaces90, Fstarts90, Ftimes90, Fentries90, Fcount90, Fend90, FlastTime90, Vp90, Vs90, Vt90, n090, n190, n290, n390, n490, n590, gg090, gg190, gg290, gg390⟩ := B90
    rw [show ((0 : Int32) + (1 : Int32)) = (1 : Int32) from by decide] at Fcount90
    refine own_pre (A := (T90.setTop (mkF m 69 (own_l34 qs p2 p3 p4 p5 qa qb qc qt b88) [(.long qt), (.long qb), (.ref b88)]))) ?_ ?_
    · intro t k
      show Steps p.tables e below (T90.setTop (mkF m 57 (own_l34 qs p2 p3 p4 p5 qa qb qc qt b88) [])) _
      refine XS.iload X90.here hx rfl (hb hby at_57) rfl ?_
      refine XS.iconst X90.here hx rfl (hb hby at_59) ?_
      refine XS.icmpNo X90.here hx rfl (hb hby at_60) rfl (flt (by decide : ¬ ((3 : Int32) < (2 : Int32)))).1 ?_
      refine XS.aload X90.here hx rfl (hb hby at_63) rfl rfl ?_
      refine XS.lload X90.here hx rfl (hb hby at_65) rfl ?_
      refine XS.lload X90.here hx rfl (hb hby at_67) rfl ?_
      exact k
    by_cases hw91 : qa < (65536 : Int64)
    · skip
      obtain ⟨cq92, kq92, q92a, q92b, q92c⟩ := isOf hZ rfl Ea90
      obtain ⟨_, _, ⟨T92, L92, k92, n92⟩, -, X92, ⟨Lc92, hQ92, l92, y92, z92⟩, st92⟩ := X90.virtualBack hx (y := (⟨"com/example/coho/coho/eventlog/SegmentIndex", "add", "(JJ)V"⟩ : MethodName)) (z := (⟨"com/example/coho/coho/eventlog/SegmentIndex", "add", "(JJ)V"⟩ : MethodName)) hown (mvT hZ (own_w hw 24 rfl)) (mvT hZ (own_w hw 25 rfl)) (notFace_of_selects (args := #[]) (mvT hZ (own_w hw 27 rfl))) (mvT hZ (own_w hw 27 rfl)) (mvT hZ (own_w hw 26 rfl)) (by decide) (backOf (W := 0) (rm3_1A l Z a0 hw [] b88 qb qt ap89 ar89 at89 kp89 ks89 (1 : Int32) (qs + qa) qt (0 : Int32) (0 : Int32) (0 : Int32) (0 : Int32) qs (0 : Int64) (0 : Int64) (0 : Int64) T90.heap n0 Zs90 ⟨Ea90, Fplaces90, Fstarts90, Ftimes90, Fentries90, Fcount90, Fend90, FlastTime90, Vp90, Vs90, Vt90, n090, n190, n290, n390, n490, n590, gg090, gg190, gg290, gg390⟩ (by rw [own_sub1]; exact hw91)) hZ (own_w hw 28 rfl) (own_w hw 4 rfl) (by decide) (by decide)) q92a q92c (g := (mkF m 69 (own_l34 qs p2 p3 p4 p5 qa qb qc qt b88) [(.long qt), (.long qb), (.ref b88)])) rfl (by rw [hml]; rfl) (Steps.refl _) (argsL := [(.long qb), (.long qt)]) (rest := []) (lenOf own_pd1 rfl) rfl (by show 2 * 0 + _ ≤ _; exact Nat.le_of_eq rfl) (hb hby at_69) (fun _ _ => ⟨rfl, rfl, (by decide : 4 + 0 ≤ _), (by decide : 19 + 0 ≤ _)⟩)
      dsimp only [Pt.U, Pt.locs, Pt.cells, Pt.slots] at X92 l92 y92 z92 st92 hQ92
      subst l92 y92 z92
      obtain ⟨rfl, Nq92, Kq92, B92⟩ := hQ92
      have N92 := Fr.app N90 Nq92
      refine own_pre (fun t k => st92.trans k) ?_
      have Zs92 : n0 ≤ T92.heap.size := Nat.le_trans Zs90 Kq92.1
      obtain ⟨Ea92, Fplaces92, Fstarts92, Ftimes92, Fentries92, Fcount92, Fend92, FlastTime92, Vp92, Vs92, Vt92, n092, n192, n292, n392, n492, n592, gg092, gg192, gg292, gg392⟩ := B92
      rw [show ((1 : Int32) + (1 : Int32)) = (2 : Int32) from by decide] at Fcount92
      refine own_pre (A := (T92.setTop (mkF m 84 (own_l34 qs p2 p3 p4 p5 qa qb qc qt b88) [(.long qt), (.long qc), (.ref b88)]))) ?_ ?_
      · intro t k
        show Steps p.tables e below (T92.setTop (mkF m 72 (own_l34 qs p2 p3 p4 p5 qa qb qc qt b88) [])) _
        refine XS.iload X92.here hx rfl (hb hby at_72) rfl ?_
        refine XS.iconst X92.here hx rfl (hb hby at_74) ?_
        refine XS.icmpNo X92.here hx rfl (hb hby at_75) rfl (flt (by decide : ¬ ((3 : Int32) < (3 : Int32)))).1 ?_
        refine XS.aload X92.here hx rfl (hb hby at_78) rfl rfl ?_
        refine XS.lload X92.here hx rfl (hb hby at_80) rfl ?_
        refine XS.lload X92.here hx rfl (hb hby at_82) rfl ?_
        exact k
      by_cases hw93 : (qa + qb) < (65536 : Int64)
      · skip
        obtain ⟨cq94, kq94, q94a, q94b, q94c⟩ := isOf hZ rfl Ea92
        obtain ⟨_, _, ⟨T94, L94, k94, n94⟩, -, X94, ⟨Lc94, hQ94, l94, y94, z94⟩, st94⟩ := X92.virtualBack hx (y := (⟨"com/example/coho/coho/eventlog/SegmentIndex", "add", "(JJ)V"⟩ : MethodName)) (z := (⟨"com/example/coho/coho/eventlog/SegmentIndex", "add", "(JJ)V"⟩ : MethodName)) hown (mvT hZ (own_w hw 24 rfl)) (mvT hZ (own_w hw 25 rfl)) (notFace_of_selects (args := #[]) (mvT hZ (own_w hw 27 rfl))) (mvT hZ (own_w hw 27 rfl)) (mvT hZ (own_w hw 26 rfl)) (by decide) (backOf (W := 0) (rm3_1A l Z a0 hw [] b88 qc qt ap89 ar89 at89 kp89 ks89 (2 : Int32) ((qs + qa) + qb) qt (0 : Int32) (0 : Int32) (0 : Int32) (0 : Int32) qs (0 : Int64) (0 : Int64) (0 : Int64) T92.heap n0 Zs92 ⟨Ea92, Fplaces92, Fstarts92, Ftimes92, Fentries92, Fcount92, Fend92, FlastTime92, Vp92, Vs92, Vt92, n092, n192, n292, n392, n492, n592, gg092, gg192, gg292, gg392⟩ (by rw [own_sub2]; exact hw93)) hZ (own_w hw 28 rfl) (own_w hw 4 rfl) (by decide) (by decide)) q94a q94c (g := (mkF m 84 (own_l34 qs p2 p3 p4 p5 qa qb qc qt b88) [(.long qt), (.long qc), (.ref b88)])) rfl (by rw [hml]; rfl) (Steps.refl _) (argsL := [(.long qc), (.long qt)]) (rest := []) (lenOf own_pd1 rfl) rfl (by show 2 * 0 + _ ≤ _; exact Nat.le_of_eq rfl) (hb hby at_84) (fun _ _ => ⟨rfl, rfl, (by decide : 4 + 0 ≤ _), (by decide : 19 + 0 ≤ _)⟩)
        dsimp only [Pt.U, Pt.locs, Pt.cells, Pt.slots] at X94 l94 y94 z94 st94 hQ94
        subst l94 y94 z94
        obtain ⟨rfl, Nq94, Kq94, B94⟩ := hQ94
        have N94 := Fr.app N92 Nq94
        refine own_pre (fun t k => st94.trans k) ?_
        have Zs94 : n0 ≤ T94.heap.size := Nat.le_trans Zs92 Kq94.1
        obtain ⟨Ea94, Fplaces94, Fstarts94, Ftimes94, Fentries94, Fcount94, Fend94, FlastTime94, Vp94, Vs94, Vt94, n094, n194, n294, n394, n494, n594, gg094, gg194, gg294, gg394⟩ := B94
        rw [show ((2 : Int32) + (1 : Int32)) = (3 : Int32) from by decide] at Fcount94
        refine own_pre (A := (T94.setTop (mkF m 196 (own_l41 qs p2 p3 p4 p5 qa qb qc qt b88) [(.int (0 : Int32)), (.ref b88)]))) ?_ ?_
        · intro t k
          show Steps p.tables e below (T94.setTop (mkF m 87 (own_l34 qs p2 p3 p4 p5 qa qb qc qt b88) [])) _
          refine XS.lloadN X94.here hx rfl (hb hby at_87) rfl ?_
          refine XS.lload X94.here hx rfl (hb hby at_88) rfl ?_
          refine XS.ladd X94.here hx rfl (hb hby at_90) rfl ?_
          show Steps p.tables e below (T94.setTop (mkF m 91 (own_l34 qs p2 p3 p4 p5 qa qb qc qt b88) [(.long (qs + qa))])) _
          refine XS.lstore X94.here hx rfl (hb hby at_91) rfl (l' := (own_l35 qs p2 p3 p4 p5 qa qb qc qt b88)) rfl ?_
          refine XS.lload X94.here hx rfl (hb hby at_93) rfl ?_
          refine XS.lload X94.here hx rfl (hb hby at_95) rfl ?_
          refine XS.ladd X94.here hx rfl (hb hby at_97) rfl ?_
          show Steps p.tables e below (T94.setTop (mkF m 98 (own_l35 qs p2 p3 p4 p5 qa qb qc qt b88) [(.long ((qs + qa) + qb))])) _
          refine XS.lstore X94.here hx rfl (hb hby at_98) rfl (l' := (own_l36 qs p2 p3 p4 p5 qa qb qc qt b88)) rfl ?_
          refine XS.lload X94.here hx rfl (hb hby at_100) rfl ?_
          refine XS.lload X94.here hx rfl (hb hby at_102) rfl ?_
          refine XS.ladd X94.here hx rfl (hb hby at_104) rfl ?_
          show Steps p.tables e below (T94.setTop (mkF m 105 (own_l36 qs p2 p3 p4 p5 qa qb qc qt b88) [(.long (((qs + qa) + qb) + qc))])) _
          refine XS.lstore X94.here hx rfl (hb hby at_105) rfl (l' := (own_l37 qs p2 p3 p4 p5 qa qb qc qt b88)) rfl ?_
          refine XS.iload X94.here hx rfl (hb hby at_107) rfl ?_
          refine XS.iconst X94.here hx rfl (hb hby at_109) ?_
          show Steps p.tables e below (T94.setTop (mkF m 110 (own_l37 qs p2 p3 p4 p5 qa qb qc qt b88) [(.int (1 : Int32)), (.int (3 : Int32))])) _
          refine XS.icmpYes X94.here hx rfl (pc0 := 110) (pc' := 118) rfl (hb hby at_110) rfl (feq (by decide : ¬ ((3 : Int32) = (1 : Int32)))).2 (by decide) (by decide) ?_
          refine XS.iload X94.here hx rfl (hb hby at_118) rfl ?_
          refine XS.iconst X94.here hx rfl (hb hby at_120) ?_
          show Steps p.tables e below (T94.setTop (mkF m 121 (own_l37 qs p2 p3 p4 p5 qa qb qc qt b88) [(.int (2 : Int32)), (.int (3 : Int32))])) _
          refine XS.icmpYes X94.here hx rfl (pc0 := 121) (pc' := 129) rfl (hb hby at_121) rfl (feq (by decide : ¬ ((3 : Int32) = (2 : Int32)))).2 (by decide) (by decide) ?_
          refine XS.lload X94.here hx rfl (hb hby at_129) rfl ?_
          show Steps p.tables e below (T94.setTop (mkF m 131 (own_l37 qs p2 p3 p4 p5 qa qb qc qt b88) [(.long (((qs + qa) + qb) + qc))])) _
          refine XS.lstore X94.here hx rfl (hb hby at_131) rfl (l' := (own_l38 qs p2 p3 p4 p5 qa qb qc qt b88)) rfl ?_
          show Steps p.tables e below (T94.setTop (mkF m 133 (own_l38 qs p2 p3 p4 p5 qa qb qc qt b88) [])) _
          refine X94.ldc2Long hx hown (mvT hZ (own_w hw 33 rfl)) (g := (mkF m 133 (own_l38 qs p2 p3 p4 p5 qa qb qc qt b88) [])) rfl (hb hby at_133) _ ?_
          show Steps p.tables e below (T94.setTop (mkF m 136 (own_l38 qs p2 p3 p4 p5 qa qb qc qt b88) [(.long (65536 : Int64))])) _
          refine XS.lstore X94.here hx rfl (hb hby at_136) rfl (l' := (own_l39 qs p2 p3 p4 p5 qa qb qc qt b88)) rfl ?_
          refine XS.iload X94.here hx rfl (hb hby at_138) rfl ?_
          refine XS.iconst X94.here hx rfl (hb hby at_140) ?_
          refine XS.icmpNo X94.here hx rfl (hb hby at_141) rfl (flt (by decide : ¬ ((3 : Int32) < (2 : Int32)))).1 ?_
          refine XS.lload X94.here hx rfl (hb hby at_144) rfl ?_
          refine XS.lload X94.here hx rfl (hb hby at_146) rfl ?_
          refine XS.lcmp X94.here hx rfl (hb hby at_148) rfl ?_
          show Steps p.tables e below (T94.setTop (mkF m 149 (own_l39 qs p2 p3 p4 p5 qa qb qc qt b88) [(.int (lcmpW qa (65536 : Int64)))])) _
          refine XS.ifYes X94.here hx rfl (pc0 := 149) (pc' := 156) rfl (hb hby at_149) rfl ((if0 _ _).trans (tlt ((lw_lt qa (65536 : Int64)).mpr hw91)).1) (by decide) (by decide) ?_
          refine XS.iconst X94.here hx rfl (hb hby at_156) ?_
          show Steps p.tables e below (T94.setTop (mkF m 157 (own_l39 qs p2 p3 p4 p5 qa qb qc qt b88) [(.int (0 : Int32))])) _
          refine XS.istore X94.here hx rfl (hb hby at_157) rfl (l' := (own_l40 qs p2 p3 p4 p5 qa qb qc qt b88)) rfl ?_
          refine XS.iload X94.here hx rfl (hb hby at_159) rfl ?_
          refine XS.iconst X94.here hx rfl (hb hby at_161) ?_
          refine XS.icmpNo X94.here hx rfl (hb hby at_162) rfl (flt (by decide : ¬ ((3 : Int32) < (3 : Int32)))).1 ?_
          refine XS.iload X94.here hx rfl (hb hby at_165) rfl ?_
          show Steps p.tables e below (T94.setTop (mkF m 167 (own_l40 qs p2 p3 p4 p5 qa qb qc qt b88) [(.int (0 : Int32))])) _
          refine XS.ifYes X94.here hx rfl (pc0 := 167) (pc' := 175) rfl (hb hby at_167) rfl ((if0 _ _).trans (teq (by decide : (0 : Int32) = (0 : Int32))).1) (by decide) (by decide) ?_
          refine XS.lload X94.here hx rfl (hb hby at_175) rfl ?_
          refine XS.lload X94.here hx rfl (hb hby at_177) rfl ?_
          refine XS.ladd X94.here hx rfl (hb hby at_179) rfl ?_
          refine XS.lload X94.here hx rfl (hb hby at_180) rfl ?_
          refine XS.lcmp X94.here hx rfl (hb hby at_182) rfl ?_
          show Steps p.tables e below (T94.setTop (mkF m 183 (own_l40 qs p2 p3 p4 p5 qa qb qc qt b88) [(.int (lcmpW (qa + qb) (65536 : Int64)))])) _
          refine XS.ifYes X94.here hx rfl (pc0 := 183) (pc' := 190) rfl (hb hby at_183) rfl ((if0 _ _).trans (tlt ((lw_lt (qa + qb) (65536 : Int64)).mpr hw93)).1) (by decide) (by decide) ?_
          refine XS.iconst X94.here hx rfl (hb hby at_190) ?_
          show Steps p.tables e below (T94.setTop (mkF m 191 (own_l40 qs p2 p3 p4 p5 qa qb qc qt b88) [(.int (0 : Int32))])) _
          refine XS.istore X94.here hx rfl (hb hby at_191) rfl (l' := (own_l41 qs p2 p3 p4 p5 qa qb qc qt b88)) rfl ?_
          refine XS.aload X94.here hx rfl (hb hby at_193) rfl rfl ?_
          refine XS.iconst X94.here hx rfl (hb hby at_195) ?_
          exact k
        obtain ⟨cq95, kq95, q95a, q95b, q95c⟩ := isOf hZ rfl Ea94
        obtain ⟨_, _, ⟨T95, L95, k95, n95⟩, -, X95, ⟨Lc95, hQ95, l95, y95, z95⟩, st95⟩ := X94.virtualBack hx (y := (⟨"com/example/coho/coho/eventlog/SegmentIndex", "stretchEnd", "(I)J"⟩ : MethodName)) (z := (⟨"com/example/coho/coho/eventlog/SegmentIndex", "stretchEnd", "(I)J"⟩ : MethodName)) hown (mvT hZ (own_w hw 34 rfl)) (mvT hZ (own_w hw 35 rfl)) (notFace_of_selects (args := #[]) (mvT hZ (own_w hw 37 rfl))) (mvT hZ (own_w hw 37 rfl)) (mvT hZ (own_w hw 36 rfl)) (by decide) (backOf (W := 0) (rm4_0_1 l Z a0 hw [] b88 ar89 ks89 (3 : Int32) (((qs + qa) + qb) + qc) qs (0 : Int64) (0 : Int64) (0 : Int64) T94.heap n0 Zs94 Fentries94 Fcount94 Fend94 Fstarts94 Vs94) hZ (own_w hw 38 rfl) (own_w hw 4 rfl) (by decide) (by decide)) q95a q95c (g := (mkF m 196 (own_l41 qs p2 p3 p4 p5 qa qb qc qt b88) [(.int (0 : Int32)), (.ref b88)])) rfl (by rw [hml]; rfl) (Steps.refl _) (argsL := [(.int (0 : Int32))]) (rest := []) (lenOf own_pd2 rfl) rfl (by show 2 * 0 + _ ≤ _; exact Nat.le_of_eq rfl) (hb hby at_196) (fun _ _ => ⟨rfl, rfl, (by decide : 4 + 0 ≤ _), (by decide : 19 + 0 ≤ _)⟩)
        dsimp only [Pt.U, Pt.locs, Pt.cells, Pt.slots] at X95 l95 y95 z95 st95 hQ95
        subst l95 y95 z95
        obtain ⟨Nq95, rfl, eq95⟩ := hQ95
        have N95 := Fr.app N94 Nq95
        refine own_pre (fun t k => st95.trans k) ?_
        refine own_pre (A := (T95.setTop (mkF m 315 (own_l42 qs p2 p3 p4 p5 qa qb qc qt b88) [(.int (1 : Int32))]))) ?_ ?_
        · intro t k
          show Steps p.tables e below (T95.setTop (mkF m 199 (own_l41 qs p2 p3 p4 p5 qa qb qc qt b88) [(.long (((qs + qa) + qb) + qc))])) _
          refine XS.iload X95.here hx rfl (hb hby at_199) rfl ?_
          show Steps p.tables e below (T95.setTop (mkF m 201 (own_l41 qs p2 p3 p4 p5 qa qb qc qt b88) [(.int (0 : Int32)), (.long (((qs + qa) + qb) + qc))])) _
          refine XS.ifYes X95.here hx rfl (pc0 := 201) (pc' := 209) rfl (hb hby at_201) rfl ((if0 _ _).trans (teq (by decide : (0 : Int32) = (0 : Int32))).1) (by decide) (by decide) ?_
          refine XS.iload X95.here hx rfl (hb hby at_209) rfl ?_
          show Steps p.tables e below (T95.setTop (mkF m 211 (own_l41 qs p2 p3 p4 p5 qa qb qc qt b88) [(.int (0 : Int32)), (.long (((qs + qa) + qb) + qc))])) _
          refine XS.ifYes X95.here hx rfl (pc0 := 211) (pc' := 219) rfl (hb hby at_211) rfl ((if0 _ _).trans (teq (by decide : (0 : Int32) = (0 : Int32))).1) (by decide) (by decide) ?_
          refine XS.lload X95.here hx rfl (hb hby at_219) rfl ?_
          refine XS.lcmp X95.here hx rfl (hb hby at_221) rfl ?_
          refine XS.ifNo X95.here hx rfl (hb hby at_222) rfl ((if0 _ _).trans (teq ((lw_eq (((qs + qa) + qb) + qc) (((qs + qa) + qb) + qc)).mpr (rfl : (((qs + qa) + qb) + qc) = (((qs + qa) + qb) + qc)))).2) ?_
          refine XS.iconst X95.here hx rfl (hb hby at_225) ?_
          show Steps p.tables e below (T95.setTop (mkF m 226 (own_l41 qs p2 p3 p4 p5 qa qb qc qt b88) [(.int (1 : Int32))])) _
          refine XS.goto X95.here hx rfl (pc0 := 226) (pc' := 230) rfl (hb hby at_226) (by decide) (by decide) ?_
          show Steps p.tables e below (T95.setTop (mkF m 230 (own_l41 qs p2 p3 p4 p5 qa qb qc qt b88) [(.int (1 : Int32))])) _
          refine XS.istore X95.here hx rfl (hb hby at_230) rfl (l' := (own_l42 qs p2 p3 p4 p5 qa qb qc qt b88)) rfl ?_
          refine XS.iload X95.here hx rfl (hb hby at_232) rfl ?_
          show Steps p.tables e below (T95.setTop (mkF m 234 (own_l42 qs p2 p3 p4 p5 qa qb qc qt b88) [(.int (0 : Int32))])) _
          refine XS.ifYes X95.here hx rfl (pc0 := 234) (pc' := 271) rfl (hb hby at_234) rfl ((if0 _ _).trans (teq (by decide : (0 : Int32) = (0 : Int32))).1) (by decide) (by decide) ?_
          refine XS.iload X95.here hx rfl (hb hby at_271) rfl ?_
          show Steps p.tables e below (T95.setTop (mkF m 273 (own_l42 qs p2 p3 p4 p5 qa qb qc qt b88) [(.int (0 : Int32))])) _
          refine XS.ifYes X95.here hx rfl (pc0 := 273) (pc' := 313) rfl (hb hby at_273) rfl ((if0 _ _).trans (teq (by decide : (0 : Int32) = (0 : Int32))).1) (by decide) (by decide) ?_
          refine XS.iload X95.here hx rfl (hb hby at_313) rfl ?_
          exact k
        obtain ⟨fs, hr, hrun, hended, hW, hsame⟩ := X95.leave (hlocks := BodyLoose.notSynchronized Bd) (v := some (.int (1 : Int32))) (fun h => by rw [Bd.returns] at h; cases h)
        refine ⟨_, _, retOut X95 hx Bd.returns rfl (Or.inl ⟨rfl, Or.inr (Or.inl rfl), _, rfl⟩) (hb hby at_315) hr, hrun, hended, _, _, rfl, ?_, ⟨_, rfl⟩, hW, hsame.mono (by decide) (by decide)⟩
        show own_Q0 h0 n0 _ T95.heap _
        rw [eq95]
        exact ⟨rfl, N95⟩
      · skip
        obtain ⟨cq96, kq96, q96a, q96b, q96c⟩ := isOf hZ rfl Ea92
        obtain ⟨_, _, ⟨T96, L96, k96, n96⟩, -, X96, ⟨Lc96, hQ96, l96, y96, z96⟩, st96⟩ := X92.virtualBack hx (y := (⟨"com/example/coho/coho/eventlog/SegmentIndex", "add", "(JJ)V"⟩ : MethodName)) (z := (⟨"com/example/coho/coho/eventlog/SegmentIndex", "add", "(JJ)V"⟩ : MethodName)) hown (mvT hZ (own_w hw 24 rfl)) (mvT hZ (own_w hw 25 rfl)) (notFace_of_selects (args := #[]) (mvT hZ (own_w hw 27 rfl))) (mvT hZ (own_w hw 27 rfl)) (mvT hZ (own_w hw 26 rfl)) (by decide) (backOf (W := 0) (rm3_1B l Z a0 hw [] b88 qc qt ap89 ar89 at89 kp89 ks89 (2 : Int32) ((qs + qa) + qb) qt (0 : Int32) (0 : Int32) (0 : Int32) (0 : Int32) qs (0 : Int64) (0 : Int64) (0 : Int64) T92.heap n0 Zs92 ⟨Ea92, Fplaces92, Fstarts92, Ftimes92, Fentries92, Fcount92, Fend92, FlastTime92, Vp92, Vs92, Vt92, n092, n192, n292, n392, n492, n592, gg092, gg192, gg292, gg392⟩ (by rw [own_sub2]; exact hw93)) hZ (own_w hw 28 rfl) (own_w hw 4 rfl) (by decide) (by decide)) q96a q96c (g := (mkF m 84 (own_l34 qs p2 p3 p4 p5 qa qb qc qt b88) [(.long qt), (.long qc), (.ref b88)])) rfl (by rw [hml]; rfl) (Steps.refl _) (argsL := [(.long qc), (.long qt)]) (rest := []) (lenOf own_pd1 rfl) rfl (by show 2 * 0 + _ ≤ _; exact Nat.le_of_eq rfl) (hb hby at_84) (fun _ _ => ⟨rfl, rfl, (by decide : 4 + 0 ≤ _), (by decide : 19 + 0 ≤ _)⟩)
        dsimp only [Pt.U, Pt.locs, Pt.cells, Pt.slots] at X96 l96 y96 z96 st96 hQ96
        subst l96 y96 z96
        obtain ⟨rfl, Nq96, Kq96, B96⟩ := hQ96
        have N96 := Fr.app N92 Nq96
        refine own_pre (fun t k => st96.trans k) ?_
        have Zs96 : n0 ≤ T96.heap.size := Nat.le_trans Zs92 Kq96.1
        obtain ⟨Ea96, Fplaces96, Fstarts96, Ftimes96, Fentries96, Fcount96, Fend96, FlastTime96, Vp96, Vs96, Vt96, n096, n196, n296, n396, n496, n596, gg096, gg196, gg296, gg396⟩ := B96
        rw [show ((2 : Int32) + (1 : Int32)) = (3 : Int32) from by decide] at Fcount96
        refine own_pre (A := (T96.setTop (mkF m 196 (own_l43 qs p2 p3 p4 p5 qa qb qc qt b88) [(.int (0 : Int32)), (.ref b88)]))) ?_ ?_
        · intro t k
          show Steps p.tables e below (T96.setTop (mkF m 87 (own_l34 qs p2 p3 p4 p5 qa qb qc qt b88) [])) _
          refine XS.lloadN X96.here hx rfl (hb hby at_87) rfl ?_
          refine XS.lload X96.here hx rfl (hb hby at_88) rfl ?_
          refine XS.ladd X96.here hx rfl (hb hby at_90) rfl ?_
          show Steps p.tables e below (T96.setTop (mkF m 91 (own_l34 qs p2 p3 p4 p5 qa qb qc qt b88) [(.long (qs + qa))])) _
          refine XS.lstore X96.here hx rfl (hb hby at_91) rfl (l' := (own_l35 qs p2 p3 p4 p5 qa qb qc qt b88)) rfl ?_
          refine XS.lload X96.here hx rfl (hb hby at_93) rfl ?_
          refine XS.lload X96.here hx rfl (hb hby at_95) rfl ?_
          refine XS.ladd X96.here hx rfl (hb hby at_97) rfl ?_
          show Steps p.tables e below (T96.setTop (mkF m 98 (own_l35 qs p2 p3 p4 p5 qa qb qc qt b88) [(.long ((qs + qa) + qb))])) _
          refine XS.lstore X96.here hx rfl (hb hby at_98) rfl (l' := (own_l36 qs p2 p3 p4 p5 qa qb qc qt b88)) rfl ?_
          refine XS.lload X96.here hx rfl (hb hby at_100) rfl ?_
          refine XS.lload X96.here hx rfl (hb hby at_102) rfl ?_
          refine XS.ladd X96.here hx rfl (hb hby at_104) rfl ?_
          show Steps p.tables e below (T96.setTop (mkF m 105 (own_l36 qs p2 p3 p4 p5 qa qb qc qt b88) [(.long (((qs + qa) + qb) + qc))])) _
          refine XS.lstore X96.here hx rfl (hb hby at_105) rfl (l' := (own_l37 qs p2 p3 p4 p5 qa qb qc qt b88)) rfl ?_
          refine XS.iload X96.here hx rfl (hb hby at_107) rfl ?_
          refine XS.iconst X96.here hx rfl (hb hby at_109) ?_
          show Steps p.tables e below (T96.setTop (mkF m 110 (own_l37 qs p2 p3 p4 p5 qa qb qc qt b88) [(.int (1 : Int32)), (.int (3 : Int32))])) _
          refine XS.icmpYes X96.here hx rfl (pc0 := 110) (pc' := 118) rfl (hb hby at_110) rfl (feq (by decide : ¬ ((3 : Int32) = (1 : Int32)))).2 (by decide) (by decide) ?_
          refine XS.iload X96.here hx rfl (hb hby at_118) rfl ?_
          refine XS.iconst X96.here hx rfl (hb hby at_120) ?_
          show Steps p.tables e below (T96.setTop (mkF m 121 (own_l37 qs p2 p3 p4 p5 qa qb qc qt b88) [(.int (2 : Int32)), (.int (3 : Int32))])) _
          refine XS.icmpYes X96.here hx rfl (pc0 := 121) (pc' := 129) rfl (hb hby at_121) rfl (feq (by decide : ¬ ((3 : Int32) = (2 : Int32)))).2 (by decide) (by decide) ?_
          refine XS.lload X96.here hx rfl (hb hby at_129) rfl ?_
          show Steps p.tables e below (T96.setTop (mkF m 131 (own_l37 qs p2 p3 p4 p5 qa qb qc qt b88) [(.long (((qs + qa) + qb) + qc))])) _
          refine XS.lstore X96.here hx rfl (hb hby at_131) rfl (l' := (own_l38 qs p2 p3 p4 p5 qa qb qc qt b88)) rfl ?_
          show Steps p.tables e below (T96.setTop (mkF m 133 (own_l38 qs p2 p3 p4 p5 qa qb qc qt b88) [])) _
          refine X96.ldc2Long hx hown (mvT hZ (own_w hw 33 rfl)) (g := (mkF m 133 (own_l38 qs p2 p3 p4 p5 qa qb qc qt b88) [])) rfl (hb hby at_133) _ ?_
          show Steps p.tables e below (T96.setTop (mkF m 136 (own_l38 qs p2 p3 p4 p5 qa qb qc qt b88) [(.long (65536 : Int64))])) _
          refine XS.lstore X96.here hx rfl (hb hby at_136) rfl (l' := (own_l39 qs p2 p3 p4 p5 qa qb qc qt b88)) rfl ?_
          refine XS.iload X96.here hx rfl (hb hby at_138) rfl ?_
          refine XS.iconst X96.here hx rfl (hb hby at_140) ?_
          refine XS.icmpNo X96.here hx rfl (hb hby at_141) rfl (flt (by decide : ¬ ((3 : Int32) < (2 : Int32)))).1 ?_
          refine XS.lload X96.here hx rfl (hb hby at_144) rfl ?_
          refine XS.lload X96.here hx rfl (hb hby at_146) rfl ?_
          refine XS.lcmp X96.here hx rfl (hb hby at_148) rfl ?_
          show Steps p.tables e below (T96.setTop (mkF m 149 (own_l39 qs p2 p3 p4 p5 qa qb qc qt b88) [(.int (lcmpW qa (65536 : Int64)))])) _
          refine XS.ifYes X96.here hx rfl (pc0 := 149) (pc' := 156) rfl (hb hby at_149) rfl ((if0 _ _).trans (tlt ((lw_lt qa (65536 : Int64)).mpr hw91)).1) (by decide) (by decide) ?_
          refine XS.iconst X96.here hx rfl (hb hby at_156) ?_
          show Steps p.tables e below (T96.setTop (mkF m 157 (own_l39 qs p2 p3 p4 p5 qa qb qc qt b88) [(.int (0 : Int32))])) _
          refine XS.istore X96.here hx rfl (hb hby at_157) rfl (l' := (own_l40 qs p2 p3 p4 p5 qa qb qc qt b88)) rfl ?_
          refine XS.iload X96.here hx rfl (hb hby at_159) rfl ?_
          refine XS.iconst X96.here hx rfl (hb hby at_161) ?_
          refine XS.icmpNo X96.here hx rfl (hb hby at_162) rfl (flt (by decide : ¬ ((3 : Int32) < (3 : Int32)))).1 ?_
          refine XS.iload X96.here hx rfl (hb hby at_165) rfl ?_
          show Steps p.tables e below (T96.setTop (mkF m 167 (own_l40 qs p2 p3 p4 p5 qa qb qc qt b88) [(.int (0 : Int32))])) _
          refine XS.ifYes X96.here hx rfl (pc0 := 167) (pc' := 175) rfl (hb hby at_167) rfl ((if0 _ _).trans (teq (by decide : (0 : Int32) = (0 : Int32))).1) (by decide) (by decide) ?_
          refine XS.lload X96.here hx rfl (hb hby at_175) rfl ?_
          refine XS.lload X96.here hx rfl (hb hby at_177) rfl ?_
          refine XS.ladd X96.here hx rfl (hb hby at_179) rfl ?_
          refine XS.lload X96.here hx rfl (hb hby at_180) rfl ?_
          refine XS.lcmp X96.here hx rfl (hb hby at_182) rfl ?_
          refine XS.ifNo X96.here hx rfl (hb hby at_183) rfl ((if0 _ _).trans (flt (fun q => hw93 ((lw_lt (qa + qb) (65536 : Int64)).mp q))).1) ?_
          refine XS.iconst X96.here hx rfl (hb hby at_186) ?_
          show Steps p.tables e below (T96.setTop (mkF m 187 (own_l40 qs p2 p3 p4 p5 qa qb qc qt b88) [(.int (1 : Int32))])) _
          refine XS.goto X96.here hx rfl (pc0 := 187) (pc' := 191) rfl (hb hby at_187) (by decide) (by decide) ?_
          show Steps p.tables e below (T96.setTop (mkF m 191 (own_l40 qs p2 p3 p4 p5 qa qb qc qt b88) [(.int (1 : Int32))])) _
          refine XS.istore X96.here hx rfl (hb hby at_191) rfl (l' := (own_l43 qs p2 p3 p4 p5 qa qb qc qt b88)) rfl ?_
          refine XS.aload X96.here hx rfl (hb hby at_193) rfl rfl ?_
          refine XS.iconst X96.here hx rfl (hb hby at_195) ?_
          exact k
        obtain ⟨cq97, kq97, q97a, q97b, q97c⟩ := isOf hZ rfl Ea96
        obtain ⟨_, _, ⟨T97, L97, k97, n97⟩, -, X97, ⟨Lc97, hQ97, l97, y97, z97⟩, st97⟩ := X96.virtualBack hx (y := (⟨"com/example/coho/coho/eventlog/SegmentIndex", "stretchEnd", "(I)J"⟩ : MethodName)) (z := (⟨"com/example/coho/coho/eventlog/SegmentIndex", "stretchEnd", "(I)J"⟩ : MethodName)) hown (mvT hZ (own_w hw 34 rfl)) (mvT hZ (own_w hw 35 rfl)) (notFace_of_selects (args := #[]) (mvT hZ (own_w hw 37 rfl))) (mvT hZ (own_w hw 37 rfl)) (mvT hZ (own_w hw 36 rfl)) (by decide) (backOf (W := 0) (rm4_0_2 l Z a0 hw [] b88 ar89 ks89 (3 : Int32) (((qs + qa) + qb) + qc) qs ((qs + qa) + qb) (0 : Int64) (0 : Int64) T96.heap n0 Zs96 Fentries96 Fcount96 Fend96 Fstarts96 Vs96) hZ (own_w hw 38 rfl) (own_w hw 4 rfl) (by decide) (by decide)) q97a q97c (g := (mkF m 196 (own_l43 qs p2 p3 p4 p5 qa qb qc qt b88) [(.int (0 : Int32)), (.ref b88)])) rfl (by rw [hml]; rfl) (Steps.refl _) (argsL := [(.int (0 : Int32))]) (rest := []) (lenOf own_pd2 rfl) rfl (by show 2 * 0 + _ ≤ _; exact Nat.le_of_eq rfl) (hb hby at_196) (fun _ _ => ⟨rfl, rfl, (by decide : 4 + 0 ≤ _), (by decide : 19 + 0 ≤ _)⟩)
        dsimp only [Pt.U, Pt.locs, Pt.cells, Pt.slots] at X97 l97 y97 z97 st97 hQ97
        subst l97 y97 z97
        obtain ⟨Nq97, rfl, eq97⟩ := hQ97
        have N97 := Fr.app N96 Nq97
        refine own_pre (fun t k => st97.trans k) ?_
        refine own_pre (A := (T97.setTop (mkF m 297 (own_l45 qs p2 p3 p4 p5 qa qb qc qt b88) [(.int (1 : Int32)), (.ref b88)]))) ?_ ?_
        · intro t k
          show Steps p.tables e below (T97.setTop (mkF m 199 (own_l43 qs p2 p3 p4 p5 qa qb qc qt b88) [(.long ((qs + qa) + qb))])) _
          refine XS.iload X97.here hx rfl (hb hby at_199) rfl ?_
          show Steps p.tables e below (T97.setTop (mkF m 201 (own_l43 qs p2 p3 p4 p5 qa qb qc qt b88) [(.int (0 : Int32)), (.long ((qs + qa) + qb))])) _
          refine XS.ifYes X97.here hx rfl (pc0 := 201) (pc' := 209) rfl (hb hby at_201) rfl ((if0 _ _).trans (teq (by decide : (0 : Int32) = (0 : Int32))).1) (by decide) (by decide) ?_
          refine XS.iload X97.here hx rfl (hb hby at_209) rfl ?_
          refine XS.ifNo X97.here hx rfl (hb hby at_211) rfl ((if0 _ _).trans (feq (by decide : ¬ ((1 : Int32) = (0 : Int32)))).1) ?_
          refine XS.lload X97.here hx rfl (hb hby at_214) rfl ?_
          show Steps p.tables e below (T97.setTop (mkF m 216 (own_l43 qs p2 p3 p4 p5 qa qb qc qt b88) [(.long ((qs + qa) + qb)), (.long ((qs + qa) + qb))])) _
          refine XS.goto X97.here hx rfl (pc0 := 216) (pc' := 221) rfl (hb hby at_216) (by decide) (by decide) ?_
          refine XS.lcmp X97.here hx rfl (hb hby at_221) rfl ?_
          refine XS.ifNo X97.here hx rfl (hb hby at_222) rfl ((if0 _ _).trans (teq ((lw_eq ((qs + qa) + qb) ((qs + qa) + qb)).mpr (rfl : ((qs + qa) + qb) = ((qs + qa) + qb)))).2) ?_
          refine XS.iconst X97.here hx rfl (hb hby at_225) ?_
          show Steps p.tables e below (T97.setTop (mkF m 226 (own_l43 qs p2 p3 p4 p5 qa qb qc qt b88) [(.int (1 : Int32))])) _
          refine XS.goto X97.here hx rfl (pc0 := 226) (pc' := 230) rfl (hb hby at_226) (by decide) (by decide) ?_
          show Steps p.tables e below (T97.setTop (mkF m 230 (own_l43 qs p2 p3 p4 p5 qa qb qc qt b88) [(.int (1 : Int32))])) _
          refine XS.istore X97.here hx rfl (hb hby at_230) rfl (l' := (own_l44 qs p2 p3 p4 p5 qa qb qc qt b88)) rfl ?_
          refine XS.iload X97.here hx rfl (hb hby at_232) rfl ?_
          show Steps p.tables e below (T97.setTop (mkF m 234 (own_l44 qs p2 p3 p4 p5 qa qb qc qt b88) [(.int (0 : Int32))])) _
          refine XS.ifYes X97.here hx rfl (pc0 := 234) (pc' := 271) rfl (hb hby at_234) rfl ((if0 _ _).trans (teq (by decide : (0 : Int32) = (0 : Int32))).1) (by decide) (by decide) ?_
          refine XS.iload X97.here hx rfl (hb hby at_271) rfl ?_
          refine XS.ifNo X97.here hx rfl (hb hby at_273) rfl ((if0 _ _).trans (feq (by decide : ¬ ((1 : Int32) = (0 : Int32)))).1) ?_
          refine XS.iload X97.here hx rfl (hb hby at_276) rfl ?_
          show Steps p.tables e below (T97.setTop (mkF m 278 (own_l44 qs p2 p3 p4 p5 qa qb qc qt b88) [(.int (0 : Int32))])) _
          refine XS.ifYes X97.here hx rfl (pc0 := 278) (pc' := 285) rfl (hb hby at_278) rfl ((if0 _ _).trans (teq (by decide : (0 : Int32) = (0 : Int32))).1) (by decide) (by decide) ?_
          refine XS.iconst X97.here hx rfl (hb hby at_285) ?_
          show Steps p.tables e below (T97.setTop (mkF m 286 (own_l44 qs p2 p3 p4 p5 qa qb qc qt b88) [(.int (1 : Int32))])) _
          refine XS.istore X97.here hx rfl (hb hby at_286) rfl (l' := (own_l45 qs p2 p3 p4 p5 qa qb qc qt b88)) rfl ?_
          refine XS.iload X97.here hx rfl (hb hby at_288) rfl ?_
          refine XS.ifNo X97.here hx rfl (hb hby at_290) rfl ((if0 _ _).trans (feq (by decide : ¬ ((1 : Int32) = (0 : Int32)))).1) ?_
          refine XS.aload X97.here hx rfl (hb hby at_293) rfl rfl ?_
          refine XS.iload X97.here hx rfl (hb hby at_295) rfl ?_
          exact k
        obtain ⟨cq98, kq98, q98a, q98b, q98c⟩ := isOf hZ eq97 Ea96
        obtain ⟨_, _, ⟨T98, L98, k98, n98⟩, -, X98, ⟨Lc98, hQ98, l98, y98, z98⟩, st98⟩ := X97.virtualBack hx (y := (⟨"com/example/coho/coho/eventlog/SegmentIndex", "stretchEnd", "(I)J"⟩ : MethodName)) (z := (⟨"com/example/coho/coho/eventlog/SegmentIndex", "stretchEnd", "(I)J"⟩ : MethodName)) hown (mvT hZ (own_w hw 34 rfl)) (mvT hZ (own_w hw 35 rfl)) (notFace_of_selects (args := #[]) (mvT hZ (own_w hw 37 rfl))) (mvT hZ (own_w hw 37 rfl)) (mvT hZ (own_w hw 36 rfl)) (by decide) (backOf (W := 0) (rm4_1_2 l Z a0 hw [] b88 ar89 ks89 (3 : Int32) (((qs + qa) + qb) + qc) qs ((qs + qa) + qb) (0 : Int64) (0 : Int64) T96.heap n0 Zs96 Fentries96 Fcount96 Fend96 Fstarts96 Vs96) hZ (own_w hw 38 rfl) (own_w hw 4 rfl) (by decide) (by decide)) q98a q98c (g := (mkF m 297 (own_l45 qs p2 p3 p4 p5 qa qb qc qt b88) [(.int (1 : Int32)), (.ref b88)])) rfl (by rw [hml]; rfl) (Steps.refl _) (argsL := [(.int (1 : Int32))]) (rest := []) (lenOf own_pd2 rfl) rfl (by show 2 * 0 + _ ≤ _; exact Nat.le_of_eq rfl) (hb hby at_297) (fun _ _ => ⟨rfl, eq97, (by decide : 4 + 0 ≤ _), (by decide : 19 + 0 ≤ _)⟩)
        dsimp only [Pt.U, Pt.locs, Pt.cells, Pt.slots] at X98 l98 y98 z98 st98 hQ98
        subst l98 y98 z98
        obtain ⟨Nq98, rfl, eq98⟩ := hQ98
        have N98 := Fr.app N97 Nq98
        refine own_pre (fun t k => st98.trans k) ?_
        refine own_pre (A := (T98.setTop (mkF m 315 (own_l45 qs p2 p3 p4 p5 qa qb qc qt b88) [(.int (1 : Int32))]))) ?_ ?_
        · intro t k
          show Steps p.tables e below (T98.setTop (mkF m 300 (own_l45 qs p2 p3 p4 p5 qa qb qc qt b88) [(.long (((qs + qa) + qb) + qc))])) _
          refine XS.lload X98.here hx rfl (hb hby at_300) rfl ?_
          refine XS.lcmp X98.here hx rfl (hb hby at_302) rfl ?_
          refine XS.ifNo X98.here hx rfl (hb hby at_303) rfl ((if0 _ _).trans (teq ((lw_eq (((qs + qa) + qb) + qc) (((qs + qa) + qb) + qc)).mpr (rfl : (((qs + qa) + qb) + qc) = (((qs + qa) + qb) + qc)))).2) ?_
          refine XS.iconst X98.here hx rfl (hb hby at_306) ?_
          show Steps p.tables e below (T98.setTop (mkF m 307 (own_l45 qs p2 p3 p4 p5 qa qb qc qt b88) [(.int (1 : Int32))])) _
          refine XS.goto X98.here hx rfl (pc0 := 307) (pc' := 311) rfl (hb hby at_307) (by decide) (by decide) ?_
          show Steps p.tables e below (T98.setTop (mkF m 311 (own_l45 qs p2 p3 p4 p5 qa qb qc qt b88) [(.int (1 : Int32))])) _
          refine XS.istore X98.here hx rfl (hb hby at_311) rfl (l' := (own_l45 qs p2 p3 p4 p5 qa qb qc qt b88)) rfl ?_
          refine XS.iload X98.here hx rfl (hb hby at_313) rfl ?_
          exact k
        obtain ⟨fs, hr, hrun, hended, hW, hsame⟩ := X98.leave (hlocks := BodyLoose.notSynchronized Bd) (v := some (.int (1 : Int32))) (fun h => by rw [Bd.returns] at h; cases h)
        refine ⟨_, _, retOut X98 hx Bd.returns rfl (Or.inl ⟨rfl, Or.inr (Or.inl rfl), _, rfl⟩) (hb hby at_315) hr, hrun, hended, _, _, rfl, ?_, ⟨_, rfl⟩, hW, hsame.mono (by decide) (by decide)⟩
        show own_Q0 h0 n0 _ T98.heap _
        rw [eq98]
        exact ⟨rfl, N98⟩
    · skip
      obtain ⟨cq99, kq99, q99a, q99b, q99c⟩ := isOf hZ rfl Ea90
      obtain ⟨_, _, ⟨T99, L99, k99, n99⟩, -, X99, ⟨Lc99, hQ99, l99, y99, z99⟩, st99⟩ := X90.virtualBack hx (y := (⟨"com/example/coho/coho/eventlog/SegmentIndex", "add", "(JJ)V"⟩ : MethodName)) (z := (⟨"com/example/coho/coho/eventlog/SegmentIndex", "add", "(JJ)V"⟩ : MethodName)) hown (mvT hZ (own_w hw 24 rfl)) (mvT hZ (own_w hw 25 rfl)) (notFace_of_selects (args := #[]) (mvT hZ (own_w hw 27 rfl))) (mvT hZ (own_w hw 27 rfl)) (mvT hZ (own_w hw 26 rfl)) (by decide) (backOf (W := 0) (rm3_1B l Z a0 hw [] b88 qb qt ap89 ar89 at89 kp89 ks89 (1 : Int32) (qs + qa) qt (0 : Int32) (0 : Int32) (0 : Int32) (0 : Int32) qs (0 : Int64) (0 : Int64) (0 : Int64) T90.heap n0 Zs90 ⟨Ea90, Fplaces90, Fstarts90, Ftimes90, Fentries90, Fcount90, Fend90, FlastTime90, Vp90, Vs90, Vt90, n090, n190, n290, n390, n490, n590, gg090, gg190, gg290, gg390⟩ (by rw [own_sub1]; exact hw91)) hZ (own_w hw 28 rfl) (own_w hw 4 rfl) (by decide) (by decide)) q99a q99c (g := (mkF m 69 (own_l34 qs p2 p3 p4 p5 qa qb qc qt b88) [(.long qt), (.long qb), (.ref b88)])) rfl (by rw [hml]; rfl) (Steps.refl _) (argsL := [(.long qb), (.long qt)]) (rest := []) (lenOf own_pd1 rfl) rfl (by show 2 * 0 + _ ≤ _; exact Nat.le_of_eq rfl) (hb hby at_69) (fun _ _ => ⟨rfl, rfl, (by decide : 4 + 0 ≤ _), (by decide : 19 + 0 ≤ _)⟩)
      dsimp only [Pt.U, Pt.locs, Pt.cells, Pt.slots] at X99 l99 y99 z99 st99 hQ99
      subst l99 y99 z99
      obtain ⟨rfl, Nq99, Kq99, B99⟩ := hQ99
      have N99 := Fr.app N90 Nq99
      refine own_pre (fun t k => st99.trans k) ?_
      have Zs99 : n0 ≤ T99.heap.size := Nat.le_trans Zs90 Kq99.1
      obtain ⟨Ea99, Fplaces99, Fstarts99, Ftimes99, Fentries99, Fcount99, Fend99, FlastTime99, Vp99, Vs99, Vt99, n099, n199, n299, n399, n499, n599, gg099, gg199, gg299, gg399⟩ := B99
      rw [show ((1 : Int32) + (1 : Int32)) = (2 : Int32) from by decide] at Fcount99
      refine own_pre (A := (T99.setTop (mkF m 84 (own_l34 qs p2 p3 p4 p5 qa qb qc qt b88) [(.long qt), (.long qc), (.ref b88)]))) ?_ ?_
      · intro t k
        show Steps p.tables e below (T99.setTop (mkF m 72 (own_l34 qs p2 p3 p4 p5 qa qb qc qt b88) [])) _
        refine XS.iload X99.here hx rfl (hb hby at_72) rfl ?_
        refine XS.iconst X99.here hx rfl (hb hby at_74) ?_
        refine XS.icmpNo X99.here hx rfl (hb hby at_75) rfl (flt (by decide : ¬ ((3 : Int32) < (3 : Int32)))).1 ?_
        refine XS.aload X99.here hx rfl (hb hby at_78) rfl rfl ?_
        refine XS.lload X99.here hx rfl (hb hby at_80) rfl ?_
        refine XS.lload X99.here hx rfl (hb hby at_82) rfl ?_
        exact k
      by_cases hw100 : qb < (65536 : Int64)
      · skip
        obtain ⟨cq101, kq101, q101a, q101b, q101c⟩ := isOf hZ rfl Ea99
        obtain ⟨_, _, ⟨T101, L101, k101, n101⟩, -, X101, ⟨Lc101, hQ101, l101, y101, z101⟩, st101⟩ := X99.virtualBack hx (y := (⟨"com/example/coho/coho/eventlog/SegmentIndex", "add", "(JJ)V"⟩ : MethodName)) (z := (⟨"com/example/coho/coho/eventlog/SegmentIndex", "add", "(JJ)V"⟩ : MethodName)) hown (mvT hZ (own_w hw 24 rfl)) (mvT hZ (own_w hw 25 rfl)) (notFace_of_selects (args := #[]) (mvT hZ (own_w hw 27 rfl))) (mvT hZ (own_w hw 27 rfl)) (mvT hZ (own_w hw 26 rfl)) (by decide) (backOf (W := 0) (rm3_2A l Z a0 hw [] b88 qc qt ap89 ar89 at89 kp89 ks89 (2 : Int32) ((qs + qa) + qb) qt (0 : Int32) (1 : Int32) (0 : Int32) (0 : Int32) qs (qs + qa) (0 : Int64) (0 : Int64) T99.heap n0 Zs99 ⟨Ea99, Fplaces99, Fstarts99, Ftimes99, Fentries99, Fcount99, Fend99, FlastTime99, Vp99, Vs99, Vt99, n099, n199, n299, n399, n499, n599, gg099, gg199, gg299, gg399⟩ (by rw [own_sub1]; exact hw100)) hZ (own_w hw 28 rfl) (own_w hw 4 rfl) (by decide) (by decide)) q101a q101c (g := (mkF m 84 (own_l34 qs p2 p3 p4 p5 qa qb qc qt b88) [(.long qt), (.long qc), (.ref b88)])) rfl (by rw [hml]; rfl) (Steps.refl _) (argsL := [(.long qc), (.long qt)]) (rest := []) (lenOf own_pd1 rfl) rfl (by show 2 * 0 + _ ≤ _; exact Nat.le_of_eq rfl) (hb hby at_84) (fun _ _ => ⟨rfl, rfl, (by decide : 4 + 0 ≤ _), (by decide : 19 + 0 ≤ _)⟩)
        dsimp only [Pt.U, Pt.locs, Pt.cells, Pt.slots] at X101 l101 y101 z101 st101 hQ101
        subst l101 y101 z101
        obtain ⟨rfl, Nq101, Kq101, B101⟩ := hQ101
        have N101 := Fr.app N99 Nq101
        refine own_pre (fun t k => st101.trans k) ?_
        have Zs101 : n0 ≤ T101.heap.size := Nat.le_trans Zs99 Kq101.1
        obtain ⟨Ea101, Fplaces101, Fstarts101, Ftimes101, Fentries101, Fcount101, Fend101, FlastTime101, Vp101, Vs101, Vt101, n0101, n1101, n2101, n3101, n4101, n5101, gg0101, gg1101, gg2101, gg3101⟩ := B101
        rw [show ((2 : Int32) + (1 : Int32)) = (3 : Int32) from by decide] at Fcount101
        refine own_pre (A := (T101.setTop (mkF m 196 (own_l47 qs p2 p3 p4 p5 qa qb qc qt b88) [(.int (0 : Int32)), (.ref b88)]))) ?_ ?_
        · intro t k
          show Steps p.tables e below (T101.setTop (mkF m 87 (own_l34 qs p2 p3 p4 p5 qa qb qc qt b88) [])) _
          refine XS.lloadN X101.here hx rfl (hb hby at_87) rfl ?_
          refine XS.lload X101.here hx rfl (hb hby at_88) rfl ?_
          refine XS.ladd X101.here hx rfl (hb hby at_90) rfl ?_
          show Steps p.tables e below (T101.setTop (mkF m 91 (own_l34 qs p2 p3 p4 p5 qa qb qc qt b88) [(.long (qs + qa))])) _
          refine XS.lstore X101.here hx rfl (hb hby at_91) rfl (l' := (own_l35 qs p2 p3 p4 p5 qa qb qc qt b88)) rfl ?_
          refine XS.lload X101.here hx rfl (hb hby at_93) rfl ?_
          refine XS.lload X101.here hx rfl (hb hby at_95) rfl ?_
          refine XS.ladd X101.here hx rfl (hb hby at_97) rfl ?_
          show Steps p.tables e below (T101.setTop (mkF m 98 (own_l35 qs p2 p3 p4 p5 qa qb qc qt b88) [(.long ((qs + qa) + qb))])) _
          refine XS.lstore X101.here hx rfl (hb hby at_98) rfl (l' := (own_l36 qs p2 p3 p4 p5 qa qb qc qt b88)) rfl ?_
          refine XS.lload X101.here hx rfl (hb hby at_100) rfl ?_
          refine XS.lload X101.here hx rfl (hb hby at_102) rfl ?_
          refine XS.ladd X101.here hx rfl (hb hby at_104) rfl ?_
          show Steps p.tables e below (T101.setTop (mkF m 105 (own_l36 qs p2 p3 p4 p5 qa qb qc qt b88) [(.long (((qs + qa) + qb) + qc))])) _
          refine XS.lstore X101.here hx rfl (hb hby at_105) rfl (l' := (own_l37 qs p2 p3 p4 p5 qa qb qc qt b88)) rfl ?_
          refine XS.iload X101.here hx rfl (hb hby at_107) rfl ?_
          refine XS.iconst X101.here hx rfl (hb hby at_109) ?_
          show Steps p.tables e below (T101.setTop (mkF m 110 (own_l37 qs p2 p3 p4 p5 qa qb qc qt b88) [(.int (1 : Int32)), (.int (3 : Int32))])) _
          refine XS.icmpYes X101.here hx rfl (pc0 := 110) (pc' := 118) rfl (hb hby at_110) rfl (feq (by decide : ¬ ((3 : Int32) = (1 : Int32)))).2 (by decide) (by decide) ?_
          refine XS.iload X101.here hx rfl (hb hby at_118) rfl ?_
          refine XS.iconst X101.here hx rfl (hb hby at_120) ?_
          show Steps p.tables e below (T101.setTop (mkF m 121 (own_l37 qs p2 p3 p4 p5 qa qb qc qt b88) [(.int (2 : Int32)), (.int (3 : Int32))])) _
          refine XS.icmpYes X101.here hx rfl (pc0 := 121) (pc' := 129) rfl (hb hby at_121) rfl (feq (by decide : ¬ ((3 : Int32) = (2 : Int32)))).2 (by decide) (by decide) ?_
          refine XS.lload X101.here hx rfl (hb hby at_129) rfl ?_
          show Steps p.tables e below (T101.setTop (mkF m 131 (own_l37 qs p2 p3 p4 p5 qa qb qc qt b88) [(.long (((qs + qa) + qb) + qc))])) _
          refine XS.lstore X101.here hx rfl (hb hby at_131) rfl (l' := (own_l38 qs p2 p3 p4 p5 qa qb qc qt b88)) rfl ?_
          show Steps p.tables e below (T101.setTop (mkF m 133 (own_l38 qs p2 p3 p4 p5 qa qb qc qt b88) [])) _
          refine X101.ldc2Long hx hown (mvT hZ (own_w hw 33 rfl)) (g := (mkF m 133 (own_l38 qs p2 p3 p4 p5 qa qb qc qt b88) [])) rfl (hb hby at_133) _ ?_
          show Steps p.tables e below (T101.setTop (mkF m 136 (own_l38 qs p2 p3 p4 p5 qa qb qc qt b88) [(.long (65536 : Int64))])) _
          refine XS.lstore X101.here hx rfl (hb hby at_136) rfl (l' := (own_l39 qs p2 p3 p4 p5 qa qb qc qt b88)) rfl ?_
          refine XS.iload X101.here hx rfl (hb hby at_138) rfl ?_
          refine XS.iconst X101.here hx rfl (hb hby at_140) ?_
          refine XS.icmpNo X101.here hx rfl (hb hby at_141) rfl (flt (by decide : ¬ ((3 : Int32) < (2 : Int32)))).1 ?_
          refine XS.lload X101.here hx rfl (hb hby at_144) rfl ?_
          refine XS.lload X101.here hx rfl (hb hby at_146) rfl ?_
          refine XS.lcmp X101.here hx rfl (hb hby at_148) rfl ?_
          refine XS.ifNo X101.here hx rfl (hb hby at_149) rfl ((if0 _ _).trans (flt (fun q => hw91 ((lw_lt qa (65536 : Int64)).mp q))).1) ?_
          refine XS.iconst X101.here hx rfl (hb hby at_152) ?_
          show Steps p.tables e below (T101.setTop (mkF m 153 (own_l39 qs p2 p3 p4 p5 qa qb qc qt b88) [(.int (1 : Int32))])) _
          refine XS.goto X101.here hx rfl (pc0 := 153) (pc' := 157) rfl (hb hby at_153) (by decide) (by decide) ?_
          show Steps p.tables e below (T101.setTop (mkF m 157 (own_l39 qs p2 p3 p4 p5 qa qb qc qt b88) [(.int (1 : Int32))])) _
          refine XS.istore X101.here hx rfl (hb hby at_157) rfl (l' := (own_l46 qs p2 p3 p4 p5 qa qb qc qt b88)) rfl ?_
          refine XS.iload X101.here hx rfl (hb hby at_159) rfl ?_
          refine XS.iconst X101.here hx rfl (hb hby at_161) ?_
          refine XS.icmpNo X101.here hx rfl (hb hby at_162) rfl (flt (by decide : ¬ ((3 : Int32) < (3 : Int32)))).1 ?_
          refine XS.iload X101.here hx rfl (hb hby at_165) rfl ?_
          refine XS.ifNo X101.here hx rfl (hb hby at_167) rfl ((if0 _ _).trans (feq (by decide : ¬ ((1 : Int32) = (0 : Int32)))).1) ?_
          refine XS.lload X101.here hx rfl (hb hby at_170) rfl ?_
          show Steps p.tables e below (T101.setTop (mkF m 172 (own_l46 qs p2 p3 p4 p5 qa qb qc qt b88) [(.long qb)])) _
          refine XS.goto X101.here hx rfl (pc0 := 172) (pc' := 180) rfl (hb hby at_172) (by decide) (by decide) ?_
          refine XS.lload X101.here hx rfl (hb hby at_180) rfl ?_
          refine XS.lcmp X101.here hx rfl (hb hby at_182) rfl ?_
          show Steps p.tables e below (T101.setTop (mkF m 183 (own_l46 qs p2 p3 p4 p5 qa qb qc qt b88) [(.int (lcmpW qb (65536 : Int64)))])) _
          refine XS.ifYes X101.here hx rfl (pc0 := 183) (pc' := 190) rfl (hb hby at_183) rfl ((if0 _ _).trans (tlt ((lw_lt qb (65536 : Int64)).mpr hw100)).1) (by decide) (by decide) ?_
          refine XS.iconst X101.here hx rfl (hb hby at_190) ?_
          show Steps p.tables e below (T101.setTop (mkF m 191 (own_l46 qs p2 p3 p4 p5 qa qb qc qt b88) [(.int (0 : Int32))])) _
          refine XS.istore X101.here hx rfl (hb hby at_191) rfl (l' := (own_l47 qs p2 p3 p4 p5 qa qb qc qt b88)) rfl ?_
          refine XS.aload X101.here hx rfl (hb hby at_193) rfl rfl ?_
          refine XS.iconst X101.here hx rfl (hb hby at_195) ?_
          exact k
        obtain ⟨cq112, kq112, q112a, q112b, q112c⟩ := isOf hZ rfl Ea101
        obtain ⟨_, _, ⟨T112, L112, k112, n112⟩, -, X112, ⟨Lc112, hQ112, l112, y112, z112⟩, st112⟩ := X101.virtualBack hx (y := (⟨"com/example/coho/coho/eventlog/SegmentIndex", "stretchEnd", "(I)J"⟩ : MethodName)) (z := (⟨"com/example/coho/coho/eventlog/SegmentIndex", "stretchEnd", "(I)J"⟩ : MethodName)) hown (mvT hZ (own_w hw 34 rfl)) (mvT hZ (own_w hw 35 rfl)) (notFace_of_selects (args := #[]) (mvT hZ (own_w hw 37 rfl))) (mvT hZ (own_w hw 37 rfl)) (mvT hZ (own_w hw 36 rfl)) (by decide) (backOf (W := 0) (rm4_0_2 l Z a0 hw [] b88 ar89 ks89 (3 : Int32) (((qs + qa) + qb) + qc) qs (qs + qa) (0 : Int64) (0 : Int64) T101.heap n0 Zs101 Fentries101 Fcount101 Fend101 Fstarts101 Vs101) hZ (own_w hw 38 rfl) (own_w hw 4 rfl) (by decide) (by decide)) q112a q112c (g := (mkF m 196 (own_l47 qs p2 p3 p4 p5 qa qb qc qt b88) [(.int (0 : Int32)), (.ref b88)])) rfl (by rw [hml]; rfl) (Steps.refl _) (argsL := [(.int (0 : Int32))]) (rest := []) (lenOf own_pd2 rfl) rfl (by show 2 * 0 + _ ≤ _; exact Nat.le_of_eq rfl) (hb hby at_196) (fun _ _ => ⟨rfl, rfl, (by decide : 4 + 0 ≤ _), (by decide : 19 + 0 ≤ _)⟩)
        dsimp only [Pt.U, Pt.locs, Pt.cells, Pt.slots] at X112 l112 y112 z112 st112 hQ112
        subst l112 y112 z112
        obtain ⟨Nq112, rfl, eq112⟩ := hQ112
        have N112 := Fr.app N101 Nq112
        refine own_pre (fun t k => st112.trans k) ?_
        refine own_pre (A := (T112.setTop (mkF m 245 (own_l48 qs p2 p3 p4 p5 qa qb qc qt b88) [(.int (1 : Int32)), (.ref b88)]))) ?_ ?_
        · intro t k
          show Steps p.tables e below (T112.setTop (mkF m 199 (own_l47 qs p2 p3 p4 p5 qa qb qc qt b88) [(.long (qs + qa))])) _
          refine XS.iload X112.here hx rfl (hb hby at_199) rfl ?_
          refine XS.ifNo X112.here hx rfl (hb hby at_201) rfl ((if0 _ _).trans (feq (by decide : ¬ ((1 : Int32) = (0 : Int32)))).1) ?_
          refine XS.lload X112.here hx rfl (hb hby at_204) rfl ?_
          show Steps p.tables e below (T112.setTop (mkF m 206 (own_l47 qs p2 p3 p4 p5 qa qb qc qt b88) [(.long (qs + qa)), (.long (qs + qa))])) _
          refine XS.goto X112.here hx rfl (pc0 := 206) (pc' := 221) rfl (hb hby at_206) (by decide) (by decide) ?_
          refine XS.lcmp X112.here hx rfl (hb hby at_221) rfl ?_
          refine XS.ifNo X112.here hx rfl (hb hby at_222) rfl ((if0 _ _).trans (teq ((lw_eq (qs + qa) (qs + qa)).mpr (rfl : (qs + qa) = (qs + qa)))).2) ?_
          refine XS.iconst X112.here hx rfl (hb hby at_225) ?_
          show Steps p.tables e below (T112.setTop (mkF m 226 (own_l47 qs p2 p3 p4 p5 qa qb qc qt b88) [(.int (1 : Int32))])) _
          refine XS.goto X112.here hx rfl (pc0 := 226) (pc' := 230) rfl (hb hby at_226) (by decide) (by decide) ?_
          show Steps p.tables e below (T112.setTop (mkF m 230 (own_l47 qs p2 p3 p4 p5 qa qb qc qt b88) [(.int (1 : Int32))])) _
          refine XS.istore X112.here hx rfl (hb hby at_230) rfl (l' := (own_l48 qs p2 p3 p4 p5 qa qb qc qt b88)) rfl ?_
          refine XS.iload X112.here hx rfl (hb hby at_232) rfl ?_
          refine XS.ifNo X112.here hx rfl (hb hby at_234) rfl ((if0 _ _).trans (feq (by decide : ¬ ((1 : Int32) = (0 : Int32)))).1) ?_
          refine XS.iload X112.here hx rfl (hb hby at_237) rfl ?_
          refine XS.ifNo X112.here hx rfl (hb hby at_239) rfl ((if0 _ _).trans (feq (by decide : ¬ ((1 : Int32) = (0 : Int32)))).1) ?_
          refine XS.aload X112.here hx rfl (hb hby at_242) rfl rfl ?_
          refine XS.iconst X112.here hx rfl (hb hby at_244) ?_
          exact k
        obtain ⟨cq113, kq113, q113a, q113b, q113c⟩ := isOf hZ eq112 Ea101
        obtain ⟨_, _, ⟨T113, L113, k113, n113⟩, -, X113, ⟨Lc113, hQ113, l113, y113, z113⟩, st113⟩ := X112.virtualBack hx (y := (⟨"com/example/coho/coho/eventlog/SegmentIndex", "stretchEnd", "(I)J"⟩ : MethodName)) (z := (⟨"com/example/coho/coho/eventlog/SegmentIndex", "stretchEnd", "(I)J"⟩ : MethodName)) hown (mvT hZ (own_w hw 34 rfl)) (mvT hZ (own_w hw 35 rfl)) (notFace_of_selects (args := #[]) (mvT hZ (own_w hw 37 rfl))) (mvT hZ (own_w hw 37 rfl)) (mvT hZ (own_w hw 36 rfl)) (by decide) (backOf (W := 0) (rm4_1_2 l Z a0 hw [] b88 ar89 ks89 (3 : Int32) (((qs + qa) + qb) + qc) qs (qs + qa) (0 : Int64) (0 : Int64) T101.heap n0 Zs101 Fentries101 Fcount101 Fend101 Fstarts101 Vs101) hZ (own_w hw 38 rfl) (own_w hw 4 rfl) (by decide) (by decide)) q113a q113c (g := (mkF m 245 (own_l48 qs p2 p3 p4 p5 qa qb qc qt b88) [(.int (1 : Int32)), (.ref b88)])) rfl (by rw [hml]; rfl) (Steps.refl _) (argsL := [(.int (1 : Int32))]) (rest := []) (lenOf own_pd2 rfl) rfl (by show 2 * 0 + _ ≤ _; exact Nat.le_of_eq rfl) (hb hby at_245) (fun _ _ => ⟨rfl, eq112, (by decide : 4 + 0 ≤ _), (by decide : 19 + 0 ≤ _)⟩)
        dsimp only [Pt.U, Pt.locs, Pt.cells, Pt.slots] at X113 l113 y113 z113 st113 hQ113
        subst l113 y113 z113
        obtain ⟨Nq113, rfl, eq113⟩ := hQ113
        have N113 := Fr.app N112 Nq113
        refine own_pre (fun t k => st113.trans k) ?_
        refine own_pre (A := (T113.setTop (mkF m 315 (own_l48 qs p2 p3 p4 p5 qa qb qc qt b88) [(.int (1 : Int32))]))) ?_ ?_
        · intro t k
          show Steps p.tables e below (T113.setTop (mkF m 248 (own_l48 qs p2 p3 p4 p5 qa qb qc qt b88) [(.long (((qs + qa) + qb) + qc))])) _
          refine XS.iload X113.here hx rfl (hb hby at_248) rfl ?_
          show Steps p.tables e below (T113.setTop (mkF m 250 (own_l48 qs p2 p3 p4 p5 qa qb qc qt b88) [(.int (0 : Int32)), (.long (((qs + qa) + qb) + qc))])) _
          refine XS.ifYes X113.here hx rfl (pc0 := 250) (pc' := 258) rfl (hb hby at_250) rfl ((if0 _ _).trans (teq (by decide : (0 : Int32) = (0 : Int32))).1) (by decide) (by decide) ?_
          refine XS.lload X113.here hx rfl (hb hby at_258) rfl ?_
          refine XS.lcmp X113.here hx rfl (hb hby at_260) rfl ?_
          refine XS.ifNo X113.here hx rfl (hb hby at_261) rfl ((if0 _ _).trans (teq ((lw_eq (((qs + qa) + qb) + qc) (((qs + qa) + qb) + qc)).mpr (rfl : (((qs + qa) + qb) + qc) = (((qs + qa) + qb) + qc)))).2) ?_
          refine XS.iconst X113.here hx rfl (hb hby at_264) ?_
          show Steps p.tables e below (T113.setTop (mkF m 265 (own_l48 qs p2 p3 p4 p5 qa qb qc qt b88) [(.int (1 : Int32))])) _
          refine XS.goto X113.here hx rfl (pc0 := 265) (pc' := 269) rfl (hb hby at_265) (by decide) (by decide) ?_
          show Steps p.tables e below (T113.setTop (mkF m 269 (own_l48 qs p2 p3 p4 p5 qa qb qc qt b88) [(.int (1 : Int32))])) _
          refine XS.istore X113.here hx rfl (hb hby at_269) rfl (l' := (own_l48 qs p2 p3 p4 p5 qa qb qc qt b88)) rfl ?_
          refine XS.iload X113.here hx rfl (hb hby at_271) rfl ?_
          show Steps p.tables e below (T113.setTop (mkF m 273 (own_l48 qs p2 p3 p4 p5 qa qb qc qt b88) [(.int (0 : Int32))])) _
          refine XS.ifYes X113.here hx rfl (pc0 := 273) (pc' := 313) rfl (hb hby at_273) rfl ((if0 _ _).trans (teq (by decide : (0 : Int32) = (0 : Int32))).1) (by decide) (by decide) ?_
          refine XS.iload X113.here hx rfl (hb hby at_313) rfl ?_
          exact k
        obtain ⟨fs, hr, hrun, hended, hW, hsame⟩ := X113.leave (hlocks := BodyLoose.notSynchronized Bd) (v := some (.int (1 : Int32))) (fun h => by rw [Bd.returns] at h; cases h)
        refine ⟨_, _, retOut X113 hx Bd.returns rfl (Or.inl ⟨rfl, Or.inr (Or.inl rfl), _, rfl⟩) (hb hby at_315) hr, hrun, hended, _, _, rfl, ?_, ⟨_, rfl⟩, hW, hsame.mono (by decide) (by decide)⟩
        show own_Q0 h0 n0 _ T113.heap _
        rw [eq113]
        exact ⟨rfl, N113⟩
      · skip
        obtain ⟨cq114, kq114, q114a, q114b, q114c⟩ := isOf hZ rfl Ea99
        obtain ⟨_, _, ⟨T114, L114, k114, n114⟩, -, X114, ⟨Lc114, hQ114, l114, y114, z114⟩, st114⟩ := X99.virtualBack hx (y := (⟨"com/example/coho/coho/eventlog/SegmentIndex", "add", "(JJ)V"⟩ : MethodName)) (z := (⟨"com/example/coho/coho/eventlog/SegmentIndex", "add", "(JJ)V"⟩ : MethodName)) hown (mvT hZ (own_w hw 24 rfl)) (mvT hZ (own_w hw 25 rfl)) (notFace_of_selects (args := #[]) (mvT hZ (own_w hw 27 rfl))) (mvT hZ (own_w hw 27 rfl)) (mvT hZ (own_w hw 26 rfl)) (by decide) (backOf (W := 0) (rm3_2B l Z a0 hw [] b88 qc qt ap89 ar89 at89 kp89 ks89 (2 : Int32) ((qs + qa) + qb) qt (0 : Int32) (1 : Int32) (0 : Int32) (0 : Int32) qs (qs + qa) (0 : Int64) (0 : Int64) T99.heap n0 Zs99 ⟨Ea99, Fplaces99, Fstarts99, Ftimes99, Fentries99, Fcount99, Fend99, FlastTime99, Vp99, Vs99, Vt99, n099, n199, n299, n399, n499, n599, gg099, gg199, gg299, gg399⟩ (by rw [own_sub1]; exact hw100)) hZ (own_w hw 28 rfl) (own_w hw 4 rfl) (by decide) (by decide)) q114a q114c (g := (mkF m 84 (own_l34 qs p2 p3 p4 p5 qa qb qc qt b88) [(.long qt), (.long qc), (.ref b88)])) rfl (by rw [hml]; rfl) (Steps.refl _) (argsL := [(.long qc), (.long qt)]) (rest := []) (lenOf own_pd1 rfl) rfl (by show 2 * 0 + _ ≤ _; exact Nat.le_of_eq rfl) (hb hby at_84) (fun _ _ => ⟨rfl, rfl, (by decide : 4 + 0 ≤ _), (by decide : 19 + 0 ≤ _)⟩)
        dsimp only [Pt.U, Pt.locs, Pt.cells, Pt.slots] at X114 l114 y114 z114 st114 hQ114
        subst l114 y114 z114
        obtain ⟨rfl, Nq114, Kq114, B114⟩ := hQ114
        have N114 := Fr.app N99 Nq114
        refine own_pre (fun t k => st114.trans k) ?_
        have Zs114 : n0 ≤ T114.heap.size := Nat.le_trans Zs99 Kq114.1
        obtain ⟨Ea114, Fplaces114, Fstarts114, Ftimes114, Fentries114, Fcount114, Fend114, FlastTime114, Vp114, Vs114, Vt114, n0114, n1114, n2114, n3114, n4114, n5114, gg0114, gg1114, gg2114, gg3114⟩ := B114
        rw [show ((2 : Int32) + (1 : Int32)) = (3 : Int32) from by decide] at Fcount114
        refine own_pre (A := (T114.setTop (mkF m 196 (own_l49 qs p2 p3 p4 p5 qa qb qc qt b88) [(.int (0 : Int32)), (.ref b88)]))) ?_ ?_
        · intro t k
          show Steps p.tables e below (T114.setTop (mkF m 87 (own_l34 qs p2 p3 p4 p5 qa qb qc qt b88) [])) _
          refine XS.lloadN X114.here hx rfl (hb hby at_87) rfl ?_
          refine XS.lload X114.here hx rfl (hb hby at_88) rfl ?_
          refine XS.ladd X114.here hx rfl (hb hby at_90) rfl ?_
          show Steps p.tables e below (T114.setTop (mkF m 91 (own_l34 qs p2 p3 p4 p5 qa qb qc qt b88) [(.long (qs + qa))])) _
          refine XS.lstore X114.here hx rfl (hb hby at_91) rfl (l' := (own_l35 qs p2 p3 p4 p5 qa qb qc qt b88)) rfl ?_
          refine XS.lload X114.here hx rfl (hb hby at_93) rfl ?_
          refine XS.lload X114.here hx rfl (hb hby at_95) rfl ?_
          refine XS.ladd X114.here hx rfl (hb hby at_97) rfl ?_
          show Steps p.tables e below (T114.setTop (mkF m 98 (own_l35 qs p2 p3 p4 p5 qa qb qc qt b88) [(.long ((qs + qa) + qb))])) _
          refine XS.lstore X114.here hx rfl (hb hby at_98) rfl (l' := (own_l36 qs p2 p3 p4 p5 qa qb qc qt b88)) rfl ?_
          refine XS.lload X114.here hx rfl (hb hby at_100) rfl ?_
          refine XS.lload X114.here hx rfl (hb hby at_102) rfl ?_
          refine XS.ladd X114.here hx rfl (hb hby at_104) rfl ?_
          show Steps p.tables e below (T114.setTop (mkF m 105 (own_l36 qs p2 p3 p4 p5 qa qb qc qt b88) [(.long (((qs + qa) + qb) + qc))])) _
          refine XS.lstore X114.here hx rfl (hb hby at_105) rfl (l' := (own_l37 qs p2 p3 p4 p5 qa qb qc qt b88)) rfl ?_
          refine XS.iload X114.here hx rfl (hb hby at_107) rfl ?_
          refine XS.iconst X114.here hx rfl (hb hby at_109) ?_
          show Steps p.tables e below (T114.setTop (mkF m 110 (own_l37 qs p2 p3 p4 p5 qa qb qc qt b88) [(.int (1 : Int32)), (.int (3 : Int32))])) _
          refine XS.icmpYes X114.here hx rfl (pc0 := 110) (pc' := 118) rfl (hb hby at_110) rfl (feq (by decide : ¬ ((3 : Int32) = (1 : Int32)))).2 (by decide) (by decide) ?_
          refine XS.iload X114.here hx rfl (hb hby at_118) rfl ?_
          refine XS.iconst X114.here hx rfl (hb hby at_120) ?_
          show Steps p.tables e below (T114.setTop (mkF m 121 (own_l37 qs p2 p3 p4 p5 qa qb qc qt b88) [(.int (2 : Int32)), (.int (3 : Int32))])) _
          refine XS.icmpYes X114.here hx rfl (pc0 := 121) (pc' := 129) rfl (hb hby at_121) rfl (feq (by decide : ¬ ((3 : Int32) = (2 : Int32)))).2 (by decide) (by decide) ?_
          refine XS.lload X114.here hx rfl (hb hby at_129) rfl ?_
          show Steps p.tables e below (T114.setTop (mkF m 131 (own_l37 qs p2 p3 p4 p5 qa qb qc qt b88) [(.long (((qs + qa) + qb) + qc))])) _
          refine XS.lstore X114.here hx rfl (hb hby at_131) rfl (l' := (own_l38 qs p2 p3 p4 p5 qa qb qc qt b88)) rfl ?_
          show Steps p.tables e below (T114.setTop (mkF m 133 (own_l38 qs p2 p3 p4 p5 qa qb qc qt b88) [])) _
          refine X114.ldc2Long hx hown (mvT hZ (own_w hw 33 rfl)) (g := (mkF m 133 (own_l38 qs p2 p3 p4 p5 qa qb qc qt b88) [])) rfl (hb hby at_133) _ ?_
          show Steps p.tables e below (T114.setTop (mkF m 136 (own_l38 qs p2 p3 p4 p5 qa qb qc qt b88) [(.long (65536 : Int64))])) _
          refine XS.lstore X114.here hx rfl (hb hby at_136) rfl (l' := (own_l39 qs p2 p3 p4 p5 qa qb qc qt b88)) rfl ?_
          refine XS.iload X114.here hx rfl (hb hby at_138) rfl ?_
          refine XS.iconst X114.here hx rfl (hb hby at_140) ?_
          refine XS.icmpNo X114.here hx rfl (hb hby at_141) rfl (flt (by decide : ¬ ((3 : Int32) < (2 : Int32)))).1 ?_
          refine XS.lload X114.here hx rfl (hb hby at_144) rfl ?_
          refine XS.lload X114.here hx rfl (hb hby at_146) rfl ?_
          refine XS.lcmp X114.here hx rfl (hb hby at_148) rfl ?_
          refine XS.ifNo X114.here hx rfl (hb hby at_149) rfl ((if0 _ _).trans (flt (fun q => hw91 ((lw_lt qa (65536 : Int64)).mp q))).1) ?_
          refine XS.iconst X114.here hx rfl (hb hby at_152) ?_
          show Steps p.tables e below (T114.setTop (mkF m 153 (own_l39 qs p2 p3 p4 p5 qa qb qc qt b88) [(.int (1 : Int32))])) _
          refine XS.goto X114.here hx rfl (pc0 := 153) (pc' := 157) rfl (hb hby at_153) (by decide) (by decide) ?_
          show Steps p.tables e below (T114.setTop (mkF m 157 (own_l39 qs p2 p3 p4 p5 qa qb qc qt b88) [(.int (1 : Int32))])) _
          refine XS.istore X114.here hx rfl (hb hby at_157) rfl (l' := (own_l46 qs p2 p3 p4 p5 qa qb qc qt b88)) rfl ?_
          refine XS.iload X114.here hx rfl (hb hby at_159) rfl ?_
          refine XS.iconst X114.here hx rfl (hb hby at_161) ?_
          refine XS.icmpNo X114.here hx rfl (hb hby at_162) rfl (flt (by decide : ¬ ((3 : Int32) < (3 : Int32)))).1 ?_
          refine XS.iload X114.here hx rfl (hb hby at_165) rfl ?_
          refine XS.ifNo X114.here hx rfl (hb hby at_167) rfl ((if0 _ _).trans (feq (by decide : ¬ ((1 : Int32) = (0 : Int32)))).1) ?_
          refine XS.lload X114.here hx rfl (hb hby at_170) rfl ?_
          show Steps p.tables e below (T114.setTop (mkF m 172 (own_l46 qs p2 p3 p4 p5 qa qb qc qt b88) [(.long qb)])) _
          refine XS.goto X114.here hx rfl (pc0 := 172) (pc' := 180) rfl (hb hby at_172) (by decide) (by decide) ?_
          refine XS.lload X114.here hx rfl (hb hby at_180) rfl ?_
          refine XS.lcmp X114.here hx rfl (hb hby at_182) rfl ?_
          refine XS.ifNo X114.here hx rfl (hb hby at_183) rfl ((if0 _ _).trans (flt (fun q => hw100 ((lw_lt qb (65536 : Int64)).mp q))).1) ?_
          refine XS.iconst X114.here hx rfl (hb hby at_186) ?_
          show Steps p.tables e below (T114.setTop (mkF m 187 (own_l46 qs p2 p3 p4 p5 qa qb qc qt b88) [(.int (1 : Int32))])) _
          refine XS.goto X114.here hx rfl (pc0 := 187) (pc' := 191) rfl (hb hby at_187) (by decide) (by decide) ?_
          show Steps p.tables e below (T114.setTop (mkF m 191 (own_l46 qs p2 p3 p4 p5 qa qb qc qt b88) [(.int (1 : Int32))])) _
          refine XS.istore X114.here hx rfl (hb hby at_191) rfl (l' := (own_l49 qs p2 p3 p4 p5 qa qb qc qt b88)) rfl ?_
          refine XS.aload X114.here hx rfl (hb hby at_193) rfl rfl ?_
          refine XS.iconst X114.here hx rfl (hb hby at_195) ?_
          exact k
        obtain ⟨cq141, kq141, q141a, q141b, q141c⟩ := isOf hZ rfl Ea114
        obtain ⟨_, _, ⟨T141, L141, k141, n141⟩, -, X141, ⟨Lc141, hQ141, l141, y141, z141⟩, st141⟩ := X114.virtualBack hx (y := (⟨"com/example/coho/coho/eventlog/SegmentIndex", "stretchEnd", "(I)J"⟩ : MethodName)) (z := (⟨"com/example/coho/coho/eventlog/SegmentIndex", "stretchEnd", "(I)J"⟩ : MethodName)) hown (mvT hZ (own_w hw 34 rfl)) (mvT hZ (own_w hw 35 rfl)) (notFace_of_selects (args := #[]) (mvT hZ (own_w hw 37 rfl))) (mvT hZ (own_w hw 37 rfl)) (mvT hZ (own_w hw 36 rfl)) (by decide) (backOf (W := 0) (rm4_0_3 l Z a0 hw [] b88 ar89 ks89 (3 : Int32) (((qs + qa) + qb) + qc) qs (qs + qa) ((qs + qa) + qb) (0 : Int64) T114.heap n0 Zs114 Fentries114 Fcount114 Fend114 Fstarts114 Vs114) hZ (own_w hw 38 rfl) (own_w hw 4 rfl) (by decide) (by decide)) q141a q141c (g := (mkF m 196 (own_l49 qs p2 p3 p4 p5 qa qb qc qt b88) [(.int (0 : Int32)), (.ref b88)])) rfl (by rw [hml]; rfl) (Steps.refl _) (argsL := [(.int (0 : Int32))]) (rest := []) (lenOf own_pd2 rfl) rfl (by show 2 * 0 + _ ≤ _; exact Nat.le_of_eq rfl) (hb hby at_196) (fun _ _ => ⟨rfl, rfl, (by decide : 4 + 0 ≤ _), (by decide : 19 + 0 ≤ _)⟩)
        dsimp only [Pt.U, Pt.locs, Pt.cells, Pt.slots] at X141 l141 y141 z141 st141 hQ141
        subst l141 y141 z141
        obtain ⟨Nq141, rfl, eq141⟩ := hQ141
        have N141 := Fr.app N114 Nq141
        refine own_pre (fun t k => st141.trans k) ?_
        refine own_pre (A := (T141.setTop (mkF m 245 (own_l50 qs p2 p3 p4 p5 qa qb qc qt b88) [(.int (1 : Int32)), (.ref b88)]))) ?_ ?_
        · intro t k
          show Steps p.tables e below (T141.setTop (mkF m 199 (own_l49 qs p2 p3 p4 p5 qa qb qc qt b88) [(.long (qs + qa))])) _
          refine XS.iload X141.here hx rfl (hb hby at_199) rfl ?_
          refine XS.ifNo X141.here hx rfl (hb hby at_201) rfl ((if0 _ _).trans (feq (by decide : ¬ ((1 : Int32) = (0 : Int32)))).1) ?_
          refine XS.lload X141.here hx rfl (hb hby at_204) rfl ?_
          show Steps p.tables e below (T141.setTop (mkF m 206 (own_l49 qs p2 p3 p4 p5 qa qb qc qt b88) [(.long (qs + qa)), (.long (qs + qa))])) _
          refine XS.goto X141.here hx rfl (pc0 := 206) (pc' := 221) rfl (hb hby at_206) (by decide) (by decide) ?_
          refine XS.lcmp X141.here hx rfl (hb hby at_221) rfl ?_
          refine XS.ifNo X141.here hx rfl (hb hby at_222) rfl ((if0 _ _).trans (teq ((lw_eq (qs + qa) (qs + qa)).mpr (rfl : (qs + qa) = (qs + qa)))).2) ?_
          refine XS.iconst X141.here hx rfl (hb hby at_225) ?_
          show Steps p.tables e below (T141.setTop (mkF m 226 (own_l49 qs p2 p3 p4 p5 qa qb qc qt b88) [(.int (1 : Int32))])) _
          refine XS.goto X141.here hx rfl (pc0 := 226) (pc' := 230) rfl (hb hby at_226) (by decide) (by decide) ?_
          show Steps p.tables e below (T141.setTop (mkF m 230 (own_l49 qs p2 p3 p4 p5 qa qb qc qt b88) [(.int (1 : Int32))])) _
          refine XS.istore X141.here hx rfl (hb hby at_230) rfl (l' := (own_l50 qs p2 p3 p4 p5 qa qb qc qt b88)) rfl ?_
          refine XS.iload X141.here hx rfl (hb hby at_232) rfl ?_
          refine XS.ifNo X141.here hx rfl (hb hby at_234) rfl ((if0 _ _).trans (feq (by decide : ¬ ((1 : Int32) = (0 : Int32)))).1) ?_
          refine XS.iload X141.here hx rfl (hb hby at_237) rfl ?_
          refine XS.ifNo X141.here hx rfl (hb hby at_239) rfl ((if0 _ _).trans (feq (by decide : ¬ ((1 : Int32) = (0 : Int32)))).1) ?_
          refine XS.aload X141.here hx rfl (hb hby at_242) rfl rfl ?_
          refine XS.iconst X141.here hx rfl (hb hby at_244) ?_
          exact k
        obtain ⟨cq145, kq145, q145a, q145b, q145c⟩ := isOf hZ eq141 Ea114
        obtain ⟨_, _, ⟨T145, L145, k145, n145⟩, -, X145, ⟨Lc145, hQ145, l145, y145, z145⟩, st145⟩ := X141.virtualBack hx (y := (⟨"com/example/coho/coho/eventlog/SegmentIndex", "stretchEnd", "(I)J"⟩ : MethodName)) (z := (⟨"com/example/coho/coho/eventlog/SegmentIndex", "stretchEnd", "(I)J"⟩ : MethodName)) hown (mvT hZ (own_w hw 34 rfl)) (mvT hZ (own_w hw 35 rfl)) (notFace_of_selects (args := #[]) (mvT hZ (own_w hw 37 rfl))) (mvT hZ (own_w hw 37 rfl)) (mvT hZ (own_w hw 36 rfl)) (by decide) (backOf (W := 0) (rm4_1_3 l Z a0 hw [] b88 ar89 ks89 (3 : Int32) (((qs + qa) + qb) + qc) qs (qs + qa) ((qs + qa) + qb) (0 : Int64) T114.heap n0 Zs114 Fentries114 Fcount114 Fend114 Fstarts114 Vs114) hZ (own_w hw 38 rfl) (own_w hw 4 rfl) (by decide) (by decide)) q145a q145c (g := (mkF m 245 (own_l50 qs p2 p3 p4 p5 qa qb qc qt b88) [(.int (1 : Int32)), (.ref b88)])) rfl (by rw [hml]; rfl) (Steps.refl _) (argsL := [(.int (1 : Int32))]) (rest := []) (lenOf own_pd2 rfl) rfl (by show 2 * 0 + _ ≤ _; exact Nat.le_of_eq rfl) (hb hby at_245) (fun _ _ => ⟨rfl, eq141, (by decide : 4 + 0 ≤ _), (by decide : 19 + 0 ≤ _)⟩)
        dsimp only [Pt.U, Pt.locs, Pt.cells, Pt.slots] at X145 l145 y145 z145 st145 hQ145
        subst l145 y145 z145
        obtain ⟨Nq145, rfl, eq145⟩ := hQ145
        have N145 := Fr.app N141 Nq145
        refine own_pre (fun t k => st145.trans k) ?_
        refine own_pre (A := (T145.setTop (mkF m 297 (own_l51 qs p2 p3 p4 p5 qa qb qc qt b88) [(.int (2 : Int32)), (.ref b88)]))) ?_ ?_
        · intro t k
          show Steps p.tables e below (T145.setTop (mkF m 248 (own_l50 qs p2 p3 p4 p5 qa qb qc qt b88) [(.long ((qs + qa) + qb))])) _
          refine XS.iload X145.here hx rfl (hb hby at_248) rfl ?_
          refine XS.ifNo X145.here hx rfl (hb hby at_250) rfl ((if0 _ _).trans (feq (by decide : ¬ ((1 : Int32) = (0 : Int32)))).1) ?_
          refine XS.lload X145.here hx rfl (hb hby at_253) rfl ?_
          show Steps p.tables e below (T145.setTop (mkF m 255 (own_l50 qs p2 p3 p4 p5 qa qb qc qt b88) [(.long ((qs + qa) + qb)), (.long ((qs + qa) + qb))])) _
          refine XS.goto X145.here hx rfl (pc0 := 255) (pc' := 260) rfl (hb hby at_255) (by decide) (by decide) ?_
          refine XS.lcmp X145.here hx rfl (hb hby at_260) rfl ?_
          refine XS.ifNo X145.here hx rfl (hb hby at_261) rfl ((if0 _ _).trans (teq ((lw_eq ((qs + qa) + qb) ((qs + qa) + qb)).mpr (rfl : ((qs + qa) + qb) = ((qs + qa) + qb)))).2) ?_
          refine XS.iconst X145.here hx rfl (hb hby at_264) ?_
          show Steps p.tables e below (T145.setTop (mkF m 265 (own_l50 qs p2 p3 p4 p5 qa qb qc qt b88) [(.int (1 : Int32))])) _
          refine XS.goto X145.here hx rfl (pc0 := 265) (pc' := 269) rfl (hb hby at_265) (by decide) (by decide) ?_
          show Steps p.tables e below (T145.setTop (mkF m 269 (own_l50 qs p2 p3 p4 p5 qa qb qc qt b88) [(.int (1 : Int32))])) _
          refine XS.istore X145.here hx rfl (hb hby at_269) rfl (l' := (own_l50 qs p2 p3 p4 p5 qa qb qc qt b88)) rfl ?_
          refine XS.iload X145.here hx rfl (hb hby at_271) rfl ?_
          refine XS.ifNo X145.here hx rfl (hb hby at_273) rfl ((if0 _ _).trans (feq (by decide : ¬ ((1 : Int32) = (0 : Int32)))).1) ?_
          refine XS.iload X145.here hx rfl (hb hby at_276) rfl ?_
          refine XS.ifNo X145.here hx rfl (hb hby at_278) rfl ((if0 _ _).trans (feq (by decide : ¬ ((1 : Int32) = (0 : Int32)))).1) ?_
          refine XS.iconst X145.here hx rfl (hb hby at_281) ?_
          show Steps p.tables e below (T145.setTop (mkF m 282 (own_l50 qs p2 p3 p4 p5 qa qb qc qt b88) [(.int (2 : Int32))])) _
          refine XS.goto X145.here hx rfl (pc0 := 282) (pc' := 286) rfl (hb hby at_282) (by decide) (by decide) ?_
          show Steps p.tables e below (T145.setTop (mkF m 286 (own_l50 qs p2 p3 p4 p5 qa qb qc qt b88) [(.int (2 : Int32))])) _
          refine XS.istore X145.here hx rfl (hb hby at_286) rfl (l' := (own_l51 qs p2 p3 p4 p5 qa qb qc qt b88)) rfl ?_
          refine XS.iload X145.here hx rfl (hb hby at_288) rfl ?_
          refine XS.ifNo X145.here hx rfl (hb hby at_290) rfl ((if0 _ _).trans (feq (by decide : ¬ ((1 : Int32) = (0 : Int32)))).1) ?_
          refine XS.aload X145.here hx rfl (hb hby at_293) rfl rfl ?_
          refine XS.iload X145.here hx rfl (hb hby at_295) rfl ?_
          exact k
        obtain ⟨cq149, kq149, q149a, q149b, q149c⟩ := isOf hZ eq145 Ea114
        obtain ⟨_, _, ⟨T149, L149, k149, n149⟩, -, X149, ⟨Lc149, hQ149, l149, y149, z149⟩, st149⟩ := X145.virtualBack hx (y := (⟨"com/example/coho/coho/eventlog/SegmentIndex", "stretchEnd", "(I)J"⟩ : MethodName)) (z := (⟨"com/example/coho/coho/eventlog/SegmentIndex", "stretchEnd", "(I)J"⟩ : MethodName)) hown (mvT hZ (own_w hw 34 rfl)) (mvT hZ (own_w hw 35 rfl)) (notFace_of_selects (args := #[]) (mvT hZ (own_w hw 37 rfl))) (mvT hZ (own_w hw 37 rfl)) (mvT hZ (own_w hw 36 rfl)) (by decide) (backOf (W := 0) (rm4_2_3 l Z a0 hw [] b88 ar89 ks89 (3 : Int32) (((qs + qa) + qb) + qc) qs (qs + qa) ((qs + qa) + qb) (0 : Int64) T114.heap n0 Zs114 Fentries114 Fcount114 Fend114 Fstarts114 Vs114) hZ (own_w hw 38 rfl) (own_w hw 4 rfl) (by decide) (by decide)) q149a q149c (g := (mkF m 297 (own_l51 qs p2 p3 p4 p5 qa qb qc qt b88) [(.int (2 : Int32)), (.ref b88)])) rfl (by rw [hml]; rfl) (Steps.refl _) (argsL := [(.int (2 : Int32))]) (rest := []) (lenOf own_pd2 rfl) rfl (by show 2 * 0 + _ ≤ _; exact Nat.le_of_eq rfl) (hb hby at_297) (fun _ _ => ⟨rfl, eq145, (by decide : 4 + 0 ≤ _), (by decide : 19 + 0 ≤ _)⟩)
        dsimp only [Pt.U, Pt.locs, Pt.cells, Pt.slots] at X149 l149 y149 z149 st149 hQ149
        subst l149 y149 z149
        obtain ⟨Nq149, rfl, eq149⟩ := hQ149
        have N149 := Fr.app N145 Nq149
        refine own_pre (fun t k => st149.trans k) ?_
        refine own_pre (A := (T149.setTop (mkF m 315 (own_l51 qs p2 p3 p4 p5 qa qb qc qt b88) [(.int (1 : Int32))]))) ?_ ?_
        · intro t k
          show Steps p.tables e below (T149.setTop (mkF m 300 (own_l51 qs p2 p3 p4 p5 qa qb qc qt b88) [(.long (((qs + qa) + qb) + qc))])) _
          refine XS.lload X149.here hx rfl (hb hby at_300) rfl ?_
          refine XS.lcmp X149.here hx rfl (hb hby at_302) rfl ?_
          refine XS.ifNo X149.here hx rfl (hb hby at_303) rfl ((if0 _ _).trans (teq ((lw_eq (((qs + qa) + qb) + qc) (((qs + qa) + qb) + qc)).mpr (rfl : (((qs + qa) + qb) + qc) = (((qs + qa) + qb) + qc)))).2) ?_
          refine XS.iconst X149.here hx rfl (hb hby at_306) ?_
          show Steps p.tables e below (T149.setTop (mkF m 307 (own_l51 qs p2 p3 p4 p5 qa qb qc qt b88) [(.int (1 : Int32))])) _
          refine XS.goto X149.here hx rfl (pc0 := 307) (pc' := 311) rfl (hb hby at_307) (by decide) (by decide) ?_
          show Steps p.tables e below (T149.setTop (mkF m 311 (own_l51 qs p2 p3 p4 p5 qa qb qc qt b88) [(.int (1 : Int32))])) _
          refine XS.istore X149.here hx rfl (hb hby at_311) rfl (l' := (own_l51 qs p2 p3 p4 p5 qa qb qc qt b88)) rfl ?_
          refine XS.iload X149.here hx rfl (hb hby at_313) rfl ?_
          exact k
        obtain ⟨fs, hr, hrun, hended, hW, hsame⟩ := X149.leave (hlocks := BodyLoose.notSynchronized Bd) (v := some (.int (1 : Int32))) (fun h => by rw [Bd.returns] at h; cases h)
        refine ⟨_, _, retOut X149 hx Bd.returns rfl (Or.inl ⟨rfl, Or.inr (Or.inl rfl), _, rfl⟩) (hb hby at_315) hr, hrun, hended, _, _, rfl, ?_, ⟨_, rfl⟩, hW, hsame.mono (by decide) (by decide)⟩
        show own_Q0 h0 n0 _ T149.heap _
        rw [eq149]
        exact ⟨rfl, N149⟩
set_option maxRecDepth 65536 in
set_option maxHeartbeats 40000000 in
theorem comes_1 {Post : Tables → Env → Array Value → State → Outcome → State → Prop} (hpost : ∀ tb e args s v u, (limb_1_1.after args s (.returned v) u = true ∧ limb_1_2.after args s (.returned v) u = true ∧ True) → FrameEnd s (.returned v) u (Jvm.fieldLocs frame_1_writes args s ++ Jvm.arrayLocs frame_1_arrays args s ++ Jvm.staticLocs frame_1_statics s) 16 128 → Post tb e args s (.returned v) u) :
    ArmFor flags0 classFile x code maxLocals ret World_1 tables_1 room_1 Calls_1 rest_1 Pre_1 Post := by
  intro l hfl _ _ p e ha hc hk s m args below hf hA hF happ hP
  obtain ⟨hcalls, hrest, hpre⟩ := hP
  obtain ⟨-, -, -, hnamed, -, -, -, hat⟩ := (Spec.applies_iff hf).mp happ
  obtain ⟨hg, hn⟩ := and_e (Cond.before_iff.mp (show (Jvm.Cond.and given_1 narrow_1).before args s = true from hpre))
  obtain ⟨gg1, gg2⟩ := and_e hg
  obtain ⟨gg3, gg4⟩ := and_e gg2
  obtain ⟨gg5, gg6⟩ := and_e gg4
  obtain ⟨gg7, gg8⟩ := and_e gg6
  obtain ⟨gg9, gg10⟩ := and_e gg8
  obtain ⟨w0, w1, w2, w3, w4, rfl⟩ : ∃ w0 w1 w2 w3 w4 : Value, args = #[w0, w1, w2, w3, w4] := by
    have hs : args.size = 5 := by simpa [Cond.value, given_1] using gg1
    obtain ⟨L⟩ := args
    match L, hs with
    | [w0, w1, w2, w3, w4], _ => exact ⟨w0, w1, w2, w3, w4, rfl⟩
  have hw := fun d (hd : d ∈ tables_1) => atoms_spec (ws := Jvm.Cond.code x code maxLocals ret :: tables_1) hat d (List.mem_cons_of_mem _ hd)
  obtain ⟨i0, ei0⟩ := isL_v gg3
  obtain rfl : w0 = (.long i0) := Option.some.inj ei0
  obtain ⟨i1, ei1⟩ := is_v gg5
  obtain rfl : w1 = (.int i1) := Option.some.inj ei1
  obtain ⟨i2, ei2⟩ := is_v gg7
  obtain rfl : w2 = (.int i2) := Option.some.inj ei2
  obtain ⟨i3, ei3⟩ := is_v gg9
  obtain rfl : w3 = (.int i3) := Option.some.inj ei3
  obtain ⟨i4, ei4⟩ := is_v gg10
  obtain rfl : w4 = (.int i4) := Option.some.inj ei4
  obtain ⟨n, o, h1, h2, h3, _, L, rfl, ⟨rfl, N⟩, hq⟩ := rm0 l s _ hw tables_1 i0 i1 i2 i3 i4 s.heap s.heap.size (Nat.le_refl _) p e ha hc hk s m _ below hf ((Spec.applies_iff_loose hf).mp happ).1 ⟨rfl, State.Warmed39.refl s, rfl⟩ trivial
  refine ⟨n, _, h1, h2, h3, hpost _ _ _ _ _ _ ⟨Cond.after_iff.mpr rfl, Cond.after_iff.mpr (eq_i res_at (Term.int_eval (1)) rfl), trivial⟩ ⟨hq.1, hq.2.1, (hq.2.2.sift fun y hy => Or.inr (N y hy)).mono (by decide) (by decide)⟩⟩
theorem main_1_1 : Claimed_1_1 := comes_1 fun _ _ _ _ _ _ h hF => ⟨h.1, hF⟩
theorem main_1_2 : Claimed_1_2 := comes_1 fun _ _ _ _ _ _ h hF => ⟨h.2.1, hF⟩
end Jvm.Pilot.@@N@@
namespace Jvm.Pilot.@@N@@
open Jvm Jvm.ClassFile Sem Op Lib Jvm.Free Jvm.Stand Jvm.Pilot.@@N@@.Jvm.D
/-! MADE BY PROGRAM (witnessworld.py) out of the Statement's table words and the real class files: 11 classes; the members and pool entries that the words name. The judged class is class 1, her method 1. -/
namespace start1
open Jvm.ClassFile
def u (s : String) : CpInfo := .utf8 (stringToUtf16 s)
/-- a pool by its gaps: so many unusable entries, then the entry; so many at the end -/
def gap : Nat → List CpInfo → List CpInfo
  | 0, r => r
  | n + 1, r => .unusable :: gap n r
def poolList (es : List (Nat × CpInfo)) (last : Nat) : List CpInfo := es.foldr (fun e r => gap e.1 (e.2 :: r)) (gap last [])
def pool (es : List (Nat × CpInfo)) (last : Nat) : Array CpInfo := ⟨poolList es last⟩
def fileOf (pool : Array CpInfo) (this : Nat) (attrs : Array Attribute := #[]) (ms : Array MethodInfo := #[]) (fl : Nat := 33) (sup : Nat := 0) (ifs : Array Nat := #[]) (fds : Array FieldInfo := #[]) : ClassFile where
  minorVersion := 0
  majorVersion := 65
  constantPool := pool
  accessFlags := fl
  thisClass := this
  superClass := sup
  interfaces := ifs
  fields := fds
  methods := ms
  attributes := attrs
def plain (name : String) (sup : Option ClassId) : Class where
  name := name
  kind := .ordinary
  loader := none
  accessFlags := 33
  super := sup
  interfaces := #[]
  cf := none
  fields := #[]
  methods := #[]
  instanceTypes := #[]
  staticTypes := #[]
  resolved := #[]
  callSites := []
  init := .initialized
  statics := none
  mirror := none

def pool0 : Array CpInfo := pool [(5, u "<init>"), (0, u "()V"), (1, .class_ 10), (1, u "java/lang/Object")] 113

def k0c0 : Code := { maxStack := 0, maxLocals := 1, code := object_method_1_code, exceptionTable := #[], attributes := #[] }
def k0m0 : Method := { name := "<init>", desc := "()V", sig := { parameters := [], returnType := none }, accessFlags := 1, code := some k0c0 }
/-- java/lang/Object -/
def k0 : Class := { plain "java/lang/Object" none with
  accessFlags := 33
  interfaces := #[]
  cf := some (fileOf pool0 8 #[] #[{ accessFlags := 1, nameIndex := 5, descriptorIndex := 6, attributes := #[] }] 33 0 #[] #[])
  fields := #[]
  methods := #[k0m0]
  instanceTypes := #[]
  staticTypes := #[]
  resolved := Array.replicate 124 none
  statics := none }

def pool1 : Array CpInfo := pool [(2, .class_ 4), (1, u "java/lang/Object"), (0, u "<init>"), (0, u "()V"), (0, .integer 262143), (0, .integer 2147483647), (0, .class_ 10), (0, u "com/example/coho/coho/eventlog/SegmentIndex"), (0, .methodref 9 12), (0, .nameAndType 5 13), (0, u "(J)V"), (0, .methodref 9 15), (0, .nameAndType 16 17), (0, u "add"), (0, u "(JJ)V"), (0, .long 65536), (1, .methodref 9 21), (0, .nameAndType 22 23), (0, u "stretchEnd"), (0, u "(I)J"), (0, .class_ 25), (0, u "com/example/coho/coho/eventlog/SegmentIndexStretchEndPinLaw"), (2, u "law"), (0, u "(JIIII)Z")] 3

def k1m0 : Method := { name := "<init>", desc := "()V", sig := { parameters := [], returnType := none }, accessFlags := 1, code := none }
def k1c1 : Code := { maxStack := 5, maxLocals := 30, code := code, exceptionTable := #[], attributes := #[] }
def k1m1 : Method := { name := "law", desc := "(JIIII)Z", sig := { parameters := [.long, .int, .int, .int, .int], returnType := some .boolean }, accessFlags := 9, code := some k1c1 }
/-- com/example/coho/coho/eventlog/SegmentIndexStretchEndPinLaw -/
def k1 : Class := { plain "com/example/coho/coho/eventlog/SegmentIndexStretchEndPinLaw" (some 0) with
  accessFlags := 49
  interfaces := #[]
  cf := some (fileOf pool1 24 #[] #[{ accessFlags := 1, nameIndex := 5, descriptorIndex := 6, attributes := #[] }, { accessFlags := 9, nameIndex := 28, descriptorIndex := 29, attributes := #[] }] 49 2 #[] #[])
  fields := #[]
  methods := #[k1m0, k1m1]
  instanceTypes := #[]
  staticTypes := #[]
  resolved := Array.replicate 33 none
  statics := none }

def pool2 : Array CpInfo := pool [(1, .methodref 2 3), (0, .class_ 4), (0, .nameAndType 5 6), (0, u "java/lang/Object"), (0, u "<init>"), (0, u "()V"), (0, .fieldref 8 9), (0, .class_ 10), (0, .nameAndType 11 12), (0, u "com/example/coho/coho/eventlog/SegmentIndex"), (0, u "places"), (0, u "[I"), (0, .fieldref 8 14), (0, .nameAndType 15 16), (0, u "starts"), (0, u "[J"), (0, .fieldref 8 18), (0, .nameAndType 19 16), (0, u "times"), (2, .long 9223372036854775808), (1, .fieldref 8 25), (0, .nameAndType 26 27), (0, u "lastTime"), (0, u "J"), (0, .fieldref 8 29), (0, .nameAndType 30 27), (0, u "end"), (0, .fieldref 8 32), (0, .nameAndType 33 34), (0, u "entries"), (0, u "I"), (0, .long 65536), (5, .fieldref 8 42), (0, .nameAndType 43 34), (0, u "count"), (20, u "STRIDE"), (2, u "(J)V"), (2, u "add"), (0, u "(JJ)V"), (7, u "(I)J"), (3, u "stretchEnd")] 29

def k2c0 : Code := { maxStack := 3, maxLocals := 3, code := prog_34_method_1_code, exceptionTable := #[], attributes := #[] }
def k2m0 : Method := { name := "<init>", desc := "(J)V", sig := { parameters := [.long], returnType := none }, accessFlags := 0, code := some k2c0 }
def k2c1 : Code := { maxStack := 5, maxLocals := 5, code := prog_34_method_2_code, exceptionTable := #[], attributes := #[] }
def k2m1 : Method := { name := "add", desc := "(JJ)V", sig := { parameters := [.long, .long], returnType := none }, accessFlags := 0, code := some k2c1 }
def k2c2 : Code := { maxStack := 3, maxLocals := 2, code := prog_34_method_10_code, exceptionTable := #[], attributes := #[] }
def k2m2 : Method := { name := "stretchEnd", desc := "(I)J", sig := { parameters := [.int], returnType := some .long }, accessFlags := 0, code := some k2c2 }
/-- com/example/coho/coho/eventlog/SegmentIndex -/
def k2 : Class := { plain "com/example/coho/coho/eventlog/SegmentIndex" (some 0) with
  accessFlags := 32
  interfaces := #[]
  cf := some (fileOf pool2 8 #[] #[{ accessFlags := 0, nameIndex := 5, descriptorIndex := 67, attributes := #[] }, { accessFlags := 0, nameIndex := 70, descriptorIndex := 71, attributes := #[] }, { accessFlags := 0, nameIndex := 83, descriptorIndex := 79, attributes := #[] }] 32 2 #[] #[{ accessFlags := 24, nameIndex := 64, descriptorIndex := 34, attributes := #[] }, { accessFlags := 2, nameIndex := 11, descriptorIndex := 12, attributes := #[] }, { accessFlags := 2, nameIndex := 15, descriptorIndex := 16, attributes := #[] }, { accessFlags := 2, nameIndex := 19, descriptorIndex := 16, attributes := #[] }, { accessFlags := 2, nameIndex := 33, descriptorIndex := 34, attributes := #[] }, { accessFlags := 2, nameIndex := 43, descriptorIndex := 34, attributes := #[] }, { accessFlags := 2, nameIndex := 30, descriptorIndex := 27, attributes := #[] }, { accessFlags := 2, nameIndex := 26, descriptorIndex := 27, attributes := #[] }])
  fields := #[{ name := "STRIDE", type := .int, accessFlags := 24, slot := 0, constantValue := 0 }, { name := "places", type := (.array .int), accessFlags := 2, slot := 0, constantValue := 0 }, { name := "starts", type := (.array .long), accessFlags := 2, slot := 1, constantValue := 0 }, { name := "times", type := (.array .long), accessFlags := 2, slot := 2, constantValue := 0 }, { name := "entries", type := .int, accessFlags := 2, slot := 3, constantValue := 0 }, { name := "count", type := .int, accessFlags := 2, slot := 4, constantValue := 0 }, { name := "end", type := .long, accessFlags := 2, slot := 5, constantValue := 0 }, { name := "lastTime", type := .long, accessFlags := 2, slot := 6, constantValue := 0 }]
  methods := #[k2m0, k2m1, k2m2]
  instanceTypes := #[(.array .int), (.array .long), (.array .long), .int, .int, .long, .long]
  staticTypes := #[.int]
  resolved := Array.replicate 113 none
  statics := none }

def pool3 : Array CpInfo := pool [(1, u "java/lang/Cloneable"), (0, .class_ 1), (0, u "java/lang/Object"), (0, .class_ 3)] 3

/-- java/lang/Cloneable -/
def k3 : Class := { plain "java/lang/Cloneable" (some 0) with
  accessFlags := 1537
  interfaces := #[]
  cf := some (fileOf pool3 2 #[] #[] 1537 4 #[] #[])
  fields := #[]
  methods := #[]
  instanceTypes := #[]
  staticTypes := #[]
  resolved := Array.replicate 8 none
  statics := none }

def pool4 : Array CpInfo := pool [(1, u "java/io/Serializable"), (0, .class_ 1), (0, u "java/lang/Object"), (0, .class_ 3)] 3

/-- java/io/Serializable -/
def k4 : Class := { plain "java/io/Serializable" (some 0) with
  accessFlags := 1537
  interfaces := #[]
  cf := some (fileOf pool4 2 #[] #[] 1537 4 #[] #[])
  fields := #[]
  methods := #[]
  instanceTypes := #[]
  staticTypes := #[]
  resolved := Array.replicate 8 none
  statics := none }

/-- the primitive byte -/
def k5 : Class := { plain "byte" none with kind := .primitive 'B', accessFlags := 0x411 }
/-- [B -/
def k6 : Class := { plain "[B" (some 0) with kind := .array 5 .byte, interfaces := #[3, 4], accessFlags := 1041 }

/-- the primitive int -/
def k7 : Class := { plain "int" none with kind := .primitive 'I', accessFlags := 0x411 }
/-- [I -/
def k8 : Class := { plain "[I" (some 0) with kind := .array 7 .int, interfaces := #[3, 4], accessFlags := 1041 }

/-- the primitive long -/
def k9 : Class := { plain "long" none with kind := .primitive 'J', accessFlags := 0x411 }
/-- [J -/
def k10 : Class := { plain "[J" (some 0) with kind := .array 9 .long, interfaces := #[3, 4], accessFlags := 1041 }

def heap : Heap := #[]
def classes : Array Class := #[k0, k1, k2, k3, k4, k5, k6, k7, k8, k9, k10]
def interned : List (Array UInt16 × Addr) := []
def slotsUsed : Nat := 0
def theMethod : MethodId := ⟨1, 1⟩
def args0 : Array Value := #[.long 5, .int 7, .int 9, .int 3, .int 4]
def aboutOver (below : List Frame) : State where
  vm := { classes := classes, interned := interned.toArray }
  heap := heap
  slotsUsed := slotsUsed
  threads := #[{ frames := .invoking theMethod args0 :: below }]
def below0 : List Frame := [.native { method := ⟨0, 0⟩, args := #[] }]
def about1 : State := aboutOver below0
def p0 : Program := .bare "" "" ""
def e0 : Env := launch0.env 0 0 0
theorem w_frames : about1.frames = Frame.invoking theMethod args0 :: below0 := rfl
set_option maxRecDepth 65536 in
theorem w_args : argsFit about1.vm theMethod args0 = true := by decide +kernel
set_option maxRecDepth 65536 in
theorem w_heap : heapFits about1 = true := by decide +kernel
set_option maxRecDepth 65536 in
theorem w_runnable : about1.curStatus? = some .runnable := by decide +kernel
set_option maxRecDepth 65536 in
theorem w_alone : about1.alone = true := by decide +kernel
set_option maxRecDepth 65536 in
theorem w_named : about1.methodNamed? x = some theMethod := by decide +kernel
set_option maxRecDepth 65536 in
theorem w_hears : about1.hears theMethod below0 = true := by decide +kernel
set_option maxRecDepth 65536 in
theorem w_ripe : about1.ripe theMethod args0 below0 = true := by decide +kernel
theorem w_running : about1.status = .running := rfl
set_option maxRecDepth 65536 in
theorem w_room : about1.hasRoom e0.platform room_1 = true :=
  launch0.hasRoom_least _ room_1 (by decide +kernel) (by decide +kernel) (by decide +kernel) (by decide +kernel) (by decide +kernel) (by decide +kernel)
theorem allAtoms_all (ts : List Jvm.Cond) (a : Array Jvm.Value) (st : Jvm.State) : (allAtoms ts).before a st = ts.all (fun c => c.before a st) := by
  induction ts with
  | nil => rfl
  | cons c t ih =>
    show (Jvm.Cond.and c (allAtoms t)).before a st = _
    rw [Jvm.Cond.before_and, ih, List.all_cons]
def words1 : List Jvm.Cond := Jvm.Cond.code x code maxLocals ret :: tables_1
/-- a 'code' word, met by the world's own term for the bytes: nothing is compared byte by byte -/
theorem code_word {y : MethodName} {bytes : ByteArray} {mx : Nat} {rt : Option FieldType} {a : Array Value} {s : State} {m : MethodId} {meth : Method} {c : Code} (h1 : s.methodNamed? y = some m) (h2 : s.vm.method? m = some meth) (h3 : meth.code = some c) (h4 : c.code = bytes)
    (h5 : (c.maxLocals == mx && c.exceptionTable.isEmpty && decide (c.maxStack ≤ mostOperands) && decide (meth.sig.returnType = rt) && !meth.locks && decide (parseMethodDescriptor y.desc = some meth.sig)) = true) : (Jvm.Cond.code y bytes mx rt).before a s = true := by
  simp only [Bool.and_eq_true, beq_iff_eq, Bool.not_eq_true', decide_eq_true_eq] at h5
  obtain ⟨⟨⟨⟨⟨g1, g2⟩, g3⟩, g4⟩, g5⟩, g6⟩ := h5
  simp [Cond.before, Cond.holds, Cond.value, h1, h2, h3, h4, g1, g2, g3, g4, g5, g6]
def isCode : Jvm.Cond → Bool
  | .code _ _ _ _ => true
  | _ => false
theorem all_split {L : List Jvm.Cond} {P : Jvm.Cond → Bool} (h1 : L.all (fun c => isCode c || P c) = true) (h2 : ∀ c ∈ L.filter isCode, P c = true) : L.all P = true := by
  refine List.all_eq_true.mpr fun c hc => ?_
  have h := List.all_eq_true.mp h1 c hc
  rcases Bool.eq_false_or_eq_true (isCode c) with hi | hi
  · exact h2 c (List.mem_filter.mpr ⟨hc, hi⟩)
  · simpa [hi] using h
set_option maxRecDepth 65536 in
theorem w_c0 : (Jvm.Cond.code x code maxLocals ret).before args0 about1 = true := code_word (m := ⟨1, 1⟩) (meth := k1m1) (c := k1c1) (by decide +kernel) rfl rfl rfl (by decide +kernel)
set_option maxRecDepth 65536 in
theorem w_c1 : (Jvm.Cond.code ({ cls := "com/example/coho/coho/eventlog/SegmentIndex", name := "<init>", desc := "(J)V" } : Jvm.MethodName) prog_34_method_1_code (3 : Nat) (Option.none : Option Jvm.ClassFile.FieldType)).before args0 about1 = true := code_word (m := ⟨2, 0⟩) (meth := k2m0) (c := k2c0) (by decide +kernel) rfl rfl rfl (by decide +kernel)
set_option maxRecDepth 65536 in
theorem w_c2 : (Jvm.Cond.code ({ cls := "java/lang/Object", name := "<init>", desc := "()V" } : Jvm.MethodName) object_method_1_code (1 : Nat) (Option.none : Option Jvm.ClassFile.FieldType)).before args0 about1 = true := code_word (m := ⟨0, 0⟩) (meth := k0m0) (c := k0c0) (by decide +kernel) rfl rfl rfl (by decide +kernel)
set_option maxRecDepth 65536 in
theorem w_c3 : (Jvm.Cond.code ({ cls := "com/example/coho/coho/eventlog/SegmentIndex", name := "add", desc := "(JJ)V" } : Jvm.MethodName) prog_34_method_2_code (5 : Nat) (Option.none : Option Jvm.ClassFile.FieldType)).before args0 about1 = true := code_word (m := ⟨2, 1⟩) (meth := k2m1) (c := k2c1) (by decide +kernel) rfl rfl rfl (by decide +kernel)
set_option maxRecDepth 65536 in
theorem w_c4 : (Jvm.Cond.code ({ cls := "com/example/coho/coho/eventlog/SegmentIndex", name := "stretchEnd", desc := "(I)J" } : Jvm.MethodName) prog_34_method_10_code (2 : Nat) (Option.some Jvm.ClassFile.FieldType.long)).before args0 about1 = true := code_word (m := ⟨2, 2⟩) (meth := k2m2) (c := k2c2) (by decide +kernel) rfl rfl rfl (by decide +kernel)
def codes1 : List Jvm.Cond := [Jvm.Cond.code x code maxLocals ret, Jvm.Cond.code ({ cls := "com/example/coho/coho/eventlog/SegmentIndex", name := "<init>", desc := "(J)V" } : Jvm.MethodName) prog_34_method_1_code (3 : Nat) (Option.none : Option Jvm.ClassFile.FieldType), Jvm.Cond.code ({ cls := "java/lang/Object", name := "<init>", desc := "()V" } : Jvm.MethodName) object_method_1_code (1 : Nat) (Option.none : Option Jvm.ClassFile.FieldType), Jvm.Cond.code ({ cls := "com/example/coho/coho/eventlog/SegmentIndex", name := "add", desc := "(JJ)V" } : Jvm.MethodName) prog_34_method_2_code (5 : Nat) (Option.none : Option Jvm.ClassFile.FieldType), Jvm.Cond.code ({ cls := "com/example/coho/coho/eventlog/SegmentIndex", name := "stretchEnd", desc := "(I)J" } : Jvm.MethodName) prog_34_method_10_code (2 : Nat) (Option.some Jvm.ClassFile.FieldType.long)]
set_option maxRecDepth 65536 in
theorem codes_eq : words1.filter isCode = codes1 := rfl
theorem w_codes : ∀ c ∈ words1.filter isCode, c.before args0 about1 = true := by
  rw [codes_eq]
  intro c hc
  simp only [codes1, List.mem_cons, List.not_mem_nil, or_false] at hc
  rcases hc with rfl | rfl | rfl | rfl | rfl
  · exact w_c0
  · exact w_c1
  · exact w_c2
  · exact w_c3
  · exact w_c4
set_option maxRecDepth 65536 in
theorem w_t1 : (words1.take 24).all (fun c => isCode c || c.before args0 about1) = true := by decide +kernel
set_option maxRecDepth 65536 in
theorem w_t2 : (words1.drop 24).all (fun c => isCode c || c.before args0 about1) = true := by decide +kernel
theorem w_tables : (allAtoms (Jvm.Cond.code x code maxLocals ret :: tables_1)).before args0 about1 = true := by
  rw [allAtoms_all]
  show words1.all (fun c => c.before args0 about1) = true
  refine all_split ?_ w_codes
  rw [← List.take_append_drop 24 words1, List.all_append, w_t1, w_t2]
  rfl
set_option maxRecDepth 65536 in
theorem w_case : (Jvm.Cond.and given_1 narrow_1).before args0 about1 = true := by decide +kernel
theorem w_applies : (headSpec (Jvm.Cond.code x code maxLocals ret :: tables_1) room_1).applies x e0.platform about1 = true :=
  (Spec.applies_iff w_frames).mpr ⟨w_running, w_runnable, w_alone, w_named, w_hears, w_ripe, w_room, w_tables⟩
theorem atStart : AtStart classFile x code maxLocals ret World_1 tables_1 room_1 Calls_1 rest_1 Pre_1 launch0 p0 e0 about1 theMethod args0 below0 :=
  ⟨lists_1, trivial, launch0.admits_env _ _ _, launch0.least_env, fairChoices_fair.cas, fairChoices_fair.clock, w_frames, w_args, w_heap, w_applies, trivial, trivial, w_case⟩
end start1
theorem witness_1 : WitnessClaimed_1 := ⟨start1.p0, start1.e0, start1.about1, start1.theMethod, start1.args0, start1.below0, start1.atStart⟩
end Jvm.Pilot.@@N@@
