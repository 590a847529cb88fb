import Derived.Test.Qxb6608905aBytes
namespace Go.Proofs.Qxb6608905a.span
open Go.RowKit

set_option maxHeartbeats 1000000 in
theorem twice0f (lo hi k1 k2 x : ByteArray) (z0 : lo.size ≤ 65536) (z1 : hi.size ≤ 65536) (z2 : k1.size ≤ 65536) (z3 : k2.size ≤ 65536) (z4 : x.size ≤ 65536) (L1 H1 L12 H12 L2 H2 L21 H21 : ByteArray)
    (C1 : Hid (∀ W : World, Calls Try.prog 6 #[.string lo, .string hi, .int .i64 0, .string k1] W fun e w' => e = .returned (.tuple #[.string L1, .string H1, .int .i64 0]) ∧ Grown W w'))
    (C12 : Hid (∀ W : World, Calls Try.prog 6 #[.string L1, .string H1, .int .i64 0, .string k2] W fun e w' => e = .returned (.tuple #[.string L12, .string H12, .int .i64 0]) ∧ Grown W w'))
    (C2 : Hid (∀ W : World, Calls Try.prog 6 #[.string lo, .string hi, .int .i64 0, .string k2] W fun e w' => e = .returned (.tuple #[.string L2, .string H2, .int .i64 0]) ∧ Grown W w'))
    (C21 : Hid (∀ W : World, Calls Try.prog 6 #[.string L2, .string H2, .int .i64 0, .string k1] W fun e w' => e = .returned (.tuple #[.string L21, .string H21, .int .i64 0]) ∧ Grown W w'))
    (eS : inB lo hi x = false) (eA : inB L12 H12 x = false) (eB : inB L21 H21 x = false) (w : World) :
    Calls Try.prog 4 #[.string lo, .string hi, .int .i64 0, .string k1, .string k2, .string x] w fun e w' => e = .returned (.bool true) ∧ Grown w w' := by
  go_enter Try.func4, Try.ntmps4
  go_wp2_with (go_at_call 11; refine (bytes5_yes _ _ _ _ _ _ (by omega) _).mono ?_; rintro e w' ⟨rfl, rfl⟩)
  refine (C1.out _).mono ?_
  rintro e w1 ⟨rfl, hg1⟩
  have G1 : Hid _ := hg1
  clear hg1
  go_wp2_with fail
  refine (C12.out _).mono ?_
  rintro e w2 ⟨rfl, hg2⟩
  have G2 : Hid _ := hg2
  clear hg2
  go_wp2_with fail
  refine (C2.out _).mono ?_
  rintro e w3 ⟨rfl, hg3⟩
  have G3 : Hid _ := hg3
  clear hg3
  go_wp2_with fail
  refine (C21.out _).mono ?_
  rintro e w4 ⟨rfl, hg4⟩
  have G4 : Hid _ := hg4
  clear hg4
  go_wp2_with (first | (go_at_call 8; refine (inSpan _ _ _ _).mono ?_; rintro e w' ⟨rfl, rfl⟩))
  go_ret
  exact ⟨rfl, grown_trans G1.out (grown_trans G2.out (grown_trans G3.out G4.out))⟩

set_option maxHeartbeats 1000000 in
theorem twice0tf (lo hi k1 k2 x : ByteArray) (z0 : lo.size ≤ 65536) (z1 : hi.size ≤ 65536) (z2 : k1.size ≤ 65536) (z3 : k2.size ≤ 65536) (z4 : x.size ≤ 65536) (L1 H1 L12 H12 L2 H2 L21 H21 : ByteArray)
    (C1 : Hid (∀ W : World, Calls Try.prog 6 #[.string lo, .string hi, .int .i64 0, .string k1] W fun e w' => e = .returned (.tuple #[.string L1, .string H1, .int .i64 0]) ∧ Grown W w'))
    (C12 : Hid (∀ W : World, Calls Try.prog 6 #[.string L1, .string H1, .int .i64 0, .string k2] W fun e w' => e = .returned (.tuple #[.string L12, .string H12, .int .i64 0]) ∧ Grown W w'))
    (C2 : Hid (∀ W : World, Calls Try.prog 6 #[.string lo, .string hi, .int .i64 0, .string k2] W fun e w' => e = .returned (.tuple #[.string L2, .string H2, .int .i64 0]) ∧ Grown W w'))
    (C21 : Hid (∀ W : World, Calls Try.prog 6 #[.string L2, .string H2, .int .i64 0, .string k1] W fun e w' => e = .returned (.tuple #[.string L21, .string H21, .int .i64 0]) ∧ Grown W w'))
    (eS : inB lo hi x = true) (eP : pastB 0 k1 x = false) (eA : inB L12 H12 x = false) (eB : inB L21 H21 x = false) (w : World) :
    Calls Try.prog 4 #[.string lo, .string hi, .int .i64 0, .string k1, .string k2, .string x] w fun e w' => e = .returned (.bool true) ∧ Grown w w' := by
  go_enter Try.func4, Try.ntmps4
  go_wp2_with (go_at_call 11; refine (bytes5_yes _ _ _ _ _ _ (by omega) _).mono ?_; rintro e w' ⟨rfl, rfl⟩)
  refine (C1.out _).mono ?_
  rintro e w1 ⟨rfl, hg1⟩
  have G1 : Hid _ := hg1
  clear hg1
  go_wp2_with fail
  refine (C12.out _).mono ?_
  rintro e w2 ⟨rfl, hg2⟩
  have G2 : Hid _ := hg2
  clear hg2
  go_wp2_with fail
  refine (C2.out _).mono ?_
  rintro e w3 ⟨rfl, hg3⟩
  have G3 : Hid _ := hg3
  clear hg3
  go_wp2_with fail
  refine (C21.out _).mono ?_
  rintro e w4 ⟨rfl, hg4⟩
  have G4 : Hid _ := hg4
  clear hg4
  go_wp2_with (first | (go_at_call 8; refine (inSpan _ _ _ _).mono ?_; rintro e w' ⟨rfl, rfl⟩) | (go_at_call 9; refine (past _ _ _ _).mono ?_; rintro e w' ⟨rfl, rfl⟩))
  go_ret
  exact ⟨rfl, grown_trans G1.out (grown_trans G2.out (grown_trans G3.out G4.out))⟩

set_option maxHeartbeats 1000000 in
theorem twice0ttf (lo hi k1 k2 x : ByteArray) (z0 : lo.size ≤ 65536) (z1 : hi.size ≤ 65536) (z2 : k1.size ≤ 65536) (z3 : k2.size ≤ 65536) (z4 : x.size ≤ 65536) (L1 H1 L12 H12 L2 H2 L21 H21 : ByteArray)
    (C1 : Hid (∀ W : World, Calls Try.prog 6 #[.string lo, .string hi, .int .i64 0, .string k1] W fun e w' => e = .returned (.tuple #[.string L1, .string H1, .int .i64 0]) ∧ Grown W w'))
    (C12 : Hid (∀ W : World, Calls Try.prog 6 #[.string L1, .string H1, .int .i64 0, .string k2] W fun e w' => e = .returned (.tuple #[.string L12, .string H12, .int .i64 0]) ∧ Grown W w'))
    (C2 : Hid (∀ W : World, Calls Try.prog 6 #[.string lo, .string hi, .int .i64 0, .string k2] W fun e w' => e = .returned (.tuple #[.string L2, .string H2, .int .i64 0]) ∧ Grown W w'))
    (C21 : Hid (∀ W : World, Calls Try.prog 6 #[.string L2, .string H2, .int .i64 0, .string k1] W fun e w' => e = .returned (.tuple #[.string L21, .string H21, .int .i64 0]) ∧ Grown W w'))
    (eS : inB lo hi x = true) (eP : pastB 0 k1 x = true) (eQ : pastB 0 k2 x = false) (eA : inB L12 H12 x = false) (eB : inB L21 H21 x = false) (w : World) :
    Calls Try.prog 4 #[.string lo, .string hi, .int .i64 0, .string k1, .string k2, .string x] w fun e w' => e = .returned (.bool true) ∧ Grown w w' := by
  go_enter Try.func4, Try.ntmps4
  go_wp2_with (go_at_call 11; refine (bytes5_yes _ _ _ _ _ _ (by omega) _).mono ?_; rintro e w' ⟨rfl, rfl⟩)
  refine (C1.out _).mono ?_
  rintro e w1 ⟨rfl, hg1⟩
  have G1 : Hid _ := hg1
  clear hg1
  go_wp2_with fail
  refine (C12.out _).mono ?_
  rintro e w2 ⟨rfl, hg2⟩
  have G2 : Hid _ := hg2
  clear hg2
  go_wp2_with fail
  refine (C2.out _).mono ?_
  rintro e w3 ⟨rfl, hg3⟩
  have G3 : Hid _ := hg3
  clear hg3
  go_wp2_with fail
  refine (C21.out _).mono ?_
  rintro e w4 ⟨rfl, hg4⟩
  have G4 : Hid _ := hg4
  clear hg4
  go_wp2_with (first | (go_at_call 8; refine (inSpan _ _ _ _).mono ?_; rintro e w' ⟨rfl, rfl⟩) | (go_at_call 9; refine (past _ _ _ _).mono ?_; rintro e w' ⟨rfl, rfl⟩))
  go_ret
  exact ⟨rfl, grown_trans G1.out (grown_trans G2.out (grown_trans G3.out G4.out))⟩

set_option maxHeartbeats 1000000 in
theorem twice0ttt (lo hi k1 k2 x : ByteArray) (z0 : lo.size ≤ 65536) (z1 : hi.size ≤ 65536) (z2 : k1.size ≤ 65536) (z3 : k2.size ≤ 65536) (z4 : x.size ≤ 65536) (L1 H1 L12 H12 L2 H2 L21 H21 : ByteArray)
    (C1 : Hid (∀ W : World, Calls Try.prog 6 #[.string lo, .string hi, .int .i64 0, .string k1] W fun e w' => e = .returned (.tuple #[.string L1, .string H1, .int .i64 0]) ∧ Grown W w'))
    (C12 : Hid (∀ W : World, Calls Try.prog 6 #[.string L1, .string H1, .int .i64 0, .string k2] W fun e w' => e = .returned (.tuple #[.string L12, .string H12, .int .i64 0]) ∧ Grown W w'))
    (C2 : Hid (∀ W : World, Calls Try.prog 6 #[.string lo, .string hi, .int .i64 0, .string k2] W fun e w' => e = .returned (.tuple #[.string L2, .string H2, .int .i64 0]) ∧ Grown W w'))
    (C21 : Hid (∀ W : World, Calls Try.prog 6 #[.string L2, .string H2, .int .i64 0, .string k1] W fun e w' => e = .returned (.tuple #[.string L21, .string H21, .int .i64 0]) ∧ Grown W w'))
    (eS : inB lo hi x = true) (eP : pastB 0 k1 x = true) (eQ : pastB 0 k2 x = true) (eA : inB L12 H12 x = true) (eB : inB L21 H21 x = true) (w : World) :
    Calls Try.prog 4 #[.string lo, .string hi, .int .i64 0, .string k1, .string k2, .string x] w fun e w' => e = .returned (.bool true) ∧ Grown w w' := by
  go_enter Try.func4, Try.ntmps4
  go_wp2_with (go_at_call 11; refine (bytes5_yes _ _ _ _ _ _ (by omega) _).mono ?_; rintro e w' ⟨rfl, rfl⟩)
  refine (C1.out _).mono ?_
  rintro e w1 ⟨rfl, hg1⟩
  have G1 : Hid _ := hg1
  clear hg1
  go_wp2_with fail
  refine (C12.out _).mono ?_
  rintro e w2 ⟨rfl, hg2⟩
  have G2 : Hid _ := hg2
  clear hg2
  go_wp2_with fail
  refine (C2.out _).mono ?_
  rintro e w3 ⟨rfl, hg3⟩
  have G3 : Hid _ := hg3
  clear hg3
  go_wp2_with fail
  refine (C21.out _).mono ?_
  rintro e w4 ⟨rfl, hg4⟩
  have G4 : Hid _ := hg4
  clear hg4
  go_wp2_with (first | (go_at_call 8; refine (inSpan _ _ _ _).mono ?_; rintro e w' ⟨rfl, rfl⟩) | (go_at_call 9; refine (past _ _ _ _).mono ?_; rintro e w' ⟨rfl, rfl⟩))
  go_ret
  exact ⟨rfl, grown_trans G1.out (grown_trans G2.out (grown_trans G3.out G4.out))⟩

theorem twice0 (lo hi k1 k2 x : ByteArray) (z0 : lo.size ≤ 65536) (z1 : hi.size ≤ 65536) (z2 : k1.size ≤ 65536) (z3 : k2.size ≤ 65536) (z4 : x.size ≤ 65536) (w : World) :
    Calls Try.prog 4 #[.string lo, .string hi, .int .i64 0, .string k1, .string k2, .string x] w fun e w' => e = .returned (.bool true) ∧ Grown w w' := by
  have C1 : Hid _ := fun W => zzAfter 0 (.inl rfl) lo hi k1 z2 W
  have C12 : Hid _ := fun W => zzAfter 0 (.inl rfl) (afLo 0 lo k1) (afHi 0 hi k1) k2 z3 W
  have C2 : Hid _ := fun W => zzAfter 0 (.inl rfl) lo hi k2 z3 W
  have C21 : Hid _ := fun W => zzAfter 0 (.inl rfl) (afLo 0 lo k2) (afHi 0 hi k2) k1 z2 W
  have eA := in_after 0 (afLo 0 lo k1) (afHi 0 hi k1) k2 x (.inl rfl)
  have eB := in_after 0 (afLo 0 lo k2) (afHi 0 hi k2) k1 x (.inl rfl)
  rw [in_after 0 lo hi k1 x (.inl rfl)] at eA
  rw [in_after 0 lo hi k2 x (.inl rfl)] at eB
  cases eS : inB lo hi x
  · rw [eS, Bool.false_and, Bool.false_and] at eA eB
    exact twice0f lo hi k1 k2 x z0 z1 z2 z3 z4 _ _ _ _ _ _ _ _ C1 C12 C2 C21 eS eA eB w
  · rw [eS, Bool.true_and] at eA eB
    cases eP : pastB 0 k1 x
    · rw [eP, Bool.false_and] at eA
      rw [eP, Bool.and_false] at eB
      exact twice0tf lo hi k1 k2 x z0 z1 z2 z3 z4 _ _ _ _ _ _ _ _ C1 C12 C2 C21 eS eP eA eB w
    · rw [eP, Bool.true_and] at eA
      rw [eP, Bool.and_true] at eB
      cases eQ : pastB 0 k2 x
      · rw [eQ] at eA eB
        exact twice0ttf lo hi k1 k2 x z0 z1 z2 z3 z4 _ _ _ _ _ _ _ _ C1 C12 C2 C21 eS eP eQ eA eB w
      · rw [eQ] at eA eB
        exact twice0ttt lo hi k1 k2 x z0 z1 z2 z3 z4 _ _ _ _ _ _ _ _ C1 C12 C2 C21 eS eP eQ eA eB w

end Go.Proofs.Qxb6608905a.span
