import Derived.Test.Qxb6608905aBytes
namespace Go.Proofs.Qxb6608905a.span
open Go.RowKit

set_option maxHeartbeats 1000000 in
theorem keeps0f (lo hi key x : ByteArray) (z0 : lo.size ≤ 65536) (z1 : hi.size ≤ 65536) (z2 : key.size ≤ 65536) (z3 : x.size ≤ 65536) (A B F G : ByteArray)
    (CA : Hid (∀ W : World, Calls Try.prog 6 #[.string lo, .string hi, .int .i64 0, .string key] W fun e w' => e = .returned (.tuple #[.string A, .string B, .int .i64 0]) ∧ Grown W w'))
    (CF : Hid (∀ W : World, Calls Try.prog 7 #[.string lo, .string hi, .int .i64 0, .string key] W fun e w' => e = .returned (.tuple #[.string F, .string G, .int .i64 0]) ∧ Grown W w'))
    (eS : inB lo hi x = false) (eA : inB A B x = false) (eF : inB F G x = false) (w : World) :
    Calls Try.prog 3 #[.string lo, .string hi, .int .i64 0, .string key, .string x] w fun e w' => e = .returned (.bool true) ∧ Grown w w' := by
  go_enter Try.func3, Try.ntmps3
  go_wp2_with (go_at_call 5; refine (bytes4_yes _ _ _ _ _ (by omega) _).mono ?_; rintro e w' ⟨rfl, rfl⟩)
  refine (CA.out _).mono ?_
  rintro e w1 ⟨rfl, hg1⟩
  have G1 : Hid _ := hg1
  clear hg1
  go_wp2_with fail
  refine (CF.out _).mono ?_
  rintro e w2 ⟨rfl, hg2⟩
  have G2 : Hid _ := hg2
  clear hg2
  go_wp2_with (first | (go_at_call 8; refine (inSpan _ _ _ _).mono ?_; rintro e w' ⟨rfl, rfl⟩))
  go_ret
  exact ⟨rfl, grown_trans G1.out G2.out⟩

set_option maxHeartbeats 1000000 in
theorem keeps0tf (lo hi key x : ByteArray) (z0 : lo.size ≤ 65536) (z1 : hi.size ≤ 65536) (z2 : key.size ≤ 65536) (z3 : x.size ≤ 65536) (A B F G : ByteArray)
    (CA : Hid (∀ W : World, Calls Try.prog 6 #[.string lo, .string hi, .int .i64 0, .string key] W fun e w' => e = .returned (.tuple #[.string A, .string B, .int .i64 0]) ∧ Grown W w'))
    (CF : Hid (∀ W : World, Calls Try.prog 7 #[.string lo, .string hi, .int .i64 0, .string key] W fun e w' => e = .returned (.tuple #[.string F, .string G, .int .i64 0]) ∧ Grown W w'))
    (eS : inB lo hi x = true) (eO : onB 0 key x = false) (eP : pastB 0 key x = false) (eA : inB A B x = false) (eF : inB F G x = false) (w : World) :
    Calls Try.prog 3 #[.string lo, .string hi, .int .i64 0, .string key, .string x] w fun e w' => e = .returned (.bool true) ∧ Grown w w' := by
  go_enter Try.func3, Try.ntmps3
  go_wp2_with (go_at_call 5; refine (bytes4_yes _ _ _ _ _ (by omega) _).mono ?_; rintro e w' ⟨rfl, rfl⟩)
  refine (CA.out _).mono ?_
  rintro e w1 ⟨rfl, hg1⟩
  have G1 : Hid _ := hg1
  clear hg1
  go_wp2_with fail
  refine (CF.out _).mono ?_
  rintro e w2 ⟨rfl, hg2⟩
  have G2 : Hid _ := hg2
  clear hg2
  go_wp2_with (first | (go_at_call 8; refine (inSpan _ _ _ _).mono ?_; rintro e w' ⟨rfl, rfl⟩) | (go_at_call 9; refine (past _ _ _ _).mono ?_; rintro e w' ⟨rfl, rfl⟩) | (go_at_call 10; refine (fromOn _ _ _ _).mono ?_; rintro e w' ⟨rfl, rfl⟩))
  go_ret
  exact ⟨rfl, grown_trans G1.out G2.out⟩

set_option maxHeartbeats 1000000 in
theorem keeps0ttf (lo hi key x : ByteArray) (z0 : lo.size ≤ 65536) (z1 : hi.size ≤ 65536) (z2 : key.size ≤ 65536) (z3 : x.size ≤ 65536) (A B F G : ByteArray)
    (CA : Hid (∀ W : World, Calls Try.prog 6 #[.string lo, .string hi, .int .i64 0, .string key] W fun e w' => e = .returned (.tuple #[.string A, .string B, .int .i64 0]) ∧ Grown W w'))
    (CF : Hid (∀ W : World, Calls Try.prog 7 #[.string lo, .string hi, .int .i64 0, .string key] W fun e w' => e = .returned (.tuple #[.string F, .string G, .int .i64 0]) ∧ Grown W w'))
    (eS : inB lo hi x = true) (eO : onB 0 key x = true) (eE : (x.toList == key.toList) = false) (eP : pastB 0 key x = true) (eA : inB A B x = true) (eF : inB F G x = true) (w : World) :
    Calls Try.prog 3 #[.string lo, .string hi, .int .i64 0, .string key, .string x] w fun e w' => e = .returned (.bool true) ∧ Grown w w' := by
  go_enter Try.func3, Try.ntmps3
  go_wp2_with (go_at_call 5; refine (bytes4_yes _ _ _ _ _ (by omega) _).mono ?_; rintro e w' ⟨rfl, rfl⟩)
  refine (CA.out _).mono ?_
  rintro e w1 ⟨rfl, hg1⟩
  have G1 : Hid _ := hg1
  clear hg1
  go_wp2_with fail
  refine (CF.out _).mono ?_
  rintro e w2 ⟨rfl, hg2⟩
  have G2 : Hid _ := hg2
  clear hg2
  go_wp2_with (first | (go_at_call 8; refine (inSpan _ _ _ _).mono ?_; rintro e w' ⟨rfl, rfl⟩) | (go_at_call 9; refine (past _ _ _ _).mono ?_; rintro e w' ⟨rfl, rfl⟩) | (go_at_call 10; refine (fromOn _ _ _ _).mono ?_; rintro e w' ⟨rfl, rfl⟩))
  go_ret
  exact ⟨rfl, grown_trans G1.out G2.out⟩

set_option maxHeartbeats 1000000 in
theorem keeps0ttt (lo hi key x : ByteArray) (z0 : lo.size ≤ 65536) (z1 : hi.size ≤ 65536) (z2 : key.size ≤ 65536) (z3 : x.size ≤ 65536) (A B F G : ByteArray)
    (CA : Hid (∀ W : World, Calls Try.prog 6 #[.string lo, .string hi, .int .i64 0, .string key] W fun e w' => e = .returned (.tuple #[.string A, .string B, .int .i64 0]) ∧ Grown W w'))
    (CF : Hid (∀ W : World, Calls Try.prog 7 #[.string lo, .string hi, .int .i64 0, .string key] W fun e w' => e = .returned (.tuple #[.string F, .string G, .int .i64 0]) ∧ Grown W w'))
    (eS : inB lo hi x = true) (eO : onB 0 key x = true) (eE : (x.toList == key.toList) = true) (eP : pastB 0 key x = false) (eA : inB A B x = false) (eF : inB F G x = true) (w : World) :
    Calls Try.prog 3 #[.string lo, .string hi, .int .i64 0, .string key, .string x] w fun e w' => e = .returned (.bool true) ∧ Grown w w' := by
  go_enter Try.func3, Try.ntmps3
  go_wp2_with (go_at_call 5; refine (bytes4_yes _ _ _ _ _ (by omega) _).mono ?_; rintro e w' ⟨rfl, rfl⟩)
  refine (CA.out _).mono ?_
  rintro e w1 ⟨rfl, hg1⟩
  have G1 : Hid _ := hg1
  clear hg1
  go_wp2_with fail
  refine (CF.out _).mono ?_
  rintro e w2 ⟨rfl, hg2⟩
  have G2 : Hid _ := hg2
  clear hg2
  go_wp2_with (first | (go_at_call 8; refine (inSpan _ _ _ _).mono ?_; rintro e w' ⟨rfl, rfl⟩) | (go_at_call 9; refine (past _ _ _ _).mono ?_; rintro e w' ⟨rfl, rfl⟩) | (go_at_call 10; refine (fromOn _ _ _ _).mono ?_; rintro e w' ⟨rfl, rfl⟩))
  go_ret
  exact ⟨rfl, grown_trans G1.out G2.out⟩

theorem keeps0 (lo hi key x : ByteArray) (z0 : lo.size ≤ 65536) (z1 : hi.size ≤ 65536) (z2 : key.size ≤ 65536) (z3 : x.size ≤ 65536) (w : World) :
    Calls Try.prog 3 #[.string lo, .string hi, .int .i64 0, .string key, .string x] w fun e w' => e = .returned (.bool true) ∧ Grown w w' := by
  have CA : Hid _ := fun W => zzAfter 0 (.inl rfl) lo hi key z2 W
  have CF : Hid _ := fun W => zzFrom 0 (.inl rfl) lo hi key z2 W
  have eA := in_after 0 lo hi key x (.inl rfl)
  have eF := in_from 0 lo hi key x (.inl rfl)
  have eP := past_on 0 key x
  cases eS : inB lo hi x
  · rw [eS, Bool.false_and] at eA eF
    exact keeps0f lo hi key x z0 z1 z2 z3 _ _ _ _ CA CF eS eA eF w
  · rw [eS, Bool.true_and] at eA eF
    cases eO : onB 0 key x
    · rw [eO, Bool.false_and] at eP
      rw [eP] at eA
      rw [eO] at eF
      exact keeps0tf lo hi key x z0 z1 z2 z3 _ _ _ _ CA CF eS eO eP eA eF w
    · rw [eO] at eF eP
      cases eE : (x.toList == key.toList)
      · rw [eE, Bool.not_false, Bool.and_self] at eP
        rw [eP] at eA
        exact keeps0ttf lo hi key x z0 z1 z2 z3 _ _ _ _ CA CF eS eO eE eP eA eF w
      · rw [eE, Bool.not_true, Bool.and_false] at eP
        rw [eP] at eA
        exact keeps0ttt lo hi key x z0 z1 z2 z3 _ _ _ _ CA CF eS eO eE eP eA eF w

set_option maxHeartbeats 1000000 in
theorem keeps1f (lo hi key x : ByteArray) (hk : key.toList.isEmpty = false) (z0 : lo.size ≤ 65536) (z1 : hi.size ≤ 65536) (z2 : key.size ≤ 65536) (z3 : x.size ≤ 65536) (A B F G : ByteArray)
    (CA : Hid (∀ W : World, Calls Try.prog 6 #[.string lo, .string hi, .int .i64 1, .string key] W fun e w' => e = .returned (.tuple #[.string A, .string B, .int .i64 1]) ∧ Grown W w'))
    (CF : Hid (∀ W : World, Calls Try.prog 7 #[.string lo, .string hi, .int .i64 1, .string key] W fun e w' => e = .returned (.tuple #[.string F, .string G, .int .i64 1]) ∧ Grown W w'))
    (eS : inB lo hi x = false) (eA : inB A B x = false) (eF : inB F G x = false) (w : World) :
    Calls Try.prog 3 #[.string lo, .string hi, .int .i64 1, .string key, .string x] w fun e w' => e = .returned (.bool true) ∧ Grown w w' := by
  go_enter Try.func3, Try.ntmps3
  go_wp2_with (go_at_call 5; refine (bytes4_yes _ _ _ _ _ (by omega) _).mono ?_; rintro e w' ⟨rfl, rfl⟩)
  refine (CA.out _).mono ?_
  rintro e w1 ⟨rfl, hg1⟩
  have G1 : Hid _ := hg1
  clear hg1
  go_wp2_with fail
  refine (CF.out _).mono ?_
  rintro e w2 ⟨rfl, hg2⟩
  have G2 : Hid _ := hg2
  clear hg2
  go_wp2_with (first | (go_at_call 8; refine (inSpan _ _ _ _).mono ?_; rintro e w' ⟨rfl, rfl⟩))
  go_ret
  exact ⟨rfl, grown_trans G1.out G2.out⟩

set_option maxHeartbeats 1000000 in
theorem keeps1tf (lo hi key x : ByteArray) (hk : key.toList.isEmpty = false) (z0 : lo.size ≤ 65536) (z1 : hi.size ≤ 65536) (z2 : key.size ≤ 65536) (z3 : x.size ≤ 65536) (A B F G : ByteArray)
    (CA : Hid (∀ W : World, Calls Try.prog 6 #[.string lo, .string hi, .int .i64 1, .string key] W fun e w' => e = .returned (.tuple #[.string A, .string B, .int .i64 1]) ∧ Grown W w'))
    (CF : Hid (∀ W : World, Calls Try.prog 7 #[.string lo, .string hi, .int .i64 1, .string key] W fun e w' => e = .returned (.tuple #[.string F, .string G, .int .i64 1]) ∧ Grown W w'))
    (eS : inB lo hi x = true) (eO : onB 1 key x = false) (eP : pastB 1 key x = false) (eA : inB A B x = false) (eF : inB F G x = false) (w : World) :
    Calls Try.prog 3 #[.string lo, .string hi, .int .i64 1, .string key, .string x] w fun e w' => e = .returned (.bool true) ∧ Grown w w' := by
  go_enter Try.func3, Try.ntmps3
  go_wp2_with (go_at_call 5; refine (bytes4_yes _ _ _ _ _ (by omega) _).mono ?_; rintro e w' ⟨rfl, rfl⟩)
  refine (CA.out _).mono ?_
  rintro e w1 ⟨rfl, hg1⟩
  have G1 : Hid _ := hg1
  clear hg1
  go_wp2_with fail
  refine (CF.out _).mono ?_
  rintro e w2 ⟨rfl, hg2⟩
  have G2 : Hid _ := hg2
  clear hg2
  go_wp2_with (first | (go_at_call 8; refine (inSpan _ _ _ _).mono ?_; rintro e w' ⟨rfl, rfl⟩) | (go_at_call 9; refine (past _ _ _ _).mono ?_; rintro e w' ⟨rfl, rfl⟩) | (go_at_call 10; refine (fromOn _ _ _ _).mono ?_; rintro e w' ⟨rfl, rfl⟩))
  go_ret
  exact ⟨rfl, grown_trans G1.out G2.out⟩

set_option maxHeartbeats 1000000 in
theorem keeps1ttf (lo hi key x : ByteArray) (hk : key.toList.isEmpty = false) (z0 : lo.size ≤ 65536) (z1 : hi.size ≤ 65536) (z2 : key.size ≤ 65536) (z3 : x.size ≤ 65536) (A B F G : ByteArray)
    (CA : Hid (∀ W : World, Calls Try.prog 6 #[.string lo, .string hi, .int .i64 1, .string key] W fun e w' => e = .returned (.tuple #[.string A, .string B, .int .i64 1]) ∧ Grown W w'))
    (CF : Hid (∀ W : World, Calls Try.prog 7 #[.string lo, .string hi, .int .i64 1, .string key] W fun e w' => e = .returned (.tuple #[.string F, .string G, .int .i64 1]) ∧ Grown W w'))
    (eS : inB lo hi x = true) (eO : onB 1 key x = true) (eE : (x.toList == key.toList) = false) (eP : pastB 1 key x = true) (eA : inB A B x = true) (eF : inB F G x = true) (w : World) :
    Calls Try.prog 3 #[.string lo, .string hi, .int .i64 1, .string key, .string x] w fun e w' => e = .returned (.bool true) ∧ Grown w w' := by
  go_enter Try.func3, Try.ntmps3
  go_wp2_with (go_at_call 5; refine (bytes4_yes _ _ _ _ _ (by omega) _).mono ?_; rintro e w' ⟨rfl, rfl⟩)
  refine (CA.out _).mono ?_
  rintro e w1 ⟨rfl, hg1⟩
  have G1 : Hid _ := hg1
  clear hg1
  go_wp2_with fail
  refine (CF.out _).mono ?_
  rintro e w2 ⟨rfl, hg2⟩
  have G2 : Hid _ := hg2
  clear hg2
  go_wp2_with (first | (go_at_call 8; refine (inSpan _ _ _ _).mono ?_; rintro e w' ⟨rfl, rfl⟩) | (go_at_call 9; refine (past _ _ _ _).mono ?_; rintro e w' ⟨rfl, rfl⟩) | (go_at_call 10; refine (fromOn _ _ _ _).mono ?_; rintro e w' ⟨rfl, rfl⟩))
  go_ret
  exact ⟨rfl, grown_trans G1.out G2.out⟩

set_option maxHeartbeats 1000000 in
theorem keeps1ttt (lo hi key x : ByteArray) (hk : key.toList.isEmpty = false) (z0 : lo.size ≤ 65536) (z1 : hi.size ≤ 65536) (z2 : key.size ≤ 65536) (z3 : x.size ≤ 65536) (A B F G : ByteArray)
    (CA : Hid (∀ W : World, Calls Try.prog 6 #[.string lo, .string hi, .int .i64 1, .string key] W fun e w' => e = .returned (.tuple #[.string A, .string B, .int .i64 1]) ∧ Grown W w'))
    (CF : Hid (∀ W : World, Calls Try.prog 7 #[.string lo, .string hi, .int .i64 1, .string key] W fun e w' => e = .returned (.tuple #[.string F, .string G, .int .i64 1]) ∧ Grown W w'))
    (eS : inB lo hi x = true) (eO : onB 1 key x = true) (eE : (x.toList == key.toList) = true) (eP : pastB 1 key x = false) (eA : inB A B x = false) (eF : inB F G x = true) (w : World) :
    Calls Try.prog 3 #[.string lo, .string hi, .int .i64 1, .string key, .string x] w fun e w' => e = .returned (.bool true) ∧ Grown w w' := by
  go_enter Try.func3, Try.ntmps3
  go_wp2_with (go_at_call 5; refine (bytes4_yes _ _ _ _ _ (by omega) _).mono ?_; rintro e w' ⟨rfl, rfl⟩)
  refine (CA.out _).mono ?_
  rintro e w1 ⟨rfl, hg1⟩
  have G1 : Hid _ := hg1
  clear hg1
  go_wp2_with fail
  refine (CF.out _).mono ?_
  rintro e w2 ⟨rfl, hg2⟩
  have G2 : Hid _ := hg2
  clear hg2
  go_wp2_with (first | (go_at_call 8; refine (inSpan _ _ _ _).mono ?_; rintro e w' ⟨rfl, rfl⟩) | (go_at_call 9; refine (past _ _ _ _).mono ?_; rintro e w' ⟨rfl, rfl⟩) | (go_at_call 10; refine (fromOn _ _ _ _).mono ?_; rintro e w' ⟨rfl, rfl⟩))
  go_ret
  exact ⟨rfl, grown_trans G1.out G2.out⟩

theorem keeps1 (lo hi key x : ByteArray) (hk : key.toList.isEmpty = false) (z0 : lo.size ≤ 65536) (z1 : hi.size ≤ 65536) (z2 : key.size ≤ 65536) (z3 : x.size ≤ 65536) (w : World) :
    Calls Try.prog 3 #[.string lo, .string hi, .int .i64 1, .string key, .string x] w fun e w' => e = .returned (.bool true) ∧ Grown w w' := by
  have CA : Hid _ := fun W => zzAfter 1 (.inr rfl) lo hi key z2 W
  have CF : Hid _ := fun W => zzFrom 1 (.inr rfl) lo hi key z2 W
  have eA := in_after 1 lo hi key x (.inr ⟨rfl, hk⟩)
  have eF := in_from 1 lo hi key x (.inr ⟨rfl, hk⟩)
  have eP := past_on 1 key x
  cases eS : inB lo hi x
  · rw [eS, Bool.false_and] at eA eF
    exact keeps1f lo hi key x hk z0 z1 z2 z3 _ _ _ _ CA CF eS eA eF w
  · rw [eS, Bool.true_and] at eA eF
    cases eO : onB 1 key x
    · rw [eO, Bool.false_and] at eP
      rw [eP] at eA
      rw [eO] at eF
      exact keeps1tf lo hi key x hk z0 z1 z2 z3 _ _ _ _ CA CF eS eO eP eA eF w
    · rw [eO] at eF eP
      cases eE : (x.toList == key.toList)
      · rw [eE, Bool.not_false, Bool.and_self] at eP
        rw [eP] at eA
        exact keeps1ttf lo hi key x hk z0 z1 z2 z3 _ _ _ _ CA CF eS eO eE eP eA eF w
      · rw [eE, Bool.not_true, Bool.and_false] at eP
        rw [eP] at eA
        exact keeps1ttt lo hi key x hk z0 z1 z2 z3 _ _ _ _ CA CF eS eO eE eP eA eF w

end Go.Proofs.Qxb6608905a.span
