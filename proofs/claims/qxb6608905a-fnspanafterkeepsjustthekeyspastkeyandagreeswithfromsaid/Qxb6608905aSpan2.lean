import Derived.Test.Qxb6608905aSpan
namespace Go.Proofs.Qxb6608905a.span
open Go.RowKit

/-! ### span.after -/
set_option maxHeartbeats 400000 in
theorem after_asc (lo hi key : ByteArray) (hk : key.size ≤ 65536) (w : World) :
    Calls Try.prog 12 #[.agg #[.string lo, .string hi, .int .i64 0], .string key] w fun e w' => e = .returned (.agg #[.string (maxB lo (key ++ ⟨#[0]⟩)), .string hi, .int .i64 0]) ∧ Grown w w' := by
  have hz := zero_nonempty key
  go_enter Try.func12, Try.ntmps12
  go_wp2_with fail
  refine (from_asc _ _ _ hz _).mono ?_
  rintro e w' ⟨rfl, rfl⟩
  go_wp2
  exact bodyPost_ret (v := .agg #[.string (maxB lo (key ++ ⟨#[0]⟩)), .string hi, .int .i64 0]) (by simp [results, Try.results12, go_sem]) rfl ⟨rfl, by repeat (first | exact Grown.refl _ | apply Grown.drew | apply Grown.alloc)⟩

set_option maxHeartbeats 400000 in
theorem after_cut (lo hi key : ByteArray) (hc : hi.toList.isEmpty = true ∨ Op.bytesLess key.toList hi.toList = true) (w : World) :
    Calls Try.prog 12 #[.agg #[.string lo, .string hi, .int .i64 1], .string key] w fun e w' => e = .returned (.agg #[.string lo, .string key, .int .i64 1]) ∧ Grown w w' := by
  cases he : hi.toList.isEmpty
  · have hl : Op.bytesLess key.toList hi.toList = true := by
      rcases hc with hc | hc
      · rw [he] at hc; cases hc
      · exact hc
    clear hc
    go_enter Try.func12, Try.ntmps12
    go_wp2
    exact bodyPost_ret (v := .agg #[.string lo, .string key, .int .i64 1]) (by simp [results, Try.results12, go_sem]) rfl ⟨rfl, by repeat (first | exact Grown.refl _ | apply Grown.drew | apply Grown.alloc)⟩
  · clear hc
    go_enter Try.func12, Try.ntmps12
    go_wp2
    exact bodyPost_ret (v := .agg #[.string lo, .string key, .int .i64 1]) (by simp [results, Try.results12, go_sem]) rfl ⟨rfl, by repeat (first | exact Grown.refl _ | apply Grown.drew | apply Grown.alloc)⟩

set_option maxHeartbeats 400000 in
theorem after_keep (lo hi key : ByteArray) (he : hi.toList.isEmpty = false) (hl : Op.bytesLess key.toList hi.toList = false) (w : World) :
    Calls Try.prog 12 #[.agg #[.string lo, .string hi, .int .i64 1], .string key] w fun e w' => e = .returned (.agg #[.string lo, .string hi, .int .i64 1]) ∧ Grown w w' := by
  go_enter Try.func12, Try.ntmps12
  go_wp2
  exact bodyPost_ret (v := .agg #[.string lo, .string hi, .int .i64 1]) (by simp [results, Try.results12, go_sem]) rfl ⟨rfl, by repeat (first | exact Grown.refl _ | apply Grown.drew | apply Grown.alloc)⟩

theorem after_any (d : Int) (hd : d = 0 ∨ d = 1) (lo hi key : ByteArray) (hk : key.size ≤ 65536) (w : World) :
    Calls Try.prog 12 #[.agg #[.string lo, .string hi, .int .i64 d], .string key] w fun e w' => e = .returned (.agg #[.string (afLo d lo key), .string (afHi d hi key), .int .i64 d]) ∧ Grown w w' := by
  rcases hd with rfl | rfl
  · simp only [afLo, afHi, if_true]
    exact after_asc lo hi key hk w
  · simp only [afLo, afHi, if_neg (by decide : ¬ (1 : Int) = 0)]
    by_cases hc : hi.toList.isEmpty = true ∨ Op.bytesLess key.toList hi.toList = true
    · simp only [if_pos hc]
      exact after_cut lo hi key hc w
    · simp only [if_neg hc]
      exact after_keep lo hi key (not_cut hc).1 (not_cut hc).2 w

theorem grown_trans {a b c : World} (h : Grown a b) (k : Grown b c) : Grown a c :=
  ⟨World.keptBut_trans h.1 k.1, fun x => (k.2.1 x).trans (h.2.1 x), Nat.le_trans h.2.2 k.2.2⟩

theorem grown_drewN {a b : World} (h : Grown a b) : ∀ n, Grown a (b.drewN n)
  | 0 => h
  | n + 1 => grown_drewN (b := b.drew) h.drew n

/-! ### ZZspanAfter, ZZspanFrom -/
set_option maxHeartbeats 400000 in
theorem zzAfter (d : Int) (hd : d = 0 ∨ d = 1) (lo hi key : ByteArray) (hk : key.size ≤ 65536) (w : World) :
    Calls Try.prog 6 #[.string lo, .string hi, .int .i64 d, .string key] w fun e w' => e = .returned (.tuple #[.string (afLo d lo key), .string (afHi d hi key), .int .i64 d]) ∧ Grown w w' := by
  obtain ⟨A, hA⟩ : ∃ A, A = afLo d lo key := ⟨_, rfl⟩
  obtain ⟨B, hB⟩ : ∃ B, B = afHi d hi key := ⟨_, rfl⟩
  have C := fun W => after_any d hd lo hi key hk W
  rw [← hA, ← hB] at C
  rw [← hA, ← hB]
  have HC : Hid _ := C
  clear C hA hB hd hk
  go_enter Try.func6, Try.ntmps6
  go_wp2_with fail
  refine (HC.out _).mono ?_
  rintro e w1 ⟨rfl, hg1⟩
  have G1 : Hid (Grown w w1) := hg1
  clear hg1
  clear HC
  go_wp2
  go_quiet (fail)
  go_wp2
  go_ret3
  exact ⟨rfl, grown_drewN (G1.out.alloc _ _) _⟩

set_option maxHeartbeats 400000 in
theorem zzFrom (d : Int) (hd : d = 0 ∨ d = 1) (lo hi key : ByteArray) (hk : key.size ≤ 65536) (w : World) :
    Calls Try.prog 7 #[.string lo, .string hi, .int .i64 d, .string key] w fun e w' => e = .returned (.tuple #[.string (frLo d lo key), .string (frHi d hi key), .int .i64 d]) ∧ Grown w w' := by
  obtain ⟨A, hA⟩ : ∃ A, A = frLo d lo key := ⟨_, rfl⟩
  obtain ⟨B, hB⟩ : ∃ B, B = frHi d hi key := ⟨_, rfl⟩
  have C := fun W => from_any d hd lo hi key (by omega) W
  rw [← hA, ← hB] at C
  rw [← hA, ← hB]
  have HC : Hid _ := C
  clear C hA hB hd hk
  go_enter Try.func7, Try.ntmps7
  go_wp2_with fail
  refine (HC.out _).mono ?_
  rintro e w1 ⟨rfl, hw1⟩
  have G1 : Hid (Grown w w1) := by rw [hw1]; exact ((Grown.refl _).alloc _ _).alloc _ _
  clear hw1
  clear HC
  go_wp2
  go_quiet (fail)
  go_wp2
  go_ret3
  exact ⟨rfl, grown_drewN (G1.out.alloc _ _) _⟩

end Go.Proofs.Qxb6608905a.span
