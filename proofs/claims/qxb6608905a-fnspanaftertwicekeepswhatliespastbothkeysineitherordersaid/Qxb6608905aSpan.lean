import Derived.Test.Qxb6608905aRows
import Derived.Test.Qxb6608905aOrder
import Derived.WalkKit
import Derived.WalkLawsBesides
import Derived.Deep.QuietTactic
import Derived.BigQuiet
namespace Go.Proofs.Qxb6608905a.span
open Go.RowKit

@[go_sem] theorem run_max_strs {P : Program} (w : World) (ts : Array TypeId) (t : TypeId) (x y : ByteArray) : (Builtin.max_ ts t #[.string x, .string y]).run P w = .ok (.string (maxB x y)) w := by
  by_cases h : Op.bytesLess x.toList y.toList = true <;> simp [Builtin.max_, Builtin.max2, Op.stringOp, asBool, maxB, h]

theorem ret_bool {a b : Bool} (h : a = b) : Ending.returned (.bool a) = .returned (.bool b) := by rw [h]

/-! ### zzInSpan, zzPast, zzFromOn -/
set_option maxHeartbeats 400000 in
theorem inSpan (lo hi x : ByteArray) (w : World) :
    Calls Try.prog 8 #[.string lo, .string hi, .string x] w fun e w' => e = .returned (.bool (inB lo hi x)) ∧ w' = w := by
  unfold inB
  cases h1 : (Op.bytesLess lo.toList x.toList || lo.toList == x.toList)
  · go_enter Try.func8, Try.ntmps8
    go_wp2
    go_ret
    exact ⟨rfl, rfl⟩
  · cases h2 : hi.toList.isEmpty
    · go_enter Try.func8, Try.ntmps8
      go_wp2
      go_ret
      exact ⟨rfl, rfl⟩
    · go_enter Try.func8, Try.ntmps8
      go_wp2
      go_ret
      exact ⟨rfl, rfl⟩

set_option maxHeartbeats 400000 in
theorem past (d : Int) (key x : ByteArray) (w : World) :
    Calls Try.prog 9 #[.int .i64 d, .string key, .string x] w fun e w' => e = .returned (.bool (pastB d key x)) ∧ w' = w := by
  unfold pastB
  by_cases h : d = 0
  · subst h
    rw [if_pos rfl]
    go_enter Try.func9, Try.ntmps9
    go_wp2
    go_ret
    exact ⟨rfl, rfl⟩
  · rw [if_neg h]
    have h' : (d == 0) = false := by simpa using h
    go_enter Try.func9, Try.ntmps9
    go_wp2
    go_ret
    exact ⟨rfl, rfl⟩

set_option maxHeartbeats 400000 in
theorem fromOn (d : Int) (key x : ByteArray) (w : World) :
    Calls Try.prog 10 #[.int .i64 d, .string key, .string x] w fun e w' => e = .returned (.bool (onB d key x)) ∧ w' = w := by
  unfold onB
  by_cases h : d = 0
  · subst h
    rw [if_pos rfl]
    go_enter Try.func10, Try.ntmps10
    go_wp2
    go_ret
    exact ⟨rfl, rfl⟩
  · rw [if_neg h]
    have h' : (d == 0) = false := by simpa using h
    go_enter Try.func10, Try.ntmps10
    go_wp2
    go_ret
    exact ⟨rfl, rfl⟩

/-! ### span.from -/
set_option maxHeartbeats 400000 in
theorem from_empty (lo hi key : ByteArray) (d : Int) (h : key.toList.isEmpty = true) (w : World) :
    Calls Try.prog 13 #[.agg #[.string lo, .string hi, .int .i64 d], .string key] w fun e w' => e = .returned (.agg #[.string lo, .string hi, .int .i64 d]) ∧
      w' = (w.alloc (.cells #[.string lo, .string hi, .int .i64 d] 30)).alloc (.cells #[.string lo, .string hi, .int .i64 d] 30) := by
  go_enter Try.func13, Try.ntmps13
  go_wp2
  exact bodyPost_ret (v := .agg #[.string lo, .string hi, .int .i64 d]) (by simp [results, Try.results13, go_sem]) rfl ⟨rfl, rfl⟩

set_option maxHeartbeats 400000 in
theorem from_asc (lo hi key : ByteArray) (h : key.toList.isEmpty = false) (w : World) :
    Calls Try.prog 13 #[.agg #[.string lo, .string hi, .int .i64 0], .string key] w fun e w' => e = .returned (.agg #[.string (maxB lo key), .string hi, .int .i64 0]) ∧
      w' = (w.alloc (.cells #[.string (maxB lo key), .string hi, .int .i64 0] 30)).alloc (.cells #[.string (maxB lo key), .string hi, .int .i64 0] 30) := by
  go_enter Try.func13, Try.ntmps13
  go_wp2
  exact bodyPost_ret (v := .agg #[.string (maxB lo key), .string hi, .int .i64 0]) (by simp [results, Try.results13, go_sem]) rfl ⟨rfl, rfl⟩

set_option maxHeartbeats 400000 in
theorem from_cut (lo hi key : ByteArray) (h : key.toList.isEmpty = false) (hk : key.size ≤ 65537) (hc : hi.toList.isEmpty = true ∨ Op.bytesLess key.toList hi.toList = true) (w : World) :
    Calls Try.prog 13 #[.agg #[.string lo, .string hi, .int .i64 1], .string key] w fun e w' => e = .returned (.agg #[.string lo, .string (key ++ ⟨#[0]⟩), .int .i64 1]) ∧
      w' = (w.alloc (.cells #[.string lo, .string (key ++ ⟨#[0]⟩), .int .i64 1] 30)).alloc (.cells #[.string lo, .string (key ++ ⟨#[0]⟩), .int .i64 1] 30) := by
  cases he : hi.toList.isEmpty
  · have hl : Op.bytesLess key.toList hi.toList = true := by
      rcases hc with hc | hc
      · rw [he] at hc; cases hc
      · exact hc
    clear hc
    go_enter Try.func13, Try.ntmps13
    go_wp2
    exact bodyPost_ret (v := .agg #[.string lo, .string (key ++ ⟨#[0]⟩), .int .i64 1]) (by simp [results, Try.results13, go_sem]) rfl ⟨rfl, rfl⟩
  · clear hc
    go_enter Try.func13, Try.ntmps13
    go_wp2
    exact bodyPost_ret (v := .agg #[.string lo, .string (key ++ ⟨#[0]⟩), .int .i64 1]) (by simp [results, Try.results13, go_sem]) rfl ⟨rfl, rfl⟩

set_option maxHeartbeats 400000 in
theorem from_keep (lo hi key : ByteArray) (h : key.toList.isEmpty = false) (he : hi.toList.isEmpty = false) (hl : Op.bytesLess key.toList hi.toList = false) (w : World) :
    Calls Try.prog 13 #[.agg #[.string lo, .string hi, .int .i64 1], .string key] w fun e w' => e = .returned (.agg #[.string lo, .string hi, .int .i64 1]) ∧
      w' = (w.alloc (.cells #[.string lo, .string hi, .int .i64 1] 30)).alloc (.cells #[.string lo, .string hi, .int .i64 1] 30) := by
  go_enter Try.func13, Try.ntmps13
  go_wp2
  exact bodyPost_ret (v := .agg #[.string lo, .string hi, .int .i64 1]) (by simp [results, Try.results13, go_sem]) rfl ⟨rfl, rfl⟩

theorem not_cut {hi key : ByteArray} (hc : ¬ (hi.toList.isEmpty = true ∨ Op.bytesLess key.toList hi.toList = true)) : hi.toList.isEmpty = false ∧ Op.bytesLess key.toList hi.toList = false := by
  constructor
  · cases e : hi.toList.isEmpty with
    | false => rfl
    | true => exact absurd (.inl e) hc
  · cases e : Op.bytesLess key.toList hi.toList with
    | false => rfl
    | true => exact absurd (.inr e) hc

theorem from_any (d : Int) (hd : d = 0 ∨ d = 1) (lo hi key : ByteArray) (hk : key.size ≤ 65537) (w : World) :
    Calls Try.prog 13 #[.agg #[.string lo, .string hi, .int .i64 d], .string key] w fun e w' => e = .returned (.agg #[.string (frLo d lo key), .string (frHi d hi key), .int .i64 d]) ∧
      w' = (w.alloc (.cells #[.string (frLo d lo key), .string (frHi d hi key), .int .i64 d] 30)).alloc (.cells #[.string (frLo d lo key), .string (frHi d hi key), .int .i64 d] 30) := by
  by_cases h : key.toList.isEmpty = true
  · simp only [frLo, frHi, if_pos h]
    exact from_empty lo hi key d h w
  · have h' : key.toList.isEmpty = false := by simpa using h
    rcases hd with rfl | rfl
    · simp only [frLo, frHi, if_neg h, if_true]
      exact from_asc lo hi key h' w
    · simp only [frLo, frHi, if_neg h, if_neg (by decide : ¬ (1 : Int) = 0)]
      by_cases hc : hi.toList.isEmpty = true ∨ Op.bytesLess key.toList hi.toList = true
      · simp only [if_pos hc]
        exact from_cut lo hi key h' hk hc w
      · simp only [if_neg hc]
        exact from_keep lo hi key h' (not_cut hc).1 (not_cut hc).2 w

end Go.Proofs.Qxb6608905a.span
