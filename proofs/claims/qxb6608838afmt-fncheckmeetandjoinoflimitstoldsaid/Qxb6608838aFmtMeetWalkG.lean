import Derived.Test.Qxb6608838aFmtMeetBase
namespace Go.Proofs.Qxb6608838aFmt.fnCheckMeetAndJoinOfLimits
open Go.RowKit Go.Extern.Stop Go.Stop Go.Extern

set_option maxHeartbeats 2000000 in
theorem walk_gg (a0 a1 a2 a3 : Int) (x0 : a2 < a0) (x1 : a3 < a1) (w : World) :
    Calls Tryf.prog 4 #[.int .i64 a0, .int .i64 a1, .int .i64 a2, .int .i64 a3] w fun e w' => e = .returned (.bool true) ∧ Grown w w' := by
  go_enter Tryf.func4, Tryf.ntmps4
  go_wp2_with fail
  refine (check_any _ _ _).mono ?_
  rintro e w1 ⟨v1, rfl, hv1, hq1, hb1, hg1⟩
  obtain ⟨hc1, hf1⟩ := bcell hb1
  have hs1 := hb1.size
  simp at hs1
  have m1 : w.heap.size + 1 < w1.heap.size := by omega
  have n1 : w.heap.size + 1 + 1 < w1.heap.size := by omega
  have o1 : w.heap.size + 1 + 1 + 1 < w1.heap.size := by omega
  have G1 : Hid _ := hg1
  clear hb1 hg1 hf1
  go_wp2_with fail
  refine (check_any _ _ _).mono ?_
  rintro e w2 ⟨v2, rfl, hv2, hq2, hb2, hg2⟩
  obtain ⟨hc2, hf2⟩ := bcell hb2
  have hs2 := hb2.size
  have m2 : w.heap.size + 1 < w2.heap.size := by omega
  have n2 : w.heap.size + 1 + 1 < w2.heap.size := by omega
  have o2 : w.heap.size + 1 + 1 + 1 < w2.heap.size := by omega
  have G2 : Hid _ := hg2
  clear hb2 hg2 hf2
  go_wp2_with fail
  refine (check_any _ _ _).mono ?_
  rintro e w3 ⟨v3, rfl, hv3, hq3, hb3, hg3⟩
  obtain ⟨hc3, hf3⟩ := bcell hb3
  have hs3 := hb3.size
  have m3 : w.heap.size + 1 < w3.heap.size := by omega
  have n3 : w.heap.size + 1 + 1 < w3.heap.size := by omega
  have o3 : w.heap.size + 1 + 1 + 1 < w3.heap.size := by omega
  have G3 : Hid _ := hg3
  clear hb3 hg3 hf3
  go_wp2_with fail
  refine (check_any _ _ _).mono ?_
  rintro e w4 ⟨v4, rfl, hv4, hq4, hb4, hg4⟩
  obtain ⟨hc4, hf4⟩ := bcell hb4
  have hs4 := hb4.size
  have m4 : w.heap.size + 1 < w4.heap.size := by omega
  have n4 : w.heap.size + 1 + 1 < w4.heap.size := by omega
  have o4 : w.heap.size + 1 + 1 + 1 < w4.heap.size := by omega
  have G4 : Hid _ := hg4
  clear hb4 hg4 hf4
  clear hv1 hv2 hv3 hq1 hq2 hq3 hc1 hc2 hc3 hc4 m1 m2 m3 m4 n1 n2 n3 n4 o1 o2 o3 o4
  go_wp2
  all_goals
    go_ret
    refine ⟨ret_bool rfl ?_, grown_trans (by repeat (first | exact Grown.refl _ | apply Grown.drew | apply Grown.alloc)) (grown_trans G1.out (grown_trans G2.out (grown_trans G3.out G4.out)))⟩
    clear G1 G2 G3 G4 hs1 hs2 hs3 hs4 hv4 hq4
    first
      | (exfalso; simp only [okB_true] at *; omega)
      | (simp_all [okB]; done)
      | (simp_all [okB]; omega)

set_option maxHeartbeats 2000000 in
theorem walk_gl (a0 a1 a2 a3 : Int) (x0 : a2 < a0) (x1 : a1 < a3) (w : World) :
    Calls Tryf.prog 4 #[.int .i64 a0, .int .i64 a1, .int .i64 a2, .int .i64 a3] w fun e w' => e = .returned (.bool true) ∧ Grown w w' := by
  go_enter Tryf.func4, Tryf.ntmps4
  go_wp2_with fail
  refine (check_any _ _ _).mono ?_
  rintro e w1 ⟨v1, rfl, hv1, hq1, hb1, hg1⟩
  obtain ⟨hc1, hf1⟩ := bcell hb1
  have hs1 := hb1.size
  simp at hs1
  have m1 : w.heap.size + 1 < w1.heap.size := by omega
  have n1 : w.heap.size + 1 + 1 < w1.heap.size := by omega
  have o1 : w.heap.size + 1 + 1 + 1 < w1.heap.size := by omega
  have G1 : Hid _ := hg1
  clear hb1 hg1 hf1
  go_wp2_with fail
  refine (check_any _ _ _).mono ?_
  rintro e w2 ⟨v2, rfl, hv2, hq2, hb2, hg2⟩
  obtain ⟨hc2, hf2⟩ := bcell hb2
  have hs2 := hb2.size
  have m2 : w.heap.size + 1 < w2.heap.size := by omega
  have n2 : w.heap.size + 1 + 1 < w2.heap.size := by omega
  have o2 : w.heap.size + 1 + 1 + 1 < w2.heap.size := by omega
  have G2 : Hid _ := hg2
  clear hb2 hg2 hf2
  go_wp2_with fail
  refine (check_any _ _ _).mono ?_
  rintro e w3 ⟨v3, rfl, hv3, hq3, hb3, hg3⟩
  obtain ⟨hc3, hf3⟩ := bcell hb3
  have hs3 := hb3.size
  have m3 : w.heap.size + 1 < w3.heap.size := by omega
  have n3 : w.heap.size + 1 + 1 < w3.heap.size := by omega
  have o3 : w.heap.size + 1 + 1 + 1 < w3.heap.size := by omega
  have G3 : Hid _ := hg3
  clear hb3 hg3 hf3
  go_wp2_with fail
  refine (check_any _ _ _).mono ?_
  rintro e w4 ⟨v4, rfl, hv4, hq4, hb4, hg4⟩
  obtain ⟨hc4, hf4⟩ := bcell hb4
  have hs4 := hb4.size
  have m4 : w.heap.size + 1 < w4.heap.size := by omega
  have n4 : w.heap.size + 1 + 1 < w4.heap.size := by omega
  have o4 : w.heap.size + 1 + 1 + 1 < w4.heap.size := by omega
  have G4 : Hid _ := hg4
  clear hb4 hg4 hf4
  clear hv1 hv2 hv3 hq1 hq2 hq3 hc1 hc2 hc3 hc4 m1 m2 m3 m4 n1 n2 n3 n4 o1 o2 o3 o4
  go_wp2
  all_goals
    go_ret
    refine ⟨ret_bool rfl ?_, grown_trans (by repeat (first | exact Grown.refl _ | apply Grown.drew | apply Grown.alloc)) (grown_trans G1.out (grown_trans G2.out (grown_trans G3.out G4.out)))⟩
    clear G1 G2 G3 G4 hs1 hs2 hs3 hs4 hv4 hq4
    first
      | (exfalso; simp only [okB_true] at *; omega)
      | (simp_all [okB]; done)
      | (simp_all [okB]; omega)

set_option maxHeartbeats 2000000 in
theorem walk_ge (a0 a1 a2 : Int) (x0 : a2 < a0) (w : World) :
    Calls Tryf.prog 4 #[.int .i64 a0, .int .i64 a1, .int .i64 a2, .int .i64 a1] w fun e w' => e = .returned (.bool true) ∧ Grown w w' := by
  go_enter Tryf.func4, Tryf.ntmps4
  go_wp2_with fail
  refine (check_any _ _ _).mono ?_
  rintro e w1 ⟨v1, rfl, hv1, hq1, hb1, hg1⟩
  obtain ⟨hc1, hf1⟩ := bcell hb1
  have hs1 := hb1.size
  simp at hs1
  have m1 : w.heap.size + 1 < w1.heap.size := by omega
  have n1 : w.heap.size + 1 + 1 < w1.heap.size := by omega
  have o1 : w.heap.size + 1 + 1 + 1 < w1.heap.size := by omega
  have G1 : Hid _ := hg1
  clear hb1 hg1 hf1
  go_wp2_with fail
  refine (check_any _ _ _).mono ?_
  rintro e w2 ⟨v2, rfl, hv2, hq2, hb2, hg2⟩
  obtain ⟨hc2, hf2⟩ := bcell hb2
  have hs2 := hb2.size
  have m2 : w.heap.size + 1 < w2.heap.size := by omega
  have n2 : w.heap.size + 1 + 1 < w2.heap.size := by omega
  have o2 : w.heap.size + 1 + 1 + 1 < w2.heap.size := by omega
  have G2 : Hid _ := hg2
  clear hb2 hg2 hf2
  go_wp2_with fail
  refine (check_any _ _ _).mono ?_
  rintro e w3 ⟨v3, rfl, hv3, hq3, hb3, hg3⟩
  obtain ⟨hc3, hf3⟩ := bcell hb3
  have hs3 := hb3.size
  have m3 : w.heap.size + 1 < w3.heap.size := by omega
  have n3 : w.heap.size + 1 + 1 < w3.heap.size := by omega
  have o3 : w.heap.size + 1 + 1 + 1 < w3.heap.size := by omega
  have G3 : Hid _ := hg3
  clear hb3 hg3 hf3
  go_wp2_with fail
  refine (check_any _ _ _).mono ?_
  rintro e w4 ⟨v4, rfl, hv4, hq4, hb4, hg4⟩
  obtain ⟨hc4, hf4⟩ := bcell hb4
  have hs4 := hb4.size
  have m4 : w.heap.size + 1 < w4.heap.size := by omega
  have n4 : w.heap.size + 1 + 1 < w4.heap.size := by omega
  have o4 : w.heap.size + 1 + 1 + 1 < w4.heap.size := by omega
  have G4 : Hid _ := hg4
  clear hb4 hg4 hf4
  clear hv1 hv2 hv3 hq1 hq2 hq3 hc1 hc2 hc3 hc4 m1 m2 m3 m4 n1 n2 n3 n4 o1 o2 o3 o4
  go_wp2
  all_goals
    go_ret
    refine ⟨ret_bool rfl ?_, grown_trans (by repeat (first | exact Grown.refl _ | apply Grown.drew | apply Grown.alloc)) (grown_trans G1.out (grown_trans G2.out (grown_trans G3.out G4.out)))⟩
    clear G1 G2 G3 G4 hs1 hs2 hs3 hs4 hv4 hq4
    first
      | (exfalso; simp only [okB_true] at *; omega)
      | (simp_all [okB]; done)
      | (simp_all [okB]; omega)

end Go.Proofs.Qxb6608838aFmt.fnCheckMeetAndJoinOfLimits
