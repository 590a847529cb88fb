import Derived.Test.Qxb6608838aFmtErr
namespace Go.Proofs.Qxb6608838aFmt.fnCheckMeetAndJoinOfLimits
open Go.RowKit Go.Extern.Stop Go.Stop Go.Extern

/-- Do these limits pass Check? -/
def okB (a b : Int) : Bool := decide (1 ≤ a ∧ 0 ≤ b)

theorem okB_true {a b : Int} : okB a b = true ↔ 1 ≤ a ∧ 0 ≤ b := by simp [okB]
theorem okB_false {a b : Int} : okB a b = false ↔ ¬ (1 ≤ a ∧ 0 ≤ b) := by simp [okB]

theorem grown_trans {a b c : World} (h : Grown a b) (k : Grown b c) : Grown a c :=
  ⟨World.keptBut_trans h.1 k.1, fun x => (k.2.1 x).trans (h.2.1 x), Nat.le_trans h.2.2 k.2.2⟩

theorem bcell {W w1 : World} (hb : Below W.heap.size W w1) : (∀ b o, b < W.heap.size → w1.cell? ⟨b, o, none⟩ = W.cell? ⟨b, o, none⟩) ∧ (∀ b o, b < W.heap.size → w1.frozen? ⟨b, o, none⟩ = W.frozen? ⟨b, o, none⟩) :=
  ⟨fun b o h => hb.cell (p := ⟨b, o, none⟩) h, fun b o h => hb.frozen (p := ⟨b, o, none⟩) h⟩

/-- Limits.Check, both ways under one contract. -/
theorem check_any (a b : Int) (w : World) :
    Calls Tryf.prog 5 #[.agg #[.int .i64 a, .int .i64 b]] w fun e w' => ∃ v : Value, e = .returned v ∧ (∀ W : World, (binOp .eql 25 v .nilIface).run Tryf.prog W = .ok (.bool (okB a b)) W) ∧ (∀ (W : World) (o : Operand), (eqGuard .eql 25 o (.const .nilIface) v .nilIface).run Tryf.prog W = .ok () W) ∧ Below w.heap.size w w' ∧ Grown w w' := by
  by_cases h : 1 ≤ a ∧ 0 ≤ b
  · refine (err.check_ok a b h.1 h.2 w).mono ?_
    rintro e w' ⟨rfl, rfl⟩
    refine ⟨_, rfl, fun W => ?_, fun W o => by cases o <;> rfl, (Below.refl _ _).alloc (Nat.le_refl _) _, (Grown.refl _).alloc _ _⟩
    rw [okB_true.2 h]
    go_simp
  · refine (err.check_err a b (by omega) w).mono ?_
    rintro e w' ⟨rfl, c, t, rfl⟩
    refine ⟨_, rfl, fun W => ?_, fun W o => rfl, ?_, (((((Grown.refl _).alloc _ _).alloc _ _).alloc _ _).drew)⟩
    · rw [okB_false.2 h]
      go_simp
    · exact ((((Below.refl _ _).alloc (Nat.le_refl _) _).alloc (by simp) _).alloc (by simp; omega) _).drew

theorem ret_bool {v : Value} {b : Bool} (h : v = .bool b) (hb : b = true) : Ending.returned v = .returned (.bool true) := by rw [h, hb]

end Go.Proofs.Qxb6608838aFmt.fnCheckMeetAndJoinOfLimits
