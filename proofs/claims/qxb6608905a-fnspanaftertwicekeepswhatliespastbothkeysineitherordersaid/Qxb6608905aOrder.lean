/- The plain law: the order of strings, what the spans' two cuts keep. No Go in sight but the model's own 'bytesLess'. -/
import Derived.WalkKit
namespace Go.Proofs.Qxb6608905a.span

theorem lt_irrefl : ∀ a : List UInt8, Op.bytesLess a a = false
  | [] => rfl
  | a :: l => by simp [Op.bytesLess, lt_irrefl l]

theorem lt_trans : ∀ a b c : List UInt8, Op.bytesLess a b = true → Op.bytesLess b c = true → Op.bytesLess a c = true
  | _, _, [], _, h => by simp [Op.bytesLess] at h
  | [], _, _ :: _, _, _ => by simp [Op.bytesLess]
  | _ :: _, [], _ :: _, h, _ => by simp [Op.bytesLess] at h
  | a :: x, b :: y, c :: z, h, k => by
    simp only [Op.bytesLess, Bool.or_eq_true, decide_eq_true_eq, Bool.and_eq_true, beq_iff_eq] at h k ⊢
    rcases h with h | ⟨rfl, h⟩
    · rcases k with k | ⟨rfl, k⟩
      · exact .inl (by simp only [UInt8.lt_iff_toNat_lt] at *; omega)
      · exact .inl h
    · rcases k with k | ⟨rfl, k⟩
      · exact .inl k
      · exact .inr ⟨rfl, lt_trans x y z h k⟩

theorem lt_tri : ∀ a b : List UInt8, Op.bytesLess a b = true ∨ a = b ∨ Op.bytesLess b a = true
  | [], [] => .inr (.inl rfl)
  | [], _ :: _ => .inl (by simp [Op.bytesLess])
  | _ :: _, [] => .inr (.inr (by simp [Op.bytesLess]))
  | a :: x, b :: y => by
    simp only [Op.bytesLess, Bool.or_eq_true, decide_eq_true_eq, Bool.and_eq_true, beq_iff_eq, List.cons.injEq]
    by_cases h : a < b
    · exact .inl (.inl h)
    · by_cases k : b < a
      · exact .inr (.inr (.inl k))
      · have e : a = b := by
          apply UInt8.toNat_inj.1
          simp only [UInt8.lt_iff_toNat_lt] at *
          omega
        rcases lt_tri x y with t | t | t
        · exact .inl (.inr ⟨e, t⟩)
        · exact .inr (.inl ⟨e, t⟩)
        · exact .inr (.inr (.inr ⟨e.symm, t⟩))

/-- No string lies between k and k followed by a zero byte. -/
theorem lt_zero : ∀ x k : List UInt8, Op.bytesLess x (k ++ [0]) = (Op.bytesLess x k || x == k)
  | [], [] => by simp [Op.bytesLess]
  | [], _ :: _ => by simp [Op.bytesLess]
  | a :: x, [] => by
    have h : ¬ a < 0 := by simp only [UInt8.lt_iff_toNat_lt]; simp
    cases x <;> simp [Op.bytesLess, h]
  | a :: x, b :: y => by
    simp only [List.cons_append, Op.bytesLess, lt_zero x y]
    by_cases h : a = b
    · subst h
      simp
    · have e : (a == b) = false := by simpa using h
      have e2 : ((a :: x) == (b :: y)) = false := by simp [h]
      simp [e, e2]

/-- lt as a Prop order, in three facts. -/
theorem lt_asymm {a b : List UInt8} (h : Op.bytesLess a b = true) : Op.bytesLess b a = false := by
  cases k : Op.bytesLess b a with
  | false => rfl
  | true =>
    have := lt_trans a b a h k
    rw [lt_irrefl] at this
    cases this

theorem le_not (a b : List UInt8) : (Op.bytesLess a b || a == b) = !Op.bytesLess b a := by
  rcases lt_tri a b with h | rfl | h
  · simp [h, lt_asymm h]
  · simp [lt_irrefl]
  · have e : (a == b) = false := by
      rw [beq_eq_false_iff_ne]
      rintro rfl
      rw [lt_irrefl] at h
      cases h
    simp [h, lt_asymm h, e]

theorem lt_le_trans {a b c : List UInt8} (h : Op.bytesLess a b = true) (k : Op.bytesLess c b = false) : Op.bytesLess a c = true := by
  rcases lt_tri b c with t | rfl | t
  · exact lt_trans a b c h t
  · exact h
  · rw [t] at k; cases k

theorem le_lt_trans {a b c : List UInt8} (h : Op.bytesLess b a = false) (k : Op.bytesLess b c = true) : Op.bytesLess a c = true := by
  rcases lt_tri a b with t | rfl | t
  · exact lt_trans a b c t k
  · exact k
  · rw [t] at h; cases h

/-! ### what the functions compute -/
/-- Go's max at two strings. -/
def maxB (x y : ByteArray) : ByteArray := if Op.bytesLess x.toList y.toList = true then y else x
/-- zzInSpan -/
def inB (lo hi x : ByteArray) : Bool := (Op.bytesLess lo.toList x.toList || lo.toList == x.toList) && (hi.toList.isEmpty || Op.bytesLess x.toList hi.toList)
/-- zzPast -/
def pastB (d : Int) (key x : ByteArray) : Bool := if d = 0 then !Op.bytesLess x.toList key.toList && !(x.toList == key.toList) else Op.bytesLess x.toList key.toList
/-- zzFromOn -/
def onB (d : Int) (key x : ByteArray) : Bool := if d = 0 then !Op.bytesLess x.toList key.toList else (Op.bytesLess x.toList key.toList || x.toList == key.toList)
/-- span.from: the lower end -/
def frLo (d : Int) (lo key : ByteArray) : ByteArray := if key.toList.isEmpty = true then lo else if d = 0 then maxB lo key else lo
/-- span.from: the upper end -/
def frHi (d : Int) (hi key : ByteArray) : ByteArray := if key.toList.isEmpty = true then hi else if d = 0 then hi else if hi.toList.isEmpty = true ∨ Op.bytesLess key.toList hi.toList = true then key ++ ⟨#[0]⟩ else hi
/-- span.after: the lower end -/
def afLo (d : Int) (lo key : ByteArray) : ByteArray := if d = 0 then maxB lo (key ++ ⟨#[0]⟩) else lo
/-- span.after: the upper end -/
def afHi (d : Int) (hi key : ByteArray) : ByteArray := if d = 0 then hi else if hi.toList.isEmpty = true ∨ Op.bytesLess key.toList hi.toList = true then key else hi

theorem toList_zero (k : ByteArray) : (k ++ ⟨#[0]⟩).toList = k.toList ++ [0] := by
  rw [ByteArray.toList_eq, ByteArray.toList_eq]
  simp

theorem zero_nonempty (k : ByteArray) : (k ++ ⟨#[0]⟩).toList.isEmpty = false := by
  rw [toList_zero]
  simp

theorem not_lt_max (lo k x : ByteArray) : (!Op.bytesLess x.toList (maxB lo k).toList) = (!Op.bytesLess x.toList lo.toList && !Op.bytesLess x.toList k.toList) := by
  unfold maxB
  by_cases h : Op.bytesLess lo.toList k.toList = true
  · rw [if_pos h]
    cases t : Op.bytesLess x.toList lo.toList with
    | false => simp
    | true => simp [lt_trans _ _ _ t h]
  · rw [if_neg h]
    have h' : Op.bytesLess lo.toList k.toList = false := by simpa using h
    cases t : Op.bytesLess x.toList k.toList with
    | false => simp
    | true => simp [lt_le_trans t h']

theorem in_max (lo hi k x : ByteArray) : inB (maxB lo k) hi x = (inB lo hi x && !Op.bytesLess x.toList k.toList) := by
  unfold inB
  rw [le_not, le_not, not_lt_max]
  cases Op.bytesLess x.toList lo.toList <;> cases Op.bytesLess x.toList k.toList <;> simp

theorem past_eq (x k : List UInt8) : (!Op.bytesLess x k && !(x == k)) = !Op.bytesLess x (k ++ [0]) := by
  rw [lt_zero]
  simp

theorem in_after (d : Int) (lo hi key x : ByteArray) (hd : d = 0 ∨ d = 1 ∧ key.toList.isEmpty = false) :
    inB (afLo d lo key) (afHi d hi key) x = (inB lo hi x && pastB d key x) := by
  rcases hd with rfl | ⟨rfl, hk⟩
  · simp only [afLo, afHi, pastB, if_true]
    rw [in_max, past_eq, toList_zero]
  · simp only [afLo, afHi, pastB, if_neg (by decide : ¬ (1 : Int) = 0)]
    unfold inB
    rw [Bool.and_assoc]
    congr 1
    by_cases h : hi.toList.isEmpty = true ∨ Op.bytesLess key.toList hi.toList = true
    · rw [if_pos h, hk]
      rcases h with h | h
      · simp [h]
      · cases t : Op.bytesLess x.toList key.toList with
        | false => simp
        | true => simp [lt_trans _ _ _ t h]
    · rw [if_neg h]
      have h1 : hi.toList.isEmpty = false := by
        cases e : hi.toList.isEmpty with
        | false => rfl
        | true => exact absurd (.inl e) h
      have h2 : Op.bytesLess key.toList hi.toList = false := by
        cases e : Op.bytesLess key.toList hi.toList with
        | false => rfl
        | true => exact absurd (.inr e) h
      rw [h1]
      cases t : Op.bytesLess x.toList hi.toList with
      | false => simp
      | true => simp [lt_le_trans t h2]

theorem lt_empty (x k : List UInt8) (h : k.isEmpty = true) : Op.bytesLess x k = false := by
  cases k with
  | nil => cases x <;> rfl
  | cons a l => cases h

theorem in_from (d : Int) (lo hi key x : ByteArray) (hd : d = 0 ∨ d = 1 ∧ key.toList.isEmpty = false) :
    inB (frLo d lo key) (frHi d hi key) x = (inB lo hi x && onB d key x) := by
  rcases hd with rfl | ⟨rfl, hk⟩
  · by_cases he : key.toList.isEmpty = true
    · simp only [frLo, frHi, onB, if_pos he, if_true]
      rw [lt_empty _ _ he]
      simp
    · simp only [frLo, frHi, onB, if_neg he, if_true]
      rw [in_max]
  · have he : ¬ key.toList.isEmpty = true := by simp [hk]
    simp only [frLo, frHi, onB, if_neg (by decide : ¬ (1 : Int) = 0), if_neg he]
    unfold inB
    rw [Bool.and_assoc]
    congr 1
    by_cases h : hi.toList.isEmpty = true ∨ Op.bytesLess key.toList hi.toList = true
    · rw [if_pos h, zero_nonempty, toList_zero, lt_zero, le_not]
      rcases h with h | h
      · simp [h]
      · cases t : Op.bytesLess key.toList x.toList with
        | true => simp
        | false => simp [le_lt_trans t h]
    · rw [if_neg h, le_not]
      have h1 : hi.toList.isEmpty = false := by
        cases e : hi.toList.isEmpty with
        | false => rfl
        | true => exact absurd (.inl e) h
      have h2 : Op.bytesLess key.toList hi.toList = false := by
        cases e : Op.bytesLess key.toList hi.toList with
        | false => rfl
        | true => exact absurd (.inr e) h
      rw [h1]
      cases t : Op.bytesLess x.toList hi.toList with
      | false => simp
      | true => simp [lt_asymm (lt_le_trans t h2)]

theorem past_on (d : Int) (key x : ByteArray) : pastB d key x = (onB d key x && !(x.toList == key.toList)) := by
  unfold pastB onB
  by_cases hd : d = 0
  · simp [hd]
  · simp only [if_neg hd]
    rcases lt_tri x.toList key.toList with h | h | h
    · have e : (x.toList == key.toList) = false := by
        rw [beq_eq_false_iff_ne]
        intro e
        rw [e, lt_irrefl] at h
        cases h
      simp [h, e]
    · simp [h, lt_irrefl]
    · simp [lt_asymm h]

end Go.Proofs.Qxb6608905a.span
