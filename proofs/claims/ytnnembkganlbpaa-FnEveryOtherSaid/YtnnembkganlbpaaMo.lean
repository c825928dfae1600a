/- What a script over one tree answers: a tree is a sorted list. Plain lists. -/
import Derived.Test.YtnnembkganlbpaaTx
namespace Go.Bt
structure Sop where
  kind : Int
  tree : Int
  key : Int
  to : Int
  val : Int
  cnt : Int
structure An where
  ok : Bool
  n : Int
  items : List It
def Sop.it (o : Sop) : It := ⟨o.key, o.val⟩
def Sop.it2 (o : Sop) : It := ⟨o.to, 0⟩
def oneA (o : Option It) : An := ⟨o.isSome, 0, o.toList⟩
/-- what a walk goes over -/
def rangeL (o : Sop) (l : List It) : List It :=
  if o.kind = 9 then sel none none l else if o.kind = 10 then sel (some o.it) none l else if o.kind = 11 then sel none (some o.it) l else if o.kind = 12 then sel (some o.it) (some o.it2) l
  else if o.kind = 13 then selD none none l.reverse else if o.kind = 14 then selD (some o.it) none l.reverse else if o.kind = 15 then selD none (some o.it) l.reverse else if o.kind = 16 then selD (some o.it) (some o.it2) l.reverse
  else []
def walkL (o : Sop) (l : List It) : List It := (feed o.cnt [] (rangeL o l)).1
def stepL (l : List It) (o : Sop) : List It × An :=
  if o.kind = 0 then (put l o.it, oneA (get l o.key)) else if o.kind = 1 then (l, oneA (get l o.key)) else if o.kind = 2 then (l, ⟨(get l o.key).isSome, 0, []⟩)
  else if o.kind = 3 then (rem l o.key, oneA (get l o.key)) else if o.kind = 4 then (l, oneA l.head?) else if o.kind = 5 then (l, oneA l.getLast?)
  else if o.kind = 6 then (l.tail, oneA l.head?) else if o.kind = 7 then (l.dropLast, oneA l.getLast?) else if o.kind = 8 then (l, ⟨false, l.length, []⟩)
  else if o.kind = 18 then ([], ⟨false, 0, []⟩) else (l, ⟨false, 0, walkL o l⟩)
def runL : List It → List Sop → List An
  | _, [] => []
  | l, o :: os => (stepL l o).2 :: runL (stepL l o).1 os
def afterL : List It → List Sop → List It
  | l, [] => l
  | l, o :: os => afterL (stepL l o).1 os
theorem run_append (a b : List Sop) : ∀ l, runL l (a ++ b) = runL l a ++ runL (afterL l a) b := by
  induction a with
  | nil => intro l; rfl
  | cons o a ih => intro l; exact congrArg ((stepL l o).2 :: ·) (ih (stepL l o).1)
theorem after_append (a b : List Sop) : ∀ l, afterL l (a ++ b) = afterL (afterL l a) b := by
  induction a with
  | nil => intro l; rfl
  | cons o a ih => intro l; exact ih _
theorem run_length (a : List Sop) : ∀ l, (runL l a).length = a.length := by
  induction a with
  | nil => intro l; rfl
  | cons o a ih => intro l; show (runL _ a).length + 1 = a.length + 1; rw [ih]
theorem step_0 {l : List It} {o : Sop} (h : o.kind = 0) : stepL l o = (put l o.it, oneA (get l o.key)) := by simp [stepL, h]
theorem step_1 {l : List It} {o : Sop} (h : o.kind = 1) : stepL l o = (l, oneA (get l o.key)) := by simp [stepL, h]
theorem step_2 {l : List It} {o : Sop} (h : o.kind = 2) : stepL l o = (l, ⟨(get l o.key).isSome, 0, []⟩) := by simp [stepL, h]
theorem step_3 {l : List It} {o : Sop} (h : o.kind = 3) : stepL l o = (rem l o.key, oneA (get l o.key)) := by simp [stepL, h]
theorem step_4 {l : List It} {o : Sop} (h : o.kind = 4) : stepL l o = (l, oneA l.head?) := by simp [stepL, h]
theorem step_5 {l : List It} {o : Sop} (h : o.kind = 5) : stepL l o = (l, oneA l.getLast?) := by simp [stepL, h]
theorem step_6 {l : List It} {o : Sop} (h : o.kind = 6) : stepL l o = (l.tail, oneA l.head?) := by simp [stepL, h]
theorem step_7 {l : List It} {o : Sop} (h : o.kind = 7) : stepL l o = (l.dropLast, oneA l.getLast?) := by simp [stepL, h]
theorem step_8 {l : List It} {o : Sop} (h : o.kind = 8) : stepL l o = (l, ⟨false, l.length, []⟩) := by simp [stepL, h]
theorem step_9 {l : List It} {o : Sop} (h : o.kind = 9) : stepL l o = (l, ⟨false, 0, (feed o.cnt [] (sel none none l)).1⟩) := by simp [stepL, walkL, rangeL, h]
theorem step_10 {l : List It} {o : Sop} (h : o.kind = 10) : stepL l o = (l, ⟨false, 0, (feed o.cnt [] (sel (some o.it) none l)).1⟩) := by simp [stepL, walkL, rangeL, h]
theorem step_11 {l : List It} {o : Sop} (h : o.kind = 11) : stepL l o = (l, ⟨false, 0, (feed o.cnt [] (sel none (some o.it) l)).1⟩) := by simp [stepL, walkL, rangeL, h]
theorem step_12 {l : List It} {o : Sop} (h : o.kind = 12) : stepL l o = (l, ⟨false, 0, (feed o.cnt [] (sel (some o.it) (some o.it2) l)).1⟩) := by simp [stepL, walkL, rangeL, h]
theorem step_13 {l : List It} {o : Sop} (h : o.kind = 13) : stepL l o = (l, ⟨false, 0, (feed o.cnt [] (selD none none l.reverse)).1⟩) := by simp [stepL, walkL, rangeL, h]
theorem step_14 {l : List It} {o : Sop} (h : o.kind = 14) : stepL l o = (l, ⟨false, 0, (feed o.cnt [] (selD (some o.it) none l.reverse)).1⟩) := by simp [stepL, walkL, rangeL, h]
theorem step_15 {l : List It} {o : Sop} (h : o.kind = 15) : stepL l o = (l, ⟨false, 0, (feed o.cnt [] (selD none (some o.it) l.reverse)).1⟩) := by simp [stepL, walkL, rangeL, h]
theorem step_16 {l : List It} {o : Sop} (h : o.kind = 16) : stepL l o = (l, ⟨false, 0, (feed o.cnt [] (selD (some o.it) (some o.it2) l.reverse)).1⟩) := by simp [stepL, walkL, rangeL, h]
theorem step_18 {l : List It} {o : Sop} (h : o.kind = 18) : stepL l o = ([], ⟨false, 0, []⟩) := by simp [stepL, h]
theorem step_no {l : List It} {o : Sop} (h0 : o.kind ≠ 0) (h1 : o.kind ≠ 1) (h2 : o.kind ≠ 2) (h3 : o.kind ≠ 3) (h4 : o.kind ≠ 4) (h5 : o.kind ≠ 5) (h6 : o.kind ≠ 6) (h7 : o.kind ≠ 7) (h8 : o.kind ≠ 8) (h9 : o.kind ≠ 9)
    (h10 : o.kind ≠ 10) (h11 : o.kind ≠ 11) (h12 : o.kind ≠ 12) (h13 : o.kind ≠ 13) (h14 : o.kind ≠ 14) (h15 : o.kind ≠ 15) (h16 : o.kind ≠ 16) (h18 : o.kind ≠ 18) : stepL l o = (l, ⟨false, 0, []⟩) := by
  simp [stepL, walkL, rangeL, h0, h1, h2, h3, h4, h5, h6, h7, h8, h9, h10, h11, h12, h13, h14, h15, h16, h18, feed]
theorem walk_le (o : Sop) (l : List It) : (walkL o l).length ≤ l.length := by
  have h1 := feed_len o.cnt (rangeL o l) []
  have h2 : (rangeL o l).length ≤ l.length := by
    unfold rangeL
    repeat' split
    all_goals first
      | exact List.length_filter_le ..
      | exact Nat.zero_le _
      | exact Nat.le_trans (List.length_filter_le ..) (Nat.le_of_eq (List.length_reverse))
  simp only [List.length_nil] at h1
  unfold walkL; omega
theorem step_len {l : List It} (o : Sop) : (stepL l o).1.length ≤ l.length + 1 := by
  unfold stepL
  repeat' split
  all_goals try simp
  all_goals try (rw [length_put]; split <;> omega)
  all_goals try (unfold rem; exact Nat.le_trans (List.length_filter_le ..) (by omega))
  all_goals omega
theorem srt_tail {l : List It} (h : Srt l) : Srt l.tail := by
  cases l with
  | nil => exact h
  | cons x l => exact h.tail
theorem srt_dropLast {l : List It} (h : Srt l) : Srt l.dropLast := List.Pairwise.sublist (List.dropLast_sublist l) h
theorem step_srt {l : List It} (h : Srt l) (o : Sop) : Srt (stepL l o).1 := by
  unfold stepL
  repeat' split
  all_goals first | exact h | exact srt_put h _ | exact srt_rem h _ | exact srt_tail h | exact srt_dropLast h | exact List.Pairwise.nil
theorem after_srt (os : List Sop) : ∀ {l : List It}, Srt l → Srt (afterL l os) := by
  induction os with
  | nil => intro l h; exact h
  | cons o os ih => intro l h; exact ih (step_srt h o)
theorem after_len (os : List Sop) : ∀ (l : List It), (afterL l os).length ≤ l.length + os.length := by
  induction os with
  | nil => intro l; exact Nat.le_refl _
  | cons o os ih =>
    intro l
    have h1 := ih (stepL l o).1
    have h2 := step_len (l := l) o
    show (afterL (stepL l o).1 os).length ≤ l.length + (os.length + 1)
    omega
end Go.Bt
