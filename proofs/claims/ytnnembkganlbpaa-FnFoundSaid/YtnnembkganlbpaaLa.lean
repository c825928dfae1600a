/- What walks over all answer: plain lists. -/
import Derived.Test.YtnnembkganlbpaaRe
namespace Go.Proofs.Ytnnembkganlbpaa
open Go.Bt
theorem RdO.up {R R' G : Go.Sl.HProp} {v : Go.Value} {l : List Sop} [h : Go.Sl.Foc R R' G] (hr : RdO R v l) : RdO R' v l := Rd.up hr
theorem RdI.up {R R' G : Go.Sl.HProp} {v : Go.Value} {l : List It} [h : Go.Sl.Foc R R' G] (hr : RdI R v l) : RdI R' v l := Rd.up hr
theorem RdK.up {R R' G : Go.Sl.HProp} {v : Go.Value} {l : List Int} [h : Go.Sl.Foc R R' G] (hr : RdK R v l) : RdK R' v l := Rd.up hr
theorem lit_rdO (b : Nat) (l : List Sop) (fr : Nat × Nat) : RdO (Go.Sl.pts b (.cells (encO l).toArray 26 fr)) (.slice (some ⟨b, 0, none⟩) l.length l.length) l :=
  pts_rd b (encO l).toArray 26 fr 6 l.length l.length (by rw [List.size_toArray, encO_len]) (Nat.le_refl _)
theorem feed_all {most : Int} {l : List It} (h : (l.length : Int) ≤ most) : (feed most [] l).1 = l := by
  have e := feed_take most l [] (.inr rfl)
  rw [e, List.nil_append, List.take_of_length_le]
  simp only [List.length_nil]
  omega
theorem sel_nn (l : List It) : sel none none l = l := by
  unfold sel; exact List.filter_eq_self.2 fun x _ => rfl
theorem selD_nn (l : List It) : selD none none l = l := by
  unfold selD; exact List.filter_eq_self.2 fun x _ => rfl
theorem rangeL_le (o : Sop) (l : List It) : (rangeL o l).length ≤ l.length := by
  unfold rangeL
  repeat' split
  all_goals first
    | exact List.length_filter_le ..
    | exact Nat.zero_le _
    | exact Nat.le_trans (List.length_filter_le ..) (Nat.le_of_eq (List.length_reverse))
theorem step_walk {l : List It} {k : Int} (key to : Int) (hl : l.length ≤ 4000) (hk : 9 ≤ k) (hk2 : k ≤ 16) : stepL l (allL k key to) = (l, ⟨false, 0, rangeL (allL k key to) l⟩) := by
  have hr := rangeL_le (allL k key to) l
  have hw : walkL (allL k key to) l = rangeL (allL k key to) l := feed_all (by show _ ≤ (4000 : Int); omega)
  have hkk : (allL k key to).kind = k := rfl
  unfold stepL
  rw [if_neg (show ¬ (allL k key to).kind = 0 by rw [hkk]; omega), if_neg (show ¬ (allL k key to).kind = 1 by rw [hkk]; omega), if_neg (show ¬ (allL k key to).kind = 2 by rw [hkk]; omega), if_neg (show ¬ (allL k key to).kind = 3 by rw [hkk]; omega), if_neg (show ¬ (allL k key to).kind = 4 by rw [hkk]; omega), if_neg (show ¬ (allL k key to).kind = 5 by rw [hkk]; omega), if_neg (show ¬ (allL k key to).kind = 6 by rw [hkk]; omega), if_neg (show ¬ (allL k key to).kind = 7 by rw [hkk]; omega), if_neg (show ¬ (allL k key to).kind = 8 by rw [hkk]; omega), if_neg (show ¬ (allL k key to).kind = 18 by rw [hkk]; omega), hw]
theorem run_walk {l : List It} {k : Int} (key to : Int) (os : List Sop) (hl : l.length ≤ 4000) (hk : 9 ≤ k) (hk2 : k ≤ 16) : runL l (allL k key to :: os) = ⟨false, 0, rangeL (allL k key to) l⟩ :: runL l os := by
  show (stepL l (allL k key to)).2 :: runL (stepL l (allL k key to)).1 os = _
  rw [step_walk key to hl hk hk2]
theorem range_up (key to : Int) (l : List It) : rangeL (allL 9 key to) l = l := sel_nn l
theorem range_down (key to : Int) (l : List It) : rangeL (allL 13 key to) l = l.reverse := selD_nn _
/-- what a tree holds behind a script from nothing -/
theorem held_srt (os : List Sop) : Srt (afterL [] os) := after_srt os List.Pairwise.nil
theorem held_len (os : List Sop) : (afterL [] os).length ≤ os.length := by
  have := after_len os []
  simpa using this
theorem heldT_len (os : List Sop) : (afterL [] (onT os)).length ≤ os.length := Nat.le_trans (held_len _) (onT_len os)
theorem rises_plain (l : List It) (hl : l.length ≤ 4000) : runL l [allL 9 0 0, allL 13 0 0] = [⟨false, 0, l⟩, ⟨false, 0, l.reverse⟩] := by
  rw [run_walk 0 0 _ hl (by decide) (by decide), run_walk 0 0 _ hl (by decide) (by decide), range_up, range_down]
  rfl
end Go.Proofs.Ytnnembkganlbpaa
