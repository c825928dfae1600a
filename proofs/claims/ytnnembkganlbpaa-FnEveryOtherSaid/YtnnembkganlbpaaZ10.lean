/- The law FnEveryOther: for every input it returns true, and what it was handed reads as it did. No condition. -/
import Derived.Test.YtnnembkganlbpaaQ4
import Derived.Test.YtnnembkganlbpaaFiq
import Derived.Test.YtnnembkganlbpaaFc
/- The walk of the law on the two ends: FnEnds. -/
namespace Go.Proofs.Ytnnembkganlbpaa
open Go Go.Sl Go.Net Go.Wk Go.Bt Go.RowKit

theorem ends_eq {l : List It} (h : l ≠ []) : [oneA l.head?, oneA l.getLast?] = [⟨true, 0, l.take 1⟩, ⟨true, 0, l.drop (l.length - 1)⟩] := by
  have e1 : oneA l.head? = ⟨true, 0, l.take 1⟩ := by
    cases l with
    | nil => exact absurd rfl h
    | cons x l => rfl
  have e2 : oneA l.getLast? = ⟨true, 0, l.drop (l.length - 1)⟩ := by
    rcases List.eq_nil_or_concat l with e | ⟨l', x, rfl⟩
    · exact absurd e h
    · rw [List.concat_eq_append, List.getLast?_concat, List.length_append, List.length_singleton, Nat.add_sub_cancel, List.drop_left]
      rfl
  rw [e1, e2]
theorem rd_two {R : HProp} {a b : An} {s t : Value} (h1 : RdI R s a.items) (h2 : RdI R t b.items) : ∀ (i : Nat) (x : An) (y : Value), [a, b][i]? = some x → [s, t][i]? = some y → RdI R y x.items := by
  intro i x y hx hy
  match i with
  | 0 => cases hx; cases hy; exact h1
  | 1 => cases hx; cases hy; exact h2
  | i + 2 => simp at hx
theorem rd_one {R : HProp} {a : An} {s : Value} (h1 : RdI R s a.items) : ∀ (i : Nat) (x : An) (y : Value), [a][i]? = some x → [s][i]? = some y → RdI R y x.items := by
  intro i x y hx hy
  match i with
  | 0 => cases hx; cases hy; exact h1
  | i + 1 => simp at hx
set_option maxHeartbeats 3200000 in
theorem f9_ok (R : HProp) (v : Value) (os : List Sop) (d : Int) (hR : RdO R v os) : Tri Try.prog 9 #[.int .i64 d, v] R fun r => pu (r = .bool true) * R := by
  obtain ⟨_, a1, c1, rfl, hc1, hrd⟩ := id hR
  intro w0 F w hs
  refine calls_WP 55 #[.tmp 4] Try.func9 rfl Try.ntmps9 rfl (Nat.le_of_ble_eq_true rfl) ?_
  refine WP_seq ?_
  -- R0
  refine WP_seqr [⟨0, 0, []⟩] (by kernel_rfl) ?_
  refine ns_asg rfl rfl ?_
  refine ns_done ?_
  refine WP_seq ?_ -- S1
  refine WP_seq ?_
  -- R1
  refine WP_seqr [⟨0, 0, []⟩, ⟨1, 0, []⟩, ⟨2, 0, []⟩] (by kernel_rfl) ?_
  refine ns_move rfl rfl ?_
  refine ns_len sl_24 rfl rfl rfl ?_
  refine ns_cmp _ rfl rfl rfl rfl rfl ?_
  refine ns_done ?_
  refine WP_if rfl (fun hif1 => ?_) (fun hif1 => ?_)
  · refine WP_seq ?_
    -- R2
    refine WP_seqr [⟨0, 0, []⟩] (by kernel_rfl) ?_
    refine ns_asg rfl rfl ?_
    refine ns_done ?_
    refine WP_ret ?_
    exact ⟨_, res1 _, St.mk_pu rfl hs.out⟩
  refine WP_skip ?_
  refine WP_seq ?_ -- S2
  refine WP_seq ?_
  -- R3
  refine WP_seqr [⟨0, 0, []⟩, ⟨1, 0, []⟩, ⟨2, 2, []⟩, ⟨3, 0, []⟩] (by kernel_rfl) ?_
  refine ns_move rfl rfl ?_
  refine ns_move rfl rfl ?_
  refine ns_call (f20_ok d a1 os.length c1) ck_20 (hs.foc 1) rfl rfl rfl rfl ?_
  intro v15 w hs
  replace hs := hs.pure
  obtain ⟨rfl, hs⟩ := hs
  refine ns_not rfl rfl rfl ?_
  refine ns_done ?_
  refine WP_if rfl (fun hif2 => ?_) (fun hif2 => ?_)
  · refine WP_seq ?_
    -- R4
    refine WP_seqr [⟨0, 0, []⟩] (by kernel_rfl) ?_
    refine ns_asg rfl rfl ?_
    refine ns_done ?_
    refine WP_ret ?_
    exact ⟨_, res1 _, St.mk_pu rfl hs.out⟩
  refine WP_skip ?_
  have hfit : 2 ≤ d ∧ d ≤ 1000 ∧ os.length ≤ 2000 := by simpa using hif2
  obtain ⟨hd, hd2, hn⟩ := hfit
  obtain ⟨D, rfl⟩ : ∃ D : Nat, d = D := ⟨d.toNat, by omega⟩
  have hlen := heldT_len os
  have hsrt := held_srt (onT os)
  refine WP_seq ?_
  -- R5
  refine WP_seqr [⟨0, 0, []⟩, ⟨1, 0, []⟩, ⟨2, 0, []⟩, ⟨3, 0, []⟩, ⟨4, 2, []⟩, ⟨5, 2, []⟩, ⟨6, 2, []⟩, ⟨7, 0, []⟩, ⟨8, 0, []⟩, ⟨9, 0, []⟩, ⟨10, 0, []⟩, ⟨11, 0, []⟩] (by kernel_rfl) ?_
  refine ns_move rfl rfl ?_
  refine ns_move rfl rfl ?_
  refine ns_build [(0, .int .i64 4)] (opC (kdL 4)) pp_26 zc_26 rfl rfl rfl rfl ?_
  refine ns_build [(0, .int .i64 5)] (opC (kdL 5)) pp_26 zc_26 rfl rfl rfl rfl ?_
  refine ns_call (f21_ok 9 0 0) ck_21 (hs.foc 1) rfl rfl rfl rfl ?_
  intro v22 w hs
  replace hs := hs.pure
  obtain ⟨rfl, hs⟩ := hs
  refine ns_lit [opV (kdL 4), opV (kdL 5), opV (allL 9 0 0)] (encO [kdL 4, kdL 5, allL 9 0 0]) sl_24 zr_26 (by decide) (by decide) hs rfl rfl rfl rfl (by simp [Value.cells, opV, opC]) rfl ?_
  refine fun b23 w hs hx => ⟨trivial, ?_⟩
  have hmore : RdO (R * pts b23 (.cells (encO [kdL 4, kdL 5, allL 9 0 0]).toArray 26 (0, 0))) (.slice (some ⟨b23, 0, none⟩) 3 3) [kdL 4, kdL 5, allL 9 0 0] := (lit_rdO b23 [kdL 4, kdL 5, allL 9 0 0] (0, 0)).up
  refine ns_call (f22_ok (R * pts b23 (.cells (encO [kdL 4, kdL 5, allL 9 0 0]).toArray 26 (0, 0))) (.slice a1 os.length c1) _ os [kdL 4, kdL 5, allL 9 0 0] D hR.up hmore (by simp) (by omega) (by omega) (by omega) (by simp) (by simp [allL, kdL])) ck_22 (hs.foc (R * pts b23 (.cells (encO [kdL 4, kdL 5, allL 9 0 0]).toArray 26 (0, 0)))) rfl rfl rfl rfl ?_
  intro v24 w hs
  replace hs := hs.ex
  obtain ⟨⟨s, R2⟩, hs⟩ := hs
  replace hs := hs.pu
  obtain ⟨⟨rfl, hra⟩, hs⟩ := hs
  simp only [mul_assoc'] at hs
  generalize afterL [] (onT os) = l at hra hlen hsrt
  rw [run_ends l (by omega)] at hra
  obtain ⟨a4, c4, rfl, hc4⟩ := id hra.form
  obtain ⟨g2, o2, _, s2, e, hi2, hc2⟩ := hra.get (i := 2) rfl
  cases e
  have hi2 : RdI R2 s2 l := hi2
  obtain ⟨a6, c6, rfl, hc6⟩ := id hi2.form
  refine ns_move rfl rfl ?_
  refine ns_ext rfl rfl rfl rfl ?_
  refine ns_ext rfl rfl rfl rfl ?_
  refine ns_asg rfl rfl ?_
  refine ns_asg rfl rfl ?_
  refine ns_done ?_
  refine WP_seq ?_ -- S3
  refine WP_seq ?_
  -- R6
  refine WP_seqr [⟨0, 0, []⟩, ⟨1, 0, []⟩] (by kernel_rfl) ?_
  refine ns_move rfl rfl ?_
  refine ns_not rfl rfl rfl ?_
  refine ns_done ?_
  refine WP_false rfl ?_ -- if3
  refine WP_skip ?_
  refine WP_seq ?_
  -- R8
  refine WP_seqr [⟨0, 0, []⟩, ⟨1, 0, []⟩, ⟨2, 0, []⟩, ⟨3, 1, []⟩, ⟨4, 0, []⟩] (by kernel_rfl) ?_
  refine ns_move rfl rfl ?_
  refine ns_idx 2 sl_28 rfl rfl rfl rfl rfl (by simp) ?_
  refine ns_fld fo_36_2 rfl rfl rfl ?_
  refine ns_ld pl_34 rfl rfl rfl ((hc2 _ _ _ (hs.foc R2)).at 2 rfl) ?_
  refine ns_asg rfl rfl ?_
  refine ns_done ?_
  refine WP_seq ?_ -- S4
  refine WP_seq ?_
  -- R9
  refine WP_seqr [⟨0, 0, []⟩, ⟨1, 0, []⟩, ⟨2, 0, []⟩] (by kernel_rfl) ?_
  refine ns_move rfl rfl ?_
  refine ns_len sl_34 rfl rfl rfl ?_
  refine ns_cmp _ rfl rfl rfl rfl rfl ?_
  refine ns_done ?_
  refine WP_if rfl (fun hif4 => ?_) (fun hif4 => ?_)
  · refine WP_seq ?_
    have hl : l = [] := List.eq_nil_of_length_eq_zero (by have : ((l.length : Int) == 0) = true := hif4; simpa using this)
    subst hl
    -- R10
    refine WP_net hs mix [0, 1, 0, 7, 15] [⟨0, 0, []⟩, ⟨1, 0, []⟩, ⟨2, 2, []⟩, ⟨3, 2, []⟩, ⟨4, 0, []⟩] (by kernel_rfl) ?_
    intro w hs
    refine ns_move rfl rfl ?_
    refine ns_sliceHi 2 sl_28 rfl rfl rfl rfl rfl (by simp at hc4; omega) ?_
    refine ns_makeN (n := 2) (encA [⟨false, 0, []⟩, ⟨false, 0, []⟩] [.slice none 0 0, .slice none 0 0]).toArray sl_28 zr_36 by_36 (by decide) (by decide) (by decide) hs rfl rfl rfl rfl (by decide) (by kernel_rfl) ?_
    refine fun b38 w hs _ => ⟨trivial, ?_⟩
    have hq1 : RdA R2 (.slice (some ⟨g2, o2, none⟩) 2 c4) [⟨false, 0, []⟩, ⟨false, 0, []⟩] := RdA.head rfl hra 2 (by simp)
    have hq2 := lit_rdA b38 [⟨false, 0, []⟩, ⟨false, 0, []⟩] [.slice none 0 0, .slice none 0 0] R2 (0, 0) rfl (rd_two (nil_rdI R2) (nil_rdI R2))
    refine ns_call (f25_ok (R2 * pts b38 (.cells (encA [⟨false, 0, []⟩, ⟨false, 0, []⟩] [.slice none 0 0, .slice none 0 0]).toArray 36 (0, 0))) _ _ [⟨false, 0, []⟩, ⟨false, 0, []⟩] (RdA.up hq1) hq2 (by simp) (by simp)) ck_25 (hs.foc (R2 * pts b38 (.cells (encA [⟨false, 0, []⟩, ⟨false, 0, []⟩] [.slice none 0 0, .slice none 0 0]).toArray 36 (0, 0)))) rfl rfl rfl rfl ?_
    intro v39 w hs
    replace hs := hs.pu
    obtain ⟨rfl, hs⟩ := hs
    try simp only [mul_assoc'] at hs
    refine ns_asg rfl rfl ?_
    refine ns_done ?_
    refine WP_ret ?_
    exact ⟨_, res1 _, St.mk_pu rfl hs.out⟩
  refine WP_skip ?_
  have hl : l ≠ [] := by
    intro e
    subst e
    cases hif4
  have hlp : 0 < l.length := List.length_pos_iff.2 hl
  refine WP_seq_cut (fun σ w => ∃ b8 b9, σ 5 = .slice (some ⟨g2, o2, none⟩) 3 c4 ∧ σ 8 = .pointer (some ⟨b8, 0, none⟩) ∧ σ 9 = .pointer (some ⟨b9, 0, none⟩) ∧ St w0 (pts b8 (.cells #[.bool true, .int .i64 0, .slice a6 1 c6] 36 (0, 0)) * (pts b9 (.cells #[.bool true, .int .i64 0, .slice (if c6 = l.length - 1 then a6 else a6.map (·.add ((l.length - 1) * 2))) (l.length - (l.length - 1)) (c6 - (l.length - 1))] 36 (0, 0)) * (R * (R2 * F)))) w) ?_ ?_ -- R11.cut
  · -- R11
    refine WP_tre hs mix [0, 1, 3, 0, 0, 16, 48, 120, 248, 0, 0, 1543, 4095] (.cons ⟨0, 0, []⟩ (.cons ⟨1, 0, []⟩ (.cons ⟨2, 0, []⟩ (.cons ⟨3, 0, []⟩ (.cons ⟨4, 0, []⟩ (.cons ⟨5, 0, []⟩ (.cons ⟨6, 0, []⟩ (.cons ⟨7, 0, []⟩ (.cons ⟨8, 0, []⟩ (.fork ⟨9, 2, []⟩ (.cons ⟨10, 2, []⟩ (.cons ⟨11, 2, []⟩ (.cons ⟨12, 2, []⟩ .nil))) ⟨10, 2, []⟩ (.cons ⟨9, 2, []⟩ (.cons ⟨11, 2, []⟩ (.cons ⟨12, 2, []⟩ .nil))))))))))))) (by kernel_rfl) ?_
    intro w hs
    refine ns_move rfl rfl ?_
    refine ns_sliceHi 1 sl_34 rfl rfl rfl rfl rfl (by omega) ?_
    refine ns_build [(0, .bool true), (2, .slice a6 1 c6)] (#[.bool true, .int .i64 0, .slice a6 1 c6]) pp_36 zc_36 rfl rfl rfl rfl ?_
    refine ns_move rfl rfl ?_
    refine ns_move rfl rfl ?_
    refine ns_len sl_34 rfl rfl rfl ?_
    refine ns_sub rfl rfl rfl rfl (by omega) (by omega) ?_
    refine ns_sliceLo (l.length - 1) sl_34 rfl rfl rfl rfl (by omega) (by omega) ?_
    refine ns_build [(0, .bool true), (2, .slice (if c6 = l.length - 1 then a6 else a6.map (·.add ((l.length - 1) * 2))) (l.length - (l.length - 1)) (c6 - (l.length - 1)))] (#[.bool true, .int .i64 0, .slice (if c6 = l.length - 1 then a6 else a6.map (·.add ((l.length - 1) * 2))) (l.length - (l.length - 1)) (c6 - (l.length - 1))]) pp_36 zc_36 rfl rfl rfl rfl ?_
    refine ns_fork ?_ ?_
    · refine ns_alloc zc_36 hs rfl rfl ?_
      intro b8 w hs
      refine ns_alloc zc_36 hs rfl rfl ?_
      intro b9 w hs
      refine ns_stA (#[.bool true, .int .i64 0, .slice a6 1 c6]) ag_36 rfl (by decide) hs rfl rfl rfl rfl (by intro u hu; simp at hu; rcases hu with rfl | rfl | rfl <;> rfl) (by simp) ?_
      refine fun w hs => ⟨trivial, ?_⟩
      refine ns_stA (#[.bool true, .int .i64 0, .slice (if c6 = l.length - 1 then a6 else a6.map (·.add ((l.length - 1) * 2))) (l.length - (l.length - 1)) (c6 - (l.length - 1))]) ag_36 rfl (by decide) hs rfl rfl rfl rfl (by intro u hu; simp at hu; rcases hu with rfl | rfl | rfl <;> rfl) (by simp) ?_
      refine fun w hs => ⟨trivial, ?_⟩
      refine ns_done ?_
      have hs : St w0 (pts b9 (.cells #[.bool true, .int .i64 0, .slice (if c6 = l.length - 1 then a6 else a6.map (·.add ((l.length - 1) * 2))) (l.length - (l.length - 1)) (c6 - (l.length - 1))] 36 (0, 0)) * (pts b8 (.cells #[.bool true, .int .i64 0, .slice a6 1 c6] 36 (0, 0)) * _)) w := hs
      exact ⟨b8, b9, rfl, rfl, rfl, hs.out⟩
    · refine ns_alloc zc_36 hs rfl rfl ?_
      intro b9 w hs
      refine ns_alloc zc_36 hs rfl rfl ?_
      intro b8 w hs
      refine ns_stA (#[.bool true, .int .i64 0, .slice a6 1 c6]) ag_36 rfl (by decide) hs rfl rfl rfl rfl (by intro u hu; simp at hu; rcases hu with rfl | rfl | rfl <;> rfl) (by simp) ?_
      refine fun w hs => ⟨trivial, ?_⟩
      refine ns_stA (#[.bool true, .int .i64 0, .slice (if c6 = l.length - 1 then a6 else a6.map (·.add ((l.length - 1) * 2))) (l.length - (l.length - 1)) (c6 - (l.length - 1))]) ag_36 rfl (by decide) hs rfl rfl rfl rfl (by intro u hu; simp at hu; rcases hu with rfl | rfl | rfl <;> rfl) (by simp) ?_
      refine fun w hs => ⟨trivial, ?_⟩
      refine ns_done ?_
      have hs : St w0 (pts b8 (.cells #[.bool true, .int .i64 0, .slice a6 1 c6] 36 (0, 0)) * (pts b9 (.cells #[.bool true, .int .i64 0, .slice (if c6 = l.length - 1 then a6 else a6.map (·.add ((l.length - 1) * 2))) (l.length - (l.length - 1)) (c6 - (l.length - 1))] 36 (0, 0)) * _)) w := hs
      exact ⟨b8, b9, rfl, rfl, rfl, hs.out⟩
  rintro σ w ⟨b8, b9, g5, g8, g9, hs⟩
  obtain ⟨σ, rfl⟩ := rebase g5
  obtain ⟨σ, rfl⟩ := rebase (σ := σ) g8
  obtain ⟨σ, rfl⟩ := rebase (σ := σ) g9
  clear g5 g8 g9
  refine WP_seq ?_
  -- R12
  refine WP_net hs mix [0, 1, 0, 0, 12, 31, 63] [⟨0, 0, []⟩, ⟨1, 0, []⟩, ⟨2, 1, []⟩, ⟨3, 1, []⟩, ⟨4, 2, []⟩, ⟨5, 2, []⟩, ⟨6, 0, []⟩] (by kernel_rfl) ?_
  intro w hs
  refine ns_move rfl rfl ?_
  refine ns_sliceHi 2 sl_28 rfl rfl rfl rfl rfl (by simp at hc4; omega) ?_
  refine ns_ldAB [.bool true, .int .i64 0, .slice a6 1 c6] ag_36 hs rfl rfl rfl (by rfl) (by rfl) (by decide) ?_
  refine ns_ldAB [.bool true, .int .i64 0, .slice (if c6 = l.length - 1 then a6 else a6.map (·.add ((l.length - 1) * 2))) (l.length - (l.length - 1)) (c6 - (l.length - 1))] ag_36 hs rfl rfl rfl (by rfl) (by rfl) (by decide) ?_
  refine ns_lit [.agg #[.bool true, .int .i64 0, .slice a6 1 c6], .agg #[.bool true, .int .i64 0, .slice (if c6 = l.length - 1 then a6 else a6.map (·.add ((l.length - 1) * 2))) (l.length - (l.length - 1)) (c6 - (l.length - 1))]] (encA [⟨true, 0, l.take 1⟩, ⟨true, 0, l.drop (l.length - 1)⟩] [.slice a6 1 c6, .slice (if c6 = l.length - 1 then a6 else a6.map (·.add ((l.length - 1) * 2))) (l.length - (l.length - 1)) (c6 - (l.length - 1))]) sl_28 zr_36 (by decide) (by decide) hs rfl rfl rfl rfl (by simp [Value.cells]) rfl ?_
  refine fun b53 w hs hx => ⟨trivial, ?_⟩
  have hq1 : RdA R2 (.slice (some ⟨g2, o2, none⟩) 2 c4) ([oneA l.head?, oneA l.getLast?, ⟨false, 0, l⟩].take 2) := RdA.head rfl hra 2 (by simp)
  rw [show [oneA l.head?, oneA l.getLast?, (⟨false, 0, l⟩ : An)].take 2 = [oneA l.head?, oneA l.getLast?] from rfl, ends_eq hl] at hq1
  have hq2 := lit_rdA b53 [⟨true, 0, l.take 1⟩, ⟨true, 0, l.drop (l.length - 1)⟩] [.slice a6 1 c6, .slice (if c6 = l.length - 1 then a6 else a6.map (·.add ((l.length - 1) * 2))) (l.length - (l.length - 1)) (c6 - (l.length - 1))] R2 (0, 0) rfl (rd_two (RdI.head rfl hi2 1 (by omega)) (RdI.tail rfl hi2 (l.length - 1) (by omega)))
  refine ns_call (f25_ok (R2 * pts b53 (.cells (encA [⟨true, 0, l.take 1⟩, ⟨true, 0, l.drop (l.length - 1)⟩] [.slice a6 1 c6, .slice (if c6 = l.length - 1 then a6 else a6.map (·.add ((l.length - 1) * 2))) (l.length - (l.length - 1)) (c6 - (l.length - 1))]).toArray 36 (0, 0))) _ _ [⟨true, 0, l.take 1⟩, ⟨true, 0, l.drop (l.length - 1)⟩] (RdA.up hq1) hq2 (by simp) (by
    intro x hx
    simp only [List.mem_cons, List.not_mem_nil, or_false] at hx
    rcases hx with rfl | rfl
    · simp; omega
    · simp; omega)) ck_25 (hs.foc (R2 * pts b53 (.cells (encA [⟨true, 0, l.take 1⟩, ⟨true, 0, l.drop (l.length - 1)⟩] [.slice a6 1 c6, .slice (if c6 = l.length - 1 then a6 else a6.map (·.add ((l.length - 1) * 2))) (l.length - (l.length - 1)) (c6 - (l.length - 1))]).toArray 36 (0, 0)))) rfl rfl rfl rfl ?_
  intro v54 w hs
  replace hs := hs.pu
  obtain ⟨rfl, hs⟩ := hs
  try simp only [mul_assoc'] at hs
  refine ns_asg rfl rfl ?_
  refine ns_done ?_
  refine WP_ret ?_
  exact ⟨_, res1 _, St.mk_pu rfl hs.out⟩
end Go.Proofs.Ytnnembkganlbpaa
/- The walks of a search and a taking out in a list, and of the law on what is found: FnFound. -/
namespace Go.Wk
open Go Go.Sl Go.Net Go.RowKit
section
variable {P : Program} {ops : Array Oper} {Q : Slots → World → Prop} {σ : Slots} {w w0 : World} {H : HProp} {rest : Tre} {held : Nat → World → Prop} {i : Nat} {kp : List Nat}
variable {d : Option Tmp} {ty : TypeId} {ps : String} {af : Array Edge} {gd : Option (Nat × Bool)}
theorem ns_beq2 {t t' : TypeId} {x y : Operand} {a b : Bool} (r : Bool) (hu : P.underlying t = some .bool) (ho : ops[i]? = some ⟨d, .binOp .eql t x y t', ty, ps, af, gd⟩) (hw : Region.wanted ⟨d, .binOp .eql t x y t', ty, ps, af, gd⟩ (yieldS ops σ) = true)
    (hx : evS σ x = .bool a) (hy : evS σ y = .bool b) (hr : (a == b) = r) (h : NetS P ops Q rest held (updO σ d (.bool r)) w) : NetS P ops Q (.cons ⟨i, 0, kp⟩ rest) held σ w := by
  subst hr; exact ns_beq hu ho hw hx hy h
end
end Go.Wk
namespace Go.Proofs.Ytnnembkganlbpaa
open Go Go.Sl Go.Net Go.Wk Go.Bt Go.RowKit

theorem filt_snoc {p : It → Bool} {l : List It} {i : Nat} {x : It} (h : l[i]? = some x) : (l.take (i + 1)).filter p = (l.take i).filter p ++ if p x then [x] else [] := by
  rw [take_snoc h, List.filter_append, List.filter_cons, List.filter_nil]
theorem find_at {l : List It} {i : Nat} {x : It} {k : Int} (h : l[i]? = some x) (hn : ∀ y ∈ l.take i, y.key ≠ k) (hx : x.key = k) : get l k = some x := by
  have e : l = l.take i ++ x :: l.drop (i + 1) := by
    obtain ⟨hi, rfl⟩ := List.getElem?_eq_some_iff.1 h
    rw [List.getElem_cons_drop, List.take_append_drop]
  rw [e, get_append, get_none.2 hn]
  show (none : Option It).or (List.find? _ (x :: _)) = _
  rw [List.find?_cons, hx]; simp
set_option maxHeartbeats 1600000 in
theorem f30_ok (R : HProp) (v : Value) (l : List It) (k : Int) (hR : RdI R v l) (hll : l.length < 1000000) : Tri Try.prog 30 #[v, .int .i64 k] R fun r => R * IArr r (rem l k) := by
  obtain ⟨hxl, a1, c1, rfl, hc1, hrd⟩ := hR
  intro w0 F w hs
  refine calls_WP 25 #[.tmp 4] Try.func30 rfl Try.ntmps30 rfl (Nat.le_of_ble_eq_true rfl) ?_
  refine WP_seq ?_
  -- R0
  refine WP_seqr [⟨0, 0, []⟩] (by kernel_rfl) ?_
  refine ns_asg rfl rfl ?_
  refine ns_done ?_
  refine WP_seq ?_
  -- R1
  refine WP_seqr [⟨0, 2, []⟩, ⟨1, 0, []⟩] (by kernel_rfl) ?_
  refine ns_lit0 sl_34 hs rfl rfl ?_
  refine fun b8 w hs hx => ⟨trivial, ?_⟩
  refine ns_asg rfl rfl ?_
  refine ns_done ?_
  refine WP_seq_cut (fun σ w => ∃ out, σ 5 = out ∧ St w0 (R * (IArr out (rem l k) * F)) w) ?_ ?_ -- S1
  · refine WP_seq ?_
    -- R2
    refine WP_seqr [⟨0, 0, []⟩, ⟨1, 0, []⟩, ⟨2, 0, []⟩] (by kernel_rfl) ?_
    refine ns_move rfl rfl ?_
    refine ns_len sl_34 rfl rfl rfl ?_
    refine ns_move rfl rfl ?_
    refine ns_done ?_
    refine WP_block ?_
    refine WP_loop (fun m σ w => ∃ (i : Nat) (out : Value), m = l.length - i ∧ i ≤ l.length ∧ σ 1 = .int .i64 k ∧ σ 5 = out ∧ σ 9 = .slice a1 l.length c1 ∧ σ 10 = .int .i64 (l.length : Int) ∧ σ 11 = .int .i64 (i : Int) ∧ St w0 (R * (IArr out ((l.take i).filter fun y => y.key != k) * F)) w) l.length ?_ ?_ -- L1
    · refine ⟨0, .slice (some ⟨b8, 0, none⟩) 0 0, rfl, Nat.zero_le _, rfl, rfl, rfl, rfl, rfl, ?_⟩
      show St w0 (R * (Arr 45 2 _ 0 [] * F)) w
      exact hs.out
    rintro m σ w ⟨i, out, rfl, hi, g1, g5, g9, g10, g11, hs⟩
    obtain ⟨σ, rfl⟩ := rebase g1
    obtain ⟨σ, rfl⟩ := rebase (σ := σ) g5
    obtain ⟨σ, rfl⟩ := rebase (σ := σ) g9
    obtain ⟨σ, rfl⟩ := rebase (σ := σ) g10
    obtain ⟨σ, rfl⟩ := rebase (σ := σ) g11
    clear g1 g5 g9 g10 g11
    refine WP_seq ?_
    -- R3
    refine WP_seqr [⟨0, 0, []⟩] (by kernel_rfl) ?_
    refine ns_cmp _ rfl rfl rfl rfl rfl ?_
    refine ns_done ?_
    refine WP_seq ?_ -- S2
    refine WP_if' rfl (fun hif1 => ?_) (fun hif1 => ?_)
    · refine WP_exit ?_
      have hi2 : i = l.length := by have := of_decide_eq_false hif1; omega
      subst hi2
      refine ⟨out, rfl, ?_⟩
      rw [List.take_length] at hs
      exact hs
    refine WP_skip ?_
    have hi2 : i < l.length := by have := of_decide_eq_true hif1; omega
    obtain ⟨x, hxi⟩ : ∃ x, l[i]? = some x := ⟨l[i]'hi2, List.getElem?_eq_getElem hi2⟩
    obtain ⟨g, q, rfl, hat⟩ := hrd (by omega)
    have e2 := filt_snoc (p := fun y => y.key != k) hxi
    have hfl : ((l.take i).filter fun y => y.key != k).length ≤ i := Nat.le_trans (List.length_filter_le ..) (by rw [List.length_take]; omega)
    refine WP_seq_cut (fun σ w => ∃ out, σ 1 = .int .i64 k ∧ σ 5 = out ∧ σ 9 = .slice (some ⟨g, q, none⟩) l.length c1 ∧ σ 10 = .int .i64 (l.length : Int) ∧ σ 11 = .int .i64 (i : Int) ∧ St w0 (R * (IArr out ((l.take (i + 1)).filter fun y => y.key != k) * F)) w) ?_ ?_ -- S3
    · refine WP_block ?_
      refine WP_seq ?_
      -- R4
      refine WP_seqr [⟨0, 0, []⟩, ⟨1, 1, []⟩, ⟨2, 2, []⟩, ⟨3, 2, []⟩] (by kernel_rfl) ?_
      refine ns_idx i sl_34 rfl rfl rfl rfl rfl hi2 ?_
      refine ns_ldA [.int .i64 x.key, .int .i64 x.val] ag_45 rfl rfl rfl rfl (by decide) (item_cells hat (hs.foc R) hxi) ?_
      refine ns_alloc zc_45 hs rfl rfl ?_
      intro b7 w hs
      refine ns_stA (#[.int .i64 x.key, .int .i64 x.val]) ag_45 rfl (by decide) hs rfl rfl rfl rfl (by intro u hu; simp at hu; rcases hu with rfl | rfl <;> rfl) (by simp) ?_
      refine fun w hs => ⟨trivial, ?_⟩
      refine ns_done ?_
      have hs : St w0 (pts b7 (.cells #[.int .i64 x.key, .int .i64 x.val] 45 (0, 0)) * _) w := hs
      refine WP_seq ?_
      -- R5
      refine WP_seqr [⟨0, 0, []⟩, ⟨1, 1, []⟩, ⟨2, 0, []⟩, ⟨3, 0, []⟩] (by kernel_rfl) ?_
      refine ns_fld fo_45_0 rfl rfl rfl ?_
      refine ns_ldB pl_2 hs rfl rfl rfl (by rfl) ?_
      refine ns_move rfl rfl ?_
      refine ns_cmp _ rfl rfl rfl rfl rfl ?_
      refine ns_done ?_
      refine WP_if rfl (fun hif2 => ?_) (fun hif2 => ?_)
      · -- R6
        refine WP_seqr [⟨0, 0, []⟩, ⟨1, 1, []⟩, ⟨2, 2, []⟩, ⟨3, 2, []⟩, ⟨4, 0, []⟩] (by kernel_rfl) ?_
        refine ns_move rfl rfl ?_
        refine ns_ldAB [.int .i64 x.key, .int .i64 x.val] ag_45 hs rfl rfl rfl (by rfl) (by rfl) (by decide) ?_
        refine ns_lit [itV x] [.int .i64 x.key, .int .i64 x.val] sl_34 zr_45 (by decide) (by decide) hs rfl rfl rfl rfl (by simp [Value.cells, itV]) rfl ?_
        refine fun b21 w hs hx => ⟨trivial, ?_⟩
        refine ns_app [.int .i64 x.key, .int .i64 x.val] sl_34 zr_45 by_45 rfl (by decide) (hs.foc (IArr out ((l.take i).filter fun y => y.key != k))) rfl rfl rfl rfl rfl (St.cells (n := 2) hs (by rfl)) (by intro u hu; simp at hu; rcases hu with rfl | rfl <;> rfl) (by simp only [maxLen]; omega) (by omega) ?_
        refine fun v22 w hs hv => ⟨trivial, ?_⟩
        refine ns_asg rfl rfl ?_
        refine ns_done ?_
        have hif2 : (x.key != k) = true := hif2
        rw [if_pos hif2] at e2
        refine ⟨v22, rfl, rfl, rfl, rfl, rfl, ?_⟩
        rw [e2]
        have hs := hs.up (Ent.of_eq (IArr_eq (l := ((l.take i).filter fun y => y.key != k) ++ [x]) (by simp) (by rw [encs_append]; rfl)))
        exact hs.out
      refine WP_skip ?_
      have hif2 : (x.key != k) = false := hif2
      rw [hif2, if_neg (by decide), List.append_nil] at e2
      refine ⟨out, rfl, rfl, rfl, rfl, rfl, ?_⟩
      rw [e2]
      exact hs.out
    rintro σ w ⟨out, g1, g5, g9, g10, g11, hs⟩
    obtain ⟨σ, rfl⟩ := rebase g1
    obtain ⟨σ, rfl⟩ := rebase (σ := σ) g5
    obtain ⟨σ, rfl⟩ := rebase (σ := σ) g9
    obtain ⟨σ, rfl⟩ := rebase (σ := σ) g10
    obtain ⟨σ, rfl⟩ := rebase (σ := σ) g11
    clear g1 g5 g9 g10 g11
    -- R7
    refine WP_seqr [⟨0, 0, []⟩, ⟨1, 0, []⟩] (by kernel_rfl) ?_
    refine ns_add rfl rfl rfl rfl (by omega) (by omega) ?_
    refine ns_move rfl rfl ?_
    refine ns_done ?_
    exact ⟨l.length - (i + 1), by omega, i + 1, out, rfl, by omega, rfl, rfl, rfl, rfl, rfl, hs⟩
    
  rintro σ w ⟨out, g5, hs⟩
  obtain ⟨σ, rfl⟩ := rebase g5
  refine WP_seq ?_
  -- R8
  refine WP_seqr [⟨0, 0, []⟩, ⟨1, 0, []⟩] (by kernel_rfl) ?_
  refine ns_move rfl rfl ?_
  refine ns_asg rfl rfl ?_
  refine ns_done ?_
  refine WP_ret ?_
  refine ⟨_, res1 _, ?_⟩
  show St w0 ((R * IArr out (rem l k)) * F) w
  exact hs.out
set_option maxHeartbeats 1600000 in
theorem f31_ok (R : HProp) (v : Value) (l : List It) (k : Int) (hR : RdI R v l) (hll : l.length < 1000000) : Tri Try.prog 31 #[v, .int .i64 k] R fun r => pu (r = ans (get l k)) * R := by
  obtain ⟨hxl, a1, c1, rfl, hc1, hrd⟩ := hR
  intro w0 F w hs
  refine calls_WP 21 #[.cell 4 45, .tmp 5] Try.func31 rfl Try.ntmps31 rfl (Nat.le_of_ble_eq_true rfl) ?_
  refine WP_seq ?_
  -- R0
  refine WP_seqr [⟨0, 2, []⟩, ⟨1, 0, []⟩] (by kernel_rfl) ?_
  refine ns_alloc zc_45 hs rfl rfl ?_
  intro b4 w hs
  refine ns_asg rfl rfl ?_
  refine ns_done ?_
  refine WP_seq_cut (fun σ w => σ 4 = .pointer (some ⟨b4, 0, none⟩) ∧ get l k = none ∧ St w0 (pts b4 (.cells #[.int .i64 0, .int .i64 0] 45 (0, 0)) * (R * F)) w) ?_ ?_ -- S1
  · refine WP_seq ?_
    -- R1
    refine WP_seqr [⟨0, 0, []⟩, ⟨1, 0, []⟩, ⟨2, 0, []⟩] (by kernel_rfl) ?_
    refine ns_move rfl rfl ?_
    refine ns_len sl_34 rfl rfl rfl ?_
    refine ns_move rfl rfl ?_
    refine ns_done ?_
    refine WP_block ?_
    refine WP_loop (fun m σ w => ∃ i : Nat, m = l.length - i ∧ i ≤ l.length ∧ (∀ y ∈ l.take i, y.key ≠ k) ∧ σ 1 = .int .i64 k ∧ σ 4 = .pointer (some ⟨b4, 0, none⟩) ∧ σ 8 = .slice a1 l.length c1 ∧ σ 9 = .int .i64 (l.length : Int) ∧ σ 10 = .int .i64 (i : Int) ∧ St w0 (pts b4 (.cells #[.int .i64 0, .int .i64 0] 45 (0, 0)) * (R * F)) w) l.length ?_ ?_ -- L1
    · exact ⟨0, rfl, Nat.zero_le _, (fun y hy => by simp at hy), rfl, rfl, rfl, rfl, rfl, hs.out⟩
    rintro m σ w ⟨i, rfl, hi, hn, g1, g4, g8, g9, g10, hs⟩
    obtain ⟨σ, rfl⟩ := rebase g1
    obtain ⟨σ, rfl⟩ := rebase (σ := σ) g4
    obtain ⟨σ, rfl⟩ := rebase (σ := σ) g8
    obtain ⟨σ, rfl⟩ := rebase (σ := σ) g9
    obtain ⟨σ, rfl⟩ := rebase (σ := σ) g10
    clear g1 g4 g8 g9 g10
    refine WP_seq ?_
    -- R2
    refine WP_seqr [⟨0, 0, []⟩] (by kernel_rfl) ?_
    refine ns_cmp _ rfl rfl rfl rfl rfl ?_
    refine ns_done ?_
    refine WP_seq ?_ -- S2
    refine WP_if' rfl (fun hif1 => ?_) (fun hif1 => ?_)
    · refine WP_exit ?_
      have hi2 : i = l.length := by have := of_decide_eq_false hif1; omega
      subst hi2
      rw [List.take_length] at hn
      exact ⟨rfl, get_none.2 hn, hs⟩
    refine WP_skip ?_
    have hi2 : i < l.length := by have := of_decide_eq_true hif1; omega
    obtain ⟨x, hxi⟩ : ∃ x, l[i]? = some x := ⟨l[i]'hi2, List.getElem?_eq_getElem hi2⟩
    obtain ⟨g, q, rfl, hat⟩ := hrd (by omega)
    refine WP_seq ?_ -- S3
    refine WP_block ?_
    refine WP_seq ?_
    -- R3
    refine WP_seqr [⟨0, 0, []⟩, ⟨1, 1, []⟩, ⟨2, 2, []⟩, ⟨3, 2, []⟩] (by kernel_rfl) ?_
    refine ns_idx i sl_34 rfl rfl rfl rfl rfl hi2 ?_
    refine ns_ldA [.int .i64 x.key, .int .i64 x.val] ag_45 rfl rfl rfl rfl (by decide) (item_cells hat (hs.foc R) hxi) ?_
    refine ns_alloc zc_45 hs rfl rfl ?_
    intro b7 w hs
    refine ns_stA (#[.int .i64 x.key, .int .i64 x.val]) ag_45 rfl (by decide) hs rfl rfl rfl rfl (by intro u hu; simp at hu; rcases hu with rfl | rfl <;> rfl) (by simp) ?_
    refine fun w hs => ⟨trivial, ?_⟩
    refine ns_done ?_
    have hs : St w0 (pts b7 (.cells #[.int .i64 x.key, .int .i64 x.val] 45 (0, 0)) * _) w := hs
    refine WP_seq ?_
    -- R4
    refine WP_seqr [⟨0, 0, []⟩, ⟨1, 1, []⟩, ⟨2, 0, []⟩, ⟨3, 0, []⟩] (by kernel_rfl) ?_
    refine ns_fld fo_45_0 rfl rfl rfl ?_
    refine ns_ldB pl_2 hs rfl rfl rfl (by rfl) ?_
    refine ns_move rfl rfl ?_
    refine ns_cmp _ rfl rfl rfl rfl rfl ?_
    refine ns_done ?_
    refine WP_if rfl (fun hif2 => ?_) (fun hif2 => ?_)
    · refine WP_seq ?_
      -- R5
      refine WP_seqr [⟨0, 1, []⟩, ⟨1, 2, []⟩, ⟨2, 0, []⟩] (by kernel_rfl) ?_
      refine ns_ldAB [.int .i64 x.key, .int .i64 x.val] ag_45 hs rfl rfl rfl (by rfl) (by rfl) (by decide) ?_
      refine ns_stA (#[.int .i64 x.key, .int .i64 x.val]) ag_45 rfl (by decide) hs rfl rfl rfl rfl (by intro u hu; simp at hu; rcases hu with rfl | rfl <;> rfl) (by simp) ?_
      refine fun w hs => ⟨trivial, ?_⟩
      refine ns_asg rfl rfl ?_
      refine ns_done ?_
      refine WP_ret ?_
      have hk : x.key = k := by have : (x.key == k) = true := hif2; simpa using this
      have hg := find_at hxi hn hk
      have hload := run_loadVarA (P := Try.prog) (t := 45) (n := 2) (ad := ⟨b4, 0, none⟩) (vs := [.int .i64 x.key, .int .i64 x.val]) ag_45 rfl (by decide) w (St.cells (n := 2) hs (by rfl))
      refine ⟨_, resCT 4 45 5 rfl hload, ?_⟩
      rw [hg]
      exact St.mk_pu rfl hs.out
    refine WP_skip ?_
    have hk : x.key ≠ k := by have : (x.key == k) = false := hif2; simpa using this
    -- R6
    refine WP_seqr [⟨0, 0, []⟩, ⟨1, 0, []⟩] (by kernel_rfl) ?_
    refine ns_add rfl rfl rfl rfl (by omega) (by omega) ?_
    refine ns_move rfl rfl ?_
    refine ns_done ?_
    exact ⟨l.length - (i + 1), by omega, i + 1, rfl, by omega, (fun y hy => by
      rw [take_snoc hxi] at hy
      rcases List.mem_append.1 hy with hy | hy
      · exact hn y hy
      · rw [List.mem_singleton.1 hy]; exact hk), rfl, rfl, rfl, rfl, rfl, hs.out⟩
    
  rintro σ w ⟨g4, hg, hs⟩
  obtain ⟨σ, rfl⟩ := rebase g4
  clear g4
  refine WP_seq ?_
  -- R7
  refine WP_seqr [⟨0, 0, []⟩, ⟨1, 2, []⟩, ⟨2, 0, []⟩] (by kernel_rfl) ?_
  refine ns_build [] (#[.int .i64 0, .int .i64 0]) pp_45 zc_45 rfl rfl rfl rfl ?_
  refine ns_stA (#[.int .i64 0, .int .i64 0]) ag_45 rfl (by decide) hs rfl rfl rfl rfl (by intro u hu; simp at hu; rcases hu with rfl | rfl <;> rfl) (by simp) ?_
  refine fun w hs => ⟨trivial, ?_⟩
  refine ns_asg rfl rfl ?_
  refine ns_done ?_
  refine WP_ret ?_
  have hload := run_loadVarA (P := Try.prog) (t := 45) (n := 2) (ad := ⟨b4, 0, none⟩) (vs := [.int .i64 zero.key, .int .i64 zero.val]) ag_45 rfl (by decide) w (St.cells (n := 2) hs (by rfl))
  refine ⟨_, resCT 4 45 5 rfl hload, ?_⟩
  rw [hg]
  exact St.mk_pu rfl hs.out
set_option maxHeartbeats 3200000 in
theorem f11_ok (R : HProp) (v : Value) (os : List Sop) (d key : Int) (hR : RdO R v os) : Tri Try.prog 11 #[.int .i64 d, v, .int .i64 key] R fun r => pu (r = .bool true) * R := by
  obtain ⟨_, a1, c1, rfl, hc1, hrd⟩ := id hR
  intro w0 F w hs
  refine calls_WP 60 #[.tmp 6] Try.func11 rfl Try.ntmps11 rfl (Nat.le_of_ble_eq_true rfl) ?_
  refine WP_seq ?_
  -- R0
  refine WP_seqr [⟨0, 0, []⟩] (by kernel_rfl) ?_
  refine ns_asg rfl rfl ?_
  refine ns_done ?_
  refine WP_seq ?_ -- S1
  refine WP_seq ?_
  -- R1
  refine WP_seqr [⟨0, 0, []⟩, ⟨1, 0, []⟩, ⟨2, 0, []⟩] (by kernel_rfl) ?_
  refine ns_move rfl rfl ?_
  refine ns_len sl_24 rfl rfl rfl ?_
  refine ns_cmp _ rfl rfl rfl rfl rfl ?_
  refine ns_done ?_
  refine WP_if rfl (fun hif1 => ?_) (fun hif1 => ?_)
  · refine WP_seq ?_
    -- R2
    refine WP_seqr [⟨0, 0, []⟩] (by kernel_rfl) ?_
    refine ns_asg rfl rfl ?_
    refine ns_done ?_
    refine WP_ret ?_
    exact ⟨_, res1 _, St.mk_pu rfl hs.out⟩
  refine WP_skip ?_
  refine WP_seq ?_ -- S2
  refine WP_seq ?_
  -- R3
  refine WP_seqr [⟨0, 0, []⟩, ⟨1, 0, []⟩, ⟨2, 2, []⟩, ⟨3, 0, []⟩] (by kernel_rfl) ?_
  refine ns_move rfl rfl ?_
  refine ns_move rfl rfl ?_
  refine ns_call (f20_ok d a1 os.length c1) ck_20 (hs.foc 1) rfl rfl rfl rfl ?_
  intro v17 w hs
  replace hs := hs.pure
  obtain ⟨rfl, hs⟩ := hs
  refine ns_not rfl rfl rfl ?_
  refine ns_done ?_
  refine WP_if rfl (fun hif2 => ?_) (fun hif2 => ?_)
  · refine WP_seq ?_
    -- R4
    refine WP_seqr [⟨0, 0, []⟩] (by kernel_rfl) ?_
    refine ns_asg rfl rfl ?_
    refine ns_done ?_
    refine WP_ret ?_
    exact ⟨_, res1 _, St.mk_pu rfl hs.out⟩
  refine WP_skip ?_
  have hfit : 2 ≤ d ∧ d ≤ 1000 ∧ os.length ≤ 2000 := by simpa using hif2
  obtain ⟨hd, hd2, hn⟩ := hfit
  obtain ⟨D, rfl⟩ : ∃ D : Nat, d = D := ⟨d.toNat, by omega⟩
  have hlen := heldT_len os
  have hsrt := held_srt (onT os)
  refine WP_seq ?_
  -- R5
  refine WP_seqr [⟨0, 0, []⟩, ⟨1, 0, []⟩, ⟨2, 0, []⟩, ⟨3, 0, []⟩, ⟨4, 0, []⟩, ⟨5, 0, []⟩, ⟨6, 2, []⟩, ⟨7, 2, []⟩, ⟨8, 2, []⟩, ⟨9, 0, []⟩, ⟨10, 0, []⟩, ⟨11, 0, []⟩, ⟨12, 0, []⟩, ⟨13, 0, []⟩] (by kernel_rfl) ?_
  refine ns_move rfl rfl ?_
  refine ns_move rfl rfl ?_
  refine ns_move rfl rfl ?_
  refine ns_build [(0, .int .i64 2), (2, .int .i64 key)] (opC (kkL 2 key 0)) pp_26 zc_26 rfl rfl rfl rfl ?_
  refine ns_move rfl rfl ?_
  refine ns_build [(0, .int .i64 1), (2, .int .i64 key), (4, .int .i64 7)] (opC (kkL 1 key 7)) pp_26 zc_26 rfl rfl rfl rfl ?_
  refine ns_call (f21_ok 9 0 0) ck_21 (hs.foc 1) rfl rfl rfl rfl ?_
  intro v26 w hs
  replace hs := hs.pure
  obtain ⟨rfl, hs⟩ := hs
  refine ns_lit [opV (kkL 2 key 0), opV (kkL 1 key 7), opV (allL 9 0 0)] (encO [kkL 2 key 0, kkL 1 key 7, allL 9 0 0]) sl_24 zr_26 (by decide) (by decide) hs rfl rfl rfl rfl (by simp [Value.cells, opV, opC]) rfl ?_
  refine fun b27 w hs hx => ⟨trivial, ?_⟩
  have hmore : RdO (R * pts b27 (.cells (encO [kkL 2 key 0, kkL 1 key 7, allL 9 0 0]).toArray 26 (0, 0))) (.slice (some ⟨b27, 0, none⟩) 3 3) [kkL 2 key 0, kkL 1 key 7, allL 9 0 0] := (lit_rdO b27 [kkL 2 key 0, kkL 1 key 7, allL 9 0 0] (0, 0)).up
  refine ns_call (f22_ok (R * pts b27 (.cells (encO [kkL 2 key 0, kkL 1 key 7, allL 9 0 0]).toArray 26 (0, 0))) (.slice a1 os.length c1) _ os [kkL 2 key 0, kkL 1 key 7, allL 9 0 0] D hR.up hmore (by simp) (by omega) (by omega) (by omega) (by simp) (by simp [allL, kkL])) ck_22 (hs.foc (R * pts b27 (.cells (encO [kkL 2 key 0, kkL 1 key 7, allL 9 0 0]).toArray 26 (0, 0)))) rfl rfl rfl rfl ?_
  intro v28 w hs
  replace hs := hs.ex
  obtain ⟨⟨s, R2⟩, hs⟩ := hs
  replace hs := hs.pu
  obtain ⟨⟨rfl, hra⟩, hs⟩ := hs
  simp only [mul_assoc'] at hs
  generalize afterL [] (onT os) = l at hra hlen hsrt
  rw [run_found l key (by omega)] at hra
  obtain ⟨a4, c4, rfl, hc4⟩ := id hra.form
  obtain ⟨g2, o2, _, s2, e, hi2, hc2⟩ := hra.get (i := 2) rfl
  cases e
  have hi2 : RdI R2 s2 l := hi2
  obtain ⟨g0, o0, _, s0, e, hi0, hc0⟩ := hra.get (i := 0) rfl
  cases e
  refine ns_move rfl rfl ?_
  refine ns_ext rfl rfl rfl rfl ?_
  refine ns_ext rfl rfl rfl rfl ?_
  refine ns_asg rfl rfl ?_
  refine ns_asg rfl rfl ?_
  refine ns_done ?_
  refine WP_seq ?_ -- S3
  refine WP_seq ?_
  -- R6
  refine WP_seqr [⟨0, 0, []⟩, ⟨1, 0, []⟩] (by kernel_rfl) ?_
  refine ns_move rfl rfl ?_
  refine ns_not rfl rfl rfl ?_
  refine ns_done ?_
  refine WP_false rfl ?_ -- if3
  refine WP_skip ?_
  refine WP_seq ?_
  -- R8
  refine WP_seqr [⟨0, 0, []⟩, ⟨1, 0, []⟩, ⟨2, 0, []⟩, ⟨3, 1, []⟩, ⟨4, 0, []⟩, ⟨5, 2, []⟩, ⟨6, 0, []⟩, ⟨7, 0, []⟩, ⟨8, 0, []⟩, ⟨9, 2, []⟩, ⟨10, 2, []⟩, ⟨11, 0, []⟩] (by kernel_rfl) ?_
  refine ns_move rfl rfl ?_
  refine ns_idx 2 sl_28 rfl rfl rfl rfl rfl (by simp) ?_
  refine ns_fld fo_36_2 rfl rfl rfl ?_
  refine ns_ld pl_34 rfl rfl rfl ((hc2 _ _ _ (hs.foc R2)).at 2 rfl) ?_
  refine ns_move rfl rfl ?_
  refine ns_call (f31_ok R2 s2 l key hi2 (by omega)) ck_31 (hs.foc R2) rfl rfl rfl rfl ?_
  intro v39 w hs
  replace hs := hs.pu
  obtain ⟨rfl, hs⟩ := hs
  try simp only [mul_assoc'] at hs
  refine ns_move rfl rfl ?_
  refine ns_ext rfl rfl rfl rfl ?_
  refine ns_ext rfl rfl rfl rfl ?_
  refine ns_alloc zc_45 hs rfl rfl ?_
  intro b9 w hs
  refine ns_stA (#[.int .i64 ((get l key).getD zero).key, .int .i64 ((get l key).getD zero).val]) ag_45 rfl (by decide) hs rfl rfl rfl rfl (by intro u hu; simp at hu; rcases hu with rfl | rfl <;> rfl) (by simp) ?_
  refine fun w hs => ⟨trivial, ?_⟩
  refine ns_asg rfl rfl ?_
  refine ns_done ?_
  refine WP_seq ?_
  -- R9
  refine WP_seqr [⟨0, 0, []⟩, ⟨1, 2, []⟩, ⟨2, 2, []⟩] (by kernel_rfl) ?_
  refine ns_build [] (#[.bool false, .int .i64 0, .slice none 0 0]) pp_36 zc_36 rfl rfl rfl rfl ?_
  refine ns_alloc zc_36 hs rfl rfl ?_
  intro b11 w hs
  refine ns_stA (#[.bool false, .int .i64 0, .slice none 0 0]) ag_36 rfl (by decide) hs rfl rfl rfl rfl (by intro u hu; simp at hu; rcases hu with rfl | rfl | rfl <;> rfl) (by simp) ?_
  refine fun w hs => ⟨trivial, ?_⟩
  refine ns_done ?_
  have hs : St w0 (pts b11 (.cells #[.bool false, .int .i64 0, .slice none 0 0] 36 (0, 0)) * (pts b9 (.cells #[.int .i64 ((get l key).getD zero).key, .int .i64 ((get l key).getD zero).val] 45 (0, 0)) * _)) w := hs
  refine WP_seq_cut (fun σ w => ∃ (s11 : Value) (R3 : HProp), RdI R3 s11 (get l key).toList ∧ σ 7 = .slice (some ⟨g2, o2, none⟩) 3 c4 ∧ σ 10 = .bool (get l key).isSome ∧ σ 11 = .pointer (some ⟨b11, 0, none⟩) ∧ St w0 (pts b11 (.cells #[.bool (get l key).isSome, .int .i64 0, s11] 36 (0, 0)) * (R3 * (R * (R2 * F)))) w) ?_ ?_ -- S4
  · refine WP_seq ?_
    -- R10
    refine WP_seqr [⟨0, 0, []⟩] (by kernel_rfl) ?_
    refine ns_move rfl rfl ?_
    refine ns_done ?_
    refine WP_if rfl (fun hif4 => ?_) (fun hif4 => ?_)
    · -- R11
      refine WP_seqr [⟨0, 1, []⟩, ⟨1, 2, []⟩, ⟨2, 0, []⟩, ⟨3, 2, []⟩] (by kernel_rfl) ?_
      refine ns_ldAB [.int .i64 ((get l key).getD zero).key, .int .i64 ((get l key).getD zero).val] ag_45 hs rfl rfl rfl (by rfl) (by rfl) (by decide) ?_
      refine ns_lit [itV ((get l key).getD zero)] (encs [((get l key).getD zero)]) sl_34 zr_45 (by decide) (by decide) hs rfl rfl rfl rfl (by simp [Value.cells, itV]) rfl ?_
      refine fun b45 w hs hx => ⟨trivial, ?_⟩
      refine ns_build [(0, .bool true), (2, .slice (some ⟨b45, 0, none⟩) 1 1)] (#[.bool true, .int .i64 0, .slice (some ⟨b45, 0, none⟩) 1 1]) pp_36 zc_36 rfl rfl rfl rfl ?_
      refine ns_stA (#[.bool true, .int .i64 0, .slice (some ⟨b45, 0, none⟩) 1 1]) ag_36 rfl (by decide) hs rfl rfl rfl rfl (by intro u hu; simp at hu; rcases hu with rfl | rfl | rfl <;> rfl) (by simp) ?_
      refine fun w hs => ⟨trivial, ?_⟩
      refine ns_done ?_
      have hsm : (get l key).isSome = true := hif4
      obtain ⟨x, hx⟩ := Option.isSome_iff_exists.1 hsm
      have hr : RdI (pts b45 (.cells (encs [((get l key).getD zero)]).toArray 45 (0, 0))) (.slice (some ⟨b45, 0, none⟩) 1 1) (get l key).toList := by
        rw [hx]; exact lit_rdI b45 [x] (0, 0)
      refine ⟨_, _, hr, rfl, rfl, rfl, ?_⟩
      rw [hsm]
      have hs : St w0 (_ * (pts b11 (.cells #[.bool true, .int .i64 0, .slice (some ⟨b45, 0, none⟩) 1 1] 36 (0, 0)) * _)) w := hs
      exact hs.out
    refine WP_skip ?_
    have hsm : (get l key).isSome = false := hif4
    have hx : get l key = none := by simpa using hsm
    refine ⟨.slice none 0 0, 1, by rw [hx]; exact nil_rdI 1, rfl, rfl, rfl, ?_⟩
    rw [hsm, one_mul']
    exact hs.out
  rintro σ w ⟨s11, R3, hr3, g7, g10, g11, hs⟩
  obtain ⟨σ, rfl⟩ := rebase g7
  obtain ⟨σ, rfl⟩ := rebase (σ := σ) g10
  obtain ⟨σ, rfl⟩ := rebase (σ := σ) g11
  clear g7 g10 g11
  refine WP_seq ?_
  -- R12
  refine WP_net hs mix [0, 1, 3, 7, 0, 31, 63, 127, 255, 127, 639, 2047, 4095, 8191] [⟨0, 0, []⟩, ⟨1, 0, []⟩, ⟨2, 0, []⟩, ⟨3, 1, []⟩, ⟨4, 0, []⟩, ⟨5, 0, []⟩, ⟨6, 0, []⟩, ⟨7, 0, []⟩, ⟨8, 0, []⟩, ⟨9, 1, []⟩, ⟨10, 2, []⟩, ⟨11, 2, []⟩, ⟨12, 0, []⟩, ⟨13, 0, []⟩] (by kernel_rfl) ?_
  intro w hs
  refine ns_move rfl rfl ?_
  refine ns_idx 0 sl_28 rfl rfl rfl rfl rfl (by decide) ?_
  refine ns_fld fo_36_0 rfl rfl rfl ?_
  refine ns_ld pl_4 rfl rfl rfl ((hc0 _ _ _ (hs.foc R2)).at 0 rfl) ?_
  refine ns_move rfl rfl ?_
  refine ns_beq2 true bl_4 rfl rfl rfl rfl (by simp) ?_
  refine ns_move rfl rfl ?_
  refine ns_move rfl rfl ?_
  refine ns_sliceLH 1 2 sl_28 rfl rfl rfl rfl rfl rfl rfl (by decide) (by simp at hc4; omega) ?_
  refine ns_ldAB [.bool (get l key).isSome, .int .i64 0, s11] ag_36 hs rfl rfl rfl (by rfl) (by rfl) (by decide) ?_
  refine ns_lit [.agg #[.bool (get l key).isSome, .int .i64 0, s11]] (encA [oneA (get l key)] [s11]) sl_28 zr_36 (by decide) (by decide) hs rfl rfl rfl rfl (by simp [Value.cells]) rfl ?_
  refine fun b57 w hs hx => ⟨trivial, ?_⟩
  have hq1 : RdA R2 _ [oneA (get l key)] := RdA.part rfl hra 1 2 (by decide) (by simp)
  have hq2 := lit_rdA b57 [oneA (get l key)] [s11] R3 (0, 0) rfl (rd_one hr3)
  refine ns_call (f25_ok (R2 * (R3 * pts b57 (.cells (encA [oneA (get l key)] [s11]).toArray 36 (0, 0)))) _ _ [oneA (get l key)] (RdA.up hq1) (RdA.up hq2) (by simp) (by
    intro x hx
    rw [List.mem_singleton.1 hx]
    show (get l key).toList.length < 1000000
    cases get l key <;> simp)) ck_25 (hs.foc (R2 * (R3 * pts b57 (.cells (encA [oneA (get l key)] [s11]).toArray 36 (0, 0))))) rfl rfl rfl rfl ?_
  intro v58 w hs
  replace hs := hs.pu
  obtain ⟨rfl, hs⟩ := hs
  try simp only [mul_assoc'] at hs
  refine ns_pick rfl rfl rfl ?_
  refine ns_asg rfl rfl ?_
  refine ns_done ?_
  refine WP_ret ?_
  exact ⟨_, res1 _, St.mk_pu rfl hs.out⟩
end Go.Proofs.Ytnnembkganlbpaa
/- The walks of the laws on an item put in twice, taken out, put in and taken out again: FnPutTwice, FnDeleted, FnUndone. -/
namespace Go.Proofs.Ytnnembkganlbpaa
open Go Go.Sl Go.Net Go.Wk Go.Bt Go.RowKit

theorem rd_nil (R : HProp) : ∀ (i : Nat) (x : An) (y : Value), ([] : List An)[i]? = some x → ([] : List Value)[i]? = some y → RdI R y x.items := by
  intro i x y hx
  simp at hx
theorem rd_cons {R : HProp} {a : An} {s : Value} {al : List An} {ss : List Value} (h : RdI R s a.items) (ht : ∀ (i : Nat) (x : An) (y : Value), al[i]? = some x → ss[i]? = some y → RdI R y x.items) :
    ∀ (i : Nat) (x : An) (y : Value), (a :: al)[i]? = some x → (s :: ss)[i]? = some y → RdI R y x.items := by
  intro i x y hx hy
  cases i with
  | zero => cases hx; cases hy; exact h
  | succ i => exact ht i x y hx hy
set_option maxHeartbeats 6400000 in
theorem f14_ok (R : HProp) (v : Value) (os : List Sop) (d key value other : Int) (hR : RdO R v os) : Tri Try.prog 14 #[.int .i64 d, v, .int .i64 key, .int .i64 value, .int .i64 other] R fun r => pu (r = .bool true) * R := by
  obtain ⟨_, a1, c1, rfl, hc1, hrd⟩ := id hR
  intro w0 F w hs
  refine calls_WP 84 #[.tmp 10] Try.func14 rfl Try.ntmps14 rfl (Nat.le_of_ble_eq_true rfl) ?_
  refine WP_seq ?_
  -- R0
  refine WP_seqr [⟨0, 0, []⟩] (by kernel_rfl) ?_
  refine ns_asg rfl rfl ?_
  refine ns_done ?_
  refine WP_seq ?_ -- S1
  refine WP_seq ?_
  -- R1
  refine WP_seqr [⟨0, 0, []⟩, ⟨1, 0, []⟩, ⟨2, 0, []⟩] (by kernel_rfl) ?_
  refine ns_move rfl rfl ?_
  refine ns_len sl_24 rfl rfl rfl ?_
  refine ns_cmp _ rfl rfl rfl rfl rfl ?_
  refine ns_done ?_
  refine WP_if rfl (fun hif1 => ?_) (fun hif1 => ?_)
  · refine WP_seq ?_
    -- R2
    refine WP_seqr [⟨0, 0, []⟩] (by kernel_rfl) ?_
    refine ns_asg rfl rfl ?_
    refine ns_done ?_
    refine WP_ret ?_
    exact ⟨_, res1 _, St.mk_pu rfl hs.out⟩
  refine WP_skip ?_
  refine WP_seq ?_ -- S2
  refine WP_seq ?_
  -- R3
  refine WP_seqr [⟨0, 0, []⟩, ⟨1, 0, []⟩, ⟨2, 2, []⟩, ⟨3, 0, []⟩] (by kernel_rfl) ?_
  refine ns_move rfl rfl ?_
  refine ns_move rfl rfl ?_
  refine ns_call (f20_ok d a1 os.length c1) ck_20 (hs.foc 1) rfl rfl rfl rfl ?_
  intro v24 w hs
  replace hs := hs.pure
  obtain ⟨rfl, hs⟩ := hs
  refine ns_not rfl rfl rfl ?_
  refine ns_done ?_
  refine WP_if rfl (fun hif2 => ?_) (fun hif2 => ?_)
  · refine WP_seq ?_
    -- R4
    refine WP_seqr [⟨0, 0, []⟩] (by kernel_rfl) ?_
    refine ns_asg rfl rfl ?_
    refine ns_done ?_
    refine WP_ret ?_
    exact ⟨_, res1 _, St.mk_pu rfl hs.out⟩
  refine WP_skip ?_
  have hfit : 2 ≤ d ∧ d ≤ 1000 ∧ os.length ≤ 2000 := by simpa using hif2
  obtain ⟨hd, hd2, hn⟩ := hfit
  obtain ⟨D, rfl⟩ : ∃ D : Nat, d = D := ⟨d.toNat, by omega⟩
  have hlen := heldT_len os
  have hsrt := held_srt (onT os)
  refine WP_seq ?_
  -- R5
  refine WP_seqr [⟨0, 0, []⟩, ⟨1, 0, []⟩, ⟨2, 0, []⟩, ⟨3, 0, []⟩, ⟨4, 0, []⟩, ⟨5, 0, []⟩, ⟨6, 2, []⟩, ⟨7, 2, []⟩, ⟨8, 2, []⟩, ⟨9, 2, []⟩] (by kernel_rfl) ?_
  refine ns_move rfl rfl ?_
  refine ns_move rfl rfl ?_
  refine ns_build [(0, .int .i64 0), (2, .int .i64 key), (4, .int .i64 value)] (#[.int .i64 0, .int .i64 0, .int .i64 key, .int .i64 0, .int .i64 value, .int .i64 0]) pp_26 zc_26 rfl rfl rfl rfl ?_
  refine ns_move rfl rfl ?_
  refine ns_move rfl rfl ?_
  refine ns_build [(0, .int .i64 0), (2, .int .i64 key), (4, .int .i64 other)] (#[.int .i64 0, .int .i64 0, .int .i64 key, .int .i64 0, .int .i64 other, .int .i64 0]) pp_26 zc_26 rfl rfl rfl rfl ?_
  refine ns_alloc zc_26 hs rfl rfl ?_
  intro b11 w hs
  refine ns_alloc zc_26 hs rfl rfl ?_
  intro b12 w hs
  refine ns_stA (#[.int .i64 0, .int .i64 0, .int .i64 key, .int .i64 0, .int .i64 value, .int .i64 0]) ag_26 rfl (by decide) hs rfl rfl rfl rfl (by intro u hu; simp at hu; rcases hu with rfl | rfl | rfl | rfl | rfl | rfl <;> rfl) (by simp) ?_
  refine fun w hs => ⟨trivial, ?_⟩
  refine ns_stA (#[.int .i64 0, .int .i64 0, .int .i64 key, .int .i64 0, .int .i64 other, .int .i64 0]) ag_26 rfl (by decide) hs rfl rfl rfl rfl (by intro u hu; simp at hu; rcases hu with rfl | rfl | rfl | rfl | rfl | rfl <;> rfl) (by simp) ?_
  refine fun w hs => ⟨trivial, ?_⟩
  refine ns_done ?_
  have hs : St w0 (pts b12 (.cells #[.int .i64 0, .int .i64 0, .int .i64 key, .int .i64 0, .int .i64 other, .int .i64 0] 26 (0, 0)) * (pts b11 (.cells #[.int .i64 0, .int .i64 0, .int .i64 key, .int .i64 0, .int .i64 value, .int .i64 0] 26 (0, 0)) * _)) w := hs
  refine WP_seq ?_
  -- R6
  refine WP_seqr [⟨0, 0, []⟩, ⟨1, 0, []⟩, ⟨2, 0, []⟩, ⟨3, 2, []⟩, ⟨4, 2, []⟩, ⟨5, 2, []⟩, ⟨6, 2, []⟩] (by kernel_rfl) ?_
  refine ns_move rfl rfl ?_
  refine ns_build [(0, .int .i64 1), (2, .int .i64 key)] (#[.int .i64 1, .int .i64 0, .int .i64 key, .int .i64 0, .int .i64 0, .int .i64 0]) pp_26 zc_26 rfl rfl rfl rfl ?_
  refine ns_build [(0, .int .i64 8)] (#[.int .i64 8, .int .i64 0, .int .i64 0, .int .i64 0, .int .i64 0, .int .i64 0]) pp_26 zc_26 rfl rfl rfl rfl ?_
  refine ns_alloc zc_26 hs rfl rfl ?_
  intro b13 w hs
  refine ns_alloc zc_26 hs rfl rfl ?_
  intro b14 w hs
  refine ns_stA (#[.int .i64 1, .int .i64 0, .int .i64 key, .int .i64 0, .int .i64 0, .int .i64 0]) ag_26 rfl (by decide) hs rfl rfl rfl rfl (by intro u hu; simp at hu; rcases hu with rfl | rfl | rfl | rfl | rfl | rfl <;> rfl) (by simp) ?_
  refine fun w hs => ⟨trivial, ?_⟩
  refine ns_stA (#[.int .i64 8, .int .i64 0, .int .i64 0, .int .i64 0, .int .i64 0, .int .i64 0]) ag_26 rfl (by decide) hs rfl rfl rfl rfl (by intro u hu; simp at hu; rcases hu with rfl | rfl | rfl | rfl | rfl | rfl <;> rfl) (by simp) ?_
  refine fun w hs => ⟨trivial, ?_⟩
  refine ns_done ?_
  have hs : St w0 (pts b14 (.cells #[.int .i64 8, .int .i64 0, .int .i64 0, .int .i64 0, .int .i64 0, .int .i64 0] 26 (0, 0)) * (pts b13 (.cells #[.int .i64 1, .int .i64 0, .int .i64 key, .int .i64 0, .int .i64 0, .int .i64 0] 26 (0, 0)) * _)) w := hs
  refine WP_seq ?_
  -- R7
  refine WP_seqr [⟨0, 0, []⟩, ⟨1, 0, []⟩, ⟨2, 1, []⟩, ⟨3, 1, []⟩, ⟨4, 1, []⟩, ⟨5, 1, []⟩, ⟨6, 1, []⟩, ⟨7, 1, []⟩, ⟨8, 2, []⟩, ⟨9, 2, []⟩, ⟨10, 0, []⟩, ⟨11, 0, []⟩, ⟨12, 0, []⟩, ⟨13, 0, []⟩, ⟨14, 0, []⟩] (by kernel_rfl) ?_
  refine ns_move rfl rfl ?_
  refine ns_move rfl rfl ?_
  refine ns_ldAB [.int .i64 0, .int .i64 0, .int .i64 key, .int .i64 0, .int .i64 value, .int .i64 0] ag_26 hs rfl rfl rfl (by rfl) (by rfl) (by decide) ?_
  refine ns_ldAB [.int .i64 1, .int .i64 0, .int .i64 key, .int .i64 0, .int .i64 0, .int .i64 0] ag_26 hs rfl rfl rfl (by rfl) (by rfl) (by decide) ?_
  refine ns_ldAB [.int .i64 8, .int .i64 0, .int .i64 0, .int .i64 0, .int .i64 0, .int .i64 0] ag_26 hs rfl rfl rfl (by rfl) (by rfl) (by decide) ?_
  refine ns_ldAB [.int .i64 0, .int .i64 0, .int .i64 key, .int .i64 0, .int .i64 other, .int .i64 0] ag_26 hs rfl rfl rfl (by rfl) (by rfl) (by decide) ?_
  refine ns_ldAB [.int .i64 1, .int .i64 0, .int .i64 key, .int .i64 0, .int .i64 0, .int .i64 0] ag_26 hs rfl rfl rfl (by rfl) (by rfl) (by decide) ?_
  refine ns_ldAB [.int .i64 8, .int .i64 0, .int .i64 0, .int .i64 0, .int .i64 0, .int .i64 0] ag_26 hs rfl rfl rfl (by rfl) (by rfl) (by decide) ?_
  refine ns_lit [opV (kkL 0 key value), opV (kkL 1 key 0), opV (kdL 8), opV (kkL 0 key other), opV (kkL 1 key 0), opV (kdL 8)] (encO [kkL 0 key value, kkL 1 key 0, kdL 8, kkL 0 key other, kkL 1 key 0, kdL 8]) sl_24 zr_26 (by decide) (by decide) hs rfl rfl rfl rfl (by simp [Value.cells, opV, opC]) rfl ?_
  refine fun b44 w hs hx => ⟨trivial, ?_⟩
  have hmore : RdO (R * pts b44 (.cells (encO [kkL 0 key value, kkL 1 key 0, kdL 8, kkL 0 key other, kkL 1 key 0, kdL 8]).toArray 26 (0, 0))) (.slice (some ⟨b44, 0, none⟩) 6 6) [kkL 0 key value, kkL 1 key 0, kdL 8, kkL 0 key other, kkL 1 key 0, kdL 8] := (lit_rdO b44 [kkL 0 key value, kkL 1 key 0, kdL 8, kkL 0 key other, kkL 1 key 0, kdL 8] (0, 0)).up
  refine ns_call (f22_ok (R * pts b44 (.cells (encO [kkL 0 key value, kkL 1 key 0, kdL 8, kkL 0 key other, kkL 1 key 0, kdL 8]).toArray 26 (0, 0))) (.slice a1 os.length c1) _ os [kkL 0 key value, kkL 1 key 0, kdL 8, kkL 0 key other, kkL 1 key 0, kdL 8] D hR.up hmore (by simp) (by omega) (by omega) (by omega) (by simp) (by simp [kdL, kkL])) ck_22 (hs.foc (R * pts b44 (.cells (encO [kkL 0 key value, kkL 1 key 0, kdL 8, kkL 0 key other, kkL 1 key 0, kdL 8]).toArray 26 (0, 0)))) rfl rfl rfl rfl ?_
  intro v45 w hs
  replace hs := hs.ex
  obtain ⟨⟨s, R2⟩, hs⟩ := hs
  replace hs := hs.pu
  obtain ⟨⟨rfl, hra⟩, hs⟩ := hs
  simp only [mul_assoc'] at hs
  generalize afterL [] (onT os) = l at hra hlen hsrt
  rw [run_twice hsrt key value other] at hra
  have hpos := len_put_pos hsrt ⟨key, value⟩
  obtain ⟨a4, c4, rfl, hc4⟩ := id hra.form
  obtain ⟨g2, o2, _, s2, e, hi2, hc2⟩ := hra.get (i := 2) rfl
  cases e
  refine ns_move rfl rfl ?_
  refine ns_ext rfl rfl rfl rfl ?_
  refine ns_ext rfl rfl rfl rfl ?_
  refine ns_asg rfl rfl ?_
  refine ns_asg rfl rfl ?_
  refine ns_done ?_
  refine WP_seq ?_ -- S3
  refine WP_seq ?_
  -- R8
  refine WP_seqr [⟨0, 0, []⟩, ⟨1, 0, []⟩] (by kernel_rfl) ?_
  refine ns_move rfl rfl ?_
  refine ns_not rfl rfl rfl ?_
  refine ns_done ?_
  refine WP_false rfl ?_ -- if3
  refine WP_skip ?_
  refine WP_seq ?_
  -- R10
  refine WP_seqr [⟨0, 0, []⟩, ⟨1, 0, []⟩, ⟨2, 0, []⟩, ⟨3, 2, []⟩, ⟨4, 0, []⟩, ⟨5, 2, []⟩, ⟨6, 2, []⟩] (by kernel_rfl) ?_
  refine ns_move rfl rfl ?_
  refine ns_move rfl rfl ?_
  refine ns_build [(0, .int .i64 key), (1, .int .i64 value)] (#[.int .i64 key, .int .i64 value]) pp_45 zc_45 rfl rfl rfl rfl ?_
  refine ns_lit [itV ⟨key, value⟩] (encs [⟨key, value⟩]) sl_34 zr_45 (by decide) (by decide) hs rfl rfl rfl rfl (by simp [Value.cells, itV]) rfl ?_
  refine fun b53 w hs hx => ⟨trivial, ?_⟩
  refine ns_build [(0, .bool true), (2, .slice (some ⟨b53, 0, none⟩) 1 1)] (#[.bool true, .int .i64 0, .slice (some ⟨b53, 0, none⟩) 1 1]) pp_36 zc_36 rfl rfl rfl rfl ?_
  refine ns_alloc zc_36 hs rfl rfl ?_
  intro b17 w hs
  refine ns_stA (#[.bool true, .int .i64 0, .slice (some ⟨b53, 0, none⟩) 1 1]) ag_36 rfl (by decide) hs rfl rfl rfl rfl (by intro u hu; simp at hu; rcases hu with rfl | rfl | rfl <;> rfl) (by simp) ?_
  refine fun w hs => ⟨trivial, ?_⟩
  refine ns_done ?_
  have hs : St w0 (pts b17 (.cells #[.bool true, .int .i64 0, .slice (some ⟨b53, 0, none⟩) 1 1] 36 (0, 0)) * _) w := hs
  refine WP_seq ?_
  -- R11
  refine WP_seqr [⟨0, 0, []⟩, ⟨1, 0, []⟩, ⟨2, 0, []⟩, ⟨3, 2, []⟩, ⟨4, 0, []⟩, ⟨5, 2, []⟩, ⟨6, 2, []⟩] (by kernel_rfl) ?_
  refine ns_move rfl rfl ?_
  refine ns_move rfl rfl ?_
  refine ns_build [(0, .int .i64 key), (1, .int .i64 other)] (#[.int .i64 key, .int .i64 other]) pp_45 zc_45 rfl rfl rfl rfl ?_
  refine ns_lit [itV ⟨key, other⟩] (encs [⟨key, other⟩]) sl_34 zr_45 (by decide) (by decide) hs rfl rfl rfl rfl (by simp [Value.cells, itV]) rfl ?_
  refine fun b58 w hs hx => ⟨trivial, ?_⟩
  refine ns_build [(0, .bool true), (2, .slice (some ⟨b58, 0, none⟩) 1 1)] (#[.bool true, .int .i64 0, .slice (some ⟨b58, 0, none⟩) 1 1]) pp_36 zc_36 rfl rfl rfl rfl ?_
  refine ns_alloc zc_36 hs rfl rfl ?_
  intro b18 w hs
  refine ns_stA (#[.bool true, .int .i64 0, .slice (some ⟨b58, 0, none⟩) 1 1]) ag_36 rfl (by decide) hs rfl rfl rfl rfl (by intro u hu; simp at hu; rcases hu with rfl | rfl | rfl <;> rfl) (by simp) ?_
  refine fun w hs => ⟨trivial, ?_⟩
  refine ns_done ?_
  have hs : St w0 (pts b18 (.cells #[.bool true, .int .i64 0, .slice (some ⟨b58, 0, none⟩) 1 1] 36 (0, 0)) * _) w := hs
  refine WP_seq ?_
  -- R12
  refine WP_net hs mix [0, 1, 0, 0, 8, 24, 56, 120, 0, 0, 0, 1024, 3072, 7168, 15360, 32764, 65535, 131071, 262143, 524287, 1048575, 2097151, 4194303, 8388607, 16777215] [⟨0, 0, []⟩, ⟨1, 0, []⟩, ⟨2, 1, []⟩, ⟨3, 0, []⟩, ⟨4, 0, []⟩, ⟨5, 0, []⟩, ⟨6, 1, []⟩, ⟨7, 0, []⟩, ⟨8, 1, []⟩, ⟨9, 1, []⟩, ⟨10, 0, []⟩, ⟨11, 0, []⟩, ⟨12, 0, []⟩, ⟨13, 1, []⟩, ⟨14, 0, []⟩, ⟨15, 2, []⟩, ⟨16, 2, []⟩, ⟨17, 0, []⟩, ⟨18, 0, []⟩, ⟨19, 0, []⟩, ⟨20, 0, []⟩, ⟨21, 1, []⟩, ⟨22, 0, []⟩, ⟨23, 0, []⟩, ⟨24, 0, []⟩] (by kernel_rfl) ?_
  intro w hs
  refine ns_move rfl rfl ?_
  refine ns_sliceLo 1 sl_28 rfl rfl rfl rfl rfl (by simp) ?_
  refine ns_ldAB [.bool true, .int .i64 0, .slice (some ⟨b53, 0, none⟩) 1 1] ag_36 hs rfl rfl rfl (by rfl) (by rfl) (by decide) ?_
  refine ns_move rfl rfl ?_
  refine ns_idx 2 sl_28 rfl rfl rfl rfl rfl (by simp) ?_
  refine ns_fld fo_36_1 rfl rfl rfl ?_
  refine ns_ld pl_2 rfl rfl rfl ((hc2 _ _ _ (hs.foc R2)).at 1 rfl) ?_
  refine ns_build [(1, .int .i64 (put l ⟨key, value⟩).length)] (#[.bool false, .int .i64 (put l ⟨key, value⟩).length, .slice none 0 0]) pp_36 zc_36 rfl rfl rfl rfl ?_
  refine ns_ldAB [.bool true, .int .i64 0, .slice (some ⟨b53, 0, none⟩) 1 1] ag_36 hs rfl rfl rfl (by rfl) (by rfl) (by decide) ?_
  refine ns_ldAB [.bool true, .int .i64 0, .slice (some ⟨b58, 0, none⟩) 1 1] ag_36 hs rfl rfl rfl (by rfl) (by rfl) (by decide) ?_
  refine ns_move rfl rfl ?_
  refine ns_idx 2 sl_28 rfl rfl rfl rfl rfl (by simp) ?_
  refine ns_fld fo_36_1 rfl rfl rfl ?_
  refine ns_ld pl_2 rfl rfl rfl ((hc2 _ _ _ (hs.foc R2)).at 1 rfl) ?_
  refine ns_build [(1, .int .i64 (put l ⟨key, value⟩).length)] (#[.bool false, .int .i64 (put l ⟨key, value⟩).length, .slice none 0 0]) pp_36 zc_36 rfl rfl rfl rfl ?_
  refine ns_lit [.agg #[.bool true, .int .i64 0, .slice (some ⟨b53, 0, none⟩) 1 1], .agg #[.bool false, .int .i64 (put l ⟨key, value⟩).length, .slice none 0 0], .agg #[.bool true, .int .i64 0, .slice (some ⟨b53, 0, none⟩) 1 1], .agg #[.bool true, .int .i64 0, .slice (some ⟨b58, 0, none⟩) 1 1], .agg #[.bool false, .int .i64 (put l ⟨key, value⟩).length, .slice none 0 0]] (encA [⟨true, 0, [⟨key, value⟩]⟩, ⟨false, (put l ⟨key, value⟩).length, []⟩, ⟨true, 0, [⟨key, value⟩]⟩, ⟨true, 0, [⟨key, other⟩]⟩, ⟨false, (put l ⟨key, value⟩).length, []⟩] [.slice (some ⟨b53, 0, none⟩) 1 1, .slice none 0 0, .slice (some ⟨b53, 0, none⟩) 1 1, .slice (some ⟨b58, 0, none⟩) 1 1, .slice none 0 0]) sl_28 zr_36 (by decide) (by decide) hs rfl rfl rfl rfl (by simp [Value.cells]) rfl ?_
  refine fun b75 w hs hx => ⟨trivial, ?_⟩
  have hq1 : RdA R2 _ [⟨true, 0, [⟨key, value⟩]⟩, ⟨false, (put l ⟨key, value⟩).length, []⟩, ⟨true, 0, [⟨key, value⟩]⟩, ⟨true, 0, [⟨key, other⟩]⟩, ⟨false, (put l ⟨key, value⟩).length, []⟩] := RdA.tail rfl hra 1 (by simp)
  have hi53 : RdI (pts b53 (.cells (encs [⟨key, value⟩]).toArray 45 (0, 0)) * pts b58 (.cells (encs [⟨key, other⟩]).toArray 45 (0, 0))) (.slice (some ⟨b53, 0, none⟩) 1 1) [⟨key, value⟩] := (lit_rdI b53 [⟨key, value⟩] (0, 0)).up
  have hi58 : RdI (pts b53 (.cells (encs [⟨key, value⟩]).toArray 45 (0, 0)) * pts b58 (.cells (encs [⟨key, other⟩]).toArray 45 (0, 0))) (.slice (some ⟨b58, 0, none⟩) 1 1) [⟨key, other⟩] := (lit_rdI b58 [⟨key, other⟩] (0, 0)).up
  have hq2 := lit_rdA b75 [⟨true, 0, [⟨key, value⟩]⟩, ⟨false, (put l ⟨key, value⟩).length, []⟩, ⟨true, 0, [⟨key, value⟩]⟩, ⟨true, 0, [⟨key, other⟩]⟩, ⟨false, (put l ⟨key, value⟩).length, []⟩] [.slice (some ⟨b53, 0, none⟩) 1 1, .slice none 0 0, .slice (some ⟨b53, 0, none⟩) 1 1, .slice (some ⟨b58, 0, none⟩) 1 1, .slice none 0 0] (pts b53 (.cells (encs [⟨key, value⟩]).toArray 45 (0, 0)) * pts b58 (.cells (encs [⟨key, other⟩]).toArray 45 (0, 0))) (0, 0) rfl (rd_cons hi53 (rd_cons (nil_rdI _) (rd_cons hi53 (rd_cons hi58 (rd_cons (nil_rdI _) (rd_nil _))))))
  refine ns_call (f25_ok (R2 * (pts b53 (.cells (encs [⟨key, value⟩]).toArray 45 (0, 0)) * (pts b58 (.cells (encs [⟨key, other⟩]).toArray 45 (0, 0)) * pts b75 (.cells (encA [⟨true, 0, [⟨key, value⟩]⟩, ⟨false, (put l ⟨key, value⟩).length, []⟩, ⟨true, 0, [⟨key, value⟩]⟩, ⟨true, 0, [⟨key, other⟩]⟩, ⟨false, (put l ⟨key, value⟩).length, []⟩] [.slice (some ⟨b53, 0, none⟩) 1 1, .slice none 0 0, .slice (some ⟨b53, 0, none⟩) 1 1, .slice (some ⟨b58, 0, none⟩) 1 1, .slice none 0 0]).toArray 36 (0, 0))))) _ _ [⟨true, 0, [⟨key, value⟩]⟩, ⟨false, (put l ⟨key, value⟩).length, []⟩, ⟨true, 0, [⟨key, value⟩]⟩, ⟨true, 0, [⟨key, other⟩]⟩, ⟨false, (put l ⟨key, value⟩).length, []⟩] (RdA.up hq1) (RdA.up hq2) (by simp) (by
    intro x hx
    simp only [List.mem_cons, List.not_mem_nil, or_false] at hx
    rcases hx with rfl | rfl | rfl | rfl | rfl <;> simp)) ck_25 (hs.foc (R2 * (pts b53 (.cells (encs [⟨key, value⟩]).toArray 45 (0, 0)) * (pts b58 (.cells (encs [⟨key, other⟩]).toArray 45 (0, 0)) * pts b75 (.cells (encA [⟨true, 0, [⟨key, value⟩]⟩, ⟨false, (put l ⟨key, value⟩).length, []⟩, ⟨true, 0, [⟨key, value⟩]⟩, ⟨true, 0, [⟨key, other⟩]⟩, ⟨false, (put l ⟨key, value⟩).length, []⟩] [.slice (some ⟨b53, 0, none⟩) 1 1, .slice none 0 0, .slice (some ⟨b53, 0, none⟩) 1 1, .slice (some ⟨b58, 0, none⟩) 1 1, .slice none 0 0]).toArray 36 (0, 0)))))) rfl rfl rfl rfl ?_
  intro v76 w hs
  replace hs := hs.pu
  obtain ⟨rfl, hs⟩ := hs
  try simp only [mul_assoc'] at hs
  refine ns_move rfl rfl ?_
  refine ns_move rfl rfl ?_
  refine ns_idx 2 sl_28 rfl rfl rfl rfl rfl (by simp) ?_
  refine ns_fld fo_36_1 rfl rfl rfl ?_
  refine ns_ld pl_2 rfl rfl rfl ((hc2 _ _ _ (hs.foc R2)).at 1 rfl) ?_
  refine ns_cmp true rfl rfl rfl rfl (congrArg some (decide_eq_true (by show (1 : Int) ≤ (((put l ⟨key, value⟩).length : Nat) : Int); omega))) ?_
  refine ns_pick rfl rfl rfl ?_
  refine ns_asg rfl rfl ?_
  refine ns_done ?_
  refine WP_ret ?_
  exact ⟨_, res1 _, St.mk_pu rfl hs.out⟩
set_option maxHeartbeats 6400000 in
theorem f8_ok (R : HProp) (v : Value) (os : List Sop) (d key : Int) (hR : RdO R v os) : Tri Try.prog 8 #[.int .i64 d, v, .int .i64 key] R fun r => pu (r = .bool true) * R := by
  obtain ⟨_, a1, c1, rfl, hc1, hrd⟩ := id hR
  intro w0 F w hs
  refine calls_WP 62 #[.tmp 6] Try.func8 rfl Try.ntmps8 rfl (Nat.le_of_ble_eq_true rfl) ?_
  refine WP_seq ?_
  -- R0
  refine WP_seqr [⟨0, 0, []⟩] (by kernel_rfl) ?_
  refine ns_asg rfl rfl ?_
  refine ns_done ?_
  refine WP_seq ?_ -- S1
  refine WP_seq ?_
  -- R1
  refine WP_seqr [⟨0, 0, []⟩, ⟨1, 0, []⟩, ⟨2, 0, []⟩] (by kernel_rfl) ?_
  refine ns_move rfl rfl ?_
  refine ns_len sl_24 rfl rfl rfl ?_
  refine ns_cmp _ rfl rfl rfl rfl rfl ?_
  refine ns_done ?_
  refine WP_if rfl (fun hif1 => ?_) (fun hif1 => ?_)
  · refine WP_seq ?_
    -- R2
    refine WP_seqr [⟨0, 0, []⟩] (by kernel_rfl) ?_
    refine ns_asg rfl rfl ?_
    refine ns_done ?_
    refine WP_ret ?_
    exact ⟨_, res1 _, St.mk_pu rfl hs.out⟩
  refine WP_skip ?_
  refine WP_seq ?_ -- S2
  refine WP_seq ?_
  -- R3
  refine WP_seqr [⟨0, 0, []⟩, ⟨1, 0, []⟩, ⟨2, 2, []⟩, ⟨3, 0, []⟩] (by kernel_rfl) ?_
  refine ns_move rfl rfl ?_
  refine ns_move rfl rfl ?_
  refine ns_call (f20_ok d a1 os.length c1) ck_20 (hs.foc 1) rfl rfl rfl rfl ?_
  intro v16 w hs
  replace hs := hs.pure
  obtain ⟨rfl, hs⟩ := hs
  refine ns_not rfl rfl rfl ?_
  refine ns_done ?_
  refine WP_if rfl (fun hif2 => ?_) (fun hif2 => ?_)
  · refine WP_seq ?_
    -- R4
    refine WP_seqr [⟨0, 0, []⟩] (by kernel_rfl) ?_
    refine ns_asg rfl rfl ?_
    refine ns_done ?_
    refine WP_ret ?_
    exact ⟨_, res1 _, St.mk_pu rfl hs.out⟩
  refine WP_skip ?_
  have hfit : 2 ≤ d ∧ d ≤ 1000 ∧ os.length ≤ 2000 := by simpa using hif2
  obtain ⟨hd, hd2, hn⟩ := hfit
  obtain ⟨D, rfl⟩ : ∃ D : Nat, d = D := ⟨d.toNat, by omega⟩
  have hlen := heldT_len os
  have hsrt := held_srt (onT os)
  refine WP_seq ?_
  -- R5
  refine WP_seqr [⟨0, 0, []⟩, ⟨1, 0, []⟩, ⟨2, 0, []⟩, ⟨3, 0, []⟩, ⟨4, 2, []⟩, ⟨5, 2, []⟩, ⟨6, 2, []⟩, ⟨7, 2, []⟩] (by kernel_rfl) ?_
  refine ns_move rfl rfl ?_
  refine ns_build [(0, .int .i64 1), (2, .int .i64 key)] (#[.int .i64 1, .int .i64 0, .int .i64 key, .int .i64 0, .int .i64 0, .int .i64 0]) pp_26 zc_26 rfl rfl rfl rfl ?_
  refine ns_move rfl rfl ?_
  refine ns_build [(0, .int .i64 3), (2, .int .i64 key), (4, .int .i64 5)] (#[.int .i64 3, .int .i64 0, .int .i64 key, .int .i64 0, .int .i64 5, .int .i64 0]) pp_26 zc_26 rfl rfl rfl rfl ?_
  refine ns_alloc zc_26 hs rfl rfl ?_
  intro b7 w hs
  refine ns_alloc zc_26 hs rfl rfl ?_
  intro b8 w hs
  refine ns_stA (#[.int .i64 1, .int .i64 0, .int .i64 key, .int .i64 0, .int .i64 0, .int .i64 0]) ag_26 rfl (by decide) hs rfl rfl rfl rfl (by intro u hu; simp at hu; rcases hu with rfl | rfl | rfl | rfl | rfl | rfl <;> rfl) (by simp) ?_
  refine fun w hs => ⟨trivial, ?_⟩
  refine ns_stA (#[.int .i64 3, .int .i64 0, .int .i64 key, .int .i64 0, .int .i64 5, .int .i64 0]) ag_26 rfl (by decide) hs rfl rfl rfl rfl (by intro u hu; simp at hu; rcases hu with rfl | rfl | rfl | rfl | rfl | rfl <;> rfl) (by simp) ?_
  refine fun w hs => ⟨trivial, ?_⟩
  refine ns_done ?_
  have hs : St w0 (pts b8 (.cells #[.int .i64 3, .int .i64 0, .int .i64 key, .int .i64 0, .int .i64 5, .int .i64 0] 26 (0, 0)) * (pts b7 (.cells #[.int .i64 1, .int .i64 0, .int .i64 key, .int .i64 0, .int .i64 0, .int .i64 0] 26 (0, 0)) * _)) w := hs
  refine WP_seq ?_
  -- R6
  refine WP_net hs mix [0, 0, 0, 0, 0, 0, 0, 4, 252, 511, 1023, 2047, 2047, 4095, 16383] [⟨0, 0, []⟩, ⟨1, 0, []⟩, ⟨3, 1, []⟩, ⟨4, 1, []⟩, ⟨5, 1, []⟩, ⟨6, 1, []⟩, ⟨2, 2, [3, 4, 5, 6]⟩, ⟨7, 2, [3, 4, 5, 6]⟩, ⟨8, 2, []⟩, ⟨9, 2, []⟩, ⟨10, 0, []⟩, ⟨11, 0, []⟩, ⟨12, 0, []⟩, ⟨13, 0, []⟩, ⟨14, 0, []⟩] (by kernel_rfl) ?_
  intro w hs
  refine ns_move rfl rfl ?_
  refine ns_move rfl rfl ?_
  refine ns_ldAB [.int .i64 1, .int .i64 0, .int .i64 key, .int .i64 0, .int .i64 0, .int .i64 0] ag_26 hs rfl rfl rfl (by rfl) (by rfl) (by decide) ?_
  refine ns_ldAB [.int .i64 3, .int .i64 0, .int .i64 key, .int .i64 0, .int .i64 5, .int .i64 0] ag_26 hs rfl rfl rfl (by rfl) (by rfl) (by decide) ?_
  refine ns_ldAB [.int .i64 1, .int .i64 0, .int .i64 key, .int .i64 0, .int .i64 0, .int .i64 0] ag_26 hs rfl rfl rfl (by rfl) (by rfl) (by decide) ?_
  refine ns_ldAB [.int .i64 3, .int .i64 0, .int .i64 key, .int .i64 0, .int .i64 5, .int .i64 0] ag_26 hs rfl rfl rfl (by rfl) (by rfl) (by decide) ?_
  refine ns_callK (f21_ok 9 0 0) ck_21 (hs.foc 1) rfl rfl rfl rfl ?_
  refine fun v25 w hs => ?_
  replace hs := hs.pure
  obtain ⟨rfl, hs⟩ := hs
  refine ⟨⟨St.cells (n := 6) (b := b7) (o := 0) hs (by rfl), St.cells (n := 6) (b := b8) (o := 0) hs (by rfl), St.cells (n := 6) (b := b7) (o := 0) hs (by rfl), St.cells (n := 6) (b := b8) (o := 0) hs (by rfl), trivial⟩, ?_⟩
  refine ns_callK (f21_ok 9 0 0) ck_21 (hs.foc 1) rfl rfl rfl rfl ?_
  refine fun v30 w hs => ?_
  replace hs := hs.pure
  obtain ⟨rfl, hs⟩ := hs
  refine ⟨⟨St.cells (n := 6) (b := b7) (o := 0) hs (by rfl), St.cells (n := 6) (b := b8) (o := 0) hs (by rfl), St.cells (n := 6) (b := b7) (o := 0) hs (by rfl), St.cells (n := 6) (b := b8) (o := 0) hs (by rfl), trivial⟩, ?_⟩
  refine ns_lit [opV (allL 9 0 0), opV (kkL 1 key 0), opV (kkL 3 key 5), opV (kkL 1 key 0), opV (kkL 3 key 5), opV (allL 9 0 0)] (encO [allL 9 0 0, kkL 1 key 0, kkL 3 key 5, kkL 1 key 0, kkL 3 key 5, allL 9 0 0]) sl_24 zr_26 (by decide) (by decide) hs rfl rfl rfl rfl (by simp [Value.cells, opV, opC]) rfl ?_
  refine fun b31 w hs hx => ⟨trivial, ?_⟩
  have hmore : RdO (R * pts b31 (.cells (encO [allL 9 0 0, kkL 1 key 0, kkL 3 key 5, kkL 1 key 0, kkL 3 key 5, allL 9 0 0]).toArray 26 (0, 0))) (.slice (some ⟨b31, 0, none⟩) 6 6) [allL 9 0 0, kkL 1 key 0, kkL 3 key 5, kkL 1 key 0, kkL 3 key 5, allL 9 0 0] := (lit_rdO b31 [allL 9 0 0, kkL 1 key 0, kkL 3 key 5, kkL 1 key 0, kkL 3 key 5, allL 9 0 0] (0, 0)).up
  refine ns_call (f22_ok (R * pts b31 (.cells (encO [allL 9 0 0, kkL 1 key 0, kkL 3 key 5, kkL 1 key 0, kkL 3 key 5, allL 9 0 0]).toArray 26 (0, 0))) (.slice a1 os.length c1) _ os [allL 9 0 0, kkL 1 key 0, kkL 3 key 5, kkL 1 key 0, kkL 3 key 5, allL 9 0 0] D hR.up hmore (by simp) (by omega) (by omega) (by omega) (by simp) (by simp [allL, kkL])) ck_22 (hs.foc (R * pts b31 (.cells (encO [allL 9 0 0, kkL 1 key 0, kkL 3 key 5, kkL 1 key 0, kkL 3 key 5, allL 9 0 0]).toArray 26 (0, 0)))) rfl rfl rfl rfl ?_
  intro v32 w hs
  replace hs := hs.ex
  obtain ⟨⟨s, R2⟩, hs⟩ := hs
  replace hs := hs.pu
  obtain ⟨⟨rfl, hra⟩, hs⟩ := hs
  simp only [mul_assoc'] at hs
  generalize afterL [] (onT os) = l at hra hlen hsrt
  rw [run_deleted l key (by omega)] at hra
  obtain ⟨a4, c4, rfl, hc4⟩ := id hra.form
  obtain ⟨g0, o0, _, s0, e, hi0, hc0⟩ := hra.get (i := 0) rfl
  cases e
  obtain ⟨g5, o5, _, s5, e, hi5, hc5⟩ := hra.get (i := 5) rfl
  cases e
  have hi0 : RdI R2 s0 l := hi0
  have hi5 : RdI R2 s5 (rem l key) := hi5
  have hrl : (rem l key).length ≤ l.length := List.length_filter_le ..
  refine ns_move rfl rfl ?_
  refine ns_ext rfl rfl rfl rfl ?_
  refine ns_ext rfl rfl rfl rfl ?_
  refine ns_asg rfl rfl ?_
  refine ns_asg rfl rfl ?_
  refine ns_done ?_
  refine WP_seq ?_ -- S3
  refine WP_seq ?_
  -- R7
  refine WP_net hs mix [0, 1, 3, 7, 15, 7, 39, 127, 255, 511] [⟨0, 0, []⟩, ⟨1, 0, []⟩, ⟨2, 0, []⟩, ⟨3, 0, []⟩, ⟨4, 0, []⟩, ⟨5, 0, []⟩, ⟨6, 0, []⟩, ⟨7, 2, []⟩, ⟨8, 0, []⟩, ⟨9, 0, []⟩] (by kernel_rfl) ?_
  intro w hs
  refine ns_move rfl rfl ?_
  refine ns_not rfl rfl rfl ?_
  refine ns_move rfl rfl ?_
  refine ns_move rfl rfl ?_
  refine ns_sliceLH 1 2 sl_28 rfl rfl rfl rfl rfl rfl rfl (by decide) (by simp at hc4; omega) ?_
  refine ns_move rfl rfl ?_
  refine ns_sliceLH 2 3 sl_28 rfl rfl rfl rfl rfl rfl rfl (by decide) (by simp at hc4; omega) ?_
  have hq1 : RdA R2 _ [oneA (get l key)] := RdA.part rfl hra 1 2 (by decide) (by simp)
  have hq2 : RdA R2 _ [oneA (get l key)] := RdA.part rfl hra 2 3 (by decide) (by simp)
  refine ns_call (f25_ok R2 _ _ [oneA (get l key)] hq1 hq2 (by simp) (by
    intro x hx
    rw [List.mem_singleton.1 hx]
    show (get l key).toList.length < 1000000
    cases get l key <;> simp)) ck_25 (hs.foc R2) rfl rfl rfl rfl ?_
  intro v42 w hs
  replace hs := hs.pu
  obtain ⟨rfl, hs⟩ := hs
  try simp only [mul_assoc'] at hs
  refine ns_not rfl rfl rfl ?_
  refine ns_pick rfl rfl rfl ?_
  refine ns_done ?_
  refine WP_false rfl ?_ -- if3
  refine WP_skip ?_
  refine WP_seq ?_
  -- R9
  refine WP_net hs mix [0, 1, 0, 7, 15, 31, 63, 127, 255, 31, 543, 1567, 3615, 31, 15903, 32767, 65535, 131071] [⟨0, 0, []⟩, ⟨1, 0, []⟩, ⟨2, 2, []⟩, ⟨3, 2, []⟩, ⟨4, 0, []⟩, ⟨5, 0, []⟩, ⟨6, 0, []⟩, ⟨7, 0, []⟩, ⟨8, 1, []⟩, ⟨9, 0, []⟩, ⟨10, 0, []⟩, ⟨11, 0, []⟩, ⟨12, 1, []⟩, ⟨13, 0, []⟩, ⟨14, 2, [8]⟩, ⟨15, 2, []⟩, ⟨16, 0, []⟩, ⟨17, 0, []⟩] (by kernel_rfl) ?_
  intro w hs
  refine ns_move rfl rfl ?_
  refine ns_sliceLH 3 5 sl_28 rfl rfl rfl rfl rfl rfl rfl (by decide) (by simp at hc4; omega) ?_
  refine ns_makeN (n := 2) (encA [⟨false, 0, []⟩, ⟨false, 0, []⟩] [.slice none 0 0, .slice none 0 0]).toArray sl_28 zr_36 by_36 (by decide) (by decide) (by decide) hs rfl rfl rfl rfl (by decide) (by kernel_rfl) ?_
  refine fun b47 w hs _ => ⟨trivial, ?_⟩
  have hq3 : RdA R2 _ [⟨false, 0, []⟩, ⟨false, 0, []⟩] := RdA.part rfl hra 3 5 (by decide) (by simp)
  have hq4 := lit_rdA b47 [⟨false, 0, []⟩, ⟨false, 0, []⟩] [.slice none 0 0, .slice none 0 0] R2 (0, 0) rfl (rd_two (nil_rdI R2) (nil_rdI R2))
  refine ns_call (f25_ok (R2 * pts b47 (.cells (encA [⟨false, 0, []⟩, ⟨false, 0, []⟩] [.slice none 0 0, .slice none 0 0]).toArray 36 (0, 0))) _ _ [⟨false, 0, []⟩, ⟨false, 0, []⟩] (RdA.up hq3) hq4 (by simp) (by simp)) ck_25 (hs.foc (R2 * pts b47 (.cells (encA [⟨false, 0, []⟩, ⟨false, 0, []⟩] [.slice none 0 0, .slice none 0 0]).toArray 36 (0, 0)))) rfl rfl rfl rfl ?_
  intro v48 w hs
  replace hs := hs.pu
  obtain ⟨rfl, hs⟩ := hs
  try simp only [mul_assoc'] at hs
  refine ns_move rfl rfl ?_
  refine ns_move rfl rfl ?_
  refine ns_idx 5 sl_28 rfl rfl rfl rfl rfl (by simp) ?_
  refine ns_fld fo_36_2 rfl rfl rfl ?_
  refine ns_ld pl_34 rfl rfl rfl ((hc5 _ _ _ (hs.foc R2)).at 2 rfl) ?_
  refine ns_move rfl rfl ?_
  refine ns_idx 0 sl_28 rfl rfl rfl rfl rfl (by simp) ?_
  refine ns_fld fo_36_2 rfl rfl rfl ?_
  refine ns_ld pl_34 rfl rfl rfl ((hc0 _ _ _ (hs.foc R2)).at 2 rfl) ?_
  refine ns_move rfl rfl ?_
  refine ns_callK (f30_ok R2 s0 l key hi0 (by omega)) ck_30 (hs.foc R2) rfl rfl rfl rfl ?_
  refine fun v59 w hs => ?_
  simp only [mul_assoc'] at hs
  refine ⟨⟨(hc5 _ _ _ (hs.foc R2)).at 2 rfl, trivial⟩, ?_⟩
  have hr59 : RdI (IArr v59 (rem l key)) v59 (rem l key) := Arr.rd (hs.foc (IArr v59 (rem l key)))
  refine ns_call (f26_ok (R2 * IArr v59 (rem l key)) s5 v59 (rem l key) (RdI.up hi5) (RdI.up hr59) (by omega)) ck_26 (hs.foc (R2 * IArr v59 (rem l key))) rfl rfl rfl rfl ?_
  intro v60 w hs
  replace hs := hs.pu
  obtain ⟨rfl, hs⟩ := hs
  try simp only [mul_assoc'] at hs
  refine ns_pick rfl rfl rfl ?_
  refine ns_asg rfl rfl ?_
  refine ns_done ?_
  refine WP_ret ?_
  exact ⟨_, res1 _, St.mk_pu rfl hs.out⟩
set_option maxHeartbeats 6400000 in
theorem f18_ok (R : HProp) (v : Value) (os : List Sop) (d key : Int) (hR : RdO R v os) : Tri Try.prog 18 #[.int .i64 d, v, .int .i64 key] R fun r => pu (r = .bool true) * R := by
  obtain ⟨_, a1, c1, rfl, hc1, hrd⟩ := id hR
  intro w0 F w hs
  refine calls_WP 57 #[.tmp 6] Try.func18 rfl Try.ntmps18 rfl (Nat.le_of_ble_eq_true rfl) ?_
  refine WP_seq ?_
  -- R0
  refine WP_seqr [⟨0, 0, []⟩] (by kernel_rfl) ?_
  refine ns_asg rfl rfl ?_
  refine ns_done ?_
  refine WP_seq ?_ -- S1
  refine WP_seq ?_
  -- R1
  refine WP_seqr [⟨0, 0, []⟩, ⟨1, 0, []⟩, ⟨2, 0, []⟩] (by kernel_rfl) ?_
  refine ns_move rfl rfl ?_
  refine ns_len sl_24 rfl rfl rfl ?_
  refine ns_cmp _ rfl rfl rfl rfl rfl ?_
  refine ns_done ?_
  refine WP_if rfl (fun hif1 => ?_) (fun hif1 => ?_)
  · refine WP_seq ?_
    -- R2
    refine WP_seqr [⟨0, 0, []⟩] (by kernel_rfl) ?_
    refine ns_asg rfl rfl ?_
    refine ns_done ?_
    refine WP_ret ?_
    exact ⟨_, res1 _, St.mk_pu rfl hs.out⟩
  refine WP_skip ?_
  refine WP_seq ?_ -- S2
  refine WP_seq ?_
  -- R3
  refine WP_seqr [⟨0, 0, []⟩, ⟨1, 0, []⟩, ⟨2, 2, []⟩, ⟨3, 0, []⟩] (by kernel_rfl) ?_
  refine ns_move rfl rfl ?_
  refine ns_move rfl rfl ?_
  refine ns_call (f20_ok d a1 os.length c1) ck_20 (hs.foc 1) rfl rfl rfl rfl ?_
  intro v17 w hs
  replace hs := hs.pure
  obtain ⟨rfl, hs⟩ := hs
  refine ns_not rfl rfl rfl ?_
  refine ns_done ?_
  refine WP_if rfl (fun hif2 => ?_) (fun hif2 => ?_)
  · refine WP_seq ?_
    -- R4
    refine WP_seqr [⟨0, 0, []⟩] (by kernel_rfl) ?_
    refine ns_asg rfl rfl ?_
    refine ns_done ?_
    refine WP_ret ?_
    exact ⟨_, res1 _, St.mk_pu rfl hs.out⟩
  refine WP_skip ?_
  have hfit : 2 ≤ d ∧ d ≤ 1000 ∧ os.length ≤ 2000 := by simpa using hif2
  obtain ⟨hd, hd2, hn⟩ := hfit
  obtain ⟨D, rfl⟩ : ∃ D : Nat, d = D := ⟨d.toNat, by omega⟩
  have hlen := heldT_len os
  have hsrt := held_srt (onT os)
  refine WP_seq ?_
  -- R5
  refine WP_seqr [⟨0, 2, []⟩, ⟨1, 2, []⟩, ⟨2, 2, []⟩, ⟨3, 2, []⟩, ⟨4, 2, []⟩, ⟨5, 2, []⟩] (by kernel_rfl) ?_
  refine ns_call (f21_ok 9 0 0) ck_21 (hs.foc 1) rfl rfl rfl rfl ?_
  intro v19 w hs
  replace hs := hs.pure
  obtain ⟨rfl, hs⟩ := hs
  refine ns_call (f21_ok 13 0 0) ck_21 (hs.foc 1) rfl rfl rfl rfl ?_
  intro v20 w hs
  replace hs := hs.pure
  obtain ⟨rfl, hs⟩ := hs
  refine ns_alloc zc_26 hs rfl rfl ?_
  intro b7 w hs
  refine ns_alloc zc_26 hs rfl rfl ?_
  intro b8 w hs
  refine ns_stA (#[.int .i64 9, .int .i64 0, .int .i64 0, .int .i64 0, .int .i64 0, .int .i64 4000]) ag_26 rfl (by decide) hs rfl rfl rfl rfl (by intro u hu; simp at hu; rcases hu with rfl | rfl | rfl | rfl | rfl | rfl <;> rfl) (by simp) ?_
  refine fun w hs => ⟨trivial, ?_⟩
  refine ns_stA (#[.int .i64 13, .int .i64 0, .int .i64 0, .int .i64 0, .int .i64 0, .int .i64 4000]) ag_26 rfl (by decide) hs rfl rfl rfl rfl (by intro u hu; simp at hu; rcases hu with rfl | rfl | rfl | rfl | rfl | rfl <;> rfl) (by simp) ?_
  refine fun w hs => ⟨trivial, ?_⟩
  refine ns_done ?_
  have hs : St w0 (pts b8 (.cells #[.int .i64 13, .int .i64 0, .int .i64 0, .int .i64 0, .int .i64 0, .int .i64 4000] 26 (0, 0)) * (pts b7 (.cells #[.int .i64 9, .int .i64 0, .int .i64 0, .int .i64 0, .int .i64 0, .int .i64 4000] 26 (0, 0)) * _)) w := hs
  refine WP_seq ?_
  -- R6
  refine WP_seqr [⟨0, 0, []⟩, ⟨1, 0, []⟩, ⟨2, 2, []⟩, ⟨3, 2, []⟩] (by kernel_rfl) ?_
  refine ns_move rfl rfl ?_
  refine ns_build [(0, .int .i64 3), (2, .int .i64 key)] (#[.int .i64 3, .int .i64 0, .int .i64 key, .int .i64 0, .int .i64 0, .int .i64 0]) pp_26 zc_26 rfl rfl rfl rfl ?_
  refine ns_alloc zc_26 hs rfl rfl ?_
  intro b9 w hs
  refine ns_stA (#[.int .i64 3, .int .i64 0, .int .i64 key, .int .i64 0, .int .i64 0, .int .i64 0]) ag_26 rfl (by decide) hs rfl rfl rfl rfl (by intro u hu; simp at hu; rcases hu with rfl | rfl | rfl | rfl | rfl | rfl <;> rfl) (by simp) ?_
  refine fun w hs => ⟨trivial, ?_⟩
  refine ns_done ?_
  have hs : St w0 (pts b9 (.cells #[.int .i64 3, .int .i64 0, .int .i64 key, .int .i64 0, .int .i64 0, .int .i64 0] 26 (0, 0)) * _) w := hs
  refine WP_seq ?_
  -- R7
  refine WP_seqr [⟨0, 0, []⟩, ⟨1, 0, []⟩, ⟨2, 1, []⟩, ⟨3, 1, []⟩, ⟨4, 1, []⟩, ⟨5, 0, []⟩, ⟨6, 0, []⟩, ⟨7, 1, []⟩, ⟨8, 1, []⟩, ⟨9, 1, []⟩, ⟨10, 2, []⟩, ⟨11, 2, []⟩, ⟨12, 0, []⟩, ⟨13, 0, []⟩, ⟨14, 0, []⟩, ⟨15, 0, []⟩, ⟨16, 0, []⟩] (by kernel_rfl) ?_
  refine ns_move rfl rfl ?_
  refine ns_move rfl rfl ?_
  refine ns_ldAB [.int .i64 3, .int .i64 0, .int .i64 key, .int .i64 0, .int .i64 0, .int .i64 0] ag_26 hs rfl rfl rfl (by rfl) (by rfl) (by decide) ?_
  refine ns_ldAB [.int .i64 9, .int .i64 0, .int .i64 0, .int .i64 0, .int .i64 0, .int .i64 4000] ag_26 hs rfl rfl rfl (by rfl) (by rfl) (by decide) ?_
  refine ns_ldAB [.int .i64 13, .int .i64 0, .int .i64 0, .int .i64 0, .int .i64 0, .int .i64 4000] ag_26 hs rfl rfl rfl (by rfl) (by rfl) (by decide) ?_
  refine ns_move rfl rfl ?_
  refine ns_build [(0, .int .i64 0), (2, .int .i64 key), (4, .int .i64 3)] (#[.int .i64 0, .int .i64 0, .int .i64 key, .int .i64 0, .int .i64 3, .int .i64 0]) pp_26 zc_26 rfl rfl rfl rfl ?_
  refine ns_ldAB [.int .i64 3, .int .i64 0, .int .i64 key, .int .i64 0, .int .i64 0, .int .i64 0] ag_26 hs rfl rfl rfl (by rfl) (by rfl) (by decide) ?_
  refine ns_ldAB [.int .i64 9, .int .i64 0, .int .i64 0, .int .i64 0, .int .i64 0, .int .i64 4000] ag_26 hs rfl rfl rfl (by rfl) (by rfl) (by decide) ?_
  refine ns_ldAB [.int .i64 13, .int .i64 0, .int .i64 0, .int .i64 0, .int .i64 0, .int .i64 4000] ag_26 hs rfl rfl rfl (by rfl) (by rfl) (by decide) ?_
  refine ns_lit [opV (kkL 3 key 0), opV (allL 9 0 0), opV (allL 13 0 0), opV (kkL 0 key 3), opV (kkL 3 key 0), opV (allL 9 0 0), opV (allL 13 0 0)] (encO [kkL 3 key 0, allL 9 0 0, allL 13 0 0, kkL 0 key 3, kkL 3 key 0, allL 9 0 0, allL 13 0 0]) sl_24 zr_26 (by decide) (by decide) hs rfl rfl rfl rfl (by simp [Value.cells, opV, opC]) rfl ?_
  refine fun b34 w hs hx => ⟨trivial, ?_⟩
  have hmore : RdO (R * pts b34 (.cells (encO [kkL 3 key 0, allL 9 0 0, allL 13 0 0, kkL 0 key 3, kkL 3 key 0, allL 9 0 0, allL 13 0 0]).toArray 26 (0, 0))) (.slice (some ⟨b34, 0, none⟩) 7 7) [kkL 3 key 0, allL 9 0 0, allL 13 0 0, kkL 0 key 3, kkL 3 key 0, allL 9 0 0, allL 13 0 0] := (lit_rdO b34 [kkL 3 key 0, allL 9 0 0, allL 13 0 0, kkL 0 key 3, kkL 3 key 0, allL 9 0 0, allL 13 0 0] (0, 0)).up
  refine ns_call (f22_ok (R * pts b34 (.cells (encO [kkL 3 key 0, allL 9 0 0, allL 13 0 0, kkL 0 key 3, kkL 3 key 0, allL 9 0 0, allL 13 0 0]).toArray 26 (0, 0))) (.slice a1 os.length c1) _ os [kkL 3 key 0, allL 9 0 0, allL 13 0 0, kkL 0 key 3, kkL 3 key 0, allL 9 0 0, allL 13 0 0] D hR.up hmore (by simp) (by omega) (by omega) (by omega) (by simp) (by simp [allL, kkL])) ck_22 (hs.foc (R * pts b34 (.cells (encO [kkL 3 key 0, allL 9 0 0, allL 13 0 0, kkL 0 key 3, kkL 3 key 0, allL 9 0 0, allL 13 0 0]).toArray 26 (0, 0)))) rfl rfl rfl rfl ?_
  intro v35 w hs
  replace hs := hs.ex
  obtain ⟨⟨s, R2⟩, hs⟩ := hs
  replace hs := hs.pu
  obtain ⟨⟨rfl, hra⟩, hs⟩ := hs
  simp only [mul_assoc'] at hs
  generalize afterL [] (onT os) = l at hra hlen hsrt
  rw [run_undone hsrt key (by omega)] at hra
  obtain ⟨a4, c4, rfl, hc4⟩ := id hra.form
  have hrl : (rem l key).length ≤ l.length := List.length_filter_le ..
  refine ns_move rfl rfl ?_
  refine ns_ext rfl rfl rfl rfl ?_
  refine ns_ext rfl rfl rfl rfl ?_
  refine ns_asg rfl rfl ?_
  refine ns_asg rfl rfl ?_
  refine ns_done ?_
  refine WP_seq ?_ -- S3
  refine WP_seq ?_
  -- R8
  refine WP_net hs mix [0, 1, 3, 7, 15, 7, 39, 127, 255, 511] [⟨0, 0, []⟩, ⟨1, 0, []⟩, ⟨2, 0, []⟩, ⟨3, 0, []⟩, ⟨4, 0, []⟩, ⟨5, 0, []⟩, ⟨6, 0, []⟩, ⟨7, 2, []⟩, ⟨8, 0, []⟩, ⟨9, 0, []⟩] (by kernel_rfl) ?_
  intro w hs
  refine ns_move rfl rfl ?_
  refine ns_not rfl rfl rfl ?_
  refine ns_move rfl rfl ?_
  refine ns_move rfl rfl ?_
  refine ns_sliceLH 1 3 sl_28 rfl rfl rfl rfl rfl rfl rfl (by decide) (by simp at hc4; omega) ?_
  refine ns_move rfl rfl ?_
  refine ns_sliceLH 5 7 sl_28 rfl rfl rfl rfl rfl rfl rfl (by decide) (by simp at hc4; omega) ?_
  have hq1 : RdA R2 _ [⟨false, 0, rem l key⟩, ⟨false, 0, (rem l key).reverse⟩] := RdA.part rfl hra 1 3 (by decide) (by simp)
  have hq2 : RdA R2 _ [⟨false, 0, rem l key⟩, ⟨false, 0, (rem l key).reverse⟩] := RdA.part rfl hra 5 7 (by decide) (by simp)
  refine ns_call (f25_ok R2 _ _ [⟨false, 0, rem l key⟩, ⟨false, 0, (rem l key).reverse⟩] hq1 hq2 (by simp) (by
    intro x hx
    simp only [List.mem_cons, List.not_mem_nil, or_false] at hx
    rcases hx with rfl | rfl
    · show (rem l key).length < 1000000
      omega
    · show (rem l key).reverse.length < 1000000
      rw [List.length_reverse]; omega)) ck_25 (hs.foc R2) rfl rfl rfl rfl ?_
  intro v45 w hs
  replace hs := hs.pu
  obtain ⟨rfl, hs⟩ := hs
  try simp only [mul_assoc'] at hs
  refine ns_not rfl rfl rfl ?_
  refine ns_pick rfl rfl rfl ?_
  refine ns_done ?_
  refine WP_false rfl ?_ -- if3
  refine WP_skip ?_
  refine WP_seq ?_
  -- R10
  refine WP_seqr [⟨0, 0, []⟩, ⟨1, 0, []⟩, ⟨2, 0, []⟩, ⟨3, 0, []⟩, ⟨4, 0, []⟩, ⟨5, 2, []⟩, ⟨6, 0, []⟩, ⟨7, 2, []⟩, ⟨8, 2, []⟩, ⟨9, 0, []⟩] (by kernel_rfl) ?_
  refine ns_move rfl rfl ?_
  refine ns_sliceLH 3 5 sl_28 rfl rfl rfl rfl rfl rfl rfl (by decide) (by simp at hc4; omega) ?_
  refine ns_build [] (#[.bool false, .int .i64 0, .slice none 0 0]) pp_36 zc_36 rfl rfl rfl rfl ?_
  refine ns_move rfl rfl ?_
  refine ns_build [(0, .int .i64 key), (1, .int .i64 3)] (#[.int .i64 key, .int .i64 3]) pp_45 zc_45 rfl rfl rfl rfl ?_
  refine ns_lit [itV ⟨key, 3⟩] (encs [⟨key, 3⟩]) sl_34 zr_45 (by decide) (by decide) hs rfl rfl rfl rfl (by simp [Value.cells, itV]) rfl ?_
  refine fun b53 w hs hx => ⟨trivial, ?_⟩
  refine ns_build [(0, .bool true), (2, .slice (some ⟨b53, 0, none⟩) 1 1)] (#[.bool true, .int .i64 0, .slice (some ⟨b53, 0, none⟩) 1 1]) pp_36 zc_36 rfl rfl rfl rfl ?_
  refine ns_lit [.agg #[.bool false, .int .i64 0, .slice none 0 0], .agg #[.bool true, .int .i64 0, .slice (some ⟨b53, 0, none⟩) 1 1]] (encA [⟨false, 0, []⟩, ⟨true, 0, [⟨key, 3⟩]⟩] [.slice none 0 0, .slice (some ⟨b53, 0, none⟩) 1 1]) sl_28 zr_36 (by decide) (by decide) hs rfl rfl rfl rfl (by simp [Value.cells]) rfl ?_
  refine fun b55 w hs hx => ⟨trivial, ?_⟩
  have hq3 : RdA R2 _ [⟨false, 0, []⟩, ⟨true, 0, [⟨key, 3⟩]⟩] := RdA.part rfl hra 3 5 (by decide) (by simp)
  have hq4 := lit_rdA b55 [⟨false, 0, []⟩, ⟨true, 0, [⟨key, 3⟩]⟩] [.slice none 0 0, .slice (some ⟨b53, 0, none⟩) 1 1] (pts b53 (.cells (encs [⟨key, 3⟩]).toArray 45 (0, 0))) (0, 0) rfl (rd_two (nil_rdI _) (lit_rdI b53 [⟨key, 3⟩] (0, 0)))
  refine ns_call (f25_ok (R2 * (pts b53 (.cells (encs [⟨key, 3⟩]).toArray 45 (0, 0)) * pts b55 (.cells (encA [⟨false, 0, []⟩, ⟨true, 0, [⟨key, 3⟩]⟩] [.slice none 0 0, .slice (some ⟨b53, 0, none⟩) 1 1]).toArray 36 (0, 0)))) _ _ [⟨false, 0, []⟩, ⟨true, 0, [⟨key, 3⟩]⟩] (RdA.up hq3) (RdA.up hq4) (by simp) (by
    intro x hx
    simp only [List.mem_cons, List.not_mem_nil, or_false] at hx
    rcases hx with rfl | rfl <;> simp)) ck_25 (hs.foc (R2 * (pts b53 (.cells (encs [⟨key, 3⟩]).toArray 45 (0, 0)) * pts b55 (.cells (encA [⟨false, 0, []⟩, ⟨true, 0, [⟨key, 3⟩]⟩] [.slice none 0 0, .slice (some ⟨b53, 0, none⟩) 1 1]).toArray 36 (0, 0))))) rfl rfl rfl rfl ?_
  intro v56 w hs
  replace hs := hs.pu
  obtain ⟨rfl, hs⟩ := hs
  try simp only [mul_assoc'] at hs
  refine ns_asg rfl rfl ?_
  refine ns_done ?_
  refine WP_ret ?_
  exact ⟨_, res1 _, St.mk_pu rfl hs.out⟩
end Go.Proofs.Ytnnembkganlbpaa
/- The walk of the law on taking the least or the greatest, one by one: FnTaken. -/
namespace Go.Proofs.Ytnnembkganlbpaa
open Go Go.Sl Go.Net Go.Wk Go.Bt Go.RowKit

def tkL (gr : Bool) : Sop := kdL (if gr then 7 else 6)
def wkL (gr : Bool) : Sop := allL (if gr then 13 else 9) 0 0
/-- the list in the order in which it is taken -/
def LL (gr : Bool) (l : List It) : List It := if gr then l.reverse else l
theorem LL_len (gr : Bool) (l : List It) : (LL gr l).length = l.length := by cases gr <;> simp [LL]
theorem st_take (gr : Bool) (l : List It) : (stepL l (tkL gr)).2 = oneA (LL gr l)[0]? ∧ LL gr (stepL l (tkL gr)).1 = (LL gr l).tail := by
  cases gr with
  | false =>
    rw [show stepL l (tkL false) = (l.tail, oneA l.head?) from step_6 rfl]
    exact ⟨by cases l <;> rfl, rfl⟩
  | true =>
    rw [show stepL l (tkL true) = (l.dropLast, oneA l.getLast?) from step_7 rfl]
    refine ⟨?_, ?_⟩
    · show oneA l.getLast? = oneA l.reverse[0]?
      rw [← List.head?_eq_getElem?, List.head?_reverse]
    · show l.dropLast.reverse = l.reverse.tail
      rw [List.tail_reverse]
theorem run_takes (gr : Bool) : ∀ (m : Nat) (l : List It), runL l (List.replicate m (tkL gr)) = (List.range m).map (fun i => oneA (LL gr l)[i]?) ∧ LL gr (afterL l (List.replicate m (tkL gr))) = (LL gr l).drop m := by
  intro m
  induction m with
  | zero => exact fun l => ⟨rfl, rfl⟩
  | succ m ih =>
    intro l
    obtain ⟨h1, h2⟩ := ih (stepL l (tkL gr)).1
    obtain ⟨e1, e2⟩ := st_take gr l
    rw [e2] at h1 h2
    rw [List.replicate_succ]
    refine ⟨?_, ?_⟩
    · rw [run_cons, e1, h1, List.range_succ_eq_map, List.map_cons, List.map_map]
      refine congrArg _ (List.map_congr_left fun i _ => ?_)
      show oneA (LL gr l).tail[i]? = oneA (LL gr l)[i + 1]?
      rw [List.getElem?_tail]
    · show LL gr (afterL (stepL l (tkL gr)).1 (List.replicate m (tkL gr))) = _
      rw [h2, List.drop_tail]
theorem run_taken (gr : Bool) (l : List It) (n : Nat) (hn : l.length ≤ n) (h : l.length ≤ 4000) : runL l (wkL gr :: List.replicate (n + 1) (tkL gr) ++ [kdL 8]) = ⟨false, 0, LL gr l⟩ :: ((List.range (n + 1)).map (fun i => oneA (LL gr l)[i]?) ++ [⟨false, 0, []⟩]) := by
  have e : runL l (wkL gr :: (List.replicate (n + 1) (tkL gr) ++ [kdL 8])) = ⟨false, 0, LL gr l⟩ :: runL l (List.replicate (n + 1) (tkL gr) ++ [kdL 8]) := by
    cases gr with
    | false =>
      have := run_walk (k := 9) 0 0 (List.replicate (n + 1) (tkL false) ++ [kdL 8]) h (by decide) (by decide)
      rw [range_up] at this
      exact this
    | true =>
      have := run_walk (k := 13) 0 0 (List.replicate (n + 1) (tkL true) ++ [kdL 8]) h (by decide) (by decide)
      rw [range_down] at this
      exact this
  obtain ⟨h1, h2⟩ := run_takes gr (n + 1) l
  rw [List.cons_append, e, run_append, h1]
  have h3 : (afterL l (List.replicate (n + 1) (tkL gr))).length = 0 := by
    rw [← LL_len gr, h2, List.length_drop, LL_len]; omega
  have h4 : afterL l (List.replicate (n + 1) (tkL gr)) = [] := List.eq_nil_of_length_eq_zero h3
  rw [h4]
  rfl
theorem taken_ok (gr : Bool) (n : Nat) : ∀ o ∈ wkL gr :: List.replicate (n + 1) (tkL gr) ++ [kdL 8], o.tree = 0 ∧ o.kind ≠ 17 := by
  intro o ho
  simp only [List.cons_append, List.mem_cons, List.mem_append, List.mem_replicate, List.not_mem_nil, or_false] at ho
  rcases ho with rfl | ⟨_, rfl⟩ | rfl
  · cases gr <;> simp [wkL, allL]
  · cases gr <;> simp [tkL, kdL]
  · simp [kdL]
theorem opC_one (o : Sop) : ∀ u ∈ (opC o).toList, u.oneCell' = true := by
  intro u hu
  simp [opC] at hu
  rcases hu with rfl | rfl | rfl | rfl | rfl | rfl <;> rfl
theorem onm {l : List Sop} {o : Sop} {v : Value} {n : Nat} {xs : List Value} (hn : n = l.length + 1) (hx : xs = encO l ++ (opC o).toList) : Arr 26 6 v n xs = OArr v (l ++ [o]) := by
  subst hn; subst hx
  show _ = Arr 26 6 v (l ++ [o]).length (encO (l ++ [o]))
  rw [List.length_append, encO_append]; rfl
set_option maxHeartbeats 6400000 in
theorem f17_ok (R : HProp) (v : Value) (os : List Sop) (d : Int) (gr : Bool) (hR : RdO R v os) : Tri Try.prog 17 #[.int .i64 d, v, .bool gr] R fun r => pu (r = .bool true) * R := by
  obtain ⟨_, a1, c1, rfl, hc1, hrd⟩ := id hR
  intro w0 F w hs
  refine calls_WP 104 #[.tmp 6] Try.func17 rfl Try.ntmps17 rfl (Nat.le_of_ble_eq_true rfl) ?_
  refine WP_seq ?_
  -- R0
  refine WP_seqr [⟨0, 0, []⟩] (by kernel_rfl) ?_
  refine ns_asg rfl rfl ?_
  refine ns_done ?_
  refine WP_seq ?_ -- S1
  refine WP_seq ?_
  -- R1
  refine WP_seqr [⟨0, 0, []⟩, ⟨1, 0, []⟩, ⟨2, 0, []⟩] (by kernel_rfl) ?_
  refine ns_move rfl rfl ?_
  refine ns_len sl_24 rfl rfl rfl ?_
  refine ns_cmp _ rfl rfl rfl rfl rfl ?_
  refine ns_done ?_
  refine WP_if rfl (fun hif1 => ?_) (fun hif1 => ?_)
  · refine WP_seq ?_
    -- R2
    refine WP_seqr [⟨0, 0, []⟩] (by kernel_rfl) ?_
    refine ns_asg rfl rfl ?_
    refine ns_done ?_
    refine WP_ret ?_
    exact ⟨_, res1 _, St.mk_pu rfl hs.out⟩
  refine WP_skip ?_
  refine WP_seq ?_ -- S2
  refine WP_seq ?_
  -- R3
  refine WP_seqr [⟨0, 0, []⟩, ⟨1, 0, []⟩, ⟨2, 2, []⟩, ⟨3, 0, []⟩] (by kernel_rfl) ?_
  refine ns_move rfl rfl ?_
  refine ns_move rfl rfl ?_
  refine ns_call (f20_ok d a1 os.length c1) ck_20 (hs.foc 1) rfl rfl rfl rfl ?_
  intro v20 w hs
  replace hs := hs.pure
  obtain ⟨rfl, hs⟩ := hs
  refine ns_not rfl rfl rfl ?_
  refine ns_done ?_
  refine WP_if rfl (fun hif2 => ?_) (fun hif2 => ?_)
  · refine WP_seq ?_
    -- R4
    refine WP_seqr [⟨0, 0, []⟩] (by kernel_rfl) ?_
    refine ns_asg rfl rfl ?_
    refine ns_done ?_
    refine WP_ret ?_
    exact ⟨_, res1 _, St.mk_pu rfl hs.out⟩
  refine WP_skip ?_
  have hfit : 2 ≤ d ∧ d ≤ 1000 ∧ os.length ≤ 2000 := by simpa using hif2
  obtain ⟨hd, hd2, hn⟩ := hfit
  obtain ⟨D, rfl⟩ : ∃ D : Nat, d = D := ⟨d.toNat, by omega⟩
  have hlen := heldT_len os
  have hsrt := held_srt (onT os)
  refine WP_seq ?_
  -- R5
  refine WP_seqr [⟨0, 2, []⟩, ⟨1, 0, []⟩, ⟨2, 2, []⟩, ⟨3, 2, []⟩, ⟨4, 2, []⟩, ⟨5, 2, []⟩] (by kernel_rfl) ?_
  refine ns_call (f21_ok 9 0 0) ck_21 (hs.foc 1) rfl rfl rfl rfl ?_
  intro v22 w hs
  replace hs := hs.pure
  obtain ⟨rfl, hs⟩ := hs
  refine ns_build [(0, .int .i64 6)] (opC (kdL 6)) pp_26 zc_26 rfl rfl rfl rfl ?_
  refine ns_alloc zc_26 hs rfl rfl ?_
  intro b7 w hs
  refine ns_alloc zc_26 hs rfl rfl ?_
  intro b8 w hs
  refine ns_stA (opC (wkL false)) ag_26 rfl (by decide) hs rfl rfl rfl rfl (opC_one _) (by simp []) ?_
  refine fun w hs => ⟨trivial, ?_⟩
  refine ns_stA (opC (tkL false)) ag_26 rfl (by decide) hs rfl rfl rfl rfl (opC_one _) (by simp []) ?_
  refine fun w hs => ⟨trivial, ?_⟩
  refine ns_done ?_
  have hs : St w0 (pts b8 (.cells (opC (tkL false)) 26 (0, 0)) * (pts b7 (.cells (opC (wkL false)) 26 (0, 0)) * _)) w := hs
  refine WP_seq_cut (fun σ w => σ 0 = .int .i64 D ∧ σ 1 = .slice a1 os.length c1 ∧ σ 7 = .pointer (some ⟨b7, 0, none⟩) ∧ σ 8 = .pointer (some ⟨b8, 0, none⟩) ∧ St w0 (pts b7 (.cells (opC (wkL gr)) 26 (0, 0)) * (pts b8 (.cells (opC (tkL gr)) 26 (0, 0)) * (R * F))) w) ?_ ?_ -- S3
  · refine WP_seq ?_
    -- R6
    refine WP_seqr [⟨0, 0, []⟩] (by kernel_rfl) ?_
    refine ns_move rfl rfl ?_
    refine ns_done ?_
    refine WP_if rfl (fun hif3 => ?_) (fun hif3 => ?_)
    · -- R7
      refine WP_seqr [⟨0, 2, []⟩, ⟨1, 0, []⟩, ⟨2, 2, []⟩, ⟨3, 2, []⟩] (by kernel_rfl) ?_
      refine ns_call (f21_ok 13 0 0) ck_21 (hs.foc 1) rfl rfl rfl rfl ?_
      intro v25 w hs
      replace hs := hs.pure
      obtain ⟨rfl, hs⟩ := hs
      refine ns_build [(0, .int .i64 7)] (opC (kdL 7)) pp_26 zc_26 rfl rfl rfl rfl ?_
      refine ns_stA (opC (wkL true)) ag_26 rfl (by decide) hs rfl rfl rfl rfl (opC_one _) (by simp [opC]) ?_
      refine fun w hs => ⟨trivial, ?_⟩
      refine ns_stA (opC (tkL true)) ag_26 rfl (by decide) hs rfl rfl rfl rfl (opC_one _) (by simp [opC]) ?_
      refine fun w hs => ⟨trivial, ?_⟩
      refine ns_done ?_
      obtain rfl : gr = true := hif3
      have hs : St w0 (pts b8 (.cells (opC (tkL true)) 26 (0, 0)) * (pts b7 (.cells (opC (wkL true)) 26 (0, 0)) * _)) w := hs
      exact ⟨rfl, rfl, rfl, rfl, hs.out⟩
    refine WP_skip ?_
    obtain rfl : gr = false := hif3
    exact ⟨rfl, rfl, rfl, rfl, hs.out⟩
  rintro σ w ⟨g0, g1, g7, g8, hs⟩
  obtain ⟨σ, rfl⟩ := rebase g0
  obtain ⟨σ, rfl⟩ := rebase (σ := σ) g1
  obtain ⟨σ, rfl⟩ := rebase (σ := σ) g7
  obtain ⟨σ, rfl⟩ := rebase (σ := σ) g8
  clear g0 g1 g7 g8
  refine WP_seq ?_
  -- R8
  refine WP_seqr [⟨0, 1, []⟩, ⟨1, 2, []⟩, ⟨2, 0, []⟩] (by kernel_rfl) ?_
  refine ns_ldAB (opC (wkL gr)).toList ag_26 hs rfl rfl rfl (by rfl) (by rfl) (by decide) ?_
  refine ns_lit [opV (wkL gr)] (opC (wkL gr)).toList sl_24 zr_26 (by decide) (by decide) hs rfl rfl rfl rfl (by simp [Value.cells, opV, opC]) rfl ?_
  refine fun b28 w hs hx => ⟨trivial, ?_⟩
  refine ns_asg rfl rfl ?_
  refine ns_done ?_
  have hs := hs.up (Ent.of_eq (show pts b28 (.cells (opC (wkL gr)).toList.toArray 26 (0, 0)) = pts b28 (.cells (encO [wkL gr]).toArray 26 (0, 0)) from rfl))
  have hs := hs.mk_arr' (n := 1) (cap := 1) (sz := 6) (xs := encO [wkL gr]) (Nat.le_refl _) (by decide) (by simp [encO, opC]) (by simp [encO, opC])
  refine WP_seq_cut (fun σ w => ∃ out : Value, σ 0 = .int .i64 D ∧ σ 1 = .slice a1 os.length c1 ∧ σ 9 = out ∧ St w0 (R * (OArr out (wkL gr :: List.replicate (os.length + 1) (tkL gr)) * F)) w) ?_ ?_ -- S4
  · refine WP_seq ?_
    -- R9
    refine WP_seqr [⟨0, 0, []⟩, ⟨1, 0, []⟩, ⟨2, 0, []⟩, ⟨3, 0, []⟩] (by kernel_rfl) ?_
    refine ns_move rfl rfl ?_
    refine ns_len sl_24 rfl rfl rfl ?_
    refine ns_add rfl rfl rfl rfl (by omega) (by omega) ?_
    refine ns_move rfl rfl ?_
    refine ns_done ?_
    refine WP_block ?_
    refine WP_loop (fun m σ w => ∃ (i : Nat) (out : Value), m = os.length + 1 - i ∧ i ≤ os.length + 1 ∧ σ 0 = .int .i64 D ∧ σ 1 = .slice a1 os.length c1 ∧ σ 8 = .pointer (some ⟨b8, 0, none⟩) ∧ σ 9 = out ∧ σ 31 = .int .i64 ((os.length : Int) + 1) ∧ σ 32 = .int .i64 (i : Int) ∧ St w0 (R * (OArr out (wkL gr :: List.replicate i (tkL gr)) * (pts b8 (.cells (opC (tkL gr)) 26 (0, 0)) * F))) w) (os.length + 1) ?_ ?_ -- L1
    · refine ⟨0, .slice (some ⟨b28, 0, none⟩) 1 1, rfl, Nat.zero_le _, rfl, rfl, rfl, rfl, rfl, rfl, ?_⟩
      show St w0 (R * (Arr 26 6 _ 1 (encO [wkL gr]) * (_ * F))) w
      exact hs.out
    rintro m σ w ⟨i, out, rfl, hi, g0, g1, g8, g9, g31, g32, hs⟩
    obtain ⟨σ, rfl⟩ := rebase g0
    obtain ⟨σ, rfl⟩ := rebase (σ := σ) g1
    obtain ⟨σ, rfl⟩ := rebase (σ := σ) g8
    obtain ⟨σ, rfl⟩ := rebase (σ := σ) g9
    obtain ⟨σ, rfl⟩ := rebase (σ := σ) g31
    obtain ⟨σ, rfl⟩ := rebase (σ := σ) g32
    clear g0 g1 g8 g9 g31 g32
    refine WP_seq ?_
    -- R10
    refine WP_seqr [⟨0, 0, []⟩] (by kernel_rfl) ?_
    refine ns_cmp _ rfl rfl rfl rfl rfl ?_
    refine ns_done ?_
    refine WP_seq ?_ -- S5
    refine WP_if' rfl (fun hif4 => ?_) (fun hif4 => ?_)
    · refine WP_exit ?_
      have hi2 : i = os.length + 1 := by have := of_decide_eq_false hif4; omega
      subst hi2
      exact ⟨out, rfl, rfl, rfl, hs.out⟩
    refine WP_skip ?_
    have hi2 : i < os.length + 1 := by have := of_decide_eq_true hif4; omega
    have hrl : (wkL gr :: List.replicate i (tkL gr)).length = i + 1 := by simp
    refine WP_seq ?_ -- S6
    refine WP_block ?_
    -- R11
    refine WP_seqr [⟨0, 0, []⟩, ⟨1, 1, []⟩, ⟨2, 2, []⟩, ⟨3, 2, []⟩, ⟨4, 0, []⟩] (by kernel_rfl) ?_
    refine ns_move rfl rfl ?_
    refine ns_ldAB (opC (tkL gr)).toList ag_26 hs rfl rfl rfl (by rfl) (by rfl) (by decide) ?_
    refine ns_lit [opV (tkL gr)] (opC (tkL gr)).toList sl_24 zr_26 (by decide) (by decide) hs rfl rfl rfl rfl (by simp [Value.cells, opV, opC]) rfl ?_
    refine fun b36 w hs hx => ⟨trivial, ?_⟩
    refine ns_app (opC (tkL gr)).toList sl_24 zr_26 by_26 rfl (by decide) (hs.foc (OArr out (wkL gr :: List.replicate i (tkL gr)))) rfl rfl rfl rfl rfl (St.cells (n := 6) hs (by rfl)) (by intro u hu; simp [opC] at hu; rcases hu with rfl | rfl | rfl | rfl | rfl | rfl <;> rfl) (by simp only [maxLen]; omega) (by omega) ?_
    refine fun v37 w hs hv => ⟨trivial, ?_⟩
    have hs := hs.up (Ent.of_eq (onm (l := wkL gr :: List.replicate i (tkL gr)) rfl rfl))
    rw [show wkL gr :: List.replicate i (tkL gr) ++ [tkL gr] = wkL gr :: List.replicate (i + 1) (tkL gr) from by rw [List.cons_append, ← List.replicate_succ']] at hs
    refine ns_asg rfl rfl ?_
    refine ns_done ?_
    -- R12
    refine WP_seqr [⟨0, 0, []⟩, ⟨1, 0, []⟩] (by kernel_rfl) ?_
    refine ns_add rfl rfl rfl rfl (by omega) (by omega) ?_
    refine ns_move rfl rfl ?_
    refine ns_done ?_
    exact ⟨os.length + 1 - (i + 1), by omega, i + 1, v37, rfl, by omega, rfl, rfl, rfl, rfl, rfl, rfl, hs.out⟩
    
  rintro σ w ⟨out, g0, g1, g9, hs⟩
  obtain ⟨σ, rfl⟩ := rebase g0
  obtain ⟨σ, rfl⟩ := rebase (σ := σ) g1
  obtain ⟨σ, rfl⟩ := rebase (σ := σ) g9
  clear g0 g1 g9
  have hrl : (wkL gr :: List.replicate (os.length + 1) (tkL gr)).length = os.length + 1 + 1 := by simp
  refine WP_seq ?_
  -- R13
  refine WP_seqr [⟨0, 0, []⟩, ⟨1, 0, []⟩, ⟨2, 0, []⟩, ⟨3, 0, []⟩, ⟨4, 2, []⟩, ⟨5, 2, []⟩, ⟨6, 2, []⟩, ⟨7, 0, []⟩, ⟨8, 0, []⟩, ⟨9, 0, []⟩, ⟨10, 0, []⟩, ⟨11, 0, []⟩] (by kernel_rfl) ?_
  refine ns_move rfl rfl ?_
  refine ns_move rfl rfl ?_
  refine ns_move rfl rfl ?_
  refine ns_build [(0, .int .i64 8)] (opC (kdL 8)) pp_26 zc_26 rfl rfl rfl rfl ?_
  refine ns_lit [opV (kdL 8)] (opC (kdL 8)).toList sl_24 zr_26 (by decide) (by decide) hs rfl rfl rfl rfl (by simp [Value.cells, opV, opC]) rfl ?_
  refine fun b44 w hs hx => ⟨trivial, ?_⟩
  refine ns_app (opC (kdL 8)).toList sl_24 zr_26 by_26 rfl (by decide) (hs.foc (OArr out (wkL gr :: List.replicate (os.length + 1) (tkL gr)))) rfl rfl rfl rfl rfl (St.cells (n := 6) hs (by rfl)) (by intro u hu; simp [opC] at hu; rcases hu with rfl | rfl | rfl | rfl | rfl | rfl <;> rfl) (by simp only [maxLen]; omega) (by omega) ?_
  refine fun v45 w hs hv => ⟨trivial, ?_⟩
  have hs := hs.up (Ent.of_eq (onm (l := wkL gr :: List.replicate (os.length + 1) (tkL gr)) rfl rfl))
  have hmore : RdO (OArr v45 (wkL gr :: List.replicate (os.length + 1) (tkL gr) ++ [kdL 8])) v45 (wkL gr :: List.replicate (os.length + 1) (tkL gr) ++ [kdL 8]) := Arr.rd hs
  refine ns_call (f22_ok (R * OArr v45 (wkL gr :: List.replicate (os.length + 1) (tkL gr) ++ [kdL 8])) (.slice a1 os.length c1) v45 os (wkL gr :: List.replicate (os.length + 1) (tkL gr) ++ [kdL 8]) D hR.up hmore.up (by simp) (by omega) (by omega) (by omega) (by simp; omega) (taken_ok gr os.length)) ck_22 (hs.foc (R * OArr v45 (wkL gr :: List.replicate (os.length + 1) (tkL gr) ++ [kdL 8]))) rfl rfl rfl rfl ?_
  intro v46 w hs
  replace hs := hs.ex
  obtain ⟨⟨s, R2⟩, hs⟩ := hs
  replace hs := hs.pu
  obtain ⟨⟨rfl, hra⟩, hs⟩ := hs
  simp only [mul_assoc'] at hs
  generalize afterL [] (onT os) = l at hra hlen hsrt
  rw [run_taken gr l os.length hlen (by omega)] at hra
  have hLL := LL_len gr l
  generalize LL gr l = L at hra hLL
  generalize hal : (⟨false, 0, L⟩ : An) :: ((List.range (os.length + 1)).map (fun i => oneA L[i]?) ++ [⟨false, 0, []⟩]) = al at hra
  have hal0 : al[0]? = some ⟨false, 0, L⟩ := by rw [← hal]; rfl
  have half : al.length = os.length + 3 := by rw [← hal]; simp
  have hali : ∀ i, i < os.length + 1 → al[i + 1]? = some (oneA L[i]?) := fun i hi => by
    rw [← hal, List.getElem?_cons_succ, List.getElem?_append_left (by simpa using hi), List.getElem?_map, List.getElem?_range hi]; rfl
  have hale : al[os.length + 2]? = some ⟨false, 0, []⟩ := by
    rw [← hal, List.getElem?_cons_succ, List.getElem?_append_right (by simp)]; simp
  clear hal
  obtain ⟨a4, c4, rfl, hc4⟩ := id hra.form
  refine ns_move rfl rfl ?_
  refine ns_ext rfl rfl rfl rfl ?_
  refine ns_ext rfl rfl rfl rfl ?_
  refine ns_asg rfl rfl ?_
  refine ns_asg rfl rfl ?_
  refine ns_done ?_
  refine WP_seq ?_ -- S7
  refine WP_seq ?_
  have hs : St w0 (R2 * (R * F)) w := hs.out
  obtain ⟨g0, o0, _, s0, e, hi0, hc0⟩ := hra.get hal0
  cases e
  have hi0 : RdI R2 s0 L := hi0
  obtain ⟨a6, c6, rfl, hc6⟩ := id hi0.form
  -- R14
  refine WP_seqr [⟨0, 0, []⟩, ⟨1, 0, []⟩, ⟨2, 0, []⟩, ⟨3, 0, []⟩, ⟨4, 0, []⟩, ⟨5, 0, []⟩, ⟨6, 1, []⟩, ⟨7, 0, []⟩, ⟨8, 0, []⟩, ⟨9, 0, []⟩, ⟨10, 0, []⟩, ⟨11, 0, []⟩] (by kernel_rfl) ?_
  refine ns_move rfl rfl ?_
  refine ns_not rfl rfl rfl ?_
  refine ns_move rfl rfl ?_
  refine ns_move rfl rfl ?_
  refine ns_idx 0 sl_28 rfl rfl rfl rfl rfl (by omega) ?_
  refine ns_fld fo_36_2 rfl rfl rfl ?_
  refine ns_ld pl_34 rfl rfl rfl ((hc0 _ _ _ (hs.foc R2)).at 2 rfl) ?_
  refine ns_len sl_34 rfl rfl rfl ?_
  refine ns_move rfl rfl ?_
  refine ns_len sl_24 rfl rfl rfl ?_
  refine ns_cmp false rfl rfl rfl rfl (congrArg some (decide_eq_false (by omega))) ?_
  refine ns_pick rfl rfl rfl ?_
  refine ns_done ?_
  refine WP_false rfl ?_ -- if5
  refine WP_skip ?_
  refine WP_seq_cut (fun σ w => σ 10 = .slice (some ⟨g0, o0, none⟩) al.length c4 ∧ St w0 (R2 * (R * F)) w) ?_ ?_ -- S8
  · refine WP_seq ?_
    -- R16
    refine WP_seqr [⟨0, 0, []⟩, ⟨1, 0, []⟩, ⟨2, 0, []⟩, ⟨3, 0, []⟩, ⟨4, 0, []⟩, ⟨5, 0, []⟩, ⟨6, 0, []⟩] (by kernel_rfl) ?_
    refine ns_move rfl rfl ?_
    refine ns_move rfl rfl ?_
    refine ns_len sl_24 rfl rfl rfl ?_
    refine ns_add rfl rfl rfl rfl (by omega) (by omega) ?_
    refine ns_sliceLH 1 (os.length + 2) sl_28 rfl rfl rfl rfl rfl rfl (by omega) (by omega) (by omega) ?_
    refine ns_len sl_28 rfl rfl rfl ?_
    refine ns_move rfl rfl ?_
    refine ns_done ?_
    have hq := RdA.part rfl hra 1 (os.length + 2) (by omega) (by omega)
    generalize hP : ((al.drop 1).take (os.length + 2 - 1)) = P at hq
    have hPl : P.length = os.length + 1 := by rw [← hP, List.length_take, List.length_drop]; omega
    have hPi : ∀ i, i < os.length + 1 → P[i]? = some (oneA L[i]?) := fun i hi => by
      rw [← hP, List.getElem?_take, if_pos (by omega), List.getElem?_drop, Nat.add_comm]; exact hali i hi
    obtain ⟨a7, c7, e7, hc7⟩ := hq.form
    rw [e7] at hq
    refine WP_block ?_
    refine WP_loop (fun m σ w => ∃ i : Nat, m = os.length + 1 - i ∧ i ≤ os.length + 1 ∧ σ 10 = .slice (some ⟨g0, o0, none⟩) al.length c4 ∧ σ 65 = .slice a7 P.length c7 ∧ σ 66 = .int .i64 ((os.length + 1 : Nat) : Int) ∧ σ 67 = .int .i64 (i : Int) ∧ St w0 (R2 * (R * F)) w) (os.length + 1) ?_ ?_ -- L2
    · exact ⟨0, rfl, Nat.zero_le _, rfl, e7, congrArg (fun k : Nat => Value.int .i64 (k : Int)) (by omega : os.length + 2 - 1 = os.length + 1), rfl, hs⟩
    rintro m σ w ⟨i, rfl, hi, g10, g65, g66, g67, hs⟩
    obtain ⟨σ, rfl⟩ := rebase g10
    obtain ⟨σ, rfl⟩ := rebase (σ := σ) g65
    obtain ⟨σ, rfl⟩ := rebase (σ := σ) g66
    obtain ⟨σ, rfl⟩ := rebase (σ := σ) g67
    clear g10 g65 g66 g67
    refine WP_seq ?_
    -- R17
    refine WP_seqr [⟨0, 0, []⟩] (by kernel_rfl) ?_
    refine ns_cmp _ rfl rfl rfl rfl rfl ?_
    refine ns_done ?_
    refine WP_seq ?_ -- S9
    refine WP_if' rfl (fun hif6 => ?_) (fun hif6 => ?_)
    · refine WP_exit ?_
      exact ⟨rfl, hs⟩
    refine WP_skip ?_
    have hi2 : i < os.length + 1 := by have := of_decide_eq_true hif6; omega
    obtain ⟨g, q, _, s1, e, hri, hce⟩ := hq.get (hPi i hi2)
    cases e
    obtain ⟨a5, c5, rfl, hc5⟩ := id hri.form
    generalize hxe : oneA L[i]? = x at hri hce hc5
    refine WP_seq ?_ -- S10
    refine WP_block ?_
    refine WP_seq ?_
    -- R18
    refine WP_seqr [⟨0, 0, []⟩, ⟨1, 0, []⟩, ⟨2, 1, []⟩, ⟨3, 2, []⟩, ⟨4, 0, []⟩, ⟨5, 2, []⟩] (by kernel_rfl) ?_
    refine ns_move rfl rfl ?_
    refine ns_idx i sl_28 rfl rfl rfl rfl rfl (by omega) ?_
    refine ns_ldA [.bool x.ok, .int .i64 x.n, .slice a5 x.items.length c5] ag_36 rfl rfl rfl rfl (by decide) (hce _ _ _ (hs.foc R2)) ?_
    refine ns_alloc zc_36 hs rfl rfl ?_
    intro b13 w hs
    refine ns_asg rfl rfl ?_
    refine ns_stA (#[.bool x.ok, .int .i64 x.n, .slice a5 x.items.length c5]) ag_36 rfl (by decide) hs rfl rfl rfl rfl (by intro u hu; simp at hu; rcases hu with rfl | rfl | rfl <;> rfl) (by simp) ?_
    refine fun w hs => ⟨trivial, ?_⟩
    refine ns_done ?_
    have hs : St w0 (pts b13 (.cells #[.bool x.ok, .int .i64 x.n, .slice a5 x.items.length c5] 36 (0, 0)) * _) w := hs
    refine WP_seq ?_
    -- R19
    refine WP_seqr [⟨0, 0, []⟩, ⟨1, 2, []⟩, ⟨2, 2, []⟩] (by kernel_rfl) ?_
    refine ns_build [] (#[.bool false, .int .i64 0, .slice none 0 0]) pp_36 zc_36 rfl rfl rfl rfl ?_
    refine ns_alloc zc_36 hs rfl rfl ?_
    intro b14 w hs
    refine ns_stA (#[.bool false, .int .i64 0, .slice none 0 0]) ag_36 rfl (by decide) hs rfl rfl rfl rfl (by intro u hu; simp at hu; rcases hu with rfl | rfl | rfl <;> rfl) (by simp) ?_
    refine fun w hs => ⟨trivial, ?_⟩
    refine ns_done ?_
    have hs : St w0 (pts b14 (.cells #[.bool false, .int .i64 0, .slice none 0 0] 36 (0, 0)) * _) w := hs
    refine WP_seq_cut (fun σ w => ∃ s14 : Value, RdI R2 s14 x.items ∧ σ 10 = .slice (some ⟨g0, o0, none⟩) al.length c4 ∧ σ 13 = .pointer (some ⟨b13, 0, none⟩) ∧ σ 14 = .pointer (some ⟨b14, 0, none⟩) ∧ σ 65 = .slice (some ⟨g, q, none⟩) P.length c7 ∧ σ 66 = .int .i64 ((os.length + 1 : Nat) : Int) ∧ σ 67 = .int .i64 (i : Int) ∧ St w0 (pts b14 (.cells #[.bool x.ok, .int .i64 x.n, s14] 36 (0, 0)) * (pts b13 (.cells #[.bool x.ok, .int .i64 x.n, .slice a5 x.items.length c5] 36 (0, 0)) * (R2 * (R * F)))) w) ?_ ?_ -- S11
    · refine WP_seq ?_
      -- R20
      refine WP_seqr [⟨0, 0, []⟩, ⟨1, 0, []⟩, ⟨2, 0, []⟩, ⟨3, 0, []⟩, ⟨4, 1, []⟩, ⟨5, 0, []⟩, ⟨6, 0, []⟩] (by kernel_rfl) ?_
      refine ns_move rfl rfl ?_
      refine ns_move rfl rfl ?_
      refine ns_idx 0 sl_28 rfl rfl rfl rfl rfl (by omega) ?_
      refine ns_fld fo_36_2 rfl rfl rfl ?_
      refine ns_ld pl_34 rfl rfl rfl ((hc0 _ _ _ (hs.foc R2)).at 2 rfl) ?_
      refine ns_len sl_34 rfl rfl rfl ?_
      refine ns_cmp _ rfl rfl rfl rfl rfl ?_
      refine ns_done ?_
      refine WP_if rfl (fun hif7 => ?_) (fun hif7 => ?_)
      · have hiL : i < L.length := by have := of_decide_eq_true hif7; omega
        -- R21
        refine WP_seqr [⟨0, 0, []⟩, ⟨1, 0, []⟩, ⟨2, 0, []⟩, ⟨3, 1, []⟩, ⟨4, 0, []⟩, ⟨5, 0, []⟩, ⟨6, 0, []⟩, ⟨7, 0, []⟩, ⟨8, 0, []⟩, ⟨9, 2, []⟩] (by kernel_rfl) ?_
        refine ns_move rfl rfl ?_
        refine ns_idx 0 sl_28 rfl rfl rfl rfl rfl (by omega) ?_
        refine ns_fld fo_36_2 rfl rfl rfl ?_
        refine ns_ld pl_34 rfl rfl rfl ((hc0 _ _ _ (hs.foc R2)).at 2 rfl) ?_
        refine ns_move rfl rfl ?_
        refine ns_move rfl rfl ?_
        refine ns_add rfl rfl rfl rfl (by omega) (by omega) ?_
        refine ns_sliceLH i (i + 1) sl_34 rfl rfl rfl rfl rfl rfl rfl (by omega) (by omega) ?_
        refine ns_build [(0, .bool true), (2, .slice (if c6 = i then a6 else a6.map (·.add (i * 2))) (i + 1 - i) (c6 - i))] (#[.bool true, .int .i64 0, .slice (if c6 = i then a6 else a6.map (·.add (i * 2))) (i + 1 - i) (c6 - i)]) pp_36 zc_36 rfl rfl rfl rfl ?_
        refine ns_stA (#[.bool true, .int .i64 0, .slice (if c6 = i then a6 else a6.map (·.add (i * 2))) (i + 1 - i) (c6 - i)]) ag_36 rfl (by decide) hs rfl rfl rfl rfl (by intro u hu; simp at hu; rcases hu with rfl | rfl | rfl <;> rfl) (by simp) ?_
        refine fun w hs => ⟨trivial, ?_⟩
        refine ns_done ?_
        obtain ⟨y, hy⟩ : ∃ y, L[i]? = some y := ⟨L[i]'hiL, List.getElem?_eq_getElem hiL⟩
        rw [hy] at hxe
        subst hxe
        have hp := RdI.part rfl hi0 i (i + 1) (by omega) (by omega)
        rw [show (L.drop i).take (i + 1 - i) = [y] from by
          obtain ⟨h1, h2⟩ := List.getElem?_eq_some_iff.1 hy
          rw [show i + 1 - i = 1 from by omega, List.drop_eq_getElem_cons h1, h2]; rfl] at hp
        have hs : St w0 (pts b14 (.cells #[.bool (oneA (some y)).ok, .int .i64 (oneA (some y)).n, .slice (if c6 = i then a6 else a6.map (·.add (i * 2))) (i + 1 - i) (c6 - i)] 36 (0, 0)) * _) w := hs
        exact ⟨_, hp, rfl, rfl, rfl, rfl, rfl, rfl, hs.out⟩
      refine WP_skip ?_
      have hiL : ¬ i < L.length := by have := of_decide_eq_false hif7; omega
      rw [List.getElem?_eq_none (by omega)] at hxe
      subst hxe
      have hs : St w0 (pts b14 (.cells #[.bool (oneA none).ok, .int .i64 (oneA none).n, .slice none 0 0] 36 (0, 0)) * _) w := hs
      exact ⟨.slice none 0 0, nil_rdI R2, rfl, rfl, rfl, rfl, rfl, rfl, hs.out⟩
    rintro σ w ⟨s14, hr14, g10, g13, g14, g65, g66, g67, hs⟩
    obtain ⟨σ, rfl⟩ := rebase g10
    obtain ⟨σ, rfl⟩ := rebase (σ := σ) g13
    obtain ⟨σ, rfl⟩ := rebase (σ := σ) g14
    obtain ⟨σ, rfl⟩ := rebase (σ := σ) g65
    obtain ⟨σ, rfl⟩ := rebase (σ := σ) g66
    obtain ⟨σ, rfl⟩ := rebase (σ := σ) g67
    clear g10 g13 g14 g65 g66 g67
    refine WP_seq ?_
    -- R22
    refine WP_seqr [⟨0, 1, []⟩, ⟨1, 2, []⟩, ⟨2, 1, []⟩, ⟨3, 2, []⟩, ⟨4, 2, []⟩, ⟨5, 0, []⟩] (by kernel_rfl) ?_
    refine ns_ldAB [.bool x.ok, .int .i64 x.n, .slice a5 x.items.length c5] ag_36 hs rfl rfl rfl (by rfl) (by rfl) (by decide) ?_
    refine ns_lit [.agg #[.bool x.ok, .int .i64 x.n, .slice a5 x.items.length c5]] (encA [x] [.slice a5 x.items.length c5]) sl_28 zr_36 (by decide) (by decide) hs rfl rfl rfl rfl (by simp [Value.cells]) rfl ?_
    refine fun b90 w hs hx => ⟨trivial, ?_⟩
    refine ns_ldAB [.bool x.ok, .int .i64 x.n, s14] ag_36 hs rfl rfl rfl (by rfl) (by rfl) (by decide) ?_
    refine ns_lit [.agg #[.bool x.ok, .int .i64 x.n, s14]] (encA [x] [s14]) sl_28 zr_36 (by decide) (by decide) hs rfl rfl rfl rfl (by simp [Value.cells]) rfl ?_
    refine fun b92 w hs hx => ⟨trivial, ?_⟩
    have hq1 := lit_rdA b90 [x] [.slice a5 x.items.length c5] R2 (0, 0) rfl (rd_one hri)
    have hq2 := lit_rdA b92 [x] [s14] R2 (0, 0) rfl (rd_one hr14)
    refine ns_call (f25_ok (R2 * (pts b90 (.cells (encA [x] [.slice a5 x.items.length c5]).toArray 36 (0, 0)) * pts b92 (.cells (encA [x] [s14]).toArray 36 (0, 0)))) _ _ [x] (RdA.up hq1) (RdA.up hq2) (by simp) (by
      intro y hy
      rw [List.mem_singleton.1 hy, ← hxe]
      show (L[i]?).toList.length < 1000000
      cases L[i]? <;> simp)) ck_25 (hs.foc (R2 * (pts b90 (.cells (encA [x] [.slice a5 x.items.length c5]).toArray 36 (0, 0)) * pts b92 (.cells (encA [x] [s14]).toArray 36 (0, 0))))) rfl rfl rfl rfl ?_
    intro v93 w hs
    replace hs := hs.pu
    obtain ⟨rfl, hs⟩ := hs
    try simp only [mul_assoc'] at hs
    refine ns_not rfl rfl rfl ?_
    refine ns_done ?_
    refine WP_false rfl ?_ -- if8
    refine WP_skip ?_
    -- R24
    refine WP_seqr [⟨0, 0, []⟩, ⟨1, 0, []⟩] (by kernel_rfl) ?_
    refine ns_add rfl rfl rfl rfl (by omega) (by omega) ?_
    refine ns_move rfl rfl ?_
    refine ns_done ?_
    exact ⟨os.length + 1 - (i + 1), by omega, i + 1, rfl, by omega, rfl, rfl, rfl, rfl, hs.out⟩
    
  rintro σ w ⟨g10, hs⟩
  obtain ⟨σ, rfl⟩ := rebase g10
  clear g10
  obtain ⟨g2, o2, _, s2, e, _, hc2⟩ := hra.get hale
  cases e
  refine WP_seq ?_
  -- R25
  refine WP_seqr [⟨0, 0, []⟩, ⟨1, 0, []⟩, ⟨2, 0, []⟩, ⟨3, 0, []⟩, ⟨4, 0, []⟩, ⟨5, 0, []⟩, ⟨6, 1, []⟩, ⟨7, 0, []⟩, ⟨8, 0, []⟩] (by kernel_rfl) ?_
  refine ns_move rfl rfl ?_
  refine ns_move rfl rfl ?_
  refine ns_len sl_28 rfl rfl rfl ?_
  refine ns_sub rfl rfl rfl rfl (by omega) (by omega) ?_
  refine ns_idx (os.length + 2) sl_28 rfl rfl rfl rfl (by omega) (by omega) ?_
  refine ns_fld fo_36_1 rfl rfl rfl ?_
  refine ns_ld pl_2 rfl rfl rfl ((hc2 _ _ _ (hs.foc R2)).at 1 rfl) ?_
  refine ns_cmp true rfl rfl rfl rfl (by simp [cmpI]) ?_
  refine ns_asg rfl rfl ?_
  refine ns_done ?_
  refine WP_ret ?_
  exact ⟨_, res1 _, St.mk_pu rfl hs.out⟩
end Go.Proofs.Ytnnembkganlbpaa
/- The walks of putting keys in, and of the law on sorted walks: FnSorted. -/
namespace Go.Proofs.Ytnnembkganlbpaa
open Go Go.Sl Go.Net Go.Wk Go.Bt Go.RowKit

/-- the steps that put the first n of some keys in, each with its place as its value -/
def putsN (ks : List Int) (n : Nat) : List Sop := (List.range n).map fun i => kkL 0 (ks.getD i 0) i
theorem putsN_len (ks : List Int) (n : Nat) : (putsN ks n).length = n := by simp [putsN]
theorem putsN_snoc {ks : List Int} {i : Nat} {x : Int} (h : ks[i]? = some x) : putsN ks (i + 1) = putsN ks i ++ [kkL 0 x i] := by
  unfold putsN
  rw [List.range_succ, List.map_append, List.map_cons, List.map_nil]
  simp [List.getD, h]
theorem putsN_onT (ks : List Int) (n : Nat) : onT (putsN ks n) = putsN ks n := by
  unfold onT
  rw [List.filter_eq_self.2 (fun o ho => by
    simp only [putsN, List.mem_map] at ho
    obtain ⟨i, _, rfl⟩ := ho
    rfl)]
  refine (List.map_congr_left fun o ho => ?_).trans (List.map_id _)
  simp only [putsN, List.mem_map] at ho
  obtain ⟨i, _, rfl⟩ := ho
  rfl
/-- what a tree holds behind putting the first n of some keys in -/
theorem puts_inv (ks : List Int) : ∀ n, n ≤ ks.length → (∀ x ∈ afterL [] (putsN ks n), ∃ j : Nat, j < n ∧ x.val = j ∧ ks[j]? = some x.key) ∧ ∀ j : Nat, j < n → ∃ x ∈ afterL [] (putsN ks n), ks[j]? = some x.key ∧ (j : Int) ≤ x.val := by
  intro n
  induction n with
  | zero => exact fun _ => ⟨(fun x hx => by cases hx), (fun j hj => by omega)⟩
  | succ n ih =>
    intro hn
    obtain ⟨h1, h2⟩ := ih (by omega)
    obtain ⟨k, hk⟩ : ∃ k, ks[n]? = some k := ⟨ks[n]'(by omega), List.getElem?_eq_getElem (by omega)⟩
    have hS : Srt (afterL [] (putsN ks n)) := held_srt _
    rw [putsN_snoc hk, after_append]
    show (∀ x ∈ (stepL (afterL [] (putsN ks n)) (kkL 0 k n)).1, _) ∧ ∀ j : Nat, j < n + 1 → ∃ x ∈ (stepL (afterL [] (putsN ks n)) (kkL 0 k n)).1, _
    rw [st_put]
    refine ⟨fun x hx => ?_, fun j hj => ?_⟩
    · rcases (mem_put hS).1 hx with rfl | ⟨hx, _⟩
      · exact ⟨n, by omega, rfl, hk⟩
      · obtain ⟨j, e1, e2, e3⟩ := h1 x hx
        exact ⟨j, by omega, e2, e3⟩
    · rcases Nat.lt_succ_iff_lt_or_eq.1 hj with hj | rfl
      · obtain ⟨x, hx, e1, e2⟩ := h2 j hj
        by_cases e : x.key = k
        · exact ⟨⟨k, n⟩, (mem_put hS).2 (.inl rfl), by rw [e1, e], by show (j : Int) ≤ (n : Int); omega⟩
        · exact ⟨x, (mem_put hS).2 (.inr ⟨hx, e⟩), e1, e2⟩
      · exact ⟨⟨k, j⟩, (mem_put hS).2 (.inl rfl), hk, Int.le_refl _⟩
theorem opC_one2 (o : Sop) : ∀ u ∈ (opC o).toList, u.oneCell' = true := opC_one o
set_option maxHeartbeats 1600000 in
theorem f24_ok (R : HProp) (v : Value) (ks : List Int) (hR : RdK R v ks) (hll : ks.length < 90000) : Tri Try.prog 24 #[v] R fun r => R * OArr r (putsN ks ks.length) := by
  obtain ⟨hxl, a1, c1, rfl, hc1, hrd⟩ := hR
  intro w0 F w hs
  refine calls_WP 22 #[.tmp 2] Try.func24 rfl Try.ntmps24 rfl (Nat.le_of_ble_eq_true rfl) ?_
  refine WP_seq ?_
  -- R0
  refine WP_seqr [⟨0, 0, []⟩] (by kernel_rfl) ?_
  refine ns_asg rfl rfl ?_
  refine ns_done ?_
  refine WP_seq ?_
  -- R1
  refine WP_seqr [⟨0, 2, []⟩, ⟨1, 0, []⟩] (by kernel_rfl) ?_
  refine ns_lit0 sl_24 hs rfl rfl ?_
  refine fun b6 w hs hx => ⟨trivial, ?_⟩
  refine ns_asg rfl rfl ?_
  refine ns_done ?_
  refine WP_seq_cut (fun σ w => ∃ (out : Value), σ 3 = out ∧ St w0 (R * (OArr out (putsN ks ks.length) * F)) w) ?_ ?_ -- S1
  · refine WP_seq ?_
    -- R2
    refine WP_seqr [⟨0, 0, []⟩, ⟨1, 0, []⟩, ⟨2, 0, []⟩] (by kernel_rfl) ?_
    refine ns_move rfl rfl ?_
    refine ns_len sl_22 rfl rfl rfl ?_
    refine ns_move rfl rfl ?_
    refine ns_done ?_
    refine WP_block ?_
    refine WP_loop (fun m σ w => ∃ (i : Nat) (out : Value), m = ks.length - i ∧ i ≤ ks.length ∧ σ 3 = out ∧ σ 7 = .slice a1 ks.length c1 ∧ σ 8 = .int .i64 (ks.length : Int) ∧ σ 9 = .int .i64 (i : Int) ∧ St w0 (R * (OArr out (putsN ks i) * F)) w) ks.length ?_ ?_ -- L1
    · refine ⟨0, .slice (some ⟨b6, 0, none⟩) 0 0, rfl, Nat.zero_le _, rfl, rfl, rfl, rfl, ?_⟩
      show St w0 (R * (Arr 26 6 _ 0 [] * F)) w
      exact hs.out
    rintro m σ w ⟨i, out, rfl, hi, g3, g7, g8, g9, hs⟩
    obtain ⟨σ, rfl⟩ := rebase g3
    obtain ⟨σ, rfl⟩ := rebase (σ := σ) g7
    obtain ⟨σ, rfl⟩ := rebase (σ := σ) g8
    obtain ⟨σ, rfl⟩ := rebase (σ := σ) g9
    clear g3 g7 g8 g9
    refine WP_seq ?_
    -- R3
    refine WP_seqr [⟨0, 0, []⟩] (by kernel_rfl) ?_
    refine ns_cmp _ rfl rfl rfl rfl rfl ?_
    refine ns_done ?_
    refine WP_seq ?_ -- S2
    refine WP_if' rfl (fun hif1 => ?_) (fun hif1 => ?_)
    · refine WP_exit ?_
      have hi2 : i = ks.length := by have := of_decide_eq_false hif1; omega
      subst hi2
      exact ⟨out, rfl, hs⟩
    refine WP_skip ?_
    have hi2 : i < ks.length := by have := of_decide_eq_true hif1; omega
    obtain ⟨x, hxi⟩ : ∃ x, ks[i]? = some x := ⟨ks[i]'hi2, List.getElem?_eq_getElem hi2⟩
    obtain ⟨g, o, rfl, hat⟩ := hrd (by omega)
    have hpl := putsN_len ks i
    refine WP_seq ?_ -- S3
    refine WP_block ?_
    refine WP_seq ?_
    -- R4
    refine WP_seqr [⟨0, 0, []⟩, ⟨1, 0, []⟩, ⟨2, 1, []⟩, ⟨3, 0, []⟩, ⟨4, 0, []⟩] (by kernel_rfl) ?_
    refine ns_move rfl rfl ?_
    refine ns_idx i sl_22 rfl rfl rfl rfl rfl hi2 ?_
    refine ns_ld pl_2 rfl rfl rfl (key_cell hat (hs.foc R) hxi) ?_
    refine ns_asg rfl rfl ?_
    refine ns_asg rfl rfl ?_
    refine ns_done ?_
    -- R5
    refine WP_seqr [⟨0, 0, []⟩, ⟨1, 0, []⟩, ⟨2, 0, []⟩, ⟨3, 0, []⟩, ⟨4, 2, []⟩, ⟨5, 2, []⟩, ⟨6, 0, []⟩] (by kernel_rfl) ?_
    refine ns_move rfl rfl ?_
    refine ns_move rfl rfl ?_
    refine ns_move rfl rfl ?_
    refine ns_build [(0, .int .i64 0), (2, .int .i64 x), (4, .int .i64 (i : Int))] (#[.int .i64 0, .int .i64 0, .int .i64 x, .int .i64 0, .int .i64 (i : Int), .int .i64 0]) pp_26 zc_26 rfl rfl rfl rfl ?_
    refine ns_lit [opV (kkL 0 x i)] (opC (kkL 0 x i)).toList sl_24 zr_26 (by decide) (by decide) hs rfl rfl rfl rfl (by simp [Value.cells, opV, opC]) rfl ?_
    refine fun b18 w hs hx => ⟨trivial, ?_⟩
    refine ns_app (opC (kkL 0 x i)).toList sl_24 zr_26 by_26 rfl (by decide) (hs.foc (OArr out (putsN ks i))) rfl rfl rfl rfl rfl (St.cells (n := 6) hs (by rfl)) (opC_one2 _) (by simp only [maxLen]; omega) (by omega) ?_
    refine fun v19 w hs hv => ⟨trivial, ?_⟩
    have hs := hs.up (Ent.of_eq (onm (l := putsN ks i) rfl rfl))
    rw [← putsN_snoc hxi] at hs
    refine ns_asg rfl rfl ?_
    refine ns_done ?_
    -- R6
    refine WP_seqr [⟨0, 0, []⟩, ⟨1, 0, []⟩] (by kernel_rfl) ?_
    refine ns_add rfl rfl rfl rfl (by omega) (by omega) ?_
    refine ns_move rfl rfl ?_
    refine ns_done ?_
    exact ⟨ks.length - (i + 1), by omega, i + 1, v19, rfl, by omega, rfl, rfl, rfl, rfl, hs.out⟩
    
  rintro σ w ⟨out, g3, hs⟩
  obtain ⟨σ, rfl⟩ := rebase g3
  refine WP_seq ?_
  -- R7
  refine WP_seqr [⟨0, 0, []⟩, ⟨1, 0, []⟩] (by kernel_rfl) ?_
  refine ns_move rfl rfl ?_
  refine ns_asg rfl rfl ?_
  refine ns_done ?_
  refine WP_ret ?_
  refine ⟨_, res1 _, ?_⟩
  show St w0 ((R * OArr out (putsN ks ks.length)) * F) w
  exact hs.out
set_option maxHeartbeats 6400000 in
theorem f16_ok (R : HProp) (v : Value) (ks : List Int) (d : Int) (hR : RdK R v ks) : Tri Try.prog 16 #[.int .i64 d, v] R fun r => pu (r = .bool true) * R := by
  obtain ⟨_, a1, c1, rfl, hc1, hrd⟩ := id hR
  intro w0 F w hs
  refine calls_WP 98 #[.tmp 4] Try.func16 rfl Try.ntmps16 rfl (Nat.le_of_ble_eq_true rfl) ?_
  refine WP_seq ?_
  -- R0
  refine WP_seqr [⟨0, 0, []⟩] (by kernel_rfl) ?_
  refine ns_asg rfl rfl ?_
  refine ns_done ?_
  refine WP_seq ?_ -- S1
  refine WP_seq ?_
  -- R1
  refine WP_seqr [⟨0, 0, []⟩, ⟨1, 0, []⟩, ⟨2, 0, []⟩] (by kernel_rfl) ?_
  refine ns_move rfl rfl ?_
  refine ns_len sl_22 rfl rfl rfl ?_
  refine ns_cmp _ rfl rfl rfl rfl rfl ?_
  refine ns_done ?_
  refine WP_if rfl (fun hif1 => ?_) (fun hif1 => ?_)
  · refine WP_seq ?_
    -- R2
    refine WP_seqr [⟨0, 0, []⟩] (by kernel_rfl) ?_
    refine ns_asg rfl rfl ?_
    refine ns_done ?_
    refine WP_ret ?_
    exact ⟨_, res1 _, St.mk_pu rfl hs.out⟩
  refine WP_skip ?_
  refine WP_seq ?_ -- S2
  refine WP_seq_cut (fun σ w => σ 0 = .int .i64 d ∧ σ 1 = .slice a1 ks.length c1 ∧ σ 23 = .bool (!decide (2 ≤ d ∧ d ≤ 1000 ∧ ks.length ≤ 2000)) ∧ St w0 (R * F) w) ?_ ?_ -- R3.cut
  · by_cases hf : 2 ≤ d ∧ d ≤ 1000
    · -- R3
      refine WP_seqr [⟨0, 0, []⟩, ⟨1, 2, []⟩, ⟨2, 0, []⟩, ⟨3, 0, []⟩, ⟨4, 0, []⟩, ⟨5, 0, []⟩, ⟨6, 0, []⟩, ⟨7, 0, []⟩] (by kernel_rfl) ?_
      refine ns_move rfl rfl ?_
      refine ns_call (f20_ok d none 0 0) ck_20 (hs.foc 1) rfl rfl rfl rfl ?_
      intro v17 w hs
      replace hs := hs.pure
      obtain ⟨hv17, hs⟩ := hs
      rw [show decide (2 ≤ d ∧ d ≤ 1000 ∧ 0 ≤ 2000) = true from decide_eq_true ⟨hf.1, hf.2, by omega⟩] at hv17
      subst hv17
      refine ns_not rfl rfl rfl ?_
      refine ns_move rfl rfl ?_
      refine ns_move rfl rfl ?_
      refine ns_len sl_22 rfl rfl rfl ?_
      refine ns_cmp _ rfl rfl rfl rfl rfl ?_
      refine ns_pick rfl rfl rfl ?_
      refine ns_done ?_
      refine ⟨rfl, rfl, congrArg Value.bool ?_, hs⟩
      by_cases hn : ks.length ≤ 2000
      · rw [show decide (2 ≤ d ∧ d ≤ 1000 ∧ ks.length ≤ 2000) = true from decide_eq_true ⟨hf.1, hf.2, hn⟩]
        exact decide_eq_false (by omega)
      · rw [show decide (2 ≤ d ∧ d ≤ 1000 ∧ ks.length ≤ 2000) = false from decide_eq_false fun h => hn h.2.2]
        exact decide_eq_true (by omega)
    · -- R3
      refine WP_seqr [⟨0, 0, []⟩, ⟨1, 2, []⟩, ⟨2, 0, []⟩, ⟨3, 0, []⟩, ⟨4, 0, []⟩, ⟨5, 0, []⟩, ⟨6, 0, []⟩, ⟨7, 0, []⟩] (by kernel_rfl) ?_
      refine ns_move rfl rfl ?_
      refine ns_call (f20_ok d none 0 0) ck_20 (hs.foc 1) rfl rfl rfl rfl ?_
      intro v17 w hs
      replace hs := hs.pure
      obtain ⟨hv17, hs⟩ := hs
      rw [show decide (2 ≤ d ∧ d ≤ 1000 ∧ 0 ≤ 2000) = false from decide_eq_false fun h => hf ⟨h.1, h.2.1⟩] at hv17
      subst hv17
      refine ns_not rfl rfl rfl ?_
      refine ns_move rfl rfl ?_
      refine ns_no rfl rfl ?_
      refine ns_no rfl rfl ?_
      refine ns_no rfl rfl ?_
      refine ns_pick rfl rfl rfl ?_
      refine ns_done ?_
      refine ⟨rfl, rfl, congrArg Value.bool ?_, hs⟩
      rw [show decide (2 ≤ d ∧ d ≤ 1000 ∧ ks.length ≤ 2000) = false from decide_eq_false fun h => hf ⟨h.1, h.2.1⟩]
      rfl
  rintro σ w ⟨g0, g1, g23, hs⟩
  obtain ⟨σ, rfl⟩ := rebase g0
  obtain ⟨σ, rfl⟩ := rebase (σ := σ) g1
  obtain ⟨σ, rfl⟩ := rebase (σ := σ) g23
  clear g0 g1 g23
  refine WP_if rfl (fun hif2 => ?_) (fun hif2 => ?_)
  · refine WP_seq ?_
    -- R4
    refine WP_seqr [⟨0, 0, []⟩] (by kernel_rfl) ?_
    refine ns_asg rfl rfl ?_
    refine ns_done ?_
    refine WP_ret ?_
    exact ⟨_, res1 _, St.mk_pu rfl hs.out⟩
  refine WP_skip ?_
  have hfit : 2 ≤ d ∧ d ≤ 1000 ∧ ks.length ≤ 2000 := by
    have : (!decide (2 ≤ d ∧ d ≤ 1000 ∧ ks.length ≤ 2000)) = false := hif2
    simpa using this
  obtain ⟨hd, hd2, hn⟩ := hfit
  obtain ⟨D, rfl⟩ : ∃ D : Nat, d = D := ⟨d.toNat, by omega⟩
  have hpl := putsN_len ks ks.length
  have hlen := held_len (putsN ks ks.length)
  have hsrt := held_srt (putsN ks ks.length)
  have hpi := puts_inv ks ks.length (Nat.le_refl _)
  refine WP_seq ?_
  -- R5
  refine WP_seqr [⟨0, 0, []⟩, ⟨1, 0, []⟩, ⟨2, 2, []⟩, ⟨3, 2, []⟩, ⟨4, 2, []⟩, ⟨5, 2, []⟩, ⟨6, 0, []⟩, ⟨7, 0, []⟩, ⟨8, 0, []⟩, ⟨9, 0, []⟩, ⟨10, 0, []⟩] (by kernel_rfl) ?_
  refine ns_move rfl rfl ?_
  refine ns_move rfl rfl ?_
  refine ns_call (f24_ok R (.slice a1 ks.length c1) ks hR (by omega)) ck_24 (hs.foc R) rfl rfl rfl rfl ?_
  intro v27 w hs
  simp only [mul_assoc'] at hs
  refine ns_call (f21_ok 9 0 0) ck_21 (hs.foc 1) rfl rfl rfl rfl ?_
  intro v28 w hs
  replace hs := hs.pure
  obtain ⟨rfl, hs⟩ := hs
  refine ns_lit [opV (allL 9 0 0)] (encO [allL 9 0 0]) sl_24 zr_26 (by decide) (by decide) hs rfl rfl rfl rfl (by simp [Value.cells, opV, opC]) rfl ?_
  refine fun b29 w hs hx => ⟨trivial, ?_⟩
  have hmore : RdO (R * (OArr v27 (putsN ks ks.length) * pts b29 (.cells (encO [allL 9 0 0]).toArray 26 (0, 0)))) (.slice (some ⟨b29, 0, none⟩) 1 1) [allL 9 0 0] := (lit_rdO b29 [allL 9 0 0] (0, 0)).up
  have hro : RdO (R * (OArr v27 (putsN ks ks.length) * pts b29 (.cells (encO [allL 9 0 0]).toArray 26 (0, 0)))) v27 (putsN ks ks.length) := RdO.up (Arr.rd (hs.foc (OArr v27 (putsN ks ks.length))))
  refine ns_call (f22_ok (R * (OArr v27 (putsN ks ks.length) * pts b29 (.cells (encO [allL 9 0 0]).toArray 26 (0, 0)))) v27 _ (putsN ks ks.length) [allL 9 0 0] D hro hmore (by simp) (by omega) (by omega) (by omega) (by simp) (by simp [allL])) ck_22 (hs.foc (R * (OArr v27 (putsN ks ks.length) * pts b29 (.cells (encO [allL 9 0 0]).toArray 26 (0, 0))))) rfl rfl rfl rfl ?_
  intro v30 w hs
  replace hs := hs.ex
  obtain ⟨⟨s, R2⟩, hs⟩ := hs
  replace hs := hs.pu
  obtain ⟨⟨rfl, hra⟩, hs⟩ := hs
  simp only [mul_assoc'] at hs
  rw [putsN_onT] at hra
  generalize afterL [] (putsN ks ks.length) = l at hra hlen hsrt hpi
  rw [run_walk 0 0 _ (by omega) (by decide) (by decide), range_up, run_end] at hra
  obtain ⟨a4, c4, rfl, hc4⟩ := id hra.form
  obtain ⟨g0, o0, _, s0, e, hi0, hc0⟩ := hra.get (i := 0) rfl
  cases e
  have hi0 : RdI R2 s0 l := hi0
  have hs : St w0 (R * (R2 * F)) w := hs.out
  refine ns_move rfl rfl ?_
  refine ns_ext rfl rfl rfl rfl ?_
  refine ns_ext rfl rfl rfl rfl ?_
  refine ns_asg rfl rfl ?_
  refine ns_asg rfl rfl ?_
  refine ns_done ?_
  refine WP_seq ?_ -- S3
  refine WP_seq ?_
  -- R6
  refine WP_seqr [⟨0, 0, []⟩, ⟨1, 0, []⟩, ⟨2, 0, []⟩, ⟨3, 0, []⟩, ⟨4, 0, []⟩, ⟨5, 0, []⟩, ⟨6, 1, []⟩, ⟨7, 2, []⟩, ⟨8, 0, []⟩, ⟨9, 0, []⟩] (by kernel_rfl) ?_
  refine ns_move rfl rfl ?_
  refine ns_not rfl rfl rfl ?_
  refine ns_move rfl rfl ?_
  refine ns_move rfl rfl ?_
  refine ns_idx 0 sl_28 rfl rfl rfl rfl rfl (by first | decide | simp) ?_
  refine ns_fld fo_36_2 rfl rfl rfl ?_
  refine ns_ld pl_34 rfl rfl rfl ((hc0 _ _ _ (hs.foc R2)).at 2 rfl) ?_
  refine ns_call (f35_ok R2 s0 l hi0 hsrt (by omega)) ck_35 (hs.foc R2) rfl rfl rfl rfl ?_
  intro v40 w hs
  replace hs := hs.pu
  obtain ⟨rfl, hs⟩ := hs
  try simp only [mul_assoc'] at hs
  refine ns_not rfl rfl rfl ?_
  refine ns_pick rfl rfl rfl ?_
  refine ns_done ?_
  refine WP_false rfl ?_ -- if3
  refine WP_skip ?_
  refine WP_seq_cut (fun σ w => σ 1 = .slice a1 ks.length c1 ∧ σ 5 = .slice (some ⟨g0, o0, none⟩) 1 c4 ∧ St w0 (R * (R2 * F)) w) ?_ ?_ -- S4
  · refine WP_seq ?_
    -- R8
    refine WP_seqr [⟨0, 0, []⟩, ⟨1, 0, []⟩, ⟨2, 0, []⟩] (by kernel_rfl) ?_
    refine ns_move rfl rfl ?_
    refine ns_len sl_22 rfl rfl rfl ?_
    refine ns_move rfl rfl ?_
    refine ns_done ?_
    refine WP_block ?_
    refine WP_loop (fun m σ w => ∃ i : Nat, m = ks.length - i ∧ i ≤ ks.length ∧ σ 1 = .slice a1 ks.length c1 ∧ σ 5 = .slice (some ⟨g0, o0, none⟩) 1 c4 ∧ σ 43 = .slice a1 ks.length c1 ∧ σ 44 = .int .i64 (ks.length : Int) ∧ σ 45 = .int .i64 (i : Int) ∧ St w0 (R * (R2 * F)) w) ks.length ?_ ?_ -- L1
    · exact ⟨0, rfl, Nat.zero_le _, rfl, rfl, rfl, rfl, rfl, hs.out⟩
    rintro m σ w ⟨i, rfl, hi, g1, g5, g43, g44, g45, hs⟩
    obtain ⟨σ, rfl⟩ := rebase g1
    obtain ⟨σ, rfl⟩ := rebase (σ := σ) g5
    obtain ⟨σ, rfl⟩ := rebase (σ := σ) g43
    obtain ⟨σ, rfl⟩ := rebase (σ := σ) g44
    obtain ⟨σ, rfl⟩ := rebase (σ := σ) g45
    clear g1 g5 g43 g44 g45
    refine WP_seq ?_
    -- R9
    refine WP_seqr [⟨0, 0, []⟩] (by kernel_rfl) ?_
    refine ns_cmp _ rfl rfl rfl rfl rfl ?_
    refine ns_done ?_
    refine WP_seq ?_ -- S5
    refine WP_if' rfl (fun hif4 => ?_) (fun hif4 => ?_)
    · refine WP_exit ?_
      exact ⟨rfl, rfl, hs⟩
    refine WP_skip ?_
    have hi2 : i < ks.length := by have := of_decide_eq_true hif4; omega
    obtain ⟨x, hx, hxk, hxv⟩ := hpi.2 i hi2
    obtain ⟨g, o, rfl, hat⟩ := hrd (by omega)
    have hg : get l x.key = some x := (get_iff hsrt).2 ⟨hx, rfl⟩
    refine WP_seq ?_ -- S6
    refine WP_block ?_
    refine WP_seq ?_
    -- R10
    refine WP_seqr [⟨0, 0, []⟩, ⟨1, 0, []⟩, ⟨2, 1, []⟩, ⟨3, 0, []⟩, ⟨4, 0, []⟩] (by kernel_rfl) ?_
    refine ns_move rfl rfl ?_
    refine ns_idx i sl_22 rfl rfl rfl rfl rfl hi2 ?_
    refine ns_ld pl_2 rfl rfl rfl (key_cell hat (hs.foc R) hxk) ?_
    refine ns_asg rfl rfl ?_
    refine ns_asg rfl rfl ?_
    refine ns_done ?_
    refine WP_seq ?_
    -- R11
    refine WP_seqr [⟨0, 0, []⟩, ⟨1, 0, []⟩, ⟨2, 0, []⟩, ⟨3, 1, []⟩, ⟨4, 0, []⟩, ⟨5, 2, []⟩, ⟨6, 0, []⟩, ⟨7, 0, []⟩, ⟨8, 0, []⟩, ⟨9, 2, []⟩, ⟨10, 2, []⟩, ⟨11, 0, []⟩] (by kernel_rfl) ?_
    refine ns_move rfl rfl ?_
    refine ns_idx 0 sl_28 rfl rfl rfl rfl rfl (by first | decide | simp) ?_
    refine ns_fld fo_36_2 rfl rfl rfl ?_
    refine ns_ld pl_34 rfl rfl rfl ((hc0 _ _ _ (hs.foc R2)).at 2 rfl) ?_
    refine ns_move rfl rfl ?_
    refine ns_call (f31_ok R2 s0 l x.key hi0 (by omega)) ck_31 (hs.foc R2) rfl rfl rfl rfl ?_
    intro v56 w hs
    rw [hg] at hs
    replace hs := hs.pu
    obtain ⟨rfl, hs⟩ := hs
    refine ns_move rfl rfl ?_
    refine ns_ext rfl rfl rfl rfl ?_
    refine ns_ext rfl rfl rfl rfl ?_
    refine ns_alloc zc_45 hs rfl rfl ?_
    intro b9 w hs
    refine ns_stA (#[.int .i64 x.key, .int .i64 x.val]) ag_45 rfl (by decide) hs rfl rfl rfl rfl (by intro u hu; simp at hu; rcases hu with rfl | rfl <;> rfl) (by simp) ?_
    refine fun w hs => ⟨trivial, ?_⟩
    refine ns_asg rfl rfl ?_
    refine ns_done ?_
    have hs : St w0 (pts b9 (.cells #[.int .i64 x.key, .int .i64 x.val] 45 (0, 0)) * _) w := hs
    refine WP_seq ?_
    -- R12
    refine WP_seqr [⟨0, 0, []⟩, ⟨1, 0, []⟩, ⟨2, 0, []⟩, ⟨3, 0, []⟩, ⟨4, 1, []⟩, ⟨5, 0, []⟩, ⟨6, 0, []⟩, ⟨7, 0, []⟩] (by kernel_rfl) ?_
    refine ns_move rfl rfl ?_
    refine ns_not rfl rfl rfl ?_
    refine ns_move rfl rfl ?_
    refine ns_fld fo_45_1 rfl rfl rfl ?_
    refine ns_ldB pl_2 hs rfl rfl rfl (by rfl) ?_
    refine ns_move rfl rfl ?_
    refine ns_cmp false rfl rfl rfl rfl (congrArg some (decide_eq_false (by omega))) ?_
    refine ns_pick rfl rfl rfl ?_
    refine ns_done ?_
    refine WP_false rfl ?_ -- if5
    refine WP_skip ?_
    -- R14
    refine WP_seqr [⟨0, 0, []⟩, ⟨1, 0, []⟩] (by kernel_rfl) ?_
    refine ns_add rfl rfl rfl rfl (by omega) (by omega) ?_
    refine ns_move rfl rfl ?_
    refine ns_done ?_
    exact ⟨ks.length - (i + 1), by omega, i + 1, rfl, by omega, rfl, rfl, rfl, rfl, rfl, hs.out⟩
    
  rintro σ w ⟨g1, g5, hs⟩
  obtain ⟨σ, rfl⟩ := rebase g1
  obtain ⟨σ, rfl⟩ := rebase (σ := σ) g5
  clear g1 g5
  obtain ⟨a6, c6, rfl, hc6⟩ := id hi0.form
  obtain ⟨_, _, _, e, _, hrdl⟩ := id hi0
  cases e
  refine WP_seq_cut (fun σ w => St w0 (R * (R2 * F)) w) ?_ ?_ -- S7
  · refine WP_seq ?_
    -- R15
    refine WP_seqr [⟨0, 0, []⟩, ⟨1, 0, []⟩, ⟨2, 0, []⟩, ⟨3, 1, []⟩, ⟨4, 0, []⟩, ⟨5, 0, []⟩] (by kernel_rfl) ?_
    refine ns_move rfl rfl ?_
    refine ns_idx 0 sl_28 rfl rfl rfl rfl rfl (by first | decide | simp) ?_
    refine ns_fld fo_36_2 rfl rfl rfl ?_
    refine ns_ld pl_34 rfl rfl rfl ((hc0 _ _ _ (hs.foc R2)).at 2 rfl) ?_
    refine ns_len sl_34 rfl rfl rfl ?_
    refine ns_move rfl rfl ?_
    refine ns_done ?_
    refine WP_block ?_
    refine WP_loop (fun m σ w => ∃ i : Nat, m = l.length - i ∧ i ≤ l.length ∧ σ 1 = .slice a1 ks.length c1 ∧ σ 71 = .slice a6 l.length c6 ∧ σ 72 = .int .i64 (l.length : Int) ∧ σ 73 = .int .i64 (i : Int) ∧ St w0 (R * (R2 * F)) w) l.length ?_ ?_ -- L2
    · exact ⟨0, rfl, Nat.zero_le _, rfl, rfl, rfl, rfl, hs⟩
    rintro m σ w ⟨i, rfl, hi, g1, g71, g72, g73, hs⟩
    obtain ⟨σ, rfl⟩ := rebase g1
    obtain ⟨σ, rfl⟩ := rebase (σ := σ) g71
    obtain ⟨σ, rfl⟩ := rebase (σ := σ) g72
    obtain ⟨σ, rfl⟩ := rebase (σ := σ) g73
    clear g1 g71 g72 g73
    refine WP_seq ?_
    -- R16
    refine WP_seqr [⟨0, 0, []⟩] (by kernel_rfl) ?_
    refine ns_cmp _ rfl rfl rfl rfl rfl ?_
    refine ns_done ?_
    refine WP_seq ?_ -- S8
    refine WP_if' rfl (fun hif6 => ?_) (fun hif6 => ?_)
    · refine WP_exit ?_
      exact hs
    refine WP_skip ?_
    have hi2 : i < l.length := by have := of_decide_eq_true hif6; omega
    obtain ⟨x, hxi⟩ : ∃ x, l[i]? = some x := ⟨l[i]'hi2, List.getElem?_eq_getElem hi2⟩
    obtain ⟨g, o, rfl, hat⟩ := hrdl (by omega)
    obtain ⟨j, hj, hxv, hxk⟩ := hpi.1 x (List.mem_of_getElem? hxi)
    obtain ⟨gk, ok, rfl, hatk⟩ := hrd (by omega)
    refine WP_seq ?_ -- S9
    refine WP_block ?_
    refine WP_seq ?_
    -- R17
    refine WP_seqr [⟨0, 0, []⟩, ⟨1, 1, []⟩, ⟨2, 2, []⟩, ⟨3, 2, []⟩] (by kernel_rfl) ?_
    refine ns_idx i sl_34 rfl rfl rfl rfl rfl hi2 ?_
    refine ns_ldA [.int .i64 x.key, .int .i64 x.val] ag_45 rfl rfl rfl rfl (by decide) (item_cells hat (hs.foc R2) hxi) ?_
    refine ns_alloc zc_45 hs rfl rfl ?_
    intro b12 w hs
    refine ns_stA (#[.int .i64 x.key, .int .i64 x.val]) ag_45 rfl (by decide) hs rfl rfl rfl rfl (by intro u hu; simp at hu; rcases hu with rfl | rfl <;> rfl) (by simp) ?_
    refine fun w hs => ⟨trivial, ?_⟩
    refine ns_done ?_
    have hs : St w0 (pts b12 (.cells #[.int .i64 x.key, .int .i64 x.val] 45 (0, 0)) * _) w := hs
    refine WP_seq ?_
    -- R18
    refine WP_net hs mix [0, 1, 3, 7, 15, 31, 15, 79, 255, 511, 1023, 2047, 2047, 6143, 16383, 32767, 2047, 67583, 262143, 524287] [⟨0, 0, []⟩, ⟨1, 1, []⟩, ⟨2, 0, []⟩, ⟨3, 0, []⟩, ⟨4, 0, []⟩, ⟨5, 1, []⟩, ⟨6, 0, []⟩, ⟨7, 0, []⟩, ⟨8, 0, []⟩, ⟨9, 0, []⟩, ⟨10, 0, []⟩, ⟨11, 0, []⟩, ⟨12, 0, []⟩, ⟨13, 1, []⟩, ⟨14, 0, []⟩, ⟨15, 1, []⟩, ⟨16, 0, []⟩, ⟨17, 1, []⟩, ⟨18, 0, []⟩, ⟨19, 0, []⟩] (by kernel_rfl) ?_
    intro w hs
    refine ns_fld fo_45_1 rfl rfl rfl ?_
    refine ns_ldB pl_2 hs rfl rfl rfl (by rfl) ?_
    refine ns_cmp false rfl rfl rfl rfl (congrArg some (decide_eq_false (by omega))) ?_
    refine ns_move rfl rfl ?_
    refine ns_fld fo_45_1 rfl rfl rfl ?_
    refine ns_ldB pl_2 hs rfl rfl rfl (by rfl) ?_
    refine ns_move rfl rfl ?_
    refine ns_len sl_22 rfl rfl rfl ?_
    refine ns_cmp false rfl rfl rfl rfl (congrArg some (decide_eq_false (by show ¬ x.val ≥ (ks.length : Int); omega))) ?_
    refine ns_pick rfl rfl rfl ?_
    refine ns_move rfl rfl ?_
    refine ns_move rfl rfl ?_
    refine ns_fld fo_45_1 rfl rfl rfl ?_
    refine ns_ldB pl_2 hs rfl rfl rfl (by rfl) ?_
    refine ns_idx j sl_22 rfl rfl rfl rfl hxv hj ?_
    refine ns_ld pl_2 rfl rfl rfl (key_cell hatk (hs.foc R) hxk) ?_
    refine ns_fld fo_45_0 rfl rfl rfl ?_
    refine ns_ldB pl_2 hs rfl rfl rfl (by rfl) ?_
    refine ns_cmp false rfl rfl rfl rfl (by simp [cmpI]) ?_
    refine ns_pick rfl rfl rfl ?_
    refine ns_done ?_
    refine WP_false rfl ?_ -- if7
    refine WP_skip ?_
    -- R20
    refine WP_seqr [⟨0, 0, []⟩, ⟨1, 0, []⟩] (by kernel_rfl) ?_
    refine ns_add rfl rfl rfl rfl (by omega) (by omega) ?_
    refine ns_move rfl rfl ?_
    refine ns_done ?_
    exact ⟨l.length - (i + 1), by omega, i + 1, rfl, by omega, rfl, rfl, rfl, rfl, hs.out⟩
    
  intro σ w hs
  refine WP_seq ?_
  -- R21
  refine WP_seqr [⟨0, 0, []⟩] (by kernel_rfl) ?_
  refine ns_asg rfl rfl ?_
  refine ns_done ?_
  refine WP_ret ?_
  exact ⟨_, res1 _, St.mk_pu rfl hs.out⟩
end Go.Proofs.Ytnnembkganlbpaa
/- The walks of a script without values, and of the law that the order of putting in is forgotten: FnAnyOrder. -/
namespace Go.Proofs.Ytnnembkganlbpaa
open Go Go.Sl Go.Net Go.Wk Go.Bt Go.RowKit

theorem natTmod (a b : Nat) : ((a : Nat) : Int).tmod ((b : Nat) : Int) = ((a % b : Nat) : Int) := rfl
def bare1 (o : Sop) : Sop := if o.kind = 0 then { o with val := 0 } else o
def bareL (l : List Sop) : List Sop := l.map bare1
/-- n steps that put keys in, without values -/
def putsF (f : Nat → Int) (n : Nat) : List Sop := (List.range n).map fun j => kkL 0 (f j) 0
theorem putsF_len (f : Nat → Int) (n : Nat) : (putsF f n).length = n := by simp [putsF]
theorem putsF_snoc (f : Nat → Int) (n : Nat) : putsF f (n + 1) = putsF f n ++ [kkL 0 (f n) 0] := by
  unfold putsF
  rw [List.range_succ, List.map_append, List.map_cons, List.map_nil]
theorem putsF_onT (f : Nat → Int) (n : Nat) : onT (putsF f n) = putsF f n := by
  unfold onT
  rw [List.filter_eq_self.2 (fun o ho => by
    simp only [putsF, List.mem_map] at ho
    obtain ⟨i, _, rfl⟩ := ho
    rfl)]
  refine (List.map_congr_left fun o ho => ?_).trans (List.map_id _)
  simp only [putsF, List.mem_map] at ho
  obtain ⟨i, _, rfl⟩ := ho
  rfl
theorem bare_puts (ks : List Int) (n : Nat) : bareL (putsN ks n) = putsF (fun j => ks.getD j 0) n := by
  unfold bareL putsN putsF
  rw [List.map_map]
  exact List.map_congr_left fun j _ => rfl
theorem putsF_mem (f : Nat → Int) : ∀ n x, x ∈ afterL [] (putsF f n) ↔ x.val = 0 ∧ ∃ j, j < n ∧ x.key = f j := by
  intro n
  induction n with
  | zero => exact fun x => ⟨(fun h => by cases h), fun ⟨_, j, hj, _⟩ => by omega⟩
  | succ n ih =>
    intro x
    have hS : Srt (afterL [] (putsF f n)) := held_srt _
    rw [putsF_snoc, after_append]
    show x ∈ (stepL (afterL [] (putsF f n)) (kkL 0 (f n) 0)).1 ↔ _
    rw [st_put, mem_put hS, ih]
    constructor
    · rintro (rfl | ⟨⟨h1, j, hj, h2⟩, _⟩)
      · exact ⟨rfl, n, by omega, rfl⟩
      · exact ⟨h1, j, by omega, h2⟩
    · rintro ⟨h1, j, hj, h2⟩
      by_cases e : x.key = f n
      · left
        cases x
        simp only at h1 e
        subst h1; subst e; rfl
      · refine .inr ⟨⟨h1, j, ?_, h2⟩, e⟩
        rcases Nat.lt_succ_iff_lt_or_eq.1 hj with h | rfl
        · exact h
        · exact absurd h2 e
theorem srt_ext {a b : List It} (ha : Srt a) (hb : Srt b) (h : ∀ x, x ∈ a ↔ x ∈ b) : a = b := by
  induction a generalizing b with
  | nil =>
    cases b with
    | nil => rfl
    | cons y b => exact absurd ((h y).2 List.mem_cons_self) (by simp)
  | cons x a ih =>
    cases b with
    | nil => exact absurd ((h x).1 List.mem_cons_self) (by simp)
    | cons y b =>
      have hxy : x = y := by
        rcases List.mem_cons.1 ((h x).1 List.mem_cons_self) with e | e
        · exact e
        · rcases List.mem_cons.1 ((h y).2 List.mem_cons_self) with e2 | e2
          · exact e2.symm
          · have h1 := hb.head x e
            have h2 := ha.head y e2
            omega
      subst hxy
      refine congrArg _ (ih ha.tail hb.tail fun z => ?_)
      constructor
      · intro hz
        rcases List.mem_cons.1 ((h z).1 (List.mem_cons_of_mem _ hz)) with e | e
        · subst e
          exact absurd (ha.head z hz) (by omega)
        · exact e
      · intro hz
        rcases List.mem_cons.1 ((h z).2 (List.mem_cons_of_mem _ hz)) with e | e
        · subst e
          exact absurd (hb.head z hz) (by omega)
        · exact e
theorem putsF_eq {f g : Nat → Int} {n : Nat} (h1 : ∀ j, j < n → ∃ i, i < n ∧ f j = g i) (h2 : ∀ j, j < n → ∃ i, i < n ∧ g j = f i) : afterL [] (putsF f n) = afterL [] (putsF g n) := by
  refine srt_ext (held_srt _) (held_srt _) fun x => ?_
  rw [putsF_mem, putsF_mem]
  constructor
  · rintro ⟨h, j, hj, e⟩
    obtain ⟨i, hi, e2⟩ := h1 j hj
    exact ⟨h, i, hi, e.trans e2⟩
  · rintro ⟨h, j, hj, e⟩
    obtain ⟨i, hi, e2⟩ := h2 j hj
    exact ⟨h, i, hi, e.trans e2⟩
theorem turned_eq (ks : List Int) (c n : Nat) (hc : c < n) : afterL [] (putsF (fun j => ks.getD ((j + c) % n) 0) n) = afterL [] (putsF (fun j => ks.getD j 0) n) := by
  refine putsF_eq (fun j hj => ⟨(j + c) % n, Nat.mod_lt _ (by omega), rfl⟩) (fun j hj => ?_)
  refine ⟨(j + n - c) % n, Nat.mod_lt _ (by omega), ?_⟩
  show ks.getD j 0 = ks.getD (((j + n - c) % n + c) % n) 0
  rw [Nat.mod_add_mod, show j + n - c + c = j + n from by omega, Nat.add_mod_right, Nat.mod_eq_of_lt hj]
theorem back_eq (ks : List Int) (n : Nat) : afterL [] (putsF (fun j => ks.getD (n - 1 - j) 0) n) = afterL [] (putsF (fun j => ks.getD j 0) n) := by
  refine putsF_eq (fun j hj => ⟨n - 1 - j, by omega, rfl⟩) (fun j hj => ⟨n - 1 - j, by omega, ?_⟩)
  show ks.getD j 0 = ks.getD (n - 1 - (n - 1 - j)) 0
  rw [show n - 1 - (n - 1 - j) = j from by omega]
theorem putsF_pos (f : Nat → Int) (n : Nat) : 0 < (afterL [] (putsF f n)).length ↔ 0 < n := by
  constructor
  · intro h
    have := held_len (putsF f n)
    rw [putsF_len] at this; omega
  · intro h
    have : (⟨f 0, 0⟩ : It) ∈ afterL [] (putsF f n) := (putsF_mem f n _).2 ⟨rfl, 0, h, rfl⟩
    exact List.length_pos_of_mem this
theorem putsF_ok (f : Nat → Int) (n : Nat) : ∀ o ∈ putsF f n, o.tree = 0 ∧ o.kind ≠ 17 := by
  intro o ho
  simp only [putsF, List.mem_map] at ho
  obtain ⟨j, _, rfl⟩ := ho
  simp [kkL]
set_option maxHeartbeats 1600000 in
theorem f23_ok (R : HProp) (v : Value) (os : List Sop) (hR : RdO R v os) (hll : os.length < 90000) : Tri Try.prog 23 #[v] R fun r => R * OArr r (bareL os) := by
  obtain ⟨hxl, a1, c1, rfl, hc1, hrd⟩ := hR
  intro w0 F w hs
  refine calls_WP 23 #[.tmp 2] Try.func23 rfl Try.ntmps23 rfl (Nat.le_of_ble_eq_true rfl) ?_
  refine WP_seq ?_
  -- R0
  refine WP_seqr [⟨0, 0, []⟩] (by kernel_rfl) ?_
  refine ns_asg rfl rfl ?_
  refine ns_done ?_
  refine WP_seq ?_
  -- R1
  refine WP_seqr [⟨0, 2, []⟩, ⟨1, 0, []⟩] (by kernel_rfl) ?_
  refine ns_lit0 sl_24 hs rfl rfl ?_
  refine fun b6 w hs hx => ⟨trivial, ?_⟩
  refine ns_asg rfl rfl ?_
  refine ns_done ?_
  refine WP_seq_cut (fun σ w => ∃ (out : Value), σ 3 = out ∧ St w0 (R * (OArr out (bareL os) * F)) w) ?_ ?_ -- S1
  · refine WP_seq ?_
    -- R2
    refine WP_seqr [⟨0, 0, []⟩, ⟨1, 0, []⟩, ⟨2, 0, []⟩] (by kernel_rfl) ?_
    refine ns_move rfl rfl ?_
    refine ns_len sl_24 rfl rfl rfl ?_
    refine ns_move rfl rfl ?_
    refine ns_done ?_
    refine WP_block ?_
    refine WP_loop (fun m σ w => ∃ (i : Nat) (out : Value), m = os.length - i ∧ i ≤ os.length ∧ σ 3 = out ∧ σ 7 = .slice a1 os.length c1 ∧ σ 8 = .int .i64 (os.length : Int) ∧ σ 9 = .int .i64 (i : Int) ∧ St w0 (R * (OArr out (bareL (os.take i)) * F)) w) os.length ?_ ?_ -- L1
    · refine ⟨0, .slice (some ⟨b6, 0, none⟩) 0 0, rfl, Nat.zero_le _, rfl, rfl, rfl, rfl, ?_⟩
      show St w0 (R * (Arr 26 6 _ 0 [] * F)) w
      exact hs.out
    rintro m σ w ⟨i, out, rfl, hi, g3, g7, g8, g9, hs⟩
    obtain ⟨σ, rfl⟩ := rebase g3
    obtain ⟨σ, rfl⟩ := rebase (σ := σ) g7
    obtain ⟨σ, rfl⟩ := rebase (σ := σ) g8
    obtain ⟨σ, rfl⟩ := rebase (σ := σ) g9
    clear g3 g7 g8 g9
    refine WP_seq ?_
    -- R3
    refine WP_seqr [⟨0, 0, []⟩] (by kernel_rfl) ?_
    refine ns_cmp _ rfl rfl rfl rfl rfl ?_
    refine ns_done ?_
    refine WP_seq ?_ -- S2
    refine WP_if' rfl (fun hif1 => ?_) (fun hif1 => ?_)
    · refine WP_exit ?_
      have hi2 : i = os.length := by have := of_decide_eq_false hif1; omega
      subst hi2
      refine ⟨out, rfl, ?_⟩
      rw [List.take_length] at hs
      exact hs
    refine WP_skip ?_
    have hi2 : i < os.length := by have := of_decide_eq_true hif1; omega
    obtain ⟨x, hxi⟩ : ∃ x, os[i]? = some x := ⟨os[i]'hi2, List.getElem?_eq_getElem hi2⟩
    obtain ⟨g, o, rfl, hat⟩ := hrd (by omega)
    have hal : (bareL (os.take i)).length ≤ i := by unfold bareL; rw [List.length_map, List.length_take]; omega
    have e2 : bareL (os.take (i + 1)) = bareL (os.take i) ++ [bare1 x] := by rw [take_snoc hxi]; simp [bareL]
    refine WP_seq ?_ -- S3
    refine WP_block ?_
    refine WP_seq ?_
    -- R4
    refine WP_seqr [⟨0, 0, []⟩, ⟨1, 1, []⟩, ⟨2, 2, []⟩, ⟨3, 2, []⟩] (by kernel_rfl) ?_
    refine ns_idx i sl_24 rfl rfl rfl rfl rfl hi2 ?_
    refine ns_ldA (opC x).toList ag_26 rfl rfl rfl rfl (by decide) (op_cells hat (hs.foc R) hxi) ?_
    refine ns_alloc zc_26 hs rfl rfl ?_
    intro b5 w hs
    refine ns_stA (opC x) ag_26 rfl (by decide) hs rfl rfl rfl rfl (opC_one x) (by simp) ?_
    refine fun w hs => ⟨trivial, ?_⟩
    refine ns_done ?_
    have hs : St w0 (pts b5 (.cells (opC x) 26 (0, 0)) * _) w := hs
    refine WP_seq_cut (fun σ w => σ 3 = out ∧ σ 5 = .pointer (some ⟨b5, 0, none⟩) ∧ σ 7 = .slice (some ⟨g, o, none⟩) os.length c1 ∧ σ 8 = .int .i64 (os.length : Int) ∧ σ 9 = .int .i64 (i : Int) ∧ St w0 (pts b5 (.cells (opC (bare1 x)) 26 (0, 0)) * (R * (OArr out (bareL (os.take i)) * F))) w) ?_ ?_ -- S4
    · refine WP_seq ?_
      have hs : St w0 (pts b5 (.cells #[.int .i64 x.kind, .int .i64 x.tree, .int .i64 x.key, .int .i64 x.to, .int .i64 x.val, .int .i64 x.cnt] 26 (0, 0)) * _) w := hs
      -- R5
      refine WP_seqr [⟨0, 0, []⟩, ⟨1, 1, []⟩, ⟨2, 0, []⟩] (by kernel_rfl) ?_
      refine ns_fld fo_26_0 rfl rfl rfl ?_
      refine ns_ldB pl_2 hs rfl rfl rfl (by rfl) ?_
      refine ns_cmp _ rfl rfl rfl rfl rfl ?_
      refine ns_done ?_
      refine WP_if rfl (fun hif2 => ?_) (fun hif2 => ?_)
      · -- R6
        refine WP_seqr [⟨0, 0, []⟩, ⟨1, 2, []⟩] (by kernel_rfl) ?_
        refine ns_fld fo_26_4 rfl rfl rfl ?_
        refine ns_st (.int .i64 0) pl_2 hs rfl rfl rfl rfl rfl (by simp) ?_
        refine fun w hs => ⟨trivial, ?_⟩
        try simp only [Nat.zero_add] at hs
        try simp only [List.setIfInBounds_toArray] at hs
        try simp only [List.set_cons_succ] at hs
        try simp only [List.set_cons_zero] at hs
        refine ns_done ?_
        have hk : x.kind = 0 := by have : (x.kind == 0) = true := hif2; simpa using this
        have e5 : bare1 x = { x with val := 0 } := by unfold bare1; rw [if_pos hk]
        rw [e5]
        exact ⟨rfl, rfl, rfl, rfl, rfl, hs⟩
      refine WP_skip ?_
      have hk : x.kind ≠ 0 := by have : (x.kind == 0) = false := hif2; simpa using this
      have e5 : bare1 x = x := by unfold bare1; rw [if_neg hk]
      rw [e5]
      exact ⟨rfl, rfl, rfl, rfl, rfl, hs⟩
    rintro σ w ⟨g3, g5, g7, g8, g9, hs⟩
    obtain ⟨σ, rfl⟩ := rebase g3
    obtain ⟨σ, rfl⟩ := rebase (σ := σ) g5
    obtain ⟨σ, rfl⟩ := rebase (σ := σ) g7
    obtain ⟨σ, rfl⟩ := rebase (σ := σ) g8
    obtain ⟨σ, rfl⟩ := rebase (σ := σ) g9
    clear g3 g5 g7 g8 g9
    -- R7
    refine WP_seqr [⟨0, 0, []⟩, ⟨1, 1, []⟩, ⟨2, 2, []⟩, ⟨3, 2, []⟩, ⟨4, 0, []⟩] (by kernel_rfl) ?_
    refine ns_move rfl rfl ?_
    refine ns_ldAB (opC (bare1 x)).toList ag_26 hs rfl rfl rfl (by rfl) (by rfl) (by decide) ?_
    refine ns_lit [opV (bare1 x)] (opC (bare1 x)).toList sl_24 zr_26 (by decide) (by decide) hs rfl rfl rfl rfl (by simp [Value.cells, opV, opC]) (by simp [opV, Value.cells]) ?_
    refine fun b19 w hs hx => ⟨trivial, ?_⟩
    refine ns_app (opC (bare1 x)).toList sl_24 zr_26 by_26 rfl (by decide) (hs.foc (OArr out (bareL (os.take i)))) rfl rfl rfl rfl rfl (St.cells (n := 6) hs (by rfl)) (opC_one _) (by simp only [maxLen]; omega) (by omega) ?_
    refine fun v20 w hs hv => ⟨trivial, ?_⟩
    have hs := hs.up (Ent.of_eq (onm (l := bareL (os.take i)) rfl rfl))
    rw [← e2] at hs
    refine ns_asg rfl rfl ?_
    refine ns_done ?_
    -- R8
    refine WP_seqr [⟨0, 0, []⟩, ⟨1, 0, []⟩] (by kernel_rfl) ?_
    refine ns_add rfl rfl rfl rfl (by omega) (by omega) ?_
    refine ns_move rfl rfl ?_
    refine ns_done ?_
    exact ⟨os.length - (i + 1), by omega, i + 1, v20, rfl, by omega, rfl, rfl, rfl, rfl, hs.out⟩
    
  rintro σ w ⟨out, g3, hs⟩
  obtain ⟨σ, rfl⟩ := rebase g3
  refine WP_seq ?_
  -- R9
  refine WP_seqr [⟨0, 0, []⟩, ⟨1, 0, []⟩] (by kernel_rfl) ?_
  refine ns_move rfl rfl ?_
  refine ns_asg rfl rfl ?_
  refine ns_done ?_
  refine WP_ret ?_
  refine ⟨_, res1 _, ?_⟩
  show St w0 ((R * OArr out (bareL os)) * F) w
  exact hs.out
set_option maxHeartbeats 6400000 in
theorem f3_ok (R : HProp) (v : Value) (ks : List Int) (d fr : Int) (hR : RdK R v ks) (hfr : fr ≤ 9223372036854775807) : Tri Try.prog 3 #[.int .i64 d, v, .int .i64 fr] R fun r => pu (r = .bool true) * R := by
  obtain ⟨_, a1, c1, rfl, hc1, hrd⟩ := id hR
  intro w0 F w hs
  refine calls_WP 121 #[.tmp 6] Try.func3 rfl Try.ntmps3 rfl (Nat.le_of_ble_eq_true rfl) ?_
  refine WP_seq ?_
  -- R0
  refine WP_seqr [⟨0, 0, []⟩] (by kernel_rfl) ?_
  refine ns_asg rfl rfl ?_
  refine ns_done ?_
  refine WP_seq ?_ -- S1
  refine WP_seq ?_
  -- R1
  refine WP_seqr [⟨0, 0, []⟩, ⟨1, 0, []⟩, ⟨2, 0, []⟩] (by kernel_rfl) ?_
  refine ns_move rfl rfl ?_
  refine ns_len sl_22 rfl rfl rfl ?_
  refine ns_cmp _ rfl rfl rfl rfl rfl ?_
  refine ns_done ?_
  refine WP_if rfl (fun hif1 => ?_) (fun hif1 => ?_)
  · refine WP_seq ?_
    -- R2
    refine WP_seqr [⟨0, 0, []⟩] (by kernel_rfl) ?_
    refine ns_asg rfl rfl ?_
    refine ns_done ?_
    refine WP_ret ?_
    exact ⟨_, res1 _, St.mk_pu rfl hs.out⟩
  refine WP_skip ?_
  refine WP_seq ?_ -- S2
  refine WP_seq_cut (fun σ w => σ 0 = .int .i64 d ∧ σ 1 = .slice a1 ks.length c1 ∧ σ 2 = .int .i64 fr ∧ σ 27 = .bool (!decide (2 ≤ d ∧ d ≤ 1000 ∧ ks.length ≤ 2000)) ∧ St w0 (R * F) w) ?_ ?_ -- R3.cut
  · by_cases hf : 2 ≤ d ∧ d ≤ 1000
    · -- R3
      refine WP_seqr [⟨0, 0, []⟩, ⟨1, 2, []⟩, ⟨2, 0, []⟩, ⟨3, 0, []⟩, ⟨4, 0, []⟩, ⟨5, 0, []⟩, ⟨6, 0, []⟩, ⟨7, 0, []⟩] (by kernel_rfl) ?_
      refine ns_move rfl rfl ?_
      refine ns_call (f20_ok d none 0 0) ck_20 (hs.foc 1) rfl rfl rfl rfl ?_
      intro v21 w hs
      replace hs := hs.pure
      obtain ⟨hv21, hs⟩ := hs
      rw [show decide (2 ≤ d ∧ d ≤ 1000 ∧ 0 ≤ 2000) = true from decide_eq_true ⟨hf.1, hf.2, by omega⟩] at hv21
      subst hv21
      refine ns_not rfl rfl rfl ?_
      refine ns_move rfl rfl ?_
      refine ns_move rfl rfl ?_
      refine ns_len sl_22 rfl rfl rfl ?_
      refine ns_cmp _ rfl rfl rfl rfl rfl ?_
      refine ns_pick rfl rfl rfl ?_
      refine ns_done ?_
      refine ⟨rfl, rfl, rfl, congrArg Value.bool ?_, hs⟩
      by_cases hn : ks.length ≤ 2000
      · rw [show decide (2 ≤ d ∧ d ≤ 1000 ∧ ks.length ≤ 2000) = true from decide_eq_true ⟨hf.1, hf.2, hn⟩]
        exact decide_eq_false (by omega)
      · rw [show decide (2 ≤ d ∧ d ≤ 1000 ∧ ks.length ≤ 2000) = false from decide_eq_false fun h => hn h.2.2]
        exact decide_eq_true (by omega)
    · -- R3
      refine WP_seqr [⟨0, 0, []⟩, ⟨1, 2, []⟩, ⟨2, 0, []⟩, ⟨3, 0, []⟩, ⟨4, 0, []⟩, ⟨5, 0, []⟩, ⟨6, 0, []⟩, ⟨7, 0, []⟩] (by kernel_rfl) ?_
      refine ns_move rfl rfl ?_
      refine ns_call (f20_ok d none 0 0) ck_20 (hs.foc 1) rfl rfl rfl rfl ?_
      intro v21 w hs
      replace hs := hs.pure
      obtain ⟨hv21, hs⟩ := hs
      rw [show decide (2 ≤ d ∧ d ≤ 1000 ∧ 0 ≤ 2000) = false from decide_eq_false fun h => hf ⟨h.1, h.2.1⟩] at hv21
      subst hv21
      refine ns_not rfl rfl rfl ?_
      refine ns_move rfl rfl ?_
      refine ns_no rfl rfl ?_
      refine ns_no rfl rfl ?_
      refine ns_no rfl rfl ?_
      refine ns_pick rfl rfl rfl ?_
      refine ns_done ?_
      refine ⟨rfl, rfl, rfl, congrArg Value.bool ?_, hs⟩
      rw [show decide (2 ≤ d ∧ d ≤ 1000 ∧ ks.length ≤ 2000) = false from decide_eq_false fun h => hf ⟨h.1, h.2.1⟩]
      rfl
  rintro σ w ⟨g0, g1, g2, g27, hs⟩
  obtain ⟨σ, rfl⟩ := rebase g0
  obtain ⟨σ, rfl⟩ := rebase (σ := σ) g1
  obtain ⟨σ, rfl⟩ := rebase (σ := σ) g2
  obtain ⟨σ, rfl⟩ := rebase (σ := σ) g27
  clear g0 g1 g2 g27
  refine WP_if rfl (fun hif2 => ?_) (fun hif2 => ?_)
  · refine WP_seq ?_
    -- R4
    refine WP_seqr [⟨0, 0, []⟩] (by kernel_rfl) ?_
    refine ns_asg rfl rfl ?_
    refine ns_done ?_
    refine WP_ret ?_
    exact ⟨_, res1 _, St.mk_pu rfl hs.out⟩
  refine WP_skip ?_
  have hfit : 2 ≤ d ∧ d ≤ 1000 ∧ ks.length ≤ 2000 := by
    have : (!decide (2 ≤ d ∧ d ≤ 1000 ∧ ks.length ≤ 2000)) = false := hif2
    simpa using this
  obtain ⟨hd, hd2, hn⟩ := hfit
  obtain ⟨D, rfl⟩ : ∃ D : Nat, d = D := ⟨d.toNat, by omega⟩
  obtain ⟨c, hc⟩ : ∃ c : Nat, c = (if (0 : Int) > fr then 0 else fr).toNat % ks.length := ⟨_, rfl⟩
  have hmx : 0 ≤ (if (0 : Int) > fr then 0 else fr) ∧ (if (0 : Int) > fr then 0 else fr) ≤ 9223372036854775807 := by split <;> omega
  have hcm : 0 < ks.length → (if (0 : Int) > fr then 0 else fr).tmod (ks.length : Int) = (c : Int) := fun hp => by
    obtain ⟨q, hq⟩ : ∃ q : Nat, (if (0 : Int) > fr then 0 else fr) = (q : Int) := ⟨_, (Int.toNat_of_nonneg hmx.1).symm⟩
    rw [hc, hq, Int.toNat_natCast, natTmod]
  refine WP_seq ?_
  -- R5
  refine WP_seqr [⟨0, 2, []⟩, ⟨1, 2, []⟩, ⟨2, 0, []⟩, ⟨3, 0, []⟩] (by kernel_rfl) ?_
  refine ns_lit0 sl_24 hs rfl rfl ?_
  refine fun b28 w hs hx => ⟨trivial, ?_⟩
  refine ns_lit0 sl_24 hs rfl rfl ?_
  refine fun b29 w hs hx => ⟨trivial, ?_⟩
  refine ns_asg rfl rfl ?_
  refine ns_asg rfl rfl ?_
  refine ns_done ?_
  refine WP_seq_cut (fun σ w => ∃ (tv bv : Value), σ 0 = .int .i64 D ∧ σ 1 = .slice a1 ks.length c1 ∧ σ 7 = tv ∧ σ 8 = bv ∧ St w0 (R * (OArr tv (putsF (fun j => ks.getD ((j + c) % ks.length) 0) ks.length) * (OArr bv (putsF (fun j => ks.getD (ks.length - 1 - j) 0) ks.length) * F))) w) ?_ ?_ -- S3
  · refine WP_seq ?_
    -- R6
    refine WP_seqr [⟨0, 0, []⟩, ⟨1, 0, []⟩, ⟨2, 0, []⟩] (by kernel_rfl) ?_
    refine ns_move rfl rfl ?_
    refine ns_len sl_22 rfl rfl rfl ?_
    refine ns_move rfl rfl ?_
    refine ns_done ?_
    refine WP_block ?_
    refine WP_loop (fun m σ w => ∃ (i : Nat) (tv bv : Value), m = ks.length - i ∧ i ≤ ks.length ∧ σ 0 = .int .i64 D ∧ σ 1 = .slice a1 ks.length c1 ∧ σ 2 = .int .i64 fr ∧ σ 7 = tv ∧ σ 8 = bv ∧ σ 31 = .int .i64 (ks.length : Int) ∧ σ 32 = .int .i64 (i : Int) ∧ St w0 (R * (OArr tv (putsF (fun j => ks.getD ((j + c) % ks.length) 0) i) * (OArr bv (putsF (fun j => ks.getD (ks.length - 1 - j) 0) i) * F))) w) ks.length ?_ ?_ -- L1
    · refine ⟨0, .slice (some ⟨b28, 0, none⟩) 0 0, .slice (some ⟨b29, 0, none⟩) 0 0, rfl, Nat.zero_le _, rfl, rfl, rfl, rfl, rfl, rfl, rfl, ?_⟩
      show St w0 (R * (Arr 26 6 _ 0 [] * (Arr 26 6 _ 0 [] * F))) w
      exact hs.out
    rintro m σ w ⟨i, tv, bv, rfl, hi, g0, g1, g2, g7, g8, g31, g32, hs⟩
    obtain ⟨σ, rfl⟩ := rebase g0
    obtain ⟨σ, rfl⟩ := rebase (σ := σ) g1
    obtain ⟨σ, rfl⟩ := rebase (σ := σ) g2
    obtain ⟨σ, rfl⟩ := rebase (σ := σ) g7
    obtain ⟨σ, rfl⟩ := rebase (σ := σ) g8
    obtain ⟨σ, rfl⟩ := rebase (σ := σ) g31
    obtain ⟨σ, rfl⟩ := rebase (σ := σ) g32
    clear g0 g1 g2 g7 g8 g31 g32
    refine WP_seq ?_
    -- R7
    refine WP_seqr [⟨0, 0, []⟩] (by kernel_rfl) ?_
    refine ns_cmp _ rfl rfl rfl rfl rfl ?_
    refine ns_done ?_
    refine WP_seq ?_ -- S4
    refine WP_if' rfl (fun hif3 => ?_) (fun hif3 => ?_)
    · refine WP_exit ?_
      have hi2 : i = ks.length := by have := of_decide_eq_false hif3; omega
      subst hi2
      exact ⟨tv, bv, rfl, rfl, rfl, rfl, hs⟩
    refine WP_skip ?_
    have hi2 : i < ks.length := by have := of_decide_eq_true hif3; omega
    have hcl : c < ks.length := by rw [hc]; exact Nat.mod_lt _ (by omega)
    have hcm := hcm (by omega)
    obtain ⟨g, o, rfl, hat⟩ := hrd (by omega)
    have hj1 : (i + c) % ks.length < ks.length := Nat.mod_lt _ (by omega)
    have hx1 : ks[(i + c) % ks.length]? = some (ks.getD ((i + c) % ks.length) 0) := by rw [List.getD, List.getElem?_eq_getElem hj1]; rfl
    have hx2 : ks[ks.length - 1 - i]? = some (ks.getD (ks.length - 1 - i) 0) := by rw [List.getD, List.getElem?_eq_getElem (by omega)]; rfl
    have hp1 := putsF_len (fun j => ks.getD ((j + c) % ks.length) 0) i
    have hp2 := putsF_len (fun j => ks.getD (ks.length - 1 - j) 0) i
    refine WP_seq ?_ -- S5
    refine WP_block ?_
    refine WP_seq ?_
    -- R8
    refine WP_seqr [⟨0, 0, []⟩, ⟨1, 0, []⟩] (by kernel_rfl) ?_
    refine ns_move rfl rfl ?_
    refine ns_asg rfl rfl ?_
    refine ns_done ?_
    refine WP_seq ?_
    -- R9
    refine WP_seqr [⟨0, 0, []⟩, ⟨1, 0, []⟩, ⟨2, 0, []⟩, ⟨3, 0, []⟩, ⟨4, 0, []⟩, ⟨5, 0, []⟩, ⟨6, 0, []⟩, ⟨7, 0, []⟩, ⟨8, 0, []⟩, ⟨9, 0, []⟩, ⟨10, 0, []⟩, ⟨11, 0, []⟩, ⟨12, 0, []⟩, ⟨13, 1, []⟩, ⟨14, 0, []⟩, ⟨15, 2, []⟩, ⟨16, 2, []⟩, ⟨17, 0, []⟩] (by kernel_rfl) ?_
    refine ns_move rfl rfl ?_
    refine ns_move rfl rfl ?_
    refine ns_move rfl rfl ?_
    refine ns_move rfl rfl ?_
    refine ns_max rfl rfl rfl rfl ?_
    refine ns_move rfl rfl ?_
    refine ns_len sl_22 rfl rfl rfl ?_
    refine ns_rem rfl rfl rfl rfl (by omega) ?_
    refine ns_add rfl rfl rfl rfl (by rw [hcm]; omega) (by rw [hcm]; omega) ?_
    refine ns_move rfl rfl ?_
    refine ns_len sl_22 rfl rfl rfl ?_
    refine ns_rem rfl rfl rfl rfl (by omega) ?_
    refine ns_idx ((i + c) % ks.length) sl_22 rfl rfl rfl rfl (by rw [hcm, ← Int.natCast_add, natTmod]) hj1 ?_
    refine ns_ld pl_2 rfl rfl rfl (key_cell hat (hs.foc R) hx1) ?_
    refine ns_build [(0, .int .i64 0), (2, .int .i64 (ks.getD ((i + c) % ks.length) 0))] (opC (kkL 0 (ks.getD ((i + c) % ks.length) 0) 0)) pp_26 zc_26 rfl rfl rfl rfl ?_
    refine ns_lit [opV (kkL 0 (ks.getD ((i + c) % ks.length) 0) 0)] (opC (kkL 0 (ks.getD ((i + c) % ks.length) 0) 0)).toList sl_24 zr_26 (by decide) (by decide) hs rfl rfl rfl rfl (by simp [Value.cells, opV, opC]) rfl ?_
    refine fun b50 w hs hx => ⟨trivial, ?_⟩
    refine ns_app (opC (kkL 0 (ks.getD ((i + c) % ks.length) 0) 0)).toList sl_24 zr_26 by_26 rfl (by decide) (hs.foc (OArr tv (putsF (fun j => ks.getD ((j + c) % ks.length) 0) i))) rfl rfl rfl rfl rfl (St.cells (n := 6) hs (by rfl)) (opC_one _) (by simp only [maxLen]; omega) (by omega) ?_
    refine fun v51 w hs hv => ⟨trivial, ?_⟩
    have hs := hs.up (Ent.of_eq (onm (l := putsF (fun j => ks.getD ((j + c) % ks.length) 0) i) rfl rfl))
    rw [← putsF_snoc (fun j => ks.getD ((j + c) % ks.length) 0) i] at hs
    refine ns_asg rfl rfl ?_
    refine ns_done ?_
    -- R10
    refine WP_seqr [⟨0, 0, []⟩, ⟨1, 0, []⟩, ⟨2, 0, []⟩, ⟨3, 0, []⟩, ⟨4, 0, []⟩, ⟨5, 0, []⟩, ⟨6, 0, []⟩, ⟨7, 0, []⟩, ⟨8, 1, []⟩, ⟨9, 0, []⟩, ⟨10, 2, []⟩, ⟨11, 2, []⟩, ⟨12, 0, []⟩] (by kernel_rfl) ?_
    refine ns_move rfl rfl ?_
    refine ns_move rfl rfl ?_
    refine ns_move rfl rfl ?_
    refine ns_len sl_22 rfl rfl rfl ?_
    refine ns_sub rfl rfl rfl rfl (by omega) (by omega) ?_
    refine ns_move rfl rfl ?_
    refine ns_sub rfl rfl rfl rfl (by omega) (by omega) ?_
    refine ns_idx (ks.length - 1 - i) sl_22 rfl rfl rfl rfl (by omega) (by omega) ?_
    refine ns_ld pl_2 rfl rfl rfl (key_cell hat (hs.foc R) hx2) ?_
    refine ns_build [(0, .int .i64 0), (2, .int .i64 (ks.getD (ks.length - 1 - i) 0))] (opC (kkL 0 (ks.getD (ks.length - 1 - i) 0) 0)) pp_26 zc_26 rfl rfl rfl rfl ?_
    refine ns_lit [opV (kkL 0 (ks.getD (ks.length - 1 - i) 0) 0)] (opC (kkL 0 (ks.getD (ks.length - 1 - i) 0) 0)).toList sl_24 zr_26 (by decide) (by decide) hs rfl rfl rfl rfl (by simp [Value.cells, opV, opC]) rfl ?_
    refine fun b62 w hs hx => ⟨trivial, ?_⟩
    refine ns_app (opC (kkL 0 (ks.getD (ks.length - 1 - i) 0) 0)).toList sl_24 zr_26 by_26 rfl (by decide) (hs.foc (OArr bv (putsF (fun j => ks.getD (ks.length - 1 - j) 0) i))) rfl rfl rfl rfl rfl (St.cells (n := 6) hs (by rfl)) (opC_one _) (by simp only [maxLen]; omega) (by omega) ?_
    refine fun v63 w hs hv => ⟨trivial, ?_⟩
    have hs := hs.up (Ent.of_eq (onm (l := putsF (fun j => ks.getD (ks.length - 1 - j) 0) i) rfl rfl))
    rw [← putsF_snoc (fun j => ks.getD (ks.length - 1 - j) 0) i] at hs
    refine ns_asg rfl rfl ?_
    refine ns_done ?_
    -- R11
    refine WP_seqr [⟨0, 0, []⟩, ⟨1, 0, []⟩] (by kernel_rfl) ?_
    refine ns_add rfl rfl rfl rfl (by omega) (by omega) ?_
    refine ns_move rfl rfl ?_
    refine ns_done ?_
    exact ⟨ks.length - (i + 1), by omega, i + 1, v51, v63, rfl, by omega, rfl, rfl, rfl, rfl, rfl, rfl, rfl, hs.out⟩
    
  rintro σ w ⟨tv, bv, g0, g1, g7, g8, hs⟩
  obtain ⟨σ, rfl⟩ := rebase g0
  obtain ⟨σ, rfl⟩ := rebase (σ := σ) g1
  obtain ⟨σ, rfl⟩ := rebase (σ := σ) g7
  obtain ⟨σ, rfl⟩ := rebase (σ := σ) g8
  clear g0 g1 g7 g8
  refine WP_seq ?_
  -- R12
  refine WP_seqr [⟨0, 2, []⟩, ⟨1, 2, []⟩, ⟨2, 2, []⟩] (by kernel_rfl) ?_
  refine ns_call (f21_ok 9 0 0) ck_21 (hs.foc 1) rfl rfl rfl rfl ?_
  intro v65 w hs
  replace hs := hs.pure
  obtain ⟨rfl, hs⟩ := hs
  refine ns_alloc zc_26 hs rfl rfl ?_
  intro b10 w hs
  refine ns_stA (opC (allL 9 0 0)) ag_26 rfl (by decide) hs rfl rfl rfl rfl (opC_one _) (by simp) ?_
  refine fun w hs => ⟨trivial, ?_⟩
  refine ns_done ?_
  have hs : St w0 (pts b10 (.cells (opC (allL 9 0 0)) 26 (0, 0)) * _) w := hs
  refine WP_seq_cut (fun σ w => ∃ (s : Value) (R2 : HProp), RdA R2 s [⟨false, 0, afterL [] (putsF (fun j => ks.getD j 0) ks.length)⟩] ∧ σ 0 = .int .i64 D ∧ σ 1 = .slice a1 ks.length c1 ∧ σ 7 = tv ∧ σ 8 = bv ∧ σ 10 = .pointer (some ⟨b10, 0, none⟩) ∧ σ 11 = s ∧ σ 12 = .bool true ∧ St w0 (R2 * (R * (OArr tv (putsF (fun j => ks.getD ((j + c) % ks.length) 0) ks.length) * (OArr bv (putsF (fun j => ks.getD (ks.length - 1 - j) 0) ks.length) * (pts b10 (.cells (opC (allL 9 0 0)) 26 (0, 0)) * F))))) w) ?_ ?_ -- R13.cut
  · -- R13
    refine WP_tre hs mix [0, 0, 2, 6, 0, 16, 63, 127, 255, 255, 511, 2047] (.cons ⟨0, 0, []⟩ (.cons ⟨1, 0, []⟩ (.cons ⟨4, 1, []⟩ (.fork ⟨2, 2, [4]⟩ (.fork ⟨3, 2, [4]⟩ (.cons ⟨5, 2, []⟩ (.cons ⟨6, 2, []⟩ (.cons ⟨7, 0, []⟩ (.cons ⟨8, 0, []⟩ (.cons ⟨9, 0, []⟩ (.cons ⟨10, 0, []⟩ (.cons ⟨11, 0, []⟩ .nil))))))) ⟨5, 2, []⟩ (.cons ⟨3, 2, []⟩ (.cons ⟨6, 2, []⟩ (.cons ⟨7, 0, []⟩ (.cons ⟨8, 0, []⟩ (.cons ⟨9, 0, []⟩ (.cons ⟨10, 0, []⟩ (.cons ⟨11, 0, []⟩ .nil)))))))) ⟨5, 2, []⟩ (.cons ⟨2, 2, []⟩ (.cons ⟨3, 2, []⟩ (.cons ⟨6, 2, []⟩ (.cons ⟨7, 0, []⟩ (.cons ⟨8, 0, []⟩ (.cons ⟨9, 0, []⟩ (.cons ⟨10, 0, []⟩ (.cons ⟨11, 0, []⟩ .nil)))))))))))) (by kernel_rfl) ?_
    intro w hs
    refine ns_move rfl rfl ?_
    refine ns_move rfl rfl ?_
    refine ns_ldAB (opC (allL 9 0 0)).toList ag_26 hs rfl rfl rfl (by rfl) (by rfl) (by decide) ?_
    refine ns_fork ?_ ?_
    · refine ns_callK (f24_ok R (.slice a1 ks.length c1) ks hR (by omega)) ck_24 (hs.foc R) rfl rfl rfl rfl ?_
      refine fun v69 w hs => ?_
      simp only [mul_assoc'] at hs
      refine ⟨⟨St.cells (n := 6) (b := b10) (o := 0) hs (by rfl), trivial⟩, ?_⟩
      refine ns_fork ?_ ?_
      · have hr69 : RdO (OArr v69 (putsN ks ks.length)) v69 (putsN ks ks.length) := Arr.rd (hs.foc (OArr v69 (putsN ks ks.length)))
        refine ns_callK (f23_ok (OArr v69 (putsN ks ks.length)) v69 (putsN ks ks.length) hr69 (by rw [putsN_len]; omega)) ck_23 (hs.foc (OArr v69 (putsN ks ks.length))) rfl rfl rfl rfl ?_
        refine fun v70 w hs => ?_
        simp only [mul_assoc'] at hs
        rw [bare_puts] at hs
        refine ⟨⟨St.cells (n := 6) (b := b10) (o := 0) hs (by rfl), trivial⟩, ?_⟩
        refine ns_lit [opV (allL 9 0 0)] (encO [allL 9 0 0]) sl_24 zr_26 (by decide) (by decide) hs rfl rfl rfl rfl (by simp [Value.cells, opV, opC]) (by simp [opV, Value.cells, encO]) ?_
        refine fun b72 w hs hx => ⟨trivial, ?_⟩
        have hmore : RdO (OArr v70 (putsF (fun j => ks.getD j 0) ks.length) * pts b72 (.cells (encO [allL 9 0 0]).toArray 26 (0, 0))) (.slice (some ⟨b72, 0, none⟩) 1 1) [allL 9 0 0] := (lit_rdO b72 [allL 9 0 0] (0, 0)).up
        have hro : RdO (OArr v70 (putsF (fun j => ks.getD j 0) ks.length) * pts b72 (.cells (encO [allL 9 0 0]).toArray 26 (0, 0))) v70 (putsF (fun j => ks.getD j 0) ks.length) := RdO.up (Arr.rd (hs.foc (OArr v70 (putsF (fun j => ks.getD j 0) ks.length))))
        refine ns_call (f22_ok (OArr v70 (putsF (fun j => ks.getD j 0) ks.length) * pts b72 (.cells (encO [allL 9 0 0]).toArray 26 (0, 0))) v70 _ (putsF (fun j => ks.getD j 0) ks.length) [allL 9 0 0] D hro hmore (by simp) (by omega) (by omega) (by rw [putsF_len]; omega) (by simp) (by simp [allL])) ck_22 (hs.foc (OArr v70 (putsF (fun j => ks.getD j 0) ks.length) * pts b72 (.cells (encO [allL 9 0 0]).toArray 26 (0, 0)))) rfl rfl rfl rfl ?_
        intro v73 w hs
        replace hs := hs.ex
        obtain ⟨⟨sA, RA⟩, hs⟩ := hs
        replace hs := hs.pu
        obtain ⟨⟨rfl, hraA⟩, hs⟩ := hs
        simp only [mul_assoc'] at hs
        rw [putsF_onT, run_walk 0 0 _ (by have := held_len (putsF (fun j => ks.getD j 0) ks.length); rw [putsF_len] at this; omega) (by decide) (by decide), range_up, run_end] at hraA
        refine ns_move rfl rfl ?_
        refine ns_ext rfl rfl rfl rfl ?_
        refine ns_ext rfl rfl rfl rfl ?_
        refine ns_asg rfl rfl ?_
        refine ns_asg rfl rfl ?_
        refine ns_done ?_
        exact ⟨sA, RA, hraA, rfl, rfl, rfl, rfl, rfl, rfl, rfl, hs.out⟩
      · refine ns_lit [opV (allL 9 0 0)] (encO [allL 9 0 0]) sl_24 zr_26 (by decide) (by decide) hs rfl rfl rfl rfl (by simp [Value.cells, opV, opC]) (by simp [opV, Value.cells, encO]) ?_
        refine fun b72 w hs hx => ⟨trivial, ?_⟩
        have hr69 : RdO (OArr v69 (putsN ks ks.length)) v69 (putsN ks ks.length) := Arr.rd (hs.foc (OArr v69 (putsN ks ks.length)))
        refine ns_call (f23_ok (OArr v69 (putsN ks ks.length)) v69 (putsN ks ks.length) hr69 (by rw [putsN_len]; omega)) ck_23 (hs.foc (OArr v69 (putsN ks ks.length))) rfl rfl rfl rfl ?_
        intro v70 w hs
        simp only [mul_assoc'] at hs
        rw [bare_puts] at hs
        have hmore : RdO (OArr v70 (putsF (fun j => ks.getD j 0) ks.length) * pts b72 (.cells (encO [allL 9 0 0]).toArray 26 (0, 0))) (.slice (some ⟨b72, 0, none⟩) 1 1) [allL 9 0 0] := (lit_rdO b72 [allL 9 0 0] (0, 0)).up
        have hro : RdO (OArr v70 (putsF (fun j => ks.getD j 0) ks.length) * pts b72 (.cells (encO [allL 9 0 0]).toArray 26 (0, 0))) v70 (putsF (fun j => ks.getD j 0) ks.length) := RdO.up (Arr.rd (hs.foc (OArr v70 (putsF (fun j => ks.getD j 0) ks.length))))
        refine ns_call (f22_ok (OArr v70 (putsF (fun j => ks.getD j 0) ks.length) * pts b72 (.cells (encO [allL 9 0 0]).toArray 26 (0, 0))) v70 _ (putsF (fun j => ks.getD j 0) ks.length) [allL 9 0 0] D hro hmore (by simp) (by omega) (by omega) (by rw [putsF_len]; omega) (by simp) (by simp [allL])) ck_22 (hs.foc (OArr v70 (putsF (fun j => ks.getD j 0) ks.length) * pts b72 (.cells (encO [allL 9 0 0]).toArray 26 (0, 0)))) rfl rfl rfl rfl ?_
        intro v73 w hs
        replace hs := hs.ex
        obtain ⟨⟨sA, RA⟩, hs⟩ := hs
        replace hs := hs.pu
        obtain ⟨⟨rfl, hraA⟩, hs⟩ := hs
        simp only [mul_assoc'] at hs
        rw [putsF_onT, run_walk 0 0 _ (by have := held_len (putsF (fun j => ks.getD j 0) ks.length); rw [putsF_len] at this; omega) (by decide) (by decide), range_up, run_end] at hraA
        refine ns_move rfl rfl ?_
        refine ns_ext rfl rfl rfl rfl ?_
        refine ns_ext rfl rfl rfl rfl ?_
        refine ns_asg rfl rfl ?_
        refine ns_asg rfl rfl ?_
        refine ns_done ?_
        exact ⟨sA, RA, hraA, rfl, rfl, rfl, rfl, rfl, rfl, rfl, hs.out⟩
    · refine ns_lit [opV (allL 9 0 0)] (encO [allL 9 0 0]) sl_24 zr_26 (by decide) (by decide) hs rfl rfl rfl rfl (by simp [Value.cells, opV, opC]) (by simp [opV, Value.cells, encO]) ?_
      refine fun b72 w hs hx => ⟨trivial, ?_⟩
      refine ns_call (f24_ok R (.slice a1 ks.length c1) ks hR (by omega)) ck_24 (hs.foc R) rfl rfl rfl rfl ?_
      intro v69 w hs
      simp only [mul_assoc'] at hs
      have hr69 : RdO (OArr v69 (putsN ks ks.length)) v69 (putsN ks ks.length) := Arr.rd (hs.foc (OArr v69 (putsN ks ks.length)))
      refine ns_call (f23_ok (OArr v69 (putsN ks ks.length)) v69 (putsN ks ks.length) hr69 (by rw [putsN_len]; omega)) ck_23 (hs.foc (OArr v69 (putsN ks ks.length))) rfl rfl rfl rfl ?_
      intro v70 w hs
      simp only [mul_assoc'] at hs
      rw [bare_puts] at hs
      have hmore : RdO (OArr v70 (putsF (fun j => ks.getD j 0) ks.length) * pts b72 (.cells (encO [allL 9 0 0]).toArray 26 (0, 0))) (.slice (some ⟨b72, 0, none⟩) 1 1) [allL 9 0 0] := (lit_rdO b72 [allL 9 0 0] (0, 0)).up
      have hro : RdO (OArr v70 (putsF (fun j => ks.getD j 0) ks.length) * pts b72 (.cells (encO [allL 9 0 0]).toArray 26 (0, 0))) v70 (putsF (fun j => ks.getD j 0) ks.length) := RdO.up (Arr.rd (hs.foc (OArr v70 (putsF (fun j => ks.getD j 0) ks.length))))
      refine ns_call (f22_ok (OArr v70 (putsF (fun j => ks.getD j 0) ks.length) * pts b72 (.cells (encO [allL 9 0 0]).toArray 26 (0, 0))) v70 _ (putsF (fun j => ks.getD j 0) ks.length) [allL 9 0 0] D hro hmore (by simp) (by omega) (by omega) (by rw [putsF_len]; omega) (by simp) (by simp [allL])) ck_22 (hs.foc (OArr v70 (putsF (fun j => ks.getD j 0) ks.length) * pts b72 (.cells (encO [allL 9 0 0]).toArray 26 (0, 0)))) rfl rfl rfl rfl ?_
      intro v73 w hs
      replace hs := hs.ex
      obtain ⟨⟨sA, RA⟩, hs⟩ := hs
      replace hs := hs.pu
      obtain ⟨⟨rfl, hraA⟩, hs⟩ := hs
      simp only [mul_assoc'] at hs
      rw [putsF_onT, run_walk 0 0 _ (by have := held_len (putsF (fun j => ks.getD j 0) ks.length); rw [putsF_len] at this; omega) (by decide) (by decide), range_up, run_end] at hraA
      refine ns_move rfl rfl ?_
      refine ns_ext rfl rfl rfl rfl ?_
      refine ns_ext rfl rfl rfl rfl ?_
      refine ns_asg rfl rfl ?_
      refine ns_asg rfl rfl ?_
      refine ns_done ?_
      exact ⟨sA, RA, hraA, rfl, rfl, rfl, rfl, rfl, rfl, rfl, hs.out⟩
  rintro σ w ⟨s, R2, hra, g0, g1, g7, g8, g10, g11, g12, hs⟩
  obtain ⟨σ, rfl⟩ := rebase g0
  obtain ⟨σ, rfl⟩ := rebase (σ := σ) g1
  obtain ⟨σ, rfl⟩ := rebase (σ := σ) g7
  obtain ⟨σ, rfl⟩ := rebase (σ := σ) g8
  obtain ⟨σ, rfl⟩ := rebase (σ := σ) g10
  obtain ⟨σ, rfl⟩ := rebase (σ := σ) g11
  obtain ⟨σ, rfl⟩ := rebase (σ := σ) g12
  clear g0 g1 g7 g8 g10 g11 g12
  refine WP_seq ?_
  -- R14
  refine WP_seqr [⟨0, 0, []⟩, ⟨1, 0, []⟩, ⟨2, 1, []⟩, ⟨3, 2, []⟩, ⟨4, 2, []⟩, ⟨5, 0, []⟩, ⟨6, 0, []⟩, ⟨7, 0, []⟩, ⟨8, 0, []⟩, ⟨9, 0, []⟩] (by kernel_rfl) ?_
  refine ns_move rfl rfl ?_
  refine ns_move rfl rfl ?_
  refine ns_ldAB (opC (allL 9 0 0)).toList ag_26 hs rfl rfl rfl (by rfl) (by rfl) (by decide) ?_
  refine ns_lit [opV (allL 9 0 0)] (encO [allL 9 0 0]) sl_24 zr_26 (by decide) (by decide) hs rfl rfl rfl rfl (by simp [Value.cells, opV, opC]) (by simp [opV, Value.cells, encO]) ?_
  refine fun b80 w hs hx => ⟨trivial, ?_⟩
  have hmore : RdO (OArr tv (putsF (fun j => ks.getD ((j + c) % ks.length) 0) ks.length) * pts b80 (.cells (encO [allL 9 0 0]).toArray 26 (0, 0))) (.slice (some ⟨b80, 0, none⟩) 1 1) [allL 9 0 0] := (lit_rdO b80 [allL 9 0 0] (0, 0)).up
  have hro : RdO (OArr tv (putsF (fun j => ks.getD ((j + c) % ks.length) 0) ks.length) * pts b80 (.cells (encO [allL 9 0 0]).toArray 26 (0, 0))) tv (putsF (fun j => ks.getD ((j + c) % ks.length) 0) ks.length) := RdO.up (Arr.rd (hs.foc (OArr tv (putsF (fun j => ks.getD ((j + c) % ks.length) 0) ks.length))))
  refine ns_call (f22_ok (OArr tv (putsF (fun j => ks.getD ((j + c) % ks.length) 0) ks.length) * pts b80 (.cells (encO [allL 9 0 0]).toArray 26 (0, 0))) tv _ (putsF (fun j => ks.getD ((j + c) % ks.length) 0) ks.length) [allL 9 0 0] D hro hmore (by simp) (by omega) (by omega) (by rw [putsF_len]; omega) (by simp) (by simp [allL])) ck_22 (hs.foc (OArr tv (putsF (fun j => ks.getD ((j + c) % ks.length) 0) ks.length) * pts b80 (.cells (encO [allL 9 0 0]).toArray 26 (0, 0)))) rfl rfl rfl rfl ?_
  intro v81 w hs
  replace hs := hs.ex
  obtain ⟨⟨sB, RB⟩, hs⟩ := hs
  replace hs := hs.pu
  obtain ⟨⟨rfl, hraB⟩, hs⟩ := hs
  simp only [mul_assoc'] at hs
  rw [putsF_onT, run_walk 0 0 _ (by have := held_len (putsF (fun j => ks.getD ((j + c) % ks.length) 0) ks.length); rw [putsF_len] at this; omega) (by decide) (by decide), range_up, run_end] at hraB
  refine ns_move rfl rfl ?_
  refine ns_ext rfl rfl rfl rfl ?_
  refine ns_ext rfl rfl rfl rfl ?_
  refine ns_asg rfl rfl ?_
  refine ns_asg rfl rfl ?_
  refine ns_done ?_
  refine WP_seq ?_
  -- R15
  refine WP_seqr [⟨0, 0, []⟩, ⟨1, 0, []⟩, ⟨2, 1, []⟩, ⟨3, 2, []⟩, ⟨4, 2, []⟩, ⟨5, 0, []⟩, ⟨6, 0, []⟩, ⟨7, 0, []⟩, ⟨8, 0, []⟩, ⟨9, 0, []⟩] (by kernel_rfl) ?_
  refine ns_move rfl rfl ?_
  refine ns_move rfl rfl ?_
  refine ns_ldAB (opC (allL 9 0 0)).toList ag_26 hs rfl rfl rfl (by rfl) (by rfl) (by decide) ?_
  refine ns_lit [opV (allL 9 0 0)] (encO [allL 9 0 0]) sl_24 zr_26 (by decide) (by decide) hs rfl rfl rfl rfl (by simp [Value.cells, opV, opC]) (by simp [opV, Value.cells, encO]) ?_
  refine fun b88 w hs hx => ⟨trivial, ?_⟩
  have hmore : RdO (OArr bv (putsF (fun j => ks.getD (ks.length - 1 - j) 0) ks.length) * pts b88 (.cells (encO [allL 9 0 0]).toArray 26 (0, 0))) (.slice (some ⟨b88, 0, none⟩) 1 1) [allL 9 0 0] := (lit_rdO b88 [allL 9 0 0] (0, 0)).up
  have hro : RdO (OArr bv (putsF (fun j => ks.getD (ks.length - 1 - j) 0) ks.length) * pts b88 (.cells (encO [allL 9 0 0]).toArray 26 (0, 0))) bv (putsF (fun j => ks.getD (ks.length - 1 - j) 0) ks.length) := RdO.up (Arr.rd (hs.foc (OArr bv (putsF (fun j => ks.getD (ks.length - 1 - j) 0) ks.length))))
  refine ns_call (f22_ok (OArr bv (putsF (fun j => ks.getD (ks.length - 1 - j) 0) ks.length) * pts b88 (.cells (encO [allL 9 0 0]).toArray 26 (0, 0))) bv _ (putsF (fun j => ks.getD (ks.length - 1 - j) 0) ks.length) [allL 9 0 0] D hro hmore (by simp) (by omega) (by omega) (by rw [putsF_len]; omega) (by simp) (by simp [allL])) ck_22 (hs.foc (OArr bv (putsF (fun j => ks.getD (ks.length - 1 - j) 0) ks.length) * pts b88 (.cells (encO [allL 9 0 0]).toArray 26 (0, 0)))) rfl rfl rfl rfl ?_
  intro v89 w hs
  replace hs := hs.ex
  obtain ⟨⟨sC, RC⟩, hs⟩ := hs
  replace hs := hs.pu
  obtain ⟨⟨rfl, hraC⟩, hs⟩ := hs
  simp only [mul_assoc'] at hs
  rw [putsF_onT, run_walk 0 0 _ (by have := held_len (putsF (fun j => ks.getD (ks.length - 1 - j) 0) ks.length); rw [putsF_len] at this; omega) (by decide) (by decide), range_up, run_end] at hraC
  refine ns_move rfl rfl ?_
  refine ns_ext rfl rfl rfl rfl ?_
  refine ns_ext rfl rfl rfl rfl ?_
  refine ns_asg rfl rfl ?_
  refine ns_asg rfl rfl ?_
  refine ns_done ?_
  refine WP_seq ?_
  have hpos := putsF_pos (fun j => ks.getD j 0) ks.length
  have hll := held_len (putsF (fun j => ks.getD j 0) ks.length)
  rw [putsF_len] at hll
  have hraB : RdA RB sB [⟨false, 0, afterL [] (putsF (fun j => ks.getD j 0) ks.length)⟩] := by
    rcases Nat.eq_zero_or_pos ks.length with e | e
    · rw [e] at hraB ⊢; exact hraB
    · rw [turned_eq ks c ks.length (by rw [hc]; exact Nat.mod_lt _ e)] at hraB; exact hraB
  rw [back_eq] at hraC
  generalize afterL [] (putsF (fun j => ks.getD j 0) ks.length) = l at hra hraB hraC hpos hll
  obtain ⟨a4, c4, rfl, hc4⟩ := id hra.form
  obtain ⟨g0, o0, _, s0, e, hi0, hc0⟩ := hra.get (i := 0) rfl
  cases e
  have hi0 : RdI R2 s0 l := hi0
  obtain ⟨a6, c6, rfl, hc6⟩ := id hi0.form
  -- R16
  refine WP_seqr [⟨0, 0, []⟩, ⟨1, 0, []⟩, ⟨2, 0, []⟩, ⟨3, 0, []⟩, ⟨4, 0, []⟩, ⟨5, 0, []⟩, ⟨6, 0, []⟩, ⟨7, 0, []⟩, ⟨8, 0, []⟩, ⟨9, 0, []⟩, ⟨10, 2, []⟩, ⟨11, 0, []⟩, ⟨12, 0, []⟩, ⟨13, 0, []⟩, ⟨14, 0, []⟩, ⟨15, 2, []⟩, ⟨16, 0, []⟩, ⟨17, 0, []⟩, ⟨18, 0, []⟩, ⟨19, 0, []⟩, ⟨20, 0, []⟩, ⟨21, 1, []⟩, ⟨22, 0, []⟩, ⟨23, 0, []⟩, ⟨24, 0, []⟩, ⟨25, 0, []⟩, ⟨26, 0, []⟩, ⟨27, 0, []⟩, ⟨28, 0, []⟩, ⟨29, 0, []⟩] (by kernel_rfl) ?_
  refine ns_move rfl rfl ?_
  refine ns_move rfl rfl ?_
  refine ns_move rfl rfl ?_
  refine ns_pick rfl rfl rfl ?_
  refine ns_move rfl rfl ?_
  refine ns_move rfl rfl ?_
  refine ns_pick rfl rfl rfl ?_
  refine ns_move rfl rfl ?_
  refine ns_move rfl rfl ?_
  refine ns_move rfl rfl ?_
  refine ns_call (f25_ok (R2 * RB) _ _ [⟨false, 0, l⟩] (RdA.up hra) (RdA.up hraB) (by simp) (by simp; omega)) ck_25 (hs.foc (R2 * RB)) rfl rfl rfl rfl ?_
  intro v102 w hs
  replace hs := hs.pu
  obtain ⟨rfl, hs⟩ := hs
  try simp only [mul_assoc'] at hs
  refine ns_pick rfl rfl rfl ?_
  refine ns_move rfl rfl ?_
  refine ns_move rfl rfl ?_
  refine ns_move rfl rfl ?_
  refine ns_call (f25_ok (R2 * RC) _ _ [⟨false, 0, l⟩] (RdA.up hra) (RdA.up hraC) (by simp) (by simp; omega)) ck_25 (hs.foc (R2 * RC)) rfl rfl rfl rfl ?_
  intro v107 w hs
  replace hs := hs.pu
  obtain ⟨rfl, hs⟩ := hs
  try simp only [mul_assoc'] at hs
  refine ns_pick rfl rfl rfl ?_
  refine ns_move rfl rfl ?_
  refine ns_move rfl rfl ?_
  refine ns_idx 0 sl_28 rfl rfl rfl rfl rfl (by first | decide | simp) ?_
  refine ns_fld fo_36_2 rfl rfl rfl ?_
  refine ns_ld pl_34 rfl rfl rfl ((hc0 _ _ _ (hs.foc R2)).at 2 rfl) ?_
  refine ns_len sl_34 rfl rfl rfl ?_
  refine ns_cmp _ rfl rfl rfl rfl rfl ?_
  refine ns_move rfl rfl ?_
  refine ns_len sl_22 rfl rfl rfl ?_
  refine ns_cmp _ rfl rfl rfl rfl rfl ?_
  refine ns_beq2 true bl_4 rfl rfl rfl rfl (beq_iff_eq.2 (decide_eq_decide.2 (by show ((l.length : Int) > 0) ↔ ((ks.length : Int) > 0); omega))) ?_
  refine ns_pick rfl rfl rfl ?_
  refine ns_asg rfl rfl ?_
  refine ns_done ?_
  refine WP_ret ?_
  exact ⟨_, res1 _, St.mk_pu rfl hs.out⟩
end Go.Proofs.Ytnnembkganlbpaa
/- Many keys in a row, every so-many-th taken out and put in again. Plain lists. -/
namespace Go.Proofs.Ytnnembkganlbpaa
open Go.Bt
def itn (k : Nat) : It := ⟨(k : Int), (k : Int)⟩
def putN (k : Nat) : Sop := kkL 0 k k
def delN (k : Nat) : Sop := kkL 3 k 0
def outN (m n : Nat) : List Nat := (List.range n).filter fun k => k % m == 0
def keepN (m n : Nat) : List Nat := (List.range n).filter fun k => !(k % m == 0)
def whl (n : Nat) : List It := (List.range n).map itn
def dueL (m n : Nat) : List It := (keepN m n).map itn
def rowN (n : Nat) : List Sop := (List.range n).map putN
def delsN (m n : Nat) : List Sop := (outN m n).map delN
def backN (s t : Nat) : List Sop := ((List.range t).map (· * s)).map putN
def scrN (m n s t : Nat) : List Sop := rowN n ++ delsN m n ++ [allL 9 0 0] ++ backN s t ++ [allL 9 0 0, kdL 8]
theorem whl_snoc (n : Nat) : whl (n + 1) = whl n ++ [itn n] := by
  unfold whl; rw [List.range_succ, List.map_append, List.map_cons, List.map_nil]
theorem rowN_snoc (n : Nat) : rowN (n + 1) = rowN n ++ [putN n] := by
  unfold rowN; rw [List.range_succ, List.map_append, List.map_cons, List.map_nil]
theorem backN_snoc (s t : Nat) : backN s (t + 1) = backN s t ++ [putN (t * s)] := by
  unfold backN; rw [List.range_succ, List.map_append, List.map_append, List.map_cons, List.map_nil, List.map_cons, List.map_nil]
theorem delsN_out {m n : Nat} (h : n % m = 0) : delsN m (n + 1) = delsN m n ++ [delN n] := by
  unfold delsN outN
  rw [List.range_succ, List.filter_append, List.map_append, List.filter_cons_of_pos (by simp [h]), List.filter_nil, List.map_cons, List.map_nil]
theorem delsN_keep {m n : Nat} (h : n % m ≠ 0) : delsN m (n + 1) = delsN m n := by
  unfold delsN outN
  rw [List.range_succ, List.filter_append, List.filter_cons_of_neg (by simp [h]), List.filter_nil, List.append_nil]
theorem dueL_out {m n : Nat} (h : n % m = 0) : dueL m (n + 1) = dueL m n := by
  unfold dueL keepN
  rw [List.range_succ, List.filter_append, List.filter_cons_of_neg (by simp [h]), List.filter_nil, List.append_nil]
theorem dueL_keep {m n : Nat} (h : n % m ≠ 0) : dueL m (n + 1) = dueL m n ++ [itn n] := by
  unfold dueL keepN
  rw [List.range_succ, List.filter_append, List.map_append, List.filter_cons_of_pos (by simp [h]), List.filter_nil, List.map_cons, List.map_nil]
theorem whl_len (n : Nat) : (whl n).length = n := by simp [whl]
theorem rowN_len (n : Nat) : (rowN n).length = n := by simp [rowN]
theorem backN_len (s t : Nat) : (backN s t).length = t := by simp [backN]
theorem delsN_len (m n : Nat) : (delsN m n).length ≤ n := by
  unfold delsN outN
  rw [List.length_map]
  exact Nat.le_trans (List.length_filter_le ..) (by simp)
theorem dueL_len (m n : Nat) : (dueL m n).length ≤ n := by
  unfold dueL keepN
  rw [List.length_map]
  exact Nat.le_trans (List.length_filter_le ..) (by simp)
theorem scrN_len (m n s t : Nat) : (scrN m n s t).length = n + (delsN m n).length + t + 3 := by
  unfold scrN
  simp only [List.length_append, rowN_len, backN_len, List.length_cons, List.length_nil]
  omega
theorem srt_itn {L : List Nat} (h : L.Pairwise (· < ·)) : Srt (L.map itn) := by
  unfold Srt
  rw [List.pairwise_map]
  exact h.imp fun {a b} hab => by show (a : Int) < (b : Int); omega
theorem srt_whl (n : Nat) : Srt (whl n) := srt_itn List.pairwise_lt_range
theorem srt_due (m n : Nat) : Srt (dueL m n) := srt_itn (List.Pairwise.filter _ List.pairwise_lt_range)
/-- the tree holds just the numbers of which p is true -/
def Has (l : List It) (p : Nat → Prop) : Prop := Srt l ∧ ∀ x, x ∈ l ↔ ∃ k, p k ∧ x = itn k
theorem has_eq {a b : List It} {p q : Nat → Prop} (ha : Has a p) (hb : Has b q) (h : ∀ k, p k ↔ q k) : a = b :=
  srt_ext ha.1 hb.1 fun x => by rw [ha.2, hb.2]; exact ⟨fun ⟨k, hk, e⟩ => ⟨k, (h k).1 hk, e⟩, fun ⟨k, hk, e⟩ => ⟨k, (h k).2 hk, e⟩⟩
theorem has_whl (n : Nat) : Has (whl n) (· < n) := ⟨srt_whl n, fun x => by
  unfold whl
  simp only [List.mem_map, List.mem_range]
  exact ⟨fun ⟨k, hk, e⟩ => ⟨k, hk, e.symm⟩, fun ⟨k, hk, e⟩ => ⟨k, hk, e.symm⟩⟩⟩
theorem has_due (m n : Nat) : Has (dueL m n) (fun k => k < n ∧ k % m ≠ 0) := ⟨srt_due m n, fun x => by
  unfold dueL keepN
  simp only [List.mem_map, List.mem_filter, List.mem_range, Bool.not_eq_true', beq_eq_false_iff_ne]
  exact ⟨fun ⟨k, hk, e⟩ => ⟨k, hk, e.symm⟩, fun ⟨k, hk, e⟩ => ⟨k, hk, e.symm⟩⟩⟩
theorem has_puts (L : List Nat) : ∀ {l : List It} {p : Nat → Prop}, Has l p → Has (afterL l (L.map putN)) (fun k => p k ∨ k ∈ L) := by
  induction L with
  | nil => intro l p h; exact ⟨h.1, fun x => by simp only [List.not_mem_nil, or_false]; exact h.2 x⟩
  | cons j L ih =>
    intro l p h
    have h1 : Has (put l (itn j)) (fun k => p k ∨ k = j) := by
      refine ⟨srt_put h.1 _, fun x => ?_⟩
      rw [mem_put h.1]
      constructor
      · rintro (rfl | ⟨hx, _⟩)
        · exact ⟨j, .inr rfl, rfl⟩
        · obtain ⟨k, hk, e⟩ := (h.2 x).1 hx
          exact ⟨k, .inl hk, e⟩
      · rintro ⟨k, hk, rfl⟩
        by_cases hkj : k = j
        · subst hkj; exact .inl rfl
        · refine .inr ⟨(h.2 _).2 ⟨k, hk.resolve_right hkj, rfl⟩, ?_⟩
          show (k : Int) ≠ (j : Int)
          omega
    have h2 := ih h1
    have e : afterL l ((j :: L).map putN) = afterL (put l (itn j)) (L.map putN) := by
      show afterL (stepL l (putN j)).1 _ = _
      rw [step_0 (o := putN j) rfl]; rfl
    rw [e]
    refine ⟨h2.1, fun x => ?_⟩
    rw [h2.2]
    have hh : ∀ k, ((p k ∨ k = j) ∨ k ∈ L) ↔ (p k ∨ k ∈ j :: L) := fun k => by rw [List.mem_cons, or_assoc]
    exact ⟨fun ⟨k, hk, e⟩ => ⟨k, (hh k).1 hk, e⟩, fun ⟨k, hk, e⟩ => ⟨k, (hh k).2 hk, e⟩⟩
theorem has_dels (L : List Nat) : ∀ {l : List It} {p : Nat → Prop}, Has l p → Has (afterL l (L.map delN)) (fun k => p k ∧ k ∉ L) := by
  induction L with
  | nil => intro l p h; exact ⟨h.1, fun x => by simp only [List.not_mem_nil, not_false_eq_true, and_true]; exact h.2 x⟩
  | cons j L ih =>
    intro l p h
    have h1 : Has (rem l (j : Int)) (fun k => p k ∧ k ≠ j) := by
      refine ⟨srt_rem h.1 _, fun x => ?_⟩
      simp only [rem, List.mem_filter, bne_iff_ne, ne_eq]
      constructor
      · rintro ⟨hx, hk⟩
        obtain ⟨k, hp, rfl⟩ := (h.2 x).1 hx
        exact ⟨k, ⟨hp, fun e => hk (by show (k : Int) = (j : Int); rw [e])⟩, rfl⟩
      · rintro ⟨k, ⟨hp, hk⟩, rfl⟩
        refine ⟨(h.2 _).2 ⟨k, hp, rfl⟩, ?_⟩
        show ¬ (k : Int) = (j : Int)
        omega
    have h2 := ih h1
    have e : afterL l ((j :: L).map delN) = afterL (rem l (j : Int)) (L.map delN) := by
      show afterL (stepL l (delN j)).1 _ = _
      rw [step_3 (o := delN j) rfl]; rfl
    rw [e]
    refine ⟨h2.1, fun x => ?_⟩
    rw [h2.2]
    have hh : ∀ k, ((p k ∧ k ≠ j) ∧ k ∉ L) ↔ (p k ∧ k ∉ j :: L) := fun k => by rw [List.mem_cons, not_or, and_assoc]
    exact ⟨fun ⟨k, hk, e⟩ => ⟨k, (hh k).1 hk, e⟩, fun ⟨k, hk, e⟩ => ⟨k, (hh k).2 hk, e⟩⟩
theorem after_rowN (n : Nat) : afterL [] (rowN n) = whl n := by
  have h0 : Has ([] : List It) (fun _ => False) := ⟨List.Pairwise.nil, fun x => ⟨fun h => (by cases h), fun ⟨_, h, _⟩ => h.elim⟩⟩
  exact has_eq (has_puts (List.range n) h0) (has_whl n) fun k => by simp
theorem after_delsN (m n : Nat) : afterL (whl n) (delsN m n) = dueL m n := by
  refine has_eq (has_dels (outN m n) (has_whl n)) (has_due m n) fun k => ?_
  unfold outN
  simp only [List.mem_filter, List.mem_range, beq_iff_eq]
  exact ⟨fun ⟨a, b⟩ => ⟨a, fun c => b ⟨a, c⟩⟩, fun ⟨a, b⟩ => ⟨a, fun c => b c.2⟩⟩
theorem after_backN {m n s t : Nat} (hm : 1 ≤ m) (hs : s = min m n) (h1 : ∀ i, i < t → i * s < n) (h2 : n ≤ t * s) : afterL (dueL m n) (backN s t) = whl n := by
  refine has_eq (has_puts ((List.range t).map (· * s)) (has_due m n)) (has_whl n) fun k => ?_
  simp only [List.mem_map, List.mem_range]
  constructor
  · rintro (⟨h, _⟩ | ⟨i, hi, rfl⟩)
    · exact h
    · exact h1 i hi
  · intro hk
    by_cases hz : k % m = 0
    · refine .inr ?_
      by_cases hmn : m ≤ n
      · have e : s = m := by omega
        subst e
        refine ⟨k / s, ?_, ?_⟩
        · exact (Nat.div_lt_iff_lt_mul (by omega)).2 (by omega)
        · have := Nat.div_add_mod k s
          rw [hz, Nat.add_zero, Nat.mul_comm] at this
          exact this
      · have e : k = 0 := by rw [Nat.mod_eq_of_lt (by omega)] at hz; exact hz
        subst e
        refine ⟨0, ?_, by simp⟩
        rcases Nat.eq_zero_or_pos t with e | e
        · subst e; omega
        · exact e
    · exact .inl ⟨hk, hz⟩
theorem run_scrN {m n s t : Nat} (hn : n ≤ 2000) (hm : 1 ≤ m) (hs : s = min m n) (h1 : ∀ i, i < t → i * s < n) (h2 : n ≤ t * s) :
    runL [] (scrN m n s t) = (runL [] (rowN n ++ delsN m n) ++ ⟨false, 0, dueL m n⟩ :: runL (dueL m n) (backN s t)) ++ [⟨false, 0, whl n⟩, ⟨false, n, []⟩] := by
  have hd : (dueL m n).length ≤ 4000 := Nat.le_trans (dueL_len m n) (by omega)
  have hw : (whl n).length ≤ 4000 := by rw [whl_len]; omega
  have e1 : afterL [] (rowN n ++ delsN m n) = dueL m n := by rw [after_append, after_rowN, after_delsN]
  have e2 : afterL [] (rowN n ++ delsN m n ++ [allL 9 0 0]) = dueL m n := by
    rw [after_append, e1]
    show (stepL (dueL m n) (allL 9 0 0)).1 = _
    rw [step_walk 0 0 hd (by decide) (by decide)]
  have e3 : afterL [] (rowN n ++ delsN m n ++ [allL 9 0 0] ++ backN s t) = whl n := by rw [after_append, e2, after_backN hm hs h1 h2]
  have e4 : runL (whl n) [allL 9 0 0, kdL 8] = [⟨false, 0, whl n⟩, ⟨false, n, []⟩] := by
    rw [run_walk 0 0 _ hw (by decide) (by decide), range_up]
    show [_, (stepL (whl n) (kdL 8)).2] = _
    rw [step_8 (o := kdL 8) rfl, whl_len]
  unfold scrN
  rw [run_append, e3, e4, run_append, e2, run_append, e1, run_walk 0 0 _ hd (by decide) (by decide), range_up]
  rw [List.append_assoc (runL [] (rowN n ++ delsN m n))]
  rfl
theorem scr_at {m n s t : Nat} (hn : n ≤ 2000) (hm : 1 ≤ m) (hs : s = min m n) (h1 : ∀ i, i < t → i * s < n) (h2 : n ≤ t * s) :
    (runL [] (scrN m n s t))[n + (delsN m n).length]? = some ⟨false, 0, dueL m n⟩ ∧ (runL [] (scrN m n s t))[n + (delsN m n).length + t + 1]? = some ⟨false, 0, whl n⟩ ∧ (runL [] (scrN m n s t))[n + (delsN m n).length + t + 2]? = some ⟨false, n, []⟩ := by
  have hl1 : (runL [] (rowN n ++ delsN m n)).length = n + (delsN m n).length := by rw [run_length, List.length_append, rowN_len]
  have hl2 : (runL [] (rowN n ++ delsN m n) ++ ⟨false, 0, dueL m n⟩ :: runL (dueL m n) (backN s t)).length = n + (delsN m n).length + t + 1 := by
    rw [List.length_append, hl1, List.length_cons, run_length, backN_len]; omega
  rw [run_scrN hn hm hs h1 h2]
  refine ⟨?_, ?_, ?_⟩
  · rw [List.getElem?_append_left (by omega), List.getElem?_append_right (by omega), hl1, Nat.sub_self]; rfl
  · rw [List.getElem?_append_right (by omega), hl2, Nat.sub_self]; rfl
  · rw [List.getElem?_append_right (by omega), hl2, show n + (delsN m n).length + t + 2 - (n + (delsN m n).length + t + 1) = 1 from by omega]; rfl
theorem scr_kind {m n s t i : Nat} {x : Sop} (hi : i ≤ n + (delsN m n).length) (hx : (scrN m n s t)[i]? = some x) : x.kind = 9 ↔ i = n + (delsN m n).length := by
  have hl : (rowN n ++ delsN m n).length = n + (delsN m n).length := by rw [List.length_append, rowN_len]
  unfold scrN at hx
  rw [List.append_assoc, List.append_assoc] at hx
  by_cases e : i = n + (delsN m n).length
  · rw [List.getElem?_append_right (by omega), hl, e, Nat.sub_self] at hx
    refine ⟨fun _ => e, fun _ => ?_⟩
    have hx : some (allL 9 0 0) = some x := hx
    cases hx
    rfl
  · rw [List.getElem?_append_left (by omega)] at hx
    refine ⟨fun h => ?_, fun h => absurd h e⟩
    rcases List.mem_append.1 (List.mem_of_getElem? hx) with hm | hm
    · obtain ⟨k, _, rfl⟩ := List.mem_map.1 hm
      cases h
    · obtain ⟨k, _, rfl⟩ := List.mem_map.1 hm
      cases h
theorem scr_ok {m n s t : Nat} : ∀ o ∈ scrN m n s t, o.tree = 0 ∧ o.kind ≠ 17 := by
  intro o ho
  unfold scrN rowN delsN backN at ho
  simp only [List.mem_append, List.mem_map, List.mem_cons, List.not_mem_nil, or_false] at ho
  rcases ho with (((⟨k, _, rfl⟩ | ⟨k, _, rfl⟩) | rfl) | ⟨k, _, rfl⟩) | rfl | rfl
  all_goals exact ⟨rfl, by simp [putN, delN, kkL, allL, kdL]⟩
end Go.Proofs.Ytnnembkganlbpaa
/- A script whose keys are moved, or whose signs are turned, answers alike. Plain lists. -/
namespace Go.Proofs.Ytnnembkganlbpaa
open Go.Bt
def mapI (g : Int → Int) (x : It) : It := ⟨g x.key, x.val⟩
def mapA (g : Int → Int) (a : An) : An := ⟨a.ok, a.n, a.items.map (mapI g)⟩
def mvO (b : Int) (o : Sop) : Sop := ⟨o.kind, o.tree, o.key + b, o.to + b, o.val, o.cnt⟩
def opp (k : Int) : Int := if k = 4 ∨ k = 6 then k + 1 else if k = 5 ∨ k = 7 then k - 1 else if k = 9 then 13 else if k = 10 then 14 else if k = 11 then 15 else if k = 12 then 16 else if k = 13 then 9 else if k = 14 then 10 else if k = 15 then 11 else if k = 16 then 12 else k
def miO (o : Sop) : Sop := ⟨opp o.kind, o.tree, -o.key, -o.to, o.val, o.cnt⟩
theorem mapA_one (g : Int → Int) (q : Option It) : oneA (q.map (mapI g)) = mapA g (oneA q) := by cases q <;> rfl
theorem step_w {l : List It} {o : Sop} (h0 : o.kind ≠ 0) (h1 : o.kind ≠ 1) (h2 : o.kind ≠ 2) (h3 : o.kind ≠ 3) (h4 : o.kind ≠ 4) (h5 : o.kind ≠ 5) (h6 : o.kind ≠ 6) (h7 : o.kind ≠ 7) (h8 : o.kind ≠ 8) (h18 : o.kind ≠ 18) : stepL l o = (l, ⟨false, 0, walkL o l⟩) := by
  unfold stepL
  rw [if_neg h0, if_neg h1, if_neg h2, if_neg h3, if_neg h4, if_neg h5, if_neg h6, if_neg h7, if_neg h8, if_neg h18]
theorem walk_map {g : Int → Int} {o o' : Sop} {l l' : List It} (hc : o'.cnt = o.cnt) (h : rangeL o' l' = (rangeL o l).map (mapI g)) : walkL o' l' = (walkL o l).map (mapI g) := by
  unfold walkL
  rw [hc, h, feed_take _ _ [] (.inr rfl), feed_take _ _ [] (.inr rfl), List.nil_append, List.nil_append, List.map_take]
/-- a way to lay a sorted list anew: what it must do -/
structure Lays (g : Int → Int) (T : List It → List It) : Prop where
  inj : ∀ a b, g a = g b → a = b
  mem : ∀ l x, x ∈ T l ↔ ∃ y ∈ l, x = mapI g y
  srt : ∀ l, Srt l → Srt (T l)
theorem mapI_inj {g : Int → Int} (hg : ∀ a b, g a = g b → a = b) {x y : It} (h : mapI g x = mapI g y) : x = y := by
  cases x; cases y
  simp only [mapI, It.mk.injEq] at h
  obtain ⟨h1, h2⟩ := h
  have := hg _ _ h1
  subst this; subst h2; rfl
section
variable {g : Int → Int} {T : List It → List It} (hT : Lays g T)
include hT
theorem lays_put {l : List It} (h : Srt l) (x : It) : put (T l) (mapI g x) = T (put l x) := by
  refine srt_ext (srt_put (hT.srt l h) _) (hT.srt _ (srt_put h x)) fun y => ?_
  rw [mem_put (hT.srt l h), hT.mem, hT.mem]
  constructor
  · rintro (rfl | ⟨⟨z, hz, rfl⟩, hk⟩)
    · exact ⟨x, (mem_put h).2 (.inl rfl), rfl⟩
    · exact ⟨z, (mem_put h).2 (.inr ⟨hz, fun e => hk (by show g z.key = g x.key; rw [e])⟩), rfl⟩
  · rintro ⟨z, hz, rfl⟩
    rcases (mem_put h).1 hz with rfl | ⟨hz, hk⟩
    · exact .inl rfl
    · exact .inr ⟨⟨z, hz, rfl⟩, fun e => hk (hT.inj _ _ e)⟩
theorem lays_rem {l : List It} (h : Srt l) (k : Int) : rem (T l) (g k) = T (rem l k) := by
  refine srt_ext (srt_rem (hT.srt l h) _) (hT.srt _ (srt_rem h k)) fun y => ?_
  simp only [rem, List.mem_filter, bne_iff_ne, ne_eq, hT.mem]
  constructor
  · rintro ⟨⟨z, hz, rfl⟩, hk⟩
    exact ⟨z, ⟨hz, fun e => hk (by show g z.key = g k; rw [e])⟩, rfl⟩
  · rintro ⟨z, ⟨hz, hk⟩, rfl⟩
    exact ⟨⟨z, hz, rfl⟩, fun e => hk (hT.inj _ _ e)⟩
theorem lays_get {l : List It} (h : Srt l) (k : Int) : get (T l) (g k) = (get l k).map (mapI g) := by
  cases hg : get l k with
  | none =>
    rw [Option.map_none, get_none]
    intro x hx
    obtain ⟨y, hy, rfl⟩ := (hT.mem l x).1 hx
    exact fun e => get_none.1 hg y hy (hT.inj _ _ e)
  | some x =>
    obtain ⟨h1, h2⟩ := (get_iff h).1 hg
    rw [Option.map_some, get_iff (hT.srt l h)]
    exact ⟨(hT.mem _ _).2 ⟨x, h1, rfl⟩, by show g x.key = g k; rw [h2]⟩
end
/-! ### moved -/
theorem srt_map {g : Int → Int} (hg : ∀ a b, a < b → g a < g b) {l : List It} (h : Srt l) : Srt (l.map (mapI g)) := by
  unfold Srt at h ⊢
  rw [List.pairwise_map]
  exact h.imp fun {a b} hab => hg _ _ hab
theorem lays_mv (b : Int) : Lays (fun k => k + b) (List.map (mapI fun k => k + b)) where
  inj := fun a c h => by simpa using h
  mem := fun l x => by simp only [List.mem_map]; exact ⟨fun ⟨y, hy, e⟩ => ⟨y, hy, e.symm⟩, fun ⟨y, hy, e⟩ => ⟨y, hy, e.symm⟩⟩
  srt := fun l h => srt_map (fun a c h => by show a + b < c + b; omega) h
theorem range_mv (b : Int) (o : Sop) (l : List It) : rangeL (mvO b o) (l.map (mapI fun k => k + b)) = (rangeL o l).map (mapI fun k => k + b) := by
  have hs : ∀ st sp (L : List It), sel (st.map (mapI fun k => k + b)) (sp.map (mapI fun k => k + b)) (L.map (mapI fun k => k + b)) = (sel st sp L).map (mapI fun k => k + b) := by
    intro st sp L
    unfold sel
    rw [List.filter_map]
    refine congrArg _ (List.filter_congr fun y _ => ?_)
    cases st <;> cases sp <;> simp [geS, ltS, mapI]
  have hd : ∀ st sp (L : List It), selD (st.map (mapI fun k => k + b)) (sp.map (mapI fun k => k + b)) (L.map (mapI fun k => k + b)) = (selD st sp L).map (mapI fun k => k + b) := by
    intro st sp L
    unfold selD
    rw [List.filter_map]
    refine congrArg _ (List.filter_congr fun y _ => ?_)
    cases st <;> cases sp <;> simp [leS, gtS, mapI]
  have e1 := hs none none l
  have e2 := hs (some o.it) none l
  have e3 := hs none (some o.it) l
  have e5 := hd none none l.reverse
  have e6 := hd (some o.it) none l.reverse
  have e7 := hd none (some o.it) l.reverse
  have e8 := hd (some o.it) (some o.it2) l.reverse
  have e4 := hs (some o.it) (some o.it2) l
  rw [List.map_reverse] at e5 e6 e7 e8
  unfold rangeL
  show (if o.kind = 9 then _ else if o.kind = 10 then _ else if o.kind = 11 then _ else if o.kind = 12 then _ else if o.kind = 13 then _ else if o.kind = 14 then _ else if o.kind = 15 then _ else if o.kind = 16 then _ else _) = _
  repeat' split
  · exact e1
  · exact e2
  · exact e3
  · exact e4
  · exact e5
  · exact e6
  · exact e7
  · exact e8
  · rfl
theorem step_mv (b : Int) {l : List It} (h : Srt l) (o : Sop) : stepL (l.map (mapI fun k => k + b)) (mvO b o) = ((stepL l o).1.map (mapI fun k => k + b), mapA (fun k => k + b) (stepL l o).2) := by
  by_cases h0 : o.kind = 0
  · rw [step_0 h0, step_0 (o := mvO b o) h0]
    show (put (l.map _) (mapI (fun k => k + b) o.it), oneA (get (l.map _) (o.key + b))) = _
    rw [lays_put (lays_mv b) h, lays_get (lays_mv b) h, mapA_one]
  by_cases h1 : o.kind = 1
  · rw [step_1 h1, step_1 (o := mvO b o) h1]
    show (_, oneA (get (l.map _) (o.key + b))) = _
    rw [lays_get (lays_mv b) h, mapA_one]
  by_cases h2 : o.kind = 2
  · rw [step_2 h2, step_2 (o := mvO b o) h2]
    show (_, (⟨(get (l.map _) (o.key + b)).isSome, 0, []⟩ : An)) = _
    rw [lays_get (lays_mv b) h, Option.isSome_map]; rfl
  by_cases h3 : o.kind = 3
  · rw [step_3 h3, step_3 (o := mvO b o) h3]
    show (rem (l.map _) (o.key + b), oneA (get (l.map _) (o.key + b))) = _
    rw [lays_rem (lays_mv b) h, lays_get (lays_mv b) h, mapA_one]
  by_cases h4 : o.kind = 4
  · rw [step_4 h4, step_4 (o := mvO b o) h4, List.head?_map, mapA_one]
  by_cases h5 : o.kind = 5
  · rw [step_5 h5, step_5 (o := mvO b o) h5, List.getLast?_map, mapA_one]
  by_cases h6 : o.kind = 6
  · rw [step_6 h6, step_6 (o := mvO b o) h6, List.head?_map, mapA_one, List.map_tail]
  by_cases h7 : o.kind = 7
  · rw [step_7 h7, step_7 (o := mvO b o) h7, List.getLast?_map, mapA_one, List.map_dropLast]
  by_cases h8 : o.kind = 8
  · rw [step_8 h8, step_8 (o := mvO b o) h8, List.length_map]; rfl
  by_cases h18 : o.kind = 18
  · rw [step_18 h18, step_18 (o := mvO b o) h18]; rfl
  · rw [step_w h0 h1 h2 h3 h4 h5 h6 h7 h8 h18, step_w (o := mvO b o) h0 h1 h2 h3 h4 h5 h6 h7 h8 h18]
    show (_, (⟨false, 0, walkL (mvO b o) (l.map _)⟩ : An)) = _
    rw [walk_map (o := o) (o' := mvO b o) (l := l) (l' := l.map (mapI fun k => k + b)) (g := fun k => k + b) rfl (range_mv b o l)]; rfl
theorem run_mv (b : Int) (S : List Sop) : ∀ {l : List It}, Srt l → runL (l.map (mapI fun k => k + b)) (S.map (mvO b)) = (runL l S).map (mapA fun k => k + b) := by
  induction S with
  | nil => intro l _; rfl
  | cons o S ih =>
    intro l h
    show (stepL _ (mvO b o)).2 :: runL (stepL _ (mvO b o)).1 (S.map (mvO b)) = _ :: _
    rw [step_mv b h]
    exact congrArg _ (ih (step_srt h o))
/-! ### mirrored -/
def ngI : It → It := mapI fun k => -k
def MI (l : List It) : List It := (l.map ngI).reverse
theorem lays_mi : Lays (fun k => -k) MI where
  inj := fun a c h => by have : -a = -c := h; omega
  mem := fun l x => by unfold MI ngI; simp only [List.mem_reverse, List.mem_map]; exact ⟨fun ⟨y, hy, e⟩ => ⟨y, hy, e.symm⟩, fun ⟨y, hy, e⟩ => ⟨y, hy, e.symm⟩⟩
  srt := fun l h => by
    unfold MI Srt
    rw [List.pairwise_reverse, List.pairwise_map]
    refine List.Pairwise.imp ?_ h
    intro a b hab
    show -b.key < -a.key
    have hab : a.key < b.key := hab
    omega
theorem opp_id {k : Int} (h4 : k ≠ 4) (h5 : k ≠ 5) (h6 : k ≠ 6) (h7 : k ≠ 7) (h9 : k ≠ 9) (h10 : k ≠ 10) (h11 : k ≠ 11) (h12 : k ≠ 12) (h13 : k ≠ 13) (h14 : k ≠ 14) (h15 : k ≠ 15) (h16 : k ≠ 16) : opp k = k := by
  unfold opp
  rw [if_neg (by omega), if_neg (by omega), if_neg h9, if_neg h10, if_neg h11, if_neg h12, if_neg h13, if_neg h14, if_neg h15, if_neg h16]
theorem range_mi (o : Sop) (l : List It) : rangeL (miO o) (MI l) = (rangeL o l).map ngI := by
  have hd : ∀ st sp (L : List It), selD (st.map ngI) (sp.map ngI) (L.map ngI) = (sel st sp L).map ngI := by
    intro st sp L
    unfold selD sel
    rw [List.filter_map]
    refine congrArg _ (List.filter_congr fun y _ => ?_)
    cases st <;> cases sp <;> simp [geS, ltS, leS, gtS, mapI, ngI]
  have hs : ∀ st sp (L : List It), sel (st.map ngI) (sp.map ngI) (L.map ngI) = (selD st sp L).map ngI := by
    intro st sp L
    unfold selD sel
    rw [List.filter_map]
    refine congrArg _ (List.filter_congr fun y _ => ?_)
    cases st <;> cases sp <;> simp [geS, ltS, leS, gtS, mapI, ngI]
  have eM : MI l = l.reverse.map ngI := by unfold MI; rw [List.map_reverse]
  have eR : (MI l).reverse = l.map ngI := by unfold MI; rw [List.reverse_reverse]
  by_cases h9 : o.kind = 9
  · have e : (miO o).kind = 13 := by show opp o.kind = 13; rw [h9]; rfl
    unfold rangeL; simp only [e, h9]; rw [eR]; exact hd none none l
  by_cases h10 : o.kind = 10
  · have e : (miO o).kind = 14 := by show opp o.kind = 14; rw [h10]; rfl
    unfold rangeL; simp only [e, h10]; rw [eR]; exact hd (some o.it) none l
  by_cases h11 : o.kind = 11
  · have e : (miO o).kind = 15 := by show opp o.kind = 15; rw [h11]; rfl
    unfold rangeL; simp only [e, h11]; rw [eR]; exact hd none (some o.it) l
  by_cases h12 : o.kind = 12
  · have e : (miO o).kind = 16 := by show opp o.kind = 16; rw [h12]; rfl
    unfold rangeL; simp only [e, h12]; rw [eR]; exact hd (some o.it) (some o.it2) l
  by_cases h13 : o.kind = 13
  · have e : (miO o).kind = 9 := by show opp o.kind = 9; rw [h13]; rfl
    unfold rangeL; simp only [e, h13]; rw [eM]; exact hs none none l.reverse
  by_cases h14 : o.kind = 14
  · have e : (miO o).kind = 10 := by show opp o.kind = 10; rw [h14]; rfl
    unfold rangeL; simp only [e, h14]; rw [eM]; exact hs (some o.it) none l.reverse
  by_cases h15 : o.kind = 15
  · have e : (miO o).kind = 11 := by show opp o.kind = 11; rw [h15]; rfl
    unfold rangeL; simp only [e, h15]; rw [eM]; exact hs none (some o.it) l.reverse
  by_cases h16 : o.kind = 16
  · have e : (miO o).kind = 12 := by show opp o.kind = 12; rw [h16]; rfl
    unfold rangeL; simp only [e, h16]; rw [eM]; exact hs (some o.it) (some o.it2) l.reverse
  · have hn : ∀ k : Int, k ≠ 9 → k ≠ 10 → k ≠ 11 → k ≠ 12 → k ≠ 13 → k ≠ 14 → k ≠ 15 → k ≠ 16 → ∀ (q : Sop) (L : List It), q.kind = k → rangeL q L = [] := by
      intro k a b c d e f g h q L hq
      unfold rangeL
      rw [hq, if_neg a, if_neg b, if_neg c, if_neg d, if_neg e, if_neg f, if_neg g, if_neg h]
    have hk : opp o.kind ≠ 9 ∧ opp o.kind ≠ 10 ∧ opp o.kind ≠ 11 ∧ opp o.kind ≠ 12 ∧ opp o.kind ≠ 13 ∧ opp o.kind ≠ 14 ∧ opp o.kind ≠ 15 ∧ opp o.kind ≠ 16 := by
      unfold opp
      rw [if_neg h9, if_neg h10, if_neg h11, if_neg h12, if_neg h13, if_neg h14, if_neg h15, if_neg h16]
      repeat' split
      all_goals omega
    rw [hn _ h9 h10 h11 h12 h13 h14 h15 h16 o l rfl, hn (opp o.kind) hk.1 hk.2.1 hk.2.2.1 hk.2.2.2.1 hk.2.2.2.2.1 hk.2.2.2.2.2.1 hk.2.2.2.2.2.2.1 hk.2.2.2.2.2.2.2 (miO o) _ rfl]
    rfl
theorem step_mi {l : List It} (h : Srt l) (o : Sop) : stepL (MI l) (miO o) = (MI (stepL l o).1, mapA (fun k => -k) (stepL l o).2) := by
  by_cases h0 : o.kind = 0
  · rw [step_0 h0, step_0 (o := miO o) (by show opp o.kind = 0; rw [h0]; rfl)]
    show (put (MI l) (mapI (fun k => -k) o.it), oneA (get (MI l) (-o.key))) = _
    rw [lays_put lays_mi h, lays_get lays_mi h, mapA_one]
  by_cases h1 : o.kind = 1
  · rw [step_1 h1, step_1 (o := miO o) (by show opp o.kind = 1; rw [h1]; rfl)]
    show (_, oneA (get (MI l) (-o.key))) = _
    rw [lays_get lays_mi h, mapA_one]
  by_cases h2 : o.kind = 2
  · rw [step_2 h2, step_2 (o := miO o) (by show opp o.kind = 2; rw [h2]; rfl)]
    show (_, (⟨(get (MI l) (-o.key)).isSome, 0, []⟩ : An)) = _
    rw [lays_get lays_mi h, Option.isSome_map]; rfl
  by_cases h3 : o.kind = 3
  · rw [step_3 h3, step_3 (o := miO o) (by show opp o.kind = 3; rw [h3]; rfl)]
    show (rem (MI l) (-o.key), oneA (get (MI l) (-o.key))) = _
    rw [lays_rem lays_mi h, lays_get lays_mi h, mapA_one]
  have hh : (MI l).head? = l.getLast?.map ngI := by unfold MI; rw [List.head?_reverse, List.getLast?_map]
  have hl : (MI l).getLast? = l.head?.map ngI := by unfold MI; rw [List.getLast?_reverse, List.head?_map]
  by_cases h4 : o.kind = 4
  · rw [step_4 h4, step_5 (o := miO o) (by show opp o.kind = 5; rw [h4]; rfl), hl]
    show (_, oneA (l.head?.map (mapI _))) = _
    rw [mapA_one]
  by_cases h5 : o.kind = 5
  · rw [step_5 h5, step_4 (o := miO o) (by show opp o.kind = 4; rw [h5]; rfl), hh]
    show (_, oneA (l.getLast?.map (mapI _))) = _
    rw [mapA_one]
  by_cases h6 : o.kind = 6
  · rw [step_6 h6, step_7 (o := miO o) (by show opp o.kind = 7; rw [h6]; rfl), hl]
    show (_, oneA (l.head?.map (mapI _))) = _
    rw [mapA_one]
    refine congrArg (·, _) ?_
    unfold MI
    rw [List.dropLast_reverse, List.map_tail]
  by_cases h7 : o.kind = 7
  · rw [step_7 h7, step_6 (o := miO o) (by show opp o.kind = 6; rw [h7]; rfl), hh]
    show (_, oneA (l.getLast?.map (mapI _))) = _
    rw [mapA_one]
    refine congrArg (·, _) ?_
    unfold MI
    rw [List.tail_reverse, List.map_dropLast]
  by_cases h8 : o.kind = 8
  · rw [step_8 h8, step_8 (o := miO o) (by show opp o.kind = 8; rw [h8]; rfl)]
    unfold MI
    rw [List.length_reverse, List.length_map]; rfl
  by_cases h18 : o.kind = 18
  · rw [step_18 h18, step_18 (o := miO o) (by show opp o.kind = 18; rw [h18]; rfl)]; rfl
  · have hk : ∀ j : Int, j = 0 ∨ j = 1 ∨ j = 2 ∨ j = 3 ∨ j = 4 ∨ j = 5 ∨ j = 6 ∨ j = 7 ∨ j = 8 ∨ j = 18 → (miO o).kind ≠ j := by
      intro j hj
      show opp o.kind ≠ j
      unfold opp
      repeat' split
      all_goals omega
    rw [step_w h0 h1 h2 h3 h4 h5 h6 h7 h8 h18, step_w (o := miO o) (hk 0 (by omega)) (hk 1 (by omega)) (hk 2 (by omega)) (hk 3 (by omega)) (hk 4 (by omega)) (hk 5 (by omega)) (hk 6 (by omega)) (hk 7 (by omega)) (hk 8 (by omega)) (hk 18 (by omega))]
    show (_, (⟨false, 0, walkL (miO o) (MI l)⟩ : An)) = _
    rw [walk_map (o := o) (o' := miO o) (l := l) (l' := MI l) (g := fun k => -k) rfl (range_mi o l)]; rfl
theorem run_mi (S : List Sop) : ∀ {l : List It}, Srt l → runL (MI l) (S.map miO) = (runL l S).map (mapA fun k => -k) := by
  induction S with
  | nil => intro l _; rfl
  | cons o S ih =>
    intro l h
    show (stepL _ (miO o)).2 :: runL (stepL _ (miO o)).1 (S.map miO) = _ :: _
    rw [step_mi h]
    exact congrArg _ (ih (step_srt h o))
/-! ### which keys come out -/
theorem one_sub {l : List It} (q : Option It) (hq : ∀ x, q = some x → x ∈ l) : ∀ x ∈ (oneA q).items, x ∈ l := by
  intro x hx
  cases q with
  | none => cases hx
  | some y => rw [List.mem_singleton.1 hx]; exact hq y rfl
theorem range_sub (o : Sop) (l : List It) : ∀ x ∈ rangeL o l, x ∈ l := by
  intro x hx
  unfold rangeL at hx
  repeat' split at hx
  all_goals first
    | exact (List.mem_filter.1 hx).1
    | exact List.mem_reverse.1 (List.mem_filter.1 hx).1
    | cases hx
theorem step_sub (l : List It) (o : Sop) : (∀ x ∈ (stepL l o).2.items, x ∈ l) ∧ ∀ x ∈ (stepL l o).1, x ∈ l ∨ x = o.it := by
  have hget : ∀ x, get l o.key = some x → x ∈ l := fun x hx => List.mem_of_find?_eq_some hx
  have hh : ∀ x, l.head? = some x → x ∈ l := fun x hx => List.mem_of_head? hx
  have hg : ∀ x, l.getLast? = some x → x ∈ l := fun x hx => List.mem_of_getLast? hx
  have hno : ∀ x ∈ ([] : List It), x ∈ l := fun x hx => by cases hx
  by_cases h0 : o.kind = 0
  · rw [step_0 h0]
    refine ⟨one_sub _ hget, fun x hx => ?_⟩
    have hx : x ∈ put l o.it := hx
    unfold put at hx
    rcases List.mem_append.1 hx with hx | hx
    · exact .inl (List.mem_of_mem_take hx)
    · rcases List.mem_cons.1 hx with rfl | hx
      · exact .inr rfl
      · exact .inl (List.mem_of_mem_drop hx)
  by_cases h1 : o.kind = 1
  · rw [step_1 h1]; exact ⟨one_sub _ hget, fun x hx => .inl hx⟩
  by_cases h2 : o.kind = 2
  · rw [step_2 h2]; exact ⟨hno, fun x hx => .inl hx⟩
  by_cases h3 : o.kind = 3
  · rw [step_3 h3]; exact ⟨one_sub _ hget, fun x hx => .inl (List.mem_filter.1 hx).1⟩
  by_cases h4 : o.kind = 4
  · rw [step_4 h4]; exact ⟨one_sub _ hh, fun x hx => .inl hx⟩
  by_cases h5 : o.kind = 5
  · rw [step_5 h5]; exact ⟨one_sub _ hg, fun x hx => .inl hx⟩
  by_cases h6 : o.kind = 6
  · rw [step_6 h6]; exact ⟨one_sub _ hh, fun x hx => .inl (List.mem_of_mem_tail hx)⟩
  by_cases h7 : o.kind = 7
  · rw [step_7 h7]; exact ⟨one_sub _ hg, fun x hx => .inl (List.dropLast_subset l hx)⟩
  by_cases h8 : o.kind = 8
  · rw [step_8 h8]; exact ⟨hno, fun x hx => .inl hx⟩
  by_cases h18 : o.kind = 18
  · rw [step_18 h18]; exact ⟨hno, fun x hx => by cases hx⟩
  · rw [step_w h0 h1 h2 h3 h4 h5 h6 h7 h8 h18]
    refine ⟨fun x hx => ?_, fun x hx => .inl hx⟩
    have hx : x ∈ walkL o l := hx
    unfold walkL at hx
    rw [feed_take _ _ [] (.inr rfl), List.nil_append] at hx
    exact range_sub o l x (List.mem_of_mem_take hx)
theorem keys_in (p : Int → Prop) (S : List Sop) : ∀ {l : List It}, (∀ o ∈ S, p o.key) → (∀ x ∈ l, p x.key) → ∀ a ∈ runL l S, ∀ x ∈ a.items, p x.key := by
  induction S with
  | nil => intro l _ _ a ha; cases ha
  | cons o S ih =>
    intro l hS hl a ha
    obtain ⟨h1, h2⟩ := step_sub l o
    rcases List.mem_cons.1 ha with rfl | ha
    · exact fun x hx => hl x (h1 x hx)
    · refine ih (fun q hq => hS q (List.mem_cons_of_mem _ hq)) (fun x hx => ?_) a ha
      rcases h2 x hx with h | rfl
      · exact hl x h
      · exact hS o List.mem_cons_self
/-! ### items turned in place -/
def mixI (g : Int → Int) (l : List It) (j : Nat) : List It := (l.take j).map (mapI g) ++ l.drop j
def mixA (g : Int → Int) (l : List An) (j : Nat) : List An := (l.take j).map (mapA g) ++ l.drop j
theorem mixI_len (g : Int → Int) (l : List It) (j : Nat) : (mixI g l j).length = l.length := by
  unfold mixI; rw [List.length_append, List.length_map, List.length_take, List.length_drop]; omega
theorem mixA_len (g : Int → Int) (l : List An) (j : Nat) : (mixA g l j).length = l.length := by
  unfold mixA; rw [List.length_append, List.length_map, List.length_take, List.length_drop]; omega
theorem mix_at {α : Type} (f : α → α) {l : List α} {j : Nat} {x : α} (h : l[j]? = some x) : ((l.take j).map f ++ l.drop j)[j]? = some x := by
  obtain ⟨hj, _⟩ := List.getElem?_eq_some_iff.1 h
  rw [List.getElem?_append_right (by rw [List.length_map, List.length_take]; omega), List.getElem?_drop, List.length_map, List.length_take, Nat.min_eq_left (by omega), Nat.sub_self, Nat.add_zero, h]
theorem mix_set {α : Type} (f : α → α) {l : List α} {j : Nat} {x : α} (h : l[j]? = some x) : ((l.take j).map f ++ l.drop j).set j (f x) = (l.take (j + 1)).map f ++ l.drop (j + 1) := by
  obtain ⟨hj, rfl⟩ := List.getElem?_eq_some_iff.1 h
  rw [List.set_append_right _ _ (by rw [List.length_map, List.length_take]; omega), List.length_map, List.length_take, Nat.min_eq_left (by omega), Nat.sub_self, List.drop_eq_getElem_cons hj, List.set_cons_zero, List.take_add_one, List.getElem?_eq_getElem hj, List.map_append, List.append_assoc]
  rfl
theorem mixA_end (g : Int → Int) (l : List An) : mixA g l l.length = l.map (mapA g) := by unfold mixA; rw [List.take_length, List.drop_length, List.append_nil]
theorem mixI_end (g : Int → Int) (l : List It) : mixI g l l.length = l.map (mapI g) := by unfold mixI; rw [List.take_length, List.drop_length, List.append_nil]
theorem enc_set {l : List It} {j : Nat} {x : It} (k : Int) (h : l[j]? = some x) : (encs l).set (j * 2) (.int .i64 k) = encs (l.set j ⟨k, x.val⟩) := by
  induction l generalizing j with
  | nil => simp at h
  | cons y l ih =>
    cases j with
    | zero => simp at h; subst h; rfl
    | succ j =>
      have h : l[j]? = some x := by simpa using h
      rw [Nat.succ_mul, List.set_cons_succ, encs_cons, encs_cons, ← ih h]
      show (_ :: _ :: encs l).set (j * 2 + 2) _ = _
      rfl
theorem cur_set {cur : Array Go.Value} {m j : Nat} {l : List It} {x : It} (k : Int) (h : cur.toList.take m = encs l) (hj : l[j]? = some x) : (cur.setIfInBounds (j * 2) (.int .i64 k)).toList.take m = encs (l.set j ⟨k, x.val⟩) := by
  rw [Array.toList_setIfInBounds, List.take_set, h, enc_set k hj]
theorem encA_map (g : Int → Int) (al : List An) (ss : List Go.Value) : encA (al.map (mapA g)) ss = encA al ss := by
  unfold encA
  rw [List.zip_map_left, List.flatMap_map]
  rfl
theorem its_open (g : Int → Int) {al : List An} {ss : List Go.Value} {i : Nat} {a : An} {s : Go.Value} (hl : ss.length = al.length) (ha : al[i]? = some a) (hs : ss[i]? = some s) :
    ∃ rest : Go.Sl.HProp, itsS (mixA g al i) ss = IArr s a.items * rest ∧ itsS (mixA g al (i + 1)) ss = IArr s (mapA g a).items * rest := by
  obtain ⟨hi, _⟩ := List.getElem?_eq_some_iff.1 ha
  have hm : (mixA g al i)[i]? = some a := mix_at (mapA g) ha
  have h1 : (((mixA g al i).zip ss).map fun p => IArr p.2 p.1.items)[i]? = some (IArr s a.items) := by
    rw [List.getElem?_map, (List.getElem?_zip_eq_some (z := (a, s))).2 ⟨hm, hs⟩]; rfl
  have hlen : i < (((mixA g al i).zip ss).map fun p => IArr p.2 p.1.items).length := by
    rw [List.length_map, List.length_zip, mixA_len]; omega
  refine ⟨_, Go.Sl.stars_at h1, ?_⟩
  rw [← Go.Sl.stars_set (IArr s (mapA g a).items) hlen]
  unfold itsS
  refine congrArg Go.Sl.stars ?_
  rw [show mixA g al (i + 1) = (mixA g al i).set i (mapA g a) from (mix_set (mapA g) ha).symm]
  apply List.ext_getElem?
  intro k
  rw [List.getElem?_map, List.getElem?_set, List.getElem?_map]
  by_cases hk : i = k
  · subst hk
    rw [if_pos rfl, if_pos hlen, (List.getElem?_zip_eq_some (z := (mapA g a, s))).2 ⟨by rw [List.getElem?_set_self (by rw [mixA_len]; exact hi)], hs⟩]; rfl
  · rw [if_neg hk]
    refine congrArg _ ?_
    show (List.zipWith Prod.mk _ ss)[k]? = (List.zipWith Prod.mk _ ss)[k]?
    rw [List.getElem?_zipWith, List.getElem?_zipWith, List.getElem?_set_ne hk]
end Go.Proofs.Ytnnembkganlbpaa
/- The walks of near keys, of moving a script, and of the law on moved keys: FnMoved. -/
namespace Go.Proofs.Ytnnembkganlbpaa
open Go Go.Sl Go.Net Go.Wk Go.Bt Go.RowKit

def nearK (k : Int) : Prop := -2305843009213693952 ≤ k ∧ k ≤ 2305843009213693952
def nearL (l : List Sop) : Prop := ∀ o ∈ l, nearK o.key ∧ nearK o.to
theorem onT_near {l : List Sop} (h : nearL l) : nearL (onT l) := by
  intro o ho
  simp only [onT, List.mem_map, List.mem_filter] at ho
  obtain ⟨x, ⟨hx, _⟩, rfl⟩ := ho
  exact h x hx
theorem aarr_mk2 {v : Value} {n : Nat} {al : List An} {ss : List Value} (hn : n = al.length) (hl : ss.length = al.length) : Ent (Arr 36 3 v n (encA al ss) * itsS al ss) (AArr v al) := aarr_mk hn hl
set_option maxHeartbeats 1600000 in
theorem f32_ok (R : HProp) (v : Value) (os : List Sop) (hR : RdO R v os) (hll : os.length < 90000) : Tri Try.prog 32 #[v] R fun r => ex fun b : Bool => pu (r = .bool b ∧ (b = true ↔ nearL os)) * R := by
  obtain ⟨hxl, a1, c1, rfl, hc1, hrd⟩ := hR
  intro w0 F w hs
  refine calls_WP 31 #[.tmp 2] Try.func32 rfl Try.ntmps32 rfl (Nat.le_of_ble_eq_true rfl) ?_
  refine WP_seq ?_
  -- R0
  refine WP_seqr [⟨0, 0, []⟩] (by kernel_rfl) ?_
  refine ns_asg rfl rfl ?_
  refine ns_done ?_
  refine WP_seq_cut (fun σ w => nearL os ∧ St w0 (R * F) w) ?_ ?_ -- S1
  · refine WP_seq ?_
    -- R1
    refine WP_seqr [⟨0, 0, []⟩, ⟨1, 0, []⟩, ⟨2, 0, []⟩] (by kernel_rfl) ?_
    refine ns_move rfl rfl ?_
    refine ns_len sl_24 rfl rfl rfl ?_
    refine ns_move rfl rfl ?_
    refine ns_done ?_
    refine WP_block ?_
    refine WP_loop (fun m σ w => ∃ i : Nat, m = os.length - i ∧ i ≤ os.length ∧ nearL (os.take i) ∧ σ 7 = .slice a1 os.length c1 ∧ σ 8 = .int .i64 (os.length : Int) ∧ σ 9 = .int .i64 (i : Int) ∧ St w0 (R * F) w) os.length ?_ ?_ -- L1
    · exact ⟨0, rfl, Nat.zero_le _, (fun o ho => by simp at ho), rfl, rfl, rfl, hs⟩
    rintro m σ w ⟨i, rfl, hi, hn, g7, g8, g9, hs⟩
    obtain ⟨σ, rfl⟩ := rebase g7
    obtain ⟨σ, rfl⟩ := rebase (σ := σ) g8
    obtain ⟨σ, rfl⟩ := rebase (σ := σ) g9
    clear g7 g8 g9
    refine WP_seq ?_
    -- R2
    refine WP_seqr [⟨0, 0, []⟩] (by kernel_rfl) ?_
    refine ns_cmp _ rfl rfl rfl rfl rfl ?_
    refine ns_done ?_
    refine WP_seq ?_ -- S2
    refine WP_if' rfl (fun hif1 => ?_) (fun hif1 => ?_)
    · refine WP_exit ?_
      have hi2 : i = os.length := by have := of_decide_eq_false hif1; omega
      subst hi2
      rw [List.take_length] at hn
      exact ⟨hn, hs⟩
    refine WP_skip ?_
    have hi2 : i < os.length := by have := of_decide_eq_true hif1; omega
    obtain ⟨x, hxi⟩ : ∃ x, os[i]? = some x := ⟨os[i]'hi2, List.getElem?_eq_getElem hi2⟩
    obtain ⟨g, o, rfl, hat⟩ := hrd (by omega)
    refine WP_seq_cut (fun σ w => nearL (os.take (i + 1)) ∧ σ 7 = .slice (some ⟨g, o, none⟩) os.length c1 ∧ σ 8 = .int .i64 (os.length : Int) ∧ σ 9 = .int .i64 (i : Int) ∧ St w0 (R * F) w) ?_ ?_ -- S3
    · refine WP_block ?_
      refine WP_seq ?_
      -- R3
      refine WP_seqr [⟨0, 0, []⟩, ⟨1, 1, []⟩, ⟨2, 2, []⟩, ⟨3, 2, []⟩] (by kernel_rfl) ?_
      refine ns_idx i sl_24 rfl rfl rfl rfl rfl hi2 ?_
      refine ns_ldA (opC x).toList ag_26 rfl rfl rfl rfl (by decide) (op_cells hat (hs.foc R) hxi) ?_
      refine ns_alloc zc_26 hs rfl rfl ?_
      intro b4 w hs
      refine ns_stA (opC x) ag_26 rfl (by decide) hs rfl rfl rfl rfl (opC_one x) (by simp) ?_
      refine fun w hs => ⟨trivial, ?_⟩
      refine ns_done ?_
      have hs : St w0 (pts b4 (.cells (opC x) 26 (0, 0)) * _) w := hs
      refine WP_seq ?_
      -- R4
      refine WP_seqr [⟨0, 0, []⟩, ⟨1, 1, []⟩, ⟨2, 0, []⟩, ⟨3, 1, []⟩, ⟨4, 2, []⟩, ⟨5, 0, []⟩, ⟨6, 0, []⟩] (by kernel_rfl) ?_
      refine ns_fld fo_26_2 rfl rfl rfl ?_
      refine ns_ldB pl_2 hs rfl rfl rfl (by rfl) ?_
      refine ns_fld fo_26_3 rfl rfl rfl ?_
      refine ns_ldB pl_2 hs rfl rfl rfl (by rfl) ?_
      refine ns_lit [.int .i64 x.key, .int .i64 x.to] (encK [x.key, x.to]) sl_22 zr_2 (by decide) (by decide) hs rfl rfl rfl rfl (by simp [Value.cells]) rfl ?_
      refine fun b17 w hs hx => ⟨trivial, ?_⟩
      refine ns_len sl_22 rfl rfl rfl ?_
      refine ns_move rfl rfl ?_
      refine ns_done ?_
      have hatk : At (pts b17 (.cells (encK [x.key, x.to]).toArray 2 (0, 0))) b17 0 (encK [x.key, x.to]) := pts_at b17 (encK [x.key, x.to]).toArray 2 (0, 0)
      refine WP_block ?_
      refine WP_loop (fun m σ w => ∃ j : Nat, m = 2 - j ∧ j ≤ 2 ∧ (∀ k ∈ ([x.key, x.to].take j), nearK k) ∧ σ 7 = .slice (some ⟨g, o, none⟩) os.length c1 ∧ σ 8 = .int .i64 (os.length : Int) ∧ σ 9 = .int .i64 (i : Int) ∧ σ 17 = .slice (some ⟨b17, 0, none⟩) 2 2 ∧ σ 18 = .int .i64 ((2 : Nat) : Int) ∧ σ 19 = .int .i64 (j : Int) ∧ St w0 (pts b17 (.cells (encK [x.key, x.to]).toArray 2 (0, 0)) * (R * F)) w) 2 ?_ ?_ -- L2
      · exact ⟨0, rfl, by omega, (fun k hk => by simp at hk), rfl, rfl, rfl, rfl, rfl, rfl, hs.out⟩
      rintro m σ w ⟨j, rfl, hj, hnk, g7, g8, g9, g17, g18, g19, hs⟩
      obtain ⟨σ, rfl⟩ := rebase g7
      obtain ⟨σ, rfl⟩ := rebase (σ := σ) g8
      obtain ⟨σ, rfl⟩ := rebase (σ := σ) g9
      obtain ⟨σ, rfl⟩ := rebase (σ := σ) g17
      obtain ⟨σ, rfl⟩ := rebase (σ := σ) g18
      obtain ⟨σ, rfl⟩ := rebase (σ := σ) g19
      clear g7 g8 g9 g17 g18 g19
      refine WP_seq ?_
      -- R5
      refine WP_seqr [⟨0, 0, []⟩] (by kernel_rfl) ?_
      refine ns_cmp _ rfl rfl rfl rfl rfl ?_
      refine ns_done ?_
      refine WP_seq ?_ -- S4
      refine WP_if' rfl (fun hif2 => ?_) (fun hif2 => ?_)
      · refine WP_exit ?_
        have hj2 : j = 2 := by have := of_decide_eq_false hif2; omega
        subst hj2
        refine ⟨fun q hq => ?_, rfl, rfl, rfl, hs.out⟩
        rw [take_snoc hxi] at hq
        rcases List.mem_append.1 hq with hq | hq
        · exact hn q hq
        · rw [List.mem_singleton.1 hq]
          exact ⟨hnk x.key (by simp), hnk x.to (by simp)⟩
      refine WP_skip ?_
      have hj2 : j < 2 := by have := of_decide_eq_true hif2; omega
      obtain ⟨k, hkj⟩ : ∃ k, [x.key, x.to][j]? = some k := ⟨[x.key, x.to][j]'(by simpa using hj2), List.getElem?_eq_getElem (by simpa using hj2)⟩
      refine WP_seq ?_ -- S5
      refine WP_block ?_
      refine WP_seq ?_
      -- R6
      refine WP_seqr [⟨0, 0, []⟩, ⟨1, 1, []⟩, ⟨2, 0, []⟩] (by kernel_rfl) ?_
      refine ns_idx j sl_22 rfl rfl rfl rfl rfl hj2 ?_
      refine ns_ld pl_2 rfl rfl rfl (key_cell hatk (hs.foc (pts b17 (.cells (encK [x.key, x.to]).toArray 2 (0, 0)))) hkj) ?_
      refine ns_asg rfl rfl ?_
      refine ns_done ?_
      refine WP_seq_cut (fun σ w => (∃ b : Bool, σ 28 = .bool b ∧ (b = false ↔ nearK k)) ∧ σ 7 = .slice (some ⟨g, o, none⟩) os.length c1 ∧ σ 8 = .int .i64 (os.length : Int) ∧ σ 9 = .int .i64 (i : Int) ∧ σ 17 = .slice (some ⟨b17, 0, none⟩) 2 2 ∧ σ 18 = .int .i64 ((2 : Nat) : Int) ∧ σ 19 = .int .i64 (j : Int) ∧ St w0 (pts b17 (.cells (encK [x.key, x.to]).toArray 2 (0, 0)) * (R * F)) w) ?_ ?_ -- R7.cut
      · by_cases hlo : k < -2305843009213693952
        · -- R7
          refine WP_seqr [⟨0, 0, []⟩, ⟨1, 0, []⟩, ⟨2, 0, []⟩, ⟨3, 0, []⟩, ⟨4, 0, []⟩, ⟨5, 0, []⟩] (by kernel_rfl) ?_
          refine ns_move rfl rfl ?_
          refine ns_cmp true rfl rfl rfl rfl (congrArg some (decide_eq_true hlo)) ?_
          refine ns_move rfl rfl ?_
          refine ns_no rfl rfl ?_
          refine ns_no rfl rfl ?_
          refine ns_pick rfl rfl rfl ?_
          refine ns_done ?_
          exact ⟨⟨_, rfl, (⟨fun h => (by cases h), fun h => by have := h.1; omega⟩ : true = false ↔ nearK k)⟩, rfl, rfl, rfl, rfl, rfl, rfl, hs⟩
        · -- R7
          refine WP_seqr [⟨0, 0, []⟩, ⟨1, 0, []⟩, ⟨2, 0, []⟩, ⟨3, 0, []⟩, ⟨4, 0, []⟩, ⟨5, 0, []⟩] (by kernel_rfl) ?_
          refine ns_move rfl rfl ?_
          refine ns_cmp false rfl rfl rfl rfl (congrArg some (decide_eq_false hlo)) ?_
          refine ns_move rfl rfl ?_
          refine ns_move rfl rfl ?_
          refine ns_cmp _ rfl rfl rfl rfl rfl ?_
          refine ns_pick rfl rfl rfl ?_
          refine ns_done ?_
          exact ⟨⟨_, rfl, (⟨fun h => ⟨by omega, by have := of_decide_eq_false h; omega⟩, fun h => decide_eq_false (by have := h.2; omega)⟩ : decide (k > 2305843009213693952) = false ↔ nearK k)⟩, rfl, rfl, rfl, rfl, rfl, rfl, hs⟩
      rintro σ w ⟨⟨bb, g28, hbb⟩, g7, g8, g9, g17, g18, g19, hs⟩
      obtain ⟨σ, rfl⟩ := rebase g28
      obtain ⟨σ, rfl⟩ := rebase (σ := σ) g7
      obtain ⟨σ, rfl⟩ := rebase (σ := σ) g8
      obtain ⟨σ, rfl⟩ := rebase (σ := σ) g9
      obtain ⟨σ, rfl⟩ := rebase (σ := σ) g17
      obtain ⟨σ, rfl⟩ := rebase (σ := σ) g18
      obtain ⟨σ, rfl⟩ := rebase (σ := σ) g19
      clear g28 g7 g8 g9 g17 g18 g19
      refine WP_if rfl (fun hif3 => ?_) (fun hif3 => ?_)
      · refine WP_seq ?_
        -- R8
        refine WP_seqr [⟨0, 0, []⟩] (by kernel_rfl) ?_
        refine ns_asg rfl rfl ?_
        refine ns_done ?_
        refine WP_ret ?_
        have hno : ¬ nearL os := fun h => by
          have hx := h x (List.mem_of_getElem? hxi)
          have hk : nearK k := by
            rcases List.mem_cons.1 (List.mem_of_getElem? hkj) with e | e
            · rw [e]; exact hx.1
            · rw [List.mem_singleton.1 e]; exact hx.2
          rw [hbb.2 hk] at hif3
          cases hif3
        exact ⟨_, res1 _, St.mk_ex false (St.mk_pu ⟨rfl, fun h => (by cases h), fun h => absurd h hno⟩ hs.out)⟩
      refine WP_skip ?_
      have hkn := hbb.1 hif3
      -- R9
      refine WP_seqr [⟨0, 0, []⟩, ⟨1, 0, []⟩] (by kernel_rfl) ?_
      refine ns_add rfl rfl rfl rfl (by omega) (by omega) ?_
      refine ns_move rfl rfl ?_
      refine ns_done ?_
      exact ⟨2 - (j + 1), by omega, j + 1, rfl, by omega, (fun q hq => by
        rw [take_snoc hkj] at hq
        rcases List.mem_append.1 hq with hq | hq
        · exact hnk q hq
        · rw [List.mem_singleton.1 hq]; exact hkn), rfl, rfl, rfl, rfl, rfl, rfl, hs⟩
      
    rintro σ w ⟨hn2, g7, g8, g9, hs⟩
    obtain ⟨σ, rfl⟩ := rebase g7
    obtain ⟨σ, rfl⟩ := rebase (σ := σ) g8
    obtain ⟨σ, rfl⟩ := rebase (σ := σ) g9
    clear g7 g8 g9
    -- R10
    refine WP_seqr [⟨0, 0, []⟩, ⟨1, 0, []⟩] (by kernel_rfl) ?_
    refine ns_add rfl rfl rfl rfl (by omega) (by omega) ?_
    refine ns_move rfl rfl ?_
    refine ns_done ?_
    exact ⟨os.length - (i + 1), by omega, i + 1, rfl, by omega, hn2, rfl, rfl, rfl, hs⟩
    
  rintro σ w ⟨hn, hs⟩
  refine WP_seq ?_
  -- R11
  refine WP_seqr [⟨0, 0, []⟩] (by kernel_rfl) ?_
  refine ns_asg rfl rfl ?_
  refine ns_done ?_
  refine WP_ret ?_
  exact ⟨_, res1 _, St.mk_ex true (St.mk_pu ⟨rfl, fun _ => hn, fun _ => rfl⟩ hs)⟩
set_option maxHeartbeats 1600000 in
theorem f34_ok (R : HProp) (v : Value) (os : List Sop) (b : Int) (hR : RdO R v os) (hll : os.length < 90000) (hn : nearL os) (hb : nearK b) : Tri Try.prog 34 #[v, .int .i64 b] R fun r => R * OArr r (os.map (mvO b)) := by
  obtain ⟨hxl, a1, c1, rfl, hc1, hrd⟩ := hR
  intro w0 F w hs
  refine calls_WP 31 #[.tmp 4] Try.func34 rfl Try.ntmps34 rfl (Nat.le_of_ble_eq_true rfl) ?_
  refine WP_seq ?_
  -- R0
  refine WP_seqr [⟨0, 0, []⟩] (by kernel_rfl) ?_
  refine ns_asg rfl rfl ?_
  refine ns_done ?_
  refine WP_seq ?_
  -- R1
  refine WP_seqr [⟨0, 2, []⟩, ⟨1, 0, []⟩] (by kernel_rfl) ?_
  refine ns_lit0 sl_24 hs rfl rfl ?_
  refine fun b8 w hs hx => ⟨trivial, ?_⟩
  refine ns_asg rfl rfl ?_
  refine ns_done ?_
  refine WP_seq_cut (fun σ w => ∃ (out : Value), σ 5 = out ∧ St w0 (R * (OArr out (os.map (mvO b)) * F)) w) ?_ ?_ -- S1
  · refine WP_seq ?_
    -- R2
    refine WP_seqr [⟨0, 0, []⟩, ⟨1, 0, []⟩, ⟨2, 0, []⟩] (by kernel_rfl) ?_
    refine ns_move rfl rfl ?_
    refine ns_len sl_24 rfl rfl rfl ?_
    refine ns_move rfl rfl ?_
    refine ns_done ?_
    refine WP_block ?_
    refine WP_loop (fun m σ w => ∃ (i : Nat) (out : Value), m = os.length - i ∧ i ≤ os.length ∧ σ 1 = .int .i64 b ∧ σ 5 = out ∧ σ 9 = .slice a1 os.length c1 ∧ σ 10 = .int .i64 (os.length : Int) ∧ σ 11 = .int .i64 (i : Int) ∧ St w0 (R * (OArr out ((os.take i).map (mvO b)) * F)) w) os.length ?_ ?_ -- L1
    · refine ⟨0, .slice (some ⟨b8, 0, none⟩) 0 0, rfl, Nat.zero_le _, rfl, rfl, rfl, rfl, rfl, ?_⟩
      show St w0 (R * (Arr 26 6 _ 0 [] * F)) w
      exact hs.out
    rintro m σ w ⟨i, out, rfl, hi, g1, g5, g9, g10, g11, hs⟩
    obtain ⟨σ, rfl⟩ := rebase g1
    obtain ⟨σ, rfl⟩ := rebase (σ := σ) g5
    obtain ⟨σ, rfl⟩ := rebase (σ := σ) g9
    obtain ⟨σ, rfl⟩ := rebase (σ := σ) g10
    obtain ⟨σ, rfl⟩ := rebase (σ := σ) g11
    clear g1 g5 g9 g10 g11
    refine WP_seq ?_
    -- R3
    refine WP_seqr [⟨0, 0, []⟩] (by kernel_rfl) ?_
    refine ns_cmp _ rfl rfl rfl rfl rfl ?_
    refine ns_done ?_
    refine WP_seq ?_ -- S2
    refine WP_if' rfl (fun hif1 => ?_) (fun hif1 => ?_)
    · refine WP_exit ?_
      have hi2 : i = os.length := by have := of_decide_eq_false hif1; omega
      subst hi2
      refine ⟨out, rfl, ?_⟩
      rw [List.take_length] at hs
      exact hs
    refine WP_skip ?_
    have hi2 : i < os.length := by have := of_decide_eq_true hif1; omega
    obtain ⟨x, hxi⟩ : ∃ x, os[i]? = some x := ⟨os[i]'hi2, List.getElem?_eq_getElem hi2⟩
    obtain ⟨g, o, rfl, hat⟩ := hrd (by omega)
    have hal : ((os.take i).map (mvO b)).length ≤ i := by rw [List.length_map, List.length_take]; omega
    have e2 : (os.take (i + 1)).map (mvO b) = (os.take i).map (mvO b) ++ [mvO b x] := by rw [take_snoc hxi, List.map_append]; rfl
    obtain ⟨⟨n1, n2⟩, n3, n4⟩ := hn x (List.mem_of_getElem? hxi)
    obtain ⟨m1, m2⟩ := id hb
    refine WP_seq ?_ -- S3
    refine WP_block ?_
    refine WP_seq ?_
    -- R4
    refine WP_seqr [⟨0, 0, []⟩, ⟨1, 1, []⟩, ⟨2, 2, []⟩, ⟨3, 2, []⟩] (by kernel_rfl) ?_
    refine ns_idx i sl_24 rfl rfl rfl rfl rfl hi2 ?_
    refine ns_ldA (opC x).toList ag_26 rfl rfl rfl rfl (by decide) (op_cells hat (hs.foc R) hxi) ?_
    refine ns_alloc zc_26 hs rfl rfl ?_
    intro b7 w hs
    refine ns_stA (opC x) ag_26 rfl (by decide) hs rfl rfl rfl rfl (opC_one x) (by simp) ?_
    refine fun w hs => ⟨trivial, ?_⟩
    refine ns_done ?_
    have hs : St w0 (pts b7 (.cells #[.int .i64 x.kind, .int .i64 x.tree, .int .i64 x.key, .int .i64 x.to, .int .i64 x.val, .int .i64 x.cnt] 26 (0, 0)) * _) w := hs
    refine WP_seq ?_
    -- R5
    refine WP_seqr [⟨0, 0, []⟩, ⟨1, 1, []⟩, ⟨2, 0, []⟩, ⟨3, 0, []⟩, ⟨4, 0, []⟩, ⟨5, 2, []⟩] (by kernel_rfl) ?_
    refine ns_fld fo_26_2 rfl rfl rfl ?_
    refine ns_ldB pl_2 hs rfl rfl rfl (by rfl) ?_
    refine ns_move rfl rfl ?_
    refine ns_add rfl rfl rfl rfl (by omega) (by omega) ?_
    refine ns_fld fo_26_2 rfl rfl rfl ?_
    refine ns_st (.int .i64 (x.key + b)) pl_2 hs rfl rfl rfl rfl rfl (by simp) ?_
    refine fun w hs => ⟨trivial, ?_⟩
    try simp only [Nat.zero_add] at hs
    try simp only [List.setIfInBounds_toArray] at hs
    try simp only [List.set_cons_succ] at hs
    try simp only [List.set_cons_zero] at hs
    refine ns_done ?_
    refine WP_seq ?_
    -- R6
    refine WP_seqr [⟨0, 0, []⟩, ⟨1, 1, []⟩, ⟨2, 0, []⟩, ⟨3, 0, []⟩, ⟨4, 0, []⟩, ⟨5, 2, []⟩] (by kernel_rfl) ?_
    refine ns_fld fo_26_3 rfl rfl rfl ?_
    refine ns_ldB pl_2 hs rfl rfl rfl (by rfl) ?_
    refine ns_move rfl rfl ?_
    refine ns_add rfl rfl rfl rfl (by omega) (by omega) ?_
    refine ns_fld fo_26_3 rfl rfl rfl ?_
    refine ns_st (.int .i64 (x.to + b)) pl_2 hs rfl rfl rfl rfl rfl (by simp) ?_
    refine fun w hs => ⟨trivial, ?_⟩
    try simp only [Nat.zero_add] at hs
    try simp only [List.setIfInBounds_toArray] at hs
    try simp only [List.set_cons_succ] at hs
    try simp only [List.set_cons_zero] at hs
    refine ns_done ?_
    have hs : St w0 (pts b7 (.cells (opC (mvO b x)) 26 (0, 0)) * _) w := hs
    -- R7
    refine WP_seqr [⟨0, 0, []⟩, ⟨1, 1, []⟩, ⟨2, 2, []⟩, ⟨3, 2, []⟩, ⟨4, 0, []⟩] (by kernel_rfl) ?_
    refine ns_move rfl rfl ?_
    refine ns_ldAB (opC (mvO b x)).toList ag_26 hs rfl rfl rfl (by rfl) (by rfl) (by decide) ?_
    refine ns_lit [opV (mvO b x)] (opC (mvO b x)).toList sl_24 zr_26 (by decide) (by decide) hs rfl rfl rfl rfl (by simp [Value.cells, opV, opC]) rfl ?_
    refine fun b27 w hs hx => ⟨trivial, ?_⟩
    refine ns_app (opC (mvO b x)).toList sl_24 zr_26 by_26 rfl (by decide) (hs.foc (OArr out ((os.take i).map (mvO b)))) rfl rfl rfl rfl rfl (St.cells (n := 6) hs (by rfl)) (opC_one _) (by simp only [maxLen]; omega) (by omega) ?_
    refine fun v28 w hs hv => ⟨trivial, ?_⟩
    have hs := hs.up (Ent.of_eq (onm (l := (os.take i).map (mvO b)) rfl rfl))
    rw [← e2] at hs
    refine ns_asg rfl rfl ?_
    refine ns_done ?_
    -- R8
    refine WP_seqr [⟨0, 0, []⟩, ⟨1, 0, []⟩] (by kernel_rfl) ?_
    refine ns_add rfl rfl rfl rfl (by omega) (by omega) ?_
    refine ns_move rfl rfl ?_
    refine ns_done ?_
    exact ⟨os.length - (i + 1), by omega, i + 1, v28, rfl, by omega, rfl, rfl, rfl, rfl, rfl, hs.out⟩
    
  rintro σ w ⟨out, g5, hs⟩
  obtain ⟨σ, rfl⟩ := rebase g5
  refine WP_seq ?_
  -- R9
  refine WP_seqr [⟨0, 0, []⟩, ⟨1, 0, []⟩] (by kernel_rfl) ?_
  refine ns_move rfl rfl ?_
  refine ns_asg rfl rfl ?_
  refine ns_done ?_
  refine WP_ret ?_
  refine ⟨_, res1 _, ?_⟩
  show St w0 ((R * OArr out (os.map (mvO b))) * F) w
  exact hs.out
end Go.Proofs.Ytnnembkganlbpaa
/- The walk of the law on moved keys: FnMoved. -/
namespace Go.Proofs.Ytnnembkganlbpaa
open Go Go.Sl Go.Net Go.Wk Go.Bt Go.RowKit

theorem run_some (S : List Sop) : ∀ (l : List It) (x : An), x ∈ runL l S → x.items.length ≤ l.length + S.length := by
  induction S with
  | nil => intro l x h; cases h
  | cons o S ih =>
    intro l x h
    rcases List.mem_cons.1 h with rfl | h
    · have h1 : ∀ q : Option It, (oneA q).items.length ≤ 1 := fun q => by cases q <;> simp [oneA]
      have hw := walk_le o l
      show (stepL l o).2.items.length ≤ l.length + (S.length + 1)
      unfold stepL
      repeat' split
      all_goals first
        | (refine Nat.le_trans (h1 _) ?_; omega)
        | exact Nat.zero_le _
        | (show (walkL o l).length ≤ _; omega)
    · have h2 := ih _ x h
      have h3 := step_len (l := l) o
      show _ ≤ l.length + (S.length + 1)
      omega
theorem iarr_map (g : Int → Int) (s : Value) (x : An) : IArr s (mapA g x).items = Arr 45 2 s x.items.length (encs (x.items.map (mapI g))) := by
  show Arr 45 2 s (x.items.map (mapI g)).length (encs (x.items.map (mapI g))) = _
  rw [List.length_map]
theorem three {p q r : Prop} : ¬p ∨ (p ∧ ¬q) ∨ (p ∧ q ∧ r) ∨ (p ∧ q ∧ ¬r) := by
  by_cases h1 : p
  · by_cases h2 : q
    · by_cases h3 : r
      · exact .inr (.inr (.inl ⟨h1, h2, h3⟩))
      · exact .inr (.inr (.inr ⟨h1, h2, h3⟩))
    · exact .inr (.inl ⟨h1, h2⟩)
  · exact .inl h1
set_option maxHeartbeats 6400000 in
theorem f13_ok (R : HProp) (v : Value) (os : List Sop) (d b : Int) (hR : RdO R v os) : Tri Try.prog 13 #[.int .i64 d, v, .int .i64 b] R fun r => pu (r = .bool true) * R := by
  obtain ⟨_, a1, c1, rfl, hc1, hrd⟩ := id hR
  intro w0 F w hs
  refine calls_WP 75 #[.tmp 6] Try.func13 rfl Try.ntmps13 rfl (Nat.le_of_ble_eq_true rfl) ?_
  refine WP_seq ?_
  -- R0
  refine WP_seqr [⟨0, 0, []⟩] (by kernel_rfl) ?_
  refine ns_asg rfl rfl ?_
  refine ns_done ?_
  refine WP_seq ?_ -- S1
  refine WP_seq ?_
  -- R1
  refine WP_seqr [⟨0, 0, []⟩, ⟨1, 0, []⟩, ⟨2, 0, []⟩] (by kernel_rfl) ?_
  refine ns_move rfl rfl ?_
  refine ns_len sl_24 rfl rfl rfl ?_
  refine ns_cmp _ rfl rfl rfl rfl rfl ?_
  refine ns_done ?_
  refine WP_if rfl (fun hif1 => ?_) (fun hif1 => ?_)
  · refine WP_seq ?_
    -- R2
    refine WP_seqr [⟨0, 0, []⟩] (by kernel_rfl) ?_
    refine ns_asg rfl rfl ?_
    refine ns_done ?_
    refine WP_ret ?_
    exact ⟨_, res1 _, St.mk_pu rfl hs.out⟩
  refine WP_skip ?_
  refine WP_seq ?_ -- S2
  refine WP_seq_cut (fun σ w => σ 0 = .int .i64 d ∧ σ 1 = .slice a1 os.length c1 ∧ σ 2 = .int .i64 b ∧ (∃ bb : Bool, σ 31 = .bool bb ∧ (bb = false → (2 ≤ d ∧ d ≤ 1000 ∧ os.length ≤ 2000) ∧ nearL os ∧ nearK b)) ∧ St w0 (R * F) w) ?_ ?_ -- R3.cut
  · rcases three (p := (2 ≤ d ∧ d ≤ 1000 ∧ os.length ≤ 2000)) (q := nearL os) (r := b < -2305843009213693952) with h1 | ⟨h1, hnl⟩ | ⟨h1, hnl, h3⟩ | ⟨h1, hnl, h3⟩
    · -- R3
      refine WP_seqr [⟨0, 0, []⟩, ⟨1, 0, []⟩, ⟨2, 2, []⟩, ⟨3, 0, []⟩, ⟨4, 0, []⟩, ⟨5, 0, []⟩, ⟨6, 0, []⟩, ⟨7, 0, []⟩, ⟨8, 0, []⟩, ⟨9, 0, []⟩, ⟨10, 0, []⟩, ⟨11, 0, []⟩, ⟨12, 0, []⟩, ⟨13, 0, []⟩, ⟨14, 0, []⟩, ⟨15, 0, []⟩, ⟨16, 0, []⟩] (by kernel_rfl) ?_
      refine ns_move rfl rfl ?_
      refine ns_move rfl rfl ?_
      refine ns_call (f20_ok d a1 os.length c1) ck_20 (hs.foc 1) rfl rfl rfl rfl ?_
      intro v17 w hs
      replace hs := hs.pure
      obtain ⟨hv, hs⟩ := hs
      rw [show decide (2 ≤ d ∧ d ≤ 1000 ∧ os.length ≤ 2000) = false from decide_eq_false h1] at hv
      subst hv
      refine ns_not rfl rfl rfl ?_
      refine ns_move rfl rfl ?_
      refine ns_no rfl rfl ?_
      refine ns_no rfl rfl ?_
      refine ns_no rfl rfl ?_
      refine ns_pick rfl rfl rfl ?_
      refine ns_move rfl rfl ?_
      refine ns_no rfl rfl ?_
      refine ns_no rfl rfl ?_
      refine ns_pick rfl rfl rfl ?_
      refine ns_move rfl rfl ?_
      refine ns_no rfl rfl ?_
      refine ns_no rfl rfl ?_
      refine ns_pick rfl rfl rfl ?_
      refine ns_done ?_
      exact ⟨rfl, rfl, rfl, ⟨true, rfl, fun h => by cases h⟩, hs⟩
    · -- R3
      refine WP_seqr [⟨0, 0, []⟩, ⟨1, 0, []⟩, ⟨2, 2, []⟩, ⟨3, 0, []⟩, ⟨4, 0, []⟩, ⟨5, 0, []⟩, ⟨6, 2, []⟩, ⟨7, 0, []⟩, ⟨8, 0, []⟩, ⟨9, 0, []⟩, ⟨10, 0, []⟩, ⟨11, 0, []⟩, ⟨12, 0, []⟩, ⟨13, 0, []⟩, ⟨14, 0, []⟩, ⟨15, 0, []⟩, ⟨16, 0, []⟩] (by kernel_rfl) ?_
      refine ns_move rfl rfl ?_
      refine ns_move rfl rfl ?_
      refine ns_call (f20_ok d a1 os.length c1) ck_20 (hs.foc 1) rfl rfl rfl rfl ?_
      intro v17 w hs
      replace hs := hs.pure
      obtain ⟨hv, hs⟩ := hs
      rw [show decide (2 ≤ d ∧ d ≤ 1000 ∧ os.length ≤ 2000) = true from decide_eq_true h1] at hv
      subst hv
      refine ns_not rfl rfl rfl ?_
      refine ns_move rfl rfl ?_
      refine ns_move rfl rfl ?_
      refine ns_call (f32_ok R _ os hR (by omega)) ck_32 (hs.foc R) rfl rfl rfl rfl ?_
      intro v21 w hs
      replace hs := hs.ex
      obtain ⟨bn, hs⟩ := hs
      replace hs := hs.pu
      obtain ⟨⟨rfl, hbn⟩, hs⟩ := hs
      obtain rfl : bn = false := by
        cases bn with
        | true => exact absurd (hbn.1 rfl) hnl
        | false => rfl
      refine ns_not rfl rfl rfl ?_
      refine ns_pick rfl rfl rfl ?_
      refine ns_move rfl rfl ?_
      refine ns_no rfl rfl ?_
      refine ns_no rfl rfl ?_
      refine ns_pick rfl rfl rfl ?_
      refine ns_move rfl rfl ?_
      refine ns_no rfl rfl ?_
      refine ns_no rfl rfl ?_
      refine ns_pick rfl rfl rfl ?_
      refine ns_done ?_
      exact ⟨rfl, rfl, rfl, ⟨true, rfl, fun h => by cases h⟩, hs⟩
    · -- R3
      refine WP_seqr [⟨0, 0, []⟩, ⟨1, 0, []⟩, ⟨2, 2, []⟩, ⟨3, 0, []⟩, ⟨4, 0, []⟩, ⟨5, 0, []⟩, ⟨6, 2, []⟩, ⟨7, 0, []⟩, ⟨8, 0, []⟩, ⟨9, 0, []⟩, ⟨10, 0, []⟩, ⟨11, 0, []⟩, ⟨12, 0, []⟩, ⟨13, 0, []⟩, ⟨14, 0, []⟩, ⟨15, 0, []⟩, ⟨16, 0, []⟩] (by kernel_rfl) ?_
      refine ns_move rfl rfl ?_
      refine ns_move rfl rfl ?_
      refine ns_call (f20_ok d a1 os.length c1) ck_20 (hs.foc 1) rfl rfl rfl rfl ?_
      intro v17 w hs
      replace hs := hs.pure
      obtain ⟨hv, hs⟩ := hs
      rw [show decide (2 ≤ d ∧ d ≤ 1000 ∧ os.length ≤ 2000) = true from decide_eq_true h1] at hv
      subst hv
      refine ns_not rfl rfl rfl ?_
      refine ns_move rfl rfl ?_
      refine ns_move rfl rfl ?_
      refine ns_call (f32_ok R _ os hR (by omega)) ck_32 (hs.foc R) rfl rfl rfl rfl ?_
      intro v21 w hs
      replace hs := hs.ex
      obtain ⟨bn, hs⟩ := hs
      replace hs := hs.pu
      obtain ⟨⟨rfl, hbn⟩, hs⟩ := hs
      obtain rfl : bn = true := hbn.2 hnl
      refine ns_not rfl rfl rfl ?_
      refine ns_pick rfl rfl rfl ?_
      refine ns_move rfl rfl ?_
      refine ns_move rfl rfl ?_
      refine ns_cmp true rfl rfl rfl rfl (congrArg some (decide_eq_true h3)) ?_
      refine ns_pick rfl rfl rfl ?_
      refine ns_move rfl rfl ?_
      refine ns_no rfl rfl ?_
      refine ns_no rfl rfl ?_
      refine ns_pick rfl rfl rfl ?_
      refine ns_done ?_
      exact ⟨rfl, rfl, rfl, ⟨true, rfl, fun h => by cases h⟩, hs⟩
    · -- R3
      refine WP_seqr [⟨0, 0, []⟩, ⟨1, 0, []⟩, ⟨2, 2, []⟩, ⟨3, 0, []⟩, ⟨4, 0, []⟩, ⟨5, 0, []⟩, ⟨6, 2, []⟩, ⟨7, 0, []⟩, ⟨8, 0, []⟩, ⟨9, 0, []⟩, ⟨10, 0, []⟩, ⟨11, 0, []⟩, ⟨12, 0, []⟩, ⟨13, 0, []⟩, ⟨14, 0, []⟩, ⟨15, 0, []⟩, ⟨16, 0, []⟩] (by kernel_rfl) ?_
      refine ns_move rfl rfl ?_
      refine ns_move rfl rfl ?_
      refine ns_call (f20_ok d a1 os.length c1) ck_20 (hs.foc 1) rfl rfl rfl rfl ?_
      intro v17 w hs
      replace hs := hs.pure
      obtain ⟨hv, hs⟩ := hs
      rw [show decide (2 ≤ d ∧ d ≤ 1000 ∧ os.length ≤ 2000) = true from decide_eq_true h1] at hv
      subst hv
      refine ns_not rfl rfl rfl ?_
      refine ns_move rfl rfl ?_
      refine ns_move rfl rfl ?_
      refine ns_call (f32_ok R _ os hR (by omega)) ck_32 (hs.foc R) rfl rfl rfl rfl ?_
      intro v21 w hs
      replace hs := hs.ex
      obtain ⟨bn, hs⟩ := hs
      replace hs := hs.pu
      obtain ⟨⟨rfl, hbn⟩, hs⟩ := hs
      obtain rfl : bn = true := hbn.2 hnl
      refine ns_not rfl rfl rfl ?_
      refine ns_pick rfl rfl rfl ?_
      refine ns_move rfl rfl ?_
      refine ns_move rfl rfl ?_
      refine ns_cmp false rfl rfl rfl rfl (congrArg some (decide_eq_false h3)) ?_
      refine ns_pick rfl rfl rfl ?_
      refine ns_move rfl rfl ?_
      refine ns_move rfl rfl ?_
      refine ns_cmp _ rfl rfl rfl rfl rfl ?_
      refine ns_pick rfl rfl rfl ?_
      refine ns_done ?_
      exact ⟨rfl, rfl, rfl, ⟨_, rfl, fun h => ⟨h1, hnl, by omega, by have := of_decide_eq_false h; omega⟩⟩, hs⟩
  rintro σ w ⟨g0, g1, g2, ⟨bb, g31, hbb⟩, hs⟩
  obtain ⟨σ, rfl⟩ := rebase g0
  obtain ⟨σ, rfl⟩ := rebase (σ := σ) g1
  obtain ⟨σ, rfl⟩ := rebase (σ := σ) g2
  obtain ⟨σ, rfl⟩ := rebase (σ := σ) g31
  clear g0 g1 g2 g31
  refine WP_if rfl (fun hif2 => ?_) (fun hif2 => ?_)
  · refine WP_seq ?_
    -- R4
    refine WP_seqr [⟨0, 0, []⟩] (by kernel_rfl) ?_
    refine ns_asg rfl rfl ?_
    refine ns_done ?_
    refine WP_ret ?_
    exact ⟨_, res1 _, St.mk_pu rfl hs.out⟩
  refine WP_skip ?_
  obtain ⟨hfit, hnl, hb1, hb2⟩ := hbb hif2
  have hnb : nearK b := ⟨hb1, hb2⟩
  obtain ⟨hd, hd2, hn⟩ := hfit
  obtain ⟨D, rfl⟩ : ∃ D : Nat, d = D := ⟨d.toNat, by omega⟩
  have hSl := onT_len os
  have hS0 : ∀ o ∈ onT os, o.tree = 0 ∧ o.kind ≠ 17 := fun o ho => onT_ok o ho
  have hSn := onT_near hnl
  refine WP_seq ?_
  -- R5
  refine WP_seqr [⟨0, 0, []⟩, ⟨1, 2, []⟩, ⟨2, 0, []⟩] (by kernel_rfl) ?_
  refine ns_move rfl rfl ?_
  refine ns_call (f28_ok R _ os hR (by omega)) ck_28 (hs.foc R) rfl rfl rfl rfl ?_
  intro v33 w hs
  simp only [mul_assoc'] at hs
  generalize onT os = S at hs hSl hS0 hSn
  obtain ⟨a7, c7, rfl, _, _⟩ := (hs.foc (OArr v33 S)).arr_form
  have hrs : RdO (OArr (.slice a7 S.length c7) S) (.slice a7 S.length c7) S := Arr.rd (hs.foc (OArr (.slice a7 S.length c7) S))
  refine ns_asg rfl rfl ?_
  refine ns_done ?_
  refine WP_seq ?_
  -- R6
  refine WP_seqr [⟨0, 0, []⟩, ⟨1, 0, []⟩, ⟨2, 2, []⟩, ⟨3, 0, []⟩] (by kernel_rfl) ?_
  refine ns_move rfl rfl ?_
  refine ns_move rfl rfl ?_
  refine ns_call (f29_ok (OArr (.slice a7 S.length c7) S) (.slice a7 S.length c7) S D hrs (by omega) (by omega) (by omega) hS0) ck_29 (hs.foc (OArr (.slice a7 S.length c7) S)) rfl rfl rfl rfl ?_
  intro v36 w hs
  simp only [mul_assoc'] at hs
  replace hs := (hs.foc (AArr v36 (runL [] S))).ex
  obtain ⟨ss, hs⟩ := hs
  replace hs := hs.pu
  obtain ⟨hss, hs⟩ := hs
  simp only [mul_assoc'] at hs
  have hal := run_length S []
  have hil := run_some S []
  have hkn := keys_in nearK S (l := []) (fun o ho => (hSn o ho).1) (fun x hx => by cases hx)
  obtain ⟨al, hal0⟩ : ∃ al, runL [] S = al := ⟨_, rfl⟩
  rw [hal0] at hs hss hal hil hkn
  obtain ⟨hxA, a6, c6, rfl, hcA, hrdA⟩ := Arr.rd (hs.foc (Arr 36 3 v36 al.length (encA al ss)))
  refine ns_asg rfl rfl ?_
  refine ns_done ?_
  refine WP_seq_cut (fun σ w => σ 0 = .int .i64 D ∧ σ 2 = .int .i64 b ∧ σ 7 = (.slice a7 S.length c7) ∧ σ 8 = (.slice a6 al.length c6) ∧ St w0 (itsS (mixA (fun k : Int => k + b) al al.length) ss * (Arr 36 3 (.slice a6 al.length c6) al.length (encA al ss) * (OArr (.slice a7 S.length c7) S * (R * F)))) w) ?_ ?_ -- S3
  · refine WP_seq ?_
    -- R7
    refine WP_seqr [⟨0, 0, []⟩, ⟨1, 0, []⟩, ⟨2, 0, []⟩] (by kernel_rfl) ?_
    refine ns_move rfl rfl ?_
    refine ns_len sl_28 rfl rfl rfl ?_
    refine ns_move rfl rfl ?_
    refine ns_done ?_
    refine WP_block ?_
    refine WP_loop (fun m σ w => ∃ i : Nat, m = al.length - i ∧ i ≤ al.length ∧ σ 0 = .int .i64 D ∧ σ 2 = .int .i64 b ∧ σ 7 = (.slice a7 S.length c7) ∧ σ 8 = (.slice a6 al.length c6) ∧ σ 37 = (.slice a6 al.length c6) ∧ σ 38 = .int .i64 (al.length : Int) ∧ σ 39 = .int .i64 (i : Int) ∧ St w0 (itsS (mixA (fun k : Int => k + b) al i) ss * (Arr 36 3 (.slice a6 al.length c6) al.length (encA al ss) * (OArr (.slice a7 S.length c7) S * (R * F)))) w) al.length ?_ ?_ -- L1
    · refine ⟨0, rfl, Nat.zero_le _, rfl, rfl, rfl, rfl, rfl, rfl, rfl, ?_⟩
      show St w0 (itsS al ss * (Arr 36 3 (.slice a6 al.length c6) al.length (encA al ss) * (OArr (.slice a7 S.length c7) S * (R * F)))) w
      exact hs.out
    rintro m σ w ⟨i, rfl, hi, g0, g2, gs, gg, gr, gn, gi, hs⟩
    obtain ⟨σ, rfl⟩ := rebase g0
    obtain ⟨σ, rfl⟩ := rebase (σ := σ) g2
    obtain ⟨σ, rfl⟩ := rebase (σ := σ) gs
    obtain ⟨σ, rfl⟩ := rebase (σ := σ) gg
    obtain ⟨σ, rfl⟩ := rebase (σ := σ) gr
    obtain ⟨σ, rfl⟩ := rebase (σ := σ) gn
    obtain ⟨σ, rfl⟩ := rebase (σ := σ) gi
    clear g0 g2 gs gg gr gn gi
    refine WP_seq ?_
    -- R8
    refine WP_seqr [⟨0, 0, []⟩] (by kernel_rfl) ?_
    refine ns_cmp _ rfl rfl rfl rfl rfl ?_
    refine ns_done ?_
    refine WP_seq ?_ -- S4
    refine WP_if' rfl (fun hif3 => ?_) (fun hif3 => ?_)
    · refine WP_exit ?_
      have hi2 : i = al.length := by have := of_decide_eq_false hif3; omega
      subst hi2
      exact ⟨rfl, rfl, rfl, rfl, hs⟩
    refine WP_skip ?_
    have hi2 : i < al.length := by have := of_decide_eq_true hif3; omega
    obtain ⟨x, hxi⟩ : ∃ x, al[i]? = some x := ⟨al[i]'hi2, List.getElem?_eq_getElem hi2⟩
    obtain ⟨s, hsi⟩ : ∃ s, ss[i]? = some s := ⟨ss[i]'(by omega), List.getElem?_eq_getElem (by omega)⟩
    obtain ⟨rest, hop, hcl⟩ := its_open (fun k : Int => k + b) hss hxi hsi
    rw [hop] at hs
    simp only [mul_assoc'] at hs
    have hxm := List.mem_of_getElem? hxi
    have hxl := hil x hxm
    have hxk := hkn x hxm
    simp only [List.length_nil] at hxl
    obtain ⟨g6, o6, rfl, hatA⟩ := hrdA (by omega)
    obtain ⟨a5, c5, rfl, _, _⟩ := (hs.foc (Arr 45 2 s x.items.length (encs x.items))).arr_form
    refine WP_seq_cut (fun σ w => σ 0 = .int .i64 D ∧ σ 2 = .int .i64 b ∧ σ 7 = (.slice a7 S.length c7) ∧ σ 8 = (.slice (some ⟨g6, o6, none⟩) al.length c6) ∧ σ 37 = (.slice (some ⟨g6, o6, none⟩) al.length c6) ∧ σ 38 = .int .i64 (al.length : Int) ∧ σ 39 = .int .i64 (i : Int) ∧ St w0 (itsS (mixA (fun k : Int => k + b) al (i + 1)) ss * (Arr 36 3 (.slice (some ⟨g6, o6, none⟩) al.length c6) al.length (encA al ss) * (OArr (.slice a7 S.length c7) S * (R * F)))) w) ?_ ?_ -- S5
    · refine WP_block ?_
      refine WP_seq ?_
      -- R9
      refine WP_seqr [⟨0, 0, []⟩, ⟨1, 1, []⟩, ⟨2, 2, []⟩, ⟨3, 2, []⟩] (by kernel_rfl) ?_
      refine ns_idx i sl_28 rfl rfl rfl rfl rfl hi2 ?_
      refine ns_ldA [.bool x.ok, .int .i64 x.n, .slice a5 x.items.length c5] ag_36 rfl rfl rfl rfl (by decide) (ans_cells hatA (hs.foc (Arr 36 3 (.slice (some ⟨g6, o6, none⟩) al.length c6) al.length (encA al ss))) hxi hsi) ?_
      refine ns_alloc zc_36 hs rfl rfl ?_
      intro b10 w hs
      refine ns_stA (#[.bool x.ok, .int .i64 x.n, .slice a5 x.items.length c5]) ag_36 rfl (by decide) hs rfl rfl rfl rfl (by intro u hu; simp at hu; rcases hu with rfl | rfl | rfl <;> rfl) (by simp) ?_
      refine fun w hs => ⟨trivial, ?_⟩
      refine ns_done ?_
      have hs : St w0 (pts b10 (.cells #[.bool x.ok, .int .i64 x.n, .slice a5 x.items.length c5] 36 (0, 0)) * _) w := hs
      refine WP_seq ?_
      -- R10
      refine WP_seqr [⟨0, 0, []⟩, ⟨1, 1, []⟩, ⟨2, 0, []⟩, ⟨3, 0, []⟩] (by kernel_rfl) ?_
      refine ns_fld fo_36_2 rfl rfl rfl ?_
      refine ns_ldB pl_34 hs rfl rfl rfl (by rfl) ?_
      refine ns_len sl_34 rfl rfl rfl ?_
      refine ns_move rfl rfl ?_
      refine ns_done ?_
      refine WP_block ?_
      refine WP_loop (fun m σ w => ∃ j : Nat, m = x.items.length - j ∧ j ≤ x.items.length ∧ σ 0 = .int .i64 D ∧ σ 2 = .int .i64 b ∧ σ 7 = (.slice a7 S.length c7) ∧ σ 8 = (.slice (some ⟨g6, o6, none⟩) al.length c6) ∧ σ 37 = (.slice (some ⟨g6, o6, none⟩) al.length c6) ∧ σ 38 = .int .i64 (al.length : Int) ∧ σ 39 = .int .i64 (i : Int) ∧ σ 10 = .pointer (some ⟨b10, 0, none⟩) ∧ σ 45 = .int .i64 (x.items.length : Int) ∧ σ 46 = .int .i64 (j : Int) ∧ St w0 (Arr 45 2 (.slice a5 x.items.length c5) x.items.length (encs (mixI (fun k : Int => k + b) x.items j)) * (rest * (pts b10 (.cells #[.bool x.ok, .int .i64 x.n, .slice a5 x.items.length c5] 36 (0, 0)) * (Arr 36 3 (.slice (some ⟨g6, o6, none⟩) al.length c6) al.length (encA al ss) * (OArr (.slice a7 S.length c7) S * (R * F)))))) w) x.items.length ?_ ?_ -- L2
      · refine ⟨0, rfl, Nat.zero_le _, rfl, rfl, rfl, rfl, rfl, rfl, rfl, rfl, rfl, rfl, ?_⟩
        show St w0 (Arr 45 2 (.slice a5 x.items.length c5) x.items.length (encs x.items) * (rest * (pts b10 (.cells #[.bool x.ok, .int .i64 x.n, .slice a5 x.items.length c5] 36 (0, 0)) * (Arr 36 3 (.slice (some ⟨g6, o6, none⟩) al.length c6) al.length (encA al ss) * (OArr (.slice a7 S.length c7) S * (R * F)))))) w
        exact hs.out
      rintro m σ w ⟨j, rfl, hj, g0, g2, gs, gg, gr, gn, gi, gb, gm, gj, hs⟩
      obtain ⟨σ, rfl⟩ := rebase g0
      obtain ⟨σ, rfl⟩ := rebase (σ := σ) g2
      obtain ⟨σ, rfl⟩ := rebase (σ := σ) gs
      obtain ⟨σ, rfl⟩ := rebase (σ := σ) gg
      obtain ⟨σ, rfl⟩ := rebase (σ := σ) gr
      obtain ⟨σ, rfl⟩ := rebase (σ := σ) gn
      obtain ⟨σ, rfl⟩ := rebase (σ := σ) gi
      obtain ⟨σ, rfl⟩ := rebase (σ := σ) gb
      obtain ⟨σ, rfl⟩ := rebase (σ := σ) gm
      obtain ⟨σ, rfl⟩ := rebase (σ := σ) gj
      clear g0 g2 gs gg gr gn gi gb gm gj
      refine WP_seq ?_
      -- R11
      refine WP_seqr [⟨0, 0, []⟩] (by kernel_rfl) ?_
      refine ns_cmp _ rfl rfl rfl rfl rfl ?_
      refine ns_done ?_
      refine WP_seq ?_ -- S6
      refine WP_if' rfl (fun hif4 => ?_) (fun hif4 => ?_)
      · refine WP_exit ?_
        have hj2 : j = x.items.length := by have := of_decide_eq_false hif4; omega
        subst hj2
        rw [mixI_end] at hs
        refine ⟨rfl, rfl, rfl, rfl, rfl, rfl, rfl, ?_⟩
        rw [hcl, iarr_map, mul_assoc']
        exact hs.out
      refine WP_skip ?_
      have hj2 : j < x.items.length := by have := of_decide_eq_true hif4; omega
      obtain ⟨y, hyj⟩ : ∃ y, x.items[j]? = some y := ⟨x.items[j]'hj2, List.getElem?_eq_getElem hj2⟩
      have hym : (mixI (fun k : Int => k + b) x.items j)[j]? = some y := mix_at (mapI (fun k : Int => k + b)) hyj
      obtain ⟨hy1, hy2⟩ := hxk y (List.mem_of_getElem? hyj)
      
      obtain ⟨_, hz, _⟩ | ⟨g5, cap5, cur5, hv5, hc5, hcm5, hsz5, htk5, hs⟩ := (hs.foc (Arr 45 2 (.slice a5 x.items.length c5) x.items.length (encs (mixI (fun k : Int => k + b) x.items j)))).arr
      · omega
      cases hv5
      have hcell := (it_cells (g := g5) (E := 45) (fr := (0, 0)) hs htk5 j hym).at 0 rfl
      refine WP_seq ?_ -- S7
      refine WP_block ?_
      refine WP_seq ?_
      -- R12
      refine WP_seqr [⟨0, 0, []⟩, ⟨1, 0, []⟩] (by kernel_rfl) ?_
      refine ns_move rfl rfl ?_
      refine ns_asg rfl rfl ?_
      refine ns_done ?_
      -- R13
      refine WP_seqr [⟨0, 0, []⟩, ⟨1, 1, []⟩, ⟨2, 0, []⟩, ⟨3, 0, []⟩, ⟨4, 0, []⟩, ⟨5, 1, []⟩, ⟨6, 0, []⟩, ⟨7, 0, []⟩, ⟨8, 0, []⟩, ⟨9, 0, []⟩, ⟨10, 2, []⟩] (by kernel_rfl) ?_
      refine ns_fld fo_36_2 rfl rfl rfl ?_
      refine ns_ldB pl_34 hs rfl rfl rfl (by rfl) ?_
      refine ns_move rfl rfl ?_
      refine ns_idx j sl_34 rfl rfl rfl rfl rfl hj2 ?_
      refine ns_fld fo_45_0 rfl rfl rfl ?_
      refine ns_ld pl_2 rfl rfl rfl hcell ?_
      refine ns_move rfl rfl ?_
      refine ns_add rfl rfl rfl rfl (by omega) (by omega) ?_
      refine ns_idx j sl_34 rfl rfl rfl rfl rfl hj2 ?_
      refine ns_fld fo_45_0 rfl rfl rfl ?_
      refine ns_st (.int .i64 (y.key + b)) pl_2 hs rfl rfl rfl rfl rfl (by rw [hsz5]; omega) ?_
      refine fun w hs => ⟨trivial, ?_⟩
      simp only [Nat.zero_add, Nat.add_zero] at hs
      have hs : St w0 (Arr 45 2 (.slice (some ⟨g5, 0, none⟩) x.items.length c5) x.items.length (encs (mixI (fun k : Int => k + b) x.items (j + 1))) * _) w := (hs.foc (pts g5 (.cells (cur5.setIfInBounds (j * 2) (.int .i64 (y.key + b))) 45 (0, 0)))).mk_arr' hc5 hcm5 (by rw [Array.size_setIfInBounds]; exact hsz5) ((cur_set (y.key + b) htk5 hym).trans (congrArg encs (mix_set (mapI (fun k : Int => k + b)) hyj)))
      refine ns_done ?_
      -- R14
      refine WP_seqr [⟨0, 0, []⟩, ⟨1, 0, []⟩] (by kernel_rfl) ?_
      refine ns_add rfl rfl rfl rfl (by omega) (by omega) ?_
      refine ns_move rfl rfl ?_
      refine ns_done ?_
      exact ⟨x.items.length - (j + 1), by omega, j + 1, rfl, by omega, rfl, rfl, rfl, rfl, rfl, rfl, rfl, rfl, rfl, rfl, hs.out⟩
      
    rintro σ w ⟨g0, g2, gs, gg, gr, gn, gi, hs⟩
    obtain ⟨σ, rfl⟩ := rebase g0
    obtain ⟨σ, rfl⟩ := rebase (σ := σ) g2
    obtain ⟨σ, rfl⟩ := rebase (σ := σ) gs
    obtain ⟨σ, rfl⟩ := rebase (σ := σ) gg
    obtain ⟨σ, rfl⟩ := rebase (σ := σ) gr
    obtain ⟨σ, rfl⟩ := rebase (σ := σ) gn
    obtain ⟨σ, rfl⟩ := rebase (σ := σ) gi
    clear g0 g2 gs gg gr gn gi
    -- R15
    refine WP_seqr [⟨0, 0, []⟩, ⟨1, 0, []⟩] (by kernel_rfl) ?_
    refine ns_add rfl rfl rfl rfl (by omega) (by omega) ?_
    refine ns_move rfl rfl ?_
    refine ns_done ?_
    exact ⟨al.length - (i + 1), by omega, i + 1, rfl, by omega, rfl, rfl, rfl, rfl, rfl, rfl, rfl, hs⟩
    
  rintro σ w ⟨g0, g2, gs, gg, hs⟩
  obtain ⟨σ, rfl⟩ := rebase g0
  obtain ⟨σ, rfl⟩ := rebase (σ := σ) g2
  obtain ⟨σ, rfl⟩ := rebase (σ := σ) gs
  obtain ⟨σ, rfl⟩ := rebase (σ := σ) gg
  clear g0 g2 gs gg
  rw [mixA_end] at hs
  obtain ⟨bl, hbl⟩ : ∃ bl, al.map (mapA (fun k : Int => k + b)) = bl := ⟨_, rfl⟩
  rw [hbl] at hs
  have e1 : encA bl ss = encA al ss := by rw [← hbl]; exact encA_map (fun k : Int => k + b) al ss
  have e2 : bl.length = al.length := by rw [← hbl, List.length_map]
  have hs : St w0 ((Arr 36 3 (.slice a6 al.length c6) bl.length (encA bl ss) * itsS bl ss) * (OArr (.slice a7 S.length c7) S * (R * F))) w := by
    rw [e1, e2, mul_assoc']; exact hs.out
  have hra := aarr_rd (hss.trans e2.symm) hs
  generalize hR6 : Arr 36 3 (.slice a6 al.length c6) bl.length (encA bl ss) * itsS bl ss = R6 at hs hra
  have hrun : runL [] (S.map (mvO b)) = bl := by rw [← hbl, ← hal0]; exact run_mv b S (l := []) List.Pairwise.nil
  have hbi := run_some (S.map (mvO b)) []
  rw [hrun, List.length_map] at hbi
  simp only [List.length_nil] at hbi
  refine WP_seq ?_
  -- R16
  refine WP_seqr [⟨0, 0, []⟩, ⟨1, 0, []⟩, ⟨2, 0, []⟩, ⟨3, 0, []⟩, ⟨4, 0, []⟩, ⟨5, 0, []⟩, ⟨6, 0, []⟩, ⟨7, 0, []⟩, ⟨8, 0, []⟩, ⟨9, 2, []⟩, ⟨10, 2, []⟩, ⟨11, 0, []⟩, ⟨12, 2, []⟩, ⟨13, 0, []⟩, ⟨14, 0, []⟩] (by kernel_rfl) ?_
  refine ns_move rfl rfl ?_
  refine ns_len sl_28 rfl rfl rfl ?_
  refine ns_move rfl rfl ?_
  refine ns_len sl_24 rfl rfl rfl ?_
  refine ns_cmp true rfl rfl rfl rfl (by simp [cmpI]; omega) ?_
  refine ns_move rfl rfl ?_
  refine ns_move rfl rfl ?_
  refine ns_move rfl rfl ?_
  refine ns_move rfl rfl ?_
  refine ns_call (f34_ok (OArr (.slice a7 S.length c7) S) (.slice a7 S.length c7) S b hrs (by omega) hSn hnb) ck_34 (hs.foc (OArr (.slice a7 S.length c7) S)) rfl rfl rfl rfl ?_
  intro v70 w hs
  simp only [mul_assoc'] at hs
  have hrm : RdO (OArr v70 (S.map (mvO b))) v70 (S.map (mvO b)) := Arr.rd (hs.foc (OArr v70 (S.map (mvO b))))
  refine ns_call (f29_ok (OArr v70 (S.map (mvO b))) v70 (S.map (mvO b)) D hrm (by omega) (by omega) (by rw [List.length_map]; omega) (fun o ho => by
    obtain ⟨q, hq, rfl⟩ := List.mem_map.1 ho
    exact hS0 q hq)) ck_29 (hs.foc (OArr v70 (S.map (mvO b)))) rfl rfl rfl rfl ?_
  intro v71 w hs
  simp only [mul_assoc'] at hs
  replace hs := (hs.foc (AArr v71 (runL [] (S.map (mvO b))))).ex
  rw [hrun] at hs
  obtain ⟨ss2, hs⟩ := hs
  replace hs := hs.pu
  obtain ⟨hss2, hs⟩ := hs
  have hra2 := aarr_rd hss2 hs
  generalize hR7 : Arr 36 3 v71 bl.length (encA bl ss2) * itsS bl ss2 = R7 at hs hra2
  refine ns_move rfl rfl ?_
  refine ns_call (f25_ok (R6 * R7) _ _ bl (RdA.up hra2) (RdA.up hra) (by omega) (fun x hx => by have := hbi x hx; omega)) ck_25 (hs.foc (R6 * R7)) rfl rfl rfl rfl ?_
  intro v73 w hs
  replace hs := hs.pu
  obtain ⟨rfl, hs⟩ := hs
  try simp only [mul_assoc'] at hs
  refine ns_pick rfl rfl rfl ?_
  refine ns_asg rfl rfl ?_
  refine ns_done ?_
  refine WP_ret ?_
  exact ⟨_, res1 _, St.mk_pu rfl hs.out⟩
end Go.Proofs.Ytnnembkganlbpaa
/- The walk of the law on many keys in a row, of which every so-many-th is taken out: FnEveryOther. -/
namespace Go.Proofs.Ytnnembkganlbpaa
open Go Go.Sl Go.Net Go.Wk Go.Bt Go.RowKit

theorem ns_min2 {P : Program} {ops : Array Oper} {Q : Slots → World → Prop} {σ : Slots} {w : World} {rest : Tre} {held : Nat → World → Prop} {i : Nat} {kp : List Nat} {d : Option Tmp} {ty : TypeId} {ps : String} {af : Array Edge} {gd : Option (Nat × Bool)}
    {x y : Operand} {ats : Array TypeId} {a b : Int} (c : Int) (ho : ops[i]? = some ⟨d, .call { callee := .builtin .min, args := #[x, y], argTypes := ats }, ty, ps, af, gd⟩) (hw : Region.wanted ⟨d, .call { callee := .builtin .min, args := #[x, y], argTypes := ats }, ty, ps, af, gd⟩ (yieldS ops σ) = true)
    (hx : evS σ x = .int .i64 a) (hy : evS σ y = .int .i64 b) (hc : (if b < a then b else a) = c) (h : NetS P ops Q rest held (updO σ d (.int .i64 c)) w) : NetS P ops Q (.cons ⟨i, 0, kp⟩ rest) held σ w := by
  subst hc
  exact ns_min ho hw hx hy h
theorem onm2 {l : List Sop} {a b : Sop} {v : Value} {n : Nat} {xs : List Value} (hn : n = l.length + 2) (hx : xs = encO l ++ encO [a, b]) : Arr 26 6 v n xs = OArr v (l ++ [a, b]) := by
  subst hn; subst hx
  show _ = Arr 26 6 v (l ++ [a, b]).length (encO (l ++ [a, b]))
  rw [List.length_append, encO_append]; rfl
theorem min_s (n m : Nat) : (if (n : Int) < (m : Int) then (n : Int) else (m : Int)) = ((min m n : Nat) : Int) := by
  split <;> omega
set_option maxHeartbeats 6400000 in
theorem f10_ok (R : HProp) (d many each : Int) : Tri Try.prog 10 #[.int .i64 d, .int .i64 many, .int .i64 each] R fun r => pu (r = .bool true) * R := by
  intro w0 F w hs
  refine calls_WP 148 #[.tmp 6] Try.func10 rfl Try.ntmps10 rfl (Nat.le_of_ble_eq_true rfl) ?_
  refine WP_seq ?_
  -- R0
  refine WP_seqr [⟨0, 0, []⟩] (by kernel_rfl) ?_
  refine ns_asg rfl rfl ?_
  refine ns_done ?_
  refine WP_seq ?_ -- S1
  refine WP_seq_cut (fun σ w => σ 0 = .int .i64 d ∧ σ 1 = .int .i64 many ∧ σ 2 = .int .i64 each ∧ (∃ bb : Bool, σ 31 = .bool bb ∧ (bb = false → (2 ≤ d ∧ d ≤ 1000) ∧ 0 ≤ many ∧ many ≤ 2000 ∧ 1 ≤ each)) ∧ St w0 (R * F) w) ?_ ?_ -- R1.cut
  · rcases three (p := (2 ≤ d ∧ d ≤ 1000)) (q := 0 ≤ many) (r := many > 2000) with h1 | ⟨h1, h2⟩ | ⟨h1, h2, h3⟩ | ⟨h1, h2, h3⟩
    · -- R1
      refine WP_seqr [⟨0, 0, []⟩, ⟨1, 2, []⟩, ⟨2, 0, []⟩, ⟨3, 0, []⟩, ⟨4, 0, []⟩, ⟨5, 0, []⟩, ⟨6, 0, []⟩, ⟨7, 0, []⟩, ⟨8, 0, []⟩, ⟨9, 0, []⟩, ⟨10, 0, []⟩, ⟨11, 0, []⟩, ⟨12, 0, []⟩, ⟨13, 0, []⟩, ⟨14, 0, []⟩] (by kernel_rfl) ?_
      refine ns_move rfl rfl ?_
      refine ns_call (f20_ok d none 0 0) ck_20 (hs.foc 1) rfl rfl rfl rfl ?_
      intro v18 w hs
      replace hs := hs.pure
      obtain ⟨hv18, hs⟩ := hs
      rw [show decide (2 ≤ d ∧ d ≤ 1000 ∧ 0 ≤ 2000) = false from decide_eq_false fun h => h1 ⟨h.1, h.2.1⟩] at hv18
      subst hv18
      refine ns_not rfl rfl rfl ?_
      refine ns_move rfl rfl ?_
      refine ns_no rfl rfl ?_
      refine ns_no rfl rfl ?_
      refine ns_pick rfl rfl rfl ?_
      refine ns_move rfl rfl ?_
      refine ns_no rfl rfl ?_
      refine ns_no rfl rfl ?_
      refine ns_pick rfl rfl rfl ?_
      refine ns_move rfl rfl ?_
      refine ns_no rfl rfl ?_
      refine ns_no rfl rfl ?_
      refine ns_pick rfl rfl rfl ?_
      refine ns_done ?_
      exact ⟨rfl, rfl, rfl, ⟨true, rfl, fun h => by cases h⟩, hs⟩
    · -- R1
      refine WP_seqr [⟨0, 0, []⟩, ⟨1, 2, []⟩, ⟨2, 0, []⟩, ⟨3, 0, []⟩, ⟨4, 0, []⟩, ⟨5, 0, []⟩, ⟨6, 0, []⟩, ⟨7, 0, []⟩, ⟨8, 0, []⟩, ⟨9, 0, []⟩, ⟨10, 0, []⟩, ⟨11, 0, []⟩, ⟨12, 0, []⟩, ⟨13, 0, []⟩, ⟨14, 0, []⟩] (by kernel_rfl) ?_
      refine ns_move rfl rfl ?_
      refine ns_call (f20_ok d none 0 0) ck_20 (hs.foc 1) rfl rfl rfl rfl ?_
      intro v18 w hs
      replace hs := hs.pure
      obtain ⟨hv18, hs⟩ := hs
      rw [show decide (2 ≤ d ∧ d ≤ 1000 ∧ 0 ≤ 2000) = true from decide_eq_true ⟨h1.1, h1.2, by omega⟩] at hv18
      subst hv18
      refine ns_not rfl rfl rfl ?_
      refine ns_move rfl rfl ?_
      refine ns_move rfl rfl ?_
      refine ns_cmp true rfl rfl rfl rfl (congrArg some (decide_eq_true (by omega))) ?_
      refine ns_pick rfl rfl rfl ?_
      refine ns_move rfl rfl ?_
      refine ns_no rfl rfl ?_
      refine ns_no rfl rfl ?_
      refine ns_pick rfl rfl rfl ?_
      refine ns_move rfl rfl ?_
      refine ns_no rfl rfl ?_
      refine ns_no rfl rfl ?_
      refine ns_pick rfl rfl rfl ?_
      refine ns_done ?_
      exact ⟨rfl, rfl, rfl, ⟨true, rfl, fun h => by cases h⟩, hs⟩
    · -- R1
      refine WP_seqr [⟨0, 0, []⟩, ⟨1, 2, []⟩, ⟨2, 0, []⟩, ⟨3, 0, []⟩, ⟨4, 0, []⟩, ⟨5, 0, []⟩, ⟨6, 0, []⟩, ⟨7, 0, []⟩, ⟨8, 0, []⟩, ⟨9, 0, []⟩, ⟨10, 0, []⟩, ⟨11, 0, []⟩, ⟨12, 0, []⟩, ⟨13, 0, []⟩, ⟨14, 0, []⟩] (by kernel_rfl) ?_
      refine ns_move rfl rfl ?_
      refine ns_call (f20_ok d none 0 0) ck_20 (hs.foc 1) rfl rfl rfl rfl ?_
      intro v18 w hs
      replace hs := hs.pure
      obtain ⟨hv18, hs⟩ := hs
      rw [show decide (2 ≤ d ∧ d ≤ 1000 ∧ 0 ≤ 2000) = true from decide_eq_true ⟨h1.1, h1.2, by omega⟩] at hv18
      subst hv18
      refine ns_not rfl rfl rfl ?_
      refine ns_move rfl rfl ?_
      refine ns_move rfl rfl ?_
      refine ns_cmp false rfl rfl rfl rfl (congrArg some (decide_eq_false (by omega))) ?_
      refine ns_pick rfl rfl rfl ?_
      refine ns_move rfl rfl ?_
      refine ns_move rfl rfl ?_
      refine ns_cmp true rfl rfl rfl rfl (congrArg some (decide_eq_true h3)) ?_
      refine ns_pick rfl rfl rfl ?_
      refine ns_move rfl rfl ?_
      refine ns_no rfl rfl ?_
      refine ns_no rfl rfl ?_
      refine ns_pick rfl rfl rfl ?_
      refine ns_done ?_
      exact ⟨rfl, rfl, rfl, ⟨true, rfl, fun h => by cases h⟩, hs⟩
    · -- R1
      refine WP_seqr [⟨0, 0, []⟩, ⟨1, 2, []⟩, ⟨2, 0, []⟩, ⟨3, 0, []⟩, ⟨4, 0, []⟩, ⟨5, 0, []⟩, ⟨6, 0, []⟩, ⟨7, 0, []⟩, ⟨8, 0, []⟩, ⟨9, 0, []⟩, ⟨10, 0, []⟩, ⟨11, 0, []⟩, ⟨12, 0, []⟩, ⟨13, 0, []⟩, ⟨14, 0, []⟩] (by kernel_rfl) ?_
      refine ns_move rfl rfl ?_
      refine ns_call (f20_ok d none 0 0) ck_20 (hs.foc 1) rfl rfl rfl rfl ?_
      intro v18 w hs
      replace hs := hs.pure
      obtain ⟨hv18, hs⟩ := hs
      rw [show decide (2 ≤ d ∧ d ≤ 1000 ∧ 0 ≤ 2000) = true from decide_eq_true ⟨h1.1, h1.2, by omega⟩] at hv18
      subst hv18
      refine ns_not rfl rfl rfl ?_
      refine ns_move rfl rfl ?_
      refine ns_move rfl rfl ?_
      refine ns_cmp false rfl rfl rfl rfl (congrArg some (decide_eq_false (by omega))) ?_
      refine ns_pick rfl rfl rfl ?_
      refine ns_move rfl rfl ?_
      refine ns_move rfl rfl ?_
      refine ns_cmp false rfl rfl rfl rfl (congrArg some (decide_eq_false h3)) ?_
      refine ns_pick rfl rfl rfl ?_
      refine ns_move rfl rfl ?_
      refine ns_move rfl rfl ?_
      refine ns_cmp _ rfl rfl rfl rfl rfl ?_
      refine ns_pick rfl rfl rfl ?_
      refine ns_done ?_
      exact ⟨rfl, rfl, rfl, ⟨_, rfl, fun h => ⟨h1, h2, by omega, by have := of_decide_eq_false h; omega⟩⟩, hs⟩
  rintro σ w ⟨g0, g1, g2, ⟨bb, g31, hbb⟩, hs⟩
  obtain ⟨σ, rfl⟩ := rebase g0
  obtain ⟨σ, rfl⟩ := rebase (σ := σ) g1
  obtain ⟨σ, rfl⟩ := rebase (σ := σ) g2
  obtain ⟨σ, rfl⟩ := rebase (σ := σ) g31
  clear g0 g1 g2 g31
  refine WP_if rfl (fun hif1 => ?_) (fun hif1 => ?_)
  · refine WP_seq ?_
    -- R2
    refine WP_seqr [⟨0, 0, []⟩] (by kernel_rfl) ?_
    refine ns_asg rfl rfl ?_
    refine ns_done ?_
    refine WP_ret ?_
    exact ⟨_, res1 _, St.mk_pu rfl hs.out⟩
  refine WP_skip ?_
  obtain ⟨⟨hd, hd2⟩, hm1, hm2, he⟩ := hbb hif1
  obtain ⟨D, rfl⟩ : ∃ D : Nat, d = D := ⟨d.toNat, by omega⟩
  obtain ⟨n, rfl⟩ : ∃ n : Nat, many = n := ⟨many.toNat, by omega⟩
  obtain ⟨m, rfl⟩ : ∃ m : Nat, each = m := ⟨each.toNat, by omega⟩
  refine WP_seq ?_
  -- R3
  refine WP_seqr [⟨0, 2, []⟩, ⟨1, 2, []⟩, ⟨2, 2, []⟩, ⟨3, 0, []⟩, ⟨4, 0, []⟩, ⟨5, 0, []⟩] (by kernel_rfl) ?_
  refine ns_lit0 sl_24 hs rfl rfl ?_
  refine fun b32 w hs hx => ⟨trivial, ?_⟩
  refine ns_lit0 sl_34 hs rfl rfl ?_
  refine fun b33 w hs hx => ⟨trivial, ?_⟩
  refine ns_lit0 sl_34 hs rfl rfl ?_
  refine fun b34 w hs hx => ⟨trivial, ?_⟩
  refine ns_asg rfl rfl ?_
  refine ns_asg rfl rfl ?_
  refine ns_asg rfl rfl ?_
  refine ns_done ?_
  refine WP_seq_cut (fun σ w => ∃ v7, σ 0 = .int .i64 D ∧ σ 1 = .int .i64 (n : Int) ∧ σ 2 = .int .i64 (m : Int) ∧ σ 7 = v7 ∧ σ 8 = (.slice (some ⟨b33, 0, none⟩) 0 0) ∧ σ 9 = (.slice (some ⟨b34, 0, none⟩) 0 0) ∧ St w0 (OArr v7 (rowN n) * (Arr 45 2 (.slice (some ⟨b33, 0, none⟩) 0 0) 0 [] * (Arr 45 2 (.slice (some ⟨b34, 0, none⟩) 0 0) 0 [] * (R * F)))) w) ?_ ?_ -- S2
  · refine WP_seq ?_
    -- R4
    refine WP_seqr [⟨0, 0, []⟩, ⟨1, 0, []⟩] (by kernel_rfl) ?_
    refine ns_move rfl rfl ?_
    refine ns_move rfl rfl ?_
    refine ns_done ?_
    refine WP_block ?_
    refine WP_loop (fun q σ w => ∃ (k : Nat) (v7 : Value), q = n - k ∧ k ≤ n ∧ σ 0 = .int .i64 D ∧ σ 1 = .int .i64 (n : Int) ∧ σ 2 = .int .i64 (m : Int) ∧ σ 7 = v7 ∧ σ 8 = (.slice (some ⟨b33, 0, none⟩) 0 0) ∧ σ 9 = (.slice (some ⟨b34, 0, none⟩) 0 0) ∧ σ 35 = .int .i64 (n : Int) ∧ σ 36 = .int .i64 (k : Int) ∧ St w0 (OArr v7 (rowN k) * (Arr 45 2 (.slice (some ⟨b33, 0, none⟩) 0 0) 0 [] * (Arr 45 2 (.slice (some ⟨b34, 0, none⟩) 0 0) 0 [] * (R * F)))) w) n ?_ ?_ -- L1
    · refine ⟨0, .slice (some ⟨b32, 0, none⟩) 0 0, rfl, Nat.zero_le _, rfl, rfl, rfl, rfl, rfl, rfl, rfl, rfl, ?_⟩
      show St w0 (Arr 26 6 (.slice (some ⟨b32, 0, none⟩) 0 0) 0 [] * (Arr 45 2 (.slice (some ⟨b33, 0, none⟩) 0 0) 0 [] * (Arr 45 2 (.slice (some ⟨b34, 0, none⟩) 0 0) 0 [] * (R * F)))) w
      exact hs.out
    rintro q σ w ⟨k, v7, rfl, hk, g0, g1, g2, g7, g8, g9, g35, g36, hs⟩
    obtain ⟨σ, rfl⟩ := rebase g0
    obtain ⟨σ, rfl⟩ := rebase (σ := σ) g1
    obtain ⟨σ, rfl⟩ := rebase (σ := σ) g2
    obtain ⟨σ, rfl⟩ := rebase (σ := σ) g7
    obtain ⟨σ, rfl⟩ := rebase (σ := σ) g8
    obtain ⟨σ, rfl⟩ := rebase (σ := σ) g9
    obtain ⟨σ, rfl⟩ := rebase (σ := σ) g35
    obtain ⟨σ, rfl⟩ := rebase (σ := σ) g36
    clear g0 g1 g2 g7 g8 g9 g35 g36
    refine WP_seq ?_
    -- R5
    refine WP_seqr [⟨0, 0, []⟩] (by kernel_rfl) ?_
    refine ns_cmp _ rfl rfl rfl rfl rfl ?_
    refine ns_done ?_
    refine WP_seq ?_ -- S3
    refine WP_if' rfl (fun hif2 => ?_) (fun hif2 => ?_)
    · refine WP_exit ?_
      obtain rfl : k = n := by have := of_decide_eq_false hif2; omega
      exact ⟨v7, rfl, rfl, rfl, rfl, rfl, rfl, hs⟩
    refine WP_skip ?_
    have hk2 : k < n := by have := of_decide_eq_true hif2; omega
    have hrl := rowN_len k
    refine WP_seq ?_ -- S4
    refine WP_block ?_
    refine WP_seq ?_
    -- R6
    refine WP_seqr [⟨0, 0, []⟩, ⟨1, 0, []⟩] (by kernel_rfl) ?_
    refine ns_move rfl rfl ?_
    refine ns_asg rfl rfl ?_
    refine ns_done ?_
    -- R7
    refine WP_seqr [⟨0, 0, []⟩, ⟨1, 0, []⟩, ⟨2, 0, []⟩, ⟨3, 0, []⟩, ⟨4, 2, []⟩, ⟨5, 2, []⟩, ⟨6, 0, []⟩] (by kernel_rfl) ?_
    refine ns_move rfl rfl ?_
    refine ns_move rfl rfl ?_
    refine ns_move rfl rfl ?_
    refine ns_build [(0, .int .i64 0), (2, .int .i64 (k : Int)), (4, .int .i64 (k : Int))] (opC (putN k)) pp_26 zc_26 rfl rfl rfl rfl ?_
    refine ns_lit [opV (putN k)] (opC (putN k)).toList sl_24 zr_26 (by decide) (by decide) hs rfl rfl rfl rfl (by simp [Value.cells, opV, opC]) rfl ?_
    refine fun b43 w hs hx => ⟨trivial, ?_⟩
    refine ns_app (opC (putN k)).toList sl_24 zr_26 by_26 rfl (by decide) (hs.foc (OArr v7 (rowN k))) rfl rfl rfl rfl rfl (St.cells (n := 6) hs (by rfl)) (opC_one _) (by simp only [maxLen]; omega) (by (try simp only [List.length_append, List.length_cons, List.length_nil]); omega) ?_
    refine fun v44 w hs hv => ⟨trivial, ?_⟩
    have hs := hs.up (Ent.of_eq (onm (l := rowN k) rfl rfl))
    rw [← rowN_snoc k] at hs
    refine ns_asg rfl rfl ?_
    refine ns_done ?_
    -- R8
    refine WP_seqr [⟨0, 0, []⟩, ⟨1, 0, []⟩] (by kernel_rfl) ?_
    refine ns_add rfl rfl rfl rfl (by omega) (by omega) ?_
    refine ns_move rfl rfl ?_
    refine ns_done ?_
    exact ⟨n - (k + 1), by omega, k + 1, v44, rfl, by omega, rfl, rfl, rfl, rfl, rfl, rfl, rfl, rfl, hs.out⟩
    
  rintro σ w ⟨v7, g0, g1, g2, g7, g8, g9, hs⟩
  obtain ⟨σ, rfl⟩ := rebase g0
  obtain ⟨σ, rfl⟩ := rebase (σ := σ) g1
  obtain ⟨σ, rfl⟩ := rebase (σ := σ) g2
  obtain ⟨σ, rfl⟩ := rebase (σ := σ) g7
  obtain ⟨σ, rfl⟩ := rebase (σ := σ) g8
  obtain ⟨σ, rfl⟩ := rebase (σ := σ) g9
  clear g0 g1 g2 g7 g8 g9
  refine WP_seq_cut (fun σ w => ∃ v7 v8 v9, σ 0 = .int .i64 D ∧ σ 1 = .int .i64 (n : Int) ∧ σ 2 = .int .i64 (m : Int) ∧ σ 7 = v7 ∧ σ 8 = v8 ∧ σ 9 = v9 ∧ St w0 (OArr v7 (rowN n ++ delsN m n) * (IArr v8 (dueL m n) * (IArr v9 (whl n) * (R * F)))) w) ?_ ?_ -- S5
  · refine WP_seq ?_
    -- R9
    refine WP_seqr [⟨0, 0, []⟩, ⟨1, 0, []⟩] (by kernel_rfl) ?_
    refine ns_move rfl rfl ?_
    refine ns_move rfl rfl ?_
    refine ns_done ?_
    refine WP_block ?_
    refine WP_loop (fun q σ w => ∃ (k : Nat) (v7 v8 v9 : Value), q = n - k ∧ k ≤ n ∧ σ 0 = .int .i64 D ∧ σ 1 = .int .i64 (n : Int) ∧ σ 2 = .int .i64 (m : Int) ∧ σ 7 = v7 ∧ σ 8 = v8 ∧ σ 9 = v9 ∧ σ 46 = .int .i64 (n : Int) ∧ σ 47 = .int .i64 (k : Int) ∧ St w0 (OArr v7 (rowN n ++ delsN m k) * (IArr v8 (dueL m k) * (IArr v9 (whl k) * (R * F)))) w) n ?_ ?_ -- L2
    · refine ⟨0, v7, (.slice (some ⟨b33, 0, none⟩) 0 0), (.slice (some ⟨b34, 0, none⟩) 0 0), rfl, Nat.zero_le _, rfl, rfl, rfl, rfl, rfl, rfl, rfl, rfl, ?_⟩
      show St w0 (OArr v7 (rowN n ++ []) * (Arr 45 2 (.slice (some ⟨b33, 0, none⟩) 0 0) 0 [] * (Arr 45 2 (.slice (some ⟨b34, 0, none⟩) 0 0) 0 [] * (R * F)))) w
      rw [List.append_nil]
      exact hs.out
    rintro q σ w ⟨k, v7, v8, v9, rfl, hk, g0, g1, g2, g7, g8, g9, g46, g47, hs⟩
    obtain ⟨σ, rfl⟩ := rebase g0
    obtain ⟨σ, rfl⟩ := rebase (σ := σ) g1
    obtain ⟨σ, rfl⟩ := rebase (σ := σ) g2
    obtain ⟨σ, rfl⟩ := rebase (σ := σ) g7
    obtain ⟨σ, rfl⟩ := rebase (σ := σ) g8
    obtain ⟨σ, rfl⟩ := rebase (σ := σ) g9
    obtain ⟨σ, rfl⟩ := rebase (σ := σ) g46
    obtain ⟨σ, rfl⟩ := rebase (σ := σ) g47
    clear g0 g1 g2 g7 g8 g9 g46 g47
    refine WP_seq ?_
    -- R10
    refine WP_seqr [⟨0, 0, []⟩] (by kernel_rfl) ?_
    refine ns_cmp _ rfl rfl rfl rfl rfl ?_
    refine ns_done ?_
    refine WP_seq ?_ -- S6
    refine WP_if' rfl (fun hif3 => ?_) (fun hif3 => ?_)
    · refine WP_exit ?_
      obtain rfl : k = n := by have := of_decide_eq_false hif3; omega
      exact ⟨v7, v8, v9, rfl, rfl, rfl, rfl, rfl, rfl, hs⟩
    refine WP_skip ?_
    have hk2 : k < n := by have := of_decide_eq_true hif3; omega
    have hrl := rowN_len n
    have hdl := delsN_len m k
    have hul := dueL_len m k
    have hwl := whl_len k
    refine WP_seq_cut (fun σ w => ∃ v7 v8 v9, σ 0 = .int .i64 D ∧ σ 1 = .int .i64 (n : Int) ∧ σ 2 = .int .i64 (m : Int) ∧ σ 7 = v7 ∧ σ 8 = v8 ∧ σ 9 = v9 ∧ σ 46 = .int .i64 (n : Int) ∧ σ 47 = .int .i64 (k : Int) ∧ St w0 (OArr v7 (rowN n ++ delsN m (k + 1)) * (IArr v8 (dueL m (k + 1)) * (IArr v9 (whl (k + 1)) * (R * F)))) w) ?_ ?_ -- S7
    · refine WP_block ?_
      refine WP_seq ?_
      -- R11
      refine WP_seqr [⟨0, 0, []⟩, ⟨1, 0, []⟩] (by kernel_rfl) ?_
      refine ns_move rfl rfl ?_
      refine ns_asg rfl rfl ?_
      refine ns_done ?_
      refine WP_seq ?_
      -- R12
      refine WP_seqr [⟨0, 0, []⟩, ⟨1, 0, []⟩, ⟨2, 0, []⟩, ⟨3, 2, []⟩, ⟨4, 2, []⟩] (by kernel_rfl) ?_
      refine ns_move rfl rfl ?_
      refine ns_move rfl rfl ?_
      refine ns_build [(0, .int .i64 (k : Int)), (1, .int .i64 (k : Int))] (#[.int .i64 (k : Int), .int .i64 (k : Int)]) pp_45 zc_45 rfl rfl rfl rfl ?_
      refine ns_alloc zc_45 hs rfl rfl ?_
      intro b12 w hs
      refine ns_stA (#[.int .i64 (k : Int), .int .i64 (k : Int)]) ag_45 rfl (by decide) hs rfl rfl rfl rfl (by intro u hu; simp at hu; subst hu; rfl) (by simp) ?_
      refine fun w hs => ⟨trivial, ?_⟩
      refine ns_done ?_
      have hs : St w0 (pts b12 (.cells #[.int .i64 (k : Int), .int .i64 (k : Int)] 45 (0, 0)) * _) w := hs
      refine WP_seq ?_
      -- R13
      refine WP_seqr [⟨0, 0, []⟩, ⟨1, 1, []⟩, ⟨2, 2, []⟩, ⟨3, 2, []⟩, ⟨4, 0, []⟩] (by kernel_rfl) ?_
      refine ns_move rfl rfl ?_
      refine ns_ldAB [.int .i64 (k : Int), .int .i64 (k : Int)] ag_45 hs rfl rfl rfl (by rfl) (by rfl) (by decide) ?_
      refine ns_lit [itV (itn k)] [.int .i64 (k : Int), .int .i64 (k : Int)] sl_34 zr_45 (by decide) (by decide) hs rfl rfl rfl rfl (by simp [Value.cells, itV]) rfl ?_
      refine fun b55 w hs hx => ⟨trivial, ?_⟩
      refine ns_app [.int .i64 (k : Int), .int .i64 (k : Int)] sl_34 zr_45 by_45 rfl (by decide) (hs.foc (IArr v9 (whl k))) rfl rfl rfl rfl rfl (St.cells (n := 2) hs (by rfl)) (by intro u hu; simp at hu; subst hu; rfl) (by simp only [maxLen]; omega) (by omega) ?_
      refine fun v56 w hs hv => ⟨trivial, ?_⟩
      have hs := hs.up (Ent.of_eq (IArr_eq (l := whl k ++ [itn k]) (by simp) (by rw [encs_append]; rfl)))
      rw [← whl_snoc k] at hs
      refine ns_asg rfl rfl ?_
      refine ns_done ?_
      refine WP_seq ?_
      -- R14
      refine WP_seqr [⟨0, 0, []⟩, ⟨1, 0, []⟩, ⟨2, 0, []⟩, ⟨3, 0, []⟩] (by kernel_rfl) ?_
      refine ns_move rfl rfl ?_
      refine ns_move rfl rfl ?_
      refine ns_rem rfl rfl rfl rfl (by omega) ?_
      refine ns_cmp _ rfl rfl rfl rfl rfl ?_
      refine ns_done ?_
      refine WP_if rfl (fun hif4 => ?_) (fun hif4 => ?_)
      · have hz : k % m = 0 := by
          have h : ((k : Int).tmod (m : Int)) = 0 := beq_iff_eq.1 hif4
          rw [natTmod] at h
          omega
        -- R15
        refine WP_seqr [⟨0, 0, []⟩, ⟨1, 0, []⟩, ⟨2, 1, []⟩, ⟨3, 0, []⟩, ⟨4, 2, []⟩, ⟨5, 2, []⟩, ⟨6, 0, []⟩] (by kernel_rfl) ?_
        refine ns_move rfl rfl ?_
        refine ns_fld fo_45_0 rfl rfl rfl ?_
        refine ns_ldB pl_2 hs rfl rfl rfl (by rfl) ?_
        refine ns_build [(0, .int .i64 3), (2, .int .i64 (k : Int))] (opC (delN k)) pp_26 zc_26 rfl rfl rfl rfl ?_
        refine ns_lit [opV (delN k)] (opC (delN k)).toList sl_24 zr_26 (by decide) (by decide) hs rfl rfl rfl rfl (by simp [Value.cells, opV, opC]) rfl ?_
        refine fun b65 w hs hx => ⟨trivial, ?_⟩
        refine ns_app (opC (delN k)).toList sl_24 zr_26 by_26 rfl (by decide) (hs.foc (OArr v7 (rowN n ++ delsN m k))) rfl rfl rfl rfl rfl (St.cells (n := 6) hs (by rfl)) (opC_one _) (by simp only [maxLen, List.length_append]; omega) (by (try simp only [List.length_append]); omega) ?_
        refine fun v66 w hs hv => ⟨trivial, ?_⟩
        have hs := hs.up (Ent.of_eq (onm (l := rowN n ++ delsN m k) rfl rfl))
        rw [List.append_assoc, ← delsN_out hz, ← dueL_out hz] at hs
        refine ns_asg rfl rfl ?_
        refine ns_done ?_
        exact ⟨v66, v8, v56, rfl, rfl, rfl, rfl, rfl, rfl, rfl, rfl, hs.out⟩
      have hz : k % m ≠ 0 := by
        intro e
        have h : ((k : Int).tmod (m : Int)) = 0 := by rw [natTmod, e]; rfl
        have h2 : (((k : Int).tmod (m : Int)) == 0) = false := hif4
        rw [h] at h2
        cases h2
      -- R16
      refine WP_seqr [⟨0, 0, []⟩, ⟨1, 1, []⟩, ⟨2, 2, []⟩, ⟨3, 2, []⟩, ⟨4, 0, []⟩] (by kernel_rfl) ?_
      refine ns_move rfl rfl ?_
      refine ns_ldAB [.int .i64 (k : Int), .int .i64 (k : Int)] ag_45 hs rfl rfl rfl (by rfl) (by rfl) (by decide) ?_
      refine ns_lit [itV (itn k)] [.int .i64 (k : Int), .int .i64 (k : Int)] sl_34 zr_45 (by decide) (by decide) hs rfl rfl rfl rfl (by simp [Value.cells, itV]) rfl ?_
      refine fun b69 w hs hx => ⟨trivial, ?_⟩
      refine ns_app [.int .i64 (k : Int), .int .i64 (k : Int)] sl_34 zr_45 by_45 rfl (by decide) (hs.foc (IArr v8 (dueL m k))) rfl rfl rfl rfl rfl (St.cells (n := 2) hs (by rfl)) (by intro u hu; simp at hu; subst hu; rfl) (by simp only [maxLen]; omega) (by omega) ?_
      refine fun v70 w hs hv => ⟨trivial, ?_⟩
      have hs := hs.up (Ent.of_eq (IArr_eq (l := dueL m k ++ [itn k]) (by simp) (by rw [encs_append]; rfl)))
      rw [← dueL_keep hz, ← delsN_keep hz] at hs
      refine ns_asg rfl rfl ?_
      refine ns_done ?_
      exact ⟨v7, v70, v56, rfl, rfl, rfl, rfl, rfl, rfl, rfl, rfl, hs.out⟩
    rintro σ w ⟨v7, v8, v9, g0, g1, g2, g7, g8, g9, g46, g47, hs⟩
    obtain ⟨σ, rfl⟩ := rebase g0
    obtain ⟨σ, rfl⟩ := rebase (σ := σ) g1
    obtain ⟨σ, rfl⟩ := rebase (σ := σ) g2
    obtain ⟨σ, rfl⟩ := rebase (σ := σ) g7
    obtain ⟨σ, rfl⟩ := rebase (σ := σ) g8
    obtain ⟨σ, rfl⟩ := rebase (σ := σ) g9
    obtain ⟨σ, rfl⟩ := rebase (σ := σ) g46
    obtain ⟨σ, rfl⟩ := rebase (σ := σ) g47
    clear g0 g1 g2 g7 g8 g9 g46 g47
    -- R17
    refine WP_seqr [⟨0, 0, []⟩, ⟨1, 0, []⟩] (by kernel_rfl) ?_
    refine ns_add rfl rfl rfl rfl (by omega) (by omega) ?_
    refine ns_move rfl rfl ?_
    refine ns_done ?_
    exact ⟨n - (k + 1), by omega, k + 1, v7, v8, v9, rfl, by omega, rfl, rfl, rfl, rfl, rfl, rfl, rfl, rfl, hs⟩
    
  rintro σ w ⟨v7, v8, v9, g0, g1, g2, g7, g8, g9, hs⟩
  obtain ⟨σ, rfl⟩ := rebase g0
  obtain ⟨σ, rfl⟩ := rebase (σ := σ) g1
  obtain ⟨σ, rfl⟩ := rebase (σ := σ) g2
  obtain ⟨σ, rfl⟩ := rebase (σ := σ) g7
  obtain ⟨σ, rfl⟩ := rebase (σ := σ) g8
  obtain ⟨σ, rfl⟩ := rebase (σ := σ) g9
  clear g0 g1 g2 g7 g8 g9
  have hrl := rowN_len n
  have hdl := delsN_len m n
  have hul := dueL_len m n
  have hwl := whl_len n
  obtain ⟨s, hsm⟩ : ∃ s, s = min m n := ⟨_, rfl⟩
  refine WP_seq ?_
  -- R18
  refine WP_seqr [⟨0, 0, []⟩, ⟨1, 2, []⟩, ⟨2, 2, []⟩, ⟨3, 2, []⟩, ⟨4, 0, []⟩] (by kernel_rfl) ?_
  refine ns_move rfl rfl ?_
  refine ns_call (f21_ok 9 0 0) ck_21 (hs.foc 1) rfl rfl rfl rfl ?_
  intro v73 w hs
  replace hs := hs.pure
  obtain ⟨rfl, hs⟩ := hs
  refine ns_lit [opV (allL 9 0 0)] (opC (allL 9 0 0)).toList sl_24 zr_26 (by decide) (by decide) hs rfl rfl rfl rfl (by simp [Value.cells, opV, opC]) rfl ?_
  refine fun b74 w hs hx => ⟨trivial, ?_⟩
  refine ns_app (opC (allL 9 0 0)).toList sl_24 zr_26 by_26 rfl (by decide) (hs.foc (OArr v7 (rowN n ++ delsN m n))) rfl rfl rfl rfl rfl (St.cells (n := 6) hs (by rfl)) (opC_one _) (by simp only [maxLen, List.length_append]; omega) (by (try simp only [List.length_append]); omega) ?_
  refine fun v75 w hs hv => ⟨trivial, ?_⟩
  have hs := hs.up (Ent.of_eq (onm (l := rowN n ++ delsN m n) rfl rfl))
  refine ns_asg rfl rfl ?_
  refine ns_done ?_
  refine WP_seq_cut (fun σ w => ∃ (t : Nat) (v7 : Value), t ≤ n ∧ (∀ i, i < t → i * s < n) ∧ n ≤ t * s ∧ σ 0 = .int .i64 D ∧ σ 1 = .int .i64 (n : Int) ∧ σ 2 = .int .i64 (m : Int) ∧ σ 7 = v7 ∧ σ 8 = v8 ∧ σ 9 = v9 ∧ St w0 (OArr v7 (rowN n ++ delsN m n ++ [allL 9 0 0] ++ backN s t) * (IArr v8 (dueL m n) * (IArr v9 (whl n) * (R * F)))) w) ?_ ?_ -- S8
  · refine WP_seq ?_
    -- R19
    refine WP_seqr [⟨0, 0, []⟩] (by kernel_rfl) ?_
    refine ns_asg rfl rfl ?_
    refine ns_done ?_
    refine WP_block ?_
    refine WP_loop (fun q σ w => ∃ (t : Nat) (v7 : Value), q = n - t ∧ t ≤ n ∧ (∀ i, i < t → i * s < n) ∧ σ 0 = .int .i64 D ∧ σ 1 = .int .i64 (n : Int) ∧ σ 2 = .int .i64 (m : Int) ∧ σ 7 = v7 ∧ σ 8 = v8 ∧ σ 9 = v9 ∧ σ 13 = .int .i64 ((t * s : Nat) : Int) ∧ St w0 (OArr v7 (rowN n ++ delsN m n ++ [allL 9 0 0] ++ backN s t) * (IArr v8 (dueL m n) * (IArr v9 (whl n) * (R * F)))) w) n ?_ ?_ -- L3
    · refine ⟨0, v75, rfl, Nat.zero_le _, (fun i hi => by omega), rfl, rfl, rfl, rfl, rfl, rfl, congrArg (Value.int .i64) (by rw [Nat.zero_mul]; rfl), ?_⟩
      show St w0 (OArr v75 (rowN n ++ delsN m n ++ [allL 9 0 0] ++ []) * (IArr v8 (dueL m n) * (IArr v9 (whl n) * (R * F)))) w
      rw [List.append_nil]
      exact hs.out
    rintro q σ w ⟨t, v7, rfl, ht, hbel, g0, g1, g2, g7, g8, g9, g13, hs⟩
    obtain ⟨σ, rfl⟩ := rebase g0
    obtain ⟨σ, rfl⟩ := rebase (σ := σ) g1
    obtain ⟨σ, rfl⟩ := rebase (σ := σ) g2
    obtain ⟨σ, rfl⟩ := rebase (σ := σ) g7
    obtain ⟨σ, rfl⟩ := rebase (σ := σ) g8
    obtain ⟨σ, rfl⟩ := rebase (σ := σ) g9
    obtain ⟨σ, rfl⟩ := rebase (σ := σ) g13
    clear g0 g1 g2 g7 g8 g9 g13
    refine WP_seq ?_ -- S9
    refine WP_seq ?_
    -- R20
    refine WP_seqr [⟨0, 0, []⟩, ⟨1, 0, []⟩, ⟨2, 0, []⟩] (by kernel_rfl) ?_
    refine ns_move rfl rfl ?_
    refine ns_move rfl rfl ?_
    refine ns_cmp _ rfl rfl rfl rfl rfl ?_
    refine ns_done ?_
    refine WP_if' rfl (fun hif5 => ?_) (fun hif5 => ?_)
    · refine WP_exit ?_
      have hup : n ≤ t * s := by have := of_decide_eq_false hif5; omega
      exact ⟨t, v7, ht, hbel, hup, rfl, rfl, rfl, rfl, rfl, rfl, hs⟩
    refine WP_skip ?_
    have hlt : t * s < n := by have := of_decide_eq_true hif5; omega
    have hs1 : 1 ≤ s := by omega
    have htt : t ≤ t * s := Nat.le_mul_of_pos_right t hs1
    have hsn : s ≤ n := by omega
    have hbl := backN_len s t
    refine WP_seq ?_ -- S10
    refine WP_block ?_
    -- R22
    refine WP_seqr [⟨0, 0, []⟩, ⟨1, 0, []⟩, ⟨2, 0, []⟩, ⟨3, 0, []⟩, ⟨4, 2, []⟩, ⟨5, 2, []⟩, ⟨6, 0, []⟩] (by kernel_rfl) ?_
    refine ns_move rfl rfl ?_
    refine ns_move rfl rfl ?_
    refine ns_move rfl rfl ?_
    refine ns_build [(0, .int .i64 0), (2, .int .i64 ((t * s : Nat) : Int)), (4, .int .i64 ((t * s : Nat) : Int))] (opC (putN (t * s))) pp_26 zc_26 rfl rfl rfl rfl ?_
    refine ns_lit [opV (putN (t * s))] (opC (putN (t * s))).toList sl_24 zr_26 (by decide) (by decide) hs rfl rfl rfl rfl (by simp [Value.cells, opV, opC]) rfl ?_
    refine fun b88 w hs hx => ⟨trivial, ?_⟩
    refine ns_app (opC (putN (t * s))).toList sl_24 zr_26 by_26 rfl (by decide) (hs.foc (OArr v7 (rowN n ++ delsN m n ++ [allL 9 0 0] ++ backN s t))) rfl rfl rfl rfl rfl (St.cells (n := 6) hs (by rfl)) (opC_one _) (by simp only [maxLen, List.length_append, List.length_cons, List.length_nil]; omega) (by (try simp only [List.length_append, List.length_cons, List.length_nil]); omega) ?_
    refine fun v89 w hs hv => ⟨trivial, ?_⟩
    have hs := hs.up (Ent.of_eq (onm (l := (rowN n ++ delsN m n ++ [allL 9 0 0] ++ backN s t)) rfl rfl))
    rw [List.append_assoc, ← backN_snoc s t] at hs
    refine ns_asg rfl rfl ?_
    refine ns_done ?_
    -- R21
    refine WP_seqr [⟨0, 0, []⟩, ⟨1, 0, []⟩, ⟨2, 0, []⟩, ⟨3, 0, []⟩, ⟨4, 0, []⟩, ⟨5, 0, []⟩] (by kernel_rfl) ?_
    refine ns_move rfl rfl ?_
    refine ns_move rfl rfl ?_
    refine ns_move rfl rfl ?_
    refine ns_min2 (s : Int) rfl rfl rfl rfl (by rw [hsm]; exact min_s n m) ?_
    refine ns_add rfl rfl rfl rfl (by omega) (by omega) ?_
    refine ns_asg rfl rfl ?_
    refine ns_done ?_
    refine ⟨n - (t + 1), by omega, t + 1, v89, rfl, by omega, fun i hi => ?_, rfl, rfl, rfl, rfl, rfl, rfl, congrArg (Value.int .i64) (by rw [Nat.succ_mul]; omega), hs.out⟩
    rcases Nat.lt_succ_iff_lt_or_eq.1 hi with h | h
    · exact hbel i h
    · rw [h]; exact hlt
    
  rintro σ w ⟨t, v7, ht, hbel, hup, g0, g1, g2, g7, g8, g9, hs⟩
  obtain ⟨σ, rfl⟩ := rebase g0
  obtain ⟨σ, rfl⟩ := rebase (σ := σ) g1
  obtain ⟨σ, rfl⟩ := rebase (σ := σ) g2
  obtain ⟨σ, rfl⟩ := rebase (σ := σ) g7
  obtain ⟨σ, rfl⟩ := rebase (σ := σ) g8
  obtain ⟨σ, rfl⟩ := rebase (σ := σ) g9
  clear g0 g1 g2 g7 g8 g9
  have hbl := backN_len s t
  refine WP_seq ?_
  -- R23
  refine WP_seqr [⟨0, 0, []⟩, ⟨1, 2, []⟩, ⟨2, 0, []⟩, ⟨3, 2, []⟩, ⟨4, 2, []⟩, ⟨5, 0, []⟩] (by kernel_rfl) ?_
  refine ns_move rfl rfl ?_
  refine ns_call (f21_ok 9 0 0) ck_21 (hs.foc 1) rfl rfl rfl rfl ?_
  intro v91 w hs
  replace hs := hs.pure
  obtain ⟨rfl, hs⟩ := hs
  refine ns_build [(0, .int .i64 8)] (opC (kdL 8)) pp_26 zc_26 rfl rfl rfl rfl ?_
  refine ns_lit [opV (allL 9 0 0), opV (kdL 8)] (encO [allL 9 0 0, kdL 8]) sl_24 zr_26 (by decide) (by decide) hs rfl rfl rfl rfl (by simp [Value.cells, opV, opC]) rfl ?_
  refine fun b93 w hs hx => ⟨trivial, ?_⟩
  refine ns_app (encO [allL 9 0 0, kdL 8]) sl_24 zr_26 by_26 rfl (by decide) (hs.foc (OArr v7 (rowN n ++ delsN m n ++ [allL 9 0 0] ++ backN s t))) rfl rfl rfl rfl rfl (St.cells (n := 12) hs (by rfl)) (encO_one _) (by simp only [maxLen, List.length_append, List.length_cons, List.length_nil]; omega) (by (try simp only [List.length_append, List.length_cons, List.length_nil]); omega) ?_
  refine fun v94 w hs hv => ⟨trivial, ?_⟩
  have hs := hs.up (Ent.of_eq (onm2 (l := (rowN n ++ delsN m n ++ [allL 9 0 0] ++ backN s t)) rfl rfl))
  have hs : St w0 (OArr v94 (scrN m n s t) * _) w := hs
  have hSl := scrN_len m n s t
  have hS0 : ∀ o ∈ scrN m n s t, o.tree = 0 ∧ o.kind ≠ 17 := scr_ok
  obtain ⟨hq0, hq1, hq2⟩ := scr_at (m := m) (n := n) (s := s) (t := t) (by omega) (by omega) hsm hbel hup
  have hkind : ∀ {i : Nat} {x : Sop}, i ≤ n + (delsN m n).length → (scrN m n s t)[i]? = some x → (x.kind = 9 ↔ i = n + (delsN m n).length) := fun hi hx => scr_kind hi hx
  have hal := run_length (scrN m n s t) []
  generalize scrN m n s t = S at hs hSl hS0 hq0 hq1 hq2 hkind hal
  have hrs : RdO (OArr v94 S) v94 S := Arr.rd (hs.foc (OArr v94 S))
  obtain ⟨_, a9, c9, rfl, hc9, hrd9⟩ := id hrs
  obtain ⟨g9, o9, rfl, hat9⟩ := hrd9 (by omega)
  have hs : St w0 (OArr (.slice (some ⟨g9, o9, none⟩) S.length c9) S * (IArr v8 (dueL m n) * (IArr v9 (whl n) * (R * F)))) w := hs.out
  refine ns_asg rfl rfl ?_
  refine ns_done ?_
  refine WP_seq ?_
  -- R24
  refine WP_seqr [⟨0, 0, []⟩, ⟨1, 0, []⟩, ⟨2, 2, []⟩, ⟨3, 0, []⟩] (by kernel_rfl) ?_
  refine ns_move rfl rfl ?_
  refine ns_move rfl rfl ?_
  refine ns_call (f29_ok (OArr (.slice (some ⟨g9, o9, none⟩) S.length c9) S) _ S D hrs (by omega) (by omega) (by omega) hS0) ck_29 (hs.foc (OArr (.slice (some ⟨g9, o9, none⟩) S.length c9) S)) rfl rfl rfl rfl ?_
  intro v97 w hs
  simp only [mul_assoc'] at hs
  replace hs := (hs.foc (AArr v97 (runL [] S))).ex
  obtain ⟨ss, hs⟩ := hs
  replace hs := hs.pu
  obtain ⟨hss, hs⟩ := hs
  have hra := aarr_rd hss hs
  generalize runL [] S = al at hs hra hss hal hq0 hq1 hq2
  generalize hR6 : Arr 36 3 v97 al.length (encA al ss) * itsS al ss = R6 at hs hra
  have hs : St w0 (R6 * (OArr (.slice (some ⟨g9, o9, none⟩) S.length c9) S * (IArr v8 (dueL m n) * (IArr v9 (whl n) * (R * F))))) w := hs.out
  obtain ⟨g, o, c, s0, e, hi0, hc0⟩ := hra.get hq0
  cases e
  obtain ⟨_, _, _, s1, e, hi1, hc1⟩ := hra.get hq1
  cases e
  obtain ⟨_, _, _, s2, e, hi2, hc2⟩ := hra.get hq2
  cases e
  have hw9 : RdI (IArr v9 (whl n)) v9 (whl n) := Arr.rd (hs.foc (IArr v9 (whl n)))
  have hw8 : RdI (IArr v8 (dueL m n)) v8 (dueL m n) := Arr.rd (hs.foc (IArr v8 (dueL m n)))
  refine ns_asg rfl rfl ?_
  refine ns_done ?_
  refine WP_seq ?_ -- S11
  refine WP_seq ?_
  -- R25
  refine WP_seqr [⟨0, 0, []⟩, ⟨1, 0, []⟩, ⟨2, 0, []⟩, ⟨3, 0, []⟩, ⟨4, 0, []⟩, ⟨5, 0, []⟩, ⟨6, 0, []⟩, ⟨7, 0, []⟩, ⟨8, 0, []⟩, ⟨9, 0, []⟩, ⟨10, 0, []⟩, ⟨11, 0, []⟩, ⟨12, 1, []⟩, ⟨13, 0, []⟩, ⟨14, 0, []⟩, ⟨15, 0, []⟩, ⟨16, 0, []⟩, ⟨17, 0, []⟩, ⟨18, 0, []⟩, ⟨19, 0, []⟩, ⟨20, 0, []⟩, ⟨21, 0, []⟩, ⟨22, 0, []⟩, ⟨23, 1, []⟩, ⟨24, 0, []⟩, ⟨25, 2, []⟩, ⟨26, 0, []⟩, ⟨27, 0, []⟩] (by kernel_rfl) ?_
  refine ns_move rfl rfl ?_
  refine ns_len sl_28 rfl rfl rfl ?_
  refine ns_move rfl rfl ?_
  refine ns_len sl_24 rfl rfl rfl ?_
  refine ns_cmp false rfl rfl rfl rfl (by simp [cmpI]; omega) ?_
  refine ns_move rfl rfl ?_
  refine ns_move rfl rfl ?_
  refine ns_move rfl rfl ?_
  refine ns_len sl_28 rfl rfl rfl ?_
  refine ns_sub rfl rfl rfl rfl (by omega) (by omega) ?_
  refine ns_idx (n + (delsN m n).length + t + 2) sl_28 rfl rfl rfl rfl (by omega) (by omega) ?_
  refine ns_fld fo_36_1 rfl rfl rfl ?_
  refine ns_ld pl_2 rfl rfl rfl ((hc2 _ _ _ (hs.foc R6)).at 1 rfl) ?_
  refine ns_move rfl rfl ?_
  refine ns_cmp false rfl rfl rfl rfl (by simp [cmpI]) ?_
  refine ns_pick rfl rfl rfl ?_
  refine ns_move rfl rfl ?_
  refine ns_move rfl rfl ?_
  refine ns_move rfl rfl ?_
  refine ns_len sl_28 rfl rfl rfl ?_
  refine ns_sub rfl rfl rfl rfl (by omega) (by omega) ?_
  refine ns_idx (n + (delsN m n).length + t + 1) sl_28 rfl rfl rfl rfl (by omega) (by omega) ?_
  refine ns_fld fo_36_2 rfl rfl rfl ?_
  refine ns_ld pl_34 rfl rfl rfl ((hc1 _ _ _ (hs.foc R6)).at 2 rfl) ?_
  refine ns_move rfl rfl ?_
  refine ns_call (f26_ok (R6 * IArr v9 (whl n)) _ _ (whl n) (RdI.up hi1) (RdI.up hw9) (by omega)) ck_26 (hs.foc (R6 * IArr v9 (whl n))) rfl rfl rfl rfl ?_
  intro v123 w hs
  replace hs := hs.pu
  obtain ⟨rfl, hs⟩ := hs
  try simp only [mul_assoc'] at hs
  refine ns_not rfl rfl rfl ?_
  refine ns_pick rfl rfl rfl ?_
  refine ns_done ?_
  refine WP_false rfl ?_ -- if6
  refine WP_skip ?_
  refine WP_seq_cut (fun σ w => False) ?_ ?_ -- S12
  · refine WP_seq ?_
    -- R27
    refine WP_seqr [⟨0, 0, []⟩, ⟨1, 0, []⟩, ⟨2, 0, []⟩, ⟨3, 0, []⟩, ⟨4, 0, []⟩, ⟨5, 0, []⟩, ⟨6, 0, []⟩] (by kernel_rfl) ?_
    refine ns_move rfl rfl ?_
    refine ns_move rfl rfl ?_
    refine ns_len sl_24 rfl rfl rfl ?_
    refine ns_sub rfl rfl rfl rfl (by omega) (by omega) ?_
    refine ns_sliceHi (S.length - 2) sl_24 rfl rfl rfl rfl (by omega) (by omega) ?_
    refine ns_len sl_24 rfl rfl rfl ?_
    refine ns_move rfl rfl ?_
    refine ns_done ?_
    refine WP_block ?_
    refine WP_loop (fun q σ w => ∃ i : Nat, q = S.length - 2 - i ∧ i ≤ n + (delsN m n).length ∧ σ 8 = v8 ∧ σ 14 = .slice (some ⟨g, o, none⟩) al.length c ∧ σ 130 = .slice (some ⟨g9, o9, none⟩) (S.length - 2) c9 ∧ σ 131 = .int .i64 ((S.length - 2 : Nat) : Int) ∧ σ 132 = .int .i64 (i : Int) ∧ St w0 (R6 * (OArr (.slice (some ⟨g9, o9, none⟩) S.length c9) S * (IArr v8 (dueL m n) * (IArr v9 (whl n) * (R * F))))) w) (S.length - 2) ?_ ?_ -- L4
    · exact ⟨0, rfl, Nat.zero_le _, rfl, rfl, rfl, rfl, rfl, hs.out⟩
    rintro q σ w ⟨i, rfl, hi, g8, g14, g130, g131, g132, hs⟩
    obtain ⟨σ, rfl⟩ := rebase g8
    obtain ⟨σ, rfl⟩ := rebase (σ := σ) g14
    obtain ⟨σ, rfl⟩ := rebase (σ := σ) g130
    obtain ⟨σ, rfl⟩ := rebase (σ := σ) g131
    obtain ⟨σ, rfl⟩ := rebase (σ := σ) g132
    clear g8 g14 g130 g131 g132
    refine WP_seq ?_
    -- R28
    refine WP_seqr [⟨0, 0, []⟩] (by kernel_rfl) ?_
    refine ns_cmp _ rfl rfl rfl rfl rfl ?_
    refine ns_done ?_
    refine WP_seq ?_ -- S13
    refine WP_if' rfl (fun hif7 => ?_) (fun hif7 => ?_)
    · refine WP_exit ?_
      exfalso
      have := of_decide_eq_false hif7
      omega
    refine WP_skip ?_
    have hi3 : i < S.length - 2 := by have := of_decide_eq_true hif7; omega
    obtain ⟨x, hxi⟩ : ∃ x, S[i]? = some x := ⟨S[i]'(by omega), List.getElem?_eq_getElem (by omega)⟩
    refine WP_seq ?_ -- S14
    refine WP_block ?_
    refine WP_seq ?_
    -- R29
    refine WP_seqr [⟨0, 0, []⟩, ⟨1, 0, []⟩, ⟨2, 1, []⟩, ⟨3, 2, []⟩, ⟨4, 0, []⟩, ⟨5, 2, []⟩] (by kernel_rfl) ?_
    refine ns_move rfl rfl ?_
    refine ns_idx i sl_24 rfl rfl rfl rfl rfl hi3 ?_
    refine ns_ldA (opC x).toList ag_26 rfl rfl rfl rfl (by decide) (op_cells hat9 (hs.foc (OArr (.slice (some ⟨g9, o9, none⟩) S.length c9) S)) hxi) ?_
    refine ns_alloc zc_26 hs rfl rfl ?_
    intro b16 w hs
    refine ns_asg rfl rfl ?_
    refine ns_stA (opC x) ag_26 rfl (by decide) hs rfl rfl rfl rfl (opC_one x) (by simp) ?_
    refine fun w hs => ⟨trivial, ?_⟩
    refine ns_done ?_
    have hs : St w0 (pts b16 (.cells #[.int .i64 x.kind, .int .i64 x.tree, .int .i64 x.key, .int .i64 x.to, .int .i64 x.val, .int .i64 x.cnt] 26 (0, 0)) * _) w := hs
    refine WP_seq ?_
    -- R30
    refine WP_seqr [⟨0, 0, []⟩, ⟨1, 1, []⟩, ⟨2, 0, []⟩] (by kernel_rfl) ?_
    refine ns_fld fo_26_0 rfl rfl rfl ?_
    refine ns_ldB pl_2 hs rfl rfl rfl (by rfl) ?_
    refine ns_cmp _ rfl rfl rfl rfl rfl ?_
    refine ns_done ?_
    refine WP_if rfl (fun hif8 => ?_) (fun hif8 => ?_)
    · refine WP_seq ?_
      obtain rfl : i = n + (delsN m n).length := (hkind hi hxi).1 (by simpa using hif8)
      -- R31
      refine WP_seqr [⟨0, 0, []⟩, ⟨1, 0, []⟩, ⟨2, 0, []⟩, ⟨3, 0, []⟩, ⟨4, 1, []⟩, ⟨5, 0, []⟩, ⟨6, 2, []⟩, ⟨7, 0, []⟩] (by kernel_rfl) ?_
      refine ns_move rfl rfl ?_
      refine ns_move rfl rfl ?_
      refine ns_idx (n + (delsN m n).length) sl_28 rfl rfl rfl rfl rfl (by omega) ?_
      refine ns_fld fo_36_2 rfl rfl rfl ?_
      refine ns_ld pl_34 rfl rfl rfl ((hc0 _ _ _ (hs.foc R6)).at 2 rfl) ?_
      refine ns_move rfl rfl ?_
      refine ns_call (f26_ok (R6 * IArr v8 (dueL m n)) _ _ (dueL m n) (RdI.up hi0) (RdI.up hw8) (by omega)) ck_26 (hs.foc (R6 * IArr v8 (dueL m n))) rfl rfl rfl rfl ?_
      intro v146 w hs
      replace hs := hs.pu
      obtain ⟨rfl, hs⟩ := hs
      try simp only [mul_assoc'] at hs
      refine ns_asg rfl rfl ?_
      refine ns_done ?_
      refine WP_ret ?_
      exact ⟨_, res1 _, St.mk_pu rfl hs.out⟩
    refine WP_skip ?_
    have hne : i ≠ n + (delsN m n).length := fun e => by
      have h := (hkind hi hxi).2 e
      have h2 : (x.kind == 9) = false := hif8
      rw [h] at h2
      cases h2
    -- R32
    refine WP_seqr [⟨0, 0, []⟩, ⟨1, 0, []⟩] (by kernel_rfl) ?_
    refine ns_add rfl rfl rfl rfl (by omega) (by omega) ?_
    refine ns_move rfl rfl ?_
    refine ns_done ?_
    exact ⟨S.length - 2 - (i + 1), by omega, i + 1, rfl, by omega, rfl, rfl, rfl, rfl, rfl, hs.out⟩
    
  rintro σ w hF
  refine WP_seq ?_
  -- R33
  refine WP_seqr [⟨0, 0, []⟩] (by kernel_rfl) ?_
  refine ns_asg rfl rfl ?_
  refine ns_done ?_
  refine WP_ret ?_
  exact hF.elim
end Go.Proofs.Ytnnembkganlbpaa
/- The law FnEveryOther: for every input it returns true, and what it was handed reads as it did. No condition. -/
namespace Go.Proofs.Ytnnembkganlbpaa
open Go Go.Sl Go.Wk Go.Bt Go.ChangeShapes Go.WideShapes Go.ChangeAt Go.RowKit

set_option maxRecDepth 100000 in
theorem fnEveryOther_lifted (os : Os) (started : os.Started) (H : Type) (enc : TypeId × Value → H) :
    ReturnsInHanded {} Try.checked os 10 .any (Rows.fnEveryOtherSpec.pre6 enc Try.prog Try.f10 Rows.fnEveryOtherRow.domain false) (Rows.fnEveryOtherSpec.post enc Try.prog Try.f10 false true false false) := by
  refine returnsInHanded_of_change (C := Try.checked) Try.own started (by kernel_rfl) Try.func10
    (ChangeSpec.witness6 (enc := enc) (C := Try.checked) false ⟨#[], #[.int .i64 0, .int .i64 0, .int .i64 0], []⟩ 8 (by kernel_rfl) (by kernel_rfl) (by kernel_rfl) (by kernel_rfl)) ?_
  intro W b0 args ds gs before hval0 hW _ _
  have hval : ∀ (j : Nat) t v, Try.f10.params[j]? = some t → args[j]? = some v → Value.okWide Try.prog W .any b0 t v := hval0
  have hW' := hW
  obtain ⟨p, q, hA0, hV, rfl, hfz, hnd⟩ := hW
  have hA : DataW.TrodAll enc Try.prog W 0 (fun _ => true) true Try.f10.params.toList args.toList ds p := hA0
  rw [Try.params10] at hA hval
  obtain ⟨v0, v1, v2, d0, d1, d2, p0, p1, p2, rfl, rfl, rfl, h0, h1, h2⟩ := trodAll_three hA
  obtain ⟨rfl, rfl⟩ := trodVars_none hV
  obtain ⟨a0, rfl, rfl, rfl, w0⟩ := open_int Try.underlying2 (hval 0 2 v0 rfl rfl) h0
  obtain ⟨a1, rfl, rfl, rfl, w1⟩ := open_int Try.underlying3 (hval 1 3 v1 rfl rfl) h1
  obtain ⟨a2, rfl, rfl, rfl, w2⟩ := open_int Try.underlying3 (hval 2 3 v2 rfl rfl) h2
  refine (f10_ok (base (heapOf W)) a0 a1 a2 W 1 W (st_base W)).mono fun e W' h => ?_
  obtain ⟨v, he, hs⟩ := h
  exact ⟨v, he, law_post (ts := [2, 3, 3]) hW' rfl rfl (by
    intro t ht
    simp only [List.mem_cons, List.not_mem_nil, or_false] at ht
    rcases ht with rfl | rfl | rfl
    · exact ty_2
    · exact ty_3
    · exact ty_3) rfl rfl rfl rfl hs⟩
theorem fnEveryOther_k1 : (Rows.fnEveryOtherRow.wf (OpenSpec.ofChange Rows.fnEveryOtherSpec)) = true := by kernel_rfl
theorem fnEveryOther_k4 : (Try.f10.params.all (Try.prog.readableRec ·)) = true := by kernel_rfl
theorem fnEveryOther_k5 : (namedTie Try.prog Rows.fnEveryOtherRow.named Rows.fnEveryOtherSpec.vars) = true := by kernel_rfl
theorem fnEveryOther_k6 : ((Rows.fnEveryOtherRow.stops == [])) = true := by kernel_rfl
theorem fnEveryOther_k8 : ((Rows.fnEveryOtherRow.knobs == [])) = true := by kernel_rfl
theorem fnEveryOther_k10 : ((Rows.fnEveryOtherRow.inPlace == Try.prog.inPlace 10)) = true := by kernel_rfl
theorem fnEveryOther_k11 : ((Rows.fnEveryOtherRow.unfollowed == Try.prog.unfollowed 10)) = true := by kernel_rfl
theorem fnEveryOther_k12 : ((Rows.fnEveryOtherRow.recurses == Try.prog.recurses 10)) = true := by kernel_rfl
theorem fnEveryOther_k13 : ((Rows.fnEveryOtherRow.named == Try.prog.varsNamed 10)) = true := by kernel_rfl
theorem fnEveryOther_k14 : ((Rows.fnEveryOtherRow.maps == (Try.f10.params.toList ++ Rows.fnEveryOtherSpec.plain.varTypes Try.prog).any (Try.prog.mapsRec ·))) = true := by kernel_rfl
theorem fnEveryOther_k15 : ((Rows.fnEveryOtherRow.ifaces == (Try.f10.params.toList ++ Rows.fnEveryOtherSpec.plain.varTypes Try.prog).any (Try.prog.ifacesRec ·))) = true := by kernel_rfl
theorem fnEveryOther_k16 : ((Rows.fnEveryOtherRow.mapsOut == Try.prog.mapsAmong Try.f10.resultTypes.toList)) = true := by kernel_rfl
theorem fnEveryOther_k17 : ((Rows.fnEveryOtherRow.loops == (Try.f10.params.toList ++ Rows.fnEveryOtherSpec.plain.varTypes Try.prog).any (Try.prog.loopsFrom ·))) = true := by kernel_rfl
theorem fnEveryOther_k17b : ((Rows.fnEveryOtherRow.wideKeys == (Try.f10.params.toList ++ Rows.fnEveryOtherSpec.plain.varTypes Try.prog ++ Try.f10.resultTypes.toList).any (Try.prog.wideKeysFrom ·))) = true := by kernel_rfl
theorem fnEveryOther_k18 : (Rows.fnEveryOtherSpec.vars.all (Try.prog.varReadable ·)) = true := by kernel_rfl
theorem fnEveryOther_k19 : (Try.f10.resultTypes.all (fun t => Try.prog.readableRec t && decide (t < Try.prog.types.size))) = true := by kernel_rfl
theorem fnEveryOther_k20 : ((Rows.fnEveryOtherRow.ifacesOut == Try.f10.resultTypes.toList.any (Try.prog.ifacesRec ·))) = true := by kernel_rfl
theorem fnEveryOther_k21 : ((Rows.fnEveryOtherRow.loopsOut == Try.f10.resultTypes.toList.any (Try.prog.loopsFrom ·))) = true := by kernel_rfl
theorem fnEveryOther_k23 : (Rows.fnEveryOtherRow.shortTexts.isNone) = true := by kernel_rfl
theorem fnEveryOther_k25 : ((Rows.fnEveryOtherRow.kinds == (if Rows.fnEveryOtherRow.domain.isEmpty then [] else Try.f10.params.toList.map fun t => match Try.prog.underlying t with | some (.int k) => some k | _ => none))) = true := by kernel_rfl
theorem fnEveryOther_k26 : ((Rows.fnEveryOtherRow.pinned == Rows.fnEveryOtherRow.pinnedBy)) = true := by kernel_rfl
theorem fnEveryOther_k27 : ((Rows.fnEveryOtherRow.veiled == (Try.f10.params.toList ++ Rows.fnEveryOtherSpec.plain.varTypes Try.prog ++ Try.f10.resultTypes.toList).any (Try.prog.veiledRec ·))) = true := by kernel_rfl
theorem fnEveryOther_k28 : (Rows.fnEveryOtherRow.veiledFits Try.prog Try.f10.params.toList (Try.f10.params.toList ++ Rows.fnEveryOtherSpec.plain.varTypes Try.prog ++ Try.f10.resultTypes.toList)) = true := by kernel_rfl
set_option maxRecDepth 100000 in
theorem fnEveryOther_closed : joinedFacts Try.prog 10 Try.f10 Rows.fnEveryOtherSpec Rows.fnEveryOtherRow = true := by
  unfold joinedFacts
  exact (and_mk (and_mk (and_mk (and_mk (and_mk (and_mk (and_mk (and_mk (and_mk (and_mk (and_mk (and_mk (and_mk (and_mk (and_mk (and_mk (and_mk (and_mk (and_mk (and_mk (and_mk (and_mk (and_mk (and_mk (and_mk (and_mk (and_mk (and_mk (and_mk (and_mk (and_mk fnEveryOther_k1 k2) k3) fnEveryOther_k4) fnEveryOther_k5) fnEveryOther_k6) k7) fnEveryOther_k8) k9) fnEveryOther_k10) fnEveryOther_k11) fnEveryOther_k12) fnEveryOther_k13) fnEveryOther_k14) fnEveryOther_k15) fnEveryOther_k16) fnEveryOther_k17) fnEveryOther_k17b) fnEveryOther_k18) fnEveryOther_k19) fnEveryOther_k20) fnEveryOther_k21) k22) fnEveryOther_k23) k23b) k24) k24b) k24c) fnEveryOther_k25) fnEveryOther_k26) fnEveryOther_k27) fnEveryOther_k28)
theorem fnEveryOther_holds : Rows.FnEveryOtherSaid :=
  OpenClaim.holds_of_wide 10 Try.f10 rfl rfl rfl rfl rfl rfl rfl ⟨rfl, rfl, rfl, rfl, rfl⟩ rfl rfl rfl rfl rfl (by kernel_rfl) Try.func10 fnEveryOther_closed
    (of_decide_eq_true (by kernel_rfl)) (by unfold Func.isWrapper; rw [if_neg (of_decide_eq_false (by kernel_rfl))]; exact ⟨rfl, rfl⟩)
    (fun os started H enc _ => fnEveryOther_lifted os started H enc)
end Go.Proofs.Ytnnembkganlbpaa
