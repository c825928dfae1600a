/- The law FnCleared: for every input it returns true, and what it was handed reads as it did. No condition. -/
import Derived.Test.YtnnembkganlbpaaQ4
import Derived.Test.YtnnembkganlbpaaFiq
import Derived.Test.YtnnembkganlbpaaFc
/- The walk of the law on the two ends: FnEnds. -/
namespace Go.Proofs.Ytnnembkganlbpaa
open Go Go.Sl Go.Net Go.Wk Go.Bt Go.RowKit

theorem ends_eq {l : List It} (h : l ≠ []) : [oneA l.head?, oneA l.getLast?] = [⟨true, 0, l.take 1⟩, ⟨true, 0, l.drop (l.length - 1)⟩] := by
  have e1 : oneA l.head? = ⟨true, 0, l.take 1⟩ := by
    cases l with
    | nil => exact absurd rfl h
    | cons x l => rfl
  have e2 : oneA l.getLast? = ⟨true, 0, l.drop (l.length - 1)⟩ := by
    rcases List.eq_nil_or_concat l with e | ⟨l', x, rfl⟩
    · exact absurd e h
    · rw [List.concat_eq_append, List.getLast?_concat, List.length_append, List.length_singleton, Nat.add_sub_cancel, List.drop_left]
      rfl
  rw [e1, e2]
theorem rd_two {R : HProp} {a b : An} {s t : Value} (h1 : RdI R s a.items) (h2 : RdI R t b.items) : ∀ (i : Nat) (x : An) (y : Value), [a, b][i]? = some x → [s, t][i]? = some y → RdI R y x.items := by
  intro i x y hx hy
  match i with
  | 0 => cases hx; cases hy; exact h1
  | 1 => cases hx; cases hy; exact h2
  | i + 2 => simp at hx
theorem rd_one {R : HProp} {a : An} {s : Value} (h1 : RdI R s a.items) : ∀ (i : Nat) (x : An) (y : Value), [a][i]? = some x → [s][i]? = some y → RdI R y x.items := by
  intro i x y hx hy
  match i with
  | 0 => cases hx; cases hy; exact h1
  | i + 1 => simp at hx
set_option maxHeartbeats 3200000 in
theorem f9_ok (R : HProp) (v : Value) (os : List Sop) (d : Int) (hR : RdO R v os) : Tri Try.prog 9 #[.int .i64 d, v] R fun r => pu (r = .bool true) * R := by
  obtain ⟨_, a1, c1, rfl, hc1, hrd⟩ := id hR
  intro w0 F w hs
  refine calls_WP 55 #[.tmp 4] Try.func9 rfl Try.ntmps9 rfl (Nat.le_of_ble_eq_true rfl) ?_
  refine WP_seq ?_
  -- R0
  refine WP_seqr [⟨0, 0, []⟩] (by kernel_rfl) ?_
  refine ns_asg rfl rfl ?_
  refine ns_done ?_
  refine WP_seq ?_ -- S1
  refine WP_seq ?_
  -- R1
  refine WP_seqr [⟨0, 0, []⟩, ⟨1, 0, []⟩, ⟨2, 0, []⟩] (by kernel_rfl) ?_
  refine ns_move rfl rfl ?_
  refine ns_len sl_24 rfl rfl rfl ?_
  refine ns_cmp _ rfl rfl rfl rfl rfl ?_
  refine ns_done ?_
  refine WP_if rfl (fun hif1 => ?_) (fun hif1 => ?_)
  · refine WP_seq ?_
    -- R2
    refine WP_seqr [⟨0, 0, []⟩] (by kernel_rfl) ?_
    refine ns_asg rfl rfl ?_
    refine ns_done ?_
    refine WP_ret ?_
    exact ⟨_, res1 _, St.mk_pu rfl hs.out⟩
  refine WP_skip ?_
  refine WP_seq ?_ -- S2
  refine WP_seq ?_
  -- R3
  refine WP_seqr [⟨0, 0, []⟩, ⟨1, 0, []⟩, ⟨2, 2, []⟩, ⟨3, 0, []⟩] (by kernel_rfl) ?_
  refine ns_move rfl rfl ?_
  refine ns_move rfl rfl ?_
  refine ns_call (f20_ok d a1 os.length c1) ck_20 (hs.foc 1) rfl rfl rfl rfl ?_
  intro v15 w hs
  replace hs := hs.pure
  obtain ⟨rfl, hs⟩ := hs
  refine ns_not rfl rfl rfl ?_
  refine ns_done ?_
  refine WP_if rfl (fun hif2 => ?_) (fun hif2 => ?_)
  · refine WP_seq ?_
    -- R4
    refine WP_seqr [⟨0, 0, []⟩] (by kernel_rfl) ?_
    refine ns_asg rfl rfl ?_
    refine ns_done ?_
    refine WP_ret ?_
    exact ⟨_, res1 _, St.mk_pu rfl hs.out⟩
  refine WP_skip ?_
  have hfit : 2 ≤ d ∧ d ≤ 1000 ∧ os.length ≤ 2000 := by simpa using hif2
  obtain ⟨hd, hd2, hn⟩ := hfit
  obtain ⟨D, rfl⟩ : ∃ D : Nat, d = D := ⟨d.toNat, by omega⟩
  have hlen := heldT_len os
  have hsrt := held_srt (onT os)
  refine WP_seq ?_
  -- R5
  refine WP_seqr [⟨0, 0, []⟩, ⟨1, 0, []⟩, ⟨2, 0, []⟩, ⟨3, 0, []⟩, ⟨4, 2, []⟩, ⟨5, 2, []⟩, ⟨6, 2, []⟩, ⟨7, 0, []⟩, ⟨8, 0, []⟩, ⟨9, 0, []⟩, ⟨10, 0, []⟩, ⟨11, 0, []⟩] (by kernel_rfl) ?_
  refine ns_move rfl rfl ?_
  refine ns_move rfl rfl ?_
  refine ns_build [(0, .int .i64 4)] (opC (kdL 4)) pp_26 zc_26 rfl rfl rfl rfl ?_
  refine ns_build [(0, .int .i64 5)] (opC (kdL 5)) pp_26 zc_26 rfl rfl rfl rfl ?_
  refine ns_call (f21_ok 9 0 0) ck_21 (hs.foc 1) rfl rfl rfl rfl ?_
  intro v22 w hs
  replace hs := hs.pure
  obtain ⟨rfl, hs⟩ := hs
  refine ns_lit [opV (kdL 4), opV (kdL 5), opV (allL 9 0 0)] (encO [kdL 4, kdL 5, allL 9 0 0]) sl_24 zr_26 (by decide) (by decide) hs rfl rfl rfl rfl (by simp [Value.cells, opV, opC]) rfl ?_
  refine fun b23 w hs hx => ⟨trivial, ?_⟩
  have hmore : RdO (R * pts b23 (.cells (encO [kdL 4, kdL 5, allL 9 0 0]).toArray 26 (0, 0))) (.slice (some ⟨b23, 0, none⟩) 3 3) [kdL 4, kdL 5, allL 9 0 0] := (lit_rdO b23 [kdL 4, kdL 5, allL 9 0 0] (0, 0)).up
  refine ns_call (f22_ok (R * pts b23 (.cells (encO [kdL 4, kdL 5, allL 9 0 0]).toArray 26 (0, 0))) (.slice a1 os.length c1) _ os [kdL 4, kdL 5, allL 9 0 0] D hR.up hmore (by simp) (by omega) (by omega) (by omega) (by simp) (by simp [allL, kdL])) ck_22 (hs.foc (R * pts b23 (.cells (encO [kdL 4, kdL 5, allL 9 0 0]).toArray 26 (0, 0)))) rfl rfl rfl rfl ?_
  intro v24 w hs
  replace hs := hs.ex
  obtain ⟨⟨s, R2⟩, hs⟩ := hs
  replace hs := hs.pu
  obtain ⟨⟨rfl, hra⟩, hs⟩ := hs
  simp only [mul_assoc'] at hs
  generalize afterL [] (onT os) = l at hra hlen hsrt
  rw [run_ends l (by omega)] at hra
  obtain ⟨a4, c4, rfl, hc4⟩ := id hra.form
  obtain ⟨g2, o2, _, s2, e, hi2, hc2⟩ := hra.get (i := 2) rfl
  cases e
  have hi2 : RdI R2 s2 l := hi2
  obtain ⟨a6, c6, rfl, hc6⟩ := id hi2.form
  refine ns_move rfl rfl ?_
  refine ns_ext rfl rfl rfl rfl ?_
  refine ns_ext rfl rfl rfl rfl ?_
  refine ns_asg rfl rfl ?_
  refine ns_asg rfl rfl ?_
  refine ns_done ?_
  refine WP_seq ?_ -- S3
  refine WP_seq ?_
  -- R6
  refine WP_seqr [⟨0, 0, []⟩, ⟨1, 0, []⟩] (by kernel_rfl) ?_
  refine ns_move rfl rfl ?_
  refine ns_not rfl rfl rfl ?_
  refine ns_done ?_
  refine WP_false rfl ?_ -- if3
  refine WP_skip ?_
  refine WP_seq ?_
  -- R8
  refine WP_seqr [⟨0, 0, []⟩, ⟨1, 0, []⟩, ⟨2, 0, []⟩, ⟨3, 1, []⟩, ⟨4, 0, []⟩] (by kernel_rfl) ?_
  refine ns_move rfl rfl ?_
  refine ns_idx 2 sl_28 rfl rfl rfl rfl rfl (by simp) ?_
  refine ns_fld fo_36_2 rfl rfl rfl ?_
  refine ns_ld pl_34 rfl rfl rfl ((hc2 _ _ _ (hs.foc R2)).at 2 rfl) ?_
  refine ns_asg rfl rfl ?_
  refine ns_done ?_
  refine WP_seq ?_ -- S4
  refine WP_seq ?_
  -- R9
  refine WP_seqr [⟨0, 0, []⟩, ⟨1, 0, []⟩, ⟨2, 0, []⟩] (by kernel_rfl) ?_
  refine ns_move rfl rfl ?_
  refine ns_len sl_34 rfl rfl rfl ?_
  refine ns_cmp _ rfl rfl rfl rfl rfl ?_
  refine ns_done ?_
  refine WP_if rfl (fun hif4 => ?_) (fun hif4 => ?_)
  · refine WP_seq ?_
    have hl : l = [] := List.eq_nil_of_length_eq_zero (by have : ((l.length : Int) == 0) = true := hif4; simpa using this)
    subst hl
    -- R10
    refine WP_net hs mix [0, 1, 0, 7, 15] [⟨0, 0, []⟩, ⟨1, 0, []⟩, ⟨2, 2, []⟩, ⟨3, 2, []⟩, ⟨4, 0, []⟩] (by kernel_rfl) ?_
    intro w hs
    refine ns_move rfl rfl ?_
    refine ns_sliceHi 2 sl_28 rfl rfl rfl rfl rfl (by simp at hc4; omega) ?_
    refine ns_makeN (n := 2) (encA [⟨false, 0, []⟩, ⟨false, 0, []⟩] [.slice none 0 0, .slice none 0 0]).toArray sl_28 zr_36 by_36 (by decide) (by decide) (by decide) hs rfl rfl rfl rfl (by decide) (by kernel_rfl) ?_
    refine fun b38 w hs _ => ⟨trivial, ?_⟩
    have hq1 : RdA R2 (.slice (some ⟨g2, o2, none⟩) 2 c4) [⟨false, 0, []⟩, ⟨false, 0, []⟩] := RdA.head rfl hra 2 (by simp)
    have hq2 := lit_rdA b38 [⟨false, 0, []⟩, ⟨false, 0, []⟩] [.slice none 0 0, .slice none 0 0] R2 (0, 0) rfl (rd_two (nil_rdI R2) (nil_rdI R2))
    refine ns_call (f25_ok (R2 * pts b38 (.cells (encA [⟨false, 0, []⟩, ⟨false, 0, []⟩] [.slice none 0 0, .slice none 0 0]).toArray 36 (0, 0))) _ _ [⟨false, 0, []⟩, ⟨false, 0, []⟩] (RdA.up hq1) hq2 (by simp) (by simp)) ck_25 (hs.foc (R2 * pts b38 (.cells (encA [⟨false, 0, []⟩, ⟨false, 0, []⟩] [.slice none 0 0, .slice none 0 0]).toArray 36 (0, 0)))) rfl rfl rfl rfl ?_
    intro v39 w hs
    replace hs := hs.pu
    obtain ⟨rfl, hs⟩ := hs
    try simp only [mul_assoc'] at hs
    refine ns_asg rfl rfl ?_
    refine ns_done ?_
    refine WP_ret ?_
    exact ⟨_, res1 _, St.mk_pu rfl hs.out⟩
  refine WP_skip ?_
  have hl : l ≠ [] := by
    intro e
    subst e
    cases hif4
  have hlp : 0 < l.length := List.length_pos_iff.2 hl
  refine WP_seq_cut (fun σ w => ∃ b8 b9, σ 5 = .slice (some ⟨g2, o2, none⟩) 3 c4 ∧ σ 8 = .pointer (some ⟨b8, 0, none⟩) ∧ σ 9 = .pointer (some ⟨b9, 0, none⟩) ∧ St w0 (pts b8 (.cells #[.bool true, .int .i64 0, .slice a6 1 c6] 36 (0, 0)) * (pts b9 (.cells #[.bool true, .int .i64 0, .slice (if c6 = l.length - 1 then a6 else a6.map (·.add ((l.length - 1) * 2))) (l.length - (l.length - 1)) (c6 - (l.length - 1))] 36 (0, 0)) * (R * (R2 * F)))) w) ?_ ?_ -- R11.cut
  · -- R11
    refine WP_tre hs mix [0, 1, 3, 0, 0, 16, 48, 120, 248, 0, 0, 1543, 4095] (.cons ⟨0, 0, []⟩ (.cons ⟨1, 0, []⟩ (.cons ⟨2, 0, []⟩ (.cons ⟨3, 0, []⟩ (.cons ⟨4, 0, []⟩ (.cons ⟨5, 0, []⟩ (.cons ⟨6, 0, []⟩ (.cons ⟨7, 0, []⟩ (.cons ⟨8, 0, []⟩ (.fork ⟨9, 2, []⟩ (.cons ⟨10, 2, []⟩ (.cons ⟨11, 2, []⟩ (.cons ⟨12, 2, []⟩ .nil))) ⟨10, 2, []⟩ (.cons ⟨9, 2, []⟩ (.cons ⟨11, 2, []⟩ (.cons ⟨12, 2, []⟩ .nil))))))))))))) (by kernel_rfl) ?_
    intro w hs
    refine ns_move rfl rfl ?_
    refine ns_sliceHi 1 sl_34 rfl rfl rfl rfl rfl (by omega) ?_
    refine ns_build [(0, .bool true), (2, .slice a6 1 c6)] (#[.bool true, .int .i64 0, .slice a6 1 c6]) pp_36 zc_36 rfl rfl rfl rfl ?_
    refine ns_move rfl rfl ?_
    refine ns_move rfl rfl ?_
    refine ns_len sl_34 rfl rfl rfl ?_
    refine ns_sub rfl rfl rfl rfl (by omega) (by omega) ?_
    refine ns_sliceLo (l.length - 1) sl_34 rfl rfl rfl rfl (by omega) (by omega) ?_
    refine ns_build [(0, .bool true), (2, .slice (if c6 = l.length - 1 then a6 else a6.map (·.add ((l.length - 1) * 2))) (l.length - (l.length - 1)) (c6 - (l.length - 1)))] (#[.bool true, .int .i64 0, .slice (if c6 = l.length - 1 then a6 else a6.map (·.add ((l.length - 1) * 2))) (l.length - (l.length - 1)) (c6 - (l.length - 1))]) pp_36 zc_36 rfl rfl rfl rfl ?_
    refine ns_fork ?_ ?_
    · refine ns_alloc zc_36 hs rfl rfl ?_
      intro b8 w hs
      refine ns_alloc zc_36 hs rfl rfl ?_
      intro b9 w hs
      refine ns_stA (#[.bool true, .int .i64 0, .slice a6 1 c6]) ag_36 rfl (by decide) hs rfl rfl rfl rfl (by intro u hu; simp at hu; rcases hu with rfl | rfl | rfl <;> rfl) (by simp) ?_
      refine fun w hs => ⟨trivial, ?_⟩
      refine ns_stA (#[.bool true, .int .i64 0, .slice (if c6 = l.length - 1 then a6 else a6.map (·.add ((l.length - 1) * 2))) (l.length - (l.length - 1)) (c6 - (l.length - 1))]) ag_36 rfl (by decide) hs rfl rfl rfl rfl (by intro u hu; simp at hu; rcases hu with rfl | rfl | rfl <;> rfl) (by simp) ?_
      refine fun w hs => ⟨trivial, ?_⟩
      refine ns_done ?_
      have hs : St w0 (pts b9 (.cells #[.bool true, .int .i64 0, .slice (if c6 = l.length - 1 then a6 else a6.map (·.add ((l.length - 1) * 2))) (l.length - (l.length - 1)) (c6 - (l.length - 1))] 36 (0, 0)) * (pts b8 (.cells #[.bool true, .int .i64 0, .slice a6 1 c6] 36 (0, 0)) * _)) w := hs
      exact ⟨b8, b9, rfl, rfl, rfl, hs.out⟩
    · refine ns_alloc zc_36 hs rfl rfl ?_
      intro b9 w hs
      refine ns_alloc zc_36 hs rfl rfl ?_
      intro b8 w hs
      refine ns_stA (#[.bool true, .int .i64 0, .slice a6 1 c6]) ag_36 rfl (by decide) hs rfl rfl rfl rfl (by intro u hu; simp at hu; rcases hu with rfl | rfl | rfl <;> rfl) (by simp) ?_
      refine fun w hs => ⟨trivial, ?_⟩
      refine ns_stA (#[.bool true, .int .i64 0, .slice (if c6 = l.length - 1 then a6 else a6.map (·.add ((l.length - 1) * 2))) (l.length - (l.length - 1)) (c6 - (l.length - 1))]) ag_36 rfl (by decide) hs rfl rfl rfl rfl (by intro u hu; simp at hu; rcases hu with rfl | rfl | rfl <;> rfl) (by simp) ?_
      refine fun w hs => ⟨trivial, ?_⟩
      refine ns_done ?_
      have hs : St w0 (pts b8 (.cells #[.bool true, .int .i64 0, .slice a6 1 c6] 36 (0, 0)) * (pts b9 (.cells #[.bool true, .int .i64 0, .slice (if c6 = l.length - 1 then a6 else a6.map (·.add ((l.length - 1) * 2))) (l.length - (l.length - 1)) (c6 - (l.length - 1))] 36 (0, 0)) * _)) w := hs
      exact ⟨b8, b9, rfl, rfl, rfl, hs.out⟩
  rintro σ w ⟨b8, b9, g5, g8, g9, hs⟩
  obtain ⟨σ, rfl⟩ := rebase g5
  obtain ⟨σ, rfl⟩ := rebase (σ := σ) g8
  obtain ⟨σ, rfl⟩ := rebase (σ := σ) g9
  clear g5 g8 g9
  refine WP_seq ?_
  -- R12
  refine WP_net hs mix [0, 1, 0, 0, 12, 31, 63] [⟨0, 0, []⟩, ⟨1, 0, []⟩, ⟨2, 1, []⟩, ⟨3, 1, []⟩, ⟨4, 2, []⟩, ⟨5, 2, []⟩, ⟨6, 0, []⟩] (by kernel_rfl) ?_
  intro w hs
  refine ns_move rfl rfl ?_
  refine ns_sliceHi 2 sl_28 rfl rfl rfl rfl rfl (by simp at hc4; omega) ?_
  refine ns_ldAB [.bool true, .int .i64 0, .slice a6 1 c6] ag_36 hs rfl rfl rfl (by rfl) (by rfl) (by decide) ?_
  refine ns_ldAB [.bool true, .int .i64 0, .slice (if c6 = l.length - 1 then a6 else a6.map (·.add ((l.length - 1) * 2))) (l.length - (l.length - 1)) (c6 - (l.length - 1))] ag_36 hs rfl rfl rfl (by rfl) (by rfl) (by decide) ?_
  refine ns_lit [.agg #[.bool true, .int .i64 0, .slice a6 1 c6], .agg #[.bool true, .int .i64 0, .slice (if c6 = l.length - 1 then a6 else a6.map (·.add ((l.length - 1) * 2))) (l.length - (l.length - 1)) (c6 - (l.length - 1))]] (encA [⟨true, 0, l.take 1⟩, ⟨true, 0, l.drop (l.length - 1)⟩] [.slice a6 1 c6, .slice (if c6 = l.length - 1 then a6 else a6.map (·.add ((l.length - 1) * 2))) (l.length - (l.length - 1)) (c6 - (l.length - 1))]) sl_28 zr_36 (by decide) (by decide) hs rfl rfl rfl rfl (by simp [Value.cells]) rfl ?_
  refine fun b53 w hs hx => ⟨trivial, ?_⟩
  have hq1 : RdA R2 (.slice (some ⟨g2, o2, none⟩) 2 c4) ([oneA l.head?, oneA l.getLast?, ⟨false, 0, l⟩].take 2) := RdA.head rfl hra 2 (by simp)
  rw [show [oneA l.head?, oneA l.getLast?, (⟨false, 0, l⟩ : An)].take 2 = [oneA l.head?, oneA l.getLast?] from rfl, ends_eq hl] at hq1
  have hq2 := lit_rdA b53 [⟨true, 0, l.take 1⟩, ⟨true, 0, l.drop (l.length - 1)⟩] [.slice a6 1 c6, .slice (if c6 = l.length - 1 then a6 else a6.map (·.add ((l.length - 1) * 2))) (l.length - (l.length - 1)) (c6 - (l.length - 1))] R2 (0, 0) rfl (rd_two (RdI.head rfl hi2 1 (by omega)) (RdI.tail rfl hi2 (l.length - 1) (by omega)))
  refine ns_call (f25_ok (R2 * pts b53 (.cells (encA [⟨true, 0, l.take 1⟩, ⟨true, 0, l.drop (l.length - 1)⟩] [.slice a6 1 c6, .slice (if c6 = l.length - 1 then a6 else a6.map (·.add ((l.length - 1) * 2))) (l.length - (l.length - 1)) (c6 - (l.length - 1))]).toArray 36 (0, 0))) _ _ [⟨true, 0, l.take 1⟩, ⟨true, 0, l.drop (l.length - 1)⟩] (RdA.up hq1) hq2 (by simp) (by
    intro x hx
    simp only [List.mem_cons, List.not_mem_nil, or_false] at hx
    rcases hx with rfl | rfl
    · simp; omega
    · simp; omega)) ck_25 (hs.foc (R2 * pts b53 (.cells (encA [⟨true, 0, l.take 1⟩, ⟨true, 0, l.drop (l.length - 1)⟩] [.slice a6 1 c6, .slice (if c6 = l.length - 1 then a6 else a6.map (·.add ((l.length - 1) * 2))) (l.length - (l.length - 1)) (c6 - (l.length - 1))]).toArray 36 (0, 0)))) rfl rfl rfl rfl ?_
  intro v54 w hs
  replace hs := hs.pu
  obtain ⟨rfl, hs⟩ := hs
  try simp only [mul_assoc'] at hs
  refine ns_asg rfl rfl ?_
  refine ns_done ?_
  refine WP_ret ?_
  exact ⟨_, res1 _, St.mk_pu rfl hs.out⟩
end Go.Proofs.Ytnnembkganlbpaa
/- The walks of a search and a taking out in a list, and of the law on what is found: FnFound. -/
namespace Go.Wk
open Go Go.Sl Go.Net Go.RowKit
section
variable {P : Program} {ops : Array Oper} {Q : Slots → World → Prop} {σ : Slots} {w w0 : World} {H : HProp} {rest : Tre} {held : Nat → World → Prop} {i : Nat} {kp : List Nat}
variable {d : Option Tmp} {ty : TypeId} {ps : String} {af : Array Edge} {gd : Option (Nat × Bool)}
theorem ns_beq2 {t t' : TypeId} {x y : Operand} {a b : Bool} (r : Bool) (hu : P.underlying t = some .bool) (ho : ops[i]? = some ⟨d, .binOp .eql t x y t', ty, ps, af, gd⟩) (hw : Region.wanted ⟨d, .binOp .eql t x y t', ty, ps, af, gd⟩ (yieldS ops σ) = true)
    (hx : evS σ x = .bool a) (hy : evS σ y = .bool b) (hr : (a == b) = r) (h : NetS P ops Q rest held (updO σ d (.bool r)) w) : NetS P ops Q (.cons ⟨i, 0, kp⟩ rest) held σ w := by
  subst hr; exact ns_beq hu ho hw hx hy h
end
end Go.Wk
namespace Go.Proofs.Ytnnembkganlbpaa
open Go Go.Sl Go.Net Go.Wk Go.Bt Go.RowKit

theorem filt_snoc {p : It → Bool} {l : List It} {i : Nat} {x : It} (h : l[i]? = some x) : (l.take (i + 1)).filter p = (l.take i).filter p ++ if p x then [x] else [] := by
  rw [take_snoc h, List.filter_append, List.filter_cons, List.filter_nil]
theorem find_at {l : List It} {i : Nat} {x : It} {k : Int} (h : l[i]? = some x) (hn : ∀ y ∈ l.take i, y.key ≠ k) (hx : x.key = k) : get l k = some x := by
  have e : l = l.take i ++ x :: l.drop (i + 1) := by
    obtain ⟨hi, rfl⟩ := List.getElem?_eq_some_iff.1 h
    rw [List.getElem_cons_drop, List.take_append_drop]
  rw [e, get_append, get_none.2 hn]
  show (none : Option It).or (List.find? _ (x :: _)) = _
  rw [List.find?_cons, hx]; simp
set_option maxHeartbeats 1600000 in
theorem f30_ok (R : HProp) (v : Value) (l : List It) (k : Int) (hR : RdI R v l) (hll : l.length < 1000000) : Tri Try.prog 30 #[v, .int .i64 k] R fun r => R * IArr r (rem l k) := by
  obtain ⟨hxl, a1, c1, rfl, hc1, hrd⟩ := hR
  intro w0 F w hs
  refine calls_WP 25 #[.tmp 4] Try.func30 rfl Try.ntmps30 rfl (Nat.le_of_ble_eq_true rfl) ?_
  refine WP_seq ?_
  -- R0
  refine WP_seqr [⟨0, 0, []⟩] (by kernel_rfl) ?_
  refine ns_asg rfl rfl ?_
  refine ns_done ?_
  refine WP_seq ?_
  -- R1
  refine WP_seqr [⟨0, 2, []⟩, ⟨1, 0, []⟩] (by kernel_rfl) ?_
  refine ns_lit0 sl_34 hs rfl rfl ?_
  refine fun b8 w hs hx => ⟨trivial, ?_⟩
  refine ns_asg rfl rfl ?_
  refine ns_done ?_
  refine WP_seq_cut (fun σ w => ∃ out, σ 5 = out ∧ St w0 (R * (IArr out (rem l k) * F)) w) ?_ ?_ -- S1
  · refine WP_seq ?_
    -- R2
    refine WP_seqr [⟨0, 0, []⟩, ⟨1, 0, []⟩, ⟨2, 0, []⟩] (by kernel_rfl) ?_
    refine ns_move rfl rfl ?_
    refine ns_len sl_34 rfl rfl rfl ?_
    refine ns_move rfl rfl ?_
    refine ns_done ?_
    refine WP_block ?_
    refine WP_loop (fun m σ w => ∃ (i : Nat) (out : Value), m = l.length - i ∧ i ≤ l.length ∧ σ 1 = .int .i64 k ∧ σ 5 = out ∧ σ 9 = .slice a1 l.length c1 ∧ σ 10 = .int .i64 (l.length : Int) ∧ σ 11 = .int .i64 (i : Int) ∧ St w0 (R * (IArr out ((l.take i).filter fun y => y.key != k) * F)) w) l.length ?_ ?_ -- L1
    · refine ⟨0, .slice (some ⟨b8, 0, none⟩) 0 0, rfl, Nat.zero_le _, rfl, rfl, rfl, rfl, rfl, ?_⟩
      show St w0 (R * (Arr 45 2 _ 0 [] * F)) w
      exact hs.out
    rintro m σ w ⟨i, out, rfl, hi, g1, g5, g9, g10, g11, hs⟩
    obtain ⟨σ, rfl⟩ := rebase g1
    obtain ⟨σ, rfl⟩ := rebase (σ := σ) g5
    obtain ⟨σ, rfl⟩ := rebase (σ := σ) g9
    obtain ⟨σ, rfl⟩ := rebase (σ := σ) g10
    obtain ⟨σ, rfl⟩ := rebase (σ := σ) g11
    clear g1 g5 g9 g10 g11
    refine WP_seq ?_
    -- R3
    refine WP_seqr [⟨0, 0, []⟩] (by kernel_rfl) ?_
    refine ns_cmp _ rfl rfl rfl rfl rfl ?_
    refine ns_done ?_
    refine WP_seq ?_ -- S2
    refine WP_if' rfl (fun hif1 => ?_) (fun hif1 => ?_)
    · refine WP_exit ?_
      have hi2 : i = l.length := by have := of_decide_eq_false hif1; omega
      subst hi2
      refine ⟨out, rfl, ?_⟩
      rw [List.take_length] at hs
      exact hs
    refine WP_skip ?_
    have hi2 : i < l.length := by have := of_decide_eq_true hif1; omega
    obtain ⟨x, hxi⟩ : ∃ x, l[i]? = some x := ⟨l[i]'hi2, List.getElem?_eq_getElem hi2⟩
    obtain ⟨g, q, rfl, hat⟩ := hrd (by omega)
    have e2 := filt_snoc (p := fun y => y.key != k) hxi
    have hfl : ((l.take i).filter fun y => y.key != k).length ≤ i := Nat.le_trans (List.length_filter_le ..) (by rw [List.length_take]; omega)
    refine WP_seq_cut (fun σ w => ∃ out, σ 1 = .int .i64 k ∧ σ 5 = out ∧ σ 9 = .slice (some ⟨g, q, none⟩) l.length c1 ∧ σ 10 = .int .i64 (l.length : Int) ∧ σ 11 = .int .i64 (i : Int) ∧ St w0 (R * (IArr out ((l.take (i + 1)).filter fun y => y.key != k) * F)) w) ?_ ?_ -- S3
    · refine WP_block ?_
      refine WP_seq ?_
      -- R4
      refine WP_seqr [⟨0, 0, []⟩, ⟨1, 1, []⟩, ⟨2, 2, []⟩, ⟨3, 2, []⟩] (by kernel_rfl) ?_
      refine ns_idx i sl_34 rfl rfl rfl rfl rfl hi2 ?_
      refine ns_ldA [.int .i64 x.key, .int .i64 x.val] ag_45 rfl rfl rfl rfl (by decide) (item_cells hat (hs.foc R) hxi) ?_
      refine ns_alloc zc_45 hs rfl rfl ?_
      intro b7 w hs
      refine ns_stA (#[.int .i64 x.key, .int .i64 x.val]) ag_45 rfl (by decide) hs rfl rfl rfl rfl (by intro u hu; simp at hu; rcases hu with rfl | rfl <;> rfl) (by simp) ?_
      refine fun w hs => ⟨trivial, ?_⟩
      refine ns_done ?_
      have hs : St w0 (pts b7 (.cells #[.int .i64 x.key, .int .i64 x.val] 45 (0, 0)) * _) w := hs
      refine WP_seq ?_
      -- R5
      refine WP_seqr [⟨0, 0, []⟩, ⟨1, 1, []⟩, ⟨2, 0, []⟩, ⟨3, 0, []⟩] (by kernel_rfl) ?_
      refine ns_fld fo_45_0 rfl rfl rfl ?_
      refine ns_ldB pl_2 hs rfl rfl rfl (by rfl) ?_
      refine ns_move rfl rfl ?_
      refine ns_cmp _ rfl rfl rfl rfl rfl ?_
      refine ns_done ?_
      refine WP_if rfl (fun hif2 => ?_) (fun hif2 => ?_)
      · -- R6
        refine WP_seqr [⟨0, 0, []⟩, ⟨1, 1, []⟩, ⟨2, 2, []⟩, ⟨3, 2, []⟩, ⟨4, 0, []⟩] (by kernel_rfl) ?_
        refine ns_move rfl rfl ?_
        refine ns_ldAB [.int .i64 x.key, .int .i64 x.val] ag_45 hs rfl rfl rfl (by rfl) (by rfl) (by decide) ?_
        refine ns_lit [itV x] [.int .i64 x.key, .int .i64 x.val] sl_34 zr_45 (by decide) (by decide) hs rfl rfl rfl rfl (by simp [Value.cells, itV]) rfl ?_
        refine fun b21 w hs hx => ⟨trivial, ?_⟩
        refine ns_app [.int .i64 x.key, .int .i64 x.val] sl_34 zr_45 by_45 rfl (by decide) (hs.foc (IArr out ((l.take i).filter fun y => y.key != k))) rfl rfl rfl rfl rfl (St.cells (n := 2) hs (by rfl)) (by intro u hu; simp at hu; rcases hu with rfl | rfl <;> rfl) (by simp only [maxLen]; omega) (by omega) ?_
        refine fun v22 w hs hv => ⟨trivial, ?_⟩
        refine ns_asg rfl rfl ?_
        refine ns_done ?_
        have hif2 : (x.key != k) = true := hif2
        rw [if_pos hif2] at e2
        refine ⟨v22, rfl, rfl, rfl, rfl, rfl, ?_⟩
        rw [e2]
        have hs := hs.up (Ent.of_eq (IArr_eq (l := ((l.take i).filter fun y => y.key != k) ++ [x]) (by simp) (by rw [encs_append]; rfl)))
        exact hs.out
      refine WP_skip ?_
      have hif2 : (x.key != k) = false := hif2
      rw [hif2, if_neg (by decide), List.append_nil] at e2
      refine ⟨out, rfl, rfl, rfl, rfl, rfl, ?_⟩
      rw [e2]
      exact hs.out
    rintro σ w ⟨out, g1, g5, g9, g10, g11, hs⟩
    obtain ⟨σ, rfl⟩ := rebase g1
    obtain ⟨σ, rfl⟩ := rebase (σ := σ) g5
    obtain ⟨σ, rfl⟩ := rebase (σ := σ) g9
    obtain ⟨σ, rfl⟩ := rebase (σ := σ) g10
    obtain ⟨σ, rfl⟩ := rebase (σ := σ) g11
    clear g1 g5 g9 g10 g11
    -- R7
    refine WP_seqr [⟨0, 0, []⟩, ⟨1, 0, []⟩] (by kernel_rfl) ?_
    refine ns_add rfl rfl rfl rfl (by omega) (by omega) ?_
    refine ns_move rfl rfl ?_
    refine ns_done ?_
    exact ⟨l.length - (i + 1), by omega, i + 1, out, rfl, by omega, rfl, rfl, rfl, rfl, rfl, hs⟩
    
  rintro σ w ⟨out, g5, hs⟩
  obtain ⟨σ, rfl⟩ := rebase g5
  refine WP_seq ?_
  -- R8
  refine WP_seqr [⟨0, 0, []⟩, ⟨1, 0, []⟩] (by kernel_rfl) ?_
  refine ns_move rfl rfl ?_
  refine ns_asg rfl rfl ?_
  refine ns_done ?_
  refine WP_ret ?_
  refine ⟨_, res1 _, ?_⟩
  show St w0 ((R * IArr out (rem l k)) * F) w
  exact hs.out
set_option maxHeartbeats 1600000 in
theorem f31_ok (R : HProp) (v : Value) (l : List It) (k : Int) (hR : RdI R v l) (hll : l.length < 1000000) : Tri Try.prog 31 #[v, .int .i64 k] R fun r => pu (r = ans (get l k)) * R := by
  obtain ⟨hxl, a1, c1, rfl, hc1, hrd⟩ := hR
  intro w0 F w hs
  refine calls_WP 21 #[.cell 4 45, .tmp 5] Try.func31 rfl Try.ntmps31 rfl (Nat.le_of_ble_eq_true rfl) ?_
  refine WP_seq ?_
  -- R0
  refine WP_seqr [⟨0, 2, []⟩, ⟨1, 0, []⟩] (by kernel_rfl) ?_
  refine ns_alloc zc_45 hs rfl rfl ?_
  intro b4 w hs
  refine ns_asg rfl rfl ?_
  refine ns_done ?_
  refine WP_seq_cut (fun σ w => σ 4 = .pointer (some ⟨b4, 0, none⟩) ∧ get l k = none ∧ St w0 (pts b4 (.cells #[.int .i64 0, .int .i64 0] 45 (0, 0)) * (R * F)) w) ?_ ?_ -- S1
  · refine WP_seq ?_
    -- R1
    refine WP_seqr [⟨0, 0, []⟩, ⟨1, 0, []⟩, ⟨2, 0, []⟩] (by kernel_rfl) ?_
    refine ns_move rfl rfl ?_
    refine ns_len sl_34 rfl rfl rfl ?_
    refine ns_move rfl rfl ?_
    refine ns_done ?_
    refine WP_block ?_
    refine WP_loop (fun m σ w => ∃ i : Nat, m = l.length - i ∧ i ≤ l.length ∧ (∀ y ∈ l.take i, y.key ≠ k) ∧ σ 1 = .int .i64 k ∧ σ 4 = .pointer (some ⟨b4, 0, none⟩) ∧ σ 8 = .slice a1 l.length c1 ∧ σ 9 = .int .i64 (l.length : Int) ∧ σ 10 = .int .i64 (i : Int) ∧ St w0 (pts b4 (.cells #[.int .i64 0, .int .i64 0] 45 (0, 0)) * (R * F)) w) l.length ?_ ?_ -- L1
    · exact ⟨0, rfl, Nat.zero_le _, (fun y hy => by simp at hy), rfl, rfl, rfl, rfl, rfl, hs.out⟩
    rintro m σ w ⟨i, rfl, hi, hn, g1, g4, g8, g9, g10, hs⟩
    obtain ⟨σ, rfl⟩ := rebase g1
    obtain ⟨σ, rfl⟩ := rebase (σ := σ) g4
    obtain ⟨σ, rfl⟩ := rebase (σ := σ) g8
    obtain ⟨σ, rfl⟩ := rebase (σ := σ) g9
    obtain ⟨σ, rfl⟩ := rebase (σ := σ) g10
    clear g1 g4 g8 g9 g10
    refine WP_seq ?_
    -- R2
    refine WP_seqr [⟨0, 0, []⟩] (by kernel_rfl) ?_
    refine ns_cmp _ rfl rfl rfl rfl rfl ?_
    refine ns_done ?_
    refine WP_seq ?_ -- S2
    refine WP_if' rfl (fun hif1 => ?_) (fun hif1 => ?_)
    · refine WP_exit ?_
      have hi2 : i = l.length := by have := of_decide_eq_false hif1; omega
      subst hi2
      rw [List.take_length] at hn
      exact ⟨rfl, get_none.2 hn, hs⟩
    refine WP_skip ?_
    have hi2 : i < l.length := by have := of_decide_eq_true hif1; omega
    obtain ⟨x, hxi⟩ : ∃ x, l[i]? = some x := ⟨l[i]'hi2, List.getElem?_eq_getElem hi2⟩
    obtain ⟨g, q, rfl, hat⟩ := hrd (by omega)
    refine WP_seq ?_ -- S3
    refine WP_block ?_
    refine WP_seq ?_
    -- R3
    refine WP_seqr [⟨0, 0, []⟩, ⟨1, 1, []⟩, ⟨2, 2, []⟩, ⟨3, 2, []⟩] (by kernel_rfl) ?_
    refine ns_idx i sl_34 rfl rfl rfl rfl rfl hi2 ?_
    refine ns_ldA [.int .i64 x.key, .int .i64 x.val] ag_45 rfl rfl rfl rfl (by decide) (item_cells hat (hs.foc R) hxi) ?_
    refine ns_alloc zc_45 hs rfl rfl ?_
    intro b7 w hs
    refine ns_stA (#[.int .i64 x.key, .int .i64 x.val]) ag_45 rfl (by decide) hs rfl rfl rfl rfl (by intro u hu; simp at hu; rcases hu with rfl | rfl <;> rfl) (by simp) ?_
    refine fun w hs => ⟨trivial, ?_⟩
    refine ns_done ?_
    have hs : St w0 (pts b7 (.cells #[.int .i64 x.key, .int .i64 x.val] 45 (0, 0)) * _) w := hs
    refine WP_seq ?_
    -- R4
    refine WP_seqr [⟨0, 0, []⟩, ⟨1, 1, []⟩, ⟨2, 0, []⟩, ⟨3, 0, []⟩] (by kernel_rfl) ?_
    refine ns_fld fo_45_0 rfl rfl rfl ?_
    refine ns_ldB pl_2 hs rfl rfl rfl (by rfl) ?_
    refine ns_move rfl rfl ?_
    refine ns_cmp _ rfl rfl rfl rfl rfl ?_
    refine ns_done ?_
    refine WP_if rfl (fun hif2 => ?_) (fun hif2 => ?_)
    · refine WP_seq ?_
      -- R5
      refine WP_seqr [⟨0, 1, []⟩, ⟨1, 2, []⟩, ⟨2, 0, []⟩] (by kernel_rfl) ?_
      refine ns_ldAB [.int .i64 x.key, .int .i64 x.val] ag_45 hs rfl rfl rfl (by rfl) (by rfl) (by decide) ?_
      refine ns_stA (#[.int .i64 x.key, .int .i64 x.val]) ag_45 rfl (by decide) hs rfl rfl rfl rfl (by intro u hu; simp at hu; rcases hu with rfl | rfl <;> rfl) (by simp) ?_
      refine fun w hs => ⟨trivial, ?_⟩
      refine ns_asg rfl rfl ?_
      refine ns_done ?_
      refine WP_ret ?_
      have hk : x.key = k := by have : (x.key == k) = true := hif2; simpa using this
      have hg := find_at hxi hn hk
      have hload := run_loadVarA (P := Try.prog) (t := 45) (n := 2) (ad := ⟨b4, 0, none⟩) (vs := [.int .i64 x.key, .int .i64 x.val]) ag_45 rfl (by decide) w (St.cells (n := 2) hs (by rfl))
      refine ⟨_, resCT 4 45 5 rfl hload, ?_⟩
      rw [hg]
      exact St.mk_pu rfl hs.out
    refine WP_skip ?_
    have hk : x.key ≠ k := by have : (x.key == k) = false := hif2; simpa using this
    -- R6
    refine WP_seqr [⟨0, 0, []⟩, ⟨1, 0, []⟩] (by kernel_rfl) ?_
    refine ns_add rfl rfl rfl rfl (by omega) (by omega) ?_
    refine ns_move rfl rfl ?_
    refine ns_done ?_
    exact ⟨l.length - (i + 1), by omega, i + 1, rfl, by omega, (fun y hy => by
      rw [take_snoc hxi] at hy
      rcases List.mem_append.1 hy with hy | hy
      · exact hn y hy
      · rw [List.mem_singleton.1 hy]; exact hk), rfl, rfl, rfl, rfl, rfl, hs.out⟩
    
  rintro σ w ⟨g4, hg, hs⟩
  obtain ⟨σ, rfl⟩ := rebase g4
  clear g4
  refine WP_seq ?_
  -- R7
  refine WP_seqr [⟨0, 0, []⟩, ⟨1, 2, []⟩, ⟨2, 0, []⟩] (by kernel_rfl) ?_
  refine ns_build [] (#[.int .i64 0, .int .i64 0]) pp_45 zc_45 rfl rfl rfl rfl ?_
  refine ns_stA (#[.int .i64 0, .int .i64 0]) ag_45 rfl (by decide) hs rfl rfl rfl rfl (by intro u hu; simp at hu; rcases hu with rfl | rfl <;> rfl) (by simp) ?_
  refine fun w hs => ⟨trivial, ?_⟩
  refine ns_asg rfl rfl ?_
  refine ns_done ?_
  refine WP_ret ?_
  have hload := run_loadVarA (P := Try.prog) (t := 45) (n := 2) (ad := ⟨b4, 0, none⟩) (vs := [.int .i64 zero.key, .int .i64 zero.val]) ag_45 rfl (by decide) w (St.cells (n := 2) hs (by rfl))
  refine ⟨_, resCT 4 45 5 rfl hload, ?_⟩
  rw [hg]
  exact St.mk_pu rfl hs.out
set_option maxHeartbeats 3200000 in
theorem f11_ok (R : HProp) (v : Value) (os : List Sop) (d key : Int) (hR : RdO R v os) : Tri Try.prog 11 #[.int .i64 d, v, .int .i64 key] R fun r => pu (r = .bool true) * R := by
  obtain ⟨_, a1, c1, rfl, hc1, hrd⟩ := id hR
  intro w0 F w hs
  refine calls_WP 60 #[.tmp 6] Try.func11 rfl Try.ntmps11 rfl (Nat.le_of_ble_eq_true rfl) ?_
  refine WP_seq ?_
  -- R0
  refine WP_seqr [⟨0, 0, []⟩] (by kernel_rfl) ?_
  refine ns_asg rfl rfl ?_
  refine ns_done ?_
  refine WP_seq ?_ -- S1
  refine WP_seq ?_
  -- R1
  refine WP_seqr [⟨0, 0, []⟩, ⟨1, 0, []⟩, ⟨2, 0, []⟩] (by kernel_rfl) ?_
  refine ns_move rfl rfl ?_
  refine ns_len sl_24 rfl rfl rfl ?_
  refine ns_cmp _ rfl rfl rfl rfl rfl ?_
  refine ns_done ?_
  refine WP_if rfl (fun hif1 => ?_) (fun hif1 => ?_)
  · refine WP_seq ?_
    -- R2
    refine WP_seqr [⟨0, 0, []⟩] (by kernel_rfl) ?_
    refine ns_asg rfl rfl ?_
    refine ns_done ?_
    refine WP_ret ?_
    exact ⟨_, res1 _, St.mk_pu rfl hs.out⟩
  refine WP_skip ?_
  refine WP_seq ?_ -- S2
  refine WP_seq ?_
  -- R3
  refine WP_seqr [⟨0, 0, []⟩, ⟨1, 0, []⟩, ⟨2, 2, []⟩, ⟨3, 0, []⟩] (by kernel_rfl) ?_
  refine ns_move rfl rfl ?_
  refine ns_move rfl rfl ?_
  refine ns_call (f20_ok d a1 os.length c1) ck_20 (hs.foc 1) rfl rfl rfl rfl ?_
  intro v17 w hs
  replace hs := hs.pure
  obtain ⟨rfl, hs⟩ := hs
  refine ns_not rfl rfl rfl ?_
  refine ns_done ?_
  refine WP_if rfl (fun hif2 => ?_) (fun hif2 => ?_)
  · refine WP_seq ?_
    -- R4
    refine WP_seqr [⟨0, 0, []⟩] (by kernel_rfl) ?_
    refine ns_asg rfl rfl ?_
    refine ns_done ?_
    refine WP_ret ?_
    exact ⟨_, res1 _, St.mk_pu rfl hs.out⟩
  refine WP_skip ?_
  have hfit : 2 ≤ d ∧ d ≤ 1000 ∧ os.length ≤ 2000 := by simpa using hif2
  obtain ⟨hd, hd2, hn⟩ := hfit
  obtain ⟨D, rfl⟩ : ∃ D : Nat, d = D := ⟨d.toNat, by omega⟩
  have hlen := heldT_len os
  have hsrt := held_srt (onT os)
  refine WP_seq ?_
  -- R5
  refine WP_seqr [⟨0, 0, []⟩, ⟨1, 0, []⟩, ⟨2, 0, []⟩, ⟨3, 0, []⟩, ⟨4, 0, []⟩, ⟨5, 0, []⟩, ⟨6, 2, []⟩, ⟨7, 2, []⟩, ⟨8, 2, []⟩, ⟨9, 0, []⟩, ⟨10, 0, []⟩, ⟨11, 0, []⟩, ⟨12, 0, []⟩, ⟨13, 0, []⟩] (by kernel_rfl) ?_
  refine ns_move rfl rfl ?_
  refine ns_move rfl rfl ?_
  refine ns_move rfl rfl ?_
  refine ns_build [(0, .int .i64 2), (2, .int .i64 key)] (opC (kkL 2 key 0)) pp_26 zc_26 rfl rfl rfl rfl ?_
  refine ns_move rfl rfl ?_
  refine ns_build [(0, .int .i64 1), (2, .int .i64 key), (4, .int .i64 7)] (opC (kkL 1 key 7)) pp_26 zc_26 rfl rfl rfl rfl ?_
  refine ns_call (f21_ok 9 0 0) ck_21 (hs.foc 1) rfl rfl rfl rfl ?_
  intro v26 w hs
  replace hs := hs.pure
  obtain ⟨rfl, hs⟩ := hs
  refine ns_lit [opV (kkL 2 key 0), opV (kkL 1 key 7), opV (allL 9 0 0)] (encO [kkL 2 key 0, kkL 1 key 7, allL 9 0 0]) sl_24 zr_26 (by decide) (by decide) hs rfl rfl rfl rfl (by simp [Value.cells, opV, opC]) rfl ?_
  refine fun b27 w hs hx => ⟨trivial, ?_⟩
  have hmore : RdO (R * pts b27 (.cells (encO [kkL 2 key 0, kkL 1 key 7, allL 9 0 0]).toArray 26 (0, 0))) (.slice (some ⟨b27, 0, none⟩) 3 3) [kkL 2 key 0, kkL 1 key 7, allL 9 0 0] := (lit_rdO b27 [kkL 2 key 0, kkL 1 key 7, allL 9 0 0] (0, 0)).up
  refine ns_call (f22_ok (R * pts b27 (.cells (encO [kkL 2 key 0, kkL 1 key 7, allL 9 0 0]).toArray 26 (0, 0))) (.slice a1 os.length c1) _ os [kkL 2 key 0, kkL 1 key 7, allL 9 0 0] D hR.up hmore (by simp) (by omega) (by omega) (by omega) (by simp) (by simp [allL, kkL])) ck_22 (hs.foc (R * pts b27 (.cells (encO [kkL 2 key 0, kkL 1 key 7, allL 9 0 0]).toArray 26 (0, 0)))) rfl rfl rfl rfl ?_
  intro v28 w hs
  replace hs := hs.ex
  obtain ⟨⟨s, R2⟩, hs⟩ := hs
  replace hs := hs.pu
  obtain ⟨⟨rfl, hra⟩, hs⟩ := hs
  simp only [mul_assoc'] at hs
  generalize afterL [] (onT os) = l at hra hlen hsrt
  rw [run_found l key (by omega)] at hra
  obtain ⟨a4, c4, rfl, hc4⟩ := id hra.form
  obtain ⟨g2, o2, _, s2, e, hi2, hc2⟩ := hra.get (i := 2) rfl
  cases e
  have hi2 : RdI R2 s2 l := hi2
  obtain ⟨g0, o0, _, s0, e, hi0, hc0⟩ := hra.get (i := 0) rfl
  cases e
  refine ns_move rfl rfl ?_
  refine ns_ext rfl rfl rfl rfl ?_
  refine ns_ext rfl rfl rfl rfl ?_
  refine ns_asg rfl rfl ?_
  refine ns_asg rfl rfl ?_
  refine ns_done ?_
  refine WP_seq ?_ -- S3
  refine WP_seq ?_
  -- R6
  refine WP_seqr [⟨0, 0, []⟩, ⟨1, 0, []⟩] (by kernel_rfl) ?_
  refine ns_move rfl rfl ?_
  refine ns_not rfl rfl rfl ?_
  refine ns_done ?_
  refine WP_false rfl ?_ -- if3
  refine WP_skip ?_
  refine WP_seq ?_
  -- R8
  refine WP_seqr [⟨0, 0, []⟩, ⟨1, 0, []⟩, ⟨2, 0, []⟩, ⟨3, 1, []⟩, ⟨4, 0, []⟩, ⟨5, 2, []⟩, ⟨6, 0, []⟩, ⟨7, 0, []⟩, ⟨8, 0, []⟩, ⟨9, 2, []⟩, ⟨10, 2, []⟩, ⟨11, 0, []⟩] (by kernel_rfl) ?_
  refine ns_move rfl rfl ?_
  refine ns_idx 2 sl_28 rfl rfl rfl rfl rfl (by simp) ?_
  refine ns_fld fo_36_2 rfl rfl rfl ?_
  refine ns_ld pl_34 rfl rfl rfl ((hc2 _ _ _ (hs.foc R2)).at 2 rfl) ?_
  refine ns_move rfl rfl ?_
  refine ns_call (f31_ok R2 s2 l key hi2 (by omega)) ck_31 (hs.foc R2) rfl rfl rfl rfl ?_
  intro v39 w hs
  replace hs := hs.pu
  obtain ⟨rfl, hs⟩ := hs
  try simp only [mul_assoc'] at hs
  refine ns_move rfl rfl ?_
  refine ns_ext rfl rfl rfl rfl ?_
  refine ns_ext rfl rfl rfl rfl ?_
  refine ns_alloc zc_45 hs rfl rfl ?_
  intro b9 w hs
  refine ns_stA (#[.int .i64 ((get l key).getD zero).key, .int .i64 ((get l key).getD zero).val]) ag_45 rfl (by decide) hs rfl rfl rfl rfl (by intro u hu; simp at hu; rcases hu with rfl | rfl <;> rfl) (by simp) ?_
  refine fun w hs => ⟨trivial, ?_⟩
  refine ns_asg rfl rfl ?_
  refine ns_done ?_
  refine WP_seq ?_
  -- R9
  refine WP_seqr [⟨0, 0, []⟩, ⟨1, 2, []⟩, ⟨2, 2, []⟩] (by kernel_rfl) ?_
  refine ns_build [] (#[.bool false, .int .i64 0, .slice none 0 0]) pp_36 zc_36 rfl rfl rfl rfl ?_
  refine ns_alloc zc_36 hs rfl rfl ?_
  intro b11 w hs
  refine ns_stA (#[.bool false, .int .i64 0, .slice none 0 0]) ag_36 rfl (by decide) hs rfl rfl rfl rfl (by intro u hu; simp at hu; rcases hu with rfl | rfl | rfl <;> rfl) (by simp) ?_
  refine fun w hs => ⟨trivial, ?_⟩
  refine ns_done ?_
  have hs : St w0 (pts b11 (.cells #[.bool false, .int .i64 0, .slice none 0 0] 36 (0, 0)) * (pts b9 (.cells #[.int .i64 ((get l key).getD zero).key, .int .i64 ((get l key).getD zero).val] 45 (0, 0)) * _)) w := hs
  refine WP_seq_cut (fun σ w => ∃ (s11 : Value) (R3 : HProp), RdI R3 s11 (get l key).toList ∧ σ 7 = .slice (some ⟨g2, o2, none⟩) 3 c4 ∧ σ 10 = .bool (get l key).isSome ∧ σ 11 = .pointer (some ⟨b11, 0, none⟩) ∧ St w0 (pts b11 (.cells #[.bool (get l key).isSome, .int .i64 0, s11] 36 (0, 0)) * (R3 * (R * (R2 * F)))) w) ?_ ?_ -- S4
  · refine WP_seq ?_
    -- R10
    refine WP_seqr [⟨0, 0, []⟩] (by kernel_rfl) ?_
    refine ns_move rfl rfl ?_
    refine ns_done ?_
    refine WP_if rfl (fun hif4 => ?_) (fun hif4 => ?_)
    · -- R11
      refine WP_seqr [⟨0, 1, []⟩, ⟨1, 2, []⟩, ⟨2, 0, []⟩, ⟨3, 2, []⟩] (by kernel_rfl) ?_
      refine ns_ldAB [.int .i64 ((get l key).getD zero).key, .int .i64 ((get l key).getD zero).val] ag_45 hs rfl rfl rfl (by rfl) (by rfl) (by decide) ?_
      refine ns_lit [itV ((get l key).getD zero)] (encs [((get l key).getD zero)]) sl_34 zr_45 (by decide) (by decide) hs rfl rfl rfl rfl (by simp [Value.cells, itV]) rfl ?_
      refine fun b45 w hs hx => ⟨trivial, ?_⟩
      refine ns_build [(0, .bool true), (2, .slice (some ⟨b45, 0, none⟩) 1 1)] (#[.bool true, .int .i64 0, .slice (some ⟨b45, 0, none⟩) 1 1]) pp_36 zc_36 rfl rfl rfl rfl ?_
      refine ns_stA (#[.bool true, .int .i64 0, .slice (some ⟨b45, 0, none⟩) 1 1]) ag_36 rfl (by decide) hs rfl rfl rfl rfl (by intro u hu; simp at hu; rcases hu with rfl | rfl | rfl <;> rfl) (by simp) ?_
      refine fun w hs => ⟨trivial, ?_⟩
      refine ns_done ?_
      have hsm : (get l key).isSome = true := hif4
      obtain ⟨x, hx⟩ := Option.isSome_iff_exists.1 hsm
      have hr : RdI (pts b45 (.cells (encs [((get l key).getD zero)]).toArray 45 (0, 0))) (.slice (some ⟨b45, 0, none⟩) 1 1) (get l key).toList := by
        rw [hx]; exact lit_rdI b45 [x] (0, 0)
      refine ⟨_, _, hr, rfl, rfl, rfl, ?_⟩
      rw [hsm]
      have hs : St w0 (_ * (pts b11 (.cells #[.bool true, .int .i64 0, .slice (some ⟨b45, 0, none⟩) 1 1] 36 (0, 0)) * _)) w := hs
      exact hs.out
    refine WP_skip ?_
    have hsm : (get l key).isSome = false := hif4
    have hx : get l key = none := by simpa using hsm
    refine ⟨.slice none 0 0, 1, by rw [hx]; exact nil_rdI 1, rfl, rfl, rfl, ?_⟩
    rw [hsm, one_mul']
    exact hs.out
  rintro σ w ⟨s11, R3, hr3, g7, g10, g11, hs⟩
  obtain ⟨σ, rfl⟩ := rebase g7
  obtain ⟨σ, rfl⟩ := rebase (σ := σ) g10
  obtain ⟨σ, rfl⟩ := rebase (σ := σ) g11
  clear g7 g10 g11
  refine WP_seq ?_
  -- R12
  refine WP_net hs mix [0, 1, 3, 7, 0, 31, 63, 127, 255, 127, 639, 2047, 4095, 8191] [⟨0, 0, []⟩, ⟨1, 0, []⟩, ⟨2, 0, []⟩, ⟨3, 1, []⟩, ⟨4, 0, []⟩, ⟨5, 0, []⟩, ⟨6, 0, []⟩, ⟨7, 0, []⟩, ⟨8, 0, []⟩, ⟨9, 1, []⟩, ⟨10, 2, []⟩, ⟨11, 2, []⟩, ⟨12, 0, []⟩, ⟨13, 0, []⟩] (by kernel_rfl) ?_
  intro w hs
  refine ns_move rfl rfl ?_
  refine ns_idx 0 sl_28 rfl rfl rfl rfl rfl (by decide) ?_
  refine ns_fld fo_36_0 rfl rfl rfl ?_
  refine ns_ld pl_4 rfl rfl rfl ((hc0 _ _ _ (hs.foc R2)).at 0 rfl) ?_
  refine ns_move rfl rfl ?_
  refine ns_beq2 true bl_4 rfl rfl rfl rfl (by simp) ?_
  refine ns_move rfl rfl ?_
  refine ns_move rfl rfl ?_
  refine ns_sliceLH 1 2 sl_28 rfl rfl rfl rfl rfl rfl rfl (by decide) (by simp at hc4; omega) ?_
  refine ns_ldAB [.bool (get l key).isSome, .int .i64 0, s11] ag_36 hs rfl rfl rfl (by rfl) (by rfl) (by decide) ?_
  refine ns_lit [.agg #[.bool (get l key).isSome, .int .i64 0, s11]] (encA [oneA (get l key)] [s11]) sl_28 zr_36 (by decide) (by decide) hs rfl rfl rfl rfl (by simp [Value.cells]) rfl ?_
  refine fun b57 w hs hx => ⟨trivial, ?_⟩
  have hq1 : RdA R2 _ [oneA (get l key)] := RdA.part rfl hra 1 2 (by decide) (by simp)
  have hq2 := lit_rdA b57 [oneA (get l key)] [s11] R3 (0, 0) rfl (rd_one hr3)
  refine ns_call (f25_ok (R2 * (R3 * pts b57 (.cells (encA [oneA (get l key)] [s11]).toArray 36 (0, 0)))) _ _ [oneA (get l key)] (RdA.up hq1) (RdA.up hq2) (by simp) (by
    intro x hx
    rw [List.mem_singleton.1 hx]
    show (get l key).toList.length < 1000000
    cases get l key <;> simp)) ck_25 (hs.foc (R2 * (R3 * pts b57 (.cells (encA [oneA (get l key)] [s11]).toArray 36 (0, 0))))) rfl rfl rfl rfl ?_
  intro v58 w hs
  replace hs := hs.pu
  obtain ⟨rfl, hs⟩ := hs
  try simp only [mul_assoc'] at hs
  refine ns_pick rfl rfl rfl ?_
  refine ns_asg rfl rfl ?_
  refine ns_done ?_
  refine WP_ret ?_
  exact ⟨_, res1 _, St.mk_pu rfl hs.out⟩
end Go.Proofs.Ytnnembkganlbpaa
/- The walks of the laws on an item put in twice, taken out, put in and taken out again: FnPutTwice, FnDeleted, FnUndone. -/
namespace Go.Proofs.Ytnnembkganlbpaa
open Go Go.Sl Go.Net Go.Wk Go.Bt Go.RowKit

theorem rd_nil (R : HProp) : ∀ (i : Nat) (x : An) (y : Value), ([] : List An)[i]? = some x → ([] : List Value)[i]? = some y → RdI R y x.items := by
  intro i x y hx
  simp at hx
theorem rd_cons {R : HProp} {a : An} {s : Value} {al : List An} {ss : List Value} (h : RdI R s a.items) (ht : ∀ (i : Nat) (x : An) (y : Value), al[i]? = some x → ss[i]? = some y → RdI R y x.items) :
    ∀ (i : Nat) (x : An) (y : Value), (a :: al)[i]? = some x → (s :: ss)[i]? = some y → RdI R y x.items := by
  intro i x y hx hy
  cases i with
  | zero => cases hx; cases hy; exact h
  | succ i => exact ht i x y hx hy
set_option maxHeartbeats 6400000 in
theorem f14_ok (R : HProp) (v : Value) (os : List Sop) (d key value other : Int) (hR : RdO R v os) : Tri Try.prog 14 #[.int .i64 d, v, .int .i64 key, .int .i64 value, .int .i64 other] R fun r => pu (r = .bool true) * R := by
  obtain ⟨_, a1, c1, rfl, hc1, hrd⟩ := id hR
  intro w0 F w hs
  refine calls_WP 84 #[.tmp 10] Try.func14 rfl Try.ntmps14 rfl (Nat.le_of_ble_eq_true rfl) ?_
  refine WP_seq ?_
  -- R0
  refine WP_seqr [⟨0, 0, []⟩] (by kernel_rfl) ?_
  refine ns_asg rfl rfl ?_
  refine ns_done ?_
  refine WP_seq ?_ -- S1
  refine WP_seq ?_
  -- R1
  refine WP_seqr [⟨0, 0, []⟩, ⟨1, 0, []⟩, ⟨2, 0, []⟩] (by kernel_rfl) ?_
  refine ns_move rfl rfl ?_
  refine ns_len sl_24 rfl rfl rfl ?_
  refine ns_cmp _ rfl rfl rfl rfl rfl ?_
  refine ns_done ?_
  refine WP_if rfl (fun hif1 => ?_) (fun hif1 => ?_)
  · refine WP_seq ?_
    -- R2
    refine WP_seqr [⟨0, 0, []⟩] (by kernel_rfl) ?_
    refine ns_asg rfl rfl ?_
    refine ns_done ?_
    refine WP_ret ?_
    exact ⟨_, res1 _, St.mk_pu rfl hs.out⟩
  refine WP_skip ?_
  refine WP_seq ?_ -- S2
  refine WP_seq ?_
  -- R3
  refine WP_seqr [⟨0, 0, []⟩, ⟨1, 0, []⟩, ⟨2, 2, []⟩, ⟨3, 0, []⟩] (by kernel_rfl) ?_
  refine ns_move rfl rfl ?_
  refine ns_move rfl rfl ?_
  refine ns_call (f20_ok d a1 os.length c1) ck_20 (hs.foc 1) rfl rfl rfl rfl ?_
  intro v24 w hs
  replace hs := hs.pure
  obtain ⟨rfl, hs⟩ := hs
  refine ns_not rfl rfl rfl ?_
  refine ns_done ?_
  refine WP_if rfl (fun hif2 => ?_) (fun hif2 => ?_)
  · refine WP_seq ?_
    -- R4
    refine WP_seqr [⟨0, 0, []⟩] (by kernel_rfl) ?_
    refine ns_asg rfl rfl ?_
    refine ns_done ?_
    refine WP_ret ?_
    exact ⟨_, res1 _, St.mk_pu rfl hs.out⟩
  refine WP_skip ?_
  have hfit : 2 ≤ d ∧ d ≤ 1000 ∧ os.length ≤ 2000 := by simpa using hif2
  obtain ⟨hd, hd2, hn⟩ := hfit
  obtain ⟨D, rfl⟩ : ∃ D : Nat, d = D := ⟨d.toNat, by omega⟩
  have hlen := heldT_len os
  have hsrt := held_srt (onT os)
  refine WP_seq ?_
  -- R5
  refine WP_seqr [⟨0, 0, []⟩, ⟨1, 0, []⟩, ⟨2, 0, []⟩, ⟨3, 0, []⟩, ⟨4, 0, []⟩, ⟨5, 0, []⟩, ⟨6, 2, []⟩, ⟨7, 2, []⟩, ⟨8, 2, []⟩, ⟨9, 2, []⟩] (by kernel_rfl) ?_
  refine ns_move rfl rfl ?_
  refine ns_move rfl rfl ?_
  refine ns_build [(0, .int .i64 0), (2, .int .i64 key), (4, .int .i64 value)] (#[.int .i64 0, .int .i64 0, .int .i64 key, .int .i64 0, .int .i64 value, .int .i64 0]) pp_26 zc_26 rfl rfl rfl rfl ?_
  refine ns_move rfl rfl ?_
  refine ns_move rfl rfl ?_
  refine ns_build [(0, .int .i64 0), (2, .int .i64 key), (4, .int .i64 other)] (#[.int .i64 0, .int .i64 0, .int .i64 key, .int .i64 0, .int .i64 other, .int .i64 0]) pp_26 zc_26 rfl rfl rfl rfl ?_
  refine ns_alloc zc_26 hs rfl rfl ?_
  intro b11 w hs
  refine ns_alloc zc_26 hs rfl rfl ?_
  intro b12 w hs
  refine ns_stA (#[.int .i64 0, .int .i64 0, .int .i64 key, .int .i64 0, .int .i64 value, .int .i64 0]) ag_26 rfl (by decide) hs rfl rfl rfl rfl (by intro u hu; simp at hu; rcases hu with rfl | rfl | rfl | rfl | rfl | rfl <;> rfl) (by simp) ?_
  refine fun w hs => ⟨trivial, ?_⟩
  refine ns_stA (#[.int .i64 0, .int .i64 0, .int .i64 key, .int .i64 0, .int .i64 other, .int .i64 0]) ag_26 rfl (by decide) hs rfl rfl rfl rfl (by intro u hu; simp at hu; rcases hu with rfl | rfl | rfl | rfl | rfl | rfl <;> rfl) (by simp) ?_
  refine fun w hs => ⟨trivial, ?_⟩
  refine ns_done ?_
  have hs : St w0 (pts b12 (.cells #[.int .i64 0, .int .i64 0, .int .i64 key, .int .i64 0, .int .i64 other, .int .i64 0] 26 (0, 0)) * (pts b11 (.cells #[.int .i64 0, .int .i64 0, .int .i64 key, .int .i64 0, .int .i64 value, .int .i64 0] 26 (0, 0)) * _)) w := hs
  refine WP_seq ?_
  -- R6
  refine WP_seqr [⟨0, 0, []⟩, ⟨1, 0, []⟩, ⟨2, 0, []⟩, ⟨3, 2, []⟩, ⟨4, 2, []⟩, ⟨5, 2, []⟩, ⟨6, 2, []⟩] (by kernel_rfl) ?_
  refine ns_move rfl rfl ?_
  refine ns_build [(0, .int .i64 1), (2, .int .i64 key)] (#[.int .i64 1, .int .i64 0, .int .i64 key, .int .i64 0, .int .i64 0, .int .i64 0]) pp_26 zc_26 rfl rfl rfl rfl ?_
  refine ns_build [(0, .int .i64 8)] (#[.int .i64 8, .int .i64 0, .int .i64 0, .int .i64 0, .int .i64 0, .int .i64 0]) pp_26 zc_26 rfl rfl rfl rfl ?_
  refine ns_alloc zc_26 hs rfl rfl ?_
  intro b13 w hs
  refine ns_alloc zc_26 hs rfl rfl ?_
  intro b14 w hs
  refine ns_stA (#[.int .i64 1, .int .i64 0, .int .i64 key, .int .i64 0, .int .i64 0, .int .i64 0]) ag_26 rfl (by decide) hs rfl rfl rfl rfl (by intro u hu; simp at hu; rcases hu with rfl | rfl | rfl | rfl | rfl | rfl <;> rfl) (by simp) ?_
  refine fun w hs => ⟨trivial, ?_⟩
  refine ns_stA (#[.int .i64 8, .int .i64 0, .int .i64 0, .int .i64 0, .int .i64 0, .int .i64 0]) ag_26 rfl (by decide) hs rfl rfl rfl rfl (by intro u hu; simp at hu; rcases hu with rfl | rfl | rfl | rfl | rfl | rfl <;> rfl) (by simp) ?_
  refine fun w hs => ⟨trivial, ?_⟩
  refine ns_done ?_
  have hs : St w0 (pts b14 (.cells #[.int .i64 8, .int .i64 0, .int .i64 0, .int .i64 0, .int .i64 0, .int .i64 0] 26 (0, 0)) * (pts b13 (.cells #[.int .i64 1, .int .i64 0, .int .i64 key, .int .i64 0, .int .i64 0, .int .i64 0] 26 (0, 0)) * _)) w := hs
  refine WP_seq ?_
  -- R7
  refine WP_seqr [⟨0, 0, []⟩, ⟨1, 0, []⟩, ⟨2, 1, []⟩, ⟨3, 1, []⟩, ⟨4, 1, []⟩, ⟨5, 1, []⟩, ⟨6, 1, []⟩, ⟨7, 1, []⟩, ⟨8, 2, []⟩, ⟨9, 2, []⟩, ⟨10, 0, []⟩, ⟨11, 0, []⟩, ⟨12, 0, []⟩, ⟨13, 0, []⟩, ⟨14, 0, []⟩] (by kernel_rfl) ?_
  refine ns_move rfl rfl ?_
  refine ns_move rfl rfl ?_
  refine ns_ldAB [.int .i64 0, .int .i64 0, .int .i64 key, .int .i64 0, .int .i64 value, .int .i64 0] ag_26 hs rfl rfl rfl (by rfl) (by rfl) (by decide) ?_
  refine ns_ldAB [.int .i64 1, .int .i64 0, .int .i64 key, .int .i64 0, .int .i64 0, .int .i64 0] ag_26 hs rfl rfl rfl (by rfl) (by rfl) (by decide) ?_
  refine ns_ldAB [.int .i64 8, .int .i64 0, .int .i64 0, .int .i64 0, .int .i64 0, .int .i64 0] ag_26 hs rfl rfl rfl (by rfl) (by rfl) (by decide) ?_
  refine ns_ldAB [.int .i64 0, .int .i64 0, .int .i64 key, .int .i64 0, .int .i64 other, .int .i64 0] ag_26 hs rfl rfl rfl (by rfl) (by rfl) (by decide) ?_
  refine ns_ldAB [.int .i64 1, .int .i64 0, .int .i64 key, .int .i64 0, .int .i64 0, .int .i64 0] ag_26 hs rfl rfl rfl (by rfl) (by rfl) (by decide) ?_
  refine ns_ldAB [.int .i64 8, .int .i64 0, .int .i64 0, .int .i64 0, .int .i64 0, .int .i64 0] ag_26 hs rfl rfl rfl (by rfl) (by rfl) (by decide) ?_
  refine ns_lit [opV (kkL 0 key value), opV (kkL 1 key 0), opV (kdL 8), opV (kkL 0 key other), opV (kkL 1 key 0), opV (kdL 8)] (encO [kkL 0 key value, kkL 1 key 0, kdL 8, kkL 0 key other, kkL 1 key 0, kdL 8]) sl_24 zr_26 (by decide) (by decide) hs rfl rfl rfl rfl (by simp [Value.cells, opV, opC]) rfl ?_
  refine fun b44 w hs hx => ⟨trivial, ?_⟩
  have hmore : RdO (R * pts b44 (.cells (encO [kkL 0 key value, kkL 1 key 0, kdL 8, kkL 0 key other, kkL 1 key 0, kdL 8]).toArray 26 (0, 0))) (.slice (some ⟨b44, 0, none⟩) 6 6) [kkL 0 key value, kkL 1 key 0, kdL 8, kkL 0 key other, kkL 1 key 0, kdL 8] := (lit_rdO b44 [kkL 0 key value, kkL 1 key 0, kdL 8, kkL 0 key other, kkL 1 key 0, kdL 8] (0, 0)).up
  refine ns_call (f22_ok (R * pts b44 (.cells (encO [kkL 0 key value, kkL 1 key 0, kdL 8, kkL 0 key other, kkL 1 key 0, kdL 8]).toArray 26 (0, 0))) (.slice a1 os.length c1) _ os [kkL 0 key value, kkL 1 key 0, kdL 8, kkL 0 key other, kkL 1 key 0, kdL 8] D hR.up hmore (by simp) (by omega) (by omega) (by omega) (by simp) (by simp [kdL, kkL])) ck_22 (hs.foc (R * pts b44 (.cells (encO [kkL 0 key value, kkL 1 key 0, kdL 8, kkL 0 key other, kkL 1 key 0, kdL 8]).toArray 26 (0, 0)))) rfl rfl rfl rfl ?_
  intro v45 w hs
  replace hs := hs.ex
  obtain ⟨⟨s, R2⟩, hs⟩ := hs
  replace hs := hs.pu
  obtain ⟨⟨rfl, hra⟩, hs⟩ := hs
  simp only [mul_assoc'] at hs
  generalize afterL [] (onT os) = l at hra hlen hsrt
  rw [run_twice hsrt key value other] at hra
  have hpos := len_put_pos hsrt ⟨key, value⟩
  obtain ⟨a4, c4, rfl, hc4⟩ := id hra.form
  obtain ⟨g2, o2, _, s2, e, hi2, hc2⟩ := hra.get (i := 2) rfl
  cases e
  refine ns_move rfl rfl ?_
  refine ns_ext rfl rfl rfl rfl ?_
  refine ns_ext rfl rfl rfl rfl ?_
  refine ns_asg rfl rfl ?_
  refine ns_asg rfl rfl ?_
  refine ns_done ?_
  refine WP_seq ?_ -- S3
  refine WP_seq ?_
  -- R8
  refine WP_seqr [⟨0, 0, []⟩, ⟨1, 0, []⟩] (by kernel_rfl) ?_
  refine ns_move rfl rfl ?_
  refine ns_not rfl rfl rfl ?_
  refine ns_done ?_
  refine WP_false rfl ?_ -- if3
  refine WP_skip ?_
  refine WP_seq ?_
  -- R10
  refine WP_seqr [⟨0, 0, []⟩, ⟨1, 0, []⟩, ⟨2, 0, []⟩, ⟨3, 2, []⟩, ⟨4, 0, []⟩, ⟨5, 2, []⟩, ⟨6, 2, []⟩] (by kernel_rfl) ?_
  refine ns_move rfl rfl ?_
  refine ns_move rfl rfl ?_
  refine ns_build [(0, .int .i64 key), (1, .int .i64 value)] (#[.int .i64 key, .int .i64 value]) pp_45 zc_45 rfl rfl rfl rfl ?_
  refine ns_lit [itV ⟨key, value⟩] (encs [⟨key, value⟩]) sl_34 zr_45 (by decide) (by decide) hs rfl rfl rfl rfl (by simp [Value.cells, itV]) rfl ?_
  refine fun b53 w hs hx => ⟨trivial, ?_⟩
  refine ns_build [(0, .bool true), (2, .slice (some ⟨b53, 0, none⟩) 1 1)] (#[.bool true, .int .i64 0, .slice (some ⟨b53, 0, none⟩) 1 1]) pp_36 zc_36 rfl rfl rfl rfl ?_
  refine ns_alloc zc_36 hs rfl rfl ?_
  intro b17 w hs
  refine ns_stA (#[.bool true, .int .i64 0, .slice (some ⟨b53, 0, none⟩) 1 1]) ag_36 rfl (by decide) hs rfl rfl rfl rfl (by intro u hu; simp at hu; rcases hu with rfl | rfl | rfl <;> rfl) (by simp) ?_
  refine fun w hs => ⟨trivial, ?_⟩
  refine ns_done ?_
  have hs : St w0 (pts b17 (.cells #[.bool true, .int .i64 0, .slice (some ⟨b53, 0, none⟩) 1 1] 36 (0, 0)) * _) w := hs
  refine WP_seq ?_
  -- R11
  refine WP_seqr [⟨0, 0, []⟩, ⟨1, 0, []⟩, ⟨2, 0, []⟩, ⟨3, 2, []⟩, ⟨4, 0, []⟩, ⟨5, 2, []⟩, ⟨6, 2, []⟩] (by kernel_rfl) ?_
  refine ns_move rfl rfl ?_
  refine ns_move rfl rfl ?_
  refine ns_build [(0, .int .i64 key), (1, .int .i64 other)] (#[.int .i64 key, .int .i64 other]) pp_45 zc_45 rfl rfl rfl rfl ?_
  refine ns_lit [itV ⟨key, other⟩] (encs [⟨key, other⟩]) sl_34 zr_45 (by decide) (by decide) hs rfl rfl rfl rfl (by simp [Value.cells, itV]) rfl ?_
  refine fun b58 w hs hx => ⟨trivial, ?_⟩
  refine ns_build [(0, .bool true), (2, .slice (some ⟨b58, 0, none⟩) 1 1)] (#[.bool true, .int .i64 0, .slice (some ⟨b58, 0, none⟩) 1 1]) pp_36 zc_36 rfl rfl rfl rfl ?_
  refine ns_alloc zc_36 hs rfl rfl ?_
  intro b18 w hs
  refine ns_stA (#[.bool true, .int .i64 0, .slice (some ⟨b58, 0, none⟩) 1 1]) ag_36 rfl (by decide) hs rfl rfl rfl rfl (by intro u hu; simp at hu; rcases hu with rfl | rfl | rfl <;> rfl) (by simp) ?_
  refine fun w hs => ⟨trivial, ?_⟩
  refine ns_done ?_
  have hs : St w0 (pts b18 (.cells #[.bool true, .int .i64 0, .slice (some ⟨b58, 0, none⟩) 1 1] 36 (0, 0)) * _) w := hs
  refine WP_seq ?_
  -- R12
  refine WP_net hs mix [0, 1, 0, 0, 8, 24, 56, 120, 0, 0, 0, 1024, 3072, 7168, 15360, 32764, 65535, 131071, 262143, 524287, 1048575, 2097151, 4194303, 8388607, 16777215] [⟨0, 0, []⟩, ⟨1, 0, []⟩, ⟨2, 1, []⟩, ⟨3, 0, []⟩, ⟨4, 0, []⟩, ⟨5, 0, []⟩, ⟨6, 1, []⟩, ⟨7, 0, []⟩, ⟨8, 1, []⟩, ⟨9, 1, []⟩, ⟨10, 0, []⟩, ⟨11, 0, []⟩, ⟨12, 0, []⟩, ⟨13, 1, []⟩, ⟨14, 0, []⟩, ⟨15, 2, []⟩, ⟨16, 2, []⟩, ⟨17, 0, []⟩, ⟨18, 0, []⟩, ⟨19, 0, []⟩, ⟨20, 0, []⟩, ⟨21, 1, []⟩, ⟨22, 0, []⟩, ⟨23, 0, []⟩, ⟨24, 0, []⟩] (by kernel_rfl) ?_
  intro w hs
  refine ns_move rfl rfl ?_
  refine ns_sliceLo 1 sl_28 rfl rfl rfl rfl rfl (by simp) ?_
  refine ns_ldAB [.bool true, .int .i64 0, .slice (some ⟨b53, 0, none⟩) 1 1] ag_36 hs rfl rfl rfl (by rfl) (by rfl) (by decide) ?_
  refine ns_move rfl rfl ?_
  refine ns_idx 2 sl_28 rfl rfl rfl rfl rfl (by simp) ?_
  refine ns_fld fo_36_1 rfl rfl rfl ?_
  refine ns_ld pl_2 rfl rfl rfl ((hc2 _ _ _ (hs.foc R2)).at 1 rfl) ?_
  refine ns_build [(1, .int .i64 (put l ⟨key, value⟩).length)] (#[.bool false, .int .i64 (put l ⟨key, value⟩).length, .slice none 0 0]) pp_36 zc_36 rfl rfl rfl rfl ?_
  refine ns_ldAB [.bool true, .int .i64 0, .slice (some ⟨b53, 0, none⟩) 1 1] ag_36 hs rfl rfl rfl (by rfl) (by rfl) (by decide) ?_
  refine ns_ldAB [.bool true, .int .i64 0, .slice (some ⟨b58, 0, none⟩) 1 1] ag_36 hs rfl rfl rfl (by rfl) (by rfl) (by decide) ?_
  refine ns_move rfl rfl ?_
  refine ns_idx 2 sl_28 rfl rfl rfl rfl rfl (by simp) ?_
  refine ns_fld fo_36_1 rfl rfl rfl ?_
  refine ns_ld pl_2 rfl rfl rfl ((hc2 _ _ _ (hs.foc R2)).at 1 rfl) ?_
  refine ns_build [(1, .int .i64 (put l ⟨key, value⟩).length)] (#[.bool false, .int .i64 (put l ⟨key, value⟩).length, .slice none 0 0]) pp_36 zc_36 rfl rfl rfl rfl ?_
  refine ns_lit [.agg #[.bool true, .int .i64 0, .slice (some ⟨b53, 0, none⟩) 1 1], .agg #[.bool false, .int .i64 (put l ⟨key, value⟩).length, .slice none 0 0], .agg #[.bool true, .int .i64 0, .slice (some ⟨b53, 0, none⟩) 1 1], .agg #[.bool true, .int .i64 0, .slice (some ⟨b58, 0, none⟩) 1 1], .agg #[.bool false, .int .i64 (put l ⟨key, value⟩).length, .slice none 0 0]] (encA [⟨true, 0, [⟨key, value⟩]⟩, ⟨false, (put l ⟨key, value⟩).length, []⟩, ⟨true, 0, [⟨key, value⟩]⟩, ⟨true, 0, [⟨key, other⟩]⟩, ⟨false, (put l ⟨key, value⟩).length, []⟩] [.slice (some ⟨b53, 0, none⟩) 1 1, .slice none 0 0, .slice (some ⟨b53, 0, none⟩) 1 1, .slice (some ⟨b58, 0, none⟩) 1 1, .slice none 0 0]) sl_28 zr_36 (by decide) (by decide) hs rfl rfl rfl rfl (by simp [Value.cells]) rfl ?_
  refine fun b75 w hs hx => ⟨trivial, ?_⟩
  have hq1 : RdA R2 _ [⟨true, 0, [⟨key, value⟩]⟩, ⟨false, (put l ⟨key, value⟩).length, []⟩, ⟨true, 0, [⟨key, value⟩]⟩, ⟨true, 0, [⟨key, other⟩]⟩, ⟨false, (put l ⟨key, value⟩).length, []⟩] := RdA.tail rfl hra 1 (by simp)
  have hi53 : RdI (pts b53 (.cells (encs [⟨key, value⟩]).toArray 45 (0, 0)) * pts b58 (.cells (encs [⟨key, other⟩]).toArray 45 (0, 0))) (.slice (some ⟨b53, 0, none⟩) 1 1) [⟨key, value⟩] := (lit_rdI b53 [⟨key, value⟩] (0, 0)).up
  have hi58 : RdI (pts b53 (.cells (encs [⟨key, value⟩]).toArray 45 (0, 0)) * pts b58 (.cells (encs [⟨key, other⟩]).toArray 45 (0, 0))) (.slice (some ⟨b58, 0, none⟩) 1 1) [⟨key, other⟩] := (lit_rdI b58 [⟨key, other⟩] (0, 0)).up
  have hq2 := lit_rdA b75 [⟨true, 0, [⟨key, value⟩]⟩, ⟨false, (put l ⟨key, value⟩).length, []⟩, ⟨true, 0, [⟨key, value⟩]⟩, ⟨true, 0, [⟨key, other⟩]⟩, ⟨false, (put l ⟨key, value⟩).length, []⟩] [.slice (some ⟨b53, 0, none⟩) 1 1, .slice none 0 0, .slice (some ⟨b53, 0, none⟩) 1 1, .slice (some ⟨b58, 0, none⟩) 1 1, .slice none 0 0] (pts b53 (.cells (encs [⟨key, value⟩]).toArray 45 (0, 0)) * pts b58 (.cells (encs [⟨key, other⟩]).toArray 45 (0, 0))) (0, 0) rfl (rd_cons hi53 (rd_cons (nil_rdI _) (rd_cons hi53 (rd_cons hi58 (rd_cons (nil_rdI _) (rd_nil _))))))
  refine ns_call (f25_ok (R2 * (pts b53 (.cells (encs [⟨key, value⟩]).toArray 45 (0, 0)) * (pts b58 (.cells (encs [⟨key, other⟩]).toArray 45 (0, 0)) * pts b75 (.cells (encA [⟨true, 0, [⟨key, value⟩]⟩, ⟨false, (put l ⟨key, value⟩).length, []⟩, ⟨true, 0, [⟨key, value⟩]⟩, ⟨true, 0, [⟨key, other⟩]⟩, ⟨false, (put l ⟨key, value⟩).length, []⟩] [.slice (some ⟨b53, 0, none⟩) 1 1, .slice none 0 0, .slice (some ⟨b53, 0, none⟩) 1 1, .slice (some ⟨b58, 0, none⟩) 1 1, .slice none 0 0]).toArray 36 (0, 0))))) _ _ [⟨true, 0, [⟨key, value⟩]⟩, ⟨false, (put l ⟨key, value⟩).length, []⟩, ⟨true, 0, [⟨key, value⟩]⟩, ⟨true, 0, [⟨key, other⟩]⟩, ⟨false, (put l ⟨key, value⟩).length, []⟩] (RdA.up hq1) (RdA.up hq2) (by simp) (by
    intro x hx
    simp only [List.mem_cons, List.not_mem_nil, or_false] at hx
    rcases hx with rfl | rfl | rfl | rfl | rfl <;> simp)) ck_25 (hs.foc (R2 * (pts b53 (.cells (encs [⟨key, value⟩]).toArray 45 (0, 0)) * (pts b58 (.cells (encs [⟨key, other⟩]).toArray 45 (0, 0)) * pts b75 (.cells (encA [⟨true, 0, [⟨key, value⟩]⟩, ⟨false, (put l ⟨key, value⟩).length, []⟩, ⟨true, 0, [⟨key, value⟩]⟩, ⟨true, 0, [⟨key, other⟩]⟩, ⟨false, (put l ⟨key, value⟩).length, []⟩] [.slice (some ⟨b53, 0, none⟩) 1 1, .slice none 0 0, .slice (some ⟨b53, 0, none⟩) 1 1, .slice (some ⟨b58, 0, none⟩) 1 1, .slice none 0 0]).toArray 36 (0, 0)))))) rfl rfl rfl rfl ?_
  intro v76 w hs
  replace hs := hs.pu
  obtain ⟨rfl, hs⟩ := hs
  try simp only [mul_assoc'] at hs
  refine ns_move rfl rfl ?_
  refine ns_move rfl rfl ?_
  refine ns_idx 2 sl_28 rfl rfl rfl rfl rfl (by simp) ?_
  refine ns_fld fo_36_1 rfl rfl rfl ?_
  refine ns_ld pl_2 rfl rfl rfl ((hc2 _ _ _ (hs.foc R2)).at 1 rfl) ?_
  refine ns_cmp true rfl rfl rfl rfl (congrArg some (decide_eq_true (by show (1 : Int) ≤ (((put l ⟨key, value⟩).length : Nat) : Int); omega))) ?_
  refine ns_pick rfl rfl rfl ?_
  refine ns_asg rfl rfl ?_
  refine ns_done ?_
  refine WP_ret ?_
  exact ⟨_, res1 _, St.mk_pu rfl hs.out⟩
set_option maxHeartbeats 6400000 in
theorem f8_ok (R : HProp) (v : Value) (os : List Sop) (d key : Int) (hR : RdO R v os) : Tri Try.prog 8 #[.int .i64 d, v, .int .i64 key] R fun r => pu (r = .bool true) * R := by
  obtain ⟨_, a1, c1, rfl, hc1, hrd⟩ := id hR
  intro w0 F w hs
  refine calls_WP 62 #[.tmp 6] Try.func8 rfl Try.ntmps8 rfl (Nat.le_of_ble_eq_true rfl) ?_
  refine WP_seq ?_
  -- R0
  refine WP_seqr [⟨0, 0, []⟩] (by kernel_rfl) ?_
  refine ns_asg rfl rfl ?_
  refine ns_done ?_
  refine WP_seq ?_ -- S1
  refine WP_seq ?_
  -- R1
  refine WP_seqr [⟨0, 0, []⟩, ⟨1, 0, []⟩, ⟨2, 0, []⟩] (by kernel_rfl) ?_
  refine ns_move rfl rfl ?_
  refine ns_len sl_24 rfl rfl rfl ?_
  refine ns_cmp _ rfl rfl rfl rfl rfl ?_
  refine ns_done ?_
  refine WP_if rfl (fun hif1 => ?_) (fun hif1 => ?_)
  · refine WP_seq ?_
    -- R2
    refine WP_seqr [⟨0, 0, []⟩] (by kernel_rfl) ?_
    refine ns_asg rfl rfl ?_
    refine ns_done ?_
    refine WP_ret ?_
    exact ⟨_, res1 _, St.mk_pu rfl hs.out⟩
  refine WP_skip ?_
  refine WP_seq ?_ -- S2
  refine WP_seq ?_
  -- R3
  refine WP_seqr [⟨0, 0, []⟩, ⟨1, 0, []⟩, ⟨2, 2, []⟩, ⟨3, 0, []⟩] (by kernel_rfl) ?_
  refine ns_move rfl rfl ?_
  refine ns_move rfl rfl ?_
  refine ns_call (f20_ok d a1 os.length c1) ck_20 (hs.foc 1) rfl rfl rfl rfl ?_
  intro v16 w hs
  replace hs := hs.pure
  obtain ⟨rfl, hs⟩ := hs
  refine ns_not rfl rfl rfl ?_
  refine ns_done ?_
  refine WP_if rfl (fun hif2 => ?_) (fun hif2 => ?_)
  · refine WP_seq ?_
    -- R4
    refine WP_seqr [⟨0, 0, []⟩] (by kernel_rfl) ?_
    refine ns_asg rfl rfl ?_
    refine ns_done ?_
    refine WP_ret ?_
    exact ⟨_, res1 _, St.mk_pu rfl hs.out⟩
  refine WP_skip ?_
  have hfit : 2 ≤ d ∧ d ≤ 1000 ∧ os.length ≤ 2000 := by simpa using hif2
  obtain ⟨hd, hd2, hn⟩ := hfit
  obtain ⟨D, rfl⟩ : ∃ D : Nat, d = D := ⟨d.toNat, by omega⟩
  have hlen := heldT_len os
  have hsrt := held_srt (onT os)
  refine WP_seq ?_
  -- R5
  refine WP_seqr [⟨0, 0, []⟩, ⟨1, 0, []⟩, ⟨2, 0, []⟩, ⟨3, 0, []⟩, ⟨4, 2, []⟩, ⟨5, 2, []⟩, ⟨6, 2, []⟩, ⟨7, 2, []⟩] (by kernel_rfl) ?_
  refine ns_move rfl rfl ?_
  refine ns_build [(0, .int .i64 1), (2, .int .i64 key)] (#[.int .i64 1, .int .i64 0, .int .i64 key, .int .i64 0, .int .i64 0, .int .i64 0]) pp_26 zc_26 rfl rfl rfl rfl ?_
  refine ns_move rfl rfl ?_
  refine ns_build [(0, .int .i64 3), (2, .int .i64 key), (4, .int .i64 5)] (#[.int .i64 3, .int .i64 0, .int .i64 key, .int .i64 0, .int .i64 5, .int .i64 0]) pp_26 zc_26 rfl rfl rfl rfl ?_
  refine ns_alloc zc_26 hs rfl rfl ?_
  intro b7 w hs
  refine ns_alloc zc_26 hs rfl rfl ?_
  intro b8 w hs
  refine ns_stA (#[.int .i64 1, .int .i64 0, .int .i64 key, .int .i64 0, .int .i64 0, .int .i64 0]) ag_26 rfl (by decide) hs rfl rfl rfl rfl (by intro u hu; simp at hu; rcases hu with rfl | rfl | rfl | rfl | rfl | rfl <;> rfl) (by simp) ?_
  refine fun w hs => ⟨trivial, ?_⟩
  refine ns_stA (#[.int .i64 3, .int .i64 0, .int .i64 key, .int .i64 0, .int .i64 5, .int .i64 0]) ag_26 rfl (by decide) hs rfl rfl rfl rfl (by intro u hu; simp at hu; rcases hu with rfl | rfl | rfl | rfl | rfl | rfl <;> rfl) (by simp) ?_
  refine fun w hs => ⟨trivial, ?_⟩
  refine ns_done ?_
  have hs : St w0 (pts b8 (.cells #[.int .i64 3, .int .i64 0, .int .i64 key, .int .i64 0, .int .i64 5, .int .i64 0] 26 (0, 0)) * (pts b7 (.cells #[.int .i64 1, .int .i64 0, .int .i64 key, .int .i64 0, .int .i64 0, .int .i64 0] 26 (0, 0)) * _)) w := hs
  refine WP_seq ?_
  -- R6
  refine WP_net hs mix [0, 0, 0, 0, 0, 0, 0, 4, 252, 511, 1023, 2047, 2047, 4095, 16383] [⟨0, 0, []⟩, ⟨1, 0, []⟩, ⟨3, 1, []⟩, ⟨4, 1, []⟩, ⟨5, 1, []⟩, ⟨6, 1, []⟩, ⟨2, 2, [3, 4, 5, 6]⟩, ⟨7, 2, [3, 4, 5, 6]⟩, ⟨8, 2, []⟩, ⟨9, 2, []⟩, ⟨10, 0, []⟩, ⟨11, 0, []⟩, ⟨12, 0, []⟩, ⟨13, 0, []⟩, ⟨14, 0, []⟩] (by kernel_rfl) ?_
  intro w hs
  refine ns_move rfl rfl ?_
  refine ns_move rfl rfl ?_
  refine ns_ldAB [.int .i64 1, .int .i64 0, .int .i64 key, .int .i64 0, .int .i64 0, .int .i64 0] ag_26 hs rfl rfl rfl (by rfl) (by rfl) (by decide) ?_
  refine ns_ldAB [.int .i64 3, .int .i64 0, .int .i64 key, .int .i64 0, .int .i64 5, .int .i64 0] ag_26 hs rfl rfl rfl (by rfl) (by rfl) (by decide) ?_
  refine ns_ldAB [.int .i64 1, .int .i64 0, .int .i64 key, .int .i64 0, .int .i64 0, .int .i64 0] ag_26 hs rfl rfl rfl (by rfl) (by rfl) (by decide) ?_
  refine ns_ldAB [.int .i64 3, .int .i64 0, .int .i64 key, .int .i64 0, .int .i64 5, .int .i64 0] ag_26 hs rfl rfl rfl (by rfl) (by rfl) (by decide) ?_
  refine ns_callK (f21_ok 9 0 0) ck_21 (hs.foc 1) rfl rfl rfl rfl ?_
  refine fun v25 w hs => ?_
  replace hs := hs.pure
  obtain ⟨rfl, hs⟩ := hs
  refine ⟨⟨St.cells (n := 6) (b := b7) (o := 0) hs (by rfl), St.cells (n := 6) (b := b8) (o := 0) hs (by rfl), St.cells (n := 6) (b := b7) (o := 0) hs (by rfl), St.cells (n := 6) (b := b8) (o := 0) hs (by rfl), trivial⟩, ?_⟩
  refine ns_callK (f21_ok 9 0 0) ck_21 (hs.foc 1) rfl rfl rfl rfl ?_
  refine fun v30 w hs => ?_
  replace hs := hs.pure
  obtain ⟨rfl, hs⟩ := hs
  refine ⟨⟨St.cells (n := 6) (b := b7) (o := 0) hs (by rfl), St.cells (n := 6) (b := b8) (o := 0) hs (by rfl), St.cells (n := 6) (b := b7) (o := 0) hs (by rfl), St.cells (n := 6) (b := b8) (o := 0) hs (by rfl), trivial⟩, ?_⟩
  refine ns_lit [opV (allL 9 0 0), opV (kkL 1 key 0), opV (kkL 3 key 5), opV (kkL 1 key 0), opV (kkL 3 key 5), opV (allL 9 0 0)] (encO [allL 9 0 0, kkL 1 key 0, kkL 3 key 5, kkL 1 key 0, kkL 3 key 5, allL 9 0 0]) sl_24 zr_26 (by decide) (by decide) hs rfl rfl rfl rfl (by simp [Value.cells, opV, opC]) rfl ?_
  refine fun b31 w hs hx => ⟨trivial, ?_⟩
  have hmore : RdO (R * pts b31 (.cells (encO [allL 9 0 0, kkL 1 key 0, kkL 3 key 5, kkL 1 key 0, kkL 3 key 5, allL 9 0 0]).toArray 26 (0, 0))) (.slice (some ⟨b31, 0, none⟩) 6 6) [allL 9 0 0, kkL 1 key 0, kkL 3 key 5, kkL 1 key 0, kkL 3 key 5, allL 9 0 0] := (lit_rdO b31 [allL 9 0 0, kkL 1 key 0, kkL 3 key 5, kkL 1 key 0, kkL 3 key 5, allL 9 0 0] (0, 0)).up
  refine ns_call (f22_ok (R * pts b31 (.cells (encO [allL 9 0 0, kkL 1 key 0, kkL 3 key 5, kkL 1 key 0, kkL 3 key 5, allL 9 0 0]).toArray 26 (0, 0))) (.slice a1 os.length c1) _ os [allL 9 0 0, kkL 1 key 0, kkL 3 key 5, kkL 1 key 0, kkL 3 key 5, allL 9 0 0] D hR.up hmore (by simp) (by omega) (by omega) (by omega) (by simp) (by simp [allL, kkL])) ck_22 (hs.foc (R * pts b31 (.cells (encO [allL 9 0 0, kkL 1 key 0, kkL 3 key 5, kkL 1 key 0, kkL 3 key 5, allL 9 0 0]).toArray 26 (0, 0)))) rfl rfl rfl rfl ?_
  intro v32 w hs
  replace hs := hs.ex
  obtain ⟨⟨s, R2⟩, hs⟩ := hs
  replace hs := hs.pu
  obtain ⟨⟨rfl, hra⟩, hs⟩ := hs
  simp only [mul_assoc'] at hs
  generalize afterL [] (onT os) = l at hra hlen hsrt
  rw [run_deleted l key (by omega)] at hra
  obtain ⟨a4, c4, rfl, hc4⟩ := id hra.form
  obtain ⟨g0, o0, _, s0, e, hi0, hc0⟩ := hra.get (i := 0) rfl
  cases e
  obtain ⟨g5, o5, _, s5, e, hi5, hc5⟩ := hra.get (i := 5) rfl
  cases e
  have hi0 : RdI R2 s0 l := hi0
  have hi5 : RdI R2 s5 (rem l key) := hi5
  have hrl : (rem l key).length ≤ l.length := List.length_filter_le ..
  refine ns_move rfl rfl ?_
  refine ns_ext rfl rfl rfl rfl ?_
  refine ns_ext rfl rfl rfl rfl ?_
  refine ns_asg rfl rfl ?_
  refine ns_asg rfl rfl ?_
  refine ns_done ?_
  refine WP_seq ?_ -- S3
  refine WP_seq ?_
  -- R7
  refine WP_net hs mix [0, 1, 3, 7, 15, 7, 39, 127, 255, 511] [⟨0, 0, []⟩, ⟨1, 0, []⟩, ⟨2, 0, []⟩, ⟨3, 0, []⟩, ⟨4, 0, []⟩, ⟨5, 0, []⟩, ⟨6, 0, []⟩, ⟨7, 2, []⟩, ⟨8, 0, []⟩, ⟨9, 0, []⟩] (by kernel_rfl) ?_
  intro w hs
  refine ns_move rfl rfl ?_
  refine ns_not rfl rfl rfl ?_
  refine ns_move rfl rfl ?_
  refine ns_move rfl rfl ?_
  refine ns_sliceLH 1 2 sl_28 rfl rfl rfl rfl rfl rfl rfl (by decide) (by simp at hc4; omega) ?_
  refine ns_move rfl rfl ?_
  refine ns_sliceLH 2 3 sl_28 rfl rfl rfl rfl rfl rfl rfl (by decide) (by simp at hc4; omega) ?_
  have hq1 : RdA R2 _ [oneA (get l key)] := RdA.part rfl hra 1 2 (by decide) (by simp)
  have hq2 : RdA R2 _ [oneA (get l key)] := RdA.part rfl hra 2 3 (by decide) (by simp)
  refine ns_call (f25_ok R2 _ _ [oneA (get l key)] hq1 hq2 (by simp) (by
    intro x hx
    rw [List.mem_singleton.1 hx]
    show (get l key).toList.length < 1000000
    cases get l key <;> simp)) ck_25 (hs.foc R2) rfl rfl rfl rfl ?_
  intro v42 w hs
  replace hs := hs.pu
  obtain ⟨rfl, hs⟩ := hs
  try simp only [mul_assoc'] at hs
  refine ns_not rfl rfl rfl ?_
  refine ns_pick rfl rfl rfl ?_
  refine ns_done ?_
  refine WP_false rfl ?_ -- if3
  refine WP_skip ?_
  refine WP_seq ?_
  -- R9
  refine WP_net hs mix [0, 1, 0, 7, 15, 31, 63, 127, 255, 31, 543, 1567, 3615, 31, 15903, 32767, 65535, 131071] [⟨0, 0, []⟩, ⟨1, 0, []⟩, ⟨2, 2, []⟩, ⟨3, 2, []⟩, ⟨4, 0, []⟩, ⟨5, 0, []⟩, ⟨6, 0, []⟩, ⟨7, 0, []⟩, ⟨8, 1, []⟩, ⟨9, 0, []⟩, ⟨10, 0, []⟩, ⟨11, 0, []⟩, ⟨12, 1, []⟩, ⟨13, 0, []⟩, ⟨14, 2, [8]⟩, ⟨15, 2, []⟩, ⟨16, 0, []⟩, ⟨17, 0, []⟩] (by kernel_rfl) ?_
  intro w hs
  refine ns_move rfl rfl ?_
  refine ns_sliceLH 3 5 sl_28 rfl rfl rfl rfl rfl rfl rfl (by decide) (by simp at hc4; omega) ?_
  refine ns_makeN (n := 2) (encA [⟨false, 0, []⟩, ⟨false, 0, []⟩] [.slice none 0 0, .slice none 0 0]).toArray sl_28 zr_36 by_36 (by decide) (by decide) (by decide) hs rfl rfl rfl rfl (by decide) (by kernel_rfl) ?_
  refine fun b47 w hs _ => ⟨trivial, ?_⟩
  have hq3 : RdA R2 _ [⟨false, 0, []⟩, ⟨false, 0, []⟩] := RdA.part rfl hra 3 5 (by decide) (by simp)
  have hq4 := lit_rdA b47 [⟨false, 0, []⟩, ⟨false, 0, []⟩] [.slice none 0 0, .slice none 0 0] R2 (0, 0) rfl (rd_two (nil_rdI R2) (nil_rdI R2))
  refine ns_call (f25_ok (R2 * pts b47 (.cells (encA [⟨false, 0, []⟩, ⟨false, 0, []⟩] [.slice none 0 0, .slice none 0 0]).toArray 36 (0, 0))) _ _ [⟨false, 0, []⟩, ⟨false, 0, []⟩] (RdA.up hq3) hq4 (by simp) (by simp)) ck_25 (hs.foc (R2 * pts b47 (.cells (encA [⟨false, 0, []⟩, ⟨false, 0, []⟩] [.slice none 0 0, .slice none 0 0]).toArray 36 (0, 0)))) rfl rfl rfl rfl ?_
  intro v48 w hs
  replace hs := hs.pu
  obtain ⟨rfl, hs⟩ := hs
  try simp only [mul_assoc'] at hs
  refine ns_move rfl rfl ?_
  refine ns_move rfl rfl ?_
  refine ns_idx 5 sl_28 rfl rfl rfl rfl rfl (by simp) ?_
  refine ns_fld fo_36_2 rfl rfl rfl ?_
  refine ns_ld pl_34 rfl rfl rfl ((hc5 _ _ _ (hs.foc R2)).at 2 rfl) ?_
  refine ns_move rfl rfl ?_
  refine ns_idx 0 sl_28 rfl rfl rfl rfl rfl (by simp) ?_
  refine ns_fld fo_36_2 rfl rfl rfl ?_
  refine ns_ld pl_34 rfl rfl rfl ((hc0 _ _ _ (hs.foc R2)).at 2 rfl) ?_
  refine ns_move rfl rfl ?_
  refine ns_callK (f30_ok R2 s0 l key hi0 (by omega)) ck_30 (hs.foc R2) rfl rfl rfl rfl ?_
  refine fun v59 w hs => ?_
  simp only [mul_assoc'] at hs
  refine ⟨⟨(hc5 _ _ _ (hs.foc R2)).at 2 rfl, trivial⟩, ?_⟩
  have hr59 : RdI (IArr v59 (rem l key)) v59 (rem l key) := Arr.rd (hs.foc (IArr v59 (rem l key)))
  refine ns_call (f26_ok (R2 * IArr v59 (rem l key)) s5 v59 (rem l key) (RdI.up hi5) (RdI.up hr59) (by omega)) ck_26 (hs.foc (R2 * IArr v59 (rem l key))) rfl rfl rfl rfl ?_
  intro v60 w hs
  replace hs := hs.pu
  obtain ⟨rfl, hs⟩ := hs
  try simp only [mul_assoc'] at hs
  refine ns_pick rfl rfl rfl ?_
  refine ns_asg rfl rfl ?_
  refine ns_done ?_
  refine WP_ret ?_
  exact ⟨_, res1 _, St.mk_pu rfl hs.out⟩
set_option maxHeartbeats 6400000 in
theorem f18_ok (R : HProp) (v : Value) (os : List Sop) (d key : Int) (hR : RdO R v os) : Tri Try.prog 18 #[.int .i64 d, v, .int .i64 key] R fun r => pu (r = .bool true) * R := by
  obtain ⟨_, a1, c1, rfl, hc1, hrd⟩ := id hR
  intro w0 F w hs
  refine calls_WP 57 #[.tmp 6] Try.func18 rfl Try.ntmps18 rfl (Nat.le_of_ble_eq_true rfl) ?_
  refine WP_seq ?_
  -- R0
  refine WP_seqr [⟨0, 0, []⟩] (by kernel_rfl) ?_
  refine ns_asg rfl rfl ?_
  refine ns_done ?_
  refine WP_seq ?_ -- S1
  refine WP_seq ?_
  -- R1
  refine WP_seqr [⟨0, 0, []⟩, ⟨1, 0, []⟩, ⟨2, 0, []⟩] (by kernel_rfl) ?_
  refine ns_move rfl rfl ?_
  refine ns_len sl_24 rfl rfl rfl ?_
  refine ns_cmp _ rfl rfl rfl rfl rfl ?_
  refine ns_done ?_
  refine WP_if rfl (fun hif1 => ?_) (fun hif1 => ?_)
  · refine WP_seq ?_
    -- R2
    refine WP_seqr [⟨0, 0, []⟩] (by kernel_rfl) ?_
    refine ns_asg rfl rfl ?_
    refine ns_done ?_
    refine WP_ret ?_
    exact ⟨_, res1 _, St.mk_pu rfl hs.out⟩
  refine WP_skip ?_
  refine WP_seq ?_ -- S2
  refine WP_seq ?_
  -- R3
  refine WP_seqr [⟨0, 0, []⟩, ⟨1, 0, []⟩, ⟨2, 2, []⟩, ⟨3, 0, []⟩] (by kernel_rfl) ?_
  refine ns_move rfl rfl ?_
  refine ns_move rfl rfl ?_
  refine ns_call (f20_ok d a1 os.length c1) ck_20 (hs.foc 1) rfl rfl rfl rfl ?_
  intro v17 w hs
  replace hs := hs.pure
  obtain ⟨rfl, hs⟩ := hs
  refine ns_not rfl rfl rfl ?_
  refine ns_done ?_
  refine WP_if rfl (fun hif2 => ?_) (fun hif2 => ?_)
  · refine WP_seq ?_
    -- R4
    refine WP_seqr [⟨0, 0, []⟩] (by kernel_rfl) ?_
    refine ns_asg rfl rfl ?_
    refine ns_done ?_
    refine WP_ret ?_
    exact ⟨_, res1 _, St.mk_pu rfl hs.out⟩
  refine WP_skip ?_
  have hfit : 2 ≤ d ∧ d ≤ 1000 ∧ os.length ≤ 2000 := by simpa using hif2
  obtain ⟨hd, hd2, hn⟩ := hfit
  obtain ⟨D, rfl⟩ : ∃ D : Nat, d = D := ⟨d.toNat, by omega⟩
  have hlen := heldT_len os
  have hsrt := held_srt (onT os)
  refine WP_seq ?_
  -- R5
  refine WP_seqr [⟨0, 2, []⟩, ⟨1, 2, []⟩, ⟨2, 2, []⟩, ⟨3, 2, []⟩, ⟨4, 2, []⟩, ⟨5, 2, []⟩] (by kernel_rfl) ?_
  refine ns_call (f21_ok 9 0 0) ck_21 (hs.foc 1) rfl rfl rfl rfl ?_
  intro v19 w hs
  replace hs := hs.pure
  obtain ⟨rfl, hs⟩ := hs
  refine ns_call (f21_ok 13 0 0) ck_21 (hs.foc 1) rfl rfl rfl rfl ?_
  intro v20 w hs
  replace hs := hs.pure
  obtain ⟨rfl, hs⟩ := hs
  refine ns_alloc zc_26 hs rfl rfl ?_
  intro b7 w hs
  refine ns_alloc zc_26 hs rfl rfl ?_
  intro b8 w hs
  refine ns_stA (#[.int .i64 9, .int .i64 0, .int .i64 0, .int .i64 0, .int .i64 0, .int .i64 4000]) ag_26 rfl (by decide) hs rfl rfl rfl rfl (by intro u hu; simp at hu; rcases hu with rfl | rfl | rfl | rfl | rfl | rfl <;> rfl) (by simp) ?_
  refine fun w hs => ⟨trivial, ?_⟩
  refine ns_stA (#[.int .i64 13, .int .i64 0, .int .i64 0, .int .i64 0, .int .i64 0, .int .i64 4000]) ag_26 rfl (by decide) hs rfl rfl rfl rfl (by intro u hu; simp at hu; rcases hu with rfl | rfl | rfl | rfl | rfl | rfl <;> rfl) (by simp) ?_
  refine fun w hs => ⟨trivial, ?_⟩
  refine ns_done ?_
  have hs : St w0 (pts b8 (.cells #[.int .i64 13, .int .i64 0, .int .i64 0, .int .i64 0, .int .i64 0, .int .i64 4000] 26 (0, 0)) * (pts b7 (.cells #[.int .i64 9, .int .i64 0, .int .i64 0, .int .i64 0, .int .i64 0, .int .i64 4000] 26 (0, 0)) * _)) w := hs
  refine WP_seq ?_
  -- R6
  refine WP_seqr [⟨0, 0, []⟩, ⟨1, 0, []⟩, ⟨2, 2, []⟩, ⟨3, 2, []⟩] (by kernel_rfl) ?_
  refine ns_move rfl rfl ?_
  refine ns_build [(0, .int .i64 3), (2, .int .i64 key)] (#[.int .i64 3, .int .i64 0, .int .i64 key, .int .i64 0, .int .i64 0, .int .i64 0]) pp_26 zc_26 rfl rfl rfl rfl ?_
  refine ns_alloc zc_26 hs rfl rfl ?_
  intro b9 w hs
  refine ns_stA (#[.int .i64 3, .int .i64 0, .int .i64 key, .int .i64 0, .int .i64 0, .int .i64 0]) ag_26 rfl (by decide) hs rfl rfl rfl rfl (by intro u hu; simp at hu; rcases hu with rfl | rfl | rfl | rfl | rfl | rfl <;> rfl) (by simp) ?_
  refine fun w hs => ⟨trivial, ?_⟩
  refine ns_done ?_
  have hs : St w0 (pts b9 (.cells #[.int .i64 3, .int .i64 0, .int .i64 key, .int .i64 0, .int .i64 0, .int .i64 0] 26 (0, 0)) * _) w := hs
  refine WP_seq ?_
  -- R7
  refine WP_seqr [⟨0, 0, []⟩, ⟨1, 0, []⟩, ⟨2, 1, []⟩, ⟨3, 1, []⟩, ⟨4, 1, []⟩, ⟨5, 0, []⟩, ⟨6, 0, []⟩, ⟨7, 1, []⟩, ⟨8, 1, []⟩, ⟨9, 1, []⟩, ⟨10, 2, []⟩, ⟨11, 2, []⟩, ⟨12, 0, []⟩, ⟨13, 0, []⟩, ⟨14, 0, []⟩, ⟨15, 0, []⟩, ⟨16, 0, []⟩] (by kernel_rfl) ?_
  refine ns_move rfl rfl ?_
  refine ns_move rfl rfl ?_
  refine ns_ldAB [.int .i64 3, .int .i64 0, .int .i64 key, .int .i64 0, .int .i64 0, .int .i64 0] ag_26 hs rfl rfl rfl (by rfl) (by rfl) (by decide) ?_
  refine ns_ldAB [.int .i64 9, .int .i64 0, .int .i64 0, .int .i64 0, .int .i64 0, .int .i64 4000] ag_26 hs rfl rfl rfl (by rfl) (by rfl) (by decide) ?_
  refine ns_ldAB [.int .i64 13, .int .i64 0, .int .i64 0, .int .i64 0, .int .i64 0, .int .i64 4000] ag_26 hs rfl rfl rfl (by rfl) (by rfl) (by decide) ?_
  refine ns_move rfl rfl ?_
  refine ns_build [(0, .int .i64 0), (2, .int .i64 key), (4, .int .i64 3)] (#[.int .i64 0, .int .i64 0, .int .i64 key, .int .i64 0, .int .i64 3, .int .i64 0]) pp_26 zc_26 rfl rfl rfl rfl ?_
  refine ns_ldAB [.int .i64 3, .int .i64 0, .int .i64 key, .int .i64 0, .int .i64 0, .int .i64 0] ag_26 hs rfl rfl rfl (by rfl) (by rfl) (by decide) ?_
  refine ns_ldAB [.int .i64 9, .int .i64 0, .int .i64 0, .int .i64 0, .int .i64 0, .int .i64 4000] ag_26 hs rfl rfl rfl (by rfl) (by rfl) (by decide) ?_
  refine ns_ldAB [.int .i64 13, .int .i64 0, .int .i64 0, .int .i64 0, .int .i64 0, .int .i64 4000] ag_26 hs rfl rfl rfl (by rfl) (by rfl) (by decide) ?_
  refine ns_lit [opV (kkL 3 key 0), opV (allL 9 0 0), opV (allL 13 0 0), opV (kkL 0 key 3), opV (kkL 3 key 0), opV (allL 9 0 0), opV (allL 13 0 0)] (encO [kkL 3 key 0, allL 9 0 0, allL 13 0 0, kkL 0 key 3, kkL 3 key 0, allL 9 0 0, allL 13 0 0]) sl_24 zr_26 (by decide) (by decide) hs rfl rfl rfl rfl (by simp [Value.cells, opV, opC]) rfl ?_
  refine fun b34 w hs hx => ⟨trivial, ?_⟩
  have hmore : RdO (R * pts b34 (.cells (encO [kkL 3 key 0, allL 9 0 0, allL 13 0 0, kkL 0 key 3, kkL 3 key 0, allL 9 0 0, allL 13 0 0]).toArray 26 (0, 0))) (.slice (some ⟨b34, 0, none⟩) 7 7) [kkL 3 key 0, allL 9 0 0, allL 13 0 0, kkL 0 key 3, kkL 3 key 0, allL 9 0 0, allL 13 0 0] := (lit_rdO b34 [kkL 3 key 0, allL 9 0 0, allL 13 0 0, kkL 0 key 3, kkL 3 key 0, allL 9 0 0, allL 13 0 0] (0, 0)).up
  refine ns_call (f22_ok (R * pts b34 (.cells (encO [kkL 3 key 0, allL 9 0 0, allL 13 0 0, kkL 0 key 3, kkL 3 key 0, allL 9 0 0, allL 13 0 0]).toArray 26 (0, 0))) (.slice a1 os.length c1) _ os [kkL 3 key 0, allL 9 0 0, allL 13 0 0, kkL 0 key 3, kkL 3 key 0, allL 9 0 0, allL 13 0 0] D hR.up hmore (by simp) (by omega) (by omega) (by omega) (by simp) (by simp [allL, kkL])) ck_22 (hs.foc (R * pts b34 (.cells (encO [kkL 3 key 0, allL 9 0 0, allL 13 0 0, kkL 0 key 3, kkL 3 key 0, allL 9 0 0, allL 13 0 0]).toArray 26 (0, 0)))) rfl rfl rfl rfl ?_
  intro v35 w hs
  replace hs := hs.ex
  obtain ⟨⟨s, R2⟩, hs⟩ := hs
  replace hs := hs.pu
  obtain ⟨⟨rfl, hra⟩, hs⟩ := hs
  simp only [mul_assoc'] at hs
  generalize afterL [] (onT os) = l at hra hlen hsrt
  rw [run_undone hsrt key (by omega)] at hra
  obtain ⟨a4, c4, rfl, hc4⟩ := id hra.form
  have hrl : (rem l key).length ≤ l.length := List.length_filter_le ..
  refine ns_move rfl rfl ?_
  refine ns_ext rfl rfl rfl rfl ?_
  refine ns_ext rfl rfl rfl rfl ?_
  refine ns_asg rfl rfl ?_
  refine ns_asg rfl rfl ?_
  refine ns_done ?_
  refine WP_seq ?_ -- S3
  refine WP_seq ?_
  -- R8
  refine WP_net hs mix [0, 1, 3, 7, 15, 7, 39, 127, 255, 511] [⟨0, 0, []⟩, ⟨1, 0, []⟩, ⟨2, 0, []⟩, ⟨3, 0, []⟩, ⟨4, 0, []⟩, ⟨5, 0, []⟩, ⟨6, 0, []⟩, ⟨7, 2, []⟩, ⟨8, 0, []⟩, ⟨9, 0, []⟩] (by kernel_rfl) ?_
  intro w hs
  refine ns_move rfl rfl ?_
  refine ns_not rfl rfl rfl ?_
  refine ns_move rfl rfl ?_
  refine ns_move rfl rfl ?_
  refine ns_sliceLH 1 3 sl_28 rfl rfl rfl rfl rfl rfl rfl (by decide) (by simp at hc4; omega) ?_
  refine ns_move rfl rfl ?_
  refine ns_sliceLH 5 7 sl_28 rfl rfl rfl rfl rfl rfl rfl (by decide) (by simp at hc4; omega) ?_
  have hq1 : RdA R2 _ [⟨false, 0, rem l key⟩, ⟨false, 0, (rem l key).reverse⟩] := RdA.part rfl hra 1 3 (by decide) (by simp)
  have hq2 : RdA R2 _ [⟨false, 0, rem l key⟩, ⟨false, 0, (rem l key).reverse⟩] := RdA.part rfl hra 5 7 (by decide) (by simp)
  refine ns_call (f25_ok R2 _ _ [⟨false, 0, rem l key⟩, ⟨false, 0, (rem l key).reverse⟩] hq1 hq2 (by simp) (by
    intro x hx
    simp only [List.mem_cons, List.not_mem_nil, or_false] at hx
    rcases hx with rfl | rfl
    · show (rem l key).length < 1000000
      omega
    · show (rem l key).reverse.length < 1000000
      rw [List.length_reverse]; omega)) ck_25 (hs.foc R2) rfl rfl rfl rfl ?_
  intro v45 w hs
  replace hs := hs.pu
  obtain ⟨rfl, hs⟩ := hs
  try simp only [mul_assoc'] at hs
  refine ns_not rfl rfl rfl ?_
  refine ns_pick rfl rfl rfl ?_
  refine ns_done ?_
  refine WP_false rfl ?_ -- if3
  refine WP_skip ?_
  refine WP_seq ?_
  -- R10
  refine WP_seqr [⟨0, 0, []⟩, ⟨1, 0, []⟩, ⟨2, 0, []⟩, ⟨3, 0, []⟩, ⟨4, 0, []⟩, ⟨5, 2, []⟩, ⟨6, 0, []⟩, ⟨7, 2, []⟩, ⟨8, 2, []⟩, ⟨9, 0, []⟩] (by kernel_rfl) ?_
  refine ns_move rfl rfl ?_
  refine ns_sliceLH 3 5 sl_28 rfl rfl rfl rfl rfl rfl rfl (by decide) (by simp at hc4; omega) ?_
  refine ns_build [] (#[.bool false, .int .i64 0, .slice none 0 0]) pp_36 zc_36 rfl rfl rfl rfl ?_
  refine ns_move rfl rfl ?_
  refine ns_build [(0, .int .i64 key), (1, .int .i64 3)] (#[.int .i64 key, .int .i64 3]) pp_45 zc_45 rfl rfl rfl rfl ?_
  refine ns_lit [itV ⟨key, 3⟩] (encs [⟨key, 3⟩]) sl_34 zr_45 (by decide) (by decide) hs rfl rfl rfl rfl (by simp [Value.cells, itV]) rfl ?_
  refine fun b53 w hs hx => ⟨trivial, ?_⟩
  refine ns_build [(0, .bool true), (2, .slice (some ⟨b53, 0, none⟩) 1 1)] (#[.bool true, .int .i64 0, .slice (some ⟨b53, 0, none⟩) 1 1]) pp_36 zc_36 rfl rfl rfl rfl ?_
  refine ns_lit [.agg #[.bool false, .int .i64 0, .slice none 0 0], .agg #[.bool true, .int .i64 0, .slice (some ⟨b53, 0, none⟩) 1 1]] (encA [⟨false, 0, []⟩, ⟨true, 0, [⟨key, 3⟩]⟩] [.slice none 0 0, .slice (some ⟨b53, 0, none⟩) 1 1]) sl_28 zr_36 (by decide) (by decide) hs rfl rfl rfl rfl (by simp [Value.cells]) rfl ?_
  refine fun b55 w hs hx => ⟨trivial, ?_⟩
  have hq3 : RdA R2 _ [⟨false, 0, []⟩, ⟨true, 0, [⟨key, 3⟩]⟩] := RdA.part rfl hra 3 5 (by decide) (by simp)
  have hq4 := lit_rdA b55 [⟨false, 0, []⟩, ⟨true, 0, [⟨key, 3⟩]⟩] [.slice none 0 0, .slice (some ⟨b53, 0, none⟩) 1 1] (pts b53 (.cells (encs [⟨key, 3⟩]).toArray 45 (0, 0))) (0, 0) rfl (rd_two (nil_rdI _) (lit_rdI b53 [⟨key, 3⟩] (0, 0)))
  refine ns_call (f25_ok (R2 * (pts b53 (.cells (encs [⟨key, 3⟩]).toArray 45 (0, 0)) * pts b55 (.cells (encA [⟨false, 0, []⟩, ⟨true, 0, [⟨key, 3⟩]⟩] [.slice none 0 0, .slice (some ⟨b53, 0, none⟩) 1 1]).toArray 36 (0, 0)))) _ _ [⟨false, 0, []⟩, ⟨true, 0, [⟨key, 3⟩]⟩] (RdA.up hq3) (RdA.up hq4) (by simp) (by
    intro x hx
    simp only [List.mem_cons, List.not_mem_nil, or_false] at hx
    rcases hx with rfl | rfl <;> simp)) ck_25 (hs.foc (R2 * (pts b53 (.cells (encs [⟨key, 3⟩]).toArray 45 (0, 0)) * pts b55 (.cells (encA [⟨false, 0, []⟩, ⟨true, 0, [⟨key, 3⟩]⟩] [.slice none 0 0, .slice (some ⟨b53, 0, none⟩) 1 1]).toArray 36 (0, 0))))) rfl rfl rfl rfl ?_
  intro v56 w hs
  replace hs := hs.pu
  obtain ⟨rfl, hs⟩ := hs
  try simp only [mul_assoc'] at hs
  refine ns_asg rfl rfl ?_
  refine ns_done ?_
  refine WP_ret ?_
  exact ⟨_, res1 _, St.mk_pu rfl hs.out⟩
end Go.Proofs.Ytnnembkganlbpaa
/- The walk of the law on taking the least or the greatest, one by one: FnTaken. -/
namespace Go.Proofs.Ytnnembkganlbpaa
open Go Go.Sl Go.Net Go.Wk Go.Bt Go.RowKit

def tkL (gr : Bool) : Sop := kdL (if gr then 7 else 6)
def wkL (gr : Bool) : Sop := allL (if gr then 13 else 9) 0 0
/-- the list in the order in which it is taken -/
def LL (gr : Bool) (l : List It) : List It := if gr then l.reverse else l
theorem LL_len (gr : Bool) (l : List It) : (LL gr l).length = l.length := by cases gr <;> simp [LL]
theorem st_take (gr : Bool) (l : List It) : (stepL l (tkL gr)).2 = oneA (LL gr l)[0]? ∧ LL gr (stepL l (tkL gr)).1 = (LL gr l).tail := by
  cases gr with
  | false =>
    rw [show stepL l (tkL false) = (l.tail, oneA l.head?) from step_6 rfl]
    exact ⟨by cases l <;> rfl, rfl⟩
  | true =>
    rw [show stepL l (tkL true) = (l.dropLast, oneA l.getLast?) from step_7 rfl]
    refine ⟨?_, ?_⟩
    · show oneA l.getLast? = oneA l.reverse[0]?
      rw [← List.head?_eq_getElem?, List.head?_reverse]
    · show l.dropLast.reverse = l.reverse.tail
      rw [List.tail_reverse]
theorem run_takes (gr : Bool) : ∀ (m : Nat) (l : List It), runL l (List.replicate m (tkL gr)) = (List.range m).map (fun i => oneA (LL gr l)[i]?) ∧ LL gr (afterL l (List.replicate m (tkL gr))) = (LL gr l).drop m := by
  intro m
  induction m with
  | zero => exact fun l => ⟨rfl, rfl⟩
  | succ m ih =>
    intro l
    obtain ⟨h1, h2⟩ := ih (stepL l (tkL gr)).1
    obtain ⟨e1, e2⟩ := st_take gr l
    rw [e2] at h1 h2
    rw [List.replicate_succ]
    refine ⟨?_, ?_⟩
    · rw [run_cons, e1, h1, List.range_succ_eq_map, List.map_cons, List.map_map]
      refine congrArg _ (List.map_congr_left fun i _ => ?_)
      show oneA (LL gr l).tail[i]? = oneA (LL gr l)[i + 1]?
      rw [List.getElem?_tail]
    · show LL gr (afterL (stepL l (tkL gr)).1 (List.replicate m (tkL gr))) = _
      rw [h2, List.drop_tail]
theorem run_taken (gr : Bool) (l : List It) (n : Nat) (hn : l.length ≤ n) (h : l.length ≤ 4000) : runL l (wkL gr :: List.replicate (n + 1) (tkL gr) ++ [kdL 8]) = ⟨false, 0, LL gr l⟩ :: ((List.range (n + 1)).map (fun i => oneA (LL gr l)[i]?) ++ [⟨false, 0, []⟩]) := by
  have e : runL l (wkL gr :: (List.replicate (n + 1) (tkL gr) ++ [kdL 8])) = ⟨false, 0, LL gr l⟩ :: runL l (List.replicate (n + 1) (tkL gr) ++ [kdL 8]) := by
    cases gr with
    | false =>
      have := run_walk (k := 9) 0 0 (List.replicate (n + 1) (tkL false) ++ [kdL 8]) h (by decide) (by decide)
      rw [range_up] at this
      exact this
    | true =>
      have := run_walk (k := 13) 0 0 (List.replicate (n + 1) (tkL true) ++ [kdL 8]) h (by decide) (by decide)
      rw [range_down] at this
      exact this
  obtain ⟨h1, h2⟩ := run_takes gr (n + 1) l
  rw [List.cons_append, e, run_append, h1]
  have h3 : (afterL l (List.replicate (n + 1) (tkL gr))).length = 0 := by
    rw [← LL_len gr, h2, List.length_drop, LL_len]; omega
  have h4 : afterL l (List.replicate (n + 1) (tkL gr)) = [] := List.eq_nil_of_length_eq_zero h3
  rw [h4]
  rfl
theorem taken_ok (gr : Bool) (n : Nat) : ∀ o ∈ wkL gr :: List.replicate (n + 1) (tkL gr) ++ [kdL 8], o.tree = 0 ∧ o.kind ≠ 17 := by
  intro o ho
  simp only [List.cons_append, List.mem_cons, List.mem_append, List.mem_replicate, List.not_mem_nil, or_false] at ho
  rcases ho with rfl | ⟨_, rfl⟩ | rfl
  · cases gr <;> simp [wkL, allL]
  · cases gr <;> simp [tkL, kdL]
  · simp [kdL]
theorem opC_one (o : Sop) : ∀ u ∈ (opC o).toList, u.oneCell' = true := by
  intro u hu
  simp [opC] at hu
  rcases hu with rfl | rfl | rfl | rfl | rfl | rfl <;> rfl
theorem onm {l : List Sop} {o : Sop} {v : Value} {n : Nat} {xs : List Value} (hn : n = l.length + 1) (hx : xs = encO l ++ (opC o).toList) : Arr 26 6 v n xs = OArr v (l ++ [o]) := by
  subst hn; subst hx
  show _ = Arr 26 6 v (l ++ [o]).length (encO (l ++ [o]))
  rw [List.length_append, encO_append]; rfl
set_option maxHeartbeats 6400000 in
theorem f17_ok (R : HProp) (v : Value) (os : List Sop) (d : Int) (gr : Bool) (hR : RdO R v os) : Tri Try.prog 17 #[.int .i64 d, v, .bool gr] R fun r => pu (r = .bool true) * R := by
  obtain ⟨_, a1, c1, rfl, hc1, hrd⟩ := id hR
  intro w0 F w hs
  refine calls_WP 104 #[.tmp 6] Try.func17 rfl Try.ntmps17 rfl (Nat.le_of_ble_eq_true rfl) ?_
  refine WP_seq ?_
  -- R0
  refine WP_seqr [⟨0, 0, []⟩] (by kernel_rfl) ?_
  refine ns_asg rfl rfl ?_
  refine ns_done ?_
  refine WP_seq ?_ -- S1
  refine WP_seq ?_
  -- R1
  refine WP_seqr [⟨0, 0, []⟩, ⟨1, 0, []⟩, ⟨2, 0, []⟩] (by kernel_rfl) ?_
  refine ns_move rfl rfl ?_
  refine ns_len sl_24 rfl rfl rfl ?_
  refine ns_cmp _ rfl rfl rfl rfl rfl ?_
  refine ns_done ?_
  refine WP_if rfl (fun hif1 => ?_) (fun hif1 => ?_)
  · refine WP_seq ?_
    -- R2
    refine WP_seqr [⟨0, 0, []⟩] (by kernel_rfl) ?_
    refine ns_asg rfl rfl ?_
    refine ns_done ?_
    refine WP_ret ?_
    exact ⟨_, res1 _, St.mk_pu rfl hs.out⟩
  refine WP_skip ?_
  refine WP_seq ?_ -- S2
  refine WP_seq ?_
  -- R3
  refine WP_seqr [⟨0, 0, []⟩, ⟨1, 0, []⟩, ⟨2, 2, []⟩, ⟨3, 0, []⟩] (by kernel_rfl) ?_
  refine ns_move rfl rfl ?_
  refine ns_move rfl rfl ?_
  refine ns_call (f20_ok d a1 os.length c1) ck_20 (hs.foc 1) rfl rfl rfl rfl ?_
  intro v20 w hs
  replace hs := hs.pure
  obtain ⟨rfl, hs⟩ := hs
  refine ns_not rfl rfl rfl ?_
  refine ns_done ?_
  refine WP_if rfl (fun hif2 => ?_) (fun hif2 => ?_)
  · refine WP_seq ?_
    -- R4
    refine WP_seqr [⟨0, 0, []⟩] (by kernel_rfl) ?_
    refine ns_asg rfl rfl ?_
    refine ns_done ?_
    refine WP_ret ?_
    exact ⟨_, res1 _, St.mk_pu rfl hs.out⟩
  refine WP_skip ?_
  have hfit : 2 ≤ d ∧ d ≤ 1000 ∧ os.length ≤ 2000 := by simpa using hif2
  obtain ⟨hd, hd2, hn⟩ := hfit
  obtain ⟨D, rfl⟩ : ∃ D : Nat, d = D := ⟨d.toNat, by omega⟩
  have hlen := heldT_len os
  have hsrt := held_srt (onT os)
  refine WP_seq ?_
  -- R5
  refine WP_seqr [⟨0, 2, []⟩, ⟨1, 0, []⟩, ⟨2, 2, []⟩, ⟨3, 2, []⟩, ⟨4, 2, []⟩, ⟨5, 2, []⟩] (by kernel_rfl) ?_
  refine ns_call (f21_ok 9 0 0) ck_21 (hs.foc 1) rfl rfl rfl rfl ?_
  intro v22 w hs
  replace hs := hs.pure
  obtain ⟨rfl, hs⟩ := hs
  refine ns_build [(0, .int .i64 6)] (opC (kdL 6)) pp_26 zc_26 rfl rfl rfl rfl ?_
  refine ns_alloc zc_26 hs rfl rfl ?_
  intro b7 w hs
  refine ns_alloc zc_26 hs rfl rfl ?_
  intro b8 w hs
  refine ns_stA (opC (wkL false)) ag_26 rfl (by decide) hs rfl rfl rfl rfl (opC_one _) (by simp []) ?_
  refine fun w hs => ⟨trivial, ?_⟩
  refine ns_stA (opC (tkL false)) ag_26 rfl (by decide) hs rfl rfl rfl rfl (opC_one _) (by simp []) ?_
  refine fun w hs => ⟨trivial, ?_⟩
  refine ns_done ?_
  have hs : St w0 (pts b8 (.cells (opC (tkL false)) 26 (0, 0)) * (pts b7 (.cells (opC (wkL false)) 26 (0, 0)) * _)) w := hs
  refine WP_seq_cut (fun σ w => σ 0 = .int .i64 D ∧ σ 1 = .slice a1 os.length c1 ∧ σ 7 = .pointer (some ⟨b7, 0, none⟩) ∧ σ 8 = .pointer (some ⟨b8, 0, none⟩) ∧ St w0 (pts b7 (.cells (opC (wkL gr)) 26 (0, 0)) * (pts b8 (.cells (opC (tkL gr)) 26 (0, 0)) * (R * F))) w) ?_ ?_ -- S3
  · refine WP_seq ?_
    -- R6
    refine WP_seqr [⟨0, 0, []⟩] (by kernel_rfl) ?_
    refine ns_move rfl rfl ?_
    refine ns_done ?_
    refine WP_if rfl (fun hif3 => ?_) (fun hif3 => ?_)
    · -- R7
      refine WP_seqr [⟨0, 2, []⟩, ⟨1, 0, []⟩, ⟨2, 2, []⟩, ⟨3, 2, []⟩] (by kernel_rfl) ?_
      refine ns_call (f21_ok 13 0 0) ck_21 (hs.foc 1) rfl rfl rfl rfl ?_
      intro v25 w hs
      replace hs := hs.pure
      obtain ⟨rfl, hs⟩ := hs
      refine ns_build [(0, .int .i64 7)] (opC (kdL 7)) pp_26 zc_26 rfl rfl rfl rfl ?_
      refine ns_stA (opC (wkL true)) ag_26 rfl (by decide) hs rfl rfl rfl rfl (opC_one _) (by simp [opC]) ?_
      refine fun w hs => ⟨trivial, ?_⟩
      refine ns_stA (opC (tkL true)) ag_26 rfl (by decide) hs rfl rfl rfl rfl (opC_one _) (by simp [opC]) ?_
      refine fun w hs => ⟨trivial, ?_⟩
      refine ns_done ?_
      obtain rfl : gr = true := hif3
      have hs : St w0 (pts b8 (.cells (opC (tkL true)) 26 (0, 0)) * (pts b7 (.cells (opC (wkL true)) 26 (0, 0)) * _)) w := hs
      exact ⟨rfl, rfl, rfl, rfl, hs.out⟩
    refine WP_skip ?_
    obtain rfl : gr = false := hif3
    exact ⟨rfl, rfl, rfl, rfl, hs.out⟩
  rintro σ w ⟨g0, g1, g7, g8, hs⟩
  obtain ⟨σ, rfl⟩ := rebase g0
  obtain ⟨σ, rfl⟩ := rebase (σ := σ) g1
  obtain ⟨σ, rfl⟩ := rebase (σ := σ) g7
  obtain ⟨σ, rfl⟩ := rebase (σ := σ) g8
  clear g0 g1 g7 g8
  refine WP_seq ?_
  -- R8
  refine WP_seqr [⟨0, 1, []⟩, ⟨1, 2, []⟩, ⟨2, 0, []⟩] (by kernel_rfl) ?_
  refine ns_ldAB (opC (wkL gr)).toList ag_26 hs rfl rfl rfl (by rfl) (by rfl) (by decide) ?_
  refine ns_lit [opV (wkL gr)] (opC (wkL gr)).toList sl_24 zr_26 (by decide) (by decide) hs rfl rfl rfl rfl (by simp [Value.cells, opV, opC]) rfl ?_
  refine fun b28 w hs hx => ⟨trivial, ?_⟩
  refine ns_asg rfl rfl ?_
  refine ns_done ?_
  have hs := hs.up (Ent.of_eq (show pts b28 (.cells (opC (wkL gr)).toList.toArray 26 (0, 0)) = pts b28 (.cells (encO [wkL gr]).toArray 26 (0, 0)) from rfl))
  have hs := hs.mk_arr' (n := 1) (cap := 1) (sz := 6) (xs := encO [wkL gr]) (Nat.le_refl _) (by decide) (by simp [encO, opC]) (by simp [encO, opC])
  refine WP_seq_cut (fun σ w => ∃ out : Value, σ 0 = .int .i64 D ∧ σ 1 = .slice a1 os.length c1 ∧ σ 9 = out ∧ St w0 (R * (OArr out (wkL gr :: List.replicate (os.length + 1) (tkL gr)) * F)) w) ?_ ?_ -- S4
  · refine WP_seq ?_
    -- R9
    refine WP_seqr [⟨0, 0, []⟩, ⟨1, 0, []⟩, ⟨2, 0, []⟩, ⟨3, 0, []⟩] (by kernel_rfl) ?_
    refine ns_move rfl rfl ?_
    refine ns_len sl_24 rfl rfl rfl ?_
    refine ns_add rfl rfl rfl rfl (by omega) (by omega) ?_
    refine ns_move rfl rfl ?_
    refine ns_done ?_
    refine WP_block ?_
    refine WP_loop (fun m σ w => ∃ (i : Nat) (out : Value), m = os.length + 1 - i ∧ i ≤ os.length + 1 ∧ σ 0 = .int .i64 D ∧ σ 1 = .slice a1 os.length c1 ∧ σ 8 = .pointer (some ⟨b8, 0, none⟩) ∧ σ 9 = out ∧ σ 31 = .int .i64 ((os.length : Int) + 1) ∧ σ 32 = .int .i64 (i : Int) ∧ St w0 (R * (OArr out (wkL gr :: List.replicate i (tkL gr)) * (pts b8 (.cells (opC (tkL gr)) 26 (0, 0)) * F))) w) (os.length + 1) ?_ ?_ -- L1
    · refine ⟨0, .slice (some ⟨b28, 0, none⟩) 1 1, rfl, Nat.zero_le _, rfl, rfl, rfl, rfl, rfl, rfl, ?_⟩
      show St w0 (R * (Arr 26 6 _ 1 (encO [wkL gr]) * (_ * F))) w
      exact hs.out
    rintro m σ w ⟨i, out, rfl, hi, g0, g1, g8, g9, g31, g32, hs⟩
    obtain ⟨σ, rfl⟩ := rebase g0
    obtain ⟨σ, rfl⟩ := rebase (σ := σ) g1
    obtain ⟨σ, rfl⟩ := rebase (σ := σ) g8
    obtain ⟨σ, rfl⟩ := rebase (σ := σ) g9
    obtain ⟨σ, rfl⟩ := rebase (σ := σ) g31
    obtain ⟨σ, rfl⟩ := rebase (σ := σ) g32
    clear g0 g1 g8 g9 g31 g32
    refine WP_seq ?_
    -- R10
    refine WP_seqr [⟨0, 0, []⟩] (by kernel_rfl) ?_
    refine ns_cmp _ rfl rfl rfl rfl rfl ?_
    refine ns_done ?_
    refine WP_seq ?_ -- S5
    refine WP_if' rfl (fun hif4 => ?_) (fun hif4 => ?_)
    · refine WP_exit ?_
      have hi2 : i = os.length + 1 := by have := of_decide_eq_false hif4; omega
      subst hi2
      exact ⟨out, rfl, rfl, rfl, hs.out⟩
    refine WP_skip ?_
    have hi2 : i < os.length + 1 := by have := of_decide_eq_true hif4; omega
    have hrl : (wkL gr :: List.replicate i (tkL gr)).length = i + 1 := by simp
    refine WP_seq ?_ -- S6
    refine WP_block ?_
    -- R11
    refine WP_seqr [⟨0, 0, []⟩, ⟨1, 1, []⟩, ⟨2, 2, []⟩, ⟨3, 2, []⟩, ⟨4, 0, []⟩] (by kernel_rfl) ?_
    refine ns_move rfl rfl ?_
    refine ns_ldAB (opC (tkL gr)).toList ag_26 hs rfl rfl rfl (by rfl) (by rfl) (by decide) ?_
    refine ns_lit [opV (tkL gr)] (opC (tkL gr)).toList sl_24 zr_26 (by decide) (by decide) hs rfl rfl rfl rfl (by simp [Value.cells, opV, opC]) rfl ?_
    refine fun b36 w hs hx => ⟨trivial, ?_⟩
    refine ns_app (opC (tkL gr)).toList sl_24 zr_26 by_26 rfl (by decide) (hs.foc (OArr out (wkL gr :: List.replicate i (tkL gr)))) rfl rfl rfl rfl rfl (St.cells (n := 6) hs (by rfl)) (by intro u hu; simp [opC] at hu; rcases hu with rfl | rfl | rfl | rfl | rfl | rfl <;> rfl) (by simp only [maxLen]; omega) (by omega) ?_
    refine fun v37 w hs hv => ⟨trivial, ?_⟩
    have hs := hs.up (Ent.of_eq (onm (l := wkL gr :: List.replicate i (tkL gr)) rfl rfl))
    rw [show wkL gr :: List.replicate i (tkL gr) ++ [tkL gr] = wkL gr :: List.replicate (i + 1) (tkL gr) from by rw [List.cons_append, ← List.replicate_succ']] at hs
    refine ns_asg rfl rfl ?_
    refine ns_done ?_
    -- R12
    refine WP_seqr [⟨0, 0, []⟩, ⟨1, 0, []⟩] (by kernel_rfl) ?_
    refine ns_add rfl rfl rfl rfl (by omega) (by omega) ?_
    refine ns_move rfl rfl ?_
    refine ns_done ?_
    exact ⟨os.length + 1 - (i + 1), by omega, i + 1, v37, rfl, by omega, rfl, rfl, rfl, rfl, rfl, rfl, hs.out⟩
    
  rintro σ w ⟨out, g0, g1, g9, hs⟩
  obtain ⟨σ, rfl⟩ := rebase g0
  obtain ⟨σ, rfl⟩ := rebase (σ := σ) g1
  obtain ⟨σ, rfl⟩ := rebase (σ := σ) g9
  clear g0 g1 g9
  have hrl : (wkL gr :: List.replicate (os.length + 1) (tkL gr)).length = os.length + 1 + 1 := by simp
  refine WP_seq ?_
  -- R13
  refine WP_seqr [⟨0, 0, []⟩, ⟨1, 0, []⟩, ⟨2, 0, []⟩, ⟨3, 0, []⟩, ⟨4, 2, []⟩, ⟨5, 2, []⟩, ⟨6, 2, []⟩, ⟨7, 0, []⟩, ⟨8, 0, []⟩, ⟨9, 0, []⟩, ⟨10, 0, []⟩, ⟨11, 0, []⟩] (by kernel_rfl) ?_
  refine ns_move rfl rfl ?_
  refine ns_move rfl rfl ?_
  refine ns_move rfl rfl ?_
  refine ns_build [(0, .int .i64 8)] (opC (kdL 8)) pp_26 zc_26 rfl rfl rfl rfl ?_
  refine ns_lit [opV (kdL 8)] (opC (kdL 8)).toList sl_24 zr_26 (by decide) (by decide) hs rfl rfl rfl rfl (by simp [Value.cells, opV, opC]) rfl ?_
  refine fun b44 w hs hx => ⟨trivial, ?_⟩
  refine ns_app (opC (kdL 8)).toList sl_24 zr_26 by_26 rfl (by decide) (hs.foc (OArr out (wkL gr :: List.replicate (os.length + 1) (tkL gr)))) rfl rfl rfl rfl rfl (St.cells (n := 6) hs (by rfl)) (by intro u hu; simp [opC] at hu; rcases hu with rfl | rfl | rfl | rfl | rfl | rfl <;> rfl) (by simp only [maxLen]; omega) (by omega) ?_
  refine fun v45 w hs hv => ⟨trivial, ?_⟩
  have hs := hs.up (Ent.of_eq (onm (l := wkL gr :: List.replicate (os.length + 1) (tkL gr)) rfl rfl))
  have hmore : RdO (OArr v45 (wkL gr :: List.replicate (os.length + 1) (tkL gr) ++ [kdL 8])) v45 (wkL gr :: List.replicate (os.length + 1) (tkL gr) ++ [kdL 8]) := Arr.rd hs
  refine ns_call (f22_ok (R * OArr v45 (wkL gr :: List.replicate (os.length + 1) (tkL gr) ++ [kdL 8])) (.slice a1 os.length c1) v45 os (wkL gr :: List.replicate (os.length + 1) (tkL gr) ++ [kdL 8]) D hR.up hmore.up (by simp) (by omega) (by omega) (by omega) (by simp; omega) (taken_ok gr os.length)) ck_22 (hs.foc (R * OArr v45 (wkL gr :: List.replicate (os.length + 1) (tkL gr) ++ [kdL 8]))) rfl rfl rfl rfl ?_
  intro v46 w hs
  replace hs := hs.ex
  obtain ⟨⟨s, R2⟩, hs⟩ := hs
  replace hs := hs.pu
  obtain ⟨⟨rfl, hra⟩, hs⟩ := hs
  simp only [mul_assoc'] at hs
  generalize afterL [] (onT os) = l at hra hlen hsrt
  rw [run_taken gr l os.length hlen (by omega)] at hra
  have hLL := LL_len gr l
  generalize LL gr l = L at hra hLL
  generalize hal : (⟨false, 0, L⟩ : An) :: ((List.range (os.length + 1)).map (fun i => oneA L[i]?) ++ [⟨false, 0, []⟩]) = al at hra
  have hal0 : al[0]? = some ⟨false, 0, L⟩ := by rw [← hal]; rfl
  have half : al.length = os.length + 3 := by rw [← hal]; simp
  have hali : ∀ i, i < os.length + 1 → al[i + 1]? = some (oneA L[i]?) := fun i hi => by
    rw [← hal, List.getElem?_cons_succ, List.getElem?_append_left (by simpa using hi), List.getElem?_map, List.getElem?_range hi]; rfl
  have hale : al[os.length + 2]? = some ⟨false, 0, []⟩ := by
    rw [← hal, List.getElem?_cons_succ, List.getElem?_append_right (by simp)]; simp
  clear hal
  obtain ⟨a4, c4, rfl, hc4⟩ := id hra.form
  refine ns_move rfl rfl ?_
  refine ns_ext rfl rfl rfl rfl ?_
  refine ns_ext rfl rfl rfl rfl ?_
  refine ns_asg rfl rfl ?_
  refine ns_asg rfl rfl ?_
  refine ns_done ?_
  refine WP_seq ?_ -- S7
  refine WP_seq ?_
  have hs : St w0 (R2 * (R * F)) w := hs.out
  obtain ⟨g0, o0, _, s0, e, hi0, hc0⟩ := hra.get hal0
  cases e
  have hi0 : RdI R2 s0 L := hi0
  obtain ⟨a6, c6, rfl, hc6⟩ := id hi0.form
  -- R14
  refine WP_seqr [⟨0, 0, []⟩, ⟨1, 0, []⟩, ⟨2, 0, []⟩, ⟨3, 0, []⟩, ⟨4, 0, []⟩, ⟨5, 0, []⟩, ⟨6, 1, []⟩, ⟨7, 0, []⟩, ⟨8, 0, []⟩, ⟨9, 0, []⟩, ⟨10, 0, []⟩, ⟨11, 0, []⟩] (by kernel_rfl) ?_
  refine ns_move rfl rfl ?_
  refine ns_not rfl rfl rfl ?_
  refine ns_move rfl rfl ?_
  refine ns_move rfl rfl ?_
  refine ns_idx 0 sl_28 rfl rfl rfl rfl rfl (by omega) ?_
  refine ns_fld fo_36_2 rfl rfl rfl ?_
  refine ns_ld pl_34 rfl rfl rfl ((hc0 _ _ _ (hs.foc R2)).at 2 rfl) ?_
  refine ns_len sl_34 rfl rfl rfl ?_
  refine ns_move rfl rfl ?_
  refine ns_len sl_24 rfl rfl rfl ?_
  refine ns_cmp false rfl rfl rfl rfl (congrArg some (decide_eq_false (by omega))) ?_
  refine ns_pick rfl rfl rfl ?_
  refine ns_done ?_
  refine WP_false rfl ?_ -- if5
  refine WP_skip ?_
  refine WP_seq_cut (fun σ w => σ 10 = .slice (some ⟨g0, o0, none⟩) al.length c4 ∧ St w0 (R2 * (R * F)) w) ?_ ?_ -- S8
  · refine WP_seq ?_
    -- R16
    refine WP_seqr [⟨0, 0, []⟩, ⟨1, 0, []⟩, ⟨2, 0, []⟩, ⟨3, 0, []⟩, ⟨4, 0, []⟩, ⟨5, 0, []⟩, ⟨6, 0, []⟩] (by kernel_rfl) ?_
    refine ns_move rfl rfl ?_
    refine ns_move rfl rfl ?_
    refine ns_len sl_24 rfl rfl rfl ?_
    refine ns_add rfl rfl rfl rfl (by omega) (by omega) ?_
    refine ns_sliceLH 1 (os.length + 2) sl_28 rfl rfl rfl rfl rfl rfl (by omega) (by omega) (by omega) ?_
    refine ns_len sl_28 rfl rfl rfl ?_
    refine ns_move rfl rfl ?_
    refine ns_done ?_
    have hq := RdA.part rfl hra 1 (os.length + 2) (by omega) (by omega)
    generalize hP : ((al.drop 1).take (os.length + 2 - 1)) = P at hq
    have hPl : P.length = os.length + 1 := by rw [← hP, List.length_take, List.length_drop]; omega
    have hPi : ∀ i, i < os.length + 1 → P[i]? = some (oneA L[i]?) := fun i hi => by
      rw [← hP, List.getElem?_take, if_pos (by omega), List.getElem?_drop, Nat.add_comm]; exact hali i hi
    obtain ⟨a7, c7, e7, hc7⟩ := hq.form
    rw [e7] at hq
    refine WP_block ?_
    refine WP_loop (fun m σ w => ∃ i : Nat, m = os.length + 1 - i ∧ i ≤ os.length + 1 ∧ σ 10 = .slice (some ⟨g0, o0, none⟩) al.length c4 ∧ σ 65 = .slice a7 P.length c7 ∧ σ 66 = .int .i64 ((os.length + 1 : Nat) : Int) ∧ σ 67 = .int .i64 (i : Int) ∧ St w0 (R2 * (R * F)) w) (os.length + 1) ?_ ?_ -- L2
    · exact ⟨0, rfl, Nat.zero_le _, rfl, e7, congrArg (fun k : Nat => Value.int .i64 (k : Int)) (by omega : os.length + 2 - 1 = os.length + 1), rfl, hs⟩
    rintro m σ w ⟨i, rfl, hi, g10, g65, g66, g67, hs⟩
    obtain ⟨σ, rfl⟩ := rebase g10
    obtain ⟨σ, rfl⟩ := rebase (σ := σ) g65
    obtain ⟨σ, rfl⟩ := rebase (σ := σ) g66
    obtain ⟨σ, rfl⟩ := rebase (σ := σ) g67
    clear g10 g65 g66 g67
    refine WP_seq ?_
    -- R17
    refine WP_seqr [⟨0, 0, []⟩] (by kernel_rfl) ?_
    refine ns_cmp _ rfl rfl rfl rfl rfl ?_
    refine ns_done ?_
    refine WP_seq ?_ -- S9
    refine WP_if' rfl (fun hif6 => ?_) (fun hif6 => ?_)
    · refine WP_exit ?_
      exact ⟨rfl, hs⟩
    refine WP_skip ?_
    have hi2 : i < os.length + 1 := by have := of_decide_eq_true hif6; omega
    obtain ⟨g, q, _, s1, e, hri, hce⟩ := hq.get (hPi i hi2)
    cases e
    obtain ⟨a5, c5, rfl, hc5⟩ := id hri.form
    generalize hxe : oneA L[i]? = x at hri hce hc5
    refine WP_seq ?_ -- S10
    refine WP_block ?_
    refine WP_seq ?_
    -- R18
    refine WP_seqr [⟨0, 0, []⟩, ⟨1, 0, []⟩, ⟨2, 1, []⟩, ⟨3, 2, []⟩, ⟨4, 0, []⟩, ⟨5, 2, []⟩] (by kernel_rfl) ?_
    refine ns_move rfl rfl ?_
    refine ns_idx i sl_28 rfl rfl rfl rfl rfl (by omega) ?_
    refine ns_ldA [.bool x.ok, .int .i64 x.n, .slice a5 x.items.length c5] ag_36 rfl rfl rfl rfl (by decide) (hce _ _ _ (hs.foc R2)) ?_
    refine ns_alloc zc_36 hs rfl rfl ?_
    intro b13 w hs
    refine ns_asg rfl rfl ?_
    refine ns_stA (#[.bool x.ok, .int .i64 x.n, .slice a5 x.items.length c5]) ag_36 rfl (by decide) hs rfl rfl rfl rfl (by intro u hu; simp at hu; rcases hu with rfl | rfl | rfl <;> rfl) (by simp) ?_
    refine fun w hs => ⟨trivial, ?_⟩
    refine ns_done ?_
    have hs : St w0 (pts b13 (.cells #[.bool x.ok, .int .i64 x.n, .slice a5 x.items.length c5] 36 (0, 0)) * _) w := hs
    refine WP_seq ?_
    -- R19
    refine WP_seqr [⟨0, 0, []⟩, ⟨1, 2, []⟩, ⟨2, 2, []⟩] (by kernel_rfl) ?_
    refine ns_build [] (#[.bool false, .int .i64 0, .slice none 0 0]) pp_36 zc_36 rfl rfl rfl rfl ?_
    refine ns_alloc zc_36 hs rfl rfl ?_
    intro b14 w hs
    refine ns_stA (#[.bool false, .int .i64 0, .slice none 0 0]) ag_36 rfl (by decide) hs rfl rfl rfl rfl (by intro u hu; simp at hu; rcases hu with rfl | rfl | rfl <;> rfl) (by simp) ?_
    refine fun w hs => ⟨trivial, ?_⟩
    refine ns_done ?_
    have hs : St w0 (pts b14 (.cells #[.bool false, .int .i64 0, .slice none 0 0] 36 (0, 0)) * _) w := hs
    refine WP_seq_cut (fun σ w => ∃ s14 : Value, RdI R2 s14 x.items ∧ σ 10 = .slice (some ⟨g0, o0, none⟩) al.length c4 ∧ σ 13 = .pointer (some ⟨b13, 0, none⟩) ∧ σ 14 = .pointer (some ⟨b14, 0, none⟩) ∧ σ 65 = .slice (some ⟨g, q, none⟩) P.length c7 ∧ σ 66 = .int .i64 ((os.length + 1 : Nat) : Int) ∧ σ 67 = .int .i64 (i : Int) ∧ St w0 (pts b14 (.cells #[.bool x.ok, .int .i64 x.n, s14] 36 (0, 0)) * (pts b13 (.cells #[.bool x.ok, .int .i64 x.n, .slice a5 x.items.length c5] 36 (0, 0)) * (R2 * (R * F)))) w) ?_ ?_ -- S11
    · refine WP_seq ?_
      -- R20
      refine WP_seqr [⟨0, 0, []⟩, ⟨1, 0, []⟩, ⟨2, 0, []⟩, ⟨3, 0, []⟩, ⟨4, 1, []⟩, ⟨5, 0, []⟩, ⟨6, 0, []⟩] (by kernel_rfl) ?_
      refine ns_move rfl rfl ?_
      refine ns_move rfl rfl ?_
      refine ns_idx 0 sl_28 rfl rfl rfl rfl rfl (by omega) ?_
      refine ns_fld fo_36_2 rfl rfl rfl ?_
      refine ns_ld pl_34 rfl rfl rfl ((hc0 _ _ _ (hs.foc R2)).at 2 rfl) ?_
      refine ns_len sl_34 rfl rfl rfl ?_
      refine ns_cmp _ rfl rfl rfl rfl rfl ?_
      refine ns_done ?_
      refine WP_if rfl (fun hif7 => ?_) (fun hif7 => ?_)
      · have hiL : i < L.length := by have := of_decide_eq_true hif7; omega
        -- R21
        refine WP_seqr [⟨0, 0, []⟩, ⟨1, 0, []⟩, ⟨2, 0, []⟩, ⟨3, 1, []⟩, ⟨4, 0, []⟩, ⟨5, 0, []⟩, ⟨6, 0, []⟩, ⟨7, 0, []⟩, ⟨8, 0, []⟩, ⟨9, 2, []⟩] (by kernel_rfl) ?_
        refine ns_move rfl rfl ?_
        refine ns_idx 0 sl_28 rfl rfl rfl rfl rfl (by omega) ?_
        refine ns_fld fo_36_2 rfl rfl rfl ?_
        refine ns_ld pl_34 rfl rfl rfl ((hc0 _ _ _ (hs.foc R2)).at 2 rfl) ?_
        refine ns_move rfl rfl ?_
        refine ns_move rfl rfl ?_
        refine ns_add rfl rfl rfl rfl (by omega) (by omega) ?_
        refine ns_sliceLH i (i + 1) sl_34 rfl rfl rfl rfl rfl rfl rfl (by omega) (by omega) ?_
        refine ns_build [(0, .bool true), (2, .slice (if c6 = i then a6 else a6.map (·.add (i * 2))) (i + 1 - i) (c6 - i))] (#[.bool true, .int .i64 0, .slice (if c6 = i then a6 else a6.map (·.add (i * 2))) (i + 1 - i) (c6 - i)]) pp_36 zc_36 rfl rfl rfl rfl ?_
        refine ns_stA (#[.bool true, .int .i64 0, .slice (if c6 = i then a6 else a6.map (·.add (i * 2))) (i + 1 - i) (c6 - i)]) ag_36 rfl (by decide) hs rfl rfl rfl rfl (by intro u hu; simp at hu; rcases hu with rfl | rfl | rfl <;> rfl) (by simp) ?_
        refine fun w hs => ⟨trivial, ?_⟩
        refine ns_done ?_
        obtain ⟨y, hy⟩ : ∃ y, L[i]? = some y := ⟨L[i]'hiL, List.getElem?_eq_getElem hiL⟩
        rw [hy] at hxe
        subst hxe
        have hp := RdI.part rfl hi0 i (i + 1) (by omega) (by omega)
        rw [show (L.drop i).take (i + 1 - i) = [y] from by
          obtain ⟨h1, h2⟩ := List.getElem?_eq_some_iff.1 hy
          rw [show i + 1 - i = 1 from by omega, List.drop_eq_getElem_cons h1, h2]; rfl] at hp
        have hs : St w0 (pts b14 (.cells #[.bool (oneA (some y)).ok, .int .i64 (oneA (some y)).n, .slice (if c6 = i then a6 else a6.map (·.add (i * 2))) (i + 1 - i) (c6 - i)] 36 (0, 0)) * _) w := hs
        exact ⟨_, hp, rfl, rfl, rfl, rfl, rfl, rfl, hs.out⟩
      refine WP_skip ?_
      have hiL : ¬ i < L.length := by have := of_decide_eq_false hif7; omega
      rw [List.getElem?_eq_none (by omega)] at hxe
      subst hxe
      have hs : St w0 (pts b14 (.cells #[.bool (oneA none).ok, .int .i64 (oneA none).n, .slice none 0 0] 36 (0, 0)) * _) w := hs
      exact ⟨.slice none 0 0, nil_rdI R2, rfl, rfl, rfl, rfl, rfl, rfl, hs.out⟩
    rintro σ w ⟨s14, hr14, g10, g13, g14, g65, g66, g67, hs⟩
    obtain ⟨σ, rfl⟩ := rebase g10
    obtain ⟨σ, rfl⟩ := rebase (σ := σ) g13
    obtain ⟨σ, rfl⟩ := rebase (σ := σ) g14
    obtain ⟨σ, rfl⟩ := rebase (σ := σ) g65
    obtain ⟨σ, rfl⟩ := rebase (σ := σ) g66
    obtain ⟨σ, rfl⟩ := rebase (σ := σ) g67
    clear g10 g13 g14 g65 g66 g67
    refine WP_seq ?_
    -- R22
    refine WP_seqr [⟨0, 1, []⟩, ⟨1, 2, []⟩, ⟨2, 1, []⟩, ⟨3, 2, []⟩, ⟨4, 2, []⟩, ⟨5, 0, []⟩] (by kernel_rfl) ?_
    refine ns_ldAB [.bool x.ok, .int .i64 x.n, .slice a5 x.items.length c5] ag_36 hs rfl rfl rfl (by rfl) (by rfl) (by decide) ?_
    refine ns_lit [.agg #[.bool x.ok, .int .i64 x.n, .slice a5 x.items.length c5]] (encA [x] [.slice a5 x.items.length c5]) sl_28 zr_36 (by decide) (by decide) hs rfl rfl rfl rfl (by simp [Value.cells]) rfl ?_
    refine fun b90 w hs hx => ⟨trivial, ?_⟩
    refine ns_ldAB [.bool x.ok, .int .i64 x.n, s14] ag_36 hs rfl rfl rfl (by rfl) (by rfl) (by decide) ?_
    refine ns_lit [.agg #[.bool x.ok, .int .i64 x.n, s14]] (encA [x] [s14]) sl_28 zr_36 (by decide) (by decide) hs rfl rfl rfl rfl (by simp [Value.cells]) rfl ?_
    refine fun b92 w hs hx => ⟨trivial, ?_⟩
    have hq1 := lit_rdA b90 [x] [.slice a5 x.items.length c5] R2 (0, 0) rfl (rd_one hri)
    have hq2 := lit_rdA b92 [x] [s14] R2 (0, 0) rfl (rd_one hr14)
    refine ns_call (f25_ok (R2 * (pts b90 (.cells (encA [x] [.slice a5 x.items.length c5]).toArray 36 (0, 0)) * pts b92 (.cells (encA [x] [s14]).toArray 36 (0, 0)))) _ _ [x] (RdA.up hq1) (RdA.up hq2) (by simp) (by
      intro y hy
      rw [List.mem_singleton.1 hy, ← hxe]
      show (L[i]?).toList.length < 1000000
      cases L[i]? <;> simp)) ck_25 (hs.foc (R2 * (pts b90 (.cells (encA [x] [.slice a5 x.items.length c5]).toArray 36 (0, 0)) * pts b92 (.cells (encA [x] [s14]).toArray 36 (0, 0))))) rfl rfl rfl rfl ?_
    intro v93 w hs
    replace hs := hs.pu
    obtain ⟨rfl, hs⟩ := hs
    try simp only [mul_assoc'] at hs
    refine ns_not rfl rfl rfl ?_
    refine ns_done ?_
    refine WP_false rfl ?_ -- if8
    refine WP_skip ?_
    -- R24
    refine WP_seqr [⟨0, 0, []⟩, ⟨1, 0, []⟩] (by kernel_rfl) ?_
    refine ns_add rfl rfl rfl rfl (by omega) (by omega) ?_
    refine ns_move rfl rfl ?_
    refine ns_done ?_
    exact ⟨os.length + 1 - (i + 1), by omega, i + 1, rfl, by omega, rfl, rfl, rfl, rfl, hs.out⟩
    
  rintro σ w ⟨g10, hs⟩
  obtain ⟨σ, rfl⟩ := rebase g10
  clear g10
  obtain ⟨g2, o2, _, s2, e, _, hc2⟩ := hra.get hale
  cases e
  refine WP_seq ?_
  -- R25
  refine WP_seqr [⟨0, 0, []⟩, ⟨1, 0, []⟩, ⟨2, 0, []⟩, ⟨3, 0, []⟩, ⟨4, 0, []⟩, ⟨5, 0, []⟩, ⟨6, 1, []⟩, ⟨7, 0, []⟩, ⟨8, 0, []⟩] (by kernel_rfl) ?_
  refine ns_move rfl rfl ?_
  refine ns_move rfl rfl ?_
  refine ns_len sl_28 rfl rfl rfl ?_
  refine ns_sub rfl rfl rfl rfl (by omega) (by omega) ?_
  refine ns_idx (os.length + 2) sl_28 rfl rfl rfl rfl (by omega) (by omega) ?_
  refine ns_fld fo_36_1 rfl rfl rfl ?_
  refine ns_ld pl_2 rfl rfl rfl ((hc2 _ _ _ (hs.foc R2)).at 1 rfl) ?_
  refine ns_cmp true rfl rfl rfl rfl (by simp [cmpI]) ?_
  refine ns_asg rfl rfl ?_
  refine ns_done ?_
  refine WP_ret ?_
  exact ⟨_, res1 _, St.mk_pu rfl hs.out⟩
end Go.Proofs.Ytnnembkganlbpaa
/- The walks of a free list of any size, of the runner over trees that share it, and of the law on clearing: FnCleared. -/
namespace Go.Wk
open Go Go.Sl Go.Net Go.RowKit
section
variable {P : Program} {ops : Array Oper} {Q : Slots → World → Prop} {σ : Slots} {w w0 : World} {H : HProp} {rest : Tre} {held : Nat → World → Prop} {i : Nat} {kp : List Nat}
variable {d : Option Tmp} {ty : TypeId} {ps : String} {af : Array Edge} {gd : Option (Nat × Bool)}
/-- a slice of room for n (perhaps none), none in it -/
theorem ns_makeR {t E : TypeId} {sz n : Nat} {z : Value} {by' : Nat} {l c : Operand} {k k2 : IntKind} (hT : sliceT P t E sz = true) (hz : zeroOf P E = some z) (hby : P.bytesOf E = by') (hb : by' * n ≤ 140737488355328) (hsz : sz ≠ 0)
    (hs : St w0 H w) (ho : ops[i]? = some ⟨d, .makeSlice t l c, ty, ps, af, gd⟩) (hw : Region.wanted ⟨d, .makeSlice t l c, ty, ps, af, gd⟩ (yieldS ops σ) = true) (hl : evS σ l = .int k 0) (hc : evS σ c = .int k2 n) (h63 : n ≤ maxLen)
    (h : ∀ b w', St w0 (Arr E sz (.slice (some ⟨b, 0, none⟩) 0 n) 0 [] * H) w' → keepAll held kp w' ∧ NetS P ops Q rest held (updO σ d (.slice (some ⟨b, 0, none⟩) 0 n)) w') : NetS P ops Q (.cons ⟨i, 2, kp⟩ rest) held σ w := by
  by_cases hn : n = 0
  · subst hn
    obtain ⟨hu, inf, hinf, rfl⟩ := sliceT_spec hT
    have hzi := info_zero hinf hz
    refine ns_eff ho hw ?_
    have wl : IntKind.i64.wrap 0 = 0 := by rw [IntKind.wrap_i64]; omega
    have hs2 := hs.alloc (.cells #[] E (0, 0))
    have h2 := h _ _ (St.mk_arr' (n := 0) (cap := 0) (xs := []) (sz := inf.size) hs2 (Nat.le_refl _) (Nat.zero_le _) (by simp) (by simp))
    have hr : (execOp (evS σ) ⟨d, .makeSlice t l c, ty, ps, af, gd⟩).run P w = .ok (.value (.slice (some ⟨w.heap.size, 0, none⟩) 0 0)) (w.alloc (.cells #[] E (0, 0))) := by
      simp [execOp, hl, hc, Instr.makeSlice, run_underlying hu, asInt, asIntOf, typeInfo, hinf, sizeOf, zeroValue, wl, newRow, askRoom, roomBytes]
      rw [show (Array.map (fun _ => (default : Value)) (Array.range 0)) = #[] from by simp]
    rw [hr]
    exact h2
  · refine ns_make0 hT hz hby hb hn hsz hs ho hw hl hc (by simp only [maxLen] at h63; omega) fun b cs w' hcs hs' _ => h b w' ?_
    exact hs'.mk_arr' (Nat.zero_le _) h63 hcs (by simp)
end
end Go.Wk
namespace Go.Proofs.Ytnnembkganlbpaa
open Go Go.Sl Go.Net Go.Wk Go.Bt Go.RowKit

/-- k trees are made over one free list, which is kept apart; the first is held -/
def T9 (d fl k : Nat) (cs : Array Value) : HProp := ex fun p : Nat × Nat => pu (0 < k → cs[0]? = some (ptr p.1)) * (if k = 0 then 1 else BT p.2 d p.1 [] * CowP p.2 fl)
theorem t9_zero (d fl : Nat) (cs : Array Value) : Ent 1 (T9 d fl 0 cs) := fun x hx => ⟨(0, 0), by
  show (pu _ * (1 : HProp)) x
  rw [pu_true (fun h => absurd h (Nat.lt_irrefl 0))]; exact hx⟩
theorem t9_one (d fl b c k : Nat) (cs : Array Value) (hk : 0 < k) (h : cs[0]? = some (ptr b)) : Ent (BT c d b [] * CowP c fl) (T9 d fl k cs) := fun x hx => ⟨(b, c), by
  show (pu _ * (if k = 0 then 1 else BT c d b [] * CowP c fl)) x
  rw [pu_true (fun _ => h), if_neg (by omega)]; exact hx⟩
theorem t9_up (d fl k : Nat) (cs cs2 : Array Value) (hk : 0 < k) (h : cs2[0]? = cs[0]?) : Ent (T9 d fl k cs) (T9 d fl (k + 1) cs2) := fun x hx => by
  obtain ⟨p, hp⟩ := hx
  refine ⟨p, ?_⟩
  show (pu _ * (if k + 1 = 0 then 1 else _)) x
  rw [if_neg (by omega)] at hp ⊢
  rw [pu_mul] at hp ⊢
  exact ⟨fun _ => by rw [h]; exact hp.1 hk, hp.2⟩
theorem St.t9 {w0 w : World} {d fl k : Nat} {cs : Array Value} {F : HProp} (hk : 0 < k) (hs : St w0 (T9 d fl k cs * F) w) : ∃ b c, cs[0]? = some (ptr b) ∧ St w0 (BT c d b [] * (CowP c fl * F)) w := by
  obtain ⟨⟨b, c⟩, hs⟩ := hs.ex
  obtain ⟨h, hs⟩ := hs.pu
  rw [if_neg (by omega), mul_assoc'] at hs
  exact ⟨b, c, h hk, hs⟩
theorem ctx_mk (c fl : Nat) : Ent (CowP c fl * FLP fl) (Ctx c fl) := fun _ h => h
/-- the step that clears -/
def wipeL (q : Bool) : Sop := ⟨18, 0, 0, 0, (if q then 1 else 0), 0⟩
theorem run_cleared (b e : List Sop) (q : Bool) : (runL [] ((b ++ [wipeL q]) ++ e)).drop (b ++ [wipeL q]).length = runL [] e := by
  have h : afterL [] (b ++ [wipeL q]) = [] := by
    rw [after_append]
    show (stepL (afterL [] b) (wipeL q)).1 = []
    rw [step_18 rfl]
  rw [run_append, h, ← run_length (b ++ [wipeL q]) [], List.drop_left]
theorem run_items (S : List Sop) : ∀ (l : List It) (x : An), x ∈ runL l S → x.items.length ≤ l.length + S.length := by
  induction S with
  | nil => intro l x h; cases h
  | cons o S ih =>
    intro l x h
    rcases List.mem_cons.1 h with rfl | h
    · have h1 : ∀ q : Option It, (oneA q).items.length ≤ 1 := fun q => by cases q <;> simp [oneA]
      have hw := walk_le o l
      show (stepL l o).2.items.length ≤ l.length + (S.length + 1)
      unfold stepL
      repeat' split
      all_goals first
        | (refine Nat.le_trans (h1 _) ?_; omega)
        | exact Nat.zero_le _
        | (show (walkL o l).length ≤ _; omega)
    · have h2 := ih _ x h
      have h3 := step_len (l := l) o
      show _ ≤ l.length + (S.length + 1)
      omega
theorem f43_g (n : Nat) (hn : n ≤ 1000) : Tri Try.prog 43 #[.int .i64 n] 1 fun v => ex fun fl => pu (v = ptr fl) * FLP fl := by
  intro w0 F w hs
  rw [one_mul'] at hs
  refine calls_WP 7 #[.tmp 2] Try.func43 rfl Try.ntmps43 rfl (Nat.le_of_ble_eq_true rfl) ?_
  refine WP_seq ?_
  -- R0
  refine WP_seqr [⟨0, 0, []⟩] (by kernel_rfl) ?_
  refine ns_asg rfl rfl ?_
  refine ns_done ?_
  refine WP_seq ?_
  -- R1
  refine WP_seqr [⟨0, 0, []⟩, ⟨1, 2, []⟩, ⟨2, 0, []⟩, ⟨3, 2, []⟩, ⟨4, 0, []⟩] (by kernel_rfl) ?_
  refine ns_move rfl rfl ?_
  refine ns_makeR (n := n) sl_72 zr_85 by_85 (by omega) (by decide) hs rfl rfl rfl rfl (by simp only [maxLen]; omega) ?_
  refine fun b4 w hs => ⟨trivial, ?_⟩
  have hs := hs.up (Ent.of_eq (PArr_eq (l := []) rfl rfl))
  refine ns_build [(1, .slice (some ⟨b4, 0, none⟩) 0 n)] (#[.int .i32 0, .int .u32 0, .slice (some ⟨b4, 0, none⟩) 0 n]) pp_81 zc_81 rfl rfl rfl rfl ?_
  refine ns_box (#[.int .i32 0, .int .u32 0, .slice (some ⟨b4, 0, none⟩) 0 n]) hs rfl rfl rfl rfl ?_
  intro b6 w hs
  refine ns_asg rfl rfl ?_
  refine ns_done ?_
  refine WP_ret ?_
  have hs := hs.foc (PArr (.slice (some ⟨b4, 0, none⟩) 0 n) [])
  have hs := hs.fold (fl_fold0 b6 (.slice (some ⟨b4, 0, none⟩) 0 n))
  exact ⟨_, res1 _, St.mk_ex b6 (St.mk_pu rfl hs.out)⟩
set_option maxHeartbeats 1600000 in
theorem f37_ok (R : HProp) (v : Value) (os : List Sop) (d n : Nat) (hn : n ≤ 1000) (hR : RdO R v os) (hd : 2 ≤ d) (hd2 : d ≤ 1000) (hll : os.length < 90000) (h0 : ∀ o ∈ os, o.tree = 0 ∧ o.kind ≠ 17) :
    Tri Try.prog 37 #[.int .i64 d, .int .i64 n, v] R fun r => R * AArr r (runL [] os) := by
  intro w0 F w hs
  refine calls_WP 24 #[.tmp 6] Try.func37 rfl Try.ntmps37 rfl (Nat.le_of_ble_eq_true rfl) ?_
  refine WP_seq ?_
  -- R0
  refine WP_seqr [⟨0, 0, []⟩] (by kernel_rfl) ?_
  refine ns_asg rfl rfl ?_
  refine ns_done ?_
  refine WP_seq ?_
  -- R1
  refine WP_seqr [⟨0, 0, []⟩, ⟨1, 2, []⟩, ⟨2, 0, []⟩] (by kernel_rfl) ?_
  refine ns_move rfl rfl ?_
  refine ns_call (f43_g n hn) ck_43 (hs.foc 1) rfl rfl rfl rfl ?_
  intro v11 w hs
  replace hs := hs.ex
  obtain ⟨fl, hs⟩ := hs
  replace hs := hs.pu
  obtain ⟨rfl, hs⟩ := hs
  try simp only [mul_assoc'] at hs
  refine ns_asg rfl rfl ?_
  refine ns_done ?_
  refine WP_seq ?_
  -- R2
  refine WP_seqr [⟨0, 0, []⟩, ⟨1, 2, []⟩, ⟨2, 2, []⟩] (by kernel_rfl) ?_
  refine ns_buildA ar_60 zc_60 rfl rfl ?_
  refine ns_alloc zc_60 hs rfl rfl ?_
  intro b8 w hs
  refine ns_stA (#[.pointer none, .pointer none, .pointer none, .pointer none, .pointer none, .pointer none, .pointer none, .pointer none]) ag_60 rfl (by decide) hs rfl rfl rfl rfl (by intro u hu; simp at hu; subst hu; rfl) (by simp) ?_
  refine fun w hs => ⟨trivial, ?_⟩
  refine ns_done ?_
  have hs : St w0 (pts b8 (.cells #[.pointer none, .pointer none, .pointer none, .pointer none, .pointer none, .pointer none, .pointer none, .pointer none] 60 (0, 0)) * _) w := hs
  refine WP_seq_cut (fun σ w => ∃ (cs : Array Value), σ 2 = v ∧ σ 8 = .pointer (some ⟨b8, 0, none⟩) ∧ St w0 (T9 d fl 8 cs * (FLP fl * (pts b8 (.cells cs 60 (0, 0)) * (R * F)))) w) ?_ ?_ -- S1
  · refine WP_seq ?_
    -- R3
    refine WP_seqr [⟨0, 0, []⟩] (by kernel_rfl) ?_
    refine ns_move rfl rfl ?_
    refine ns_done ?_
    refine WP_block ?_
    refine WP_loop (fun m σ w => ∃ (k : Nat) (cs : Array Value), m = 8 - k ∧ k ≤ 8 ∧ cs.size = 8 ∧ σ 0 = .int .i64 d ∧ σ 2 = v ∧ σ 7 = ptr fl ∧ σ 8 = .pointer (some ⟨b8, 0, none⟩) ∧ σ 13 = .int .i64 (k : Int) ∧ St w0 (T9 d fl k cs * (FLP fl * (pts b8 (.cells cs 60 (0, 0)) * (R * F)))) w) 8 ?_ ?_ -- L1
    · refine ⟨0, #[.pointer none, .pointer none, .pointer none, .pointer none, .pointer none, .pointer none, .pointer none, .pointer none], rfl, by omega, rfl, rfl, rfl, rfl, rfl, rfl, ?_⟩
      exact ((hs.foc 1).up (t9_zero d fl #[.pointer none, .pointer none, .pointer none, .pointer none, .pointer none, .pointer none, .pointer none, .pointer none])).out
    rintro m σ w ⟨k, cs, rfl, hk, hsz, g0, g2, g7, g8, g13, hs⟩
    obtain ⟨σ, rfl⟩ := rebase g0
    obtain ⟨σ, rfl⟩ := rebase (σ := σ) g2
    obtain ⟨σ, rfl⟩ := rebase (σ := σ) g7
    obtain ⟨σ, rfl⟩ := rebase (σ := σ) g8
    obtain ⟨σ, rfl⟩ := rebase (σ := σ) g13
    clear g0 g2 g7 g8 g13
    refine WP_seq ?_
    -- R4
    refine WP_seqr [⟨0, 0, []⟩] (by kernel_rfl) ?_
    refine ns_cmp _ rfl rfl rfl rfl rfl ?_
    refine ns_done ?_
    refine WP_seq ?_ -- S2
    refine WP_if' rfl (fun hif1 => ?_) (fun hif1 => ?_)
    · refine WP_exit ?_
      have hk2 : k = 8 := by have := of_decide_eq_false hif1; omega
      subst hk2
      exact ⟨cs, rfl, rfl, hs⟩
    refine WP_skip ?_
    have hk2 : k < 8 := by have := of_decide_eq_true hif1; omega
    refine WP_seq ?_ -- S3
    refine WP_block ?_
    refine WP_seq ?_
    -- R5
    refine WP_seqr [⟨0, 0, []⟩, ⟨1, 0, []⟩] (by kernel_rfl) ?_
    refine ns_move rfl rfl ?_
    refine ns_asg rfl rfl ?_
    refine ns_done ?_
    -- R6
    refine WP_seqr [⟨0, 0, []⟩, ⟨1, 0, []⟩, ⟨2, 0, []⟩, ⟨3, 2, []⟩, ⟨4, 0, []⟩, ⟨5, 2, []⟩] (by kernel_rfl) ?_
    refine ns_move rfl rfl ?_
    refine ns_move rfl rfl ?_
    refine ns_move rfl rfl ?_
    refine ns_call (f44_ok fl d hd) ck_44 (hs.foc (FLP fl)) rfl rfl rfl rfl ?_
    intro v19 w hs
    replace hs := hs.ex
    obtain ⟨⟨b, c⟩, hs⟩ := hs
    replace hs := hs.pu
    obtain ⟨rfl, hs⟩ := hs
    unfold Ctx at hs
    simp only [mul_assoc'] at hs
    refine ns_idxA k ar_60 rfl rfl rfl rfl rfl hk2 ?_
    refine ns_st (ptr b) pl_59 hs rfl rfl rfl rfl rfl (by rw [hsz]; omega) ?_
    refine fun w hs => ⟨trivial, ?_⟩
    simp only [Nat.zero_add, Nat.mul_one] at hs
    refine ns_done ?_
    -- R7
    refine WP_seqr [⟨0, 0, []⟩, ⟨1, 0, []⟩] (by kernel_rfl) ?_
    refine ns_add rfl rfl rfl rfl (by omega) (by omega) ?_
    refine ns_move rfl rfl ?_
    refine ns_done ?_
    refine ⟨8 - (k + 1), by omega, k + 1, cs.setIfInBounds k (ptr b), rfl, by omega, by simp [hsz], rfl, rfl, rfl, rfl, rfl, ?_⟩
    rcases Nat.eq_zero_or_pos k with e | e
    · subst e
      exact (hs.fold (t9_one d fl b c 1 (cs.setIfInBounds 0 (ptr b)) (by omega) (by simp [hsz]))).out
    · exact (hs.fold (t9_up d fl k cs (cs.setIfInBounds k (ptr b)) e (set_ne0 e))).out
    
  rintro σ w ⟨cs, g2, g8, hs⟩
  obtain ⟨σ, rfl⟩ := rebase g2
  obtain ⟨σ, rfl⟩ := rebase (σ := σ) g8
  clear g2 g8
  replace hs := St.t9 (by omega) hs
  obtain ⟨b, c, hcs, hs⟩ := hs
  have hs := hs.fold (ctx_mk c fl)
  refine WP_seq ?_
  -- R8
  refine WP_seqr [⟨0, 0, []⟩, ⟨1, 2, []⟩, ⟨2, 0, []⟩] (by kernel_rfl) ?_
  refine ns_move rfl rfl ?_
  refine ns_call (f41_ok c fl d b8 b R v os [] cs hcs hR hd hd2 (by simp only [List.length_nil]; omega) h0) ck_41 (hs.foc (R * (pts b8 (.cells cs 60 (0, 0)) * (BT c d b [] * Ctx c fl)))) rfl rfl rfl rfl ?_
  intro v23 w hs
  simp only [mul_assoc'] at hs
  refine ns_asg rfl rfl ?_
  refine ns_done ?_
  refine WP_ret ?_
  refine ⟨_, res1 _, ?_⟩
  show St w0 ((R * AArr v23 (runL [] os)) * F) w
  exact hs.out
set_option maxHeartbeats 6400000 in
theorem f19_ok (R : HProp) (v v2 : Value) (os more : List Sop) (d size : Int) (q : Bool) (hR : RdO R v os) (hR2 : RdO R v2 more) : Tri Try.prog 19 #[.int .i64 d, .int .i64 size, v, .bool q, v2] R fun r => pu (r = .bool true) * R := by
  obtain ⟨_, a1, c1, rfl, hc1, hrd⟩ := id hR
  obtain ⟨_, a2, c2, rfl, hc2, hrd2⟩ := id hR2
  intro w0 F w hs
  refine calls_WP 77 #[.tmp 10] Try.func19 rfl Try.ntmps19 rfl (Nat.le_of_ble_eq_true rfl) ?_
  refine WP_seq ?_
  -- R0
  refine WP_seqr [⟨0, 0, []⟩] (by kernel_rfl) ?_
  refine ns_asg rfl rfl ?_
  refine ns_done ?_
  refine WP_seq ?_ -- S1
  refine WP_seq_cut (fun σ w => σ 0 = .int .i64 d ∧ σ 1 = .int .i64 size ∧ σ 2 = .slice a1 os.length c1 ∧ σ 3 = .bool q ∧ σ 4 = .slice a2 more.length c2 ∧ (∃ b : Bool, σ 22 = .bool b) ∧ St w0 (R * F) w) ?_ ?_ -- R1.cut
  · by_cases h1 : (os.length : Int) > 2147483647
    · -- R1
      refine WP_seqr [⟨0, 0, []⟩, ⟨1, 0, []⟩, ⟨2, 0, []⟩, ⟨3, 0, []⟩, ⟨4, 0, []⟩, ⟨5, 0, []⟩, ⟨6, 0, []⟩, ⟨7, 0, []⟩] (by kernel_rfl) ?_
      refine ns_move rfl rfl ?_
      refine ns_len sl_24 rfl rfl rfl ?_
      refine ns_cmp true rfl rfl rfl rfl (congrArg some (decide_eq_true h1)) ?_
      refine ns_move rfl rfl ?_
      refine ns_no rfl rfl ?_
      refine ns_no rfl rfl ?_
      refine ns_no rfl rfl ?_
      refine ns_pick rfl rfl rfl ?_
      refine ns_done ?_
      exact ⟨rfl, rfl, rfl, rfl, rfl, ⟨_, rfl⟩, hs⟩
    · -- R1
      refine WP_seqr [⟨0, 0, []⟩, ⟨1, 0, []⟩, ⟨2, 0, []⟩, ⟨3, 0, []⟩, ⟨4, 0, []⟩, ⟨5, 0, []⟩, ⟨6, 0, []⟩, ⟨7, 0, []⟩] (by kernel_rfl) ?_
      refine ns_move rfl rfl ?_
      refine ns_len sl_24 rfl rfl rfl ?_
      refine ns_cmp false rfl rfl rfl rfl (congrArg some (decide_eq_false h1)) ?_
      refine ns_move rfl rfl ?_
      refine ns_move rfl rfl ?_
      refine ns_len sl_24 rfl rfl rfl ?_
      refine ns_cmp _ rfl rfl rfl rfl rfl ?_
      refine ns_pick rfl rfl rfl ?_
      refine ns_done ?_
      exact ⟨rfl, rfl, rfl, rfl, rfl, ⟨_, rfl⟩, hs⟩
  rintro σ w ⟨g0, g1, g2, g3, g4, ⟨bb, g22⟩, hs⟩
  obtain ⟨σ, rfl⟩ := rebase g0
  obtain ⟨σ, rfl⟩ := rebase (σ := σ) g1
  obtain ⟨σ, rfl⟩ := rebase (σ := σ) g2
  obtain ⟨σ, rfl⟩ := rebase (σ := σ) g3
  obtain ⟨σ, rfl⟩ := rebase (σ := σ) g4
  obtain ⟨σ, rfl⟩ := rebase (σ := σ) g22
  clear g0 g1 g2 g3 g4 g22
  refine WP_if rfl (fun hif1 => ?_) (fun hif1 => ?_)
  · refine WP_seq ?_
    -- R2
    refine WP_seqr [⟨0, 0, []⟩] (by kernel_rfl) ?_
    refine ns_asg rfl rfl ?_
    refine ns_done ?_
    refine WP_ret ?_
    exact ⟨_, res1 _, St.mk_pu rfl hs.out⟩
  refine WP_skip ?_
  refine WP_seq ?_ -- S2
  refine WP_seq_cut (fun σ w => σ 0 = .int .i64 d ∧ σ 1 = .int .i64 size ∧ σ 2 = .slice a1 os.length c1 ∧ σ 3 = .bool q ∧ σ 4 = .slice a2 more.length c2 ∧ σ 40 = .bool (!decide ((2 ≤ d ∧ d ≤ 1000 ∧ os.length ≤ 2000) ∧ more.length ≤ 2000 ∧ 0 ≤ size ∧ size ≤ 1000)) ∧ St w0 (R * F) w) ?_ ?_ -- R3.cut
  · rcases (show ¬ (2 ≤ d ∧ d ≤ 1000 ∧ os.length ≤ 2000) ∨ ((2 ≤ d ∧ d ≤ 1000 ∧ os.length ≤ 2000) ∧ ¬ more.length ≤ 2000) ∨ ((2 ≤ d ∧ d ≤ 1000 ∧ os.length ≤ 2000) ∧ more.length ≤ 2000 ∧ size < 0) ∨ ((2 ≤ d ∧ d ≤ 1000 ∧ os.length ≤ 2000) ∧ more.length ≤ 2000 ∧ 0 ≤ size) from by omega) with h1 | ⟨h1, h2⟩ | ⟨h1, h2, h3⟩ | ⟨h1, h2, h3⟩
    · -- R3
      refine WP_seqr [⟨0, 0, []⟩, ⟨1, 0, []⟩, ⟨2, 2, []⟩, ⟨3, 0, []⟩, ⟨4, 0, []⟩, ⟨5, 0, []⟩, ⟨6, 0, []⟩, ⟨7, 0, []⟩, ⟨8, 0, []⟩, ⟨9, 0, []⟩, ⟨10, 0, []⟩, ⟨11, 0, []⟩, ⟨12, 0, []⟩, ⟨13, 0, []⟩, ⟨14, 0, []⟩, ⟨15, 0, []⟩, ⟨16, 0, []⟩, ⟨17, 0, []⟩] (by kernel_rfl) ?_
      refine ns_move rfl rfl ?_
      refine ns_move rfl rfl ?_
      refine ns_call (f20_ok d a1 os.length c1) ck_20 (hs.foc 1) rfl rfl rfl rfl ?_
      intro v25 w hs
      replace hs := hs.pure
      obtain ⟨hv, hs⟩ := hs
      rw [show decide (2 ≤ d ∧ d ≤ 1000 ∧ os.length ≤ 2000) = false from decide_eq_false h1] at hv
      subst hv
      refine ns_not rfl rfl rfl ?_
      refine ns_move rfl rfl ?_
      refine ns_no rfl rfl ?_
      refine ns_no rfl rfl ?_
      refine ns_no rfl rfl ?_
      refine ns_no rfl rfl ?_
      refine ns_pick rfl rfl rfl ?_
      refine ns_move rfl rfl ?_
      refine ns_no rfl rfl ?_
      refine ns_no rfl rfl ?_
      refine ns_pick rfl rfl rfl ?_
      refine ns_move rfl rfl ?_
      refine ns_no rfl rfl ?_
      refine ns_no rfl rfl ?_
      refine ns_pick rfl rfl rfl ?_
      refine ns_done ?_
      refine ⟨rfl, rfl, rfl, rfl, rfl, congrArg Value.bool ?_, hs⟩
      rw [show decide ((2 ≤ d ∧ d ≤ 1000 ∧ os.length ≤ 2000) ∧ more.length ≤ 2000 ∧ 0 ≤ size ∧ size ≤ 1000) = false from decide_eq_false fun h => h1 h.1]
      rfl
    · -- R3
      refine WP_seqr [⟨0, 0, []⟩, ⟨1, 0, []⟩, ⟨2, 2, []⟩, ⟨3, 0, []⟩, ⟨4, 0, []⟩, ⟨5, 0, []⟩, ⟨6, 0, []⟩, ⟨7, 2, []⟩, ⟨8, 0, []⟩, ⟨9, 0, []⟩, ⟨10, 0, []⟩, ⟨11, 0, []⟩, ⟨12, 0, []⟩, ⟨13, 0, []⟩, ⟨14, 0, []⟩, ⟨15, 0, []⟩, ⟨16, 0, []⟩, ⟨17, 0, []⟩] (by kernel_rfl) ?_
      refine ns_move rfl rfl ?_
      refine ns_move rfl rfl ?_
      refine ns_call (f20_ok d a1 os.length c1) ck_20 (hs.foc 1) rfl rfl rfl rfl ?_
      intro v25 w hs
      replace hs := hs.pure
      obtain ⟨hv, hs⟩ := hs
      rw [show decide (2 ≤ d ∧ d ≤ 1000 ∧ os.length ≤ 2000) = true from decide_eq_true h1] at hv
      subst hv
      refine ns_not rfl rfl rfl ?_
      refine ns_move rfl rfl ?_
      refine ns_move rfl rfl ?_
      refine ns_move rfl rfl ?_
      refine ns_call (f20_ok d a2 more.length c2) ck_20 (hs.foc 1) rfl rfl rfl rfl ?_
      intro v30 w hs
      replace hs := hs.pure
      obtain ⟨hv, hs⟩ := hs
      rw [show decide (2 ≤ d ∧ d ≤ 1000 ∧ more.length ≤ 2000) = false from decide_eq_false fun h => h2 h.2.2] at hv
      subst hv
      refine ns_not rfl rfl rfl ?_
      refine ns_pick rfl rfl rfl ?_
      refine ns_move rfl rfl ?_
      refine ns_no rfl rfl ?_
      refine ns_no rfl rfl ?_
      refine ns_pick rfl rfl rfl ?_
      refine ns_move rfl rfl ?_
      refine ns_no rfl rfl ?_
      refine ns_no rfl rfl ?_
      refine ns_pick rfl rfl rfl ?_
      refine ns_done ?_
      refine ⟨rfl, rfl, rfl, rfl, rfl, congrArg Value.bool ?_, hs⟩
      rw [show decide ((2 ≤ d ∧ d ≤ 1000 ∧ os.length ≤ 2000) ∧ more.length ≤ 2000 ∧ 0 ≤ size ∧ size ≤ 1000) = false from decide_eq_false fun h => h2 h.2.1]
      rfl
    · -- R3
      refine WP_seqr [⟨0, 0, []⟩, ⟨1, 0, []⟩, ⟨2, 2, []⟩, ⟨3, 0, []⟩, ⟨4, 0, []⟩, ⟨5, 0, []⟩, ⟨6, 0, []⟩, ⟨7, 2, []⟩, ⟨8, 0, []⟩, ⟨9, 0, []⟩, ⟨10, 0, []⟩, ⟨11, 0, []⟩, ⟨12, 0, []⟩, ⟨13, 0, []⟩, ⟨14, 0, []⟩, ⟨15, 0, []⟩, ⟨16, 0, []⟩, ⟨17, 0, []⟩] (by kernel_rfl) ?_
      refine ns_move rfl rfl ?_
      refine ns_move rfl rfl ?_
      refine ns_call (f20_ok d a1 os.length c1) ck_20 (hs.foc 1) rfl rfl rfl rfl ?_
      intro v25 w hs
      replace hs := hs.pure
      obtain ⟨hv, hs⟩ := hs
      rw [show decide (2 ≤ d ∧ d ≤ 1000 ∧ os.length ≤ 2000) = true from decide_eq_true h1] at hv
      subst hv
      refine ns_not rfl rfl rfl ?_
      refine ns_move rfl rfl ?_
      refine ns_move rfl rfl ?_
      refine ns_move rfl rfl ?_
      refine ns_call (f20_ok d a2 more.length c2) ck_20 (hs.foc 1) rfl rfl rfl rfl ?_
      intro v30 w hs
      replace hs := hs.pure
      obtain ⟨hv, hs⟩ := hs
      rw [show decide (2 ≤ d ∧ d ≤ 1000 ∧ more.length ≤ 2000) = true from decide_eq_true ⟨h1.1, h1.2.1, h2⟩] at hv
      subst hv
      refine ns_not rfl rfl rfl ?_
      refine ns_pick rfl rfl rfl ?_
      refine ns_move rfl rfl ?_
      refine ns_move rfl rfl ?_
      refine ns_cmp true rfl rfl rfl rfl (congrArg some (decide_eq_true h3)) ?_
      refine ns_pick rfl rfl rfl ?_
      refine ns_move rfl rfl ?_
      refine ns_no rfl rfl ?_
      refine ns_no rfl rfl ?_
      refine ns_pick rfl rfl rfl ?_
      refine ns_done ?_
      refine ⟨rfl, rfl, rfl, rfl, rfl, congrArg Value.bool ?_, hs⟩
      rw [show decide ((2 ≤ d ∧ d ≤ 1000 ∧ os.length ≤ 2000) ∧ more.length ≤ 2000 ∧ 0 ≤ size ∧ size ≤ 1000) = false from decide_eq_false fun h => by omega]
      rfl
    · -- R3
      refine WP_seqr [⟨0, 0, []⟩, ⟨1, 0, []⟩, ⟨2, 2, []⟩, ⟨3, 0, []⟩, ⟨4, 0, []⟩, ⟨5, 0, []⟩, ⟨6, 0, []⟩, ⟨7, 2, []⟩, ⟨8, 0, []⟩, ⟨9, 0, []⟩, ⟨10, 0, []⟩, ⟨11, 0, []⟩, ⟨12, 0, []⟩, ⟨13, 0, []⟩, ⟨14, 0, []⟩, ⟨15, 0, []⟩, ⟨16, 0, []⟩, ⟨17, 0, []⟩] (by kernel_rfl) ?_
      refine ns_move rfl rfl ?_
      refine ns_move rfl rfl ?_
      refine ns_call (f20_ok d a1 os.length c1) ck_20 (hs.foc 1) rfl rfl rfl rfl ?_
      intro v25 w hs
      replace hs := hs.pure
      obtain ⟨hv, hs⟩ := hs
      rw [show decide (2 ≤ d ∧ d ≤ 1000 ∧ os.length ≤ 2000) = true from decide_eq_true h1] at hv
      subst hv
      refine ns_not rfl rfl rfl ?_
      refine ns_move rfl rfl ?_
      refine ns_move rfl rfl ?_
      refine ns_move rfl rfl ?_
      refine ns_call (f20_ok d a2 more.length c2) ck_20 (hs.foc 1) rfl rfl rfl rfl ?_
      intro v30 w hs
      replace hs := hs.pure
      obtain ⟨hv, hs⟩ := hs
      rw [show decide (2 ≤ d ∧ d ≤ 1000 ∧ more.length ≤ 2000) = true from decide_eq_true ⟨h1.1, h1.2.1, h2⟩] at hv
      subst hv
      refine ns_not rfl rfl rfl ?_
      refine ns_pick rfl rfl rfl ?_
      refine ns_move rfl rfl ?_
      refine ns_move rfl rfl ?_
      refine ns_cmp false rfl rfl rfl rfl (congrArg some (decide_eq_false (by omega))) ?_
      refine ns_pick rfl rfl rfl ?_
      refine ns_move rfl rfl ?_
      refine ns_move rfl rfl ?_
      refine ns_cmp _ rfl rfl rfl rfl rfl ?_
      refine ns_pick rfl rfl rfl ?_
      refine ns_done ?_
      refine ⟨rfl, rfl, rfl, rfl, rfl, congrArg Value.bool ?_, hs⟩
      by_cases h4 : size ≤ 1000
      · rw [show decide ((2 ≤ d ∧ d ≤ 1000 ∧ os.length ≤ 2000) ∧ more.length ≤ 2000 ∧ 0 ≤ size ∧ size ≤ 1000) = true from decide_eq_true ⟨h1, h2, h3, h4⟩]
        exact decide_eq_false (by omega)
      · rw [show decide ((2 ≤ d ∧ d ≤ 1000 ∧ os.length ≤ 2000) ∧ more.length ≤ 2000 ∧ 0 ≤ size ∧ size ≤ 1000) = false from decide_eq_false fun h => h4 h.2.2.2]
        exact decide_eq_true (by omega)
  rintro σ w ⟨g0, g1, g2, g3, g4, g40, hs⟩
  obtain ⟨σ, rfl⟩ := rebase g0
  obtain ⟨σ, rfl⟩ := rebase (σ := σ) g1
  obtain ⟨σ, rfl⟩ := rebase (σ := σ) g2
  obtain ⟨σ, rfl⟩ := rebase (σ := σ) g3
  obtain ⟨σ, rfl⟩ := rebase (σ := σ) g4
  obtain ⟨σ, rfl⟩ := rebase (σ := σ) g40
  clear g0 g1 g2 g3 g4 g40
  refine WP_if rfl (fun hif2 => ?_) (fun hif2 => ?_)
  · refine WP_seq ?_
    -- R4
    refine WP_seqr [⟨0, 0, []⟩] (by kernel_rfl) ?_
    refine ns_asg rfl rfl ?_
    refine ns_done ?_
    refine WP_ret ?_
    exact ⟨_, res1 _, St.mk_pu rfl hs.out⟩
  refine WP_skip ?_
  have hfit : ((2 ≤ d ∧ d ≤ 1000 ∧ os.length ≤ 2000) ∧ more.length ≤ 2000 ∧ 0 ≤ size ∧ size ≤ 1000) := by
    have : (!decide ((2 ≤ d ∧ d ≤ 1000 ∧ os.length ≤ 2000) ∧ more.length ≤ 2000 ∧ 0 ≤ size ∧ size ≤ 1000)) = false := hif2
    exact of_decide_eq_true (by simpa using this)
  obtain ⟨⟨hd, hd2, hn⟩, hn2, hz1, hz2⟩ := hfit
  obtain ⟨D, rfl⟩ : ∃ D : Nat, d = D := ⟨d.toNat, by omega⟩
  obtain ⟨N, rfl⟩ : ∃ N : Nat, size = N := ⟨size.toNat, by omega⟩
  have hol := onT_len os
  have hol2 := onT_len more
  refine WP_seq ?_
  -- R5
  refine WP_seqr [⟨0, 0, []⟩, ⟨1, 2, []⟩, ⟨2, 2, []⟩] (by kernel_rfl) ?_
  refine ns_build [(0, .int .i64 18)] (#[.int .i64 18, .int .i64 0, .int .i64 0, .int .i64 0, .int .i64 0, .int .i64 0]) pp_26 zc_26 rfl rfl rfl rfl ?_
  refine ns_alloc zc_26 hs rfl rfl ?_
  intro b11 w hs
  refine ns_stA (opC (wipeL false)) ag_26 rfl (by decide) hs rfl rfl rfl rfl (opC_one _) (by simp) ?_
  refine fun w hs => ⟨trivial, ?_⟩
  refine ns_done ?_
  have hs : St w0 (pts b11 (.cells (#[.int .i64 18, .int .i64 0, .int .i64 0, .int .i64 0, .int .i64 0, .int .i64 0]) 26 (0, 0)) * _) w := hs
  refine WP_seq_cut (fun σ w => σ 0 = .int .i64 D ∧ σ 1 = .int .i64 N ∧ σ 2 = .slice a1 os.length c1 ∧ σ 3 = .bool q ∧ σ 4 = .slice a2 more.length c2 ∧ σ 11 = .pointer (some ⟨b11, 0, none⟩) ∧ St w0 (pts b11 (.cells (opC (wipeL q)) 26 (0, 0)) * (R * F)) w) ?_ ?_ -- S3
  · refine WP_seq ?_
    -- R6
    refine WP_seqr [⟨0, 0, []⟩] (by kernel_rfl) ?_
    refine ns_move rfl rfl ?_
    refine ns_done ?_
    refine WP_if rfl (fun hif3 => ?_) (fun hif3 => ?_)
    · -- R7
      refine WP_seqr [⟨0, 0, []⟩, ⟨1, 2, []⟩] (by kernel_rfl) ?_
      refine ns_fld fo_26_4 rfl rfl rfl ?_
      refine ns_st (.int .i64 1) pl_2 hs rfl rfl rfl rfl rfl (by simp) ?_
      refine fun w hs => ⟨trivial, ?_⟩
      try simp only [Nat.zero_add] at hs
      try simp only [List.setIfInBounds_toArray] at hs
      try simp only [List.set_cons_succ] at hs
      try simp only [List.set_cons_zero] at hs
      refine ns_done ?_
      obtain rfl : q = true := hif3
      exact ⟨rfl, rfl, rfl, rfl, rfl, rfl, hs⟩
    refine WP_skip ?_
    obtain rfl : q = false := hif3
    exact ⟨rfl, rfl, rfl, rfl, rfl, rfl, hs⟩
  rintro σ w ⟨g0, g1, g2, g3, g4, g11, hs⟩
  obtain ⟨σ, rfl⟩ := rebase g0
  obtain ⟨σ, rfl⟩ := rebase (σ := σ) g1
  obtain ⟨σ, rfl⟩ := rebase (σ := σ) g2
  obtain ⟨σ, rfl⟩ := rebase (σ := σ) g3
  obtain ⟨σ, rfl⟩ := rebase (σ := σ) g4
  obtain ⟨σ, rfl⟩ := rebase (σ := σ) g11
  clear g0 g1 g2 g3 g4 g11
  refine WP_seq_cut (fun σ w => ∃ v12 v13, σ 0 = .int .i64 D ∧ σ 1 = .int .i64 N ∧ σ 12 = v12 ∧ σ 13 = v13 ∧ St w0 (R * (OArr v12 (onT os ++ [wipeL q]) * (OArr v13 (onT more) * F))) w) ?_ ?_ -- R8.cut
  · -- R8
    refine WP_tre hs mix [0, 1, 0, 4, 15, 0, 63, 127, 255] (.cons ⟨0, 0, []⟩ (.cons ⟨2, 1, []⟩ (.cons ⟨5, 0, []⟩ (.fork ⟨1, 2, [2]⟩ (.cons ⟨3, 2, []⟩ (.cons ⟨4, 2, []⟩ (.cons ⟨6, 2, []⟩ (.cons ⟨7, 0, []⟩ (.cons ⟨8, 0, []⟩ .nil))))) ⟨3, 2, []⟩ (.cons ⟨1, 2, []⟩ (.cons ⟨4, 2, []⟩ (.cons ⟨6, 2, []⟩ (.cons ⟨7, 0, []⟩ (.cons ⟨8, 0, []⟩ .nil))))))))) (by kernel_rfl) ?_
    intro w hs
    refine ns_move rfl rfl ?_
    refine ns_ldAB (opC (wipeL q)).toList ag_26 hs rfl rfl rfl (by rfl) (by rfl) (by decide) ?_
    refine ns_move rfl rfl ?_
    refine ns_fork ?_ ?_
    · refine ns_callK (f28_ok R (.slice a1 os.length c1) os hR (by omega)) ck_28 (hs.foc R) rfl rfl rfl rfl ?_
      refine fun v45 w hs => ?_
      simp only [mul_assoc'] at hs
      refine ⟨⟨St.cells (n := 6) (b := b11) (o := 0) hs (by rfl), trivial⟩, ?_⟩
      refine ns_lit [opV (wipeL q)] (opC (wipeL q)).toList sl_24 zr_26 (by decide) (by decide) hs rfl rfl rfl rfl (by simp [Value.cells, opV, opC]) (by simp [opV, Value.cells]) ?_
      refine fun b47 w hs hx => ⟨trivial, ?_⟩
      refine ns_app (opC (wipeL q)).toList sl_24 zr_26 by_26 rfl (by decide) (hs.foc (OArr v45 (onT os))) rfl rfl rfl rfl rfl (St.cells (n := 6) hs (by rfl)) (opC_one _) (by simp only [maxLen]; omega) (by omega) ?_
      refine fun v48 w hs hv => ⟨trivial, ?_⟩
      have hs := hs.up (Ent.of_eq (onm (l := onT os) rfl rfl))
      refine ns_call (f28_ok R (.slice a2 more.length c2) more hR2 (by omega)) ck_28 (hs.foc R) rfl rfl rfl rfl ?_
      intro v50 w hs
      simp only [mul_assoc'] at hs
      refine ns_asg rfl rfl ?_
      refine ns_asg rfl rfl ?_
      refine ns_done ?_
      exact ⟨v48, v50, rfl, rfl, rfl, rfl, hs.out⟩
    · refine ns_lit [opV (wipeL q)] (opC (wipeL q)).toList sl_24 zr_26 (by decide) (by decide) hs rfl rfl rfl rfl (by simp [Value.cells, opV, opC]) (by simp [opV, Value.cells]) ?_
      refine fun b47 w hs hx => ⟨trivial, ?_⟩
      refine ns_call (f28_ok R (.slice a1 os.length c1) os hR (by omega)) ck_28 (hs.foc R) rfl rfl rfl rfl ?_
      intro v45 w hs
      simp only [mul_assoc'] at hs
      refine ns_app (opC (wipeL q)).toList sl_24 zr_26 by_26 rfl (by decide) (hs.foc (OArr v45 (onT os))) rfl rfl rfl rfl rfl (St.cells (n := 6) hs (by rfl)) (opC_one _) (by simp only [maxLen]; omega) (by omega) ?_
      refine fun v48 w hs hv => ⟨trivial, ?_⟩
      have hs := hs.up (Ent.of_eq (onm (l := onT os) rfl rfl))
      refine ns_call (f28_ok R (.slice a2 more.length c2) more hR2 (by omega)) ck_28 (hs.foc R) rfl rfl rfl rfl ?_
      intro v50 w hs
      simp only [mul_assoc'] at hs
      refine ns_asg rfl rfl ?_
      refine ns_asg rfl rfl ?_
      refine ns_done ?_
      exact ⟨v48, v50, rfl, rfl, rfl, rfl, hs.out⟩
  rintro σ w ⟨v12, v13, g0, g1, g12, g13, hs⟩
  obtain ⟨σ, rfl⟩ := rebase g0
  obtain ⟨σ, rfl⟩ := rebase (σ := σ) g1
  obtain ⟨σ, rfl⟩ := rebase (σ := σ) g12
  obtain ⟨σ, rfl⟩ := rebase (σ := σ) g13
  clear g0 g1 g12 g13
  have hbl : (onT os ++ [wipeL q]).length ≤ 2001 := by rw [List.length_append]; simp only [List.length_cons, List.length_nil]; omega
  have hb0 : ∀ o ∈ (onT os ++ [wipeL q]), o.tree = 0 ∧ o.kind ≠ 17 := fun o ho => (List.mem_append.1 ho).elim (onT_ok o) (fun h => by rw [List.mem_singleton.1 h]; simp [wipeL])
  have he0 : ∀ o ∈ (onT more), o.tree = 0 ∧ o.kind ≠ 17 := fun o ho => onT_ok o ho
  have hcl := run_cleared (onT os) (onT more) q
  generalize (onT os ++ [wipeL q]) = bg at hs hbl hb0 hcl
  generalize (onT more) = en at hs he0 hol2 hcl
  obtain ⟨a5, c5, rfl, _, _⟩ := (hs.foc (OArr v12 bg)).arr_form
  obtain ⟨a6, c6, rfl, _, _⟩ := (hs.foc (OArr v13 en)).arr_form
  have hrb : RdO (OArr (.slice a5 bg.length c5) bg) (.slice a5 bg.length c5) bg := Arr.rd (hs.foc (OArr (.slice a5 bg.length c5) bg))
  have hre : RdO (OArr (.slice a6 en.length c6) en) (.slice a6 en.length c6) en := Arr.rd (hs.foc (OArr (.slice a6 en.length c6) en))
  refine WP_seq ?_
  -- R9
  refine WP_seqr [⟨0, 0, []⟩, ⟨1, 0, []⟩, ⟨2, 2, []⟩, ⟨3, 0, []⟩, ⟨4, 2, []⟩, ⟨5, 0, []⟩, ⟨6, 2, []⟩, ⟨7, 2, []⟩, ⟨8, 0, []⟩] (by kernel_rfl) ?_
  refine ns_move rfl rfl ?_
  refine ns_move rfl rfl ?_
  refine ns_lit0 sl_24 hs rfl rfl ?_
  refine fun b53 w hs hx => ⟨trivial, ?_⟩
  refine ns_move rfl rfl ?_
  refine ns_appd (news := encO bg) sl_24 zr_26 by_26 rfl (by decide) hrb (hs.foc (OArr (.slice a5 bg.length c5) bg)) (hs.foc (Arr 26 6 (.slice (some ⟨b53, 0, none⟩) 0 0) 0 [])) rfl rfl rfl rfl (encO_one bg) (by simp only [maxLen]; omega) (by omega) ?_
  refine fun v55 w hs => ⟨trivial, ?_⟩
  have hs := hs.up (Ent.of_eq (show Arr 26 6 v55 (0 + bg.length) ([] ++ encO bg) = OArr v55 bg from by rw [Nat.zero_add, List.nil_append]))
  refine ns_move rfl rfl ?_
  refine ns_appd (news := encO en) sl_24 zr_26 by_26 rfl (by decide) hre (hs.foc (OArr (.slice a6 en.length c6) en)) (hs.foc (OArr v55 bg)) rfl rfl rfl rfl (encO_one en) (by simp only [maxLen]; omega) (by omega) ?_
  refine fun v57 w hs => ⟨trivial, ?_⟩
  have hs := hs.up (Ent.of_eq (show Arr 26 6 v57 (bg.length + en.length) (encO bg ++ encO en) = OArr v57 (bg ++ en) from by rw [← encO_append, ← List.length_append]))
  have hr57 : RdO (OArr v57 (bg ++ en)) v57 (bg ++ en) := Arr.rd hs
  refine ns_call (f37_ok (OArr v57 (bg ++ en)) v57 (bg ++ en) D N (by omega) hr57 (by omega) (by omega) (by rw [List.length_append]; omega) (fun o ho => (List.mem_append.1 ho).elim (hb0 o) (he0 o))) ck_37 (hs.foc (OArr v57 (bg ++ en))) rfl rfl rfl rfl ?_
  intro v58 w hs
  simp only [mul_assoc'] at hs
  replace hs := (hs.foc (AArr v58 (runL [] (bg ++ en)))).ex
  obtain ⟨ss, hs⟩ := hs
  replace hs := hs.pu
  obtain ⟨hss, hs⟩ := hs
  have hra := aarr_rd hss hs
  have hrl := run_length (bg ++ en) []
  generalize hal : runL [] (bg ++ en) = al at hs hra hss hrl hcl
  generalize hR6 : Arr 36 3 v58 al.length (encA al ss) * itsS al ss = R6 at hs hra
  obtain ⟨a7, c7, rfl, _⟩ := id hra.form
  rw [List.length_append] at hrl
  have hs : St w0 (R6 * (OArr (.slice a6 en.length c6) en * (R * F))) w := hs.out
  refine ns_asg rfl rfl ?_
  refine ns_done ?_
  refine WP_seq ?_
  -- R10
  refine WP_net hs mix [0, 1, 0, 4, 0, 16, 60, 127, 255, 511, 511, 1535, 4095, 511, 511, 25087, 65535, 131071, 262143] [⟨0, 0, []⟩, ⟨1, 0, []⟩, ⟨2, 0, []⟩, ⟨3, 0, []⟩, ⟨4, 0, []⟩, ⟨5, 0, []⟩, ⟨6, 0, []⟩, ⟨7, 0, []⟩, ⟨8, 0, []⟩, ⟨9, 0, []⟩, ⟨10, 0, []⟩, ⟨11, 0, []⟩, ⟨12, 0, []⟩, ⟨13, 0, []⟩, ⟨14, 0, []⟩, ⟨15, 2, []⟩, ⟨16, 2, []⟩, ⟨17, 0, []⟩, ⟨18, 0, []⟩] (by kernel_rfl) ?_
  intro w hs
  refine ns_move rfl rfl ?_
  refine ns_len sl_28 rfl rfl rfl ?_
  refine ns_move rfl rfl ?_
  refine ns_len sl_24 rfl rfl rfl ?_
  refine ns_move rfl rfl ?_
  refine ns_len sl_24 rfl rfl rfl ?_
  refine ns_add rfl rfl rfl rfl (by omega) (by omega) ?_
  refine ns_cmp true rfl rfl rfl rfl (by simp [cmpI]; omega) ?_
  refine ns_move rfl rfl ?_
  refine ns_move rfl rfl ?_
  refine ns_move rfl rfl ?_
  refine ns_len sl_24 rfl rfl rfl ?_
  refine ns_sliceLo bg.length sl_28 rfl rfl rfl rfl rfl (by omega) ?_
  refine ns_move rfl rfl ?_
  refine ns_move rfl rfl ?_
  refine ns_call (f29_ok (OArr (.slice a6 en.length c6) en) (.slice a6 en.length c6) en D hre (by omega) (by omega) (by omega) he0) ck_29 (hs.foc (OArr (.slice a6 en.length c6) en)) rfl rfl rfl rfl ?_
  intro v74 w hs
  simp only [mul_assoc'] at hs
  replace hs := (hs.foc (AArr v74 (runL [] en))).ex
  obtain ⟨ss2, hs⟩ := hs
  replace hs := hs.pu
  obtain ⟨hss2, hs⟩ := hs
  have hra2 := aarr_rd hss2 hs
  generalize hR7 : Arr 36 3 v74 (runL [] en).length (encA (runL [] en) ss2) * itsS (runL [] en) ss2 = R7 at hs hra2
  have hq := RdA.tail rfl hra bg.length (by omega)
  rw [hcl] at hq
  have hrl2 := run_length en []
  refine ns_call (f25_ok (R6 * R7) _ _ (runL [] en) (RdA.up hq) (RdA.up hra2) (by omega) (fun x hx => by have := run_items en [] x hx; simp only [List.length_nil] at this; omega)) ck_25 (hs.foc (R6 * R7)) rfl rfl rfl rfl ?_
  intro v75 w hs
  replace hs := hs.pu
  obtain ⟨rfl, hs⟩ := hs
  try simp only [mul_assoc'] at hs
  refine ns_pick rfl rfl rfl ?_
  refine ns_asg rfl rfl ?_
  refine ns_done ?_
  refine WP_ret ?_
  exact ⟨_, res1 _, St.mk_pu rfl hs.out⟩
end Go.Proofs.Ytnnembkganlbpaa
/- The law FnCleared: for every input it returns true, and what it was handed reads as it did. No condition. -/
namespace Go.Proofs.Ytnnembkganlbpaa
open Go Go.Sl Go.Wk Go.Bt Go.ChangeShapes Go.WideShapes Go.ChangeAt Go.RowKit

set_option maxRecDepth 100000 in
theorem fnCleared_lifted (os : Os) (started : os.Started) (H : Type) (enc : TypeId × Value → H) :
    ReturnsInHanded {} Try.checked os 19 .any (Rows.fnClearedSpec.pre6 enc Try.prog Try.f19 Rows.fnClearedRow.domain false) (Rows.fnClearedSpec.post enc Try.prog Try.f19 false true false false) := by
  refine returnsInHanded_of_change (C := Try.checked) Try.own started (by kernel_rfl) Try.func19
    (ChangeSpec.witness6 (enc := enc) (C := Try.checked) false ⟨#[], #[.int .i64 0, .int .i64 0, .slice none 0 0, .bool false, .slice none 0 0], []⟩ 8 (by kernel_rfl) (by kernel_rfl) (by kernel_rfl) (by kernel_rfl)) ?_
  intro W b0 args ds gs before hval0 hW _ _
  have hval : ∀ (j : Nat) t v, Try.f19.params[j]? = some t → args[j]? = some v → Value.okWide Try.prog W .any b0 t v := hval0
  have hW' := hW
  obtain ⟨p, q, hA0, hV, rfl, hfz, hnd⟩ := hW
  have hA : DataW.TrodAll enc Try.prog W 0 (fun _ => true) true Try.f19.params.toList args.toList ds p := hA0
  rw [Try.params19] at hA hval
  obtain ⟨v0, vs0, d0, ds0, p0, q0, hargs, rfl, rfl, h0, r0⟩ := trodAll_cons hA
  obtain ⟨v1, vs1, d1, ds1, p1, q1, rfl, rfl, rfl, h1, r1⟩ := trodAll_cons r0
  obtain ⟨v2, vs2, d2, ds2, p2, q2, rfl, rfl, rfl, h2, r2⟩ := trodAll_cons r1
  obtain ⟨v3, vs3, d3, ds3, p3, q3, rfl, rfl, rfl, h3, r3⟩ := trodAll_cons r2
  obtain ⟨v4, vs4, d4, ds4, p4, q4, rfl, rfl, rfl, h4, r4⟩ := trodAll_cons r3
  obtain ⟨rfl, rfl, rfl⟩ := trodAll_nil r4
  obtain rfl : args = #[v0, v1, v2, v3, v4] := Array.toList_inj.1 hargs
  obtain ⟨rfl, rfl⟩ := trodVars_none hV
  obtain ⟨a0, rfl, rfl, rfl, w0⟩ := open_int Try.underlying2 (hval 0 2 v0 rfl rfl) h0
  obtain ⟨a1, rfl, rfl, rfl, w1⟩ := open_int Try.underlying2 (hval 1 2 v1 rfl rfl) h1
  obtain ⟨xs2, hx2⟩ := open_ops (hval 2 24 v2 rfl rfl) h2
  obtain ⟨a3, rfl, rfl, rfl⟩ := open_bool Try.underlying4 (hval 3 4 v3 rfl rfl) h3
  obtain ⟨xs4, hx4⟩ := open_ops (hval 4 24 v4 rfl rfl) h4
  refine (f19_ok (base (heapOf W)) v2 v4 xs2 xs4 a0 a1 a3 hx2 hx4 W 1 W (st_base W)).mono fun e W' h => ?_
  obtain ⟨v, he, hs⟩ := h
  exact ⟨v, he, law_post (ts := [2, 2, 24, 4, 24]) hW' rfl rfl (by
    intro t ht
    simp only [List.mem_cons, List.not_mem_nil, or_false] at ht
    rcases ht with rfl | rfl | rfl | rfl | rfl
    · exact ty_2
    · exact ty_2
    · exact ty_24
    · exact ty_4
    · exact ty_24) rfl rfl rfl rfl hs⟩
theorem fnCleared_k1 : (Rows.fnClearedRow.wf (OpenSpec.ofChange Rows.fnClearedSpec)) = true := by kernel_rfl
theorem fnCleared_k4 : (Try.f19.params.all (Try.prog.readableRec ·)) = true := by kernel_rfl
theorem fnCleared_k5 : (namedTie Try.prog Rows.fnClearedRow.named Rows.fnClearedSpec.vars) = true := by kernel_rfl
theorem fnCleared_k6 : ((Rows.fnClearedRow.stops == [])) = true := by kernel_rfl
theorem fnCleared_k8 : ((Rows.fnClearedRow.knobs == [])) = true := by kernel_rfl
theorem fnCleared_k10 : ((Rows.fnClearedRow.inPlace == Try.prog.inPlace 19)) = true := by kernel_rfl
theorem fnCleared_k11 : ((Rows.fnClearedRow.unfollowed == Try.prog.unfollowed 19)) = true := by kernel_rfl
theorem fnCleared_k12 : ((Rows.fnClearedRow.recurses == Try.prog.recurses 19)) = true := by kernel_rfl
theorem fnCleared_k13 : ((Rows.fnClearedRow.named == Try.prog.varsNamed 19)) = true := by kernel_rfl
theorem fnCleared_k14 : ((Rows.fnClearedRow.maps == (Try.f19.params.toList ++ Rows.fnClearedSpec.plain.varTypes Try.prog).any (Try.prog.mapsRec ·))) = true := by kernel_rfl
theorem fnCleared_k15 : ((Rows.fnClearedRow.ifaces == (Try.f19.params.toList ++ Rows.fnClearedSpec.plain.varTypes Try.prog).any (Try.prog.ifacesRec ·))) = true := by kernel_rfl
theorem fnCleared_k16 : ((Rows.fnClearedRow.mapsOut == Try.prog.mapsAmong Try.f19.resultTypes.toList)) = true := by kernel_rfl
theorem fnCleared_k17 : ((Rows.fnClearedRow.loops == (Try.f19.params.toList ++ Rows.fnClearedSpec.plain.varTypes Try.prog).any (Try.prog.loopsFrom ·))) = true := by kernel_rfl
theorem fnCleared_k17b : ((Rows.fnClearedRow.wideKeys == (Try.f19.params.toList ++ Rows.fnClearedSpec.plain.varTypes Try.prog ++ Try.f19.resultTypes.toList).any (Try.prog.wideKeysFrom ·))) = true := by kernel_rfl
theorem fnCleared_k18 : (Rows.fnClearedSpec.vars.all (Try.prog.varReadable ·)) = true := by kernel_rfl
theorem fnCleared_k19 : (Try.f19.resultTypes.all (fun t => Try.prog.readableRec t && decide (t < Try.prog.types.size))) = true := by kernel_rfl
theorem fnCleared_k20 : ((Rows.fnClearedRow.ifacesOut == Try.f19.resultTypes.toList.any (Try.prog.ifacesRec ·))) = true := by kernel_rfl
theorem fnCleared_k21 : ((Rows.fnClearedRow.loopsOut == Try.f19.resultTypes.toList.any (Try.prog.loopsFrom ·))) = true := by kernel_rfl
theorem fnCleared_k23 : (Rows.fnClearedRow.shortTexts.isNone) = true := by kernel_rfl
theorem fnCleared_k25 : ((Rows.fnClearedRow.kinds == (if Rows.fnClearedRow.domain.isEmpty then [] else Try.f19.params.toList.map fun t => match Try.prog.underlying t with | some (.int k) => some k | _ => none))) = true := by kernel_rfl
theorem fnCleared_k26 : ((Rows.fnClearedRow.pinned == Rows.fnClearedRow.pinnedBy)) = true := by kernel_rfl
theorem fnCleared_k27 : ((Rows.fnClearedRow.veiled == (Try.f19.params.toList ++ Rows.fnClearedSpec.plain.varTypes Try.prog ++ Try.f19.resultTypes.toList).any (Try.prog.veiledRec ·))) = true := by kernel_rfl
theorem fnCleared_k28 : (Rows.fnClearedRow.veiledFits Try.prog Try.f19.params.toList (Try.f19.params.toList ++ Rows.fnClearedSpec.plain.varTypes Try.prog ++ Try.f19.resultTypes.toList)) = true := by kernel_rfl
set_option maxRecDepth 100000 in
theorem fnCleared_closed : joinedFacts Try.prog 19 Try.f19 Rows.fnClearedSpec Rows.fnClearedRow = true := by
  unfold joinedFacts
  exact (and_mk (and_mk (and_mk (and_mk (and_mk (and_mk (and_mk (and_mk (and_mk (and_mk (and_mk (and_mk (and_mk (and_mk (and_mk (and_mk (and_mk (and_mk (and_mk (and_mk (and_mk (and_mk (and_mk (and_mk (and_mk (and_mk (and_mk (and_mk (and_mk (and_mk (and_mk fnCleared_k1 k2) k3) fnCleared_k4) fnCleared_k5) fnCleared_k6) k7) fnCleared_k8) k9) fnCleared_k10) fnCleared_k11) fnCleared_k12) fnCleared_k13) fnCleared_k14) fnCleared_k15) fnCleared_k16) fnCleared_k17) fnCleared_k17b) fnCleared_k18) fnCleared_k19) fnCleared_k20) fnCleared_k21) k22) fnCleared_k23) k23b) k24) k24b) k24c) fnCleared_k25) fnCleared_k26) fnCleared_k27) fnCleared_k28)
theorem fnCleared_holds : Rows.FnClearedSaid :=
  OpenClaim.holds_of_wide 19 Try.f19 rfl rfl rfl rfl rfl rfl rfl ⟨rfl, rfl, rfl, rfl, rfl⟩ rfl rfl rfl rfl rfl (by kernel_rfl) Try.func19 fnCleared_closed
    (of_decide_eq_true (by kernel_rfl)) (by unfold Func.isWrapper; rw [if_neg (of_decide_eq_false (by kernel_rfl))]; exact ⟨rfl, rfl⟩)
    (fun os started H enc _ => fnCleared_lifted os started H enc)
end Go.Proofs.Ytnnembkganlbpaa
