/- The walk of the law on the two ends: FnEnds. -/
import Derived.Test.YtnnembkganlbpaaRt
namespace Go.Proofs.Ytnnembkganlbpaa
open Go Go.Sl Go.Net Go.Wk Go.Bt Go.RowKit

theorem ends_eq {l : List It} (h : l ≠ []) : [oneA l.head?, oneA l.getLast?] = [⟨true, 0, l.take 1⟩, ⟨true, 0, l.drop (l.length - 1)⟩] := by
  have e1 : oneA l.head? = ⟨true, 0, l.take 1⟩ := by
    cases l with
    | nil => exact absurd rfl h
    | cons x l => rfl
  have e2 : oneA l.getLast? = ⟨true, 0, l.drop (l.length - 1)⟩ := by
    rcases List.eq_nil_or_concat l with e | ⟨l', x, rfl⟩
    · exact absurd e h
    · rw [List.concat_eq_append, List.getLast?_concat, List.length_append, List.length_singleton, Nat.add_sub_cancel, List.drop_left]
      rfl
  rw [e1, e2]
theorem rd_two {R : HProp} {a b : An} {s t : Value} (h1 : RdI R s a.items) (h2 : RdI R t b.items) : ∀ (i : Nat) (x : An) (y : Value), [a, b][i]? = some x → [s, t][i]? = some y → RdI R y x.items := by
  intro i x y hx hy
  match i with
  | 0 => cases hx; cases hy; exact h1
  | 1 => cases hx; cases hy; exact h2
  | i + 2 => simp at hx
theorem rd_one {R : HProp} {a : An} {s : Value} (h1 : RdI R s a.items) : ∀ (i : Nat) (x : An) (y : Value), [a][i]? = some x → [s][i]? = some y → RdI R y x.items := by
  intro i x y hx hy
  match i with
  | 0 => cases hx; cases hy; exact h1
  | i + 1 => simp at hx
set_option maxHeartbeats 3200000 in
theorem f9_ok (R : HProp) (v : Value) (os : List Sop) (d : Int) (hR : RdO R v os) : Tri Try.prog 9 #[.int .i64 d, v] R fun r => pu (r = .bool true) * R := by
  obtain ⟨_, a1, c1, rfl, hc1, hrd⟩ := id hR
  intro w0 F w hs
  refine calls_WP 55 #[.tmp 4] Try.func9 rfl Try.ntmps9 rfl (Nat.le_of_ble_eq_true rfl) ?_
  refine WP_seq ?_
  -- R0
  refine WP_seqr [⟨0, 0, []⟩] (by kernel_rfl) ?_
  refine ns_asg rfl rfl ?_
  refine ns_done ?_
  refine WP_seq ?_ -- S1
  refine WP_seq ?_
  -- R1
  refine WP_seqr [⟨0, 0, []⟩, ⟨1, 0, []⟩, ⟨2, 0, []⟩] (by kernel_rfl) ?_
  refine ns_move rfl rfl ?_
  refine ns_len sl_24 rfl rfl rfl ?_
  refine ns_cmp _ rfl rfl rfl rfl rfl ?_
  refine ns_done ?_
  refine WP_if rfl (fun hif1 => ?_) (fun hif1 => ?_)
  · refine WP_seq ?_
    -- R2
    refine WP_seqr [⟨0, 0, []⟩] (by kernel_rfl) ?_
    refine ns_asg rfl rfl ?_
    refine ns_done ?_
    refine WP_ret ?_
    exact ⟨_, res1 _, St.mk_pu rfl hs.out⟩
  refine WP_skip ?_
  refine WP_seq ?_ -- S2
  refine WP_seq ?_
  -- R3
  refine WP_seqr [⟨0, 0, []⟩, ⟨1, 0, []⟩, ⟨2, 2, []⟩, ⟨3, 0, []⟩] (by kernel_rfl) ?_
  refine ns_move rfl rfl ?_
  refine ns_move rfl rfl ?_
  refine ns_call (f20_ok d a1 os.length c1) ck_20 (hs.foc 1) rfl rfl rfl rfl ?_
  intro v15 w hs
  replace hs := hs.pure
  obtain ⟨rfl, hs⟩ := hs
  refine ns_not rfl rfl rfl ?_
  refine ns_done ?_
  refine WP_if rfl (fun hif2 => ?_) (fun hif2 => ?_)
  · refine WP_seq ?_
    -- R4
    refine WP_seqr [⟨0, 0, []⟩] (by kernel_rfl) ?_
    refine ns_asg rfl rfl ?_
    refine ns_done ?_
    refine WP_ret ?_
    exact ⟨_, res1 _, St.mk_pu rfl hs.out⟩
  refine WP_skip ?_
  have hfit : 2 ≤ d ∧ d ≤ 1000 ∧ os.length ≤ 2000 := by simpa using hif2
  obtain ⟨hd, hd2, hn⟩ := hfit
  obtain ⟨D, rfl⟩ : ∃ D : Nat, d = D := ⟨d.toNat, by omega⟩
  have hlen := heldT_len os
  have hsrt := held_srt (onT os)
  refine WP_seq ?_
  -- R5
  refine WP_seqr [⟨0, 0, []⟩, ⟨1, 0, []⟩, ⟨2, 0, []⟩, ⟨3, 0, []⟩, ⟨4, 2, []⟩, ⟨5, 2, []⟩, ⟨6, 2, []⟩, ⟨7, 0, []⟩, ⟨8, 0, []⟩, ⟨9, 0, []⟩, ⟨10, 0, []⟩, ⟨11, 0, []⟩] (by kernel_rfl) ?_
  refine ns_move rfl rfl ?_
  refine ns_move rfl rfl ?_
  refine ns_build [(0, .int .i64 4)] (opC (kdL 4)) pp_26 zc_26 rfl rfl rfl rfl ?_
  refine ns_build [(0, .int .i64 5)] (opC (kdL 5)) pp_26 zc_26 rfl rfl rfl rfl ?_
  refine ns_call (f21_ok 9 0 0) ck_21 (hs.foc 1) rfl rfl rfl rfl ?_
  intro v22 w hs
  replace hs := hs.pure
  obtain ⟨rfl, hs⟩ := hs
  refine ns_lit [opV (kdL 4), opV (kdL 5), opV (allL 9 0 0)] (encO [kdL 4, kdL 5, allL 9 0 0]) sl_24 zr_26 (by decide) (by decide) hs rfl rfl rfl rfl (by simp [Value.cells, opV, opC]) rfl ?_
  refine fun b23 w hs hx => ⟨trivial, ?_⟩
  have hmore : RdO (R * pts b23 (.cells (encO [kdL 4, kdL 5, allL 9 0 0]).toArray 26 (0, 0))) (.slice (some ⟨b23, 0, none⟩) 3 3) [kdL 4, kdL 5, allL 9 0 0] := (lit_rdO b23 [kdL 4, kdL 5, allL 9 0 0] (0, 0)).up
  refine ns_call (f22_ok (R * pts b23 (.cells (encO [kdL 4, kdL 5, allL 9 0 0]).toArray 26 (0, 0))) (.slice a1 os.length c1) _ os [kdL 4, kdL 5, allL 9 0 0] D hR.up hmore (by simp) (by omega) (by omega) (by omega) (by simp) (by simp [allL, kdL])) ck_22 (hs.foc (R * pts b23 (.cells (encO [kdL 4, kdL 5, allL 9 0 0]).toArray 26 (0, 0)))) rfl rfl rfl rfl ?_
  intro v24 w hs
  replace hs := hs.ex
  obtain ⟨⟨s, R2⟩, hs⟩ := hs
  replace hs := hs.pu
  obtain ⟨⟨rfl, hra⟩, hs⟩ := hs
  simp only [mul_assoc'] at hs
  generalize afterL [] (onT os) = l at hra hlen hsrt
  rw [run_ends l (by omega)] at hra
  obtain ⟨a4, c4, rfl, hc4⟩ := id hra.form
  obtain ⟨g2, o2, _, s2, e, hi2, hc2⟩ := hra.get (i := 2) rfl
  cases e
  have hi2 : RdI R2 s2 l := hi2
  obtain ⟨a6, c6, rfl, hc6⟩ := id hi2.form
  refine ns_move rfl rfl ?_
  refine ns_ext rfl rfl rfl rfl ?_
  refine ns_ext rfl rfl rfl rfl ?_
  refine ns_asg rfl rfl ?_
  refine ns_asg rfl rfl ?_
  refine ns_done ?_
  refine WP_seq ?_ -- S3
  refine WP_seq ?_
  -- R6
  refine WP_seqr [⟨0, 0, []⟩, ⟨1, 0, []⟩] (by kernel_rfl) ?_
  refine ns_move rfl rfl ?_
  refine ns_not rfl rfl rfl ?_
  refine ns_done ?_
  refine WP_false rfl ?_ -- if3
  refine WP_skip ?_
  refine WP_seq ?_
  -- R8
  refine WP_seqr [⟨0, 0, []⟩, ⟨1, 0, []⟩, ⟨2, 0, []⟩, ⟨3, 1, []⟩, ⟨4, 0, []⟩] (by kernel_rfl) ?_
  refine ns_move rfl rfl ?_
  refine ns_idx 2 sl_28 rfl rfl rfl rfl rfl (by simp) ?_
  refine ns_fld fo_36_2 rfl rfl rfl ?_
  refine ns_ld pl_34 rfl rfl rfl ((hc2 _ _ _ (hs.foc R2)).at 2 rfl) ?_
  refine ns_asg rfl rfl ?_
  refine ns_done ?_
  refine WP_seq ?_ -- S4
  refine WP_seq ?_
  -- R9
  refine WP_seqr [⟨0, 0, []⟩, ⟨1, 0, []⟩, ⟨2, 0, []⟩] (by kernel_rfl) ?_
  refine ns_move rfl rfl ?_
  refine ns_len sl_34 rfl rfl rfl ?_
  refine ns_cmp _ rfl rfl rfl rfl rfl ?_
  refine ns_done ?_
  refine WP_if rfl (fun hif4 => ?_) (fun hif4 => ?_)
  · refine WP_seq ?_
    have hl : l = [] := List.eq_nil_of_length_eq_zero (by have : ((l.length : Int) == 0) = true := hif4; simpa using this)
    subst hl
    -- R10
    refine WP_net hs mix [0, 1, 0, 7, 15] [⟨0, 0, []⟩, ⟨1, 0, []⟩, ⟨2, 2, []⟩, ⟨3, 2, []⟩, ⟨4, 0, []⟩] (by kernel_rfl) ?_
    intro w hs
    refine ns_move rfl rfl ?_
    refine ns_sliceHi 2 sl_28 rfl rfl rfl rfl rfl (by simp at hc4; omega) ?_
    refine ns_makeN (n := 2) (encA [⟨false, 0, []⟩, ⟨false, 0, []⟩] [.slice none 0 0, .slice none 0 0]).toArray sl_28 zr_36 by_36 (by decide) (by decide) (by decide) hs rfl rfl rfl rfl (by decide) (by kernel_rfl) ?_
    refine fun b38 w hs _ => ⟨trivial, ?_⟩
    have hq1 : RdA R2 (.slice (some ⟨g2, o2, none⟩) 2 c4) [⟨false, 0, []⟩, ⟨false, 0, []⟩] := RdA.head rfl hra 2 (by simp)
    have hq2 := lit_rdA b38 [⟨false, 0, []⟩, ⟨false, 0, []⟩] [.slice none 0 0, .slice none 0 0] R2 (0, 0) rfl (rd_two (nil_rdI R2) (nil_rdI R2))
    refine ns_call (f25_ok (R2 * pts b38 (.cells (encA [⟨false, 0, []⟩, ⟨false, 0, []⟩] [.slice none 0 0, .slice none 0 0]).toArray 36 (0, 0))) _ _ [⟨false, 0, []⟩, ⟨false, 0, []⟩] (RdA.up hq1) hq2 (by simp) (by simp)) ck_25 (hs.foc (R2 * pts b38 (.cells (encA [⟨false, 0, []⟩, ⟨false, 0, []⟩] [.slice none 0 0, .slice none 0 0]).toArray 36 (0, 0)))) rfl rfl rfl rfl ?_
    intro v39 w hs
    replace hs := hs.pu
    obtain ⟨rfl, hs⟩ := hs
    try simp only [mul_assoc'] at hs
    refine ns_asg rfl rfl ?_
    refine ns_done ?_
    refine WP_ret ?_
    exact ⟨_, res1 _, St.mk_pu rfl hs.out⟩
  refine WP_skip ?_
  have hl : l ≠ [] := by
    intro e
    subst e
    cases hif4
  have hlp : 0 < l.length := List.length_pos_iff.2 hl
  refine WP_seq_cut (fun σ w => ∃ b8 b9, σ 5 = .slice (some ⟨g2, o2, none⟩) 3 c4 ∧ σ 8 = .pointer (some ⟨b8, 0, none⟩) ∧ σ 9 = .pointer (some ⟨b9, 0, none⟩) ∧ St w0 (pts b8 (.cells #[.bool true, .int .i64 0, .slice a6 1 c6] 36 (0, 0)) * (pts b9 (.cells #[.bool true, .int .i64 0, .slice (if c6 = l.length - 1 then a6 else a6.map (·.add ((l.length - 1) * 2))) (l.length - (l.length - 1)) (c6 - (l.length - 1))] 36 (0, 0)) * (R * (R2 * F)))) w) ?_ ?_ -- R11.cut
  · -- R11
    refine WP_tre hs mix [0, 1, 3, 0, 0, 16, 48, 120, 248, 0, 0, 1543, 4095] (.cons ⟨0, 0, []⟩ (.cons ⟨1, 0, []⟩ (.cons ⟨2, 0, []⟩ (.cons ⟨3, 0, []⟩ (.cons ⟨4, 0, []⟩ (.cons ⟨5, 0, []⟩ (.cons ⟨6, 0, []⟩ (.cons ⟨7, 0, []⟩ (.cons ⟨8, 0, []⟩ (.fork ⟨9, 2, []⟩ (.cons ⟨10, 2, []⟩ (.cons ⟨11, 2, []⟩ (.cons ⟨12, 2, []⟩ .nil))) ⟨10, 2, []⟩ (.cons ⟨9, 2, []⟩ (.cons ⟨11, 2, []⟩ (.cons ⟨12, 2, []⟩ .nil))))))))))))) (by kernel_rfl) ?_
    intro w hs
    refine ns_move rfl rfl ?_
    refine ns_sliceHi 1 sl_34 rfl rfl rfl rfl rfl (by omega) ?_
    refine ns_build [(0, .bool true), (2, .slice a6 1 c6)] (#[.bool true, .int .i64 0, .slice a6 1 c6]) pp_36 zc_36 rfl rfl rfl rfl ?_
    refine ns_move rfl rfl ?_
    refine ns_move rfl rfl ?_
    refine ns_len sl_34 rfl rfl rfl ?_
    refine ns_sub rfl rfl rfl rfl (by omega) (by omega) ?_
    refine ns_sliceLo (l.length - 1) sl_34 rfl rfl rfl rfl (by omega) (by omega) ?_
    refine ns_build [(0, .bool true), (2, .slice (if c6 = l.length - 1 then a6 else a6.map (·.add ((l.length - 1) * 2))) (l.length - (l.length - 1)) (c6 - (l.length - 1)))] (#[.bool true, .int .i64 0, .slice (if c6 = l.length - 1 then a6 else a6.map (·.add ((l.length - 1) * 2))) (l.length - (l.length - 1)) (c6 - (l.length - 1))]) pp_36 zc_36 rfl rfl rfl rfl ?_
    refine ns_fork ?_ ?_
    · refine ns_alloc zc_36 hs rfl rfl ?_
      intro b8 w hs
      refine ns_alloc zc_36 hs rfl rfl ?_
      intro b9 w hs
      refine ns_stA (#[.bool true, .int .i64 0, .slice a6 1 c6]) ag_36 rfl (by decide) hs rfl rfl rfl rfl (by intro u hu; simp at hu; rcases hu with rfl | rfl | rfl <;> rfl) (by simp) ?_
      refine fun w hs => ⟨trivial, ?_⟩
      refine ns_stA (#[.bool true, .int .i64 0, .slice (if c6 = l.length - 1 then a6 else a6.map (·.add ((l.length - 1) * 2))) (l.length - (l.length - 1)) (c6 - (l.length - 1))]) ag_36 rfl (by decide) hs rfl rfl rfl rfl (by intro u hu; simp at hu; rcases hu with rfl | rfl | rfl <;> rfl) (by simp) ?_
      refine fun w hs => ⟨trivial, ?_⟩
      refine ns_done ?_
      have hs : St w0 (pts b9 (.cells #[.bool true, .int .i64 0, .slice (if c6 = l.length - 1 then a6 else a6.map (·.add ((l.length - 1) * 2))) (l.length - (l.length - 1)) (c6 - (l.length - 1))] 36 (0, 0)) * (pts b8 (.cells #[.bool true, .int .i64 0, .slice a6 1 c6] 36 (0, 0)) * _)) w := hs
      exact ⟨b8, b9, rfl, rfl, rfl, hs.out⟩
    · refine ns_alloc zc_36 hs rfl rfl ?_
      intro b9 w hs
      refine ns_alloc zc_36 hs rfl rfl ?_
      intro b8 w hs
      refine ns_stA (#[.bool true, .int .i64 0, .slice a6 1 c6]) ag_36 rfl (by decide) hs rfl rfl rfl rfl (by intro u hu; simp at hu; rcases hu with rfl | rfl | rfl <;> rfl) (by simp) ?_
      refine fun w hs => ⟨trivial, ?_⟩
      refine ns_stA (#[.bool true, .int .i64 0, .slice (if c6 = l.length - 1 then a6 else a6.map (·.add ((l.length - 1) * 2))) (l.length - (l.length - 1)) (c6 - (l.length - 1))]) ag_36 rfl (by decide) hs rfl rfl rfl rfl (by intro u hu; simp at hu; rcases hu with rfl | rfl | rfl <;> rfl) (by simp) ?_
      refine fun w hs => ⟨trivial, ?_⟩
      refine ns_done ?_
      have hs : St w0 (pts b8 (.cells #[.bool true, .int .i64 0, .slice a6 1 c6] 36 (0, 0)) * (pts b9 (.cells #[.bool true, .int .i64 0, .slice (if c6 = l.length - 1 then a6 else a6.map (·.add ((l.length - 1) * 2))) (l.length - (l.length - 1)) (c6 - (l.length - 1))] 36 (0, 0)) * _)) w := hs
      exact ⟨b8, b9, rfl, rfl, rfl, hs.out⟩
  rintro σ w ⟨b8, b9, g5, g8, g9, hs⟩
  obtain ⟨σ, rfl⟩ := rebase g5
  obtain ⟨σ, rfl⟩ := rebase (σ := σ) g8
  obtain ⟨σ, rfl⟩ := rebase (σ := σ) g9
  clear g5 g8 g9
  refine WP_seq ?_
  -- R12
  refine WP_net hs mix [0, 1, 0, 0, 12, 31, 63] [⟨0, 0, []⟩, ⟨1, 0, []⟩, ⟨2, 1, []⟩, ⟨3, 1, []⟩, ⟨4, 2, []⟩, ⟨5, 2, []⟩, ⟨6, 0, []⟩] (by kernel_rfl) ?_
  intro w hs
  refine ns_move rfl rfl ?_
  refine ns_sliceHi 2 sl_28 rfl rfl rfl rfl rfl (by simp at hc4; omega) ?_
  refine ns_ldAB [.bool true, .int .i64 0, .slice a6 1 c6] ag_36 hs rfl rfl rfl (by rfl) (by rfl) (by decide) ?_
  refine ns_ldAB [.bool true, .int .i64 0, .slice (if c6 = l.length - 1 then a6 else a6.map (·.add ((l.length - 1) * 2))) (l.length - (l.length - 1)) (c6 - (l.length - 1))] ag_36 hs rfl rfl rfl (by rfl) (by rfl) (by decide) ?_
  refine ns_lit [.agg #[.bool true, .int .i64 0, .slice a6 1 c6], .agg #[.bool true, .int .i64 0, .slice (if c6 = l.length - 1 then a6 else a6.map (·.add ((l.length - 1) * 2))) (l.length - (l.length - 1)) (c6 - (l.length - 1))]] (encA [⟨true, 0, l.take 1⟩, ⟨true, 0, l.drop (l.length - 1)⟩] [.slice a6 1 c6, .slice (if c6 = l.length - 1 then a6 else a6.map (·.add ((l.length - 1) * 2))) (l.length - (l.length - 1)) (c6 - (l.length - 1))]) sl_28 zr_36 (by decide) (by decide) hs rfl rfl rfl rfl (by simp [Value.cells]) rfl ?_
  refine fun b53 w hs hx => ⟨trivial, ?_⟩
  have hq1 : RdA R2 (.slice (some ⟨g2, o2, none⟩) 2 c4) ([oneA l.head?, oneA l.getLast?, ⟨false, 0, l⟩].take 2) := RdA.head rfl hra 2 (by simp)
  rw [show [oneA l.head?, oneA l.getLast?, (⟨false, 0, l⟩ : An)].take 2 = [oneA l.head?, oneA l.getLast?] from rfl, ends_eq hl] at hq1
  have hq2 := lit_rdA b53 [⟨true, 0, l.take 1⟩, ⟨true, 0, l.drop (l.length - 1)⟩] [.slice a6 1 c6, .slice (if c6 = l.length - 1 then a6 else a6.map (·.add ((l.length - 1) * 2))) (l.length - (l.length - 1)) (c6 - (l.length - 1))] R2 (0, 0) rfl (rd_two (RdI.head rfl hi2 1 (by omega)) (RdI.tail rfl hi2 (l.length - 1) (by omega)))
  refine ns_call (f25_ok (R2 * pts b53 (.cells (encA [⟨true, 0, l.take 1⟩, ⟨true, 0, l.drop (l.length - 1)⟩] [.slice a6 1 c6, .slice (if c6 = l.length - 1 then a6 else a6.map (·.add ((l.length - 1) * 2))) (l.length - (l.length - 1)) (c6 - (l.length - 1))]).toArray 36 (0, 0))) _ _ [⟨true, 0, l.take 1⟩, ⟨true, 0, l.drop (l.length - 1)⟩] (RdA.up hq1) hq2 (by simp) (by
    intro x hx
    simp only [List.mem_cons, List.not_mem_nil, or_false] at hx
    rcases hx with rfl | rfl
    · simp; omega
    · simp; omega)) ck_25 (hs.foc (R2 * pts b53 (.cells (encA [⟨true, 0, l.take 1⟩, ⟨true, 0, l.drop (l.length - 1)⟩] [.slice a6 1 c6, .slice (if c6 = l.length - 1 then a6 else a6.map (·.add ((l.length - 1) * 2))) (l.length - (l.length - 1)) (c6 - (l.length - 1))]).toArray 36 (0, 0)))) rfl rfl rfl rfl ?_
  intro v54 w hs
  replace hs := hs.pu
  obtain ⟨rfl, hs⟩ := hs
  try simp only [mul_assoc'] at hs
  refine ns_asg rfl rfl ?_
  refine ns_done ?_
  refine WP_ret ?_
  exact ⟨_, res1 _, St.mk_pu rfl hs.out⟩
end Go.Proofs.Ytnnembkganlbpaa
