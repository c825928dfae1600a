/- The walks of the laws that a key cuts a tree, upwards and downwards: FnCut, FnCutDown. -/
import Derived.Test.YtnnembkganlbpaaW23
import Derived.Test.YtnnembkganlbpaaRs
namespace Go.Proofs.Ytnnembkganlbpaa
open Go Go.Sl Go.Net Go.Wk Go.Bt Go.RowKit

theorem run_cut (l : List It) (k : Int) (h : l.length ≤ 4000) : runL l [allL 9 0 0, allL 11 k 0, allL 10 k 0] = [⟨false, 0, l⟩, ⟨false, 0, l.filter fun y => decide (y.key < k)⟩, ⟨false, 0, l.filter fun y => decide (k ≤ y.key)⟩] := by
  rw [run_walk 0 0 _ h (by decide) (by decide), run_walk k 0 _ h (by decide) (by decide), run_walk k 0 _ h (by decide) (by decide), range_up, range_11, range_10, run_end]
theorem run_cutD (l : List It) (k : Int) (h : l.length ≤ 4000) : runL l [allL 13 0 0, allL 15 k 0, allL 14 k 0] = [⟨false, 0, l.reverse⟩, ⟨false, 0, l.reverse.filter fun y => decide (k < y.key)⟩, ⟨false, 0, l.reverse.filter fun y => decide (y.key ≤ k)⟩] := by
  rw [run_walk 0 0 _ h (by decide) (by decide), run_walk k 0 _ h (by decide) (by decide), run_walk k 0 _ h (by decide) (by decide), range_down, range_15, range_14, run_end]
set_option maxHeartbeats 1600000 in
theorem f6_ok (R : HProp) (v : Value) (os : List Sop) (d key : Int) (hR : RdO R v os) : Tri Try.prog 6 #[.int .i64 d, v, .int .i64 key] R fun r => pu (r = .bool true) * R := by
  obtain ⟨_, a1, c1, rfl, hc1, hrd⟩ := id hR
  intro w0 F w hs
  refine calls_WP 47 #[.tmp 6] Try.func6 rfl Try.ntmps6 rfl (Nat.le_of_ble_eq_true rfl) ?_
  refine WP_seq ?_
  -- R0
  refine WP_seqr [⟨0, 0, []⟩] (by kernel_rfl) ?_
  refine ns_asg rfl rfl ?_
  refine ns_done ?_
  refine WP_seq ?_ -- S1
  refine WP_seq ?_
  -- R1
  refine WP_seqr [⟨0, 0, []⟩, ⟨1, 0, []⟩, ⟨2, 0, []⟩] (by kernel_rfl) ?_
  refine ns_move rfl rfl ?_
  refine ns_len sl_24 rfl rfl rfl ?_
  refine ns_cmp _ rfl rfl rfl rfl rfl ?_
  refine ns_done ?_
  refine WP_if rfl (fun hif1 => ?_) (fun hif1 => ?_)
  · refine WP_seq ?_
    -- R2
    refine WP_seqr [⟨0, 0, []⟩] (by kernel_rfl) ?_
    refine ns_asg rfl rfl ?_
    refine ns_done ?_
    refine WP_ret ?_
    exact ⟨_, res1 _, St.mk_pu rfl hs.out⟩
  refine WP_skip ?_
  refine WP_seq ?_ -- S2
  refine WP_seq ?_
  -- R3
  refine WP_seqr [⟨0, 0, []⟩, ⟨1, 0, []⟩, ⟨2, 2, []⟩, ⟨3, 0, []⟩] (by kernel_rfl) ?_
  refine ns_move rfl rfl ?_
  refine ns_move rfl rfl ?_
  refine ns_call (f20_ok d a1 os.length c1) ck_20 (hs.foc 1) rfl rfl rfl rfl ?_
  intro v14 w hs
  replace hs := hs.pure
  obtain ⟨rfl, hs⟩ := hs
  refine ns_not rfl rfl rfl ?_
  refine ns_done ?_
  refine WP_if rfl (fun hif2 => ?_) (fun hif2 => ?_)
  · refine WP_seq ?_
    -- R4
    refine WP_seqr [⟨0, 0, []⟩] (by kernel_rfl) ?_
    refine ns_asg rfl rfl ?_
    refine ns_done ?_
    refine WP_ret ?_
    exact ⟨_, res1 _, St.mk_pu rfl hs.out⟩
  refine WP_skip ?_
  have hfit : 2 ≤ d ∧ d ≤ 1000 ∧ os.length ≤ 2000 := by simpa using hif2
  obtain ⟨hd, hd2, hn⟩ := hfit
  obtain ⟨D, rfl⟩ : ∃ D : Nat, d = D := ⟨d.toNat, by omega⟩
  have hlen := heldT_len os
  have hsrt := held_srt (onT os)
  refine WP_seq ?_
  -- R5
  refine WP_seqr [⟨0, 0, []⟩, ⟨1, 0, []⟩, ⟨2, 2, []⟩, ⟨3, 0, []⟩, ⟨4, 2, []⟩, ⟨5, 0, []⟩, ⟨6, 2, []⟩, ⟨7, 2, []⟩, ⟨8, 2, []⟩, ⟨9, 0, []⟩, ⟨10, 0, []⟩, ⟨11, 0, []⟩, ⟨12, 0, []⟩, ⟨13, 0, []⟩] (by kernel_rfl) ?_
  refine ns_move rfl rfl ?_
  refine ns_move rfl rfl ?_
  refine ns_call (f21_ok 9 0 0) ck_21 (hs.foc 1) rfl rfl rfl rfl ?_
  intro v19 w hs
  replace hs := hs.pure
  obtain ⟨rfl, hs⟩ := hs
  refine ns_move rfl rfl ?_
  refine ns_call (f21_ok 11 key 0) ck_21 (hs.foc 1) rfl rfl rfl rfl ?_
  intro v21 w hs
  replace hs := hs.pure
  obtain ⟨rfl, hs⟩ := hs
  refine ns_move rfl rfl ?_
  refine ns_call (f21_ok 10 key 0) ck_21 (hs.foc 1) rfl rfl rfl rfl ?_
  intro v23 w hs
  replace hs := hs.pure
  obtain ⟨rfl, hs⟩ := hs
  refine ns_lit [opV (allL 9 0 0), opV (allL 11 key 0), opV (allL 10 key 0)] (encO [allL 9 0 0, allL 11 key 0, allL 10 key 0]) sl_24 zr_26 (by decide) (by decide) hs rfl rfl rfl rfl (by simp [Value.cells, opV, opC]) rfl ?_
  refine fun b24 w hs hx => ⟨trivial, ?_⟩
  have hmore : RdO (R * pts b24 (.cells (encO [allL 9 0 0, allL 11 key 0, allL 10 key 0]).toArray 26 (0, 0))) (.slice (some ⟨b24, 0, none⟩) 3 3) [allL 9 0 0, allL 11 key 0, allL 10 key 0] := (lit_rdO b24 [allL 9 0 0, allL 11 key 0, allL 10 key 0] (0, 0)).up
  refine ns_call (f22_ok (R * pts b24 (.cells (encO [allL 9 0 0, allL 11 key 0, allL 10 key 0]).toArray 26 (0, 0))) (.slice a1 os.length c1) _ os [allL 9 0 0, allL 11 key 0, allL 10 key 0] D hR.up hmore (by simp) (by omega) (by omega) (by omega) (by simp) (by simp [allL])) ck_22 (hs.foc (R * pts b24 (.cells (encO [allL 9 0 0, allL 11 key 0, allL 10 key 0]).toArray 26 (0, 0)))) rfl rfl rfl rfl ?_
  intro v25 w hs
  replace hs := hs.ex
  obtain ⟨⟨s, R2⟩, hs⟩ := hs
  replace hs := hs.pu
  obtain ⟨⟨rfl, hra⟩, hs⟩ := hs
  simp only [mul_assoc'] at hs
  generalize afterL [] (onT os) = l at hra hlen hsrt
  rw [run_cut l key (by omega)] at hra
  obtain ⟨a4, c4, rfl, _⟩ := id hra.form
  have hcut := cut_plain hsrt key
  generalize hA : (l.filter fun y => decide (y.key < key)) = A at hra hcut
  generalize hB : (l.filter fun y => decide (key ≤ y.key)) = B at hra hcut
  have hlc := congrArg List.length hcut
  simp only [List.length_append] at hlc
  refine ns_move rfl rfl ?_
  refine ns_ext rfl rfl rfl rfl ?_
  refine ns_ext rfl rfl rfl rfl ?_
  refine ns_asg rfl rfl ?_
  refine ns_asg rfl rfl ?_
  refine ns_done ?_
  refine WP_seq ?_
  obtain ⟨g0, o0, _, s0, e, hi0, hc0⟩ := hra.get (i := 0) rfl
  cases e
  obtain ⟨g1, o1, _, s1, e, hi1, hc1⟩ := hra.get (i := 1) rfl
  cases e
  obtain ⟨g2, o2, _, s2, e, hi2, hc2⟩ := hra.get (i := 2) rfl
  cases e
  have hi0 : RdI R2 s0 l := hi0
  have hi1 : RdI R2 s1 A := hi1
  have hi2 : RdI R2 s2 B := hi2
  -- R6
  refine WP_net hs mix [0, 1, 3, 7, 15, 31, 3, 3, 131, 387, 899, 1987, 3, 4099, 12291, 28675, 65475, 131071, 262143, 524287] [⟨0, 0, []⟩, ⟨1, 0, []⟩, ⟨2, 0, []⟩, ⟨3, 0, []⟩, ⟨4, 0, []⟩, ⟨5, 1, []⟩, ⟨7, 0, []⟩, ⟨8, 0, []⟩, ⟨9, 0, []⟩, ⟨10, 1, []⟩, ⟨12, 0, []⟩, ⟨13, 0, []⟩, ⟨14, 0, []⟩, ⟨15, 1, []⟩, ⟨6, 2, [5, 10, 15]⟩, ⟨11, 2, [5, 15]⟩, ⟨16, 2, [5]⟩, ⟨17, 2, []⟩, ⟨18, 0, []⟩, ⟨19, 0, []⟩] (by kernel_rfl) ?_
  intro w hs
  refine ns_move rfl rfl ?_
  refine ns_move rfl rfl ?_
  refine ns_move rfl rfl ?_
  refine ns_idx 0 sl_28 rfl rfl rfl rfl rfl (by simp) ?_
  refine ns_fld fo_36_2 rfl rfl rfl ?_
  refine ns_ld pl_34 rfl rfl rfl ((hc0 _ _ _ (hs.foc R2)).at 2 rfl) ?_
  refine ns_move rfl rfl ?_
  refine ns_idx 1 sl_28 rfl rfl rfl rfl rfl (by simp) ?_
  refine ns_fld fo_36_2 rfl rfl rfl ?_
  refine ns_ld pl_34 rfl rfl rfl ((hc1 _ _ _ (hs.foc R2)).at 2 rfl) ?_
  refine ns_move rfl rfl ?_
  refine ns_idx 2 sl_28 rfl rfl rfl rfl rfl (by simp) ?_
  refine ns_fld fo_36_2 rfl rfl rfl ?_
  refine ns_ld pl_34 rfl rfl rfl ((hc2 _ _ _ (hs.foc R2)).at 2 rfl) ?_
  refine ns_lit0 sl_34 hs rfl rfl ?_
  refine fun b34 w hs _ => ⟨⟨(hc0 _ _ _ (hs.foc R2)).at 2 rfl, (hc1 _ _ _ (hs.foc R2)).at 2 rfl, (hc2 _ _ _ (hs.foc R2)).at 2 rfl, trivial⟩, ?_⟩
  refine ns_appd (news := encs A) sl_34 zr_45 by_45 rfl (by decide) hi1 (hs.foc R2) (hs.foc (Arr 45 2 (.slice (some ⟨b34, 0, none⟩) 0 0) 0 [])) rfl rfl rfl rfl (encs_one A) (by simp only [maxLen]; omega) (by omega) ?_
  refine fun v39 w hs => ⟨⟨(hc0 _ _ _ (hs.foc R2)).at 2 rfl, (hc2 _ _ _ (hs.foc R2)).at 2 rfl, trivial⟩, ?_⟩
  have hs := hs.up (Ent.of_eq (IArr_eq (l := A) (by simp) (by simp)))
  refine ns_appd (news := encs B) sl_34 zr_45 by_45 rfl (by decide) hi2 (hs.foc R2) (hs.foc (IArr v39 A)) rfl rfl rfl rfl (encs_one B) (by simp only [maxLen]; omega) (by omega) ?_
  refine fun v44 w hs => ⟨⟨(hc0 _ _ _ (hs.foc R2)).at 2 rfl, trivial⟩, ?_⟩
  have hs := hs.up (Ent.of_eq (IArr_eq (l := A ++ B) (by simp) (by rw [encs_append])))
  rw [hcut] at hs
  have hr44 : RdI (IArr v44 l) v44 l := Arr.rd (hs.foc (IArr v44 l))
  refine ns_call (f26_ok (R2 * IArr v44 l) s0 v44 l (RdI.up hi0) (RdI.up hr44) (by (try simp only [List.length_reverse]); omega)) ck_26 (hs.foc (R2 * IArr v44 l)) rfl rfl rfl rfl ?_
  intro v45 w hs
  replace hs := hs.pu
  obtain ⟨rfl, hs⟩ := hs
  try simp only [mul_assoc'] at hs
  refine ns_pick rfl rfl rfl ?_
  refine ns_asg rfl rfl ?_
  refine ns_done ?_
  refine WP_ret ?_
  exact ⟨_, res1 _, St.mk_pu rfl hs.out⟩
set_option maxHeartbeats 1600000 in
theorem f7_ok (R : HProp) (v : Value) (os : List Sop) (d key : Int) (hR : RdO R v os) : Tri Try.prog 7 #[.int .i64 d, v, .int .i64 key] R fun r => pu (r = .bool true) * R := by
  obtain ⟨_, a1, c1, rfl, hc1, hrd⟩ := id hR
  intro w0 F w hs
  refine calls_WP 47 #[.tmp 6] Try.func7 rfl Try.ntmps7 rfl (Nat.le_of_ble_eq_true rfl) ?_
  refine WP_seq ?_
  -- R0
  refine WP_seqr [⟨0, 0, []⟩] (by kernel_rfl) ?_
  refine ns_asg rfl rfl ?_
  refine ns_done ?_
  refine WP_seq ?_ -- S1
  refine WP_seq ?_
  -- R1
  refine WP_seqr [⟨0, 0, []⟩, ⟨1, 0, []⟩, ⟨2, 0, []⟩] (by kernel_rfl) ?_
  refine ns_move rfl rfl ?_
  refine ns_len sl_24 rfl rfl rfl ?_
  refine ns_cmp _ rfl rfl rfl rfl rfl ?_
  refine ns_done ?_
  refine WP_if rfl (fun hif1 => ?_) (fun hif1 => ?_)
  · refine WP_seq ?_
    -- R2
    refine WP_seqr [⟨0, 0, []⟩] (by kernel_rfl) ?_
    refine ns_asg rfl rfl ?_
    refine ns_done ?_
    refine WP_ret ?_
    exact ⟨_, res1 _, St.mk_pu rfl hs.out⟩
  refine WP_skip ?_
  refine WP_seq ?_ -- S2
  refine WP_seq ?_
  -- R3
  refine WP_seqr [⟨0, 0, []⟩, ⟨1, 0, []⟩, ⟨2, 2, []⟩, ⟨3, 0, []⟩] (by kernel_rfl) ?_
  refine ns_move rfl rfl ?_
  refine ns_move rfl rfl ?_
  refine ns_call (f20_ok d a1 os.length c1) ck_20 (hs.foc 1) rfl rfl rfl rfl ?_
  intro v14 w hs
  replace hs := hs.pure
  obtain ⟨rfl, hs⟩ := hs
  refine ns_not rfl rfl rfl ?_
  refine ns_done ?_
  refine WP_if rfl (fun hif2 => ?_) (fun hif2 => ?_)
  · refine WP_seq ?_
    -- R4
    refine WP_seqr [⟨0, 0, []⟩] (by kernel_rfl) ?_
    refine ns_asg rfl rfl ?_
    refine ns_done ?_
    refine WP_ret ?_
    exact ⟨_, res1 _, St.mk_pu rfl hs.out⟩
  refine WP_skip ?_
  have hfit : 2 ≤ d ∧ d ≤ 1000 ∧ os.length ≤ 2000 := by simpa using hif2
  obtain ⟨hd, hd2, hn⟩ := hfit
  obtain ⟨D, rfl⟩ : ∃ D : Nat, d = D := ⟨d.toNat, by omega⟩
  have hlen := heldT_len os
  have hsrt := held_srt (onT os)
  refine WP_seq ?_
  -- R5
  refine WP_seqr [⟨0, 0, []⟩, ⟨1, 0, []⟩, ⟨2, 2, []⟩, ⟨3, 0, []⟩, ⟨4, 2, []⟩, ⟨5, 0, []⟩, ⟨6, 2, []⟩, ⟨7, 2, []⟩, ⟨8, 2, []⟩, ⟨9, 0, []⟩, ⟨10, 0, []⟩, ⟨11, 0, []⟩, ⟨12, 0, []⟩, ⟨13, 0, []⟩] (by kernel_rfl) ?_
  refine ns_move rfl rfl ?_
  refine ns_move rfl rfl ?_
  refine ns_call (f21_ok 13 0 0) ck_21 (hs.foc 1) rfl rfl rfl rfl ?_
  intro v19 w hs
  replace hs := hs.pure
  obtain ⟨rfl, hs⟩ := hs
  refine ns_move rfl rfl ?_
  refine ns_call (f21_ok 15 key 0) ck_21 (hs.foc 1) rfl rfl rfl rfl ?_
  intro v21 w hs
  replace hs := hs.pure
  obtain ⟨rfl, hs⟩ := hs
  refine ns_move rfl rfl ?_
  refine ns_call (f21_ok 14 key 0) ck_21 (hs.foc 1) rfl rfl rfl rfl ?_
  intro v23 w hs
  replace hs := hs.pure
  obtain ⟨rfl, hs⟩ := hs
  refine ns_lit [opV (allL 13 0 0), opV (allL 15 key 0), opV (allL 14 key 0)] (encO [allL 13 0 0, allL 15 key 0, allL 14 key 0]) sl_24 zr_26 (by decide) (by decide) hs rfl rfl rfl rfl (by simp [Value.cells, opV, opC]) rfl ?_
  refine fun b24 w hs hx => ⟨trivial, ?_⟩
  have hmore : RdO (R * pts b24 (.cells (encO [allL 13 0 0, allL 15 key 0, allL 14 key 0]).toArray 26 (0, 0))) (.slice (some ⟨b24, 0, none⟩) 3 3) [allL 13 0 0, allL 15 key 0, allL 14 key 0] := (lit_rdO b24 [allL 13 0 0, allL 15 key 0, allL 14 key 0] (0, 0)).up
  refine ns_call (f22_ok (R * pts b24 (.cells (encO [allL 13 0 0, allL 15 key 0, allL 14 key 0]).toArray 26 (0, 0))) (.slice a1 os.length c1) _ os [allL 13 0 0, allL 15 key 0, allL 14 key 0] D hR.up hmore (by simp) (by omega) (by omega) (by omega) (by simp) (by simp [allL])) ck_22 (hs.foc (R * pts b24 (.cells (encO [allL 13 0 0, allL 15 key 0, allL 14 key 0]).toArray 26 (0, 0)))) rfl rfl rfl rfl ?_
  intro v25 w hs
  replace hs := hs.ex
  obtain ⟨⟨s, R2⟩, hs⟩ := hs
  replace hs := hs.pu
  obtain ⟨⟨rfl, hra⟩, hs⟩ := hs
  simp only [mul_assoc'] at hs
  generalize afterL [] (onT os) = l at hra hlen hsrt
  rw [run_cutD l key (by omega)] at hra
  obtain ⟨a4, c4, rfl, _⟩ := id hra.form
  have hcut := cutD_plain hsrt key
  generalize hA : (l.reverse.filter fun y => decide (key < y.key)) = A at hra hcut
  generalize hB : (l.reverse.filter fun y => decide (y.key ≤ key)) = B at hra hcut
  have hlc := congrArg List.length hcut
  simp only [List.length_append, List.length_reverse] at hlc
  refine ns_move rfl rfl ?_
  refine ns_ext rfl rfl rfl rfl ?_
  refine ns_ext rfl rfl rfl rfl ?_
  refine ns_asg rfl rfl ?_
  refine ns_asg rfl rfl ?_
  refine ns_done ?_
  refine WP_seq ?_
  obtain ⟨g0, o0, _, s0, e, hi0, hc0⟩ := hra.get (i := 0) rfl
  cases e
  obtain ⟨g1, o1, _, s1, e, hi1, hc1⟩ := hra.get (i := 1) rfl
  cases e
  obtain ⟨g2, o2, _, s2, e, hi2, hc2⟩ := hra.get (i := 2) rfl
  cases e
  have hi0 : RdI R2 s0 l.reverse := hi0
  have hi1 : RdI R2 s1 A := hi1
  have hi2 : RdI R2 s2 B := hi2
  -- R6
  refine WP_net hs mix [0, 1, 3, 7, 15, 31, 3, 3, 131, 387, 899, 1987, 3, 4099, 12291, 28675, 65475, 131071, 262143, 524287] [⟨0, 0, []⟩, ⟨1, 0, []⟩, ⟨2, 0, []⟩, ⟨3, 0, []⟩, ⟨4, 0, []⟩, ⟨5, 1, []⟩, ⟨7, 0, []⟩, ⟨8, 0, []⟩, ⟨9, 0, []⟩, ⟨10, 1, []⟩, ⟨12, 0, []⟩, ⟨13, 0, []⟩, ⟨14, 0, []⟩, ⟨15, 1, []⟩, ⟨6, 2, [5, 10, 15]⟩, ⟨11, 2, [5, 15]⟩, ⟨16, 2, [5]⟩, ⟨17, 2, []⟩, ⟨18, 0, []⟩, ⟨19, 0, []⟩] (by kernel_rfl) ?_
  intro w hs
  refine ns_move rfl rfl ?_
  refine ns_move rfl rfl ?_
  refine ns_move rfl rfl ?_
  refine ns_idx 0 sl_28 rfl rfl rfl rfl rfl (by simp) ?_
  refine ns_fld fo_36_2 rfl rfl rfl ?_
  refine ns_ld pl_34 rfl rfl rfl ((hc0 _ _ _ (hs.foc R2)).at 2 rfl) ?_
  refine ns_move rfl rfl ?_
  refine ns_idx 1 sl_28 rfl rfl rfl rfl rfl (by simp) ?_
  refine ns_fld fo_36_2 rfl rfl rfl ?_
  refine ns_ld pl_34 rfl rfl rfl ((hc1 _ _ _ (hs.foc R2)).at 2 rfl) ?_
  refine ns_move rfl rfl ?_
  refine ns_idx 2 sl_28 rfl rfl rfl rfl rfl (by simp) ?_
  refine ns_fld fo_36_2 rfl rfl rfl ?_
  refine ns_ld pl_34 rfl rfl rfl ((hc2 _ _ _ (hs.foc R2)).at 2 rfl) ?_
  refine ns_lit0 sl_34 hs rfl rfl ?_
  refine fun b34 w hs _ => ⟨⟨(hc0 _ _ _ (hs.foc R2)).at 2 rfl, (hc1 _ _ _ (hs.foc R2)).at 2 rfl, (hc2 _ _ _ (hs.foc R2)).at 2 rfl, trivial⟩, ?_⟩
  refine ns_appd (news := encs A) sl_34 zr_45 by_45 rfl (by decide) hi1 (hs.foc R2) (hs.foc (Arr 45 2 (.slice (some ⟨b34, 0, none⟩) 0 0) 0 [])) rfl rfl rfl rfl (encs_one A) (by simp only [maxLen]; omega) (by omega) ?_
  refine fun v39 w hs => ⟨⟨(hc0 _ _ _ (hs.foc R2)).at 2 rfl, (hc2 _ _ _ (hs.foc R2)).at 2 rfl, trivial⟩, ?_⟩
  have hs := hs.up (Ent.of_eq (IArr_eq (l := A) (by simp) (by simp)))
  refine ns_appd (news := encs B) sl_34 zr_45 by_45 rfl (by decide) hi2 (hs.foc R2) (hs.foc (IArr v39 A)) rfl rfl rfl rfl (encs_one B) (by simp only [maxLen]; omega) (by omega) ?_
  refine fun v44 w hs => ⟨⟨(hc0 _ _ _ (hs.foc R2)).at 2 rfl, trivial⟩, ?_⟩
  have hs := hs.up (Ent.of_eq (IArr_eq (l := A ++ B) (by simp) (by rw [encs_append])))
  rw [hcut] at hs
  have hr44 : RdI (IArr v44 l.reverse) v44 l.reverse := Arr.rd (hs.foc (IArr v44 l.reverse))
  refine ns_call (f26_ok (R2 * IArr v44 l.reverse) s0 v44 l.reverse (RdI.up hi0) (RdI.up hr44) (by (try simp only [List.length_reverse]); omega)) ck_26 (hs.foc (R2 * IArr v44 l.reverse)) rfl rfl rfl rfl ?_
  intro v45 w hs
  replace hs := hs.pu
  obtain ⟨rfl, hs⟩ := hs
  try simp only [mul_assoc'] at hs
  refine ns_pick rfl rfl rfl ?_
  refine ns_asg rfl rfl ?_
  refine ns_done ?_
  refine WP_ret ?_
  exact ⟨_, res1 _, St.mk_pu rfl hs.out⟩
end Go.Proofs.Ytnnembkganlbpaa
