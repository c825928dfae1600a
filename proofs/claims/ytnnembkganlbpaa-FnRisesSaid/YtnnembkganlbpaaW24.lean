/- The walk of the law that walks rise: FnRises. -/
import Derived.Test.YtnnembkganlbpaaW23
import Derived.Test.YtnnembkganlbpaaLa
namespace Go.Proofs.Ytnnembkganlbpaa
open Go Go.Sl Go.Net Go.Wk Go.Bt Go.RowKit
set_option maxHeartbeats 1600000 in
theorem f15_ok (R : HProp) (v : Value) (os : List Sop) (d : Int) (hR : RdO R v os) : Tri Try.prog 15 #[.int .i64 d, v] R fun r => pu (r = .bool true) * R := by
  obtain ⟨_, a1, c1, rfl, hc1, hrd⟩ := id hR
  intro w0 F w hs
  refine calls_WP 43 #[.tmp 4] Try.func15 rfl Try.ntmps15 rfl (Nat.le_of_ble_eq_true rfl) ?_
  refine WP_seq ?_
  -- R0
  refine WP_seqr [⟨0, 0, []⟩] (by kernel_rfl) ?_
  refine ns_asg rfl rfl ?_
  refine ns_done ?_
  refine WP_seq ?_ -- S1
  refine WP_seq ?_
  -- R1
  refine WP_seqr [⟨0, 0, []⟩, ⟨1, 0, []⟩, ⟨2, 0, []⟩] (by kernel_rfl) ?_
  refine ns_move rfl rfl ?_
  refine ns_len sl_24 rfl rfl rfl ?_
  refine ns_cmp _ rfl rfl rfl rfl rfl ?_
  refine ns_done ?_
  refine WP_if rfl (fun hif1 => ?_) (fun hif1 => ?_)
  · refine WP_seq ?_
    -- R2
    refine WP_seqr [⟨0, 0, []⟩] (by kernel_rfl) ?_
    refine ns_asg rfl rfl ?_
    refine ns_done ?_
    refine WP_ret ?_
    exact ⟨_, res1 _, St.mk_pu rfl hs.out⟩
  refine WP_skip ?_
  refine WP_seq ?_ -- S2
  refine WP_seq ?_
  -- R3
  refine WP_seqr [⟨0, 0, []⟩, ⟨1, 0, []⟩, ⟨2, 2, []⟩, ⟨3, 0, []⟩] (by kernel_rfl) ?_
  refine ns_move rfl rfl ?_
  refine ns_move rfl rfl ?_
  refine ns_call (f20_ok d a1 os.length c1) ck_20 (hs.foc 1) rfl rfl rfl rfl ?_
  intro v12 w hs
  replace hs := hs.pure
  obtain ⟨rfl, hs⟩ := hs
  refine ns_not rfl rfl rfl ?_
  refine ns_done ?_
  refine WP_if rfl (fun hif2 => ?_) (fun hif2 => ?_)
  · refine WP_seq ?_
    -- R4
    refine WP_seqr [⟨0, 0, []⟩] (by kernel_rfl) ?_
    refine ns_asg rfl rfl ?_
    refine ns_done ?_
    refine WP_ret ?_
    exact ⟨_, res1 _, St.mk_pu rfl hs.out⟩
  refine WP_skip ?_
  have hfit : 2 ≤ d ∧ d ≤ 1000 ∧ os.length ≤ 2000 := by simpa using hif2
  obtain ⟨hd, hd2, hn⟩ := hfit
  obtain ⟨D, rfl⟩ : ∃ D : Nat, d = D := ⟨d.toNat, by omega⟩
  have hlen := heldT_len os
  have hsrt := held_srt (onT os)
  refine WP_seq ?_
  -- R5
  refine WP_seqr [⟨0, 0, []⟩, ⟨1, 0, []⟩, ⟨2, 2, []⟩, ⟨3, 2, []⟩, ⟨4, 2, []⟩, ⟨5, 2, []⟩, ⟨6, 0, []⟩, ⟨7, 0, []⟩, ⟨8, 0, []⟩, ⟨9, 0, []⟩, ⟨10, 0, []⟩] (by kernel_rfl) ?_
  refine ns_move rfl rfl ?_
  refine ns_move rfl rfl ?_
  refine ns_call (f21_ok 9 0 0) ck_21 (hs.foc 1) rfl rfl rfl rfl ?_
  intro v17 w hs
  replace hs := hs.pure
  obtain ⟨rfl, hs⟩ := hs
  refine ns_call (f21_ok 13 0 0) ck_21 (hs.foc 1) rfl rfl rfl rfl ?_
  intro v18 w hs
  replace hs := hs.pure
  obtain ⟨rfl, hs⟩ := hs
  refine ns_lit [opV (allL 9 0 0), opV (allL 13 0 0)] (encO [allL 9 0 0, allL 13 0 0]) sl_24 zr_26 (by decide) (by decide) hs rfl rfl rfl rfl (by simp [Value.cells, opV, opC]) rfl ?_
  refine fun b19 w hs hx => ⟨trivial, ?_⟩
  have hmore : RdO (R * pts b19 (.cells (encO [allL 9 0 0, allL 13 0 0]).toArray 26 (0, 0))) (.slice (some ⟨b19, 0, none⟩) 2 2) [allL 9 0 0, allL 13 0 0] := (lit_rdO b19 [allL 9 0 0, allL 13 0 0] (0, 0)).up
  refine ns_call (f22_ok (R * pts b19 (.cells (encO [allL 9 0 0, allL 13 0 0]).toArray 26 (0, 0))) (.slice a1 os.length c1) _ os [allL 9 0 0, allL 13 0 0] D hR.up hmore (by simp) (by omega) (by omega) (by omega) (by simp) (by simp [allL])) ck_22 (hs.foc (R * pts b19 (.cells (encO [allL 9 0 0, allL 13 0 0]).toArray 26 (0, 0)))) rfl rfl rfl rfl ?_
  intro v20 w hs
  replace hs := hs.ex
  obtain ⟨⟨s, R2⟩, hs⟩ := hs
  replace hs := hs.pu
  obtain ⟨⟨rfl, hra⟩, hs⟩ := hs
  simp only [mul_assoc'] at hs
  generalize afterL [] (onT os) = l at hra hlen hsrt
  rw [rises_plain l (by omega)] at hra
  obtain ⟨a4, c4, rfl, _⟩ := id hra.form
  refine ns_move rfl rfl ?_
  refine ns_ext rfl rfl rfl rfl ?_
  refine ns_ext rfl rfl rfl rfl ?_
  refine ns_asg rfl rfl ?_
  refine ns_asg rfl rfl ?_
  refine ns_done ?_
  refine WP_seq ?_
  obtain ⟨g0, o0, _, s0, e, hi0, hc0⟩ := hra.get (i := 0) rfl
  cases e
  obtain ⟨g1, o1, _, s1, e, hi1, hc1⟩ := hra.get (i := 1) rfl
  cases e
  -- R6
  refine WP_net hs mix [0, 1, 3, 7, 15, 31, 63, 127, 255, 511, 1023, 2047, 4095, 511, 8703, 25087, 57855, 123391, 262143, 524287, 1048575] [⟨0, 0, []⟩, ⟨1, 0, []⟩, ⟨2, 0, []⟩, ⟨3, 0, []⟩, ⟨4, 0, []⟩, ⟨5, 1, []⟩, ⟨6, 2, []⟩, ⟨7, 0, []⟩, ⟨8, 0, []⟩, ⟨9, 0, []⟩, ⟨10, 0, []⟩, ⟨11, 0, []⟩, ⟨12, 1, []⟩, ⟨13, 0, []⟩, ⟨14, 0, []⟩, ⟨15, 0, []⟩, ⟨16, 1, []⟩, ⟨17, 2, [12]⟩, ⟨18, 2, []⟩, ⟨19, 0, []⟩, ⟨20, 0, []⟩] (by kernel_rfl) ?_
  intro w hs
  refine ns_move rfl rfl ?_
  refine ns_move rfl rfl ?_
  refine ns_move rfl rfl ?_
  refine ns_idx 0 sl_28 rfl rfl rfl rfl rfl (by simp) ?_
  refine ns_fld fo_36_2 rfl rfl rfl ?_
  refine ns_ld pl_34 rfl rfl rfl ((hc0 _ _ _ (hs.foc R2)).at 2 rfl) ?_
  refine ns_call (f35_ok R2 s0 l hi0 hsrt (by omega)) ck_35 (hs.foc R2) rfl rfl rfl rfl ?_
  intro v29 w hs
  replace hs := hs.pu
  obtain ⟨rfl, hs⟩ := hs
  try simp only [mul_assoc'] at hs
  refine ns_pick rfl rfl rfl ?_
  refine ns_move rfl rfl ?_
  refine ns_move rfl rfl ?_
  refine ns_idx 1 sl_28 rfl rfl rfl rfl rfl (by simp) ?_
  refine ns_fld fo_36_2 rfl rfl rfl ?_
  refine ns_ld pl_34 rfl rfl rfl ((hc1 _ _ _ (hs.foc R2)).at 2 rfl) ?_
  refine ns_move rfl rfl ?_
  refine ns_idx 0 sl_28 rfl rfl rfl rfl rfl (by simp) ?_
  refine ns_fld fo_36_2 rfl rfl rfl ?_
  refine ns_ld pl_34 rfl rfl rfl ((hc0 _ _ _ (hs.foc R2)).at 2 rfl) ?_
  refine ns_callK (f36_ok R2 s0 l hi0 (by omega)) ck_36 (hs.foc R2) rfl rfl rfl rfl ?_
  refine fun v40 w hs => ?_
  simp only [mul_assoc'] at hs
  refine ⟨⟨(hc1 _ _ _ (hs.foc R2)).at 2 rfl, trivial⟩, ?_⟩
  have hr40 : RdI (IArr v40 l.reverse) v40 l.reverse := Arr.rd (hs.foc (IArr v40 l.reverse))
  refine ns_call (f26_ok (R2 * IArr v40 l.reverse) s1 v40 l.reverse (RdI.up hi1) (RdI.up hr40) (by simp; omega)) ck_26 (hs.foc (R2 * IArr v40 l.reverse)) rfl rfl rfl rfl ?_
  intro v41 w hs
  replace hs := hs.pu
  obtain ⟨rfl, hs⟩ := hs
  try simp only [mul_assoc'] at hs
  refine ns_pick rfl rfl rfl ?_
  refine ns_asg rfl rfl ?_
  refine ns_done ?_
  refine WP_ret ?_
  exact ⟨_, res1 _, St.mk_pu rfl hs.out⟩
end Go.Proofs.Ytnnembkganlbpaa
