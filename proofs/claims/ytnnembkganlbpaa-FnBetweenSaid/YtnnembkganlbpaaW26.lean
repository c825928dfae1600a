/- The walks of the law on walks between two keys: FnBetween, and what it calls. -/
import Derived.Test.YtnnembkganlbpaaW23
import Derived.Test.YtnnembkganlbpaaRs
namespace Go.Proofs.Ytnnembkganlbpaa
open Go Go.Sl Go.Net Go.Wk Go.Bt Go.RowKit

theorem run_between (l : List It) (k t : Int) (h : l.length ≤ 4000) : runL l [allL 9 0 0, allL 12 k t, allL 13 0 0, allL 16 k t] =
    [⟨false, 0, l⟩, ⟨false, 0, l.filter fun y => decide (k ≤ y.key) && decide (y.key < t)⟩, ⟨false, 0, l.reverse⟩, ⟨false, 0, l.reverse.filter fun y => decide (y.key ≤ k) && decide (t < y.key)⟩] := by
  rw [run_walk 0 0 _ h (by decide) (by decide), run_walk k t _ h (by decide) (by decide), run_walk 0 0 _ h (by decide) (by decide), run_walk k t _ h (by decide) (by decide), range_up, range_down, range_12, range_16, run_end]
theorem filter_snoc {p : It → Bool} {l : List It} {i : Nat} {x : It} (h : l[i]? = some x) : (l.take (i + 1)).filter p = (l.take i).filter p ++ if p x then [x] else [] := by
  rw [take_snoc h, List.filter_append, List.filter_cons, List.filter_nil]
set_option maxHeartbeats 800000 in
theorem f38_12 (key to k : Int) : Tri Try.prog 38 #[opV (allL 12 key to), .int .i64 k] 1 fun r => pu (r = .bool (decide (key ≤ k) && decide (k < to))) := by
  intro w0 F w hs
  rw [one_mul'] at hs
  refine calls_WP 58 #[.tmp 4] Try.func38 rfl Try.ntmps38 rfl (Nat.le_of_ble_eq_true rfl) ?_
  refine WP_seq ?_
  -- R0
  refine WP_seqr [⟨0, 2, []⟩, ⟨1, 0, []⟩] (by kernel_rfl) ?_
  refine ns_box (opC (allL 12 key to)) hs rfl rfl rfl rfl ?_
  intro b2 w hs
  refine ns_asg rfl rfl ?_
  refine ns_done ?_
  refine WP_seq ?_ -- S1
  refine WP_seq ?_
  -- R1
  refine WP_seqr [⟨0, 0, []⟩, ⟨1, 1, []⟩] (by kernel_rfl) ?_
  refine ns_fld fo_26_0 rfl rfl rfl ?_
  refine ns_ldB pl_2 hs rfl rfl rfl (by rfl) ?_
  refine ns_done ?_
  refine WP_block ?_
  refine WP_seq ?_ -- S2
  refine WP_seq ?_
  -- R2
  refine WP_seqr [⟨0, 0, []⟩, ⟨1, 0, []⟩] (by kernel_rfl) ?_
  refine ns_cmp _ rfl rfl rfl rfl rfl ?_
  refine ns_asg rfl rfl ?_
  refine ns_done ?_
  refine WP_false rfl ?_ -- if1
  -- R3
  refine WP_seqr [⟨0, 0, []⟩, ⟨1, 0, []⟩] (by kernel_rfl) ?_
  refine ns_cmp _ rfl rfl rfl rfl rfl ?_
  refine ns_asg rfl rfl ?_
  refine ns_done ?_
  refine WP_false rfl ?_ -- if2
  refine WP_seq ?_
  -- R5
  refine WP_seqr [⟨0, 0, []⟩, ⟨1, 0, []⟩] (by kernel_rfl) ?_
  refine ns_cmp _ rfl rfl rfl rfl rfl ?_
  refine ns_asg rfl rfl ?_
  refine ns_done ?_
  refine WP_false rfl ?_ -- if3
  refine WP_seq ?_
  -- R7
  refine WP_seqr [⟨0, 0, []⟩, ⟨1, 0, []⟩] (by kernel_rfl) ?_
  refine ns_cmp _ rfl rfl rfl rfl rfl ?_
  refine ns_asg rfl rfl ?_
  refine ns_done ?_
  refine WP_false rfl ?_ -- if4
  refine WP_seq ?_
  -- R9
  refine WP_seqr [⟨0, 0, []⟩, ⟨1, 0, []⟩] (by kernel_rfl) ?_
  refine ns_cmp _ rfl rfl rfl rfl rfl ?_
  refine ns_asg rfl rfl ?_
  refine ns_done ?_
  refine WP_true rfl ?_ -- if5
  refine WP_seq_cut (fun σ w => σ 4 = .bool (decide (key ≤ k) && decide (k < to)) ∧ St w0 F w) ?_ ?_ -- R10.cut
  · by_cases h : key ≤ k
    · -- R10
      refine WP_seqr [⟨0, 0, []⟩, ⟨1, 0, []⟩, ⟨2, 1, []⟩, ⟨3, 0, []⟩, ⟨4, 0, []⟩, ⟨5, 0, []⟩, ⟨6, 0, []⟩, ⟨7, 1, []⟩, ⟨8, 0, []⟩, ⟨9, 0, []⟩, ⟨10, 0, []⟩] (by kernel_rfl) ?_
      refine ns_move rfl rfl ?_
      refine ns_fld fo_26_2 rfl rfl rfl ?_
      refine ns_ldB pl_2 hs rfl rfl rfl (by rfl) ?_
      refine ns_cmp true rfl rfl rfl rfl (congrArg some (decide_eq_true h)) ?_
      refine ns_move rfl rfl ?_
      refine ns_move rfl rfl ?_
      refine ns_fld fo_26_3 rfl rfl rfl ?_
      refine ns_ldB pl_2 hs rfl rfl rfl (by rfl) ?_
      refine ns_cmp (decide (k < to)) rfl rfl rfl rfl rfl ?_
      refine ns_pick rfl rfl rfl ?_
      refine ns_asg rfl rfl ?_
      refine ns_done ?_
      exact ⟨congrArg Value.bool (by simp [h]), hs.drop⟩
    · -- R10
      refine WP_seqr [⟨0, 0, []⟩, ⟨1, 0, []⟩, ⟨2, 1, []⟩, ⟨3, 0, []⟩, ⟨4, 0, []⟩, ⟨5, 0, []⟩, ⟨6, 0, []⟩, ⟨7, 0, []⟩, ⟨8, 0, []⟩, ⟨9, 0, []⟩, ⟨10, 0, []⟩] (by kernel_rfl) ?_
      refine ns_move rfl rfl ?_
      refine ns_fld fo_26_2 rfl rfl rfl ?_
      refine ns_ldB pl_2 hs rfl rfl rfl (by rfl) ?_
      refine ns_cmp false rfl rfl rfl rfl (congrArg some (decide_eq_false h)) ?_
      refine ns_move rfl rfl ?_
      refine ns_no rfl rfl ?_
      refine ns_no rfl rfl ?_
      refine ns_no rfl rfl ?_
      refine ns_no rfl rfl ?_
      refine ns_pick rfl rfl rfl ?_
      refine ns_asg rfl rfl ?_
      refine ns_done ?_
      exact ⟨congrArg Value.bool (by simp [h]), hs.drop⟩
  rintro σ w ⟨g4, hs⟩
  obtain ⟨σ, rfl⟩ := rebase g4
  refine WP_ret ?_
  exact ⟨_, res1 _, St.mk_pure rfl hs⟩
set_option maxHeartbeats 800000 in
theorem f38_16 (key to k : Int) : Tri Try.prog 38 #[opV (allL 16 key to), .int .i64 k] 1 fun r => pu (r = .bool (decide (k ≤ key) && decide (to < k))) := by
  intro w0 F w hs
  rw [one_mul'] at hs
  refine calls_WP 58 #[.tmp 4] Try.func38 rfl Try.ntmps38 rfl (Nat.le_of_ble_eq_true rfl) ?_
  refine WP_seq ?_
  -- R0
  refine WP_seqr [⟨0, 2, []⟩, ⟨1, 0, []⟩] (by kernel_rfl) ?_
  refine ns_box (opC (allL 16 key to)) hs rfl rfl rfl rfl ?_
  intro b2 w hs
  refine ns_asg rfl rfl ?_
  refine ns_done ?_
  refine WP_seq ?_ -- S1
  refine WP_seq ?_
  -- R1
  refine WP_seqr [⟨0, 0, []⟩, ⟨1, 1, []⟩] (by kernel_rfl) ?_
  refine ns_fld fo_26_0 rfl rfl rfl ?_
  refine ns_ldB pl_2 hs rfl rfl rfl (by rfl) ?_
  refine ns_done ?_
  refine WP_block ?_
  refine WP_seq ?_ -- S2
  refine WP_seq ?_
  -- R2
  refine WP_seqr [⟨0, 0, []⟩, ⟨1, 0, []⟩] (by kernel_rfl) ?_
  refine ns_cmp _ rfl rfl rfl rfl rfl ?_
  refine ns_asg rfl rfl ?_
  refine ns_done ?_
  refine WP_false rfl ?_ -- if1
  -- R3
  refine WP_seqr [⟨0, 0, []⟩, ⟨1, 0, []⟩] (by kernel_rfl) ?_
  refine ns_cmp _ rfl rfl rfl rfl rfl ?_
  refine ns_asg rfl rfl ?_
  refine ns_done ?_
  refine WP_false rfl ?_ -- if2
  refine WP_seq ?_
  -- R5
  refine WP_seqr [⟨0, 0, []⟩, ⟨1, 0, []⟩] (by kernel_rfl) ?_
  refine ns_cmp _ rfl rfl rfl rfl rfl ?_
  refine ns_asg rfl rfl ?_
  refine ns_done ?_
  refine WP_false rfl ?_ -- if3
  refine WP_seq ?_
  -- R7
  refine WP_seqr [⟨0, 0, []⟩, ⟨1, 0, []⟩] (by kernel_rfl) ?_
  refine ns_cmp _ rfl rfl rfl rfl rfl ?_
  refine ns_asg rfl rfl ?_
  refine ns_done ?_
  refine WP_false rfl ?_ -- if4
  refine WP_seq ?_
  -- R9
  refine WP_seqr [⟨0, 0, []⟩, ⟨1, 0, []⟩] (by kernel_rfl) ?_
  refine ns_cmp _ rfl rfl rfl rfl rfl ?_
  refine ns_asg rfl rfl ?_
  refine ns_done ?_
  refine WP_false rfl ?_ -- if5
  refine WP_seq ?_
  -- R11
  refine WP_seqr [⟨0, 0, []⟩, ⟨1, 0, []⟩] (by kernel_rfl) ?_
  refine ns_cmp _ rfl rfl rfl rfl rfl ?_
  refine ns_asg rfl rfl ?_
  refine ns_done ?_
  refine WP_false rfl ?_ -- if6
  refine WP_seq ?_
  -- R13
  refine WP_seqr [⟨0, 0, []⟩, ⟨1, 0, []⟩] (by kernel_rfl) ?_
  refine ns_cmp _ rfl rfl rfl rfl rfl ?_
  refine ns_asg rfl rfl ?_
  refine ns_done ?_
  refine WP_false rfl ?_ -- if7
  refine WP_seq ?_
  -- R15
  refine WP_seqr [⟨0, 0, []⟩, ⟨1, 0, []⟩] (by kernel_rfl) ?_
  refine ns_cmp _ rfl rfl rfl rfl rfl ?_
  refine ns_asg rfl rfl ?_
  refine ns_done ?_
  refine WP_true rfl ?_ -- if8
  refine WP_seq_cut (fun σ w => σ 4 = .bool (decide (k ≤ key) && decide (to < k)) ∧ St w0 F w) ?_ ?_ -- R16.cut
  · by_cases h : k ≤ key
    · -- R16
      refine WP_seqr [⟨0, 0, []⟩, ⟨1, 0, []⟩, ⟨2, 1, []⟩, ⟨3, 0, []⟩, ⟨4, 0, []⟩, ⟨5, 0, []⟩, ⟨6, 0, []⟩, ⟨7, 1, []⟩, ⟨8, 0, []⟩, ⟨9, 0, []⟩, ⟨10, 0, []⟩] (by kernel_rfl) ?_
      refine ns_move rfl rfl ?_
      refine ns_fld fo_26_2 rfl rfl rfl ?_
      refine ns_ldB pl_2 hs rfl rfl rfl (by rfl) ?_
      refine ns_cmp true rfl rfl rfl rfl (congrArg some (decide_eq_true h)) ?_
      refine ns_move rfl rfl ?_
      refine ns_move rfl rfl ?_
      refine ns_fld fo_26_3 rfl rfl rfl ?_
      refine ns_ldB pl_2 hs rfl rfl rfl (by rfl) ?_
      refine ns_cmp (decide (to < k)) rfl rfl rfl rfl rfl ?_
      refine ns_pick rfl rfl rfl ?_
      refine ns_asg rfl rfl ?_
      refine ns_done ?_
      exact ⟨congrArg Value.bool (by simp [h]), hs.drop⟩
    · -- R16
      refine WP_seqr [⟨0, 0, []⟩, ⟨1, 0, []⟩, ⟨2, 1, []⟩, ⟨3, 0, []⟩, ⟨4, 0, []⟩, ⟨5, 0, []⟩, ⟨6, 0, []⟩, ⟨7, 0, []⟩, ⟨8, 0, []⟩, ⟨9, 0, []⟩, ⟨10, 0, []⟩] (by kernel_rfl) ?_
      refine ns_move rfl rfl ?_
      refine ns_fld fo_26_2 rfl rfl rfl ?_
      refine ns_ldB pl_2 hs rfl rfl rfl (by rfl) ?_
      refine ns_cmp false rfl rfl rfl rfl (congrArg some (decide_eq_false h)) ?_
      refine ns_move rfl rfl ?_
      refine ns_no rfl rfl ?_
      refine ns_no rfl rfl ?_
      refine ns_no rfl rfl ?_
      refine ns_no rfl rfl ?_
      refine ns_pick rfl rfl rfl ?_
      refine ns_asg rfl rfl ?_
      refine ns_done ?_
      exact ⟨congrArg Value.bool (by simp [h]), hs.drop⟩
  rintro σ w ⟨g4, hs⟩
  obtain ⟨σ, rfl⟩ := rebase g4
  refine WP_ret ?_
  exact ⟨_, res1 _, St.mk_pure rfl hs⟩
set_option maxHeartbeats 1600000 in
theorem f27_ok (R : HProp) (v : Value) (l : List It) (o : Sop) (p : Int → Bool) (hR : RdI R v l) (hll : l.length < 1000000) (hp : ∀ k, Tri Try.prog 38 #[opV o, .int .i64 k] 1 fun r => pu (r = .bool (p k))) : Tri Try.prog 27 #[v, opV o] R fun r => R * IArr r (l.filter fun y => p y.key) := by
  obtain ⟨hxl, a1, c1, rfl, hc1, hrd⟩ := hR
  intro w0 F w hs
  refine calls_WP 25 #[.tmp 4] Try.func27 rfl Try.ntmps27 rfl (Nat.le_of_ble_eq_true rfl) ?_
  refine WP_seq ?_
  -- R0
  refine WP_seqr [⟨0, 2, []⟩, ⟨1, 0, []⟩] (by kernel_rfl) ?_
  refine ns_box (opC o) hs rfl rfl rfl rfl ?_
  intro b3 w hs
  refine ns_asg rfl rfl ?_
  refine ns_done ?_
  refine WP_seq ?_
  -- R1
  refine WP_seqr [⟨0, 2, []⟩, ⟨1, 0, []⟩] (by kernel_rfl) ?_
  refine ns_lit0 sl_34 hs rfl rfl ?_
  refine fun b8 w hs hx => ⟨trivial, ?_⟩
  refine ns_asg rfl rfl ?_
  refine ns_done ?_
  refine WP_seq_cut (fun σ w => ∃ out, σ 5 = out ∧ St w0 (R * (IArr out (l.filter fun y => p y.key) * F)) w) ?_ ?_ -- S1
  · refine WP_seq ?_
    -- R2
    refine WP_seqr [⟨0, 0, []⟩, ⟨1, 0, []⟩, ⟨2, 0, []⟩] (by kernel_rfl) ?_
    refine ns_move rfl rfl ?_
    refine ns_len sl_34 rfl rfl rfl ?_
    refine ns_move rfl rfl ?_
    refine ns_done ?_
    refine WP_block ?_
    refine WP_loop (fun m σ w => ∃ (i : Nat) (out : Value), m = l.length - i ∧ i ≤ l.length ∧ σ 3 = .pointer (some ⟨b3, 0, none⟩) ∧ σ 5 = out ∧ σ 9 = .slice a1 l.length c1 ∧ σ 10 = .int .i64 (l.length : Int) ∧ σ 11 = .int .i64 (i : Int) ∧ St w0 (R * (IArr out ((l.take i).filter fun y => p y.key) * (pts b3 (.cells (opC o) 26 (0, 0)) * F))) w) l.length ?_ ?_ -- L1
    · refine ⟨0, .slice (some ⟨b8, 0, none⟩) 0 0, rfl, Nat.zero_le _, rfl, rfl, rfl, rfl, rfl, ?_⟩
      show St w0 (R * (Arr 45 2 _ 0 [] * (_ * F))) w
      exact hs.out
    rintro m σ w ⟨i, out, rfl, hi, g3, g5, g9, g10, g11, hs⟩
    obtain ⟨σ, rfl⟩ := rebase g3
    obtain ⟨σ, rfl⟩ := rebase (σ := σ) g5
    obtain ⟨σ, rfl⟩ := rebase (σ := σ) g9
    obtain ⟨σ, rfl⟩ := rebase (σ := σ) g10
    obtain ⟨σ, rfl⟩ := rebase (σ := σ) g11
    clear g3 g5 g9 g10 g11
    refine WP_seq ?_
    -- R3
    refine WP_seqr [⟨0, 0, []⟩] (by kernel_rfl) ?_
    refine ns_cmp _ rfl rfl rfl rfl rfl ?_
    refine ns_done ?_
    refine WP_seq ?_ -- S2
    refine WP_if' rfl (fun hif1 => ?_) (fun hif1 => ?_)
    · refine WP_exit ?_
      have hi2 : i = l.length := by have := of_decide_eq_false hif1; omega
      subst hi2
      refine ⟨out, rfl, ?_⟩
      rw [List.take_length] at hs
      exact hs.out
    refine WP_skip ?_
    have hi2 : i < l.length := by have := of_decide_eq_true hif1; omega
    obtain ⟨x, hxi⟩ : ∃ x, l[i]? = some x := ⟨l[i]'hi2, List.getElem?_eq_getElem hi2⟩
    obtain ⟨g, q, rfl, hat⟩ := hrd (by omega)
    have e2 := filter_snoc (p := fun y => p y.key) hxi
    have hfl : ((l.take i).filter fun y => p y.key).length ≤ i := Nat.le_trans (List.length_filter_le ..) (by rw [List.length_take]; omega)
    refine WP_seq_cut (fun σ w => ∃ out, σ 3 = .pointer (some ⟨b3, 0, none⟩) ∧ σ 5 = out ∧ σ 9 = .slice (some ⟨g, q, none⟩) l.length c1 ∧ σ 10 = .int .i64 (l.length : Int) ∧ σ 11 = .int .i64 (i : Int) ∧ St w0 (R * (IArr out ((l.take (i + 1)).filter fun y => p y.key) * (pts b3 (.cells (opC o) 26 (0, 0)) * F))) w) ?_ ?_ -- S3
    · refine WP_block ?_
      refine WP_seq ?_
      -- R4
      refine WP_seqr [⟨0, 0, []⟩, ⟨1, 1, []⟩, ⟨2, 2, []⟩, ⟨3, 2, []⟩] (by kernel_rfl) ?_
      refine ns_idx i sl_34 rfl rfl rfl rfl rfl hi2 ?_
      refine ns_ldA [.int .i64 x.key, .int .i64 x.val] ag_45 rfl rfl rfl rfl (by decide) (item_cells hat (hs.foc R) hxi) ?_
      refine ns_alloc zc_45 hs rfl rfl ?_
      intro b7 w hs
      refine ns_stA (#[.int .i64 x.key, .int .i64 x.val]) ag_45 rfl (by decide) hs rfl rfl rfl rfl (by intro u hu; simp at hu; rcases hu with rfl | rfl <;> rfl) (by simp) ?_
      refine fun w hs => ⟨trivial, ?_⟩
      refine ns_done ?_
      have hs : St w0 (pts b7 (.cells #[.int .i64 x.key, .int .i64 x.val] 45 (0, 0)) * _) w := hs
      refine WP_seq ?_
      -- R5
      refine WP_seqr [⟨0, 1, []⟩, ⟨1, 0, []⟩, ⟨2, 1, []⟩, ⟨3, 2, []⟩] (by kernel_rfl) ?_
      refine ns_ldAB [.int .i64 o.kind, .int .i64 o.tree, .int .i64 o.key, .int .i64 o.to, .int .i64 o.val, .int .i64 o.cnt] ag_26 hs rfl rfl rfl (by rfl) (by rfl) (by decide) ?_
      refine ns_fld fo_45_0 rfl rfl rfl ?_
      refine ns_ldB pl_2 hs rfl rfl rfl (by rfl) ?_
      refine ns_call (hp x.key) ck_38 (hs.foc 1) rfl rfl rfl rfl ?_
      intro v18 w hs
      replace hs := hs.pure
      obtain ⟨rfl, hs⟩ := hs
      refine ns_done ?_
      refine WP_if rfl (fun hif2 => ?_) (fun hif2 => ?_)
      · -- R6
        refine WP_seqr [⟨0, 0, []⟩, ⟨1, 1, []⟩, ⟨2, 2, []⟩, ⟨3, 2, []⟩, ⟨4, 0, []⟩] (by kernel_rfl) ?_
        refine ns_move rfl rfl ?_
        refine ns_ldAB [.int .i64 x.key, .int .i64 x.val] ag_45 hs rfl rfl rfl (by rfl) (by rfl) (by decide) ?_
        refine ns_lit [itV x] [.int .i64 x.key, .int .i64 x.val] sl_34 zr_45 (by decide) (by decide) hs rfl rfl rfl rfl (by simp [Value.cells, itV]) rfl ?_
        refine fun b21 w hs hx => ⟨trivial, ?_⟩
        refine ns_app [.int .i64 x.key, .int .i64 x.val] sl_34 zr_45 by_45 rfl (by decide) (hs.foc (IArr out ((l.take i).filter fun y => p y.key))) rfl rfl rfl rfl rfl (St.cells (n := 2) hs (by rfl)) (by intro u hu; simp at hu; rcases hu with rfl | rfl <;> rfl) (by simp only [maxLen]; omega) (by omega) ?_
        refine fun v22 w hs hv => ⟨trivial, ?_⟩
        refine ns_asg rfl rfl ?_
        refine ns_done ?_
        have hif2 : p x.key = true := hif2
        rw [if_pos hif2] at e2
        refine ⟨v22, rfl, rfl, rfl, rfl, rfl, ?_⟩
        rw [e2]
        have hs := hs.up (Ent.of_eq (IArr_eq (l := ((l.take i).filter fun y => p y.key) ++ [x]) (by simp) (by rw [encs_append]; rfl)))
        exact hs.out
      refine WP_skip ?_
      have hif2 : p x.key = false := hif2
      rw [hif2, if_neg (by decide), List.append_nil] at e2
      refine ⟨out, rfl, rfl, rfl, rfl, rfl, ?_⟩
      rw [e2]
      exact hs.out
    rintro σ w ⟨out, g3, g5, g9, g10, g11, hs⟩
    obtain ⟨σ, rfl⟩ := rebase g3
    obtain ⟨σ, rfl⟩ := rebase (σ := σ) g5
    obtain ⟨σ, rfl⟩ := rebase (σ := σ) g9
    obtain ⟨σ, rfl⟩ := rebase (σ := σ) g10
    obtain ⟨σ, rfl⟩ := rebase (σ := σ) g11
    clear g3 g5 g9 g10 g11
    -- R7
    refine WP_seqr [⟨0, 0, []⟩, ⟨1, 0, []⟩] (by kernel_rfl) ?_
    refine ns_add rfl rfl rfl rfl (by omega) (by omega) ?_
    refine ns_move rfl rfl ?_
    refine ns_done ?_
    exact ⟨l.length - (i + 1), by omega, i + 1, out, rfl, by omega, rfl, rfl, rfl, rfl, rfl, hs⟩
    
  rintro σ w ⟨out, g5, hs⟩
  obtain ⟨σ, rfl⟩ := rebase g5
  refine WP_seq ?_
  -- R8
  refine WP_seqr [⟨0, 0, []⟩, ⟨1, 0, []⟩] (by kernel_rfl) ?_
  refine ns_move rfl rfl ?_
  refine ns_asg rfl rfl ?_
  refine ns_done ?_
  refine WP_ret ?_
  refine ⟨_, res1 _, ?_⟩
  show St w0 ((R * IArr out (l.filter fun y => p y.key)) * F) w
  exact hs.out
set_option maxHeartbeats 3200000 in
theorem f4_ok (R : HProp) (v : Value) (os : List Sop) (d key to : Int) (hR : RdO R v os) : Tri Try.prog 4 #[.int .i64 d, v, .int .i64 key, .int .i64 to] R fun r => pu (r = .bool true) * R := by
  obtain ⟨_, a1, c1, rfl, hc1, hrd⟩ := id hR
  intro w0 F w hs
  refine calls_WP 64 #[.tmp 8] Try.func4 rfl Try.ntmps4 rfl (Nat.le_of_ble_eq_true rfl) ?_
  refine WP_seq ?_
  -- R0
  refine WP_seqr [⟨0, 0, []⟩] (by kernel_rfl) ?_
  refine ns_asg rfl rfl ?_
  refine ns_done ?_
  refine WP_seq ?_ -- S1
  refine WP_seq ?_
  -- R1
  refine WP_seqr [⟨0, 0, []⟩, ⟨1, 0, []⟩, ⟨2, 0, []⟩] (by kernel_rfl) ?_
  refine ns_move rfl rfl ?_
  refine ns_len sl_24 rfl rfl rfl ?_
  refine ns_cmp _ rfl rfl rfl rfl rfl ?_
  refine ns_done ?_
  refine WP_if rfl (fun hif1 => ?_) (fun hif1 => ?_)
  · refine WP_seq ?_
    -- R2
    refine WP_seqr [⟨0, 0, []⟩] (by kernel_rfl) ?_
    refine ns_asg rfl rfl ?_
    refine ns_done ?_
    refine WP_ret ?_
    exact ⟨_, res1 _, St.mk_pu rfl hs.out⟩
  refine WP_skip ?_
  refine WP_seq ?_ -- S2
  refine WP_seq ?_
  -- R3
  refine WP_seqr [⟨0, 0, []⟩, ⟨1, 0, []⟩, ⟨2, 2, []⟩, ⟨3, 0, []⟩] (by kernel_rfl) ?_
  refine ns_move rfl rfl ?_
  refine ns_move rfl rfl ?_
  refine ns_call (f20_ok d a1 os.length c1) ck_20 (hs.foc 1) rfl rfl rfl rfl ?_
  intro v18 w hs
  replace hs := hs.pure
  obtain ⟨rfl, hs⟩ := hs
  refine ns_not rfl rfl rfl ?_
  refine ns_done ?_
  refine WP_if rfl (fun hif2 => ?_) (fun hif2 => ?_)
  · refine WP_seq ?_
    -- R4
    refine WP_seqr [⟨0, 0, []⟩] (by kernel_rfl) ?_
    refine ns_asg rfl rfl ?_
    refine ns_done ?_
    refine WP_ret ?_
    exact ⟨_, res1 _, St.mk_pu rfl hs.out⟩
  refine WP_skip ?_
  have hfit : 2 ≤ d ∧ d ≤ 1000 ∧ os.length ≤ 2000 := by simpa using hif2
  obtain ⟨hd, hd2, hn⟩ := hfit
  obtain ⟨D, rfl⟩ : ∃ D : Nat, d = D := ⟨d.toNat, by omega⟩
  have hlen := heldT_len os
  have hsrt := held_srt (onT os)
  refine WP_seq ?_
  -- R5
  refine WP_seqr [⟨0, 0, []⟩, ⟨1, 0, []⟩, ⟨2, 2, []⟩, ⟨3, 0, []⟩, ⟨4, 0, []⟩, ⟨5, 2, []⟩, ⟨6, 2, []⟩, ⟨7, 2, []⟩, ⟨8, 2, []⟩, ⟨9, 2, []⟩] (by kernel_rfl) ?_
  refine ns_move rfl rfl ?_
  refine ns_move rfl rfl ?_
  refine ns_call (f21_ok 12 key to) ck_21 (hs.foc 1) rfl rfl rfl rfl ?_
  intro v22 w hs
  replace hs := hs.pure
  obtain ⟨rfl, hs⟩ := hs
  refine ns_move rfl rfl ?_
  refine ns_move rfl rfl ?_
  refine ns_call (f21_ok 16 key to) ck_21 (hs.foc 1) rfl rfl rfl rfl ?_
  intro v25 w hs
  replace hs := hs.pure
  obtain ⟨rfl, hs⟩ := hs
  refine ns_alloc zc_26 hs rfl rfl ?_
  intro b9 w hs
  refine ns_alloc zc_26 hs rfl rfl ?_
  intro b10 w hs
  refine ns_stA (#[.int .i64 12, .int .i64 0, .int .i64 key, .int .i64 to, .int .i64 0, .int .i64 4000]) ag_26 rfl (by decide) hs rfl rfl rfl rfl (by intro u hu; simp at hu; rcases hu with rfl | rfl | rfl | rfl | rfl | rfl <;> rfl) (by simp) ?_
  refine fun w hs => ⟨trivial, ?_⟩
  refine ns_stA (#[.int .i64 16, .int .i64 0, .int .i64 key, .int .i64 to, .int .i64 0, .int .i64 4000]) ag_26 rfl (by decide) hs rfl rfl rfl rfl (by intro u hu; simp at hu; rcases hu with rfl | rfl | rfl | rfl | rfl | rfl <;> rfl) (by simp) ?_
  refine fun w hs => ⟨trivial, ?_⟩
  refine ns_done ?_
  have hs : St w0 (pts b10 (.cells #[.int .i64 16, .int .i64 0, .int .i64 key, .int .i64 to, .int .i64 0, .int .i64 4000] 26 (0, 0)) * (pts b9 (.cells #[.int .i64 12, .int .i64 0, .int .i64 key, .int .i64 to, .int .i64 0, .int .i64 4000] 26 (0, 0)) * _)) w := hs
  refine WP_seq ?_
  -- R6
  refine WP_net hs mix [0, 0, 0, 0, 4, 0, 60, 127, 255, 511, 511, 1023, 4095] [⟨0, 0, []⟩, ⟨1, 0, []⟩, ⟨3, 1, []⟩, ⟨5, 1, []⟩, ⟨2, 2, [3, 5]⟩, ⟨4, 2, [3, 5]⟩, ⟨6, 2, []⟩, ⟨7, 2, []⟩, ⟨8, 0, []⟩, ⟨9, 0, []⟩, ⟨10, 0, []⟩, ⟨11, 0, []⟩, ⟨12, 0, []⟩] (by kernel_rfl) ?_
  intro w hs
  refine ns_move rfl rfl ?_
  refine ns_move rfl rfl ?_
  refine ns_ldAB [.int .i64 12, .int .i64 0, .int .i64 key, .int .i64 to, .int .i64 0, .int .i64 4000] ag_26 hs rfl rfl rfl (by rfl) (by rfl) (by decide) ?_
  refine ns_ldAB [.int .i64 16, .int .i64 0, .int .i64 key, .int .i64 to, .int .i64 0, .int .i64 4000] ag_26 hs rfl rfl rfl (by rfl) (by rfl) (by decide) ?_
  refine ns_callK (f21_ok 9 0 0) ck_21 (hs.foc 1) rfl rfl rfl rfl ?_
  refine fun v29 w hs => ?_
  replace hs := hs.pure
  obtain ⟨rfl, hs⟩ := hs
  refine ⟨⟨St.cells (n := 6) (b := b9) (o := 0) hs (by rfl), St.cells (n := 6) (b := b10) (o := 0) hs (by rfl), trivial⟩, ?_⟩
  refine ns_callK (f21_ok 13 0 0) ck_21 (hs.foc 1) rfl rfl rfl rfl ?_
  refine fun v31 w hs => ?_
  replace hs := hs.pure
  obtain ⟨rfl, hs⟩ := hs
  refine ⟨⟨St.cells (n := 6) (b := b9) (o := 0) hs (by rfl), St.cells (n := 6) (b := b10) (o := 0) hs (by rfl), trivial⟩, ?_⟩
  refine ns_lit [opV (allL 9 0 0), opV (allL 12 key to), opV (allL 13 0 0), opV (allL 16 key to)] (encO [allL 9 0 0, allL 12 key to, allL 13 0 0, allL 16 key to]) sl_24 zr_26 (by decide) (by decide) hs rfl rfl rfl rfl (by simp [Value.cells, opV, opC]) rfl ?_
  refine fun b33 w hs hx => ⟨trivial, ?_⟩
  have hmore : RdO (R * pts b33 (.cells (encO [allL 9 0 0, allL 12 key to, allL 13 0 0, allL 16 key to]).toArray 26 (0, 0))) (.slice (some ⟨b33, 0, none⟩) 4 4) [allL 9 0 0, allL 12 key to, allL 13 0 0, allL 16 key to] := (lit_rdO b33 [allL 9 0 0, allL 12 key to, allL 13 0 0, allL 16 key to] (0, 0)).up
  refine ns_call (f22_ok (R * pts b33 (.cells (encO [allL 9 0 0, allL 12 key to, allL 13 0 0, allL 16 key to]).toArray 26 (0, 0))) (.slice a1 os.length c1) _ os [allL 9 0 0, allL 12 key to, allL 13 0 0, allL 16 key to] D hR.up hmore (by simp) (by omega) (by omega) (by omega) (by simp) (by simp [allL])) ck_22 (hs.foc (R * pts b33 (.cells (encO [allL 9 0 0, allL 12 key to, allL 13 0 0, allL 16 key to]).toArray 26 (0, 0)))) rfl rfl rfl rfl ?_
  intro v34 w hs
  replace hs := hs.ex
  obtain ⟨⟨s, R2⟩, hs⟩ := hs
  replace hs := hs.pu
  obtain ⟨⟨rfl, hra⟩, hs⟩ := hs
  simp only [mul_assoc'] at hs
  generalize afterL [] (onT os) = l at hra hlen hsrt
  rw [run_between l key to (by omega)] at hra
  obtain ⟨a4, c4, rfl, _⟩ := id hra.form
  refine ns_move rfl rfl ?_
  refine ns_ext rfl rfl rfl rfl ?_
  refine ns_ext rfl rfl rfl rfl ?_
  refine ns_asg rfl rfl ?_
  refine ns_asg rfl rfl ?_
  refine ns_done ?_
  refine WP_seq ?_
  obtain ⟨g0, o0, _, s0, e, hi0, hc0⟩ := hra.get (i := 0) rfl
  cases e
  obtain ⟨g1, o1, _, s1, e, hi1, hc1⟩ := hra.get (i := 1) rfl
  cases e
  obtain ⟨g2, o2, _, s2, e, hi2, hc2⟩ := hra.get (i := 2) rfl
  cases e
  obtain ⟨g3, o3, _, s3, e, hi3, hc3⟩ := hra.get (i := 3) rfl
  cases e
  have hi0 : RdI R2 s0 l := hi0
  have hi1 : RdI R2 s1 (l.filter fun y => decide (key ≤ y.key) && decide (y.key < to)) := hi1
  have hi2 : RdI R2 s2 l.reverse := hi2
  have hi3 : RdI R2 s3 (l.reverse.filter fun y => decide (y.key ≤ key) && decide (to < y.key)) := hi3
  have hf1 : (l.filter fun y => decide (key ≤ y.key) && decide (y.key < to)).length ≤ l.length := List.length_filter_le ..
  have hf2 : (l.reverse.filter fun y => decide (y.key ≤ key) && decide (to < y.key)).length ≤ l.length := Nat.le_trans (List.length_filter_le ..) (by rw [List.length_reverse]; omega)
  -- R7
  refine WP_net hs mix [0, 1, 3, 7, 15, 31, 3, 67, 195, 451, 3, 1987, 4095, 8191, 16383, 32767, 65535, 131071, 262143, 32767, 557055, 1605631, 3702783, 32767, 16285695, 33554431, 67108863, 134217727] [⟨0, 0, []⟩, ⟨1, 0, []⟩, ⟨2, 0, []⟩, ⟨3, 0, []⟩, ⟨4, 0, []⟩, ⟨5, 1, []⟩, ⟨6, 0, []⟩, ⟨7, 0, []⟩, ⟨8, 0, []⟩, ⟨9, 1, []⟩, ⟨10, 1, []⟩, ⟨11, 2, [5]⟩, ⟨12, 2, []⟩, ⟨13, 0, []⟩, ⟨14, 0, []⟩, ⟨15, 0, []⟩, ⟨16, 0, []⟩, ⟨17, 0, []⟩, ⟨18, 1, []⟩, ⟨19, 0, []⟩, ⟨20, 0, []⟩, ⟨21, 0, []⟩, ⟨22, 1, []⟩, ⟨23, 1, []⟩, ⟨24, 2, [18]⟩, ⟨25, 2, []⟩, ⟨26, 0, []⟩, ⟨27, 0, []⟩] (by kernel_rfl) ?_
  intro w hs
  refine ns_move rfl rfl ?_
  refine ns_move rfl rfl ?_
  refine ns_move rfl rfl ?_
  refine ns_idx 1 sl_28 rfl rfl rfl rfl rfl (by simp) ?_
  refine ns_fld fo_36_2 rfl rfl rfl ?_
  refine ns_ld pl_34 rfl rfl rfl ((hc1 _ _ _ (hs.foc R2)).at 2 rfl) ?_
  refine ns_move rfl rfl ?_
  refine ns_idx 0 sl_28 rfl rfl rfl rfl rfl (by simp) ?_
  refine ns_fld fo_36_2 rfl rfl rfl ?_
  refine ns_ld pl_34 rfl rfl rfl ((hc0 _ _ _ (hs.foc R2)).at 2 rfl) ?_
  refine ns_ldAB [.int .i64 12, .int .i64 0, .int .i64 key, .int .i64 to, .int .i64 0, .int .i64 4000] ag_26 hs rfl rfl rfl (by rfl) (by rfl) (by decide) ?_
  refine ns_callK (f27_ok R2 s0 l (allL 12 key to) (fun k => decide (key ≤ k) && decide (k < to)) hi0 (by omega) (f38_12 key to)) ck_27 (hs.foc R2) rfl rfl rfl rfl ?_
  refine fun v48 w hs => ?_
  simp only [mul_assoc'] at hs
  refine ⟨⟨(hc1 _ _ _ (hs.foc R2)).at 2 rfl, trivial⟩, ?_⟩
  have hr48 : RdI (IArr v48 (l.filter fun y => decide (key ≤ y.key) && decide (y.key < to))) v48 (l.filter fun y => decide (key ≤ y.key) && decide (y.key < to)) := Arr.rd (hs.foc (IArr v48 (l.filter fun y => decide (key ≤ y.key) && decide (y.key < to))))
  refine ns_call (f26_ok (R2 * IArr v48 (l.filter fun y => decide (key ≤ y.key) && decide (y.key < to))) s1 v48 (l.filter fun y => decide (key ≤ y.key) && decide (y.key < to)) (RdI.up hi1) (RdI.up hr48) (by omega)) ck_26 (hs.foc (R2 * IArr v48 (l.filter fun y => decide (key ≤ y.key) && decide (y.key < to)))) rfl rfl rfl rfl ?_
  intro v49 w hs
  replace hs := hs.pu
  obtain ⟨rfl, hs⟩ := hs
  try simp only [mul_assoc'] at hs
  refine ns_pick rfl rfl rfl ?_
  refine ns_move rfl rfl ?_
  refine ns_move rfl rfl ?_
  refine ns_idx 3 sl_28 rfl rfl rfl rfl rfl (by simp) ?_
  refine ns_fld fo_36_2 rfl rfl rfl ?_
  refine ns_ld pl_34 rfl rfl rfl ((hc3 _ _ _ (hs.foc R2)).at 2 rfl) ?_
  refine ns_move rfl rfl ?_
  refine ns_idx 2 sl_28 rfl rfl rfl rfl rfl (by simp) ?_
  refine ns_fld fo_36_2 rfl rfl rfl ?_
  refine ns_ld pl_34 rfl rfl rfl ((hc2 _ _ _ (hs.foc R2)).at 2 rfl) ?_
  refine ns_ldAB [.int .i64 16, .int .i64 0, .int .i64 key, .int .i64 to, .int .i64 0, .int .i64 4000] ag_26 hs rfl rfl rfl (by rfl) (by rfl) (by decide) ?_
  refine ns_callK (f27_ok R2 s2 l.reverse (allL 16 key to) (fun k => decide (k ≤ key) && decide (to < k)) hi2 (by rw [List.length_reverse]; omega) (f38_16 key to)) ck_27 (hs.foc R2) rfl rfl rfl rfl ?_
  refine fun v61 w hs => ?_
  simp only [mul_assoc'] at hs
  refine ⟨⟨(hc3 _ _ _ (hs.foc R2)).at 2 rfl, trivial⟩, ?_⟩
  have hr61 : RdI (IArr v61 (l.reverse.filter fun y => decide (y.key ≤ key) && decide (to < y.key))) v61 (l.reverse.filter fun y => decide (y.key ≤ key) && decide (to < y.key)) := Arr.rd (hs.foc (IArr v61 (l.reverse.filter fun y => decide (y.key ≤ key) && decide (to < y.key))))
  refine ns_call (f26_ok (R2 * IArr v61 (l.reverse.filter fun y => decide (y.key ≤ key) && decide (to < y.key))) s3 v61 (l.reverse.filter fun y => decide (y.key ≤ key) && decide (to < y.key)) (RdI.up hi3) (RdI.up hr61) (by omega)) ck_26 (hs.foc (R2 * IArr v61 (l.reverse.filter fun y => decide (y.key ≤ key) && decide (to < y.key)))) rfl rfl rfl rfl ?_
  intro v62 w hs
  replace hs := hs.pu
  obtain ⟨rfl, hs⟩ := hs
  try simp only [mul_assoc'] at hs
  refine ns_pick rfl rfl rfl ?_
  refine ns_asg rfl rfl ?_
  refine ns_done ?_
  refine WP_ret ?_
  exact ⟨_, res1 _, St.mk_pu rfl hs.out⟩
end Go.Proofs.Ytnnembkganlbpaa
