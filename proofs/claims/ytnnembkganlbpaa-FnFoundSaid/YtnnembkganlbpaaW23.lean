/- The walks of the laws' comparisons: rising keys, equal lists of items, equal answers; a list from its end. -/
import Derived.Test.YtnnembkganlbpaaW22
namespace Go.Proofs.Ytnnembkganlbpaa
open Go Go.Sl Go.Net Go.Wk Go.Bt Go.RowKit
theorem srt_lt {l : List It} (h : Srt l) {i j : Nat} {x y : It} (hi : l[i]? = some x) (hj : l[j]? = some y) (hij : i < j) : x.key < y.key := by
  obtain ⟨h1, rfl⟩ := List.getElem?_eq_some_iff.1 hi
  obtain ⟨h2, rfl⟩ := List.getElem?_eq_some_iff.1 hj
  exact List.pairwise_iff_getElem.1 h i j h1 h2 hij
set_option maxHeartbeats 800000 in
theorem f35_ok (R : HProp) (v : Value) (l : List It) (hR : RdI R v l) (hS : Srt l) (hll : l.length < 1000000) : Tri Try.prog 35 #[v] R fun r => pu (r = .bool true) * R := by
  obtain ⟨hxl, a1, c1, rfl, hc1, hrd⟩ := hR
  intro w0 F w hs
  refine calls_WP 26 #[.tmp 2] Try.func35 rfl Try.ntmps35 rfl (Nat.le_of_ble_eq_true rfl) ?_
  refine WP_seq ?_
  -- R0
  refine WP_seqr [⟨0, 0, []⟩] (by kernel_rfl) ?_
  refine ns_asg rfl rfl ?_
  refine ns_done ?_
  refine WP_seq_cut (fun σ w => St w0 (R * F) w) ?_ ?_ -- S1
  · refine WP_seq ?_
    -- R1
    refine WP_seqr [⟨0, 0, []⟩, ⟨1, 0, []⟩, ⟨2, 0, []⟩] (by kernel_rfl) ?_
    refine ns_move rfl rfl ?_
    refine ns_len sl_34 rfl rfl rfl ?_
    refine ns_move rfl rfl ?_
    refine ns_done ?_
    refine WP_block ?_
    refine WP_loop (fun m σ w => ∃ i : Nat, m = l.length - i ∧ i ≤ l.length ∧ σ 0 = .slice a1 l.length c1 ∧ σ 5 = .slice a1 l.length c1 ∧ σ 6 = .int .i64 (l.length : Int) ∧ σ 7 = .int .i64 (i : Int) ∧ St w0 (R * F) w) l.length ?_ ?_ -- L1
    · exact ⟨0, rfl, Nat.zero_le _, rfl, rfl, rfl, rfl, hs⟩
    rintro m σ w ⟨i, rfl, hi, g0, g5, g6, g7, hs⟩
    obtain ⟨σ, rfl⟩ := rebase g0
    obtain ⟨σ, rfl⟩ := rebase (σ := σ) g5
    obtain ⟨σ, rfl⟩ := rebase (σ := σ) g6
    obtain ⟨σ, rfl⟩ := rebase (σ := σ) g7
    clear g0 g5 g6 g7
    refine WP_seq ?_
    -- R2
    refine WP_seqr [⟨0, 0, []⟩] (by kernel_rfl) ?_
    refine ns_cmp _ rfl rfl rfl rfl rfl ?_
    refine ns_done ?_
    refine WP_seq ?_ -- S2
    refine WP_if' rfl (fun hif1 => ?_) (fun hif1 => ?_)
    · refine WP_exit ?_
      exact hs
    refine WP_skip ?_
    have hi2 : i < l.length := by have := of_decide_eq_true hif1; omega
    obtain ⟨x, hxi⟩ : ∃ x, l[i]? = some x := ⟨l[i]'hi2, List.getElem?_eq_getElem hi2⟩
    obtain ⟨g, o, rfl, hat⟩ := hrd (by omega)
    refine WP_seq ?_ -- S3
    refine WP_block ?_
    refine WP_seq ?_
    -- R3
    refine WP_seqr [⟨0, 0, []⟩, ⟨1, 0, []⟩, ⟨2, 1, []⟩, ⟨3, 2, []⟩, ⟨4, 0, []⟩, ⟨5, 2, []⟩] (by kernel_rfl) ?_
    refine ns_move rfl rfl ?_
    refine ns_idx i sl_34 rfl rfl rfl rfl rfl hi2 ?_
    refine ns_ldA [.int .i64 x.key, .int .i64 x.val] ag_45 rfl rfl rfl rfl (by decide) (item_cells hat (hs.foc R) hxi) ?_
    refine ns_alloc zc_45 hs rfl rfl ?_
    intro b4 w hs
    refine ns_asg rfl rfl ?_
    refine ns_stA (#[.int .i64 x.key, .int .i64 x.val]) ag_45 rfl (by decide) hs rfl rfl rfl rfl (by intro u hu; simp at hu; rcases hu with rfl | rfl <;> rfl) (by simp) ?_
    refine fun w hs => ⟨trivial, ?_⟩
    refine ns_done ?_
    have hs : St w0 (pts b4 (.cells #[.int .i64 x.key, .int .i64 x.val] 45 (0, 0)) * _) w := hs
    refine WP_seq_cut (fun σ w => σ 24 = .bool false ∧ σ 0 = .slice (some ⟨g, o, none⟩) l.length c1 ∧ σ 5 = .slice (some ⟨g, o, none⟩) l.length c1 ∧ σ 6 = .int .i64 (l.length : Int) ∧ σ 7 = .int .i64 (i : Int) ∧ St w0 (R * F) w) ?_ ?_ -- R4.cut
    · rcases Nat.eq_zero_or_pos i with rfl | hp
      · -- R4
        refine WP_net hs mix [0, 1, 3, 7, 7, 23, 63, 127, 255, 7, 519, 2047, 4095] [⟨0, 0, []⟩, ⟨1, 0, []⟩, ⟨2, 0, []⟩, ⟨3, 0, []⟩, ⟨4, 0, []⟩, ⟨5, 0, []⟩, ⟨6, 0, []⟩, ⟨7, 0, []⟩, ⟨8, 0, []⟩, ⟨9, 0, []⟩, ⟨10, 0, []⟩, ⟨11, 0, []⟩, ⟨12, 0, []⟩] (by kernel_rfl) ?_
        intro w hs
        refine ns_move rfl rfl ?_
        refine ns_cmp false rfl rfl rfl rfl (by simp [cmpI]) ?_
        refine ns_move rfl rfl ?_
        refine ns_no rfl rfl ?_
        refine ns_no rfl rfl ?_
        refine ns_no rfl rfl ?_
        refine ns_no rfl rfl ?_
        refine ns_no rfl rfl ?_
        refine ns_no rfl rfl ?_
        refine ns_no rfl rfl ?_
        refine ns_no rfl rfl ?_
        refine ns_no rfl rfl ?_
        refine ns_pick rfl rfl rfl ?_
        refine ns_done ?_
        exact ⟨rfl, rfl, rfl, rfl, rfl, hs.out⟩
      · obtain ⟨y, hy⟩ : ∃ y, l[i - 1]? = some y := ⟨l[i - 1]'(by omega), List.getElem?_eq_getElem (by omega)⟩
        have hyx : y.key < x.key := srt_lt hS hy hxi (by omega)
        -- R4
        refine WP_net hs mix [0, 1, 3, 7, 7, 23, 63, 127, 255, 7, 519, 2047, 4095] [⟨0, 0, []⟩, ⟨1, 0, []⟩, ⟨2, 0, []⟩, ⟨3, 0, []⟩, ⟨4, 0, []⟩, ⟨5, 0, []⟩, ⟨6, 0, []⟩, ⟨7, 0, []⟩, ⟨8, 1, []⟩, ⟨9, 0, []⟩, ⟨10, 1, []⟩, ⟨11, 0, []⟩, ⟨12, 0, []⟩] (by kernel_rfl) ?_
        intro w hs
        refine ns_move rfl rfl ?_
        refine ns_cmp true rfl rfl rfl rfl (by simp [cmpI]; omega) ?_
        refine ns_move rfl rfl ?_
        refine ns_move rfl rfl ?_
        refine ns_move rfl rfl ?_
        refine ns_sub rfl rfl rfl rfl (by omega) (by omega) ?_
        refine ns_idx (i - 1) sl_34 rfl rfl rfl rfl (by omega) (by omega) ?_
        refine ns_fld fo_45_0 rfl rfl rfl ?_
        refine ns_ld pl_2 rfl rfl rfl ((item_cells hat (hs.foc R) hy).at 0 rfl) ?_
        refine ns_fld fo_45_0 rfl rfl rfl ?_
        refine ns_ldB pl_2 hs rfl rfl rfl (by rfl) ?_
        refine ns_cmp false rfl rfl rfl rfl (by simp [cmpI]; omega) ?_
        refine ns_pick rfl rfl rfl ?_
        refine ns_done ?_
        exact ⟨rfl, rfl, rfl, rfl, rfl, hs.out⟩
    rintro σ w ⟨g24, g0, g5, g6, g7, hs⟩
    obtain ⟨σ, rfl⟩ := rebase g24
    obtain ⟨σ, rfl⟩ := rebase (σ := σ) g0
    obtain ⟨σ, rfl⟩ := rebase (σ := σ) g5
    obtain ⟨σ, rfl⟩ := rebase (σ := σ) g6
    obtain ⟨σ, rfl⟩ := rebase (σ := σ) g7
    clear g24 g0 g5 g6 g7
    refine WP_false rfl ?_ -- if2
    refine WP_skip ?_
    -- R6
    refine WP_seqr [⟨0, 0, []⟩, ⟨1, 0, []⟩] (by kernel_rfl) ?_
    refine ns_add rfl rfl rfl rfl (by omega) (by omega) ?_
    refine ns_move rfl rfl ?_
    refine ns_done ?_
    exact ⟨l.length - (i + 1), by omega, i + 1, rfl, by omega, rfl, rfl, rfl, rfl, hs⟩
    
  intro σ w hs
  refine WP_seq ?_
  -- R7
  refine WP_seqr [⟨0, 0, []⟩] (by kernel_rfl) ?_
  refine ns_asg rfl rfl ?_
  refine ns_done ?_
  refine WP_ret ?_
  exact ⟨_, res1 _, St.mk_pu rfl hs⟩
set_option maxHeartbeats 800000 in
theorem f26_ok (R : HProp) (v v2 : Value) (l : List It) (hR : RdI R v l) (hR2 : RdI R v2 l) (hll : l.length < 1000000) : Tri Try.prog 26 #[v, v2] R fun r => pu (r = .bool true) * R := by
  obtain ⟨hxl, a1, c1, rfl, hc1, hrd⟩ := hR
  obtain ⟨_, a2, c2, rfl, hc2, hrd2⟩ := hR2
  intro w0 F w hs
  refine calls_WP 26 #[.tmp 4] Try.func26 rfl Try.ntmps26 rfl (Nat.le_of_ble_eq_true rfl) ?_
  refine WP_seq ?_
  -- R0
  refine WP_seqr [⟨0, 0, []⟩] (by kernel_rfl) ?_
  refine ns_asg rfl rfl ?_
  refine ns_done ?_
  refine WP_seq ?_ -- S1
  refine WP_seq ?_
  -- R1
  refine WP_seqr [⟨0, 0, []⟩, ⟨1, 0, []⟩, ⟨2, 0, []⟩, ⟨3, 0, []⟩, ⟨4, 0, []⟩] (by kernel_rfl) ?_
  refine ns_move rfl rfl ?_
  refine ns_len sl_34 rfl rfl rfl ?_
  refine ns_move rfl rfl ?_
  refine ns_len sl_34 rfl rfl rfl ?_
  refine ns_cmp false rfl rfl rfl rfl (by simp [cmpI]) ?_
  refine ns_done ?_
  refine WP_false rfl ?_ -- if1
  refine WP_skip ?_
  refine WP_seq_cut (fun σ w => St w0 (R * F) w) ?_ ?_ -- S2
  · refine WP_seq ?_
    -- R3
    refine WP_seqr [⟨0, 0, []⟩, ⟨1, 0, []⟩, ⟨2, 0, []⟩] (by kernel_rfl) ?_
    refine ns_move rfl rfl ?_
    refine ns_len sl_34 rfl rfl rfl ?_
    refine ns_move rfl rfl ?_
    refine ns_done ?_
    refine WP_block ?_
    refine WP_loop (fun m σ w => ∃ i : Nat, m = l.length - i ∧ i ≤ l.length ∧ σ 1 = .slice a2 l.length c2 ∧ σ 12 = .slice a1 l.length c1 ∧ σ 13 = .int .i64 (l.length : Int) ∧ σ 14 = .int .i64 (i : Int) ∧ St w0 (R * F) w) l.length ?_ ?_ -- L1
    · exact ⟨0, rfl, Nat.zero_le _, rfl, rfl, rfl, rfl, hs⟩
    rintro m σ w ⟨i, rfl, hi, g1, g12, g13, g14, hs⟩
    obtain ⟨σ, rfl⟩ := rebase g1
    obtain ⟨σ, rfl⟩ := rebase (σ := σ) g12
    obtain ⟨σ, rfl⟩ := rebase (σ := σ) g13
    obtain ⟨σ, rfl⟩ := rebase (σ := σ) g14
    clear g1 g12 g13 g14
    refine WP_seq ?_
    -- R4
    refine WP_seqr [⟨0, 0, []⟩] (by kernel_rfl) ?_
    refine ns_cmp _ rfl rfl rfl rfl rfl ?_
    refine ns_done ?_
    refine WP_seq ?_ -- S3
    refine WP_if' rfl (fun hif2 => ?_) (fun hif2 => ?_)
    · refine WP_exit ?_
      exact hs
    refine WP_skip ?_
    have hi2 : i < l.length := by have := of_decide_eq_true hif2; omega
    obtain ⟨x, hxi⟩ : ∃ x, l[i]? = some x := ⟨l[i]'hi2, List.getElem?_eq_getElem hi2⟩
    obtain ⟨g, o, rfl, hat⟩ := hrd (by omega)
    obtain ⟨g2, o2, rfl, hat2⟩ := hrd2 (by omega)
    refine WP_seq ?_ -- S4
    refine WP_block ?_
    refine WP_seq ?_
    -- R5
    refine WP_seqr [⟨0, 0, []⟩, ⟨1, 0, []⟩, ⟨2, 1, []⟩, ⟨3, 2, []⟩, ⟨4, 0, []⟩, ⟨5, 2, []⟩] (by kernel_rfl) ?_
    refine ns_move rfl rfl ?_
    refine ns_idx i sl_34 rfl rfl rfl rfl rfl hi2 ?_
    refine ns_ldA [.int .i64 x.key, .int .i64 x.val] ag_45 rfl rfl rfl rfl (by decide) (item_cells hat (hs.foc R) hxi) ?_
    refine ns_alloc zc_45 hs rfl rfl ?_
    intro b6 w hs
    refine ns_asg rfl rfl ?_
    refine ns_stA (#[.int .i64 x.key, .int .i64 x.val]) ag_45 rfl (by decide) hs rfl rfl rfl rfl (by intro u hu; simp at hu; rcases hu with rfl | rfl <;> rfl) (by simp) ?_
    refine fun w hs => ⟨trivial, ?_⟩
    refine ns_done ?_
    have hs : St w0 (pts b6 (.cells #[.int .i64 x.key, .int .i64 x.val] 45 (0, 0)) * _) w := hs
    refine WP_seq ?_
    -- R6
    refine WP_net hs mix [0, 0, 0, 6, 14, 31] [⟨0, 1, []⟩, ⟨1, 0, []⟩, ⟨2, 0, []⟩, ⟨3, 0, []⟩, ⟨4, 1, []⟩, ⟨5, 0, []⟩] (by kernel_rfl) ?_
    intro w hs
    refine ns_ldAB [.int .i64 x.key, .int .i64 x.val] ag_45 hs rfl rfl rfl (by rfl) (by rfl) (by decide) ?_
    refine ns_move rfl rfl ?_
    refine ns_move rfl rfl ?_
    refine ns_idx i sl_34 rfl rfl rfl rfl rfl hi2 ?_
    refine ns_ldA [.int .i64 x.key, .int .i64 x.val] ag_45 rfl rfl rfl rfl (by decide) (item_cells hat2 (hs.foc R) hxi) ?_
    refine ns_ne45 false rfl rfl rfl rfl (by simp) ?_
    refine ns_done ?_
    refine WP_false rfl ?_ -- if3
    refine WP_skip ?_
    -- R8
    refine WP_seqr [⟨0, 0, []⟩, ⟨1, 0, []⟩] (by kernel_rfl) ?_
    refine ns_add rfl rfl rfl rfl (by omega) (by omega) ?_
    refine ns_move rfl rfl ?_
    refine ns_done ?_
    exact ⟨l.length - (i + 1), by omega, i + 1, rfl, by omega, rfl, rfl, rfl, rfl, hs.out⟩
    
  intro σ w hs
  refine WP_seq ?_
  -- R9
  refine WP_seqr [⟨0, 0, []⟩] (by kernel_rfl) ?_
  refine ns_asg rfl rfl ?_
  refine ns_done ?_
  refine WP_ret ?_
  exact ⟨_, res1 _, St.mk_pu rfl hs⟩
set_option maxHeartbeats 800000 in
theorem f36_ok (R : HProp) (v : Value) (l : List It) (hR : RdI R v l) (hll : l.length < 1000000) : Tri Try.prog 36 #[v] R fun r => R * IArr r l.reverse := by
  obtain ⟨hxl, a1, c1, rfl, hc1, hrd⟩ := hR
  intro w0 F w hs
  refine calls_WP 24 #[.tmp 2] Try.func36 rfl Try.ntmps36 rfl (Nat.le_of_ble_eq_true rfl) ?_
  refine WP_seq ?_
  -- R0
  refine WP_seqr [⟨0, 0, []⟩] (by kernel_rfl) ?_
  refine ns_asg rfl rfl ?_
  refine ns_done ?_
  refine WP_seq ?_
  -- R1
  refine WP_seqr [⟨0, 2, []⟩, ⟨1, 0, []⟩] (by kernel_rfl) ?_
  refine ns_lit0 sl_34 hs rfl rfl ?_
  refine fun b5 w hs hx => ⟨trivial, ?_⟩
  refine ns_asg rfl rfl ?_
  refine ns_done ?_
  refine WP_seq_cut (fun σ w => ∃ out, σ 3 = out ∧ St w0 (R * (IArr out l.reverse * F)) w) ?_ ?_ -- S1
  · refine WP_seq ?_
    -- R2
    refine WP_seqr [⟨0, 0, []⟩, ⟨1, 0, []⟩, ⟨2, 0, []⟩] (by kernel_rfl) ?_
    refine ns_move rfl rfl ?_
    refine ns_len sl_34 rfl rfl rfl ?_
    refine ns_move rfl rfl ?_
    refine ns_done ?_
    refine WP_block ?_
    refine WP_loop (fun m σ w => ∃ (i : Nat) (out : Value), m = l.length - i ∧ i ≤ l.length ∧ σ 0 = .slice a1 l.length c1 ∧ σ 3 = out ∧ σ 7 = .int .i64 (l.length : Int) ∧ σ 8 = .int .i64 (i : Int) ∧ St w0 (R * (IArr out (l.reverse.take i) * F)) w) l.length ?_ ?_ -- L1
    · refine ⟨0, .slice (some ⟨b5, 0, none⟩) 0 0, rfl, Nat.zero_le _, rfl, rfl, rfl, rfl, ?_⟩
      show St w0 (R * (Arr 45 2 _ 0 [] * F)) w
      exact hs.out
    rintro m σ w ⟨i, out, rfl, hi, g0, g3, g7, g8, hs⟩
    obtain ⟨σ, rfl⟩ := rebase g0
    obtain ⟨σ, rfl⟩ := rebase (σ := σ) g3
    obtain ⟨σ, rfl⟩ := rebase (σ := σ) g7
    obtain ⟨σ, rfl⟩ := rebase (σ := σ) g8
    clear g0 g3 g7 g8
    refine WP_seq ?_
    -- R3
    refine WP_seqr [⟨0, 0, []⟩] (by kernel_rfl) ?_
    refine ns_cmp _ rfl rfl rfl rfl rfl ?_
    refine ns_done ?_
    refine WP_seq ?_ -- S2
    refine WP_if' rfl (fun hif1 => ?_) (fun hif1 => ?_)
    · refine WP_exit ?_
      have hi2 : i = l.length := by have := of_decide_eq_false hif1; omega
      subst hi2
      refine ⟨out, rfl, ?_⟩
      rw [List.take_of_length_le (by simp)] at hs
      exact hs
    refine WP_skip ?_
    have hi2 : i < l.length := by have := of_decide_eq_true hif1; omega
    obtain ⟨x, hxi⟩ : ∃ x, l[l.length - 1 - i]? = some x := ⟨l[l.length - 1 - i]'(by omega), List.getElem?_eq_getElem (by omega)⟩
    have hxr : l.reverse[i]? = some x := by rw [List.getElem?_reverse hi2, hxi]
    have hlen : (l.reverse.take i).length = i := by rw [List.length_take, List.length_reverse]; omega
    obtain ⟨g, o, rfl, hat⟩ := hrd (by omega)
    refine WP_seq ?_ -- S3
    refine WP_block ?_
    refine WP_seq ?_
    -- R4
    refine WP_seqr [⟨0, 0, []⟩, ⟨1, 0, []⟩] (by kernel_rfl) ?_
    refine ns_move rfl rfl ?_
    refine ns_asg rfl rfl ?_
    refine ns_done ?_
    -- R5
    refine WP_seqr [⟨0, 0, []⟩, ⟨1, 0, []⟩, ⟨2, 0, []⟩, ⟨3, 0, []⟩, ⟨4, 0, []⟩, ⟨5, 0, []⟩, ⟨6, 0, []⟩, ⟨7, 0, []⟩, ⟨8, 1, []⟩, ⟨9, 2, []⟩, ⟨10, 2, []⟩, ⟨11, 0, []⟩] (by kernel_rfl) ?_
    refine ns_move rfl rfl ?_
    refine ns_move rfl rfl ?_
    refine ns_move rfl rfl ?_
    refine ns_len sl_34 rfl rfl rfl ?_
    refine ns_sub rfl rfl rfl rfl (by omega) (by omega) ?_
    refine ns_move rfl rfl ?_
    refine ns_sub rfl rfl rfl rfl (by omega) (by omega) ?_
    refine ns_idx (l.length - 1 - i) sl_34 rfl rfl rfl rfl (by omega) (by omega) ?_
    refine ns_ldA [.int .i64 x.key, .int .i64 x.val] ag_45 rfl rfl rfl rfl (by decide) (item_cells hat (hs.foc R) hxi) ?_
    refine ns_lit [itV x] [.int .i64 x.key, .int .i64 x.val] sl_34 zr_45 (by decide) (by decide) hs rfl rfl rfl rfl (by simp [Value.cells, itV]) rfl ?_
    refine fun b20 w hs hx => ⟨trivial, ?_⟩
    refine ns_app [.int .i64 x.key, .int .i64 x.val] sl_34 zr_45 by_45 rfl (by decide) (hs.foc (IArr out (l.reverse.take i))) rfl rfl rfl rfl rfl (St.cells (n := 2) hs (by rfl)) (by intro u hu; simp at hu; rcases hu with rfl | rfl <;> rfl) (by simp only [maxLen]; omega) (by omega) ?_
    refine fun v21 w hs hv => ⟨trivial, ?_⟩
    refine ns_asg rfl rfl ?_
    refine ns_done ?_
    -- R6
    refine WP_seqr [⟨0, 0, []⟩, ⟨1, 0, []⟩] (by kernel_rfl) ?_
    refine ns_add rfl rfl rfl rfl (by omega) (by omega) ?_
    refine ns_move rfl rfl ?_
    refine ns_done ?_
    refine ⟨l.length - (i + 1), by omega, i + 1, v21, rfl, by omega, rfl, rfl, rfl, rfl, ?_⟩
    have e4 : IArr v21 (l.reverse.take (i + 1)) = Arr 45 2 v21 ((l.reverse.take i).length + 1) (encs (l.reverse.take i) ++ [.int .i64 x.key, .int .i64 x.val]) := by
      rw [take_snoc hxr]
      show Arr 45 2 v21 _ _ = _
      rw [List.length_append, encs_append]; rfl
    rw [e4]
    exact hs.out
    
  rintro σ w ⟨out, g3, hs⟩
  obtain ⟨σ, rfl⟩ := rebase g3
  refine WP_seq ?_
  -- R7
  refine WP_seqr [⟨0, 0, []⟩, ⟨1, 0, []⟩] (by kernel_rfl) ?_
  refine ns_move rfl rfl ?_
  refine ns_asg rfl rfl ?_
  refine ns_done ?_
  refine WP_ret ?_
  refine ⟨_, res1 _, ?_⟩
  show St w0 ((R * IArr out l.reverse) * F) w
  exact hs.out
set_option maxHeartbeats 1600000 in
theorem f25_ok (R : HProp) (v v2 : Value) (l : List An) (hR : RdA R v l) (hR2 : RdA R v2 l) (hll : l.length < 1000000) (hil : ∀ x ∈ l, x.items.length < 1000000) : Tri Try.prog 25 #[v, v2] R fun r => pu (r = .bool true) * R := by
  obtain ⟨a1, c1, rfl, hc1⟩ := hR.form
  obtain ⟨a2, c2, rfl, hc2⟩ := hR2.form
  intro w0 F w hs
  refine calls_WP 49 #[.tmp 4] Try.func25 rfl Try.ntmps25 rfl (Nat.le_of_ble_eq_true rfl) ?_
  refine WP_seq ?_
  -- R0
  refine WP_seqr [⟨0, 0, []⟩] (by kernel_rfl) ?_
  refine ns_asg rfl rfl ?_
  refine ns_done ?_
  refine WP_seq ?_ -- S1
  refine WP_seq ?_
  -- R1
  refine WP_seqr [⟨0, 0, []⟩, ⟨1, 0, []⟩, ⟨2, 0, []⟩, ⟨3, 0, []⟩, ⟨4, 0, []⟩] (by kernel_rfl) ?_
  refine ns_move rfl rfl ?_
  refine ns_len sl_28 rfl rfl rfl ?_
  refine ns_move rfl rfl ?_
  refine ns_len sl_28 rfl rfl rfl ?_
  refine ns_cmp false rfl rfl rfl rfl (by simp [cmpI]) ?_
  refine ns_done ?_
  refine WP_false rfl ?_ -- if1
  refine WP_skip ?_
  refine WP_seq_cut (fun σ w => St w0 (R * F) w) ?_ ?_ -- S2
  · refine WP_seq ?_
    -- R3
    refine WP_seqr [⟨0, 0, []⟩, ⟨1, 0, []⟩, ⟨2, 0, []⟩] (by kernel_rfl) ?_
    refine ns_move rfl rfl ?_
    refine ns_len sl_28 rfl rfl rfl ?_
    refine ns_move rfl rfl ?_
    refine ns_done ?_
    refine WP_block ?_
    refine WP_loop (fun m σ w => ∃ i : Nat, m = l.length - i ∧ i ≤ l.length ∧ σ 1 = .slice a2 l.length c2 ∧ σ 12 = .slice a1 l.length c1 ∧ σ 13 = .int .i64 (l.length : Int) ∧ σ 14 = .int .i64 (i : Int) ∧ St w0 (R * F) w) l.length ?_ ?_ -- L1
    · exact ⟨0, rfl, Nat.zero_le _, rfl, rfl, rfl, rfl, hs⟩
    rintro m σ w ⟨i, rfl, hi, g1, g12, g13, g14, hs⟩
    obtain ⟨σ, rfl⟩ := rebase g1
    obtain ⟨σ, rfl⟩ := rebase (σ := σ) g12
    obtain ⟨σ, rfl⟩ := rebase (σ := σ) g13
    obtain ⟨σ, rfl⟩ := rebase (σ := σ) g14
    clear g1 g12 g13 g14
    refine WP_seq ?_
    -- R4
    refine WP_seqr [⟨0, 0, []⟩] (by kernel_rfl) ?_
    refine ns_cmp _ rfl rfl rfl rfl rfl ?_
    refine ns_done ?_
    refine WP_seq ?_ -- S3
    refine WP_if' rfl (fun hif2 => ?_) (fun hif2 => ?_)
    · refine WP_exit ?_
      exact hs
    refine WP_skip ?_
    have hi2 : i < l.length := by have := of_decide_eq_true hif2; omega
    obtain ⟨x, hxi⟩ : ∃ x, l[i]? = some x := ⟨l[i]'hi2, List.getElem?_eq_getElem hi2⟩
    obtain ⟨g, o, _, s, e, hri, hce⟩ := hR.get hxi
    cases e
    obtain ⟨g2, o2, _, s2, e, hri2, hce2⟩ := hR2.get hxi
    cases e
    obtain ⟨_, a5, c5, rfl, _⟩ := id hri
    refine WP_seq ?_ -- S4
    refine WP_block ?_
    refine WP_seq ?_
    -- R5
    refine WP_seqr [⟨0, 0, []⟩, ⟨1, 0, []⟩, ⟨2, 1, []⟩, ⟨3, 2, []⟩, ⟨4, 0, []⟩, ⟨5, 2, []⟩] (by kernel_rfl) ?_
    refine ns_move rfl rfl ?_
    refine ns_idx i sl_28 rfl rfl rfl rfl rfl hi2 ?_
    refine ns_ldA [.bool x.ok, .int .i64 x.n, .slice a5 x.items.length c5] ag_36 rfl rfl rfl rfl (by decide) (hce _ _ _ (hs.foc R)) ?_
    refine ns_alloc zc_36 hs rfl rfl ?_
    intro b6 w hs
    refine ns_asg rfl rfl ?_
    refine ns_stA (#[.bool x.ok, .int .i64 x.n, .slice a5 x.items.length c5]) ag_36 rfl (by decide) hs rfl rfl rfl rfl (by intro u hu; simp at hu; rcases hu with rfl | rfl | rfl <;> rfl) (by simp) ?_
    refine fun w hs => ⟨trivial, ?_⟩
    refine ns_done ?_
    have hs : St w0 (pts b6 (.cells #[.bool x.ok, .int .i64 x.n, .slice a5 x.items.length c5] 36 (0, 0)) * _) w := hs
    refine WP_seq ?_
    -- R6
    refine WP_net hs mix [0, 1, 0, 0, 12, 28, 60, 127, 255, 511, 1023, 511, 511, 6655, 14847, 31231, 65535, 131071, 262143, 524287, 1048575, 524287, 524287, 6815743, 15204351, 31981567, 67108863, 134217727, 268435455] [⟨0, 0, []⟩, ⟨1, 1, []⟩, ⟨2, 0, []⟩, ⟨3, 0, []⟩, ⟨4, 0, []⟩, ⟨5, 0, []⟩, ⟨6, 1, []⟩, ⟨7, 0, []⟩, ⟨8, 0, []⟩, ⟨9, 0, []⟩, ⟨10, 1, []⟩, ⟨11, 0, []⟩, ⟨12, 0, []⟩, ⟨13, 0, []⟩, ⟨14, 0, []⟩, ⟨15, 1, []⟩, ⟨16, 0, []⟩, ⟨17, 0, []⟩, ⟨18, 0, []⟩, ⟨19, 0, []⟩, ⟨20, 1, []⟩, ⟨21, 0, []⟩, ⟨22, 0, []⟩, ⟨23, 0, []⟩, ⟨24, 0, []⟩, ⟨25, 1, []⟩, ⟨26, 2, []⟩, ⟨27, 0, []⟩, ⟨28, 0, []⟩] (by kernel_rfl) ?_
    intro w hs
    refine ns_fld fo_36_0 rfl rfl rfl ?_
    refine ns_ldB pl_4 hs rfl rfl rfl (by rfl) ?_
    refine ns_move rfl rfl ?_
    refine ns_move rfl rfl ?_
    refine ns_idx i sl_28 rfl rfl rfl rfl rfl hi2 ?_
    refine ns_fld fo_36_0 rfl rfl rfl ?_
    refine ns_ld pl_4 rfl rfl rfl ((hce2 _ _ _ (hs.foc R)).at 0 rfl) ?_
    refine ns_bne2 false bl_4 rfl rfl rfl rfl (by simp) ?_
    refine ns_move rfl rfl ?_
    refine ns_fld fo_36_1 rfl rfl rfl ?_
    refine ns_ldB pl_2 hs rfl rfl rfl (by rfl) ?_
    refine ns_move rfl rfl ?_
    refine ns_move rfl rfl ?_
    refine ns_idx i sl_28 rfl rfl rfl rfl rfl hi2 ?_
    refine ns_fld fo_36_1 rfl rfl rfl ?_
    refine ns_ld pl_2 rfl rfl rfl ((hce2 _ _ _ (hs.foc R)).at 1 rfl) ?_
    refine ns_cmp false rfl rfl rfl rfl (by simp [cmpI]) ?_
    refine ns_pick rfl rfl rfl ?_
    refine ns_move rfl rfl ?_
    refine ns_fld fo_36_2 rfl rfl rfl ?_
    refine ns_ldB pl_34 hs rfl rfl rfl (by rfl) ?_
    refine ns_move rfl rfl ?_
    refine ns_move rfl rfl ?_
    refine ns_idx i sl_28 rfl rfl rfl rfl rfl hi2 ?_
    refine ns_fld fo_36_2 rfl rfl rfl ?_
    refine ns_ld pl_34 rfl rfl rfl ((hce2 _ _ _ (hs.foc R)).at 2 rfl) ?_
    refine ns_call (f26_ok R _ s2 x.items hri hri2 (hil x (List.mem_of_getElem? hxi))) ck_26 (hs.foc R) rfl rfl rfl rfl ?_
    intro v45 w hs
    replace hs := hs.pu
    obtain ⟨rfl, hs⟩ := hs
    refine ns_not rfl rfl rfl ?_
    refine ns_pick rfl rfl rfl ?_
    refine ns_done ?_
    refine WP_false rfl ?_ -- if3
    refine WP_skip ?_
    -- R8
    refine WP_seqr [⟨0, 0, []⟩, ⟨1, 0, []⟩] (by kernel_rfl) ?_
    refine ns_add rfl rfl rfl rfl (by omega) (by omega) ?_
    refine ns_move rfl rfl ?_
    refine ns_done ?_
    exact ⟨l.length - (i + 1), by omega, i + 1, rfl, by omega, rfl, rfl, rfl, rfl, hs.out⟩
    
  intro σ w hs
  refine WP_seq ?_
  -- R9
  refine WP_seqr [⟨0, 0, []⟩] (by kernel_rfl) ?_
  refine ns_asg rfl rfl ?_
  refine ns_done ?_
  refine WP_ret ?_
  exact ⟨_, res1 _, St.mk_pu rfl hs⟩
end Go.Proofs.Ytnnembkganlbpaa
