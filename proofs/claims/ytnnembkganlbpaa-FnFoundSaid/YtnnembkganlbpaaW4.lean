/- The walks of the search: the order of two items, the bisection, a key's place among a node's items. -/
import Derived.Test.YtnnembkganlbpaaW3
namespace Go.Proofs.Ytnnembkganlbpaa
open Go Go.Sl Go.Net Go.Wk Go.Bt Go.RowKit

/-- what the search's closure holds: the items, the item that is looked for, the order -/
abbrev FindP (v : Value) (its : List It) (x : It) (b3 b4 b5 : Nat) : HProp :=
  pts b3 (.cells #[v] 100 (0, 0)) * (pts b4 (.cells #[.int .i64 x.key, .int .i64 x.val] 45 (0, 0)) * (pts b5 (.cells #[lessV] 62 (0, 0)) * IArr v its))
theorem fdiv2 (i j : Nat) : ((i : Int) + (j : Int)).fdiv 2 = (((i + j) / 2 : Nat) : Int) := by
  rw [Int.fdiv_eq_ediv_of_nonneg _ (by decide)]; omega
theorem f40_ok (x y : It) : Tri Try.prog 40 #[itV x, itV y] 1 fun v => pu (v = .bool (decide (x.key < y.key))) := by
  intro w0 F w hs
  rw [one_mul'] at hs
  refine calls_WP 10 #[.tmp 4] Try.func40 rfl Try.ntmps40 rfl (Nat.le_of_ble_eq_true rfl) ?_
  refine WP_seq ?_
  -- R0
  refine WP_seqr [⟨0, 2, []⟩, ⟨1, 2, []⟩, ⟨2, 0, []⟩] (by kernel_rfl) ?_
  refine ns_box (#[.int .i64 x.key, .int .i64 x.val]) hs rfl rfl rfl rfl ?_
  intro b2 w hs
  refine ns_box (#[.int .i64 y.key, .int .i64 y.val]) hs rfl rfl rfl rfl ?_
  intro b3 w hs
  refine ns_asg rfl rfl ?_
  refine ns_done ?_
  refine WP_seq ?_
  -- R1
  refine WP_seqr [⟨0, 0, []⟩, ⟨1, 1, []⟩, ⟨2, 0, []⟩, ⟨3, 1, []⟩, ⟨4, 0, []⟩, ⟨5, 0, []⟩] (by kernel_rfl) ?_
  refine ns_fld fo_45_0 rfl rfl rfl ?_
  refine ns_ldB pl_2 hs rfl rfl rfl (by rfl) ?_
  refine ns_fld fo_45_0 rfl rfl rfl ?_
  refine ns_ldB pl_2 hs rfl rfl rfl (by rfl) ?_
  refine ns_cmp _ rfl rfl rfl rfl rfl ?_
  refine ns_asg rfl rfl ?_
  refine ns_done ?_
  refine WP_ret ?_
  exact ⟨_, res1 _, St.mk_pure rfl (hs.out (P := F))⟩
theorem f93_ok (v : Value) (its : List It) (x y : It) (b3 b4 b5 j : Nat) (hy : its[j]? = some y) :
    Tri Try.prog 93 #[.int .i64 j, ptr b5, ptr b4, ptr b3] (FindP v its x b3 b4 b5) fun r => pu (r = .bool (decide (x.key < y.key))) * FindP v its x b3 b4 b5 := by
  have hj : j < its.length := (List.getElem?_eq_some_iff.1 hy).1
  intro w0 F w hs
  unfold FindP at hs
  simp only [mul_assoc'] at hs
  obtain ⟨h0, h1, _⟩ | ⟨g, cap, cur, rfl, hc, hcm, hsz, htk, hs⟩ := (hs.foc (IArr v its)).arr
  · omega
  refine calls_WP 13 #[.tmp 5] Try.func93 rfl Try.ntmps93 rfl (Nat.le_of_ble_eq_true rfl) ?_
  refine WP_seq ?_
  -- R0
  refine WP_seqr [⟨0, 0, []⟩] (by kernel_rfl) ?_
  refine ns_asg rfl rfl ?_
  refine ns_done ?_
  refine WP_seq ?_
  -- R1
  refine WP_net hs mix [0, 0, 0, 0, 12, 28, 63, 127] [⟨0, 1, []⟩, ⟨1, 1, []⟩, ⟨2, 1, []⟩, ⟨3, 0, []⟩, ⟨4, 0, []⟩, ⟨5, 1, []⟩, ⟨6, 2, []⟩, ⟨7, 0, []⟩] (by kernel_rfl) ?_
  intro w hs
  refine ns_ldB pl_62 hs rfl rfl rfl (by rfl) ?_
  refine ns_ldAB _ ag_45 hs rfl rfl rfl (by rfl) (by rfl) (by decide) ?_
  refine ns_ldB pl_100 hs rfl rfl rfl (by rfl) ?_
  refine ns_move rfl rfl ?_
  refine ns_idx j sl_100 rfl rfl rfl rfl rfl hj ?_
  refine ns_ldA [.int .i64 y.key, .int .i64 y.val] ag_45 rfl rfl rfl rfl (by decide) (it_cells hs htk j hy) ?_
  refine ns_call (f40_ok x y) ck_40 (hs.foc 1) rfl rfl rfl rfl ?_
  intro v12 w hs
  obtain ⟨hv, hs⟩ := hs.pure
  refine ns_asg rfl rfl ?_
  refine ns_done ?_
  refine WP_ret ?_
  have hs := (hs.foc (pts g (.cells cur 45 (0, 0)))).mk_arr' hc hcm hsz htk
  exact ⟨_, res1 _, St.mk_pu hv (hs.foc (FindP (.slice (some ⟨g, 0, none⟩) its.length cap) its x b3 b4 b5))⟩
theorem f92_ok (v : Value) (its : List It) (x : It) (b3 b4 b5 : Nat) (hS : Srt its) (hl : its.length < 1000000) :
    Tri Try.prog 92 #[.int .i64 its.length, .func (.func 93) #[] #[ptr b5, ptr b4, ptr b3]] (FindP v its x b3 b4 b5) fun r => pu (r = .int .i64 (ub its x.key)) * FindP v its x b3 b4 b5 := by
  intro w0 F w hs
  have hu := ub_le its x.key
  refine calls_WP 26 #[.tmp 4] Try.func92 rfl Try.ntmps92 rfl (Nat.le_of_ble_eq_true rfl) ?_
  refine WP_seq ?_
  -- R0
  refine WP_seqr [⟨0, 0, []⟩] (by kernel_rfl) ?_
  refine ns_asg rfl rfl ?_
  refine ns_done ?_
  refine WP_seq ?_
  -- R1
  refine WP_seqr [⟨0, 0, []⟩, ⟨1, 0, []⟩, ⟨2, 0, []⟩] (by kernel_rfl) ?_
  refine ns_move rfl rfl ?_
  refine ns_asg rfl rfl ?_
  refine ns_asg rfl rfl ?_
  refine ns_done ?_
  refine WP_seq_cut (fun σ w => σ 5 = .int .i64 (ub its x.key) ∧ St w0 (FindP v its x b3 b4 b5 * F) w) ?_ ?_ -- S1
  · refine WP_block ?_
    refine WP_loop (fun m σ w => ∃ i j : Nat, m = j - i ∧ i ≤ ub its x.key ∧ ub its x.key ≤ j ∧ j ≤ its.length ∧ σ 5 = .int .i64 i ∧ σ 6 = .int .i64 j ∧ σ 1 = .func (.func 93) #[] #[ptr b5, ptr b4, ptr b3] ∧ St w0 (FindP v its x b3 b4 b5 * F) w) its.length ?_ ?_ -- L1
    · exact ⟨0, its.length, by omega, by omega, by omega, by omega, rfl, rfl, rfl, hs⟩
    rintro m σ w ⟨i, j, rfl, h1, h2, h3, h5, h6, h7, hs⟩
    obtain ⟨σ, rfl⟩ := rebase h5
    obtain ⟨σ, rfl⟩ := rebase (σ := σ) h6
    obtain ⟨σ, rfl⟩ := rebase (σ := σ) h7
    clear h5 h6 h7
    refine WP_seq ?_ -- S2
    refine WP_seq ?_
    -- R2
    refine WP_seqr [⟨0, 0, []⟩, ⟨1, 0, []⟩, ⟨2, 0, []⟩] (by kernel_rfl) ?_
    refine ns_move rfl rfl ?_
    refine ns_move rfl rfl ?_
    refine ns_cmp _ rfl rfl rfl rfl rfl ?_
    refine ns_done ?_
    refine WP_if' rfl (fun hif1 => ?_) (fun hif1 => ?_)
    · refine WP_exit ?_
      have e : ub its x.key = i := by simp at hif1; omega
      exact ⟨congrArg (Value.int .i64) (congrArg Int.ofNat e.symm), hs⟩
    refine WP_skip ?_
    refine WP_block ?_
    refine WP_seq ?_
    have hij : i < j := by simpa using hif1
    obtain ⟨y, hy⟩ : ∃ y, its[(i + j) / 2]? = some y := ⟨its[(i + j) / 2]'(by omega), List.getElem?_eq_getElem (by omega)⟩
    have hul := ub_lt hS (k := x.key) hy
    -- R3
    refine WP_seqr [⟨0, 0, []⟩, ⟨1, 0, []⟩, ⟨2, 0, []⟩, ⟨3, 0, []⟩, ⟨4, 0, []⟩, ⟨5, 0, []⟩, ⟨6, 0, []⟩] (by kernel_rfl) ?_
    refine ns_move rfl rfl ?_
    refine ns_move rfl rfl ?_
    refine ns_add rfl rfl rfl rfl (by omega) (by omega) ?_
    refine ns_conv Try.underlying140 Try.underlying3 rfl rfl rfl (wrapU64_in (by omega) (by omega)) ?_
    refine ns_shr1 (((i + j) / 2 : Nat) : Int) rfl rfl rfl rfl (fdiv2 i j) ?_
    refine ns_conv Try.underlying3 Try.underlying140 rfl rfl rfl (wrap64_in (by omega) (by omega)) ?_
    refine ns_asg rfl rfl ?_
    refine ns_done ?_
    refine WP_seq ?_
    -- R4
    refine WP_seqr [⟨0, 0, []⟩, ⟨1, 0, []⟩, ⟨2, 2, []⟩, ⟨3, 0, []⟩] (by kernel_rfl) ?_
    refine ns_move rfl rfl ?_
    refine ns_move rfl rfl ?_
    refine ns_call (f93_ok v its x y b3 b4 b5 ((i + j) / 2) hy) ck_93 hs rfl rfl rfl rfl ?_
    intro v20 w hs
    replace hs := hs.pu
    obtain ⟨rfl, hs⟩ := hs
    refine ns_not rfl rfl rfl ?_
    refine ns_done ?_
    refine WP_if rfl (fun hif2 => ?_) (fun hif2 => ?_)
    · -- R5
      refine WP_seqr [⟨0, 0, []⟩, ⟨1, 0, []⟩, ⟨2, 0, []⟩] (by kernel_rfl) ?_
      refine ns_move rfl rfl ?_
      refine ns_add rfl rfl rfl rfl (by omega) (by omega) ?_
      refine ns_asg rfl rfl ?_
      refine ns_done ?_
      have hx : y.key ≤ x.key := by simpa using hif2
      exact ⟨j - ((i + j) / 2 + 1), by omega, (i + j) / 2 + 1, j, rfl, hul.1 hx, h2, h3, congrArg (Value.int .i64) (by omega), rfl, rfl, hs⟩
    -- R6
    refine WP_seqr [⟨0, 0, []⟩, ⟨1, 0, []⟩] (by kernel_rfl) ?_
    refine ns_move rfl rfl ?_
    refine ns_asg rfl rfl ?_
    refine ns_done ?_
    have hx : x.key < y.key := by simpa using hif2
    exact ⟨(i + j) / 2 - i, by omega, i, (i + j) / 2, rfl, h1, by omega, by omega, rfl, rfl, rfl, hs⟩
    
  rintro σ w ⟨h5, hs⟩
  obtain ⟨σ, rfl⟩ := rebase h5
  refine WP_seq ?_
  -- R7
  refine WP_seqr [⟨0, 0, []⟩, ⟨1, 0, []⟩] (by kernel_rfl) ?_
  refine ns_move rfl rfl ?_
  refine ns_asg rfl rfl ?_
  refine ns_done ?_
  refine WP_ret ?_
  exact ⟨_, res1 _, St.mk_pu rfl hs⟩
theorem f83_ok (v : Value) (its : List It) (x : It) (hS : Srt its) (hl : its.length < 1000000) :
    Tri Try.prog 83 #[v, itV x, lessV] (IArr v its) fun r => pu (r = .tuple #[.int .i64 (lb its x.key), .bool (fnd its x.key)]) * IArr v its := by
  intro w0 F w hs
  have hu := ub_le its x.key
  have hub := ub_eq hS x.key
  obtain ⟨a, c, rfl, hc, hcm⟩ := hs.arr_form
  refine calls_WP 29 #[.tmp 6, .tmp 7] Try.func83 rfl Try.ntmps83 rfl (Nat.le_of_ble_eq_true rfl) ?_
  refine WP_seq ?_
  -- R0
  refine WP_seqr [⟨0, 2, []⟩, ⟨1, 2, []⟩, ⟨2, 2, []⟩, ⟨3, 0, []⟩, ⟨4, 0, []⟩] (by kernel_rfl) ?_
  refine ns_box (#[.slice a its.length c]) hs rfl rfl rfl rfl ?_
  intro b3 w hs
  refine ns_box (#[.int .i64 x.key, .int .i64 x.val]) hs rfl rfl rfl rfl ?_
  intro b4 w hs
  refine ns_box (#[lessV]) hs rfl rfl rfl rfl ?_
  intro b5 w hs
  refine ns_asg rfl rfl ?_
  refine ns_asg rfl rfl ?_
  refine ns_done ?_
  refine WP_seq ?_
  -- R1
  refine WP_seqr [⟨0, 1, []⟩, ⟨1, 0, []⟩, ⟨2, 0, []⟩, ⟨3, 2, []⟩, ⟨4, 0, []⟩] (by kernel_rfl) ?_
  refine ns_ldB pl_100 hs rfl rfl rfl (by rfl) ?_
  refine ns_len sl_100 rfl rfl rfl ?_
  refine ns_fun' (#[]) (#[ptr b5, ptr b4, ptr b3]) rfl rfl rfl rfl ?_
  refine ns_call (f92_ok (.slice a its.length c) its x b3 b4 b5 hS hl) ck_92 (hs.foc (FindP (.slice a its.length c) its x b3 b4 b5)) rfl rfl rfl rfl ?_
  intro v12 w hs
  replace hs := hs.pu
  obtain ⟨rfl, hs⟩ := hs
  unfold FindP at hs
  simp only [mul_assoc'] at hs
  refine ns_asg rfl rfl ?_
  refine ns_done ?_
  refine WP_seq_cut (fun σ w => fnd its x.key = false ∧ σ 8 = .int .i64 (ub its x.key) ∧ St w0 (IArr (.slice a its.length c) its * F) w) ?_ ?_ -- S1
  · rcases Nat.eq_zero_or_pos (ub its x.key) with h0 | h0
    · refine WP_seq ?_
      -- R2
      refine WP_net hs mix [0, 1, 3, 7, 7, 7, 39, 119, 247, 7, 1023, 2047, 4095] [⟨0, 0, []⟩, ⟨1, 0, []⟩, ⟨2, 0, []⟩, ⟨3, 0, []⟩, ⟨4, 0, []⟩, ⟨5, 0, []⟩, ⟨6, 0, []⟩, ⟨7, 0, []⟩, ⟨8, 0, []⟩, ⟨9, 0, []⟩, ⟨10, 0, []⟩, ⟨11, 0, []⟩, ⟨12, 0, []⟩] (by kernel_rfl) ?_
      intro w hs
      refine ns_move rfl rfl ?_
      refine ns_cmp false rfl rfl rfl rfl (by simp [cmpI]; omega) ?_
      refine ns_move rfl rfl ?_
      refine ns_no rfl rfl ?_
      refine ns_no rfl rfl ?_
      refine ns_no rfl rfl ?_
      refine ns_no rfl rfl ?_
      refine ns_no rfl rfl ?_
      refine ns_no rfl rfl ?_
      refine ns_no rfl rfl ?_
      refine ns_no rfl rfl ?_
      refine ns_no rfl rfl ?_
      refine ns_pick rfl rfl rfl ?_
      refine ns_done ?_
      refine WP_false rfl ?_ -- if1
      refine WP_skip ?_
      refine ⟨?_, rfl, hs.foc (IArr (.slice a its.length c) its * F) |>.fst⟩
      cases hf : fnd its x.key
      · rfl
      · rw [hf] at hub; simp at hub; omega
    · refine WP_seq ?_
      obtain ⟨y, hy⟩ : ∃ y, its[ub its x.key - 1]? = some y := ⟨its[ub its x.key - 1]'(by omega), List.getElem?_eq_getElem (by omega)⟩
      have hle := (ub_lt hS (k := x.key) hy).2 (by omega)
      have hlb := lb_lt hS (k := x.key) hy
      have e1 : ((ub its x.key : Int) - 1) = ((ub its x.key - 1 : Nat) : Int) := by omega
      obtain ⟨_, h1, _⟩ | ⟨g, cap, cur, h1, h2, h3, hsz, htk, hs⟩ := (hs.foc (IArr (.slice a its.length c) its)).arr
      · omega
      cases h1
      -- R2
      refine WP_net hs mix [0, 1, 3, 7, 7, 7, 39, 119, 247, 7, 1023, 2047, 4095] [⟨0, 0, []⟩, ⟨1, 0, []⟩, ⟨2, 0, []⟩, ⟨3, 1, []⟩, ⟨4, 1, []⟩, ⟨5, 0, []⟩, ⟨6, 0, []⟩, ⟨7, 0, []⟩, ⟨8, 1, []⟩, ⟨9, 1, []⟩, ⟨10, 2, []⟩, ⟨11, 0, []⟩, ⟨12, 0, []⟩] (by kernel_rfl) ?_
      intro w hs
      refine ns_move rfl rfl ?_
      refine ns_cmp true rfl rfl rfl rfl (by simp [cmpI]; omega) ?_
      refine ns_move rfl rfl ?_
      refine ns_ldB pl_62 hs rfl rfl rfl (by rfl) ?_
      refine ns_ldB pl_100 hs rfl rfl rfl (by rfl) ?_
      refine ns_move rfl rfl ?_
      refine ns_sub rfl rfl rfl rfl (by omega) (by omega) ?_
      refine ns_idx (ub its x.key - 1) sl_100 rfl rfl rfl rfl e1 (by omega) ?_
      refine ns_ldA [.int .i64 y.key, .int .i64 y.val] ag_45 rfl rfl rfl rfl (by decide) (it_cells hs htk _ hy) ?_
      refine ns_ldAB _ ag_45 hs rfl rfl rfl (by rfl) (by rfl) (by decide) ?_
      refine ns_call (f40_ok y x) ck_40 (hs.foc 1) rfl rfl rfl rfl ?_
      intro v23 w hs
      replace hs := hs.pure
      obtain ⟨rfl, hs⟩ := hs
      refine ns_not rfl rfl rfl ?_
      refine ns_pick rfl rfl rfl ?_
      refine ns_done ?_
      have hs := (hs.foc (pts g (.cells cur 45 (0, 0)))).mk_arr' h2 h3 hsz htk
      refine WP_if rfl (fun hif1 => ?_) (fun hif1 => ?_)
      · refine WP_seq ?_
        -- R3
        refine WP_seqr [⟨0, 0, []⟩, ⟨1, 0, []⟩, ⟨2, 0, []⟩, ⟨3, 0, []⟩] (by kernel_rfl) ?_
        refine ns_move rfl rfl ?_
        refine ns_sub rfl rfl rfl rfl (by omega) (by omega) ?_
        refine ns_asg rfl rfl ?_
        refine ns_asg rfl rfl ?_
        refine ns_done ?_
        refine WP_ret ?_
        have hnl : ¬ y.key < x.key := by simpa [evS, updO, upd] using hif1
        have hf : fnd its x.key = true := by
          cases hf : fnd its x.key
          · rw [hf] at hub; simp at hub
            exact absurd (hlb.2 (by omega)) hnl
          · rfl
        rw [hf] at hub ⊢
        simp only [if_true] at hub
        refine ⟨_, res2 _ _, St.mk_pu ?_ (hs.foc (IArr (.slice (some ⟨g, 0, none⟩) its.length c) its * F)).fst⟩
        have e2 : ((ub its x.key : Int) - 1) = (lb its x.key : Int) := by omega
        exact congrArg (fun z : Int => Value.tuple #[.int .i64 z, .bool true]) e2
      refine WP_skip ?_
      have hnl : y.key < x.key := by simpa [evS, updO, upd] using hif1
      refine ⟨?_, rfl, (hs.foc (IArr (.slice (some ⟨g, 0, none⟩) its.length c) its * F)).fst⟩
      cases hf : fnd its x.key
      · rfl
      · rw [hf] at hub; simp at hub
        have := hlb.1 hnl
        omega
  rintro σ w ⟨hf, h8, hs⟩
  rw [hf] at hub
  simp only [Bool.false_eq_true, if_false] at hub
  obtain ⟨σ, rfl⟩ := rebase h8
  refine WP_seq ?_
  -- R4
  refine WP_seqr [⟨0, 0, []⟩, ⟨1, 0, []⟩, ⟨2, 0, []⟩] (by kernel_rfl) ?_
  refine ns_move rfl rfl ?_
  refine ns_asg rfl rfl ?_
  refine ns_asg rfl rfl ?_
  refine ns_done ?_
  refine WP_ret ?_
  rw [hf, ← hub]
  exact ⟨_, res2 _ _, St.mk_pu rfl hs⟩
end Go.Proofs.Ytnnembkganlbpaa
