/- The walks of splitting: a node is cut in two, a full child is split. -/
import Derived.Test.YtnnembkganlbpaaW4
namespace Go.Proofs.Ytnnembkganlbpaa
open Go Go.Sl Go.Net Go.Wk Go.Bt Go.RowKit

theorem IArr_eq {v : Value} {n : Nat} {xs : List Value} {l : List It} (h1 : n = l.length) (h2 : xs = encs l) : Arr 45 2 v n xs = IArr v l := by subst h1; subst h2; rfl
theorem splice2 (a b c d : Value) : splice #[a, b] 0 (#[c, d] : Array Value).toList = #[c, d] := rfl
theorem PArr_eq {v : Value} {n : Nat} {xs : List Value} {l : List Nat} (h1 : n = l.length) (h2 : xs = l.map ptr) : Arr 85 1 v n xs = PArr v l := by subst h1; subst h2; rfl
theorem f70_ok (c fl n i : Nat) (x : It) (its : List It) (bs : List Nat) (hx : its[i]? = some x) (hn : its.length < 1000000) (hb : bs.length ≠ 0 → i + 1 ≤ bs.length ∧ bs.length < 1000000) :
    Tri Try.prog 70 #[ptr n, .int .i64 i] (NodeP c n its bs * Ctx c fl) fun v => ex fun r : Nat => pu (v = .tuple #[itV x, ptr r]) * (NodeP c n (its.take i) (bs.take (i + 1)) * (NodeP c r (its.drop (i + 1)) (bs.drop (i + 1)) * Ctx c fl)) := by
  have hi : i < its.length := (List.getElem?_eq_some_iff.1 hx).1
  have hl := encs_len its
  intro w0 F w hs
  simp only [mul_assoc'] at hs
  obtain ⟨⟨v1, v2⟩, hs⟩ := hs.ex
  simp only [mul_assoc'] at hs
  obtain ⟨_, hz, _⟩ | ⟨g, cap, cur, hv, hc, hcm, hsz, htk, hs⟩ := (hs.foc (IArr (v1) (its))).arr
  · omega
  cases hv
  refine calls_WP 69 #[.cell 4 45, .tmp 5] Try.func70 rfl Try.ntmps70 rfl (Nat.le_of_ble_eq_true rfl) ?_
  refine WP_seq ?_
  -- R0
  refine WP_seqr [⟨0, 2, []⟩, ⟨1, 0, []⟩] (by kernel_rfl) ?_
  refine ns_alloc zc_45 hs rfl rfl ?_
  intro b4 w hs
  refine ns_asg rfl rfl ?_
  refine ns_done ?_
  refine WP_seq ?_
  -- R1
  refine WP_seqr [⟨0, 0, []⟩, ⟨1, 0, []⟩, ⟨2, 0, []⟩, ⟨3, 1, []⟩, ⟨4, 0, []⟩, ⟨5, 0, []⟩, ⟨6, 1, []⟩, ⟨7, 2, []⟩, ⟨8, 2, []⟩] (by kernel_rfl) ?_
  refine ns_move rfl rfl ?_
  refine ns_nil rfl rfl rfl ?_
  refine ns_fld fo_103_0 rfl rfl rfl ?_
  refine ns_ldB pl_100 hs rfl rfl rfl (by rfl) ?_
  refine ns_move rfl rfl ?_
  refine ns_idx i sl_100 rfl rfl rfl rfl rfl hi ?_
  refine ns_ldA [.int .i64 x.key, .int .i64 x.val] ag_45 rfl rfl rfl rfl (by decide) (it_cells hs htk i hx) ?_
  refine ns_alloc zc_45 hs rfl rfl ?_
  intro b6 w hs
  refine ns_stA (#[.int .i64 x.key, .int .i64 x.val]) ag_45 rfl (by decide) hs rfl rfl rfl rfl (by intro u hu; simp at hu; rcases hu with rfl | rfl <;> rfl) (by simp) ?_
  refine fun w hs => ⟨trivial, ?_⟩
  rw [splice2] at hs
  refine ns_done ?_
  refine WP_seq ?_
  -- R2
  refine WP_seqr [⟨0, 0, []⟩, ⟨1, 0, []⟩, ⟨2, 0, []⟩, ⟨3, 1, []⟩, ⟨4, 2, []⟩, ⟨5, 0, []⟩] (by kernel_rfl) ?_
  refine ns_move rfl rfl ?_
  refine ns_nil rfl rfl rfl ?_
  refine ns_fld fo_103_2 rfl rfl rfl ?_
  refine ns_ldB pl_82 hs rfl rfl rfl (by rfl) ?_
  refine ns_call (f67_ok c fl) ck_67 (hs.foc (Ctx c fl)) rfl rfl rfl rfl ?_
  intro v19 w hs
  replace hs := hs.ex
  obtain ⟨r, hs⟩ := hs
  replace hs := hs.pu
  obtain ⟨rfl, hs⟩ := hs
  simp only [mul_assoc'] at hs
  obtain ⟨⟨u1, u2⟩, hs⟩ := (hs.foc (NodeP c r ([]) ([]))).ex
  simp only [mul_assoc'] at hs
  refine ns_asg rfl rfl ?_
  refine ns_done ?_
  refine WP_seq ?_
  -- R3
  refine WP_net hs mix [0, 0, 2, 6, 14, 0, 32, 96, 224, 0, 512, 2016, 4094, 8191, 16383, 32767] [⟨0, 0, []⟩, ⟨1, 0, []⟩, ⟨2, 0, []⟩, ⟨3, 0, []⟩, ⟨4, 1, []⟩, ⟨5, 0, []⟩, ⟨6, 0, []⟩, ⟨7, 0, []⟩, ⟨8, 1, []⟩, ⟨9, 0, []⟩, ⟨10, 0, []⟩, ⟨11, 0, []⟩, ⟨12, 2, []⟩, ⟨13, 0, []⟩, ⟨14, 0, []⟩, ⟨15, 2, []⟩] (by kernel_rfl) ?_
  intro w hs
  refine ns_move rfl rfl ?_
  refine ns_move rfl rfl ?_
  refine ns_nil rfl rfl rfl ?_
  refine ns_fld fo_103_0 rfl rfl rfl ?_
  refine ns_ldB pl_100 hs rfl rfl rfl (by rfl) ?_
  refine ns_move rfl rfl ?_
  refine ns_nil rfl rfl rfl ?_
  refine ns_fld fo_103_0 rfl rfl rfl ?_
  refine ns_ldB pl_100 hs rfl rfl rfl (by rfl) ?_
  refine ns_move rfl rfl ?_
  refine ns_add rfl rfl rfl rfl (by omega) (by omega) ?_
  refine ns_sliceLo' (i + 1) sl_100 rfl rfl rfl rfl (by omega) (by omega) ?_
  refine ns_app ((encs its).drop ((i + 1) * 2)) sl_100 zr_45 by_45 rfl (by decide) (hs.foc (IArr u1 [])) rfl rfl rfl rfl (by rw [List.length_drop, hl]; omega) (drop_cells hs htk (by omega) (i + 1)) (fun u hu => encs_one its u (List.mem_of_mem_drop hu)) (by simp only [maxLen, List.length_nil]; omega) (by simp only [List.length_nil]; omega) ?_
  refine fun v32 w hs hv => ⟨trivial, ?_⟩
  have hs := hs.up (Ent.of_eq (IArr_eq (l := its.drop (i + 1)) (by simp) (by rw [encs_drop]; simp [encs])))
  obtain ⟨a5, c5, rfl, _, _⟩ := hs.arr_form
  refine ns_nil rfl rfl rfl ?_
  refine ns_fld fo_103_0 rfl rfl rfl ?_
  refine ns_st (.slice a5 (its.drop (i + 1)).length c5) pl_100 hs rfl rfl rfl rfl rfl (by simp) ?_
  refine fun w hs => ⟨trivial, ?_⟩
  try simp only [Nat.zero_add] at hs
  try simp only [List.setIfInBounds_toArray] at hs
  try simp only [List.set_cons_succ] at hs
  try simp only [List.set_cons_zero] at hs
  refine ns_done ?_
  have hs := hs.fold (node_fold c r (.slice a5 (its.drop (i + 1)).length c5) u2 (its.drop (i + 1)) [])
  have hs := (hs.foc (pts g (.cells cur 45 (0, 0)))).mk_arr' hc hcm hsz htk
  have hs := hs.fold (node_fold c n (.slice (some ⟨g, 0, none⟩) its.length cap) v2 its bs)
  refine WP_seq ?_
  -- R4
  refine WP_seqr [⟨0, 0, []⟩, ⟨1, 0, []⟩, ⟨2, 0, []⟩, ⟨3, 0, []⟩, ⟨4, 2, []⟩] (by kernel_rfl) ?_
  refine ns_move rfl rfl ?_
  refine ns_nil rfl rfl rfl ?_
  refine ns_fld fo_103_0 rfl rfl rfl ?_
  refine ns_move rfl rfl ?_
  refine ns_call (f81_ok c n i its bs (by omega)) ck_81 (hs.foc (NodeP c n its bs)) rfl rfl rfl rfl ?_
  intro v39 w hs
  refine ns_done ?_
  obtain ⟨⟨w1, w2⟩, hs⟩ := (hs.foc (NodeP c n (its.take i) (bs))).ex
  simp only [mul_assoc'] at hs
  obtain ⟨a2, c2, rfl, hc2, hcm2⟩ := (hs.foc (PArr w2 bs)).arr_form
  refine WP_seq_cut (fun σ w => σ 6 = .pointer (some ⟨b6, 0, none⟩) ∧ σ 4 = .pointer (some ⟨b4, 0, none⟩) ∧ σ 7 = ptr r ∧ St w0 (pts b6 (.cells #[.int .i64 x.key, .int .i64 x.val] 45 (0, 0)) * (pts b4 (.cells #[.int .i64 0, .int .i64 0] 45 (0, 0)) * (NodeP c n (its.take i) (bs.take (i + 1)) * (NodeP c r (its.drop (i + 1)) (bs.drop (i + 1)) * (Ctx c fl * F))))) w) ?_ ?_ -- S1
  · refine WP_seq ?_
    -- R5
    refine WP_seqr [⟨0, 0, []⟩, ⟨1, 0, []⟩, ⟨2, 0, []⟩, ⟨3, 1, []⟩, ⟨4, 0, []⟩, ⟨5, 0, []⟩] (by kernel_rfl) ?_
    refine ns_move rfl rfl ?_
    refine ns_nil rfl rfl rfl ?_
    refine ns_fld fo_103_1 rfl rfl rfl ?_
    refine ns_ldB pl_101 hs rfl rfl rfl (by rfl) ?_
    refine ns_len sl_101 rfl rfl rfl ?_
    refine ns_cmp _ rfl rfl rfl rfl rfl ?_
    refine ns_done ?_
    refine WP_if rfl (fun hif1 => ?_) (fun hif1 => ?_)
    · refine WP_seq ?_
      have hb0 : bs.length ≠ 0 := by simp at hif1; omega
      have hb1 := hb hb0
      obtain ⟨_, hz3, _⟩ | ⟨g3, cap3, cur3, hv3, hc3, hcm3, hsz3, htk3, hs⟩ := (hs.foc (PArr (.slice a2 bs.length c2) (bs))).arr
      · omega
      cases hv3
      obtain ⟨⟨u3, u4⟩, hs⟩ := (hs.foc (NodeP c r (its.drop (i + 1)) ([]))).ex
      simp only [mul_assoc'] at hs
      -- R6
      refine WP_net hs mix [0, 0, 2, 6, 14, 0, 32, 96, 224, 0, 512, 2016, 4094, 8191, 16383, 32767] [⟨0, 0, []⟩, ⟨1, 0, []⟩, ⟨2, 0, []⟩, ⟨3, 0, []⟩, ⟨4, 1, []⟩, ⟨5, 0, []⟩, ⟨6, 0, []⟩, ⟨7, 0, []⟩, ⟨8, 1, []⟩, ⟨9, 0, []⟩, ⟨10, 0, []⟩, ⟨11, 0, []⟩, ⟨12, 2, []⟩, ⟨13, 0, []⟩, ⟨14, 0, []⟩, ⟨15, 2, []⟩] (by kernel_rfl) ?_
      intro w hs
      refine ns_move rfl rfl ?_
      refine ns_move rfl rfl ?_
      refine ns_nil rfl rfl rfl ?_
      refine ns_fld fo_103_1 rfl rfl rfl ?_
      refine ns_ldB pl_101 hs rfl rfl rfl (by rfl) ?_
      refine ns_move rfl rfl ?_
      refine ns_nil rfl rfl rfl ?_
      refine ns_fld fo_103_1 rfl rfl rfl ?_
      refine ns_ldB pl_101 hs rfl rfl rfl (by rfl) ?_
      refine ns_move rfl rfl ?_
      refine ns_add rfl rfl rfl rfl (by omega) (by omega) ?_
      refine ns_sliceLo' (i + 1) sl_101 rfl rfl rfl rfl (by omega) (by omega) ?_
      refine ns_app ((bs.map ptr).drop ((i + 1) * 1)) sl_101 zr_85 by_85 rfl (by decide) (hs.foc (PArr u4 [])) rfl rfl rfl rfl (by rw [List.length_drop, List.length_map]; omega) (drop_cells hs htk3 (by rw [List.length_map]; omega) (i + 1)) (fun u hu => ptrs_one bs u (List.mem_of_mem_drop hu)) (by simp only [maxLen, List.length_nil]; omega) (by simp only [List.length_nil]; omega) ?_
      refine fun v58 w hs hv => ⟨trivial, ?_⟩
      have hs := hs.up (Ent.of_eq (PArr_eq (l := bs.drop (i + 1)) (by simp) (by simp)))
      obtain ⟨a6, c6, rfl, _, _⟩ := hs.arr_form
      refine ns_nil rfl rfl rfl ?_
      refine ns_fld fo_103_1 rfl rfl rfl ?_
      refine ns_st (.slice a6 (bs.drop (i + 1)).length c6) pl_101 hs rfl rfl rfl rfl rfl (by simp) ?_
      refine fun w hs => ⟨trivial, ?_⟩
      try simp only [Nat.zero_add] at hs
      try simp only [List.setIfInBounds_toArray] at hs
      try simp only [List.set_cons_succ] at hs
      try simp only [List.set_cons_zero] at hs
      refine ns_done ?_
      have hs := hs.fold (node_fold c r u3 (.slice a6 (bs.drop (i + 1)).length c6) (its.drop (i + 1)) (bs.drop (i + 1)))
      have hs := (hs.foc (pts g3 (.cells cur3 85 (0, 0)))).mk_arr' hc3 hcm3 hsz3 htk3
      have hs := hs.fold (node_fold c n w1 (.slice (some ⟨g3, 0, none⟩) bs.length c2) (its.take i) bs)
      -- R7
      refine WP_seqr [⟨0, 0, []⟩, ⟨1, 0, []⟩, ⟨2, 0, []⟩, ⟨3, 0, []⟩, ⟨4, 0, []⟩, ⟨5, 2, []⟩] (by kernel_rfl) ?_
      refine ns_move rfl rfl ?_
      refine ns_nil rfl rfl rfl ?_
      refine ns_fld fo_103_1 rfl rfl rfl ?_
      refine ns_move rfl rfl ?_
      refine ns_add rfl rfl rfl rfl (by omega) (by omega) ?_
      refine ns_call (f82_ok c n (i + 1) (its.take i) bs (by omega)) ck_82 (hs.foc (NodeP c n (its.take i) bs)) rfl rfl rfl rfl ?_
      intro v66 w hs
      refine ns_done ?_
      exact ⟨rfl, rfl, rfl, hs.out⟩
    refine WP_skip ?_
    have hb0 : bs = [] := List.eq_nil_of_length_eq_zero (by simp at hif1; simpa using hif1)
    subst hb0
    have hs := hs.fold (node_fold c n w1 (.slice a2 ([] : List Nat).length c2) (its.take i) [])
    refine ⟨rfl, rfl, rfl, ?_⟩
    rw [List.take_nil, List.drop_nil]
    exact hs.out
  rintro σ w ⟨h6, h4, h7, hs⟩
  obtain ⟨σ, rfl⟩ := rebase h6
  obtain ⟨σ, rfl⟩ := rebase (σ := σ) h4
  obtain ⟨σ, rfl⟩ := rebase (σ := σ) h7
  refine WP_seq ?_
  -- R8
  refine WP_seqr [⟨0, 1, []⟩, ⟨1, 0, []⟩, ⟨2, 2, []⟩, ⟨3, 0, []⟩] (by kernel_rfl) ?_
  refine ns_ldAB _ ag_45 hs rfl rfl rfl (by rfl) (by rfl) (by decide) ?_
  refine ns_move rfl rfl ?_
  refine ns_stA (#[.int .i64 x.key, .int .i64 x.val]) ag_45 rfl (by decide) hs rfl rfl rfl rfl (by intro u hu; simp at hu; rcases hu with rfl | rfl <;> rfl) (by simp) ?_
  refine fun w hs => ⟨trivial, ?_⟩
  refine ns_asg rfl rfl ?_
  refine ns_done ?_
  refine WP_ret ?_
  have hload := run_loadVarA (P := Try.prog) (t := 45) (n := 2) (ad := ⟨b4, 0, none⟩) (vs := [.int .i64 x.key, .int .i64 x.val]) ag_45 rfl (by decide) w (St.cells (n := 2) hs (by rfl))
  exact ⟨_, resCT 4 45 5 rfl hload, St.mk_ex r (St.mk_pu rfl hs.out)⟩
theorem f85_no (c n i x mx : Nat) (its its' : List It) (bs bs' : List Nat) (hx : bs[i]? = some x) (hm : its'.length < mx) :
    Tri Try.prog 85 #[ptr n, .int .i64 i, .int .i64 mx] (NodeP c n its bs * NodeP c x its' bs') fun v => pu (v = .bool false) * (NodeP c n its bs * NodeP c x its' bs') := by
  have hi : i < bs.length := (List.getElem?_eq_some_iff.1 hx).1
  intro w0 F w hs
  simp only [mul_assoc'] at hs
  obtain ⟨⟨v1, v2⟩, hs⟩ := hs.ex
  simp only [mul_assoc'] at hs
  obtain ⟨_, hz, _⟩ | ⟨g, cap, cur, hv, hc, hcm, hsz, htk, hs⟩ := (hs.foc (PArr (v2) (bs))).arr
  · omega
  cases hv
  obtain ⟨⟨u1, u2⟩, hs⟩ := (hs.foc (NodeP c x (its') (bs'))).ex
  simp only [mul_assoc'] at hs
  obtain ⟨a2, c2, rfl, hc2, hcm2⟩ := (hs.foc (IArr u1 its')).arr_form
  refine calls_WP 46 #[.tmp 6] Try.func85 rfl Try.ntmps85 rfl (Nat.le_of_ble_eq_true rfl) ?_
  refine WP_seq ?_
  -- R0
  refine WP_seqr [⟨0, 0, []⟩] (by kernel_rfl) ?_
  refine ns_asg rfl rfl ?_
  refine ns_done ?_
  refine WP_seq ?_ -- S1
  refine WP_seq ?_
  -- R1
  refine WP_seqr [⟨0, 0, []⟩, ⟨1, 0, []⟩, ⟨2, 0, []⟩, ⟨3, 1, []⟩, ⟨4, 0, []⟩, ⟨5, 0, []⟩, ⟨6, 1, []⟩, ⟨7, 0, []⟩, ⟨8, 0, []⟩, ⟨9, 1, []⟩, ⟨10, 0, []⟩, ⟨11, 0, []⟩, ⟨12, 0, []⟩] (by kernel_rfl) ?_
  refine ns_move rfl rfl ?_
  refine ns_nil rfl rfl rfl ?_
  refine ns_fld fo_103_1 rfl rfl rfl ?_
  refine ns_ldB pl_101 hs rfl rfl rfl (by rfl) ?_
  refine ns_move rfl rfl ?_
  refine ns_idx i sl_101 rfl rfl rfl rfl rfl hi ?_
  refine ns_ld pl_85 rfl rfl rfl (ptr_cell hs htk i hx) ?_
  refine ns_nil rfl rfl rfl ?_
  refine ns_fld fo_103_0 rfl rfl rfl ?_
  refine ns_ldB pl_100 hs rfl rfl rfl (by rfl) ?_
  refine ns_len sl_100 rfl rfl rfl ?_
  refine ns_move rfl rfl ?_
  refine ns_cmp true rfl rfl rfl rfl (by simp [cmpI]; omega) ?_
  refine ns_done ?_
  refine WP_true rfl ?_ -- if1
  refine WP_seq ?_
  -- R2
  refine WP_seqr [⟨0, 0, []⟩] (by kernel_rfl) ?_
  refine ns_asg rfl rfl ?_
  refine ns_done ?_
  refine WP_ret ?_
  have hs := (hs.foc (pts g (.cells cur 85 (0, 0)))).mk_arr' hc hcm hsz htk
  have hs := hs.fold (node_fold c x (.slice a2 its'.length c2) u2 its' bs')
  have hs := hs.fold (node_fold c n v1 (.slice (some ⟨g, 0, none⟩) bs.length cap) its bs)
  exact ⟨_, res1 _, St.mk_pu rfl (hs.foc (NodeP c n its bs * NodeP c x its' bs'))⟩
theorem f85_yes (c fl n i x mx : Nat) (y : It) (its its' : List It) (bs bs' : List Nat) (hx : bs[i]? = some x) (hm : mx ≤ its'.length) (hy : its'[mx / 2]? = some y) (hi2 : i ≤ its.length) (hn : its.length < 100000) (hn2 : bs.length < 100000) (hn3 : its'.length < 100000) (hb : bs'.length ≠ 0 → mx / 2 + 1 ≤ bs'.length ∧ bs'.length < 1000000) :
    Tri Try.prog 85 #[ptr n, .int .i64 i, .int .i64 mx] (NodeP c n its bs * (NodeP c x its' bs' * Ctx c fl)) fun v => ex fun r : Nat => pu (v = .bool true) * (NodeP c n (its.insertIdx i y) (bs.insertIdx (i + 1) r) * (NodeP c x (its'.take (mx / 2)) (bs'.take (mx / 2 + 1)) * (NodeP c r (its'.drop (mx / 2 + 1)) (bs'.drop (mx / 2 + 1)) * Ctx c fl))) := by
  have hi : i < bs.length := (List.getElem?_eq_some_iff.1 hx).1
  intro w0 F w hs
  simp only [mul_assoc'] at hs
  obtain ⟨⟨v1, v2⟩, hs⟩ := hs.ex
  simp only [mul_assoc'] at hs
  obtain ⟨_, hz, _⟩ | ⟨g, cap, cur, hv, hc, hcm, hsz, htk, hs⟩ := (hs.foc (PArr (v2) (bs))).arr
  · omega
  cases hv
  obtain ⟨⟨u1, u2⟩, hs⟩ := (hs.foc (NodeP c x (its') (bs'))).ex
  simp only [mul_assoc'] at hs
  obtain ⟨a2, c2, rfl, hc2, hcm2⟩ := (hs.foc (IArr u1 its')).arr_form
  refine calls_WP 46 #[.tmp 6] Try.func85 rfl Try.ntmps85 rfl (Nat.le_of_ble_eq_true rfl) ?_
  refine WP_seq ?_
  -- R0
  refine WP_seqr [⟨0, 0, []⟩] (by kernel_rfl) ?_
  refine ns_asg rfl rfl ?_
  refine ns_done ?_
  refine WP_seq ?_ -- S1
  refine WP_seq ?_
  -- R1
  refine WP_seqr [⟨0, 0, []⟩, ⟨1, 0, []⟩, ⟨2, 0, []⟩, ⟨3, 1, []⟩, ⟨4, 0, []⟩, ⟨5, 0, []⟩, ⟨6, 1, []⟩, ⟨7, 0, []⟩, ⟨8, 0, []⟩, ⟨9, 1, []⟩, ⟨10, 0, []⟩, ⟨11, 0, []⟩, ⟨12, 0, []⟩] (by kernel_rfl) ?_
  refine ns_move rfl rfl ?_
  refine ns_nil rfl rfl rfl ?_
  refine ns_fld fo_103_1 rfl rfl rfl ?_
  refine ns_ldB pl_101 hs rfl rfl rfl (by rfl) ?_
  refine ns_move rfl rfl ?_
  refine ns_idx i sl_101 rfl rfl rfl rfl rfl hi ?_
  refine ns_ld pl_85 rfl rfl rfl (ptr_cell hs htk i hx) ?_
  refine ns_nil rfl rfl rfl ?_
  refine ns_fld fo_103_0 rfl rfl rfl ?_
  refine ns_ldB pl_100 hs rfl rfl rfl (by rfl) ?_
  refine ns_len sl_100 rfl rfl rfl ?_
  refine ns_move rfl rfl ?_
  refine ns_cmp false rfl rfl rfl rfl (by simp [cmpI]; omega) ?_
  refine ns_done ?_
  refine WP_false rfl ?_ -- if1
  refine WP_skip ?_
  refine WP_seq ?_
  have hs := (hs.foc (pts g (.cells cur 85 (0, 0)))).mk_arr' hc hcm hsz htk
  have hs := hs.fold (node_fold c x (.slice a2 its'.length c2) u2 its' bs')
  have hs := hs.fold (node_fold c n v1 (.slice (some ⟨g, 0, none⟩) bs.length cap) its bs)
  -- R3
  refine WP_seqr [⟨0, 0, []⟩, ⟨1, 0, []⟩, ⟨2, 2, []⟩, ⟨3, 0, []⟩] (by kernel_rfl) ?_
  refine ns_move rfl rfl ?_
  refine ns_move rfl rfl ?_
  refine ns_call (f86_ok c n i x its its' bs bs' hx) ck_86 (hs.foc (NodeP c n its bs * NodeP c x its' bs')) rfl rfl rfl rfl ?_
  intro v25 w hs
  replace hs := hs.pu
  obtain ⟨rfl, hs⟩ := hs
  simp only [mul_assoc'] at hs
  refine ns_asg rfl rfl ?_
  refine ns_done ?_
  refine WP_seq ?_
  -- R4
  refine WP_seqr [⟨0, 0, []⟩, ⟨1, 0, []⟩, ⟨2, 0, []⟩, ⟨3, 2, []⟩, ⟨4, 0, []⟩, ⟨5, 0, []⟩, ⟨6, 0, []⟩, ⟨7, 2, []⟩, ⟨8, 2, []⟩, ⟨9, 0, []⟩] (by kernel_rfl) ?_
  refine ns_move rfl rfl ?_
  refine ns_move rfl rfl ?_
  refine ns_quo rfl rfl rfl rfl (by decide) (by show _ ≤ ((mx / 2 : Nat) : Int); omega) (by show ((mx / 2 : Nat) : Int) ≤ _; omega) ?_
  refine ns_call (f70_ok c fl x (mx / 2) y its' bs' hy (by omega) hb) ck_70 (hs.foc (NodeP c x its' bs' * Ctx c fl)) rfl rfl rfl rfl ?_
  intro v30 w hs
  replace hs := hs.ex
  obtain ⟨r, hs⟩ := hs
  replace hs := hs.pu
  obtain ⟨rfl, hs⟩ := hs
  simp only [mul_assoc'] at hs
  refine ns_move rfl rfl ?_
  refine ns_ext rfl rfl rfl rfl ?_
  refine ns_ext rfl rfl rfl rfl ?_
  refine ns_alloc zc_45 hs rfl rfl ?_
  intro b8 w hs
  refine ns_stA (#[.int .i64 y.key, .int .i64 y.val]) ag_45 rfl (by decide) hs rfl rfl rfl rfl (by intro u hu; simp at hu; rcases hu with rfl | rfl <;> rfl) (by simp) ?_
  refine fun w hs => ⟨trivial, ?_⟩
  refine ns_asg rfl rfl ?_
  refine ns_done ?_
  refine WP_seq ?_
  -- R5
  refine WP_net hs mix [0, 1, 3, 0, 0, 31] [⟨0, 0, []⟩, ⟨1, 0, []⟩, ⟨2, 0, []⟩, ⟨3, 0, []⟩, ⟨4, 1, []⟩, ⟨5, 2, []⟩] (by kernel_rfl) ?_
  intro w hs
  refine ns_move rfl rfl ?_
  refine ns_nil rfl rfl rfl ?_
  refine ns_fld fo_103_0 rfl rfl rfl ?_
  refine ns_move rfl rfl ?_
  refine ns_ldAB _ ag_45 hs rfl rfl rfl (by rfl) (by rfl) (by decide) ?_
  refine ns_call (f84_ok c n i y its bs hi2 (by omega)) ck_84 (hs.foc (NodeP c n its bs)) rfl rfl rfl rfl ?_
  intro v38 w hs
  refine ns_done ?_
  refine WP_seq ?_
  -- R6
  refine WP_seqr [⟨0, 0, []⟩, ⟨1, 0, []⟩, ⟨2, 0, []⟩, ⟨3, 0, []⟩, ⟨4, 0, []⟩, ⟨5, 0, []⟩, ⟨6, 2, []⟩] (by kernel_rfl) ?_
  refine ns_move rfl rfl ?_
  refine ns_nil rfl rfl rfl ?_
  refine ns_fld fo_103_1 rfl rfl rfl ?_
  refine ns_move rfl rfl ?_
  refine ns_add rfl rfl rfl rfl (by omega) (by omega) ?_
  refine ns_move rfl rfl ?_
  refine ns_call (f94_ok c n (i + 1) r (its.insertIdx i y) bs (by omega) (by omega)) ck_94 (hs.foc (NodeP c n (its.insertIdx i y) bs)) rfl rfl rfl rfl ?_
  intro v45 w hs
  refine ns_done ?_
  refine WP_seq ?_
  -- R7
  refine WP_seqr [⟨0, 0, []⟩] (by kernel_rfl) ?_
  refine ns_asg rfl rfl ?_
  refine ns_done ?_
  refine WP_ret ?_
  exact ⟨_, res1 _, St.mk_ex r (St.mk_pu rfl hs.out)⟩
end Go.Proofs.Ytnnembkganlbpaa
