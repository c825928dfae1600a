/- The walks of the nodes' coming and going: the free list takes one, the context makes one and takes one back; a node of its own, a child of its own; the bounds. -/
import Derived.Test.YtnnembkganlbpaaW2
import Derived.Test.YtnnembkganlbpaaRn
namespace Go.Proofs.Ytnnembkganlbpaa
open Go Go.Sl Go.Net Go.Wk Go.Bt Go.RowKit

theorem ctx_fold (c fl : Nat) : Ent (pts c (.cells #[ptr fl, lessV] 84 (0, 0)) * FLP fl) (Ctx c fl) := Ent.refl _
theorem f98_ok (fl n : Nat) : Tri Try.prog 98 #[ptr fl, ptr n] (FreeP n * FLP fl) fun v => ex fun t : Bool => pu (v = .bool t) * FLP fl := by
  intro w0 F w hs
  simp only [mul_assoc'] at hs
  obtain ⟨⟨vf, free⟩, hs⟩ := (hs.foc (FLP fl)).ex
  simp only [mul_assoc'] at hs
  obtain ⟨a, c, rfl, hc, hcm⟩ := (hs.foc (PArr vf free)).arr_form
  have hm := hcm
  simp only [maxLen] at hm
  refine calls_WP 34 #[.tmp 4] Try.func98 rfl Try.ntmps98 rfl (Nat.le_of_ble_eq_true rfl) ?_
  refine WP_seq ?_
  -- R0
  refine WP_seqr [⟨0, 0, []⟩] (by kernel_rfl) ?_
  refine ns_asg rfl rfl ?_
  refine ns_done ?_
  refine WP_seq ?_
  -- R1
  refine WP_seqr [⟨0, 0, []⟩, ⟨1, 0, []⟩, ⟨2, 0, []⟩, ⟨3, 2, []⟩] (by kernel_rfl) ?_
  refine ns_move rfl rfl ?_
  refine ns_nil rfl rfl rfl ?_
  refine ns_fld fo_81_0 rfl rfl rfl ?_
  refine ns_call (lock_ok fl _ _) ck_90 hs rfl rfl rfl rfl ?_
  intro v8 w hs
  refine ns_done ?_
  refine WP_seq_cut (fun σ w => ∃ (t : Bool) (v : Value) (l : List Nat), σ 0 = ptr fl ∧ σ 4 = .bool t ∧ St w0 (pts fl (.cells #[.int .i32 1, .int .u32 0, v] 81 (0, 0)) * (PArr v l * (stars (l.map FreeP) * F))) w) ?_ ?_ -- S1
  · refine WP_seq ?_
    -- R2
    refine WP_net hs mix [0, 1, 3, 7, 15, 0, 32, 96, 224, 480, 1023] [⟨0, 0, []⟩, ⟨1, 0, []⟩, ⟨2, 0, []⟩, ⟨3, 1, []⟩, ⟨4, 0, []⟩, ⟨5, 0, []⟩, ⟨6, 0, []⟩, ⟨7, 0, []⟩, ⟨8, 1, []⟩, ⟨9, 0, []⟩, ⟨10, 0, []⟩] (by kernel_rfl) ?_
    intro w hs
    refine ns_move rfl rfl ?_
    refine ns_nil rfl rfl rfl ?_
    refine ns_fld fo_81_1 rfl rfl rfl ?_
    refine ns_ldB pl_72 hs rfl rfl rfl (by rfl) ?_
    refine ns_len sl_72 rfl rfl rfl ?_
    refine ns_move rfl rfl ?_
    refine ns_nil rfl rfl rfl ?_
    refine ns_fld fo_81_1 rfl rfl rfl ?_
    refine ns_ldB pl_72 hs rfl rfl rfl (by rfl) ?_
    refine ns_cap sl_72 rfl rfl rfl ?_
    refine ns_cmp _ rfl rfl rfl rfl rfl ?_
    refine ns_done ?_
    refine WP_if rfl (fun hif1 => ?_) (fun hif1 => ?_)
    · refine WP_seq ?_
      have hlt : free.length < c := by simpa using hif1
      obtain ⟨h0, _⟩ | ⟨g, cap, cur, h0, h1, h2, h3, h4, hs⟩ := (hs.foc (PArr (.slice a free.length c) free)).arr
      · simp at h0; omega
      cases h0
      -- R3
      refine WP_seqr [⟨0, 0, []⟩, ⟨1, 0, []⟩, ⟨2, 0, []⟩, ⟨3, 0, []⟩, ⟨4, 1, []⟩, ⟨5, 0, []⟩, ⟨6, 2, []⟩, ⟨7, 2, []⟩, ⟨8, 0, []⟩, ⟨9, 0, []⟩, ⟨10, 2, []⟩] (by kernel_rfl) ?_
      refine ns_move rfl rfl ?_
      refine ns_move rfl rfl ?_
      refine ns_nil rfl rfl rfl ?_
      refine ns_fld fo_81_1 rfl rfl rfl ?_
      refine ns_ldB pl_72 hs rfl rfl rfl (by rfl) ?_
      refine ns_move rfl rfl ?_
      refine ns_lit [ptr n] [ptr n] sl_72 zr_85 (by decide) (by decide) hs rfl rfl rfl rfl (by simp [Value.cells, ptr]) rfl ?_
      refine fun b26 w hs hx => ⟨trivial, ?_⟩
      refine ns_appR [ptr n] sl_72 (hs.foc (pts g (.cells cur 85 (0, 0)))) rfl rfl rfl rfl rfl (St.cells (n := 1) hs (by rfl)) (by intro u hu; simp at hu; subst hu; rfl) (by omega) (by rw [h3]; simp; omega) ?_
      refine fun w hs => ⟨trivial, ?_⟩
      refine ns_nil rfl rfl rfl ?_
      refine ns_fld fo_81_1 rfl rfl rfl ?_
      refine ns_st (.slice (some ⟨g, 0, none⟩) (free.length + 1) c) pl_72 hs rfl rfl rfl rfl rfl (by simp) ?_
      refine fun w hs => ⟨trivial, ?_⟩
      try simp only [Nat.zero_add] at hs
      try simp only [List.setIfInBounds_toArray] at hs
      try simp only [List.set_cons_succ] at hs
      try simp only [List.set_cons_zero] at hs
      refine ns_done ?_
      -- R4
      refine WP_seqr [⟨0, 0, []⟩] (by kernel_rfl) ?_
      refine ns_asg rfl rfl ?_
      refine ns_done ?_
      have htk : (splice cur (free.length * 1) [ptr n]).toList.take ((free.length + 1) * 1) = (free ++ [n]).map ptr := by
        apply List.ext_getElem?
        intro j
        rw [List.getElem?_take]
        by_cases hj : j < (free.length + 1) * 1
        · rw [if_pos hj, splice_get (by rw [h3]; simp; omega), List.map_append]
          by_cases hj2 : j < free.length * 1
          · rw [if_pos hj2, take_get h4 j hj2, List.getElem?_append_left (by simpa using hj2)]
          · have e : j = free.length := by omega
            subst e
            simp
        · rw [if_neg hj, List.getElem?_eq_none]
          simp; omega
      have hs := (hs.foc (pts g (.cells (splice cur (free.length * 1) [ptr n]) 85 (0, 0)))).mk_arr' (cap := c) (by omega) h2 (by rw [splice_size (by rw [h3]; simp; omega), h3]) htk
      have el : free.length + 1 = (free ++ [n]).length := by simp
      rw [el] at hs
      refine ⟨true, .slice (some ⟨g, 0, none⟩) (free ++ [n]).length c, free ++ [n], rfl, rfl, St.eq (hs.foc (pts fl (.cells #[.int .i32 1, .int .u32 0, .slice (some ⟨g, 0, none⟩) (free ++ [n]).length c] 81 (0, 0)) * (PArr (.slice (some ⟨g, 0, none⟩) (free ++ [n]).length c) (free ++ [n]) * (stars (free.map FreeP) * (FreeP n * F))))).fst ?_⟩
      rw [List.map_append, stars_append]
      simp only [List.map_cons, List.map_nil, stars_cons, stars_nil, mul_one', mul_assoc']
    refine WP_skip ?_
    exact ⟨false, _, free, rfl, rfl, (hs.foc (FreeP n)).drop⟩
  rintro σ w ⟨t, v, l, h0, h4, hs⟩
  obtain ⟨σ, rfl⟩ := rebase h0
  obtain ⟨σ, rfl⟩ := rebase (σ := σ) h4
  refine WP_seq ?_
  -- R5
  refine WP_seqr [⟨0, 0, []⟩, ⟨1, 0, []⟩, ⟨2, 0, []⟩, ⟨3, 2, []⟩] (by kernel_rfl) ?_
  refine ns_move rfl rfl ?_
  refine ns_nil rfl rfl rfl ?_
  refine ns_fld fo_81_0 rfl rfl rfl ?_
  refine ns_call (unlock_ok fl _ _) ck_91 hs rfl rfl rfl rfl ?_
  intro v33 w hs
  refine ns_done ?_
  refine WP_ret ?_
  exact ⟨_, res1 _, St.mk_ex t (St.mk_pu rfl (hs.fold (fl_fold fl v l)))⟩
theorem f67_ok (c fl : Nat) : Tri Try.prog 67 #[ptr c] (Ctx c fl) fun v => ex fun b => pu (v = ptr b) * (NodeP c b [] [] * Ctx c fl) := by
  intro w0 F w hs
  unfold Ctx CowP at hs
  simp only [mul_assoc'] at hs
  refine calls_WP 12 #[.tmp 2] Try.func67 rfl Try.ntmps67 rfl (Nat.le_of_ble_eq_true rfl) ?_
  refine WP_seq ?_
  -- R0
  refine WP_seqr [⟨0, 0, []⟩] (by kernel_rfl) ?_
  refine ns_asg rfl rfl ?_
  refine ns_done ?_
  refine WP_seq ?_
  -- R1
  refine WP_seqr [⟨0, 0, []⟩, ⟨1, 0, []⟩, ⟨2, 0, []⟩, ⟨3, 1, []⟩, ⟨4, 2, []⟩, ⟨5, 0, []⟩] (by kernel_rfl) ?_
  refine ns_move rfl rfl ?_
  refine ns_nil rfl rfl rfl ?_
  refine ns_fld fo_84_0 rfl rfl rfl ?_
  refine ns_ldB pl_66 hs rfl rfl rfl (by rfl) ?_
  refine ns_call (f80_ok fl) ck_80 (hs.foc (FLP fl)) rfl rfl rfl rfl ?_
  intro v7 w hs
  replace hs := hs.ex
  obtain ⟨b, hs⟩ := hs
  replace hs := hs.pu
  obtain ⟨rfl, hs⟩ := hs
  simp only [mul_assoc'] at hs
  obtain ⟨⟨v1, v2⟩, hs⟩ := hs.ex
  simp only [mul_assoc'] at hs
  refine ns_asg rfl rfl ?_
  refine ns_done ?_
  refine WP_seq ?_
  -- R2
  refine WP_seqr [⟨0, 0, []⟩, ⟨1, 0, []⟩, ⟨2, 0, []⟩, ⟨3, 0, []⟩, ⟨4, 2, []⟩] (by kernel_rfl) ?_
  refine ns_move rfl rfl ?_
  refine ns_move rfl rfl ?_
  refine ns_nil rfl rfl rfl ?_
  refine ns_fld fo_103_2 rfl rfl rfl ?_
  refine ns_st (ptr c) pl_82 hs rfl rfl rfl rfl rfl (by simp) ?_
  refine fun w hs => ⟨trivial, ?_⟩
  try simp only [Nat.zero_add] at hs
  try simp only [List.setIfInBounds_toArray] at hs
  try simp only [List.set_cons_succ] at hs
  try simp only [List.set_cons_zero] at hs
  refine ns_done ?_
  refine WP_ret ?_
  have hs := hs.fold (node_fold c b v1 v2 [] [])
  have hs := hs.fold (ctx_fold c fl)
  exact ⟨_, res1 _, St.mk_ex b (St.mk_pu rfl (hs.foc (NodeP c b [] [] * Ctx c fl)))⟩
theorem f89_ok (c fl n : Nat) (its : List It) (bs : List Nat) : Tri Try.prog 89 #[ptr c, ptr n] (NodeP c n its bs * Ctx c fl) fun v => ex fun k : Int => pu (v = .int .i64 k) * Ctx c fl := by
  intro w0 F w hs
  unfold Ctx CowP at hs
  simp only [mul_assoc'] at hs
  obtain ⟨⟨v1, v2⟩, hs⟩ := hs.ex
  simp only [mul_assoc'] at hs
  refine calls_WP 28 #[.tmp 4] Try.func89 rfl Try.ntmps89 rfl (Nat.le_of_ble_eq_true rfl) ?_
  refine WP_seq ?_
  -- R0
  refine WP_seqr [⟨0, 0, []⟩] (by kernel_rfl) ?_
  refine ns_asg rfl rfl ?_
  refine ns_done ?_
  refine WP_seq ?_
  -- R1
  refine WP_seqr [⟨0, 0, []⟩, ⟨1, 0, []⟩, ⟨2, 0, []⟩, ⟨3, 1, []⟩, ⟨4, 0, []⟩, ⟨5, 0, []⟩] (by kernel_rfl) ?_
  refine ns_move rfl rfl ?_
  refine ns_nil rfl rfl rfl ?_
  refine ns_fld fo_103_2 rfl rfl rfl ?_
  refine ns_ldB pl_82 hs rfl rfl rfl (by rfl) ?_
  refine ns_move rfl rfl ?_
  refine ns_peq true pt_82 rfl rfl rfl rfl (by simp [cmpP]) ?_
  refine ns_done ?_
  refine WP_true rfl ?_ -- if1
  refine WP_seq ?_
  have hs := hs.fold (node_fold c n v1 v2 its bs)
  -- R2
  refine WP_seqr [⟨0, 0, []⟩, ⟨1, 0, []⟩, ⟨2, 0, []⟩, ⟨3, 2, []⟩] (by kernel_rfl) ?_
  refine ns_move rfl rfl ?_
  refine ns_nil rfl rfl rfl ?_
  refine ns_fld fo_103_0 rfl rfl rfl ?_
  refine ns_call (f81_ok c n 0 its bs (Nat.zero_le _)) ck_81 (hs.foc (NodeP c n its bs)) rfl rfl rfl rfl ?_
  intro v14 w hs
  refine ns_done ?_
  refine WP_seq ?_
  -- R3
  refine WP_seqr [⟨0, 0, []⟩, ⟨1, 0, []⟩, ⟨2, 0, []⟩, ⟨3, 2, []⟩] (by kernel_rfl) ?_
  refine ns_move rfl rfl ?_
  refine ns_nil rfl rfl rfl ?_
  refine ns_fld fo_103_1 rfl rfl rfl ?_
  refine ns_call (f82_ok c n 0 (its.take 0) bs (Nat.zero_le _)) ck_82 (hs.foc (NodeP c n (its.take 0) bs)) rfl rfl rfl rfl ?_
  intro v18 w hs
  refine ns_done ?_
  refine WP_seq ?_
  obtain ⟨⟨u1, u2⟩, hs⟩ := hs.ex
  simp only [mul_assoc'] at hs
  -- R4
  refine WP_seqr [⟨0, 0, []⟩, ⟨1, 0, []⟩, ⟨2, 0, []⟩, ⟨3, 2, []⟩] (by kernel_rfl) ?_
  refine ns_move rfl rfl ?_
  refine ns_nil rfl rfl rfl ?_
  refine ns_fld fo_103_2 rfl rfl rfl ?_
  refine ns_st (.pointer none) pl_82 hs rfl rfl rfl rfl rfl (by simp) ?_
  refine fun w hs => ⟨trivial, ?_⟩
  try simp only [Nat.zero_add] at hs
  try simp only [List.setIfInBounds_toArray] at hs
  try simp only [List.set_cons_succ] at hs
  try simp only [List.set_cons_zero] at hs
  refine ns_done ?_
  refine WP_seq ?_
  simp only [List.take_zero] at hs
  have hs := hs.fold (free_fold n u1 u2)
  -- R5
  refine WP_seqr [⟨0, 0, []⟩, ⟨1, 0, []⟩, ⟨2, 0, []⟩, ⟨3, 1, []⟩, ⟨4, 0, []⟩, ⟨5, 2, []⟩] (by kernel_rfl) ?_
  refine ns_move rfl rfl ?_
  refine ns_nil rfl rfl rfl ?_
  refine ns_fld fo_84_0 rfl rfl rfl ?_
  refine ns_ldB pl_66 hs rfl rfl rfl (by rfl) ?_
  refine ns_move rfl rfl ?_
  refine ns_call (f98_ok fl n) ck_98 (hs.foc (FreeP n * FLP fl)) rfl rfl rfl rfl ?_
  intro v27 w hs
  replace hs := hs.ex
  obtain ⟨t, hs⟩ := hs
  replace hs := hs.pu
  obtain ⟨rfl, hs⟩ := hs
  refine ns_done ?_
  refine WP_if rfl (fun hif2 => ?_) (fun hif2 => ?_)
  · refine WP_seq ?_
    -- R6
    refine WP_seqr [⟨0, 0, []⟩] (by kernel_rfl) ?_
    refine ns_asg rfl rfl ?_
    refine ns_done ?_
    refine WP_ret ?_
    exact ⟨_, res1 _, St.mk_ex _ (St.mk_pu rfl (hs.fold (ctx_fold c fl)))⟩
  refine WP_seq ?_
  -- R7
  refine WP_seqr [⟨0, 0, []⟩] (by kernel_rfl) ?_
  refine ns_asg rfl rfl ?_
  refine ns_done ?_
  refine WP_ret ?_
  exact ⟨_, res1 _, St.mk_ex _ (St.mk_pu rfl (hs.fold (ctx_fold c fl)))⟩
theorem f68_ok (c n : Nat) (its : List It) (bs : List Nat) : Tri Try.prog 68 #[ptr n, ptr c] (NodeP c n its bs) fun v => pu (v = ptr n) * NodeP c n its bs := by
  intro w0 F w hs
  obtain ⟨⟨v1, v2⟩, hs⟩ := hs.ex
  simp only [mul_assoc'] at hs
  refine calls_WP 110 #[.tmp 4] Try.func68 rfl Try.ntmps68 rfl (Nat.le_of_ble_eq_true rfl) ?_
  refine WP_seq ?_
  -- R0
  refine WP_seqr [⟨0, 0, []⟩] (by kernel_rfl) ?_
  refine ns_asg rfl rfl ?_
  refine ns_done ?_
  refine WP_seq ?_ -- S1
  refine WP_seq ?_
  -- R1
  refine WP_seqr [⟨0, 0, []⟩, ⟨1, 0, []⟩, ⟨2, 0, []⟩, ⟨3, 1, []⟩, ⟨4, 0, []⟩, ⟨5, 0, []⟩] (by kernel_rfl) ?_
  refine ns_move rfl rfl ?_
  refine ns_nil rfl rfl rfl ?_
  refine ns_fld fo_103_2 rfl rfl rfl ?_
  refine ns_ldB pl_82 hs rfl rfl rfl (by rfl) ?_
  refine ns_move rfl rfl ?_
  refine ns_peq true pt_82 rfl rfl rfl rfl (by simp [cmpP]) ?_
  refine ns_done ?_
  refine WP_true rfl ?_ -- if1
  refine WP_seq ?_
  -- R2
  refine WP_seqr [⟨0, 0, []⟩, ⟨1, 0, []⟩] (by kernel_rfl) ?_
  refine ns_move rfl rfl ?_
  refine ns_asg rfl rfl ?_
  refine ns_done ?_
  refine WP_ret ?_
  exact ⟨_, res1 _, St.mk_pu rfl (hs.fold (node_fold c n v1 v2 its bs)).out⟩
theorem f86_ok (c n i x : Nat) (its its' : List It) (bs bs' : List Nat) (hx : bs[i]? = some x) : Tri Try.prog 86 #[ptr n, .int .i64 i] (NodeP c n its bs * NodeP c x its' bs') fun v => pu (v = ptr x) * (NodeP c n its bs * NodeP c x its' bs') := by
  have hi : i < bs.length := (List.getElem?_eq_some_iff.1 hx).1
  intro w0 F w hs
  simp only [mul_assoc'] at hs
  obtain ⟨⟨v1, v2⟩, hs⟩ := hs.ex
  simp only [mul_assoc'] at hs
  obtain ⟨h0, h1, _⟩ | ⟨g, cap, cur, rfl, hc, hcm, hsz, htk, hs⟩ := (hs.foc (PArr v2 bs)).arr
  · omega
  refine calls_WP 26 #[.tmp 4] Try.func86 rfl Try.ntmps86 rfl (Nat.le_of_ble_eq_true rfl) ?_
  refine WP_seq ?_
  -- R0
  refine WP_seqr [⟨0, 0, []⟩] (by kernel_rfl) ?_
  refine ns_asg rfl rfl ?_
  refine ns_done ?_
  refine WP_seq ?_
  -- R1
  refine WP_net hs mix [0, 1, 3, 7, 0, 31, 63, 0, 128, 384, 896, 2047, 4095] [⟨0, 0, []⟩, ⟨1, 0, []⟩, ⟨2, 0, []⟩, ⟨3, 1, []⟩, ⟨4, 0, []⟩, ⟨5, 0, []⟩, ⟨6, 1, []⟩, ⟨7, 0, []⟩, ⟨8, 0, []⟩, ⟨9, 0, []⟩, ⟨10, 1, []⟩, ⟨11, 2, []⟩, ⟨12, 0, []⟩] (by kernel_rfl) ?_
  intro w hs
  refine ns_move rfl rfl ?_
  refine ns_nil rfl rfl rfl ?_
  refine ns_fld fo_103_1 rfl rfl rfl ?_
  refine ns_ldB pl_101 hs rfl rfl rfl (by rfl) ?_
  refine ns_move rfl rfl ?_
  refine ns_idx i sl_101 rfl rfl rfl rfl rfl hi ?_
  refine ns_ld pl_85 rfl rfl rfl (ptr_cell hs htk i hx) ?_
  refine ns_move rfl rfl ?_
  refine ns_nil rfl rfl rfl ?_
  refine ns_fld fo_103_2 rfl rfl rfl ?_
  refine ns_ldB pl_82 hs rfl rfl rfl (by rfl) ?_
  refine ns_call (f68_ok c x its' bs') ck_68 (hs.foc (NodeP c x its' bs')) rfl rfl rfl rfl ?_
  intro v17 w hs
  replace hs := hs.pu
  obtain ⟨rfl, hs⟩ := hs
  refine ns_asg rfl rfl ?_
  refine ns_done ?_
  refine WP_seq ?_
  -- R2
  refine WP_seqr [⟨0, 0, []⟩, ⟨1, 0, []⟩, ⟨2, 0, []⟩, ⟨3, 1, []⟩, ⟨4, 0, []⟩, ⟨5, 0, []⟩, ⟨6, 0, []⟩, ⟨7, 2, []⟩] (by kernel_rfl) ?_
  refine ns_move rfl rfl ?_
  refine ns_nil rfl rfl rfl ?_
  refine ns_fld fo_103_1 rfl rfl rfl ?_
  refine ns_ldB pl_101 hs rfl rfl rfl (by rfl) ?_
  refine ns_move rfl rfl ?_
  refine ns_move rfl rfl ?_
  refine ns_idx i sl_101 rfl rfl rfl rfl rfl hi ?_
  refine ns_st (ptr x) pl_85 hs rfl rfl rfl rfl rfl (by rw [hsz]; omega) ?_
  refine fun w hs => ⟨trivial, ?_⟩
  rw [← splice_one (o := 0 + i * 1) (by rw [hsz]; omega), Nat.zero_add] at hs
  refine ns_done ?_
  refine WP_seq ?_
  -- R3
  refine WP_seqr [⟨0, 0, []⟩, ⟨1, 0, []⟩] (by kernel_rfl) ?_
  refine ns_move rfl rfl ?_
  refine ns_asg rfl rfl ?_
  refine ns_done ?_
  refine WP_ret ?_
  have hset := set_cells (i := i) (c := [ptr x]) hsz (List.length_map .. |>.trans (Nat.mul_one _).symm) rfl hc hi htk
  rw [← ptrs_set bs i x hi] at hset
  have e : bs.set i x = bs := by
    apply List.ext_getElem?
    intro j
    rw [List.getElem?_set]
    split
    · rename_i h; subst h; simp [hi]; exact ((List.getElem?_eq_some_iff.1 hx).2).symm
    · rfl
  rw [e] at hset
  have hs := (hs.foc (pts g (.cells (splice cur (i * 1) [ptr x]) 85 (0, 0)))).mk_arr' (cap := cap) hc hcm (by rw [splice_size (by rw [hsz]; simp; omega), hsz]) hset
  have hs := hs.fold (node_fold c n v1 (.slice (some ⟨g, 0, none⟩) bs.length cap) its bs)
  exact ⟨_, res1 _, St.mk_pu rfl (hs.foc (NodeP c n its bs * NodeP c x its' bs'))⟩
theorem f69_ok (t d : Nat) (v1 v2 v3 : Value) (h1 : 1 ≤ d) (h2 : d ≤ 1000) : Tri Try.prog 69 #[ptr t] (pts t (.cells #[.int .i64 d, v1, v2, v3] 87 (0, 0))) fun v => pu (v = .int .i64 (2 * d - 1 : Nat)) * pts t (.cells #[.int .i64 d, v1, v2, v3] 87 (0, 0)) := by
  intro w0 F w hs
  refine calls_WP 9 #[.tmp 2] Try.func69 rfl Try.ntmps69 rfl (Nat.le_of_ble_eq_true rfl) ?_
  refine WP_seq ?_
  -- R0
  refine WP_seqr [⟨0, 0, []⟩] (by kernel_rfl) ?_
  refine ns_asg rfl rfl ?_
  refine ns_done ?_
  refine WP_seq ?_
  -- R1
  refine WP_seqr [⟨0, 0, []⟩, ⟨1, 0, []⟩, ⟨2, 0, []⟩, ⟨3, 1, []⟩, ⟨4, 0, []⟩, ⟨5, 0, []⟩, ⟨6, 0, []⟩] (by kernel_rfl) ?_
  refine ns_move rfl rfl ?_
  refine ns_nil rfl rfl rfl ?_
  refine ns_fld fo_87_0 rfl rfl rfl ?_
  refine ns_ldB pl_3 hs rfl rfl rfl (by rfl) ?_
  refine ns_mul rfl rfl rfl rfl (by omega) (by omega) ?_
  refine ns_sub rfl rfl rfl rfl (by omega) (by omega) ?_
  refine ns_asg rfl rfl ?_
  refine ns_done ?_
  refine WP_ret ?_
  exact ⟨_, res1 _, St.mk_pu (congrArg (Value.int .i64) (by omega)) hs⟩
theorem f88_ok (t d : Nat) (v1 v2 v3 : Value) (h1 : 1 ≤ d) (h2 : d ≤ 1000) : Tri Try.prog 88 #[ptr t] (pts t (.cells #[.int .i64 d, v1, v2, v3] 87 (0, 0))) fun v => pu (v = .int .i64 (d - 1 : Nat)) * pts t (.cells #[.int .i64 d, v1, v2, v3] 87 (0, 0)) := by
  intro w0 F w hs
  refine calls_WP 8 #[.tmp 2] Try.func88 rfl Try.ntmps88 rfl (Nat.le_of_ble_eq_true rfl) ?_
  refine WP_seq ?_
  -- R0
  refine WP_seqr [⟨0, 0, []⟩] (by kernel_rfl) ?_
  refine ns_asg rfl rfl ?_
  refine ns_done ?_
  refine WP_seq ?_
  -- R1
  refine WP_seqr [⟨0, 0, []⟩, ⟨1, 0, []⟩, ⟨2, 0, []⟩, ⟨3, 1, []⟩, ⟨4, 0, []⟩, ⟨5, 0, []⟩] (by kernel_rfl) ?_
  refine ns_move rfl rfl ?_
  refine ns_nil rfl rfl rfl ?_
  refine ns_fld fo_87_0 rfl rfl rfl ?_
  refine ns_ldB pl_3 hs rfl rfl rfl (by rfl) ?_
  refine ns_sub rfl rfl rfl rfl (by omega) (by omega) ?_
  refine ns_asg rfl rfl ?_
  refine ns_done ?_
  refine WP_ret ?_
  exact ⟨_, res1 _, St.mk_pu (congrArg (Value.int .i64) (by omega)) hs⟩
end Go.Proofs.Ytnnembkganlbpaa
