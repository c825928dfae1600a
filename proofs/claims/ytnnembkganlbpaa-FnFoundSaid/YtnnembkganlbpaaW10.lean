/- The walk of ReplaceOrInsert. -/
import Derived.Test.YtnnembkganlbpaaTb
namespace Go.Proofs.Ytnnembkganlbpaa
open Go Go.Sl Go.Net Go.Wk Go.Bt Go.RowKit

theorem get_some {l : List It} (hS : Srt l) (k : Int) : (get l k).isSome = fnd l k := by
  rw [get_eq hS]
  by_cases h : fnd l k = true
  · obtain ⟨x, hx, _⟩ := fnd_lt h
    rw [if_pos h, hx, h]; rfl
  · rw [if_neg h]; simpa using h
theorem len_put {l : List It} (hS : Srt l) (x : It) : (put l x).length = if (get l x.key).isSome = true then l.length else l.length + 1 := by rw [length_put, get_some hS]
set_option maxHeartbeats 1600000 in
theorem f48_nil (c fl d b : Nat) (x : It) (hd : 2 ≤ d) : Tri Try.prog 48 #[ptr b, itV x] (BtN c d b * Ctx c fl) fun v => pu (v = ans none) * (BT c d b [x] * Ctx c fl) := by
  intro w0 F w hs
  unfold BtN at hs
  simp only [mul_assoc'] at hs
  refine calls_WP 148 #[.cell 4 45, .tmp 5] Try.func48 rfl Try.ntmps48 rfl (Nat.le_of_ble_eq_true rfl) ?_
  refine WP_seq ?_
  -- R0
  refine WP_seqr [⟨0, 2, []⟩, ⟨1, 2, []⟩, ⟨2, 0, []⟩] (by kernel_rfl) ?_
  refine ns_box (#[.int .i64 x.key, .int .i64 x.val]) hs rfl rfl rfl rfl ?_
  intro b3 w hs
  refine ns_alloc zc_45 hs rfl rfl ?_
  intro b4 w hs
  refine ns_asg rfl rfl ?_
  refine ns_done ?_
  refine WP_seq ?_ -- S1
  refine WP_seq ?_
  -- R1
  refine WP_seqr [⟨0, 0, []⟩, ⟨1, 0, []⟩, ⟨2, 0, []⟩, ⟨3, 1, []⟩, ⟨4, 0, []⟩] (by kernel_rfl) ?_
  refine ns_move rfl rfl ?_
  refine ns_nil rfl rfl rfl ?_
  refine ns_fld fo_87_2 rfl rfl rfl ?_
  refine ns_ldB pl_85 hs rfl rfl rfl (by rfl) ?_
  refine ns_peq true pt_85 rfl rfl rfl rfl rfl ?_
  refine ns_done ?_
  refine WP_true rfl ?_ -- if1
  refine WP_seq ?_
  -- R2
  refine WP_seqr [⟨0, 0, []⟩, ⟨1, 0, []⟩, ⟨2, 0, []⟩, ⟨3, 0, []⟩, ⟨4, 1, []⟩, ⟨5, 2, []⟩, ⟨6, 0, []⟩, ⟨7, 0, []⟩, ⟨8, 2, []⟩] (by kernel_rfl) ?_
  refine ns_move rfl rfl ?_
  refine ns_move rfl rfl ?_
  refine ns_nil rfl rfl rfl ?_
  refine ns_fld fo_87_3 rfl rfl rfl ?_
  refine ns_ldB pl_82 hs rfl rfl rfl (by rfl) ?_
  refine ns_call (f67_ok c fl) ck_67 (hs.foc (Ctx c fl)) rfl rfl rfl rfl ?_
  intro v21 w hs
  replace hs := hs.ex
  obtain ⟨r, hs⟩ := hs
  replace hs := hs.pu
  obtain ⟨rfl, hs⟩ := hs
  simp only [mul_assoc'] at hs
  refine ns_nil rfl rfl rfl ?_
  refine ns_fld fo_87_2 rfl rfl rfl ?_
  refine ns_st (ptr r) pl_85 hs rfl rfl rfl rfl rfl (by simp) ?_
  refine fun w hs => ⟨trivial, ?_⟩
  try simp only [Nat.zero_add] at hs
  try simp only [List.setIfInBounds_toArray] at hs
  try simp only [List.set_cons_succ] at hs
  try simp only [List.set_cons_zero] at hs
  refine ns_done ?_
  refine WP_seq ?_
  obtain ⟨⟨v1, v2⟩, hs⟩ := (hs.foc (NodeP c r ([]) ([]))).ex
  simp only [mul_assoc'] at hs
  -- R3
  refine WP_net hs mix [0, 1, 3, 7, 0, 16, 48, 112, 240, 496, 1008, 0, 2048, 8176, 16383, 32767, 65535] [⟨0, 0, []⟩, ⟨1, 0, []⟩, ⟨2, 0, []⟩, ⟨3, 1, []⟩, ⟨4, 0, []⟩, ⟨5, 0, []⟩, ⟨6, 0, []⟩, ⟨7, 1, []⟩, ⟨8, 0, []⟩, ⟨9, 0, []⟩, ⟨10, 1, []⟩, ⟨11, 1, []⟩, ⟨12, 2, [3, 7, 10]⟩, ⟨13, 2, [3]⟩, ⟨14, 0, []⟩, ⟨15, 0, []⟩, ⟨16, 2, []⟩] (by kernel_rfl) ?_
  intro w hs
  refine ns_move rfl rfl ?_
  refine ns_nil rfl rfl rfl ?_
  refine ns_fld fo_87_2 rfl rfl rfl ?_
  have hk3 := hs.c b 2
  have hk10 := hs.c r 0
  refine ns_ldB pl_85 hs rfl rfl rfl (by rfl) ?_
  refine ns_move rfl rfl ?_
  refine ns_nil rfl rfl rfl ?_
  refine ns_fld fo_87_2 rfl rfl rfl ?_
  refine ns_ldB pl_85 hs rfl rfl rfl (by rfl) ?_
  refine ns_nil rfl rfl rfl ?_
  refine ns_fld fo_103_0 rfl rfl rfl ?_
  refine ns_ldB pl_100 hs rfl rfl rfl (by rfl) ?_
  refine ns_ldAB [.int .i64 x.key, .int .i64 x.val] ag_45 hs rfl rfl rfl (by rfl) (by rfl) (by decide) ?_
  refine ns_lit [itV x] [.int .i64 x.key, .int .i64 x.val] sl_100 zr_45 (by decide) (by decide) hs rfl rfl rfl rfl (by simp [Value.cells, itV]) rfl ?_
  refine fun b36 w hs hx => ⟨⟨hx _ _ hk3, hx _ _ hk3, hx _ _ hk10, trivial⟩, ?_⟩
  refine ns_app [.int .i64 x.key, .int .i64 x.val] sl_100 zr_45 by_45 rfl (by decide) (hs.foc (IArr v1 [])) rfl rfl rfl rfl rfl (St.cells (n := 2) hs (by rfl)) (by intro u hu; simp at hu; rcases hu with rfl | rfl <;> rfl) (by decide) (by decide) ?_
  refine fun v37 w hs hv => ⟨⟨hs.c b 2, trivial⟩, ?_⟩
  have hs := hs.up (Ent.of_eq (IArr_eq (l := [x]) (by simp) (by rfl)))
  obtain ⟨a5, c5, rfl, _, _⟩ := hs.arr_form
  refine ns_nil rfl rfl rfl ?_
  refine ns_fld fo_103_0 rfl rfl rfl ?_
  refine ns_st (.slice a5 [x].length c5) pl_100 hs rfl rfl rfl rfl rfl (by simp) ?_
  refine fun w hs => ⟨trivial, ?_⟩
  try simp only [Nat.zero_add] at hs
  try simp only [List.setIfInBounds_toArray] at hs
  try simp only [List.set_cons_succ] at hs
  try simp only [List.set_cons_zero] at hs
  refine ns_done ?_
  have hs := hs.fold (node_fold c r (.slice a5 [x].length c5) v2 [x] [])
  refine WP_seq ?_
  -- R4
  refine WP_seqr [⟨0, 0, []⟩, ⟨1, 0, []⟩, ⟨2, 0, []⟩, ⟨3, 1, []⟩, ⟨4, 0, []⟩, ⟨5, 0, []⟩, ⟨6, 0, []⟩, ⟨7, 2, []⟩] (by kernel_rfl) ?_
  refine ns_move rfl rfl ?_
  refine ns_nil rfl rfl rfl ?_
  refine ns_fld fo_87_1 rfl rfl rfl ?_
  refine ns_ldB pl_3 hs rfl rfl rfl (by rfl) ?_
  refine ns_add rfl rfl rfl rfl (by omega) (by omega) ?_
  refine ns_nil rfl rfl rfl ?_
  refine ns_fld fo_87_1 rfl rfl rfl ?_
  refine ns_st (.int .i64 ((1 : Nat) : Int)) pl_3 hs rfl rfl rfl rfl rfl (by simp) ?_
  refine fun w hs => ⟨trivial, ?_⟩
  try simp only [Nat.zero_add] at hs
  try simp only [List.setIfInBounds_toArray] at hs
  try simp only [List.set_cons_succ] at hs
  try simp only [List.set_cons_zero] at hs
  refine ns_done ?_
  refine WP_ret ?_
  have hload := run_loadVarA (P := Try.prog) (t := 45) (n := 2) (ad := ⟨b4, 0, none⟩) (vs := [.int .i64 zero.key, .int .i64 zero.val]) ag_45 rfl (by decide) w (St.cells (n := 2) hs (by rfl))
  have hs : St w0 (Ks c 0 [] [] * _) w := hs.eq (show _ = Ks c 0 [] [] * _ by rw [Ks_nil, one_mul'])
  have hs := hs.fold (tree_fold (c := c) (h := 0) (b := r) (its := [x]) (kids := []) (bs := []) rfl)
  have hg : Good d 0 (.mk [x] []) [x] := ⟨rfl, by show 1 ≤ _; omega, rfl, List.pairwise_singleton _ _, fun h => absurd rfl h⟩
  have hs := hs.fold (bt_tree (c := c) (b := b) (rb := r) (n := 1) hg rfl)
  exact ⟨_, resCT 4 45 5 rfl hload, St.mk_pu rfl hs.out⟩
set_option maxHeartbeats 3200000 in
theorem f48_tree (c fl d b h rb : Nat) (x : It) (t : Tr) (l : List It) (hd : 2 ≤ d) (hd2 : d ≤ 1000) (hg : Good d h t l) (hll : l.length < 1000000) :
    Tri Try.prog 48 #[ptr b, itV x] (pts b (.cells #[.int .i64 d, .int .i64 l.length, ptr rb, ptr c] 87 (0, 0)) * (Tp c h t rb * Ctx c fl)) fun v => pu (v = ans (get l x.key)) * (BT c d b (put l x) * Ctx c fl) := by
  have hmid : (2 * d - 1) / 2 = d - 1 := by omega
  have gl := hg.2.1
  intro w0 F w hs
  simp only [mul_assoc'] at hs
  refine calls_WP 148 #[.cell 4 45, .tmp 5] Try.func48 rfl Try.ntmps48 rfl (Nat.le_of_ble_eq_true rfl) ?_
  refine WP_seq ?_
  -- R0
  refine WP_seqr [⟨0, 2, []⟩, ⟨1, 2, []⟩, ⟨2, 0, []⟩] (by kernel_rfl) ?_
  refine ns_box (#[.int .i64 x.key, .int .i64 x.val]) hs rfl rfl rfl rfl ?_
  intro b3 w hs
  refine ns_alloc zc_45 hs rfl rfl ?_
  intro b4 w hs
  refine ns_asg rfl rfl ?_
  refine ns_done ?_
  refine WP_seq_cut (fun σ w => σ 0 = ptr b ∧ σ 3 = .pointer (some ⟨b3, 0, none⟩) ∧ σ 4 = .pointer (some ⟨b4, 0, none⟩) ∧ ∃ (h1 : Nat) (t1 : Tr) (rb1 : Nat), Good d h1 t1 l ∧ t1.its.length < 2 * d - 1 ∧ St w0 (pts b3 (.cells #[.int .i64 x.key, .int .i64 x.val] 45 (0, 0)) * (pts b4 (.cells #[.int .i64 0, .int .i64 0] 45 (0, 0)) * (pts b (.cells #[.int .i64 d, .int .i64 l.length, ptr rb1, ptr c] 87 (0, 0)) * (Tp c h1 t1 rb1 * (Ctx c fl * F))))) w) ?_ ?_ -- S1
  · refine WP_seq ?_
    -- R1
    refine WP_seqr [⟨0, 0, []⟩, ⟨1, 0, []⟩, ⟨2, 0, []⟩, ⟨3, 1, []⟩, ⟨4, 0, []⟩] (by kernel_rfl) ?_
    refine ns_move rfl rfl ?_
    refine ns_nil rfl rfl rfl ?_
    refine ns_fld fo_87_2 rfl rfl rfl ?_
    refine ns_ldB pl_85 hs rfl rfl rfl (by rfl) ?_
    refine ns_peq false pt_85 rfl rfl rfl rfl (by simp [cmpP]) ?_
    refine ns_done ?_
    refine WP_false rfl ?_ -- if1
    refine WP_seq ?_
    obtain ⟨bs, hlen, hs⟩ := St.tree (hs.foc (Tp c h t rb))
    -- R5
    refine WP_net hs mix [0, 0, 2, 6, 14, 0, 32, 96, 224, 510, 1023, 2047, 4095] [⟨0, 0, []⟩, ⟨1, 0, []⟩, ⟨2, 0, []⟩, ⟨3, 0, []⟩, ⟨4, 1, []⟩, ⟨5, 0, []⟩, ⟨6, 0, []⟩, ⟨7, 0, []⟩, ⟨8, 1, []⟩, ⟨9, 2, []⟩, ⟨10, 0, []⟩, ⟨11, 0, []⟩, ⟨12, 2, []⟩] (by kernel_rfl) ?_
    intro w hs
    refine ns_move rfl rfl ?_
    refine ns_move rfl rfl ?_
    refine ns_nil rfl rfl rfl ?_
    refine ns_fld fo_87_2 rfl rfl rfl ?_
    refine ns_ldB pl_85 hs rfl rfl rfl (by rfl) ?_
    refine ns_move rfl rfl ?_
    refine ns_nil rfl rfl rfl ?_
    refine ns_fld fo_87_3 rfl rfl rfl ?_
    refine ns_ldB pl_82 hs rfl rfl rfl (by rfl) ?_
    refine ns_call (f68_ok c rb t.its bs) ck_68 (hs.foc (NodeP c rb t.its bs)) rfl rfl rfl rfl ?_
    intro v56 w hs
    replace hs := hs.pu
    obtain ⟨rfl, hs⟩ := hs
    refine ns_nil rfl rfl rfl ?_
    refine ns_fld fo_87_2 rfl rfl rfl ?_
    refine ns_st (ptr rb) pl_85 hs rfl rfl rfl rfl rfl (by simp) ?_
    refine fun w hs => ⟨trivial, ?_⟩
    try simp only [Nat.zero_add] at hs
    try simp only [List.setIfInBounds_toArray] at hs
    try simp only [List.set_cons_succ] at hs
    try simp only [List.set_cons_zero] at hs
    refine ns_done ?_
    refine WP_seq ?_
    obtain ⟨⟨v1, v2⟩, hs⟩ := (hs.foc (NodeP c rb (t.its) (bs))).ex
    simp only [mul_assoc'] at hs
    obtain ⟨a1, c1, rfl, hc1, hcm1⟩ := (hs.foc (IArr v1 t.its)).arr_form
    -- R6
    refine WP_net hs mix [0, 1, 3, 7, 15, 31, 63, 127, 0, 256, 1023] [⟨0, 0, []⟩, ⟨1, 0, []⟩, ⟨2, 0, []⟩, ⟨3, 1, []⟩, ⟨4, 0, []⟩, ⟨5, 0, []⟩, ⟨6, 1, []⟩, ⟨7, 0, []⟩, ⟨8, 0, []⟩, ⟨9, 2, [3, 6]⟩, ⟨10, 0, []⟩] (by kernel_rfl) ?_
    intro w hs
    refine ns_move rfl rfl ?_
    refine ns_nil rfl rfl rfl ?_
    refine ns_fld fo_87_2 rfl rfl rfl ?_
    refine ns_ldB pl_85 hs rfl rfl rfl (by rfl) ?_
    refine ns_nil rfl rfl rfl ?_
    refine ns_fld fo_103_0 rfl rfl rfl ?_
    refine ns_ldB pl_100 hs rfl rfl rfl (by rfl) ?_
    refine ns_len sl_100 rfl rfl rfl ?_
    refine ns_move rfl rfl ?_
    refine ns_callK (f69_ok b d (.int .i64 l.length) (ptr rb) (ptr c) (by omega) hd2) ck_69 (hs.foc (pts b (.cells #[.int .i64 d, .int .i64 l.length, ptr rb, ptr c] 87 (0, 0)))) rfl rfl rfl rfl ?_
    refine fun v68 w hs => ?_
    replace hs := hs.pu
    obtain ⟨rfl, hs⟩ := hs
    refine ⟨⟨hs.c b 2, hs.c rb 0, trivial⟩, ?_⟩
    refine ns_cmp _ rfl rfl rfl rfl rfl ?_
    refine ns_done ?_
    have hs := hs.fold (node_fold c rb (.slice a1 t.its.length c1) v2 t.its bs)
    refine WP_if rfl (fun hif2 => ?_) (fun hif2 => ?_)
    · refine WP_seq_cut (fun σ w => ∃ (b6 r : Nat) (y : It), t.its[d - 1]? = some y ∧ σ 0 = ptr b ∧ σ 3 = .pointer (some ⟨b3, 0, none⟩) ∧ σ 4 = .pointer (some ⟨b4, 0, none⟩) ∧ σ 6 = .pointer (some ⟨b6, 0, none⟩) ∧ σ 7 = ptr r ∧ St w0 (pts b6 (.cells #[.int .i64 y.key, .int .i64 y.val] 45 (0, 0)) * (pts b3 (.cells #[.int .i64 x.key, .int .i64 x.val] 45 (0, 0)) * (pts b4 (.cells #[.int .i64 0, .int .i64 0] 45 (0, 0)) * (pts b (.cells #[.int .i64 d, .int .i64 l.length, ptr rb, ptr c] 87 (0, 0)) * (NodeP c rb (t.its.take (d - 1)) (bs.take (d - 1 + 1)) * (NodeP c r (t.its.drop (d - 1 + 1)) (bs.drop (d - 1 + 1)) * (Ks c h t.kids bs * (Ctx c fl * F)))))))) w) ?_ ?_ -- R7.cut
      · have hfull : t.its.length = 2 * d - 1 := by have := of_decide_eq_true hif2; omega
        obtain ⟨y, hy⟩ : ∃ y, t.its[(2 * d - 1) / 2]? = some y := ⟨t.its[(2 * d - 1) / 2]'(by omega), List.getElem?_eq_getElem (by omega)⟩
        have hbb : bs.length ≠ 0 → (2 * d - 1) / 2 + 1 ≤ bs.length ∧ bs.length < 1000000 := fun h0 => by
          have := kids_len hg.1 (by omega)
          omega
        -- R7
        refine WP_tre hs mix [0, 1, 3, 7, 0, 16, 48, 127, 255, 511, 511, 0, 3071, 8191] (.cons ⟨0, 0, []⟩ (.cons ⟨1, 0, []⟩ (.cons ⟨2, 0, []⟩ (.cons ⟨3, 1, []⟩ (.cons ⟨4, 0, []⟩ (.fork ⟨5, 2, [3]⟩ (.cons ⟨6, 0, []⟩ (.fork ⟨7, 2, []⟩ (.cons ⟨8, 0, []⟩ (.cons ⟨9, 0, []⟩ (.cons ⟨10, 0, []⟩ (.cons ⟨11, 2, []⟩ (.cons ⟨12, 2, []⟩ (.cons ⟨13, 0, []⟩ .nil)))))) ⟨11, 2, [3]⟩ (.cons ⟨7, 2, []⟩ (.cons ⟨8, 0, []⟩ (.cons ⟨9, 0, []⟩ (.cons ⟨10, 0, []⟩ (.cons ⟨12, 2, []⟩ (.cons ⟨13, 0, []⟩ .nil)))))))) ⟨11, 2, [3]⟩ (.cons ⟨5, 2, [3]⟩ (.cons ⟨6, 0, []⟩ (.cons ⟨7, 2, []⟩ (.cons ⟨8, 0, []⟩ (.cons ⟨9, 0, []⟩ (.cons ⟨10, 0, []⟩ (.cons ⟨12, 2, []⟩ (.cons ⟨13, 0, []⟩ .nil)))))))))))))) (by kernel_rfl) ?_
        intro w hs
        refine ns_move rfl rfl ?_
        refine ns_nil rfl rfl rfl ?_
        refine ns_fld fo_87_2 rfl rfl rfl ?_
        have hk3 := hs.c b 2
        refine ns_ldB pl_85 hs rfl rfl rfl (by rfl) ?_
        refine ns_move rfl rfl ?_
        refine ns_fork ?_ ?_
        · refine ns_callK (f69_ok b d (.int .i64 l.length) (ptr rb) (ptr c) (by omega) hd2) ck_69 (hs.foc (pts b (.cells #[.int .i64 d, .int .i64 l.length, ptr rb, ptr c] 87 (0, 0)))) rfl rfl rfl rfl ?_
          refine fun v76 w hs => ?_
          replace hs := hs.pu
          obtain ⟨rfl, hs⟩ := hs
          refine ⟨⟨hs.c b 2, trivial⟩, ?_⟩
          have hk3 := hs.c b 2
          refine ns_quo rfl rfl rfl rfl (by decide) (by show _ ≤ (((2 * d - 1) / 2 : Nat) : Int); omega) (by show (((2 * d - 1) / 2 : Nat) : Int) ≤ _; omega) ?_
          refine ns_fork ?_ ?_
          · refine ns_call (f70_ok c fl rb ((2 * d - 1) / 2) y t.its bs hy (by omega) hbb) ck_70 (hs.foc (NodeP c rb t.its bs * Ctx c fl)) rfl rfl rfl rfl ?_
            intro v78 w hs
            replace hs := hs.ex
            obtain ⟨r, hs⟩ := hs
            replace hs := hs.pu
            obtain ⟨rfl, hs⟩ := hs
            simp only [mul_assoc'] at hs
            refine ns_move rfl rfl ?_
            refine ns_ext rfl rfl rfl rfl ?_
            refine ns_ext rfl rfl rfl rfl ?_
            refine ns_alloc zc_45 hs rfl rfl ?_
            intro b6 w hs
            refine ns_stA (#[.int .i64 y.key, .int .i64 y.val]) ag_45 rfl (by decide) hs rfl rfl rfl rfl (by intro u hu; simp at hu; rcases hu with rfl | rfl <;> rfl) (by simp) ?_
            refine fun w hs => ⟨trivial, ?_⟩
            rw [splice2] at hs
            refine ns_asg rfl rfl ?_
            refine ns_done ?_
            rw [hmid] at hs hy
            exact ⟨b6, r, y, hy, rfl, rfl, rfl, rfl, rfl, hs.out⟩
          · refine ns_allocK zc_45 hs rfl rfl ?_
            refine fun b6 w hs hx => ⟨⟨hx _ _ hk3, trivial⟩, ?_⟩
            refine ns_call (f70_ok c fl rb ((2 * d - 1) / 2) y t.its bs hy (by omega) hbb) ck_70 (hs.foc (NodeP c rb t.its bs * Ctx c fl)) rfl rfl rfl rfl ?_
            intro v78 w hs
            replace hs := hs.ex
            obtain ⟨r, hs⟩ := hs
            replace hs := hs.pu
            obtain ⟨rfl, hs⟩ := hs
            simp only [mul_assoc'] at hs
            refine ns_move rfl rfl ?_
            refine ns_ext rfl rfl rfl rfl ?_
            refine ns_ext rfl rfl rfl rfl ?_
            refine ns_stA (#[.int .i64 y.key, .int .i64 y.val]) ag_45 rfl (by decide) hs rfl rfl rfl rfl (by intro u hu; simp at hu; rcases hu with rfl | rfl <;> rfl) (by simp) ?_
            refine fun w hs => ⟨trivial, ?_⟩
            rw [splice2] at hs
            refine ns_asg rfl rfl ?_
            refine ns_done ?_
            rw [hmid] at hs hy
            exact ⟨b6, r, y, hy, rfl, rfl, rfl, rfl, rfl, hs.out⟩
        · refine ns_allocK zc_45 hs rfl rfl ?_
          refine fun b6 w hs hx => ⟨⟨hx _ _ hk3, trivial⟩, ?_⟩
          refine ns_callK (f69_ok b d (.int .i64 l.length) (ptr rb) (ptr c) (by omega) hd2) ck_69 (hs.foc (pts b (.cells #[.int .i64 d, .int .i64 l.length, ptr rb, ptr c] 87 (0, 0)))) rfl rfl rfl rfl ?_
          refine fun v76 w hs => ?_
          replace hs := hs.pu
          obtain ⟨rfl, hs⟩ := hs
          refine ⟨⟨hs.c b 2, trivial⟩, ?_⟩
          have hk3 := hs.c b 2
          refine ns_quo rfl rfl rfl rfl (by decide) (by show _ ≤ (((2 * d - 1) / 2 : Nat) : Int); omega) (by show (((2 * d - 1) / 2 : Nat) : Int) ≤ _; omega) ?_
          refine ns_call (f70_ok c fl rb ((2 * d - 1) / 2) y t.its bs hy (by omega) hbb) ck_70 (hs.foc (NodeP c rb t.its bs * Ctx c fl)) rfl rfl rfl rfl ?_
          intro v78 w hs
          replace hs := hs.ex
          obtain ⟨r, hs⟩ := hs
          replace hs := hs.pu
          obtain ⟨rfl, hs⟩ := hs
          simp only [mul_assoc'] at hs
          refine ns_move rfl rfl ?_
          refine ns_ext rfl rfl rfl rfl ?_
          refine ns_ext rfl rfl rfl rfl ?_
          refine ns_stA (#[.int .i64 y.key, .int .i64 y.val]) ag_45 rfl (by decide) hs rfl rfl rfl rfl (by intro u hu; simp at hu; rcases hu with rfl | rfl <;> rfl) (by simp) ?_
          refine fun w hs => ⟨trivial, ?_⟩
          rw [splice2] at hs
          refine ns_asg rfl rfl ?_
          refine ns_done ?_
          rw [hmid] at hs hy
          exact ⟨b6, r, y, hy, rfl, rfl, rfl, rfl, rfl, hs.out⟩
      rintro σ w ⟨b6, r, y, hy, g0, g3, g4, g6, g7, hs⟩
      obtain ⟨σ, rfl⟩ := rebase g0
      obtain ⟨σ, rfl⟩ := rebase (σ := σ) g3
      obtain ⟨σ, rfl⟩ := rebase (σ := σ) g4
      obtain ⟨σ, rfl⟩ := rebase (σ := σ) g6
      obtain ⟨σ, rfl⟩ := rebase (σ := σ) g7
      clear g0 g3 g4 g6 g7
      have hfull : t.its.length = 2 * d - 1 := by have := of_decide_eq_true hif2; omega
      refine WP_seq ?_
      -- R8
      refine WP_seqr [⟨0, 0, []⟩, ⟨1, 0, []⟩, ⟨2, 0, []⟩, ⟨3, 1, []⟩, ⟨4, 0, []⟩] (by kernel_rfl) ?_
      refine ns_move rfl rfl ?_
      refine ns_nil rfl rfl rfl ?_
      refine ns_fld fo_87_2 rfl rfl rfl ?_
      refine ns_ldB pl_85 hs rfl rfl rfl (by rfl) ?_
      refine ns_asg rfl rfl ?_
      refine ns_done ?_
      refine WP_seq ?_
      -- R9
      refine WP_seqr [⟨0, 0, []⟩, ⟨1, 0, []⟩, ⟨2, 0, []⟩, ⟨3, 0, []⟩, ⟨4, 1, []⟩, ⟨5, 2, []⟩, ⟨6, 0, []⟩, ⟨7, 0, []⟩, ⟨8, 2, []⟩] (by kernel_rfl) ?_
      refine ns_move rfl rfl ?_
      refine ns_move rfl rfl ?_
      refine ns_nil rfl rfl rfl ?_
      refine ns_fld fo_87_3 rfl rfl rfl ?_
      refine ns_ldB pl_82 hs rfl rfl rfl (by rfl) ?_
      refine ns_call (f67_ok c fl) ck_67 (hs.foc (Ctx c fl)) rfl rfl rfl rfl ?_
      intro v90 w hs
      replace hs := hs.ex
      obtain ⟨r2, hs⟩ := hs
      replace hs := hs.pu
      obtain ⟨rfl, hs⟩ := hs
      simp only [mul_assoc'] at hs
      refine ns_nil rfl rfl rfl ?_
      refine ns_fld fo_87_2 rfl rfl rfl ?_
      refine ns_st (ptr r2) pl_85 hs rfl rfl rfl rfl rfl (by simp) ?_
      refine fun w hs => ⟨trivial, ?_⟩
      try simp only [Nat.zero_add] at hs
      try simp only [List.setIfInBounds_toArray] at hs
      try simp only [List.set_cons_succ] at hs
      try simp only [List.set_cons_zero] at hs
      refine ns_done ?_
      refine WP_seq ?_
      obtain ⟨⟨u1, u2⟩, hs⟩ := (hs.foc (NodeP c r2 ([]) ([]))).ex
      simp only [mul_assoc'] at hs
      -- R10
      refine WP_net hs mix [0, 1, 3, 7, 0, 16, 48, 112, 240, 496, 1008, 0, 2048, 8176, 16383, 32767, 65535] [⟨0, 0, []⟩, ⟨1, 0, []⟩, ⟨2, 0, []⟩, ⟨3, 1, []⟩, ⟨4, 0, []⟩, ⟨5, 0, []⟩, ⟨6, 0, []⟩, ⟨7, 1, []⟩, ⟨8, 0, []⟩, ⟨9, 0, []⟩, ⟨10, 1, []⟩, ⟨11, 1, []⟩, ⟨12, 2, [3, 7, 10]⟩, ⟨13, 2, [3]⟩, ⟨14, 0, []⟩, ⟨15, 0, []⟩, ⟨16, 2, []⟩] (by kernel_rfl) ?_
      intro w hs
      refine ns_move rfl rfl ?_
      refine ns_nil rfl rfl rfl ?_
      refine ns_fld fo_87_2 rfl rfl rfl ?_
      have hk3 := hs.c b 2
      have hk10 := hs.c r2 0
      refine ns_ldB pl_85 hs rfl rfl rfl (by rfl) ?_
      refine ns_move rfl rfl ?_
      refine ns_nil rfl rfl rfl ?_
      refine ns_fld fo_87_2 rfl rfl rfl ?_
      refine ns_ldB pl_85 hs rfl rfl rfl (by rfl) ?_
      refine ns_nil rfl rfl rfl ?_
      refine ns_fld fo_103_0 rfl rfl rfl ?_
      refine ns_ldB pl_100 hs rfl rfl rfl (by rfl) ?_
      refine ns_ldAB [.int .i64 y.key, .int .i64 y.val] ag_45 hs rfl rfl rfl (by rfl) (by rfl) (by decide) ?_
      refine ns_lit [itV y] [.int .i64 y.key, .int .i64 y.val] sl_100 zr_45 (by decide) (by decide) hs rfl rfl rfl rfl (by simp [Value.cells, itV]) rfl ?_
      refine fun b105 w hs hx => ⟨⟨hx _ _ hk3, hx _ _ hk3, hx _ _ hk10, trivial⟩, ?_⟩
      refine ns_app [.int .i64 y.key, .int .i64 y.val] sl_100 zr_45 by_45 rfl (by decide) (hs.foc (IArr u1 [])) rfl rfl rfl rfl rfl (St.cells (n := 2) hs (by rfl)) (by intro u hu; simp at hu; rcases hu with rfl | rfl <;> rfl) (by decide) (by decide) ?_
      refine fun v106 w hs hv => ⟨⟨hs.c b 2, trivial⟩, ?_⟩
      have hs := hs.up (Ent.of_eq (IArr_eq (l := [y]) (by simp) (by rfl)))
      obtain ⟨a5, c5, rfl, _, _⟩ := hs.arr_form
      refine ns_nil rfl rfl rfl ?_
      refine ns_fld fo_103_0 rfl rfl rfl ?_
      refine ns_st (.slice a5 [y].length c5) pl_100 hs rfl rfl rfl rfl rfl (by simp) ?_
      refine fun w hs => ⟨trivial, ?_⟩
      try simp only [Nat.zero_add] at hs
      try simp only [List.setIfInBounds_toArray] at hs
      try simp only [List.set_cons_succ] at hs
      try simp only [List.set_cons_zero] at hs
      refine ns_done ?_
      -- R11
      refine WP_net hs mix [0, 1, 3, 7, 0, 16, 48, 112, 240, 496, 1008, 0, 0, 6144, 16368, 32767, 65535, 131071] [⟨0, 0, []⟩, ⟨1, 0, []⟩, ⟨2, 0, []⟩, ⟨3, 1, []⟩, ⟨4, 0, []⟩, ⟨5, 0, []⟩, ⟨6, 0, []⟩, ⟨7, 1, []⟩, ⟨8, 0, []⟩, ⟨9, 0, []⟩, ⟨10, 1, []⟩, ⟨11, 0, []⟩, ⟨12, 0, []⟩, ⟨13, 2, [3, 7, 10]⟩, ⟨14, 2, [3]⟩, ⟨15, 0, []⟩, ⟨16, 0, []⟩, ⟨17, 2, []⟩] (by kernel_rfl) ?_
      intro w hs
      refine ns_move rfl rfl ?_
      refine ns_nil rfl rfl rfl ?_
      refine ns_fld fo_87_2 rfl rfl rfl ?_
      have hk3 := hs.c b 2
      have hk10 := hs.c r2 1
      refine ns_ldB pl_85 hs rfl rfl rfl (by rfl) ?_
      refine ns_move rfl rfl ?_
      refine ns_nil rfl rfl rfl ?_
      refine ns_fld fo_87_2 rfl rfl rfl ?_
      refine ns_ldB pl_85 hs rfl rfl rfl (by rfl) ?_
      refine ns_nil rfl rfl rfl ?_
      refine ns_fld fo_103_1 rfl rfl rfl ?_
      refine ns_ldB pl_101 hs rfl rfl rfl (by rfl) ?_
      refine ns_move rfl rfl ?_
      refine ns_move rfl rfl ?_
      refine ns_lit [ptr rb, ptr r] [ptr rb, ptr r] sl_101 zr_85 (by decide) (by decide) hs rfl rfl rfl rfl (by simp [Value.cells, ptr]) rfl ?_
      refine fun b122 w hs hx => ⟨⟨hx _ _ hk3, hx _ _ hk3, hx _ _ hk10, trivial⟩, ?_⟩
      refine ns_app [ptr rb, ptr r] sl_101 zr_85 by_85 rfl (by decide) (hs.foc (PArr u2 [])) rfl rfl rfl rfl rfl (St.cells (n := 2) hs (by rfl)) (by intro u hu; simp at hu; rcases hu with rfl | rfl <;> rfl) (by decide) (by decide) ?_
      refine fun v123 w hs hv => ⟨⟨hs.c b 2, trivial⟩, ?_⟩
      have hs := hs.up (Ent.of_eq (PArr_eq (l := [rb, r]) (by simp) (by rfl)))
      obtain ⟨a6, c6, rfl, _, _⟩ := hs.arr_form
      refine ns_nil rfl rfl rfl ?_
      refine ns_fld fo_103_1 rfl rfl rfl ?_
      refine ns_st (.slice a6 [rb, r].length c6) pl_101 hs rfl rfl rfl rfl rfl (by simp) ?_
      refine fun w hs => ⟨trivial, ?_⟩
      try simp only [Nat.zero_add] at hs
      try simp only [List.setIfInBounds_toArray] at hs
      try simp only [List.set_cons_succ] at hs
      try simp only [List.set_cons_zero] at hs
      refine ns_done ?_
      have hs := hs.fold (node_fold c r2 (.slice a5 [y].length c5) (.slice a6 [rb, r].length c6) [y] [rb, r])
      rw [Ks_cut (m := d - 1 + 1) hlen] at hs
      simp only [mul_assoc'] at hs
      have hs := hs.fold (tree_fold (c := c) (h := h) (b := rb) (its := t.its.take (d - 1)) (kids := t.kids.take (d - 1 + 1)) (bs := bs.take (d - 1 + 1)) (by rw [List.length_take, List.length_take, hlen]))
      have hs := hs.fold (tree_fold (c := c) (h := h) (b := r) (its := t.its.drop (d - 1 + 1)) (kids := t.kids.drop (d - 1 + 1)) (bs := bs.drop (d - 1 + 1)) (by rw [List.length_drop, List.length_drop, hlen]))
      have eK : Ks c (h + 1) [cutL t (d - 1), cutR t (d - 1)] [rb, r] = Tp c h (.mk (t.its.take (d - 1)) (t.kids.take (d - 1 + 1))) rb * Tp c h (.mk (t.its.drop (d - 1 + 1)) (t.kids.drop (d - 1 + 1))) r := by
        show _ * (_ * 1) = _
        rw [mul_one']; rfl
      have hs := hs.fold (Ent.of_eq eK.symm)
      have hs := hs.fold (tree_fold (c := c) (h := h + 1) (b := r2) (its := [y]) (kids := [cutL t (d - 1), cutR t (d - 1)]) (bs := [rb, r]) rfl)
      exact ⟨rfl, rfl, rfl, h + 1, .mk [y] [cutL t (d - 1), cutR t (d - 1)], r2, root_cut hd hg hfull hy, by show 1 < _; omega, hs.out⟩
    refine WP_skip ?_
    have hs := hs.fold (tree_fold (c := c) (h := h) (b := rb) (its := t.its) (kids := t.kids) hlen)
    rw [Tr.eta] at hs
    exact ⟨rfl, rfl, rfl, h, t, rb, hg, by have := of_decide_eq_false hif2; omega, hs.out⟩
  rintro σ w ⟨g0, g3, g4, h1, t1, rb1, hg1, hsm, hs⟩
  obtain ⟨σ, rfl⟩ := rebase g0
  obtain ⟨σ, rfl⟩ := rebase (σ := σ) g3
  obtain ⟨σ, rfl⟩ := rebase (σ := σ) g4
  clear g0 g3 g4
  refine WP_seq_cut (fun σ w => ∃ (b9 : Nat) (t2 : Tr), Good d h1 t2 (put l x) ∧ σ 0 = ptr b ∧ σ 4 = .pointer (some ⟨b4, 0, none⟩) ∧ σ 9 = .pointer (some ⟨b9, 0, none⟩) ∧ σ 10 = .bool (get l x.key).isSome ∧ St w0 (pts b9 (.cells #[.int .i64 ((get l x.key).getD zero).key, .int .i64 ((get l x.key).getD zero).val] 45 (0, 0)) * (pts b4 (.cells #[.int .i64 0, .int .i64 0] 45 (0, 0)) * (pts b (.cells #[.int .i64 d, .int .i64 l.length, ptr rb1, ptr c] 87 (0, 0)) * (Tp c h1 t2 rb1 * (Ctx c fl * F))))) w) ?_ ?_ -- R12.cut
  · -- R12
    refine WP_tre hs mix [0, 1, 3, 7, 0, 0, 32, 127, 255, 511, 511, 0, 3071, 8191] (.cons ⟨0, 0, []⟩ (.cons ⟨1, 0, []⟩ (.cons ⟨2, 0, []⟩ (.cons ⟨3, 1, []⟩ (.cons ⟨4, 1, []⟩ (.cons ⟨5, 0, []⟩ (.fork ⟨6, 2, [3, 4]⟩ (.fork ⟨7, 2, []⟩ (.cons ⟨8, 0, []⟩ (.cons ⟨9, 0, []⟩ (.cons ⟨10, 0, []⟩ (.cons ⟨11, 2, []⟩ (.cons ⟨12, 2, []⟩ (.cons ⟨13, 0, []⟩ .nil)))))) ⟨11, 2, [3, 4]⟩ (.cons ⟨7, 2, []⟩ (.cons ⟨8, 0, []⟩ (.cons ⟨9, 0, []⟩ (.cons ⟨10, 0, []⟩ (.cons ⟨12, 2, []⟩ (.cons ⟨13, 0, []⟩ .nil))))))) ⟨11, 2, [3, 4]⟩ (.cons ⟨6, 2, [3, 4]⟩ (.cons ⟨7, 2, []⟩ (.cons ⟨8, 0, []⟩ (.cons ⟨9, 0, []⟩ (.cons ⟨10, 0, []⟩ (.cons ⟨12, 2, []⟩ (.cons ⟨13, 0, []⟩ .nil)))))))))))))) (by kernel_rfl) ?_
    intro w hs
    refine ns_move rfl rfl ?_
    refine ns_nil rfl rfl rfl ?_
    refine ns_fld fo_87_2 rfl rfl rfl ?_
    have hk3 := hs.c b 2
    have hk4 : Cells w ⟨b3, 0, none⟩ [.int .i64 x.key, .int .i64 x.val] := St.cells (n := 2) hs (by rfl)
    refine ns_ldB pl_85 hs rfl rfl rfl (by rfl) ?_
    refine ns_ldAB [.int .i64 x.key, .int .i64 x.val] ag_45 hs rfl rfl rfl (by rfl) (by rfl) (by decide) ?_
    refine ns_move rfl rfl ?_
    refine ns_fork ?_ ?_
    · refine ns_callK (f69_ok b d (.int .i64 l.length) (ptr rb1) (ptr c) (by omega) hd2) ck_69 (hs.foc (pts b (.cells #[.int .i64 d, .int .i64 l.length, ptr rb1, ptr c] 87 (0, 0)))) rfl rfl rfl rfl ?_
      refine fun v133 w hs => ?_
      replace hs := hs.pu
      obtain ⟨rfl, hs⟩ := hs
      refine ⟨⟨hs.c b 2, St.cells (n := 2) hs (by rfl), trivial⟩, ?_⟩
      have hk3 := hs.c b 2
      have hk4 : Cells w ⟨b3, 0, none⟩ [.int .i64 x.key, .int .i64 x.val] := St.cells (n := 2) hs (by rfl)
      refine ns_fork ?_ ?_
      · refine ns_call (f71_ok c fl (d - 1) (2 * d - 1) x (by omega) (by omega) (by omega) h1 rb1 t1 hg1.1 hsm (by rw [hg1.2.2.1]; exact hg1.2.2.2.1)) ck_71 (hs.foc (Tp c h1 t1 rb1 * Ctx c fl)) rfl rfl rfl rfl ?_
        intro v134 w hs
        unfold InsP at hs
        rw [hg1.2.2.1] at hs
        replace hs := hs.ex
        obtain ⟨t2, hs⟩ := hs
        replace hs := hs.pu
        obtain ⟨⟨rfl, q1, q2, q3, q4⟩, hs⟩ := hs
        simp only [mul_assoc'] at hs
        refine ns_move rfl rfl ?_
        refine ns_ext rfl rfl rfl rfl ?_
        refine ns_ext rfl rfl rfl rfl ?_
        refine ns_alloc zc_45 hs rfl rfl ?_
        intro b9 w hs
        refine ns_stA (#[.int .i64 ((get l x.key).getD zero).key, .int .i64 ((get l x.key).getD zero).val]) ag_45 rfl (by decide) hs rfl rfl rfl rfl (by intro u hu; simp at hu; rcases hu with rfl | rfl <;> rfl) (by simp) ?_
        refine fun w hs => ⟨trivial, ?_⟩
        rw [splice2] at hs
        refine ns_asg rfl rfl ?_
        refine ns_done ?_
        exact ⟨b9, t2, good_put hg1 q1 q3 q4 (fun h0 => by have := hg1.2.2.2.2 h0; omega), rfl, rfl, rfl, rfl, hs.out⟩
      · refine ns_allocK zc_45 hs rfl rfl ?_
        refine fun b9 w hs hx => ⟨⟨hx _ _ hk3, fun j v hj => hx _ _ (hk4 j v hj), trivial⟩, ?_⟩
        refine ns_call (f71_ok c fl (d - 1) (2 * d - 1) x (by omega) (by omega) (by omega) h1 rb1 t1 hg1.1 hsm (by rw [hg1.2.2.1]; exact hg1.2.2.2.1)) ck_71 (hs.foc (Tp c h1 t1 rb1 * Ctx c fl)) rfl rfl rfl rfl ?_
        intro v134 w hs
        unfold InsP at hs
        rw [hg1.2.2.1] at hs
        replace hs := hs.ex
        obtain ⟨t2, hs⟩ := hs
        replace hs := hs.pu
        obtain ⟨⟨rfl, q1, q2, q3, q4⟩, hs⟩ := hs
        simp only [mul_assoc'] at hs
        refine ns_move rfl rfl ?_
        refine ns_ext rfl rfl rfl rfl ?_
        refine ns_ext rfl rfl rfl rfl ?_
        refine ns_stA (#[.int .i64 ((get l x.key).getD zero).key, .int .i64 ((get l x.key).getD zero).val]) ag_45 rfl (by decide) hs rfl rfl rfl rfl (by intro u hu; simp at hu; rcases hu with rfl | rfl <;> rfl) (by simp) ?_
        refine fun w hs => ⟨trivial, ?_⟩
        rw [splice2] at hs
        refine ns_asg rfl rfl ?_
        refine ns_done ?_
        exact ⟨b9, t2, good_put hg1 q1 q3 q4 (fun h0 => by have := hg1.2.2.2.2 h0; omega), rfl, rfl, rfl, rfl, hs.out⟩
    · refine ns_allocK zc_45 hs rfl rfl ?_
      refine fun b9 w hs hx => ⟨⟨hx _ _ hk3, fun j v hj => hx _ _ (hk4 j v hj), trivial⟩, ?_⟩
      refine ns_callK (f69_ok b d (.int .i64 l.length) (ptr rb1) (ptr c) (by omega) hd2) ck_69 (hs.foc (pts b (.cells #[.int .i64 d, .int .i64 l.length, ptr rb1, ptr c] 87 (0, 0)))) rfl rfl rfl rfl ?_
      refine fun v133 w hs => ?_
      replace hs := hs.pu
      obtain ⟨rfl, hs⟩ := hs
      refine ⟨⟨hs.c b 2, St.cells (n := 2) hs (by rfl), trivial⟩, ?_⟩
      have hk3 := hs.c b 2
      have hk4 : Cells w ⟨b3, 0, none⟩ [.int .i64 x.key, .int .i64 x.val] := St.cells (n := 2) hs (by rfl)
      refine ns_call (f71_ok c fl (d - 1) (2 * d - 1) x (by omega) (by omega) (by omega) h1 rb1 t1 hg1.1 hsm (by rw [hg1.2.2.1]; exact hg1.2.2.2.1)) ck_71 (hs.foc (Tp c h1 t1 rb1 * Ctx c fl)) rfl rfl rfl rfl ?_
      intro v134 w hs
      unfold InsP at hs
      rw [hg1.2.2.1] at hs
      replace hs := hs.ex
      obtain ⟨t2, hs⟩ := hs
      replace hs := hs.pu
      obtain ⟨⟨rfl, q1, q2, q3, q4⟩, hs⟩ := hs
      simp only [mul_assoc'] at hs
      refine ns_move rfl rfl ?_
      refine ns_ext rfl rfl rfl rfl ?_
      refine ns_ext rfl rfl rfl rfl ?_
      refine ns_stA (#[.int .i64 ((get l x.key).getD zero).key, .int .i64 ((get l x.key).getD zero).val]) ag_45 rfl (by decide) hs rfl rfl rfl rfl (by intro u hu; simp at hu; rcases hu with rfl | rfl <;> rfl) (by simp) ?_
      refine fun w hs => ⟨trivial, ?_⟩
      rw [splice2] at hs
      refine ns_asg rfl rfl ?_
      refine ns_done ?_
      exact ⟨b9, t2, good_put hg1 q1 q3 q4 (fun h0 => by have := hg1.2.2.2.2 h0; omega), rfl, rfl, rfl, rfl, hs.out⟩
  rintro σ w ⟨b9, t2, hg2, g0, g4, g9, g10, hs⟩
  obtain ⟨σ, rfl⟩ := rebase g0
  obtain ⟨σ, rfl⟩ := rebase (σ := σ) g4
  obtain ⟨σ, rfl⟩ := rebase (σ := σ) g9
  obtain ⟨σ, rfl⟩ := rebase (σ := σ) g10
  clear g0 g4 g9 g10
  have hlp := len_put hg.2.2.2.1 x
  refine WP_seq_cut (fun σ w => σ 4 = .pointer (some ⟨b4, 0, none⟩) ∧ σ 9 = .pointer (some ⟨b9, 0, none⟩) ∧ σ 10 = .bool (get l x.key).isSome ∧ St w0 (pts b9 (.cells #[.int .i64 ((get l x.key).getD zero).key, .int .i64 ((get l x.key).getD zero).val] 45 (0, 0)) * (pts b4 (.cells #[.int .i64 0, .int .i64 0] 45 (0, 0)) * (pts b (.cells #[.int .i64 d, .int .i64 (put l x).length, ptr rb1, ptr c] 87 (0, 0)) * (Tp c h1 t2 rb1 * (Ctx c fl * F))))) w) ?_ ?_ -- S2
  · refine WP_seq ?_
    -- R13
    refine WP_seqr [⟨0, 0, []⟩, ⟨1, 0, []⟩] (by kernel_rfl) ?_
    refine ns_move rfl rfl ?_
    refine ns_not rfl rfl rfl ?_
    refine ns_done ?_
    refine WP_if rfl (fun hif3 => ?_) (fun hif3 => ?_)
    · have hn : (get l x.key).isSome = false := by simpa using hif3
      rw [hn] at hlp
      simp only [Bool.false_eq_true, if_false] at hlp
      -- R14
      refine WP_seqr [⟨0, 0, []⟩, ⟨1, 0, []⟩, ⟨2, 0, []⟩, ⟨3, 1, []⟩, ⟨4, 0, []⟩, ⟨5, 0, []⟩, ⟨6, 0, []⟩, ⟨7, 2, []⟩] (by kernel_rfl) ?_
      refine ns_move rfl rfl ?_
      refine ns_nil rfl rfl rfl ?_
      refine ns_fld fo_87_1 rfl rfl rfl ?_
      refine ns_ldB pl_3 hs rfl rfl rfl (by rfl) ?_
      refine ns_add rfl rfl rfl rfl (by omega) (by omega) ?_
      refine ns_nil rfl rfl rfl ?_
      refine ns_fld fo_87_1 rfl rfl rfl ?_
      refine ns_st (.int .i64 ((l.length + 1 : Nat) : Int)) pl_3 hs rfl rfl rfl rfl rfl (by simp) ?_
      refine fun w hs => ⟨trivial, ?_⟩
      try simp only [Nat.zero_add] at hs
      try simp only [List.setIfInBounds_toArray] at hs
      try simp only [List.set_cons_succ] at hs
      try simp only [List.set_cons_zero] at hs
      refine ns_done ?_
      rw [← hlp] at hs
      exact ⟨rfl, rfl, rfl, hs.out⟩
    refine WP_skip ?_
    have hn : (get l x.key).isSome = true := by simpa using hif3
    rw [if_pos hn] at hlp
    rw [← hlp] at hs
    exact ⟨rfl, rfl, rfl, hs.out⟩
  rintro σ w ⟨g4, g9, g10, hs⟩
  obtain ⟨σ, rfl⟩ := rebase g4
  obtain ⟨σ, rfl⟩ := rebase (σ := σ) g9
  obtain ⟨σ, rfl⟩ := rebase (σ := σ) g10
  clear g4 g9 g10
  refine WP_seq ?_
  -- R15
  refine WP_seqr [⟨0, 1, []⟩, ⟨1, 0, []⟩, ⟨2, 2, []⟩, ⟨3, 0, []⟩] (by kernel_rfl) ?_
  refine ns_ldAB _ ag_45 hs rfl rfl rfl (by rfl) (by rfl) (by decide) ?_
  refine ns_move rfl rfl ?_
  refine ns_stA (#[.int .i64 ((get l x.key).getD zero).key, .int .i64 ((get l x.key).getD zero).val]) ag_45 rfl (by decide) hs rfl rfl rfl rfl (by intro u hu; simp at hu; rcases hu with rfl | rfl <;> rfl) (by simp) ?_
  refine fun w hs => ⟨trivial, ?_⟩
  refine ns_asg rfl rfl ?_
  refine ns_done ?_
  refine WP_ret ?_
  have hload := run_loadVarA (P := Try.prog) (t := 45) (n := 2) (ad := ⟨b4, 0, none⟩) (vs := [.int .i64 ((get l x.key).getD zero).key, .int .i64 ((get l x.key).getD zero).val]) ag_45 rfl (by decide) w (St.cells (n := 2) hs (by rfl))
  have hs := hs.fold (bt_tree (c := c) (b := b) (rb := rb1) (n := (put l x).length) hg2 rfl)
  exact ⟨_, resCT 4 45 5 rfl hload, St.mk_pu rfl hs.out⟩
end Go.Proofs.Ytnnembkganlbpaa
