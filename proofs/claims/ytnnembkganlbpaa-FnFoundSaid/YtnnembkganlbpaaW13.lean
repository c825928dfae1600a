/- The walks of Clear: a tree's nodes go back to the free list, the root is let go. -/
import Derived.Test.YtnnembkganlbpaaW12
namespace Go.Proofs.Ytnnembkganlbpaa
open Go Go.Sl Go.Net Go.Wk Go.Bt Go.RowKit

theorem Ks_drop {c h j : Nat} {kids : List Tr} {bs : List Nat} {k : Tr} {x : Nat} (hk : kids[j]? = some k) (hx : bs[j]? = some x) : Ks c h (kids.drop j) (bs.drop j) = Tq c h k x * Ks c h (kids.drop (j + 1)) (bs.drop (j + 1)) := by
  obtain ⟨h1, e1⟩ := List.getElem?_eq_some_iff.1 hk
  obtain ⟨h2, e2⟩ := List.getElem?_eq_some_iff.1 hx
  rw [List.drop_eq_getElem_cons h1, List.drop_eq_getElem_cons h2, e1, e2]
  rfl
set_option maxHeartbeats 800000 in
theorem f79_step (c fl h b : Nat) (t : Tr) (hlk : t.kids.length < 1000000)
    (hkid : ∀ (i : Nat) (k : Tr) (xb : Nat), t.kids[i]? = some k → Tri Try.prog 79 #[ptr xb, ptr c] (Tq c h k xb * Ctx c fl) fun v => ex fun q : Bool => pu (v = .bool q) * Ctx c fl) :
    Tri Try.prog 79 #[ptr b, ptr c] (Tp c h t b * Ctx c fl) fun v => ex fun q : Bool => pu (v = .bool q) * Ctx c fl := by
  intro w0 F w hs
  simp only [mul_assoc'] at hs
  obtain ⟨bs, hlen, hs⟩ := St.tree hs
  obtain ⟨⟨v1, v2⟩, hs⟩ := hs.ex
  simp only [mul_assoc'] at hs
  obtain ⟨a2, c2, rfl, hc2, hcm2⟩ := (hs.foc (PArr v2 bs)).arr_form
  refine calls_WP 25 #[.tmp 4] Try.func79 rfl Try.ntmps79 rfl (Nat.le_of_ble_eq_true rfl) ?_
  refine WP_seq ?_
  -- R0
  refine WP_seqr [⟨0, 0, []⟩] (by kernel_rfl) ?_
  refine ns_asg rfl rfl ?_
  refine ns_done ?_
  refine WP_seq_cut (fun σ w => σ 0 = ptr b ∧ σ 1 = ptr c ∧ St w0 (NodeP c b t.its bs * (Ctx c fl * F)) w) ?_ ?_ -- S1
  · refine WP_seq ?_
    -- R1
    refine WP_seqr [⟨0, 0, []⟩, ⟨1, 0, []⟩, ⟨2, 0, []⟩, ⟨3, 1, []⟩, ⟨4, 0, []⟩, ⟨5, 0, []⟩] (by kernel_rfl) ?_
    refine ns_move rfl rfl ?_
    refine ns_nil rfl rfl rfl ?_
    refine ns_fld fo_103_1 rfl rfl rfl ?_
    refine ns_ldB pl_101 hs rfl rfl rfl (by rfl) ?_
    refine ns_len sl_101 rfl rfl rfl ?_
    refine ns_move rfl rfl ?_
    refine ns_done ?_
    refine WP_block ?_
    refine WP_loop (fun m σ w => ∃ j : Nat, m = bs.length - j ∧ j ≤ bs.length ∧ σ 12 = .int .i64 j ∧ σ 0 = ptr b ∧ σ 1 = ptr c ∧ σ 10 = .slice a2 bs.length c2 ∧ σ 11 = .int .i64 bs.length ∧ St w0 (pts b (.cells #[v1, .slice a2 bs.length c2, ptr c] 103 (0, 0)) * (IArr v1 t.its * (PArr (.slice a2 bs.length c2) bs * (Ks c h (t.kids.drop j) (bs.drop j) * (Ctx c fl * F))))) w) bs.length ?_ ?_ -- L1
    · exact ⟨0, by omega, by omega, rfl, rfl, rfl, rfl, rfl, hs⟩
    rintro m σ w ⟨j, rfl, hj, g12, g0, g1, g10, g11, hs⟩
    obtain ⟨σ, rfl⟩ := rebase g12
    obtain ⟨σ, rfl⟩ := rebase (σ := σ) g0
    obtain ⟨σ, rfl⟩ := rebase (σ := σ) g1
    obtain ⟨σ, rfl⟩ := rebase (σ := σ) g10
    obtain ⟨σ, rfl⟩ := rebase (σ := σ) g11
    clear g12 g0 g1 g10 g11
    refine WP_seq ?_
    -- R2
    refine WP_seqr [⟨0, 0, []⟩] (by kernel_rfl) ?_
    refine ns_cmp _ rfl rfl rfl rfl rfl ?_
    refine ns_done ?_
    refine WP_seq ?_ -- S2
    refine WP_if' rfl (fun hif1 => ?_) (fun hif1 => ?_)
    · refine WP_exit ?_
      have hs := hs.fold (node_fold c b v1 (.slice a2 bs.length c2) t.its bs)
      exact ⟨rfl, rfl, St.out (H := NodeP c b t.its bs * (Ks c h (t.kids.drop j) (bs.drop j) * (Ctx c fl * F))) hs⟩
    refine WP_skip ?_
    refine WP_seq ?_ -- S3
    refine WP_block ?_
    refine WP_seq ?_
    have hj2 : j < bs.length := by have := of_decide_eq_true hif1; omega
    obtain ⟨k, hk⟩ : ∃ k, t.kids[j]? = some k := ⟨t.kids[j]'(by omega), List.getElem?_eq_getElem (by omega)⟩
    obtain ⟨xb, hxb⟩ : ∃ xb, bs[j]? = some xb := ⟨bs[j]'(by omega), List.getElem?_eq_getElem (by omega)⟩
    rw [Ks_drop hk hxb] at hs
    simp only [mul_assoc'] at hs
    obtain ⟨_, hz, _⟩ | ⟨g, cap, cur, hv, hc, hcm, hsz, htk, hs⟩ := (hs.foc (PArr (.slice a2 bs.length c2) (bs))).arr
    · omega
    cases hv
    -- R3
    refine WP_seqr [⟨0, 0, []⟩, ⟨1, 1, []⟩, ⟨2, 0, []⟩] (by kernel_rfl) ?_
    refine ns_idx j sl_101 rfl rfl rfl rfl rfl hj2 ?_
    refine ns_ld pl_85 rfl rfl rfl (ptr_cell hs htk _ hxb) ?_
    refine ns_asg rfl rfl ?_
    refine ns_done ?_
    have hs := (hs.foc (pts g (.cells cur 85 (0, 0)))).mk_arr' hc hcm hsz htk
    refine WP_seq ?_
    -- R4
    refine WP_seqr [⟨0, 0, []⟩, ⟨1, 0, []⟩, ⟨2, 2, []⟩, ⟨3, 0, []⟩] (by kernel_rfl) ?_
    refine ns_move rfl rfl ?_
    refine ns_move rfl rfl ?_
    refine ns_call (hkid j k xb hk) ck_79 (hs.foc (Tq c h k xb * Ctx c fl)) rfl rfl rfl rfl ?_
    intro v18 w hs
    replace hs := hs.ex
    obtain ⟨q, hs⟩ := hs
    replace hs := hs.pu
    obtain ⟨rfl, hs⟩ := hs
    refine ns_not rfl rfl rfl ?_
    refine ns_done ?_
    refine WP_if rfl (fun hif2 => ?_) (fun hif2 => ?_)
    · refine WP_seq ?_
      -- R5
      refine WP_seqr [⟨0, 0, []⟩] (by kernel_rfl) ?_
      refine ns_asg rfl rfl ?_
      refine ns_done ?_
      refine WP_ret ?_
      exact ⟨_, res1 _, St.mk_ex false (St.mk_pu rfl (hs.out (P := Ctx c fl * F)))⟩
    refine WP_skip ?_
    -- R6
    refine WP_seqr [⟨0, 0, []⟩, ⟨1, 0, []⟩] (by kernel_rfl) ?_
    refine ns_add rfl rfl rfl rfl (by omega) (by omega) ?_
    refine ns_move rfl rfl ?_
    refine ns_done ?_
    exact ⟨bs.length - (j + 1), by omega, j + 1, rfl, by omega, congrArg (Value.int .i64) (by omega : ((j : Int) + 1) = ((j + 1 : Nat) : Int)), rfl, rfl, rfl, rfl, hs.out⟩
    
  rintro σ w ⟨g0, g1, hs⟩
  obtain ⟨σ, rfl⟩ := rebase g0
  obtain ⟨σ, rfl⟩ := rebase (σ := σ) g1
  clear g0 g1
  refine WP_seq ?_
  -- R7
  refine WP_seqr [⟨0, 0, []⟩, ⟨1, 0, []⟩, ⟨2, 2, []⟩, ⟨3, 0, []⟩, ⟨4, 0, []⟩] (by kernel_rfl) ?_
  refine ns_move rfl rfl ?_
  refine ns_move rfl rfl ?_
  refine ns_call (f89_ok c fl b t.its bs) ck_89 (hs.foc (NodeP c b t.its bs * Ctx c fl)) rfl rfl rfl rfl ?_
  intro v23 w hs
  replace hs := hs.ex
  obtain ⟨kk, hs⟩ := hs
  replace hs := hs.pu
  obtain ⟨rfl, hs⟩ := hs
  refine ns_cmp _ rfl rfl rfl rfl rfl ?_
  refine ns_asg rfl rfl ?_
  refine ns_done ?_
  refine WP_ret ?_
  exact ⟨_, res1 _, St.mk_ex _ (St.mk_pu rfl hs)⟩
theorem f79_ok (c fl mn mx : Nat) (hmx : mx < 10000) : ∀ (h b : Nat) (t : Tr), Ok mn mx h t → t.its.length ≤ mx → Tri Try.prog 79 #[ptr b, ptr c] (Tp c h t b * Ctx c fl) fun v => ex fun q : Bool => pu (v = .bool q) * Ctx c fl := by
  intro h
  induction h with
  | zero => exact fun b t hO hl => f79_step c fl 0 b t (by rw [show t.kids = [] from hO]; decide) fun i k xb hk => by rw [show t.kids = [] from hO] at hk; simp at hk
  | succ h ih => exact fun b t hO hl => f79_step c fl (h + 1) b t (by have := hO.1; omega) fun i k xb hk => ih xb k (kid_ok hO hk).2.2 (kid_ok hO hk).2.1
theorem f66_n (c fl d b : Nat) (q : Bool) : Tri Try.prog 66 #[ptr b, .bool q] (BtN c d b * Ctx c fl) fun _ => BT c d b [] * Ctx c fl := by
  intro w0 F w hs
  unfold BtN at hs
  simp only [mul_assoc'] at hs
  refine calls_WP 27 #[] Try.func66 rfl Try.ntmps66 rfl (Nat.le_of_ble_eq_true rfl) ?_
  refine WP_seq_cut (fun σ w => σ 0 = ptr b ∧ St w0 (pts b (.cells #[.int .i64 d, .int .i64 0, .pointer none, ptr c] 87 (0, 0)) * (Ctx c fl * F)) w) ?_ ?_ -- S1
  · refine WP_seq ?_
    -- R0
    refine WP_seqr [⟨0, 0, []⟩, ⟨1, 0, []⟩, ⟨2, 0, []⟩, ⟨3, 1, []⟩, ⟨4, 0, []⟩, ⟨5, 0, []⟩, ⟨6, 0, []⟩, ⟨7, 0, []⟩] (by kernel_rfl) ?_
    refine ns_move rfl rfl ?_
    refine ns_nil rfl rfl rfl ?_
    refine ns_fld fo_87_2 rfl rfl rfl ?_
    refine ns_ldB pl_85 hs rfl rfl rfl (by rfl) ?_
    refine ns_pne true pt_85 rfl rfl rfl rfl rfl ?_
    refine ns_move rfl rfl ?_
    refine ns_no rfl rfl ?_
    refine ns_pick rfl rfl rfl ?_
    refine ns_done ?_
    refine WP_false rfl ?_ -- if1
    refine WP_skip ?_
    exact ⟨rfl, hs⟩
  rintro σ w ⟨g0, hs⟩
  obtain ⟨σ, rfl⟩ := rebase g0
  -- R2
  refine WP_seqr [⟨0, 0, []⟩, ⟨1, 0, []⟩, ⟨2, 0, []⟩, ⟨3, 0, []⟩, ⟨4, 2, []⟩, ⟨5, 0, []⟩, ⟨6, 0, []⟩, ⟨7, 2, []⟩] (by kernel_rfl) ?_
  refine ns_move rfl rfl ?_
  refine ns_move rfl rfl ?_
  refine ns_nil rfl rfl rfl ?_
  refine ns_fld fo_87_2 rfl rfl rfl ?_
  refine ns_st (.pointer none) pl_85 hs rfl rfl rfl rfl rfl (by simp) ?_
  refine fun w hs => ⟨trivial, ?_⟩
  try simp only [Nat.zero_add] at hs
  try simp only [List.setIfInBounds_toArray] at hs
  try simp only [List.set_cons_succ] at hs
  try simp only [List.set_cons_zero] at hs
  refine ns_nil rfl rfl rfl ?_
  refine ns_fld fo_87_1 rfl rfl rfl ?_
  refine ns_st (.int .i64 0) pl_3 hs rfl rfl rfl rfl rfl (by simp) ?_
  refine fun w hs => ⟨trivial, ?_⟩
  try simp only [Nat.zero_add] at hs
  try simp only [List.setIfInBounds_toArray] at hs
  try simp only [List.set_cons_succ] at hs
  try simp only [List.set_cons_zero] at hs
  refine ns_done ?_
  have hs := hs.fold (bt_nil2 c d b)
  exact ⟨_, res0, hs.out⟩
theorem f66_t (c fl d b h rb : Nat) (q : Bool) (t : Tr) (l : List It) (hg : Good d h t l) (hd2 : d ≤ 1000) : Tri Try.prog 66 #[ptr b, .bool q] (pts b (.cells #[.int .i64 d, .int .i64 l.length, ptr rb, ptr c] 87 (0, 0)) * (Tp c h t rb * Ctx c fl)) fun _ => BT c d b [] * Ctx c fl := by
  intro w0 F w hs
  simp only [mul_assoc'] at hs
  refine calls_WP 27 #[] Try.func66 rfl Try.ntmps66 rfl (Nat.le_of_ble_eq_true rfl) ?_
  refine WP_seq_cut (fun σ w => σ 0 = ptr b ∧ St w0 (pts b (.cells #[.int .i64 d, .int .i64 l.length, ptr rb, ptr c] 87 (0, 0)) * (Ctx c fl * F)) w) ?_ ?_ -- S1
  · refine WP_seq ?_
    -- R0
    refine WP_seqr [⟨0, 0, []⟩, ⟨1, 0, []⟩, ⟨2, 0, []⟩, ⟨3, 1, []⟩, ⟨4, 0, []⟩, ⟨5, 0, []⟩, ⟨6, 0, []⟩, ⟨7, 0, []⟩] (by kernel_rfl) ?_
    refine ns_move rfl rfl ?_
    refine ns_nil rfl rfl rfl ?_
    refine ns_fld fo_87_2 rfl rfl rfl ?_
    refine ns_ldB pl_85 hs rfl rfl rfl (by rfl) ?_
    refine ns_pne false pt_85 rfl rfl rfl rfl (by simp [cmpP]) ?_
    refine ns_move rfl rfl ?_
    refine ns_move rfl rfl ?_
    refine ns_pick rfl rfl rfl ?_
    refine ns_done ?_
    refine WP_if rfl (fun hif1 => ?_) (fun hif1 => ?_)
    · unfold Ctx CowP at hs
      simp only [mul_assoc'] at hs
      -- R1
      refine WP_net hs mix [0, 1, 3, 7, 0, 16, 48, 112, 255] [⟨0, 0, []⟩, ⟨1, 0, []⟩, ⟨2, 0, []⟩, ⟨3, 1, []⟩, ⟨4, 0, []⟩, ⟨5, 0, []⟩, ⟨6, 0, []⟩, ⟨7, 1, []⟩, ⟨8, 2, []⟩] (by kernel_rfl) ?_
      intro w hs
      refine ns_move rfl rfl ?_
      refine ns_nil rfl rfl rfl ?_
      refine ns_fld fo_87_2 rfl rfl rfl ?_
      refine ns_ldB pl_85 hs rfl rfl rfl (by rfl) ?_
      refine ns_move rfl rfl ?_
      refine ns_nil rfl rfl rfl ?_
      refine ns_fld fo_87_3 rfl rfl rfl ?_
      refine ns_ldB pl_82 hs rfl rfl rfl (by rfl) ?_
      have hs := hs.fold (ctx_fold c fl)
      refine ns_call (f79_ok c fl (d - 1) (2 * d - 1) (by omega) h rb t hg.1 hg.2.1) ck_79 (hs.foc (Tp c h t rb * Ctx c fl)) rfl rfl rfl rfl ?_
      intro v20 w hs
      replace hs := hs.ex
      obtain ⟨q2, hs⟩ := hs
      replace hs := hs.pu
      obtain ⟨rfl, hs⟩ := hs
      refine ns_done ?_
      exact ⟨rfl, hs.out⟩
    refine WP_skip ?_
    exact ⟨rfl, (hs.foc (Tp c h t rb)).drop⟩
  rintro σ w ⟨g0, hs⟩
  obtain ⟨σ, rfl⟩ := rebase g0
  -- R2
  refine WP_seqr [⟨0, 0, []⟩, ⟨1, 0, []⟩, ⟨2, 0, []⟩, ⟨3, 0, []⟩, ⟨4, 2, []⟩, ⟨5, 0, []⟩, ⟨6, 0, []⟩, ⟨7, 2, []⟩] (by kernel_rfl) ?_
  refine ns_move rfl rfl ?_
  refine ns_move rfl rfl ?_
  refine ns_nil rfl rfl rfl ?_
  refine ns_fld fo_87_2 rfl rfl rfl ?_
  refine ns_st (.pointer none) pl_85 hs rfl rfl rfl rfl rfl (by simp) ?_
  refine fun w hs => ⟨trivial, ?_⟩
  try simp only [Nat.zero_add] at hs
  try simp only [List.setIfInBounds_toArray] at hs
  try simp only [List.set_cons_succ] at hs
  try simp only [List.set_cons_zero] at hs
  refine ns_nil rfl rfl rfl ?_
  refine ns_fld fo_87_1 rfl rfl rfl ?_
  refine ns_st (.int .i64 0) pl_3 hs rfl rfl rfl rfl rfl (by simp) ?_
  refine fun w hs => ⟨trivial, ?_⟩
  try simp only [Nat.zero_add] at hs
  try simp only [List.setIfInBounds_toArray] at hs
  try simp only [List.set_cons_succ] at hs
  try simp only [List.set_cons_zero] at hs
  refine ns_done ?_
  have hs := hs.fold (bt_nil2 c d b)
  exact ⟨_, res0, hs.out⟩
theorem f66_ok (c fl d b : Nat) (q : Bool) (l : List It) (hd2 : d ≤ 1000) : Tri Try.prog 66 #[ptr b, .bool q] (BT c d b l * Ctx c fl) fun _ => BT c d b [] * Ctx c fl := by
  intro w0 F w hs
  rw [mul_assoc'] at hs
  replace hs := St.bt hs
  rcases hs with ⟨rfl, hs⟩ | ⟨h, t, rb, hg, hs⟩
  · exact f66_n c fl d b q w0 F w (hs.eq (by ac_rfl))
  · exact f66_t c fl d b h rb q t l hg hd2 w0 F w (hs.eq (by ac_rfl))
end Go.Proofs.Ytnnembkganlbpaa
