/- The walks of looking: a key in a tree, the least, the greatest. -/
import Derived.Test.YtnnembkganlbpaaTm
namespace Go.Proofs.Ytnnembkganlbpaa
open Go Go.Sl Go.Net Go.Wk Go.Bt Go.RowKit

/-- the answer of a search: an item and whether there is one -/
def ans (o : Option It) : Value := .tuple #[itV (o.getD zero), .bool o.isSome]
theorem f72_step (c fl mn mx h b : Nat) (x : It) (t : Tr) (hO : Ok mn mx h t) (hl : t.its.length < 100000) (hS : Srt (flat h t))
    (hkid : ∀ (i : Nat) (k : Tr) (xb : Nat), t.kids[i]? = some k → Tri Try.prog 72 #[ptr xb, itV x] (Tq c h k xb * Ctx c fl) fun v => pu (v = ans (get (flk h k) x.key)) * (Tq c h k xb * Ctx c fl)) :
    Tri Try.prog 72 #[ptr b, itV x] (Tp c h t b * Ctx c fl) fun v => pu (v = ans (get (flat h t) x.key)) * (Tp c h t b * Ctx c fl) := by
  have hSi := srt_its hO hS
  intro w0 F w hs
  simp only [mul_assoc'] at hs
  obtain ⟨bs, hlen, hs⟩ := St.tree hs
  obtain ⟨⟨v1, v2⟩, hs⟩ := hs.ex
  unfold Ctx CowP at hs
  simp only [mul_assoc'] at hs
  obtain ⟨a2, c2, rfl, hc2, hcm2⟩ := (hs.foc (PArr v2 bs)).arr_form
  refine calls_WP 49 #[.cell 4 45, .tmp 5] Try.func72 rfl Try.ntmps72 rfl (Nat.le_of_ble_eq_true rfl) ?_
  refine WP_seq ?_
  -- R0
  refine WP_seqr [⟨0, 2, []⟩, ⟨1, 2, []⟩, ⟨2, 0, []⟩] (by kernel_rfl) ?_
  refine ns_box (#[.int .i64 x.key, .int .i64 x.val]) hs rfl rfl rfl rfl ?_
  intro b3 w hs
  refine ns_alloc zc_45 hs rfl rfl ?_
  intro b4 w hs
  refine ns_asg rfl rfl ?_
  refine ns_done ?_
  refine WP_seq ?_
  -- R1
  refine WP_net hs mix [0, 1, 3, 7, 0, 0, 32, 96, 224, 480, 992, 2016, 4095, 8191, 16383, 16383, 32767, 131071] [⟨0, 0, []⟩, ⟨1, 0, []⟩, ⟨2, 0, []⟩, ⟨3, 1, []⟩, ⟨4, 1, []⟩, ⟨5, 0, []⟩, ⟨6, 0, []⟩, ⟨7, 0, []⟩, ⟨8, 1, []⟩, ⟨9, 0, []⟩, ⟨10, 0, []⟩, ⟨11, 1, []⟩, ⟨12, 2, []⟩, ⟨13, 0, []⟩, ⟨14, 0, []⟩, ⟨15, 0, []⟩, ⟨16, 0, []⟩, ⟨17, 0, []⟩] (by kernel_rfl) ?_
  intro w hs
  refine ns_move rfl rfl ?_
  refine ns_nil rfl rfl rfl ?_
  refine ns_fld fo_103_0 rfl rfl rfl ?_
  refine ns_ldB pl_100 hs rfl rfl rfl (by rfl) ?_
  refine ns_ldAB [.int .i64 x.key, .int .i64 x.val] ag_45 hs rfl rfl rfl (by rfl) (by rfl) (by decide) ?_
  refine ns_move rfl rfl ?_
  refine ns_nil rfl rfl rfl ?_
  refine ns_fld fo_103_2 rfl rfl rfl ?_
  refine ns_ldB pl_82 hs rfl rfl rfl (by rfl) ?_
  refine ns_nil rfl rfl rfl ?_
  refine ns_fld fo_84_1 rfl rfl rfl ?_
  refine ns_ldB pl_69 hs rfl rfl rfl (by rfl) ?_
  refine ns_call (f83_ok v1 t.its x hSi (by omega)) ck_83 (hs.foc (IArr v1 t.its)) rfl rfl rfl rfl ?_
  intro v21 w hs
  replace hs := hs.pu
  obtain ⟨rfl, hs⟩ := hs
  refine ns_move rfl rfl ?_
  refine ns_ext rfl rfl rfl rfl ?_
  refine ns_ext rfl rfl rfl rfl ?_
  refine ns_asg rfl rfl ?_
  refine ns_asg rfl rfl ?_
  refine ns_done ?_
  refine WP_seq ?_ -- S1
  refine WP_seq ?_
  -- R2
  refine WP_seqr [⟨0, 0, []⟩] (by kernel_rfl) ?_
  refine ns_move rfl rfl ?_
  refine ns_done ?_
  refine WP_if rfl (fun hif1 => ?_) (fun hif1 => ?_)
  · refine WP_seq ?_
    obtain ⟨y, hy, hyk⟩ := fnd_at hif1
    have hlt : lb t.its x.key < t.its.length := (List.getElem?_eq_some_iff.1 hy).1
    obtain ⟨_, hz, _⟩ | ⟨g, cap, cur, hv, hc, hcm, hsz, htk, hs⟩ := (hs.foc (IArr (v1) (t.its))).arr
    · omega
    cases hv
    -- R3
    refine WP_seqr [⟨0, 0, []⟩, ⟨1, 0, []⟩, ⟨2, 0, []⟩, ⟨3, 1, []⟩, ⟨4, 0, []⟩, ⟨5, 0, []⟩, ⟨6, 1, []⟩, ⟨7, 2, []⟩, ⟨8, 0, []⟩] (by kernel_rfl) ?_
    refine ns_move rfl rfl ?_
    refine ns_nil rfl rfl rfl ?_
    refine ns_fld fo_103_0 rfl rfl rfl ?_
    refine ns_ldB pl_100 hs rfl rfl rfl (by rfl) ?_
    refine ns_move rfl rfl ?_
    refine ns_idx (lb t.its x.key) sl_100 rfl rfl rfl rfl rfl hlt ?_
    refine ns_ldA [.int .i64 y.key, .int .i64 y.val] ag_45 rfl rfl rfl rfl (by decide) (it_cells hs htk _ hy) ?_
    refine ns_stA (#[.int .i64 y.key, .int .i64 y.val]) ag_45 rfl (by decide) hs rfl rfl rfl rfl (by intro u hu; simp at hu; rcases hu with rfl | rfl <;> rfl) (by simp) ?_
    refine fun w hs => ⟨trivial, ?_⟩
    refine ns_asg rfl rfl ?_
    refine ns_done ?_
    refine WP_ret ?_
    have hload := run_loadVarA (P := Try.prog) (t := 45) (n := 2) (ad := ⟨b4, 0, none⟩) (vs := [.int .i64 y.key, .int .i64 y.val]) ag_45 rfl (by decide) w (St.cells (n := 2) hs (by rfl))
    have hs := (hs.foc (pts g (.cells cur 45 (0, 0)))).mk_arr' hc hcm hsz htk
    have hs := hs.fold (node_fold c b (.slice (some ⟨g, 0, none⟩) t.its.length cap) (.slice a2 bs.length c2) t.its bs)
    have hs := hs.fold (tree_fold (c := c) (h := h) (b := b) (its := t.its) (kids := t.kids) hlen)
    rw [Tr.eta] at hs
    have hs := hs.fold (ctx_fold c fl)
    rw [get_found hO hS hy hyk]
    exact ⟨_, resCT 4 45 5 rfl hload, St.mk_pu rfl hs.out⟩
  refine WP_seq ?_
  -- R4
  refine WP_seqr [⟨0, 0, []⟩, ⟨1, 0, []⟩, ⟨2, 0, []⟩, ⟨3, 1, []⟩, ⟨4, 0, []⟩, ⟨5, 0, []⟩] (by kernel_rfl) ?_
  refine ns_move rfl rfl ?_
  refine ns_nil rfl rfl rfl ?_
  refine ns_fld fo_103_1 rfl rfl rfl ?_
  refine ns_ldB pl_101 hs rfl rfl rfl (by rfl) ?_
  refine ns_len sl_101 rfl rfl rfl ?_
  refine ns_cmp _ rfl rfl rfl rfl rfl ?_
  refine ns_done ?_
  refine WP_if rfl (fun hif2 => ?_) (fun hif2 => ?_)
  · refine WP_seq ?_
    have hb0 : t.kids.length ≠ 0 := by simp at hif2; omega
    have hkl := kids_len hO hb0
    have hle := lb_le t.its x.key
    obtain ⟨k, hk⟩ : ∃ k, t.kids[lb t.its x.key]? = some k := ⟨t.kids[lb t.its x.key]'(by omega), List.getElem?_eq_getElem (by omega)⟩
    obtain ⟨xb, hxb⟩ : ∃ xb, bs[lb t.its x.key]? = some xb := ⟨bs[lb t.its x.key]'(by omega), List.getElem?_eq_getElem (by omega)⟩
    have hs := hs.fold (ctx_fold c fl)
    rw [Ks_at hk hxb] at hs
    simp only [mul_assoc'] at hs
    obtain ⟨_, hz, _⟩ | ⟨g, cap, cur, hv, hc, hcm, hsz, htk, hs⟩ := (hs.foc (PArr (.slice a2 bs.length c2) (bs))).arr
    · omega
    cases hv
    -- R5
    refine WP_net hs mix [0, 1, 3, 7, 0, 31, 63, 0, 255, 511, 511, 2047, 4095] [⟨0, 0, []⟩, ⟨1, 0, []⟩, ⟨2, 0, []⟩, ⟨3, 1, []⟩, ⟨4, 0, []⟩, ⟨5, 0, []⟩, ⟨6, 1, []⟩, ⟨7, 1, []⟩, ⟨8, 2, []⟩, ⟨9, 0, []⟩, ⟨10, 0, []⟩, ⟨11, 2, []⟩, ⟨12, 0, []⟩] (by kernel_rfl) ?_
    intro w hs
    refine ns_move rfl rfl ?_
    refine ns_nil rfl rfl rfl ?_
    refine ns_fld fo_103_1 rfl rfl rfl ?_
    refine ns_ldB pl_101 hs rfl rfl rfl (by rfl) ?_
    refine ns_move rfl rfl ?_
    refine ns_idx (lb t.its x.key) sl_101 rfl rfl rfl rfl rfl (by omega) ?_
    refine ns_ld pl_85 rfl rfl rfl (ptr_cell hs htk _ hxb) ?_
    refine ns_ldAB [.int .i64 x.key, .int .i64 x.val] ag_45 hs rfl rfl rfl (by rfl) (by rfl) (by decide) ?_
    refine ns_call (hkid _ k xb hk) ck_72 (hs.foc (Tq c h k xb * Ctx c fl)) rfl rfl rfl rfl ?_
    intro v46 w hs
    replace hs := hs.pu
    obtain ⟨rfl, hs⟩ := hs
    simp only [mul_assoc'] at hs
    refine ns_ext rfl rfl rfl rfl ?_
    refine ns_ext rfl rfl rfl rfl ?_
    refine ns_stA (#[.int .i64 ((get (flk h k) x.key).getD zero).key, .int .i64 ((get (flk h k) x.key).getD zero).val]) ag_45 rfl (by decide) hs rfl rfl rfl rfl (by intro u hu; simp at hu; rcases hu with rfl | rfl <;> rfl) (by simp) ?_
    refine fun w hs => ⟨trivial, ?_⟩
    refine ns_asg rfl rfl ?_
    refine ns_done ?_
    refine WP_ret ?_
    have hload := run_loadVarA (P := Try.prog) (t := 45) (n := 2) (ad := ⟨b4, 0, none⟩) (vs := [.int .i64 ((get (flk h k) x.key).getD zero).key, .int .i64 ((get (flk h k) x.key).getD zero).val]) ag_45 rfl (by decide) w (St.cells (n := 2) hs (by rfl))
    have hs := (hs.foc (pts g (.cells cur 85 (0, 0)))).mk_arr' hc hcm hsz htk
    have hs := hs.fold (Ent.of_eq (Ks_at (c := c) (h := h) hk hxb).symm)
    have hs := hs.fold (node_fold c b v1 (.slice (some ⟨g, 0, none⟩) bs.length c2) t.its bs)
    have hs := hs.fold (tree_fold (c := c) (h := h) (b := b) (its := t.its) (kids := t.kids) hlen)
    rw [Tr.eta] at hs
    rw [get_down hO hS hif1 hk]
    exact ⟨_, resCT 4 45 5 rfl hload, St.mk_pu rfl hs.out⟩
  refine WP_skip ?_
  refine WP_ret ?_
  have hb0 : t.kids.length = 0 := by simp at hif2; rw [← hlen, hif2]; rfl
  obtain rfl := kids_zero hO hb0
  have hload := run_loadVarA (P := Try.prog) (t := 45) (n := 2) (ad := ⟨b4, 0, none⟩) (vs := [.int .i64 zero.key, .int .i64 zero.val]) ag_45 rfl (by decide) w (St.cells (n := 2) hs (by rfl))
  have hs := hs.fold (node_fold c b v1 (.slice a2 bs.length c2) t.its bs)
  have hs := hs.fold (tree_fold (c := c) (h := 0) (b := b) (its := t.its) (kids := t.kids) hlen)
  rw [Tr.eta] at hs
  have hs := hs.fold (ctx_fold c fl)
  rw [get_leaf hSi hif1]
  exact ⟨_, resCT 4 45 5 rfl hload, St.mk_pu rfl hs.out⟩
theorem f72_ok (c fl mn mx : Nat) (x : It) (hmx : mx < 100000) : ∀ (h b : Nat) (t : Tr), Ok mn mx h t → t.its.length ≤ mx → Srt (flat h t) →
    Tri Try.prog 72 #[ptr b, itV x] (Tp c h t b * Ctx c fl) fun v => pu (v = ans (get (flat h t) x.key)) * (Tp c h t b * Ctx c fl) := by
  intro h
  induction h with
  | zero => exact fun b t hO hl hS => f72_step c fl mn mx 0 b x t hO (by omega) hS fun i k xb hk => by rw [show t.kids = [] from hO] at hk; simp at hk
  | succ h ih => exact fun b t hO hl hS => f72_step c fl mn mx (h + 1) b x t hO (by omega) hS fun i k xb hk => ih xb k (kid_ok hO hk).2.2 (kid_ok hO hk).2.1 (kid_srt hO hS hk)
theorem f74_nil : Tri Try.prog 74 #[.pointer none] 1 fun v => pu (v = ans none) := by
  intro w0 F w hs
  rw [one_mul'] at hs
  refine calls_WP 30 #[.cell 2 45, .tmp 3] Try.func74 rfl Try.ntmps74 rfl (Nat.le_of_ble_eq_true rfl) ?_
  refine WP_seq ?_
  -- R0
  refine WP_seqr [⟨0, 2, []⟩, ⟨1, 0, []⟩] (by kernel_rfl) ?_
  refine ns_alloc zc_45 hs rfl rfl ?_
  intro b2 w hs
  refine ns_asg rfl rfl ?_
  refine ns_done ?_
  refine WP_seq ?_ -- S1
  refine WP_seq ?_
  -- R1
  refine WP_seqr [⟨0, 0, []⟩, ⟨1, 0, []⟩] (by kernel_rfl) ?_
  refine ns_move rfl rfl ?_
  refine ns_peq true pt_85 rfl rfl rfl rfl rfl ?_
  refine ns_done ?_
  refine WP_true rfl ?_ -- if1
  refine WP_ret ?_
  have hload := run_loadVarA (P := Try.prog) (t := 45) (n := 2) (ad := ⟨b2, 0, none⟩) (vs := [.int .i64 zero.key, .int .i64 zero.val]) ag_45 rfl (by decide) w (St.cells (n := 2) hs (by rfl))
  exact ⟨_, resCT 2 45 3 rfl hload, St.mk_pure rfl (hs.out (P := F))⟩
theorem f75_nil : Tri Try.prog 75 #[.pointer none] 1 fun v => pu (v = ans none) := by
  intro w0 F w hs
  rw [one_mul'] at hs
  refine calls_WP 42 #[.cell 2 45, .tmp 3] Try.func75 rfl Try.ntmps75 rfl (Nat.le_of_ble_eq_true rfl) ?_
  refine WP_seq ?_
  -- R0
  refine WP_seqr [⟨0, 2, []⟩, ⟨1, 0, []⟩] (by kernel_rfl) ?_
  refine ns_alloc zc_45 hs rfl rfl ?_
  intro b2 w hs
  refine ns_asg rfl rfl ?_
  refine ns_done ?_
  refine WP_seq ?_ -- S1
  refine WP_seq ?_
  -- R1
  refine WP_seqr [⟨0, 0, []⟩, ⟨1, 0, []⟩] (by kernel_rfl) ?_
  refine ns_move rfl rfl ?_
  refine ns_peq true pt_85 rfl rfl rfl rfl rfl ?_
  refine ns_done ?_
  refine WP_true rfl ?_ -- if1
  refine WP_ret ?_
  have hload := run_loadVarA (P := Try.prog) (t := 45) (n := 2) (ad := ⟨b2, 0, none⟩) (vs := [.int .i64 zero.key, .int .i64 zero.val]) ag_45 rfl (by decide) w (St.cells (n := 2) hs (by rfl))
  exact ⟨_, resCT 2 45 3 rfl hload, St.mk_pure rfl (hs.out (P := F))⟩
theorem f74_ok (c mn mx h b : Nat) (t : Tr) (h1 : 1 ≤ mn) (hO : Ok mn mx h t) (hl : t.its.length ≤ mx) (hS : Srt (flat h t)) :
    Tri Try.prog 74 #[ptr b] (Tp c h t b) fun v => pu (v = ans (flat h t).head?) * Tp c h t b := by
  intro w0 F w hs
  refine calls_WP 30 #[.cell 2 45, .tmp 3] Try.func74 rfl Try.ntmps74 rfl (Nat.le_of_ble_eq_true rfl) ?_
  refine WP_seq ?_
  -- R0
  refine WP_seqr [⟨0, 2, []⟩, ⟨1, 0, []⟩] (by kernel_rfl) ?_
  refine ns_alloc zc_45 hs rfl rfl ?_
  intro b2 w hs
  refine ns_asg rfl rfl ?_
  refine ns_done ?_
  refine WP_seq ?_ -- S1
  refine WP_seq ?_
  -- R1
  refine WP_seqr [⟨0, 0, []⟩, ⟨1, 0, []⟩] (by kernel_rfl) ?_
  refine ns_move rfl rfl ?_
  refine ns_peq false pt_85 rfl rfl rfl rfl (by simp [cmpP]) ?_
  refine ns_done ?_
  refine WP_false rfl ?_ -- if1
  refine WP_skip ?_
  refine WP_seq_cut (fun σ w => ∃ (t1 : Tr) (b1 : Nat) (R : HProp), σ 0 = ptr b1 ∧ σ 2 = .pointer (some ⟨b2, 0, none⟩) ∧ σ 3 = .bool false ∧ t1.kids = [] ∧ t1.its.length ≤ mx ∧ t1.its.head? = (flat h t).head? ∧ Ent (Tp c 0 t1 b1 * R) (Tp c h t b * F) ∧ St w0 (pts b2 (.cells #[.int .i64 0, .int .i64 0] 45 (0, 0)) * (Tp c 0 t1 b1 * R)) w) ?_ ?_ -- S2
  · refine WP_block ?_
    refine WP_loop (fun m σ w => ∃ (t1 : Tr) (b1 : Nat) (R : HProp), σ 0 = ptr b1 ∧ σ 2 = .pointer (some ⟨b2, 0, none⟩) ∧ σ 3 = .bool false ∧ Ok mn mx m t1 ∧ t1.its.length ≤ mx ∧ Srt (flat m t1) ∧ (flat m t1).head? = (flat h t).head? ∧ Ent (Tp c m t1 b1 * R) (Tp c h t b * F) ∧ St w0 (pts b2 (.cells #[.int .i64 0, .int .i64 0] 45 (0, 0)) * (Tp c m t1 b1 * R)) w) h ?_ ?_ -- L1
    · exact ⟨t, b, F, rfl, rfl, rfl, hO, hl, hS, rfl, Ent.refl _, hs⟩
    rintro m σ w ⟨t1, b1, R, g0, g2, g3, kO, kl, kS, kh, kE, hs⟩
    obtain ⟨σ, rfl⟩ := rebase g0
    obtain ⟨σ, rfl⟩ := rebase (σ := σ) g2
    obtain ⟨σ, rfl⟩ := rebase (σ := σ) g3
    clear g0 g2 g3
    obtain ⟨bs, hlen, hs⟩ := St.tree (hs.foc (Tp c m t1 b1))
    obtain ⟨⟨v1, v2⟩, hs⟩ := hs.ex
    simp only [mul_assoc'] at hs
    obtain ⟨a2, c2, rfl, hc2, hcm2⟩ := (hs.foc (PArr v2 bs)).arr_form
    have hm2 := hcm2
    simp only [maxLen] at hm2
    refine WP_seq ?_ -- S3
    refine WP_seq ?_
    -- R2
    refine WP_seqr [⟨0, 0, []⟩, ⟨1, 0, []⟩, ⟨2, 0, []⟩, ⟨3, 1, []⟩, ⟨4, 0, []⟩, ⟨5, 0, []⟩] (by kernel_rfl) ?_
    refine ns_move rfl rfl ?_
    refine ns_nil rfl rfl rfl ?_
    refine ns_fld fo_103_1 rfl rfl rfl ?_
    refine ns_ldB pl_101 hs rfl rfl rfl (by rfl) ?_
    refine ns_len sl_101 rfl rfl rfl ?_
    refine ns_cmp _ rfl rfl rfl rfl rfl ?_
    refine ns_done ?_
    refine WP_if' rfl (fun hif2 => ?_) (fun hif2 => ?_)
    · refine WP_exit ?_
      have hb0 : t1.kids.length = 0 := by simp at hif2; rw [← hlen, hif2]; rfl
      obtain rfl := kids_zero kO hb0
      have hs := hs.fold (node_fold c b1 v1 (.slice a2 bs.length c2) t1.its bs)
      have hs := hs.fold (tree_fold (c := c) (h := 0) (b := b1) (its := t1.its) (kids := t1.kids) hlen)
      rw [Tr.eta] at hs
      exact ⟨t1, b1, R, rfl, rfl, rfl, kO, kl, kh, kE, hs.out⟩
    refine WP_skip ?_
    refine WP_block ?_
    have hb0 : t1.kids.length ≠ 0 := by simp at hif2; omega
    obtain ⟨m, rfl⟩ : ∃ m', m = m' + 1 := by
      cases m with
      | zero => rw [show t1.kids = [] from kO] at hb0; exact absurd rfl hb0
      | succ m => exact ⟨m, rfl⟩
    have hkl := kids_len kO hb0
    obtain ⟨k, hk⟩ : ∃ k, t1.kids[0]? = some k := ⟨t1.kids[0]'(by omega), List.getElem?_eq_getElem (by omega)⟩
    obtain ⟨xb, hxb⟩ : ∃ xb, bs[0]? = some xb := ⟨bs[0]'(by omega), List.getElem?_eq_getElem (by omega)⟩
    rw [Ks_at hk hxb] at hs
    simp only [mul_assoc'] at hs
    obtain ⟨_, hz, _⟩ | ⟨g, cap, cur, hv, hc, hcm, hsz, htk, hs⟩ := (hs.foc (PArr (.slice a2 bs.length c2) (bs))).arr
    · omega
    cases hv
    -- R3
    refine WP_seqr [⟨0, 0, []⟩, ⟨1, 0, []⟩, ⟨2, 0, []⟩, ⟨3, 1, []⟩, ⟨4, 0, []⟩, ⟨5, 1, []⟩, ⟨6, 0, []⟩] (by kernel_rfl) ?_
    refine ns_move rfl rfl ?_
    refine ns_nil rfl rfl rfl ?_
    refine ns_fld fo_103_1 rfl rfl rfl ?_
    refine ns_ldB pl_101 hs rfl rfl rfl (by rfl) ?_
    refine ns_idx (0) sl_101 rfl rfl rfl rfl rfl (by omega) ?_
    refine ns_ld pl_85 rfl rfl rfl (ptr_cell hs htk _ hxb) ?_
    refine ns_asg rfl rfl ?_
    refine ns_done ?_
    have hs := (hs.foc (pts g (.cells cur 85 (0, 0)))).mk_arr' hc hcm hsz htk
    have hs := hs.fold (node_fold c b1 v1 (.slice (some ⟨g, 0, none⟩) bs.length c2) t1.its bs)
    have hko := kid_ok kO hk
    rw [show Tq c (m + 1) k xb = Tp c m k xb from rfl] at hs
    exact ⟨m, Nat.lt_succ_self m, k, xb, NodeP c b1 t1.its bs * (Ks c (m + 1) (t1.kids.eraseIdx (0)) (bs.eraseIdx (0)) * R), rfl, rfl, rfl, hko.2.2, hko.2.1, kid_srt kO kS hk, (head_down kO kS h1 hk).trans kh, (tree_step hlen hk hxb).trans kE, hs.out⟩
    
  rintro σ w ⟨t1, b1, R, g0, g2, g3, kO, kl, kh, kE, hs⟩
  obtain ⟨σ, rfl⟩ := rebase g0
  obtain ⟨σ, rfl⟩ := rebase (σ := σ) g2
  obtain ⟨σ, rfl⟩ := rebase (σ := σ) g3
  clear g0 g2 g3
  obtain ⟨bs, hlen, hs⟩ := St.tree (hs.foc (Tp c 0 t1 b1))
  obtain ⟨⟨v1, v2⟩, hs⟩ := hs.ex
  simp only [mul_assoc'] at hs
  obtain ⟨a1, c1, rfl, hc1, hcm1⟩ := (hs.foc (IArr v1 t1.its)).arr_form
  have hm1 := hcm1
  simp only [maxLen] at hm1
  refine WP_seq ?_ -- S4
  refine WP_seq ?_
  -- R4
  refine WP_seqr [⟨0, 0, []⟩, ⟨1, 0, []⟩, ⟨2, 0, []⟩, ⟨3, 1, []⟩, ⟨4, 0, []⟩, ⟨5, 0, []⟩] (by kernel_rfl) ?_
  refine ns_move rfl rfl ?_
  refine ns_nil rfl rfl rfl ?_
  refine ns_fld fo_103_0 rfl rfl rfl ?_
  refine ns_ldB pl_100 hs rfl rfl rfl (by rfl) ?_
  refine ns_len sl_100 rfl rfl rfl ?_
  refine ns_cmp _ rfl rfl rfl rfl rfl ?_
  refine ns_done ?_
  refine WP_if rfl (fun hif3 => ?_) (fun hif3 => ?_)
  · refine WP_ret ?_
    have hn : t1.its = [] := List.eq_nil_of_length_eq_zero (by simpa using hif3)
    have hload := run_loadVarA (P := Try.prog) (t := 45) (n := 2) (ad := ⟨b2, 0, none⟩) (vs := [.int .i64 zero.key, .int .i64 zero.val]) ag_45 rfl (by decide) w (St.cells (n := 2) hs (by rfl))
    have hs := hs.fold (node_fold c b1 (.slice a1 t1.its.length c1) v2 t1.its bs)
    have hs := hs.fold (tree_fold (c := c) (h := 0) (b := b1) (its := t1.its) (kids := t1.kids) hlen)
    rw [Tr.eta] at hs
    rw [← kh, hn]
    exact ⟨_, resCT 2 45 3 rfl hload, St.mk_pu rfl ((hs.out (P := Tp c 0 t1 b1 * R)).mono kE)⟩
  refine WP_skip ?_
  refine WP_seq ?_
  have hn : t1.its.length ≠ 0 := by intro e; simp [e] at hif3
  obtain ⟨y, hy⟩ : ∃ y, t1.its[0]? = some y := ⟨t1.its[0]'(by omega), List.getElem?_eq_getElem (by omega)⟩
  rw [List.head?_eq_getElem?, hy] at kh
  obtain ⟨_, hz, _⟩ | ⟨g, cap, cur, hv, hc, hcm, hsz, htk, hs⟩ := (hs.foc (IArr (.slice a1 t1.its.length c1) (t1.its))).arr
  · omega
  cases hv
  -- R5
  refine WP_seqr [⟨0, 0, []⟩, ⟨1, 0, []⟩, ⟨2, 0, []⟩, ⟨3, 1, []⟩, ⟨4, 0, []⟩, ⟨5, 1, []⟩, ⟨6, 2, []⟩, ⟨7, 0, []⟩] (by kernel_rfl) ?_
  refine ns_move rfl rfl ?_
  refine ns_nil rfl rfl rfl ?_
  refine ns_fld fo_103_0 rfl rfl rfl ?_
  refine ns_ldB pl_100 hs rfl rfl rfl (by rfl) ?_
  refine ns_idx (0) sl_100 rfl rfl rfl rfl rfl (by omega) ?_
  refine ns_ldA [.int .i64 y.key, .int .i64 y.val] ag_45 rfl rfl rfl rfl (by decide) (it_cells hs htk _ hy) ?_
  refine ns_stA (#[.int .i64 y.key, .int .i64 y.val]) ag_45 rfl (by decide) hs rfl rfl rfl rfl (by intro u hu; simp at hu; rcases hu with rfl | rfl <;> rfl) (by simp) ?_
  refine fun w hs => ⟨trivial, ?_⟩
  refine ns_asg rfl rfl ?_
  refine ns_done ?_
  refine WP_ret ?_
  have hload := run_loadVarA (P := Try.prog) (t := 45) (n := 2) (ad := ⟨b2, 0, none⟩) (vs := [.int .i64 y.key, .int .i64 y.val]) ag_45 rfl (by decide) w (St.cells (n := 2) hs (by rfl))
  have hs := (hs.foc (pts g (.cells cur 45 (0, 0)))).mk_arr' hc hcm hsz htk
  have hs := hs.fold (node_fold c b1 (.slice (some ⟨g, 0, none⟩) t1.its.length c1) v2 t1.its bs)
  have hs := hs.fold (tree_fold (c := c) (h := 0) (b := b1) (its := t1.its) (kids := t1.kids) hlen)
  rw [Tr.eta] at hs
  rw [← kh]
  exact ⟨_, resCT 2 45 3 rfl hload, St.mk_pu rfl ((hs.out (P := Tp c 0 t1 b1 * R)).mono kE)⟩
theorem f75_ok (c mn mx h b : Nat) (t : Tr) (h1 : 1 ≤ mn) (hO : Ok mn mx h t) (hl : t.its.length ≤ mx) (hS : Srt (flat h t)) :
    Tri Try.prog 75 #[ptr b] (Tp c h t b) fun v => pu (v = ans (flat h t).getLast?) * Tp c h t b := by
  intro w0 F w hs
  refine calls_WP 42 #[.cell 2 45, .tmp 3] Try.func75 rfl Try.ntmps75 rfl (Nat.le_of_ble_eq_true rfl) ?_
  refine WP_seq ?_
  -- R0
  refine WP_seqr [⟨0, 2, []⟩, ⟨1, 0, []⟩] (by kernel_rfl) ?_
  refine ns_alloc zc_45 hs rfl rfl ?_
  intro b2 w hs
  refine ns_asg rfl rfl ?_
  refine ns_done ?_
  refine WP_seq ?_ -- S1
  refine WP_seq ?_
  -- R1
  refine WP_seqr [⟨0, 0, []⟩, ⟨1, 0, []⟩] (by kernel_rfl) ?_
  refine ns_move rfl rfl ?_
  refine ns_peq false pt_85 rfl rfl rfl rfl (by simp [cmpP]) ?_
  refine ns_done ?_
  refine WP_false rfl ?_ -- if1
  refine WP_skip ?_
  refine WP_seq_cut (fun σ w => ∃ (t1 : Tr) (b1 : Nat) (R : HProp), σ 0 = ptr b1 ∧ σ 2 = .pointer (some ⟨b2, 0, none⟩) ∧ σ 3 = .bool false ∧ t1.kids = [] ∧ t1.its.length ≤ mx ∧ t1.its.getLast? = (flat h t).getLast? ∧ Ent (Tp c 0 t1 b1 * R) (Tp c h t b * F) ∧ St w0 (pts b2 (.cells #[.int .i64 0, .int .i64 0] 45 (0, 0)) * (Tp c 0 t1 b1 * R)) w) ?_ ?_ -- S2
  · refine WP_block ?_
    refine WP_loop (fun m σ w => ∃ (t1 : Tr) (b1 : Nat) (R : HProp), σ 0 = ptr b1 ∧ σ 2 = .pointer (some ⟨b2, 0, none⟩) ∧ σ 3 = .bool false ∧ Ok mn mx m t1 ∧ t1.its.length ≤ mx ∧ Srt (flat m t1) ∧ (flat m t1).getLast? = (flat h t).getLast? ∧ Ent (Tp c m t1 b1 * R) (Tp c h t b * F) ∧ St w0 (pts b2 (.cells #[.int .i64 0, .int .i64 0] 45 (0, 0)) * (Tp c m t1 b1 * R)) w) h ?_ ?_ -- L1
    · exact ⟨t, b, F, rfl, rfl, rfl, hO, hl, hS, rfl, Ent.refl _, hs⟩
    rintro m σ w ⟨t1, b1, R, g0, g2, g3, kO, kl, kS, kh, kE, hs⟩
    obtain ⟨σ, rfl⟩ := rebase g0
    obtain ⟨σ, rfl⟩ := rebase (σ := σ) g2
    obtain ⟨σ, rfl⟩ := rebase (σ := σ) g3
    clear g0 g2 g3
    obtain ⟨bs, hlen, hs⟩ := St.tree (hs.foc (Tp c m t1 b1))
    obtain ⟨⟨v1, v2⟩, hs⟩ := hs.ex
    simp only [mul_assoc'] at hs
    obtain ⟨a2, c2, rfl, hc2, hcm2⟩ := (hs.foc (PArr v2 bs)).arr_form
    have hm2 := hcm2
    simp only [maxLen] at hm2
    refine WP_seq ?_ -- S3
    refine WP_seq ?_
    -- R2
    refine WP_seqr [⟨0, 0, []⟩, ⟨1, 0, []⟩, ⟨2, 0, []⟩, ⟨3, 1, []⟩, ⟨4, 0, []⟩, ⟨5, 0, []⟩] (by kernel_rfl) ?_
    refine ns_move rfl rfl ?_
    refine ns_nil rfl rfl rfl ?_
    refine ns_fld fo_103_1 rfl rfl rfl ?_
    refine ns_ldB pl_101 hs rfl rfl rfl (by rfl) ?_
    refine ns_len sl_101 rfl rfl rfl ?_
    refine ns_cmp _ rfl rfl rfl rfl rfl ?_
    refine ns_done ?_
    refine WP_if' rfl (fun hif2 => ?_) (fun hif2 => ?_)
    · refine WP_exit ?_
      have hb0 : t1.kids.length = 0 := by simp at hif2; rw [← hlen, hif2]; rfl
      obtain rfl := kids_zero kO hb0
      have hs := hs.fold (node_fold c b1 v1 (.slice a2 bs.length c2) t1.its bs)
      have hs := hs.fold (tree_fold (c := c) (h := 0) (b := b1) (its := t1.its) (kids := t1.kids) hlen)
      rw [Tr.eta] at hs
      exact ⟨t1, b1, R, rfl, rfl, rfl, kO, kl, kh, kE, hs.out⟩
    refine WP_skip ?_
    refine WP_block ?_
    have hb0 : t1.kids.length ≠ 0 := by simp at hif2; omega
    obtain ⟨m, rfl⟩ : ∃ m', m = m' + 1 := by
      cases m with
      | zero => rw [show t1.kids = [] from kO] at hb0; exact absurd rfl hb0
      | succ m => exact ⟨m, rfl⟩
    have hkl := kids_len kO hb0
    obtain ⟨k, hk⟩ : ∃ k, t1.kids[t1.its.length]? = some k := ⟨t1.kids[t1.its.length]'(by omega), List.getElem?_eq_getElem (by omega)⟩
    obtain ⟨xb, hxb⟩ : ∃ xb, bs[t1.its.length]? = some xb := ⟨bs[t1.its.length]'(by omega), List.getElem?_eq_getElem (by omega)⟩
    rw [Ks_at hk hxb] at hs
    simp only [mul_assoc'] at hs
    obtain ⟨_, hz, _⟩ | ⟨g, cap, cur, hv, hc, hcm, hsz, htk, hs⟩ := (hs.foc (PArr (.slice a2 bs.length c2) (bs))).arr
    · omega
    cases hv
    -- R3
    refine WP_net hs mix [0, 1, 3, 7, 0, 16, 48, 112, 240, 496, 1023, 2047, 4095] [⟨0, 0, []⟩, ⟨1, 0, []⟩, ⟨2, 0, []⟩, ⟨3, 1, []⟩, ⟨4, 0, []⟩, ⟨5, 0, []⟩, ⟨6, 0, []⟩, ⟨7, 1, []⟩, ⟨8, 0, []⟩, ⟨9, 0, []⟩, ⟨10, 0, []⟩, ⟨11, 1, []⟩, ⟨12, 0, []⟩] (by kernel_rfl) ?_
    intro w hs
    refine ns_move rfl rfl ?_
    refine ns_nil rfl rfl rfl ?_
    refine ns_fld fo_103_1 rfl rfl rfl ?_
    refine ns_ldB pl_101 hs rfl rfl rfl (by rfl) ?_
    refine ns_move rfl rfl ?_
    refine ns_nil rfl rfl rfl ?_
    refine ns_fld fo_103_1 rfl rfl rfl ?_
    refine ns_ldB pl_101 hs rfl rfl rfl (by rfl) ?_
    refine ns_len sl_101 rfl rfl rfl ?_
    refine ns_sub rfl rfl rfl rfl (by omega) (by omega) ?_
    refine ns_idx (t1.its.length) sl_101 rfl rfl rfl rfl (by omega) (by omega) ?_
    refine ns_ld pl_85 rfl rfl rfl (ptr_cell hs htk _ hxb) ?_
    refine ns_asg rfl rfl ?_
    refine ns_done ?_
    have hs := (hs.foc (pts g (.cells cur 85 (0, 0)))).mk_arr' hc hcm hsz htk
    have hs := hs.fold (node_fold c b1 v1 (.slice (some ⟨g, 0, none⟩) bs.length c2) t1.its bs)
    have hko := kid_ok kO hk
    rw [show Tq c (m + 1) k xb = Tp c m k xb from rfl] at hs
    exact ⟨m, Nat.lt_succ_self m, k, xb, NodeP c b1 t1.its bs * (Ks c (m + 1) (t1.kids.eraseIdx (t1.its.length)) (bs.eraseIdx (t1.its.length)) * R), rfl, rfl, rfl, hko.2.2, hko.2.1, kid_srt kO kS hk, (last_down kO kS h1 hk).trans kh, (tree_step hlen hk hxb).trans kE, hs.out⟩
    
  rintro σ w ⟨t1, b1, R, g0, g2, g3, kO, kl, kh, kE, hs⟩
  obtain ⟨σ, rfl⟩ := rebase g0
  obtain ⟨σ, rfl⟩ := rebase (σ := σ) g2
  obtain ⟨σ, rfl⟩ := rebase (σ := σ) g3
  clear g0 g2 g3
  obtain ⟨bs, hlen, hs⟩ := St.tree (hs.foc (Tp c 0 t1 b1))
  obtain ⟨⟨v1, v2⟩, hs⟩ := hs.ex
  simp only [mul_assoc'] at hs
  obtain ⟨a1, c1, rfl, hc1, hcm1⟩ := (hs.foc (IArr v1 t1.its)).arr_form
  have hm1 := hcm1
  simp only [maxLen] at hm1
  refine WP_seq ?_ -- S4
  refine WP_seq ?_
  -- R4
  refine WP_seqr [⟨0, 0, []⟩, ⟨1, 0, []⟩, ⟨2, 0, []⟩, ⟨3, 1, []⟩, ⟨4, 0, []⟩, ⟨5, 0, []⟩] (by kernel_rfl) ?_
  refine ns_move rfl rfl ?_
  refine ns_nil rfl rfl rfl ?_
  refine ns_fld fo_103_0 rfl rfl rfl ?_
  refine ns_ldB pl_100 hs rfl rfl rfl (by rfl) ?_
  refine ns_len sl_100 rfl rfl rfl ?_
  refine ns_cmp _ rfl rfl rfl rfl rfl ?_
  refine ns_done ?_
  refine WP_if rfl (fun hif3 => ?_) (fun hif3 => ?_)
  · refine WP_ret ?_
    have hn : t1.its = [] := List.eq_nil_of_length_eq_zero (by simpa using hif3)
    have hload := run_loadVarA (P := Try.prog) (t := 45) (n := 2) (ad := ⟨b2, 0, none⟩) (vs := [.int .i64 zero.key, .int .i64 zero.val]) ag_45 rfl (by decide) w (St.cells (n := 2) hs (by rfl))
    have hs := hs.fold (node_fold c b1 (.slice a1 t1.its.length c1) v2 t1.its bs)
    have hs := hs.fold (tree_fold (c := c) (h := 0) (b := b1) (its := t1.its) (kids := t1.kids) hlen)
    rw [Tr.eta] at hs
    rw [← kh, hn]
    exact ⟨_, resCT 2 45 3 rfl hload, St.mk_pu rfl ((hs.out (P := Tp c 0 t1 b1 * R)).mono kE)⟩
  refine WP_skip ?_
  refine WP_seq ?_
  have hn : t1.its.length ≠ 0 := by intro e; simp [e] at hif3
  obtain ⟨y, hy⟩ : ∃ y, t1.its[t1.its.length - 1]? = some y := ⟨t1.its[t1.its.length - 1]'(by omega), List.getElem?_eq_getElem (by omega)⟩
  rw [List.getLast?_eq_getElem?, hy] at kh
  obtain ⟨_, hz, _⟩ | ⟨g, cap, cur, hv, hc, hcm, hsz, htk, hs⟩ := (hs.foc (IArr (.slice a1 t1.its.length c1) (t1.its))).arr
  · omega
  cases hv
  -- R5
  refine WP_net hs mix [0, 1, 3, 7, 0, 16, 48, 112, 240, 496, 1023, 2047, 4095, 8191] [⟨0, 0, []⟩, ⟨1, 0, []⟩, ⟨2, 0, []⟩, ⟨3, 1, []⟩, ⟨4, 0, []⟩, ⟨5, 0, []⟩, ⟨6, 0, []⟩, ⟨7, 1, []⟩, ⟨8, 0, []⟩, ⟨9, 0, []⟩, ⟨10, 0, []⟩, ⟨11, 1, []⟩, ⟨12, 2, []⟩, ⟨13, 0, []⟩] (by kernel_rfl) ?_
  intro w hs
  refine ns_move rfl rfl ?_
  refine ns_nil rfl rfl rfl ?_
  refine ns_fld fo_103_0 rfl rfl rfl ?_
  refine ns_ldB pl_100 hs rfl rfl rfl (by rfl) ?_
  refine ns_move rfl rfl ?_
  refine ns_nil rfl rfl rfl ?_
  refine ns_fld fo_103_0 rfl rfl rfl ?_
  refine ns_ldB pl_100 hs rfl rfl rfl (by rfl) ?_
  refine ns_len sl_100 rfl rfl rfl ?_
  refine ns_sub rfl rfl rfl rfl (by omega) (by omega) ?_
  refine ns_idx (t1.its.length - 1) sl_100 rfl rfl rfl rfl (by omega) (by omega) ?_
  refine ns_ldA [.int .i64 y.key, .int .i64 y.val] ag_45 rfl rfl rfl rfl (by decide) (it_cells hs htk _ hy) ?_
  refine ns_stA (#[.int .i64 y.key, .int .i64 y.val]) ag_45 rfl (by decide) hs rfl rfl rfl rfl (by intro u hu; simp at hu; rcases hu with rfl | rfl <;> rfl) (by simp) ?_
  refine fun w hs => ⟨trivial, ?_⟩
  refine ns_asg rfl rfl ?_
  refine ns_done ?_
  refine WP_ret ?_
  have hload := run_loadVarA (P := Try.prog) (t := 45) (n := 2) (ad := ⟨b2, 0, none⟩) (vs := [.int .i64 y.key, .int .i64 y.val]) ag_45 rfl (by decide) w (St.cells (n := 2) hs (by rfl))
  have hs := (hs.foc (pts g (.cells cur 45 (0, 0)))).mk_arr' hc hcm hsz htk
  have hs := hs.fold (node_fold c b1 (.slice (some ⟨g, 0, none⟩) t1.its.length c1) v2 t1.its bs)
  have hs := hs.fold (tree_fold (c := c) (h := 0) (b := b1) (its := t1.its) (kids := t1.kids) hlen)
  rw [Tr.eta] at hs
  rw [← kh]
  exact ⟨_, resCT 2 45 3 rfl hload, St.mk_pu rfl ((hs.out (P := Tp c 0 t1 b1 * R)).mono kE)⟩
end Go.Proofs.Ytnnembkganlbpaa
