/- The walk of putting an item into a tree. -/
import Derived.Test.YtnnembkganlbpaaTi
import Derived.Test.YtnnembkganlbpaaW6
namespace Go.Proofs.Ytnnembkganlbpaa
open Go Go.Sl Go.Net Go.Wk Go.Bt Go.RowKit

/-- what putting x into the tree t leaves: a tree that holds put's list, and the item that was there -/
def InsP (c fl mn mx h b : Nat) (t : Tr) (x : It) (v : Value) : HProp := ex fun t2 : Tr =>
  pu (v = ans (get (flat h t) x.key) ∧ Ok mn mx h t2 ∧ t.its.length ≤ t2.its.length ∧ t2.its.length ≤ mx ∧ flat h t2 = put (flat h t) x) * (Tp c h t2 b * Ctx c fl)
set_option maxHeartbeats 3200000 in
theorem f71_step (c fl mn mx h b : Nat) (x : It) (t : Tr) (hmn : 1 ≤ mn) (hmx : mx = 2 * mn + 1) (hm : mx < 10000) (hO : Ok mn mx h t) (hl : t.its.length < mx) (hS : Srt (flat h t))
    (hkid : ∀ (h' : Nat) (k : Tr) (xb : Nat), h = h' + 1 → Ok mn mx h' k → k.its.length < mx → Srt (flat h' k) → Tri Try.prog 71 #[ptr xb, itV x, .int .i64 mx] (Tp c h' k xb * Ctx c fl) (InsP c fl mn mx h' xb k x)) :
    Tri Try.prog 71 #[ptr b, itV x, .int .i64 mx] (Tp c h t b * Ctx c fl) (InsP c fl mn mx h b t x) := by
  have hSi := srt_its hO hS
  have hle := lb_le t.its x.key
  intro w0 F w hs
  simp only [mul_assoc'] at hs
  obtain ⟨bs, hlen, hs⟩ := St.tree hs
  obtain ⟨⟨v1, v2⟩, hs⟩ := hs.ex
  unfold Ctx CowP at hs
  simp only [mul_assoc'] at hs
  obtain ⟨a2, c2, rfl, hc2, hcm2⟩ := (hs.foc (PArr v2 bs)).arr_form
  refine calls_WP 115 #[.cell 6 45, .tmp 7] Try.func71 rfl Try.ntmps71 rfl (Nat.le_of_ble_eq_true rfl) ?_
  refine WP_seq ?_
  -- R0
  refine WP_seqr [⟨0, 2, []⟩, ⟨1, 2, []⟩, ⟨2, 0, []⟩] (by kernel_rfl) ?_
  refine ns_box (#[.int .i64 x.key, .int .i64 x.val]) hs rfl rfl rfl rfl ?_
  intro b4 w hs
  refine ns_alloc zc_45 hs rfl rfl ?_
  intro b6 w hs
  refine ns_asg rfl rfl ?_
  refine ns_done ?_
  refine WP_seq ?_
  -- R1
  refine WP_net hs mix [0, 1, 3, 7, 0, 0, 32, 96, 224, 480, 992, 2016, 4095, 8191, 16383, 16383, 32767, 131071] [⟨0, 0, []⟩, ⟨1, 0, []⟩, ⟨2, 0, []⟩, ⟨3, 1, []⟩, ⟨4, 1, []⟩, ⟨5, 0, []⟩, ⟨6, 0, []⟩, ⟨7, 0, []⟩, ⟨8, 1, []⟩, ⟨9, 0, []⟩, ⟨10, 0, []⟩, ⟨11, 1, []⟩, ⟨12, 2, []⟩, ⟨13, 0, []⟩, ⟨14, 0, []⟩, ⟨15, 0, []⟩, ⟨16, 0, []⟩, ⟨17, 0, []⟩] (by kernel_rfl) ?_
  intro w hs
  refine ns_move rfl rfl ?_
  refine ns_nil rfl rfl rfl ?_
  refine ns_fld fo_103_0 rfl rfl rfl ?_
  refine ns_ldB pl_100 hs rfl rfl rfl (by rfl) ?_
  refine ns_ldAB [.int .i64 x.key, .int .i64 x.val] ag_45 hs rfl rfl rfl (by rfl) (by rfl) (by decide) ?_
  refine ns_move rfl rfl ?_
  refine ns_nil rfl rfl rfl ?_
  refine ns_fld fo_103_2 rfl rfl rfl ?_
  refine ns_ldB pl_82 hs rfl rfl rfl (by rfl) ?_
  refine ns_nil rfl rfl rfl ?_
  refine ns_fld fo_84_1 rfl rfl rfl ?_
  refine ns_ldB pl_69 hs rfl rfl rfl (by rfl) ?_
  refine ns_call (f83_ok v1 t.its x hSi (by omega)) ck_83 (hs.foc (IArr v1 t.its)) rfl rfl rfl rfl ?_
  intro v26 w hs
  replace hs := hs.pu
  obtain ⟨rfl, hs⟩ := hs
  refine ns_move rfl rfl ?_
  refine ns_ext rfl rfl rfl rfl ?_
  refine ns_ext rfl rfl rfl rfl ?_
  refine ns_asg rfl rfl ?_
  refine ns_asg rfl rfl ?_
  refine ns_done ?_
  refine WP_seq ?_ -- S1
  refine WP_seq ?_
  -- R2
  refine WP_seqr [⟨0, 0, []⟩] (by kernel_rfl) ?_
  refine ns_move rfl rfl ?_
  refine ns_done ?_
  refine WP_if rfl (fun hif1 => ?_) (fun hif1 => ?_)
  · refine WP_seq ?_
    obtain ⟨y, hy, hyk⟩ := fnd_at hif1
    have hlt : lb t.its x.key < t.its.length := (List.getElem?_eq_some_iff.1 hy).1
    obtain ⟨_, hz, _⟩ | ⟨g, cap, cur, hv, hc, hcm, hsz, htk, hs⟩ := (hs.foc (IArr (v1) (t.its))).arr
    · omega
    cases hv
    -- R3
    refine WP_seqr [⟨0, 0, []⟩, ⟨1, 0, []⟩, ⟨2, 0, []⟩, ⟨3, 1, []⟩, ⟨4, 0, []⟩, ⟨5, 0, []⟩, ⟨6, 1, []⟩, ⟨7, 2, []⟩, ⟨8, 2, []⟩] (by kernel_rfl) ?_
    refine ns_move rfl rfl ?_
    refine ns_nil rfl rfl rfl ?_
    refine ns_fld fo_103_0 rfl rfl rfl ?_
    refine ns_ldB pl_100 hs rfl rfl rfl (by rfl) ?_
    refine ns_move rfl rfl ?_
    refine ns_idx (lb t.its x.key) sl_100 rfl rfl rfl rfl rfl hlt ?_
    refine ns_ldA [.int .i64 y.key, .int .i64 y.val] ag_45 rfl rfl rfl rfl (by decide) (it_cells hs htk _ hy) ?_
    refine ns_alloc zc_45 hs rfl rfl ?_
    intro b10 w hs
    refine ns_stA (#[.int .i64 y.key, .int .i64 y.val]) ag_45 rfl (by decide) hs rfl rfl rfl rfl (by intro u hu; simp at hu; rcases hu with rfl | rfl <;> rfl) (by simp) ?_
    refine fun w hs => ⟨trivial, ?_⟩
    refine ns_done ?_
    refine WP_seq ?_
    -- R4
    refine WP_net hs mix [0, 1, 3, 7, 0, 0, 63, 127] [⟨0, 0, []⟩, ⟨1, 0, []⟩, ⟨2, 0, []⟩, ⟨3, 1, []⟩, ⟨4, 0, []⟩, ⟨5, 1, []⟩, ⟨6, 0, []⟩, ⟨7, 2, []⟩] (by kernel_rfl) ?_
    intro w hs
    refine ns_move rfl rfl ?_
    refine ns_nil rfl rfl rfl ?_
    refine ns_fld fo_103_0 rfl rfl rfl ?_
    refine ns_ldB pl_100 hs rfl rfl rfl (by rfl) ?_
    refine ns_move rfl rfl ?_
    refine ns_ldAB [.int .i64 x.key, .int .i64 x.val] ag_45 hs rfl rfl rfl (by rfl) (by rfl) (by decide) ?_
    refine ns_idx (lb t.its x.key) sl_100 rfl rfl rfl rfl rfl hlt ?_
    refine ns_stA (#[.int .i64 x.key, .int .i64 x.val]) ag_45 rfl (by decide) hs rfl rfl rfl rfl (by intro u hu; simp at hu; rcases hu with rfl | rfl <;> rfl) (by rw [hsz]; omega) ?_
    refine fun w hs => ⟨trivial, ?_⟩
    rw [Nat.zero_add] at hs
    refine ns_done ?_
    refine WP_seq ?_
    -- R5
    refine WP_seqr [⟨0, 1, []⟩, ⟨1, 2, []⟩, ⟨2, 0, []⟩] (by kernel_rfl) ?_
    refine ns_ldAB _ ag_45 hs rfl rfl rfl (by rfl) (by rfl) (by decide) ?_
    refine ns_stA (#[.int .i64 y.key, .int .i64 y.val]) ag_45 rfl (by decide) hs rfl rfl rfl rfl (by intro u hu; simp at hu; rcases hu with rfl | rfl <;> rfl) (by simp) ?_
    refine fun w hs => ⟨trivial, ?_⟩
    refine ns_asg rfl rfl ?_
    refine ns_done ?_
    refine WP_ret ?_
    have hload := run_loadVarA (P := Try.prog) (t := 45) (n := 2) (ad := ⟨b6, 0, none⟩) (vs := [.int .i64 y.key, .int .i64 y.val]) ag_45 rfl (by decide) w (St.cells (n := 2) hs (by rfl))
    have hset := set_cells (i := lb t.its x.key) (c := enc x) hsz (encs_len t.its) rfl hc hlt htk
    rw [← encs_set t.its (lb t.its x.key) x hlt] at hset
    have hs := (hs.foc (pts g (.cells (splice cur (lb t.its x.key * 2) #[.int .i64 x.key, .int .i64 x.val].toList) 45 (0, 0)))).mk_arr' (n := t.its.length) (cap := cap) hc hcm (by rw [splice_size (by rw [hsz]; simp; omega), hsz]) hset
    have e : t.its.length = (t.its.set (lb t.its x.key) x).length := by rw [List.length_set]
    rw [e] at hs
    have hs := hs.fold (node_fold c b (.slice (some ⟨g, 0, none⟩) (t.its.set (lb t.its x.key) x).length cap) (.slice a2 bs.length c2) (t.its.set (lb t.its x.key) x) bs)
    have hs := hs.fold (tree_fold (c := c) (h := h) (b := b) (its := t.its.set (lb t.its x.key) x) (kids := t.kids) hlen)
    have hs := hs.fold (ctx_fold c fl)
    exact ⟨_, resCT 6 45 7 rfl hload, St.mk_ex (.mk (t.its.set (lb t.its x.key) x) t.kids) (St.mk_pu ⟨(congrArg ans (get_found hO hS hy hyk)).symm, ok_here hO, by show _ ≤ (t.its.set (lb t.its x.key) x).length; omega, by show (t.its.set (lb t.its x.key) x).length ≤ _; omega, put_here hO hS hy hyk⟩ hs.out)⟩
  refine WP_skip ?_
  refine WP_seq ?_ -- S2
  refine WP_seq ?_
  -- R6
  refine WP_seqr [⟨0, 0, []⟩, ⟨1, 0, []⟩, ⟨2, 0, []⟩, ⟨3, 1, []⟩, ⟨4, 0, []⟩, ⟨5, 0, []⟩] (by kernel_rfl) ?_
  refine ns_move rfl rfl ?_
  refine ns_nil rfl rfl rfl ?_
  refine ns_fld fo_103_1 rfl rfl rfl ?_
  refine ns_ldB pl_101 hs rfl rfl rfl (by rfl) ?_
  refine ns_len sl_101 rfl rfl rfl ?_
  refine ns_cmp _ rfl rfl rfl rfl rfl ?_
  refine ns_done ?_
  refine WP_if rfl (fun hif2 => ?_) (fun hif2 => ?_)
  · refine WP_seq ?_
    have hs := hs.fold (node_fold c b v1 (.slice a2 bs.length c2) t.its bs)
    -- R7
    refine WP_net hs mix [0, 1, 3, 0, 0, 31] [⟨0, 0, []⟩, ⟨1, 0, []⟩, ⟨2, 0, []⟩, ⟨3, 0, []⟩, ⟨4, 1, []⟩, ⟨5, 2, []⟩] (by kernel_rfl) ?_
    intro w hs
    refine ns_move rfl rfl ?_
    refine ns_nil rfl rfl rfl ?_
    refine ns_fld fo_103_0 rfl rfl rfl ?_
    refine ns_move rfl rfl ?_
    refine ns_ldAB [.int .i64 x.key, .int .i64 x.val] ag_45 hs rfl rfl rfl (by rfl) (by rfl) (by decide) ?_
    refine ns_call (f84_ok c b (lb t.its x.key) x t.its bs hle (by omega)) ck_84 (hs.foc (NodeP c b t.its bs)) rfl rfl rfl rfl ?_
    intro v56 w hs
    refine ns_done ?_
    refine WP_ret ?_
    have hb0 : t.kids.length = 0 := by rw [← hlen]; simpa using hif2
    obtain rfl := kids_zero hO hb0
    have hload := run_loadVarA (P := Try.prog) (t := 45) (n := 2) (ad := ⟨b6, 0, none⟩) (vs := [.int .i64 zero.key, .int .i64 zero.val]) ag_45 rfl (by decide) w (St.cells (n := 2) hs (by rfl))
    have hs := hs.fold (tree_fold (c := c) (h := 0) (b := b) (its := t.its.insertIdx (lb t.its x.key) x) (kids := t.kids) hlen)
    have hs := hs.fold (ctx_fold c fl)
    have hln := List.length_insertIdx_of_le_length (a := x) hle
    exact ⟨_, resCT 6 45 7 rfl hload, St.mk_ex (.mk (t.its.insertIdx (lb t.its x.key) x) t.kids) (St.mk_pu ⟨(congrArg ans (get_leaf hSi hif1)).symm, hO, by show _ ≤ (t.its.insertIdx (lb t.its x.key) x).length; omega, by show (t.its.insertIdx (lb t.its x.key) x).length ≤ _; omega, ins_leaf hif1⟩ hs.out)⟩
  refine WP_skip ?_
  refine WP_seq_cut (fun σ w => ∃ (t1 : Tr) (i : Nat) (k : Tr), σ 0 = ptr b ∧ σ 2 = .int .i64 mx ∧ σ 4 = .pointer (some ⟨b4, 0, none⟩) ∧ σ 6 = .pointer (some ⟨b6, 0, none⟩) ∧ σ 8 = .int .i64 i ∧ Ok mn mx h t1 ∧ t.its.length ≤ t1.its.length ∧ t1.its.length ≤ mx ∧ flat h t1 = flat h t ∧ t1.kids[i]? = some k ∧ k.its.length < mx ∧ Bel t1 i x.key ∧ St w0 (pts b4 (.cells #[.int .i64 x.key, .int .i64 x.val] 45 (0, 0)) * (pts b6 (.cells #[.int .i64 0, .int .i64 0] 45 (0, 0)) * (Tp c h t1 b * (Ctx c fl * F)))) w) ?_ ?_ -- S3
  · have hb0 : t.kids.length ≠ 0 := by intro e; rw [← hlen] at e; simp [e] at hif2
    obtain ⟨h, rfl⟩ : ∃ h', h = h' + 1 := by
      cases h with
      | zero => rw [show t.kids = [] from hO] at hb0; exact absurd rfl hb0
      | succ h => exact ⟨h, rfl⟩
    have hkl := kids_len hO hb0
    obtain ⟨k, hk⟩ : ∃ k, t.kids[lb t.its x.key]? = some k := ⟨t.kids[lb t.its x.key]'(by omega), List.getElem?_eq_getElem (by omega)⟩
    obtain ⟨xb, hxb⟩ : ∃ xb, bs[lb t.its x.key]? = some xb := ⟨bs[lb t.its x.key]'(by omega), List.getElem?_eq_getElem (by omega)⟩
    have hko := kid_ok hO hk
    have hBel := bel_lb hSi hif1
    have hs := hs.fold (node_fold c b v1 (.slice a2 bs.length c2) t.its bs)
    have hs := hs.fold (ctx_fold c fl)
    rw [Ks_at hk hxb] at hs
    simp only [mul_assoc'] at hs
    obtain ⟨bs1, hlen1, hs⟩ := St.tree (hs.foc (Tq c (h + 1) k xb))
    rcases Nat.lt_or_ge k.its.length mx with hlt | hge
    · refine WP_seq ?_
      -- R8
      refine WP_seqr [⟨0, 0, []⟩, ⟨1, 0, []⟩, ⟨2, 0, []⟩, ⟨3, 2, []⟩] (by kernel_rfl) ?_
      refine ns_move rfl rfl ?_
      refine ns_move rfl rfl ?_
      refine ns_move rfl rfl ?_
      refine ns_call (f85_no c b (lb t.its x.key) xb mx t.its k.its bs bs1 hxb hlt) ck_85 (hs.foc (NodeP c b t.its bs * NodeP c xb k.its bs1)) rfl rfl rfl rfl ?_
      intro v60 w hs
      replace hs := hs.pu
      obtain ⟨rfl, hs⟩ := hs
      simp only [mul_assoc'] at hs
      refine ns_done ?_
      refine WP_false rfl ?_ -- if3
      refine WP_skip ?_
      have hs := hs.fold (tree_fold (c := c) (h := h) (b := xb) (its := k.its) (kids := k.kids) hlen1)
      rw [Tr.eta, show Tp c h k xb = Tq c (h + 1) k xb from rfl] at hs
      have hs := hs.fold (Ent.of_eq (Ks_at (c := c) (h := h + 1) hk hxb).symm)
      have hs := hs.fold (tree_fold (c := c) (h := h + 1) (b := b) (its := t.its) (kids := t.kids) hlen)
      rw [Tr.eta] at hs
      exact ⟨t, lb t.its x.key, k, rfl, rfl, rfl, rfl, rfl, hO, Nat.le_refl _, by omega, rfl, hk, hlt, hBel, hs.out⟩
    · refine WP_seq ?_
      have hmid : mx / 2 = mn := by omega
      have hkm : k.its.length = mx := by omega
      obtain ⟨y, hy⟩ : ∃ y, k.its[mx / 2]? = some y := ⟨k.its[mx / 2]'(by omega), List.getElem?_eq_getElem (by omega)⟩
      have hln := List.length_insertIdx_of_le_length (a := y) hle
      have hO1 : Ok mn mx (h + 1) (cutT t k (lb t.its x.key) (mx / 2) y) := cutT_ok hO hk (by omega) (by omega) (by omega)
      have hF1 : flat (h + 1) (cutT t k (lb t.its x.key) (mx / 2) y) = flat (h + 1) t := cutT_flat hO hk hy
      have hB1 := cutT_bel (k := k) (y := y) (m := mx / 2) hBel hle
      -- R8
      refine WP_seqr [⟨0, 0, []⟩, ⟨1, 0, []⟩, ⟨2, 0, []⟩, ⟨3, 2, []⟩] (by kernel_rfl) ?_
      refine ns_move rfl rfl ?_
      refine ns_move rfl rfl ?_
      refine ns_move rfl rfl ?_
      refine ns_call (f85_yes c fl b (lb t.its x.key) xb mx y t.its k.its bs bs1 hxb hge hy hle (by omega) (by omega) (by omega) (fun h0 => by have := kids_len hko.2.2 (by omega); omega)) ck_85 (hs.foc (NodeP c b t.its bs * (NodeP c xb k.its bs1 * Ctx c fl))) rfl rfl rfl rfl ?_
      intro v60 w hs
      replace hs := hs.ex
      obtain ⟨r, hs⟩ := hs
      replace hs := hs.pu
      obtain ⟨rfl, hs⟩ := hs
      simp only [mul_assoc'] at hs
      refine ns_done ?_
      refine WP_true rfl ?_ -- if3
      refine WP_seq ?_
      obtain ⟨⟨u1, u2⟩, hs⟩ := (hs.foc (NodeP c b (t.its.insertIdx (lb t.its x.key) y) (bs.insertIdx (lb t.its x.key + 1) r))).ex
      simp only [mul_assoc'] at hs
      obtain ⟨aa, ca, rfl, _, _⟩ := (hs.foc (IArr u1 (t.its.insertIdx (lb t.its x.key) y))).arr_form
      obtain ⟨_, hz, _⟩ | ⟨g, cap, cur, hv, hc, hcm, hsz, htk, hs⟩ := (hs.foc (IArr (.slice aa (t.its.insertIdx (lb t.its x.key) y).length ca) (t.its.insertIdx (lb t.its x.key) y))).arr
      · omega
      cases hv
      have hyi : (t.its.insertIdx (lb t.its x.key) y)[lb t.its x.key]? = some y := by rw [List.getElem?_insertIdx_self, if_pos hle]
      -- R9
      refine WP_seqr [⟨0, 0, []⟩, ⟨1, 0, []⟩, ⟨2, 0, []⟩, ⟨3, 1, []⟩, ⟨4, 0, []⟩, ⟨5, 0, []⟩, ⟨6, 1, []⟩, ⟨7, 2, []⟩, ⟨8, 2, []⟩] (by kernel_rfl) ?_
      refine ns_move rfl rfl ?_
      refine ns_nil rfl rfl rfl ?_
      refine ns_fld fo_103_0 rfl rfl rfl ?_
      refine ns_ldB pl_100 hs rfl rfl rfl (by rfl) ?_
      refine ns_move rfl rfl ?_
      refine ns_idx (lb t.its x.key) sl_100 rfl rfl rfl rfl rfl (by omega) ?_
      refine ns_ldA [.int .i64 y.key, .int .i64 y.val] ag_45 rfl rfl rfl rfl (by decide) (it_cells hs htk _ hyi) ?_
      refine ns_alloc zc_45 hs rfl rfl ?_
      intro b11 w hs
      refine ns_stA (#[.int .i64 y.key, .int .i64 y.val]) ag_45 rfl (by decide) hs rfl rfl rfl rfl (by intro u hu; simp at hu; rcases hu with rfl | rfl <;> rfl) (by simp) ?_
      refine fun w hs => ⟨trivial, ?_⟩
      rw [splice2] at hs
      refine ns_done ?_
      unfold Ctx CowP at hs
      simp only [mul_assoc'] at hs
      refine WP_block ?_
      refine WP_seq ?_
      -- R13
      refine WP_net hs mix [0, 1, 3, 7, 15, 31, 63, 0, 0, 511, 1023] [⟨0, 0, []⟩, ⟨1, 0, []⟩, ⟨2, 0, []⟩, ⟨3, 1, []⟩, ⟨4, 0, []⟩, ⟨5, 0, []⟩, ⟨6, 1, []⟩, ⟨7, 1, []⟩, ⟨8, 1, []⟩, ⟨9, 2, []⟩, ⟨10, 0, []⟩] (by kernel_rfl) ?_
      intro w hs
      refine ns_move rfl rfl ?_
      refine ns_nil rfl rfl rfl ?_
      refine ns_fld fo_103_2 rfl rfl rfl ?_
      refine ns_ldB pl_82 hs rfl rfl rfl (by rfl) ?_
      refine ns_nil rfl rfl rfl ?_
      refine ns_fld fo_84_1 rfl rfl rfl ?_
      refine ns_ldB pl_69 hs rfl rfl rfl (by rfl) ?_
      refine ns_ldAB [.int .i64 x.key, .int .i64 x.val] ag_45 hs rfl rfl rfl (by rfl) (by rfl) (by decide) ?_
      refine ns_ldAB [.int .i64 y.key, .int .i64 y.val] ag_45 hs rfl rfl rfl (by rfl) (by rfl) (by decide) ?_
      refine ns_call (f40_ok x y) ck_40 (hs.foc 1) rfl rfl rfl rfl ?_
      intro v93 w hs
      replace hs := hs.pure
      obtain ⟨rfl, hs⟩ := hs
      refine ns_asg rfl rfl ?_
      refine ns_done ?_
      refine WP_if' rfl (fun hif4 => ?_) (fun hif4 => ?_)
      · refine WP_seq ?_
        -- R14
        refine WP_net hs mix [0, 1, 3, 7, 15, 31, 63, 0, 0, 511, 1023] [⟨0, 0, []⟩, ⟨1, 0, []⟩, ⟨2, 0, []⟩, ⟨3, 1, []⟩, ⟨4, 0, []⟩, ⟨5, 0, []⟩, ⟨6, 1, []⟩, ⟨7, 1, []⟩, ⟨8, 1, []⟩, ⟨9, 2, []⟩, ⟨10, 0, []⟩] (by kernel_rfl) ?_
        intro w hs
        refine ns_move rfl rfl ?_
        refine ns_nil rfl rfl rfl ?_
        refine ns_fld fo_103_2 rfl rfl rfl ?_
        refine ns_ldB pl_82 hs rfl rfl rfl (by rfl) ?_
        refine ns_nil rfl rfl rfl ?_
        refine ns_fld fo_84_1 rfl rfl rfl ?_
        refine ns_ldB pl_69 hs rfl rfl rfl (by rfl) ?_
        refine ns_ldAB [.int .i64 y.key, .int .i64 y.val] ag_45 hs rfl rfl rfl (by rfl) (by rfl) (by decide) ?_
        refine ns_ldAB [.int .i64 x.key, .int .i64 x.val] ag_45 hs rfl rfl rfl (by rfl) (by rfl) (by decide) ?_
        refine ns_call (f40_ok y x) ck_40 (hs.foc 1) rfl rfl rfl rfl ?_
        intro v104 w hs
        replace hs := hs.pure
        obtain ⟨rfl, hs⟩ := hs
        refine ns_asg rfl rfl ?_
        refine ns_done ?_
        refine WP_if rfl (fun hif5 => ?_) (fun hif5 => ?_)
        · -- R15
          refine WP_seqr [⟨0, 0, []⟩, ⟨1, 0, []⟩, ⟨2, 0, []⟩] (by kernel_rfl) ?_
          refine ns_move rfl rfl ?_
          refine ns_add rfl rfl rfl rfl (by omega) (by omega) ?_
          refine ns_asg rfl rfl ?_
          refine ns_done ?_
          have hs := (hs.foc (pts g (.cells cur 45 (0, 0)))).mk_arr' hc hcm hsz htk
          have hs := hs.fold (node_fold c b (.slice (some ⟨g, 0, none⟩) (t.its.insertIdx (lb t.its x.key) y).length ca) u2 (t.its.insertIdx (lb t.its x.key) y) (bs.insertIdx (lb t.its x.key + 1) r))
          have hs := hs.fold (cut_fold (c := c) (h := h) (b := b) (m := mx / 2) (i := lb t.its x.key) (xb := xb) (r := r) (t := t) (k := k) (bs := bs) (bs1 := bs1) (t.its.insertIdx (lb t.its x.key) y) hlen hlen1 hk hxb)
          have hs := hs.fold (ctx_fold c fl)
          rw [cutT_eq] at hs
          have hyx : y.key < x.key := by simpa using hif5
          have hkr : (cutR k (mx / 2)).its.length < mx := by show (k.its.drop (mx / 2 + 1)).length < mx; rw [List.length_drop]; omega
          exact ⟨cutT t k (lb t.its x.key) (mx / 2) y, lb t.its x.key + 1, cutR k (mx / 2), rfl, rfl, rfl, rfl, rfl, hO1, by show _ ≤ (t.its.insertIdx (lb t.its x.key) y).length; omega, by show (t.its.insertIdx (lb t.its x.key) y).length ≤ _; omega, hF1, cutT_kidR hk, hkr, hB1.2 hyx, hs.out⟩
        refine WP_seq ?_
        -- R10
        refine WP_seqr [⟨0, 0, []⟩, ⟨1, 0, []⟩, ⟨2, 0, []⟩, ⟨3, 1, []⟩, ⟨4, 0, []⟩, ⟨5, 0, []⟩, ⟨6, 1, []⟩, ⟨7, 2, []⟩, ⟨8, 2, []⟩] (by kernel_rfl) ?_
        refine ns_move rfl rfl ?_
        refine ns_nil rfl rfl rfl ?_
        refine ns_fld fo_103_0 rfl rfl rfl ?_
        refine ns_ldB pl_100 hs rfl rfl rfl (by rfl) ?_
        refine ns_move rfl rfl ?_
        refine ns_idx (lb t.its x.key) sl_100 rfl rfl rfl rfl rfl (by omega) ?_
        refine ns_ldA [.int .i64 y.key, .int .i64 y.val] ag_45 rfl rfl rfl rfl (by decide) (it_cells hs htk _ hyi) ?_
        refine ns_alloc zc_45 hs rfl rfl ?_
        intro b12 w hs
        refine ns_stA (#[.int .i64 y.key, .int .i64 y.val]) ag_45 rfl (by decide) hs rfl rfl rfl rfl (by intro u hu; simp at hu; rcases hu with rfl | rfl <;> rfl) (by simp) ?_
        refine fun w hs => ⟨trivial, ?_⟩
        refine ns_done ?_
        refine WP_seq ?_
        -- R11
        refine WP_net hs mix [0, 1, 3, 7, 0, 0, 63, 127] [⟨0, 0, []⟩, ⟨1, 0, []⟩, ⟨2, 0, []⟩, ⟨3, 1, []⟩, ⟨4, 0, []⟩, ⟨5, 1, []⟩, ⟨6, 0, []⟩, ⟨7, 2, []⟩] (by kernel_rfl) ?_
        intro w hs
        refine ns_move rfl rfl ?_
        refine ns_nil rfl rfl rfl ?_
        refine ns_fld fo_103_0 rfl rfl rfl ?_
        refine ns_ldB pl_100 hs rfl rfl rfl (by rfl) ?_
        refine ns_move rfl rfl ?_
        refine ns_ldAB [.int .i64 x.key, .int .i64 x.val] ag_45 hs rfl rfl rfl (by rfl) (by rfl) (by decide) ?_
        refine ns_idx (lb t.its x.key) sl_100 rfl rfl rfl rfl rfl (by omega) ?_
        refine ns_stA (#[.int .i64 x.key, .int .i64 x.val]) ag_45 rfl (by decide) hs rfl rfl rfl rfl (by intro u hu; simp at hu; rcases hu with rfl | rfl <;> rfl) (by rw [hsz]; omega) ?_
        refine fun w hs => ⟨trivial, ?_⟩
        rw [Nat.zero_add] at hs
        refine ns_done ?_
        refine WP_seq ?_
        -- R12
        refine WP_seqr [⟨0, 1, []⟩, ⟨1, 2, []⟩, ⟨2, 0, []⟩] (by kernel_rfl) ?_
        refine ns_ldAB _ ag_45 hs rfl rfl rfl (by rfl) (by rfl) (by decide) ?_
        refine ns_stA (#[.int .i64 y.key, .int .i64 y.val]) ag_45 rfl (by decide) hs rfl rfl rfl rfl (by intro u hu; simp at hu; rcases hu with rfl | rfl <;> rfl) (by simp) ?_
        refine fun w hs => ⟨trivial, ?_⟩
        refine ns_asg rfl rfl ?_
        refine ns_done ?_
        refine WP_ret ?_
        have hload := run_loadVarA (P := Try.prog) (t := 45) (n := 2) (ad := ⟨b6, 0, none⟩) (vs := [.int .i64 y.key, .int .i64 y.val]) ag_45 rfl (by decide) w (St.cells (n := 2) hs (by rfl))
        have hyx : y.key = x.key := by have := of_decide_eq_false hif4; have := of_decide_eq_false hif5; omega
        have hset := set_cells (i := lb t.its x.key) (c := enc x) hsz (encs_len _) rfl hc (by omega) htk
        rw [← encs_set _ (lb t.its x.key) x (by omega)] at hset
        have hs := (hs.foc (pts g (.cells (splice cur (lb t.its x.key * 2) #[.int .i64 x.key, .int .i64 x.val].toList) 45 (0, 0)))).mk_arr' (n := (t.its.insertIdx (lb t.its x.key) y).length) (cap := ca) hc hcm (by rw [splice_size (by rw [hsz]; simp; omega), hsz]) hset
        have e : (t.its.insertIdx (lb t.its x.key) y).length = ((t.its.insertIdx (lb t.its x.key) y).set (lb t.its x.key) x).length := by rw [List.length_set]
        rw [e] at hs
        have hs := hs.fold (node_fold c b (.slice (some ⟨g, 0, none⟩) ((t.its.insertIdx (lb t.its x.key) y).set (lb t.its x.key) x).length ca) u2 ((t.its.insertIdx (lb t.its x.key) y).set (lb t.its x.key) x) (bs.insertIdx (lb t.its x.key + 1) r))
        have hs := hs.fold (cut_fold (c := c) (h := h) (b := b) (m := mx / 2) (i := lb t.its x.key) (xb := xb) (r := r) (t := t) (k := k) (bs := bs) (bs1 := bs1) ((t.its.insertIdx (lb t.its x.key) y).set (lb t.its x.key) x) hlen hlen1 hk hxb)
        have hs := hs.fold (ctx_fold c fl)
        have hS1 := hS
        rw [← hF1] at hS1
        have hyi2 : (cutT t k (lb t.its x.key) (mx / 2) y).its[lb t.its x.key]? = some y := hyi
        have hg : get (flat (h + 1) t) x.key = some y := hF1 ▸ get_found hO1 hS1 hyi2 hyx
        have hp := put_here (x := x) hO1 hS1 hyi2 hyx
        rw [hF1] at hp
        have hok := ok_here (i := lb t.its x.key) (x := x) hO1
        refine ⟨_, resCT 6 45 7 rfl hload, St.mk_ex (.mk ((t.its.insertIdx (lb t.its x.key) y).set (lb t.its x.key) x) ((t.kids.set (lb t.its x.key) (cutL k (mx / 2))).insertIdx (lb t.its x.key + 1) (cutR k (mx / 2)))) (St.mk_pu ⟨(congrArg ans hg).symm, hok, ?_, ?_, hp⟩ hs.out)⟩
        · show _ ≤ ((t.its.insertIdx (lb t.its x.key) y).set (lb t.its x.key) x).length
          omega
        · show ((t.its.insertIdx (lb t.its x.key) y).set (lb t.its x.key) x).length ≤ _
          omega
      refine WP_skip ?_
      have hs := (hs.foc (pts g (.cells cur 45 (0, 0)))).mk_arr' hc hcm hsz htk
      have hs := hs.fold (node_fold c b (.slice (some ⟨g, 0, none⟩) (t.its.insertIdx (lb t.its x.key) y).length ca) u2 (t.its.insertIdx (lb t.its x.key) y) (bs.insertIdx (lb t.its x.key + 1) r))
      have hs := hs.fold (cut_fold (c := c) (h := h) (b := b) (m := mx / 2) (i := lb t.its x.key) (xb := xb) (r := r) (t := t) (k := k) (bs := bs) (bs1 := bs1) (t.its.insertIdx (lb t.its x.key) y) hlen hlen1 hk hxb)
      have hs := hs.fold (ctx_fold c fl)
      rw [cutT_eq] at hs
      have hyx : x.key < y.key := by simpa using hif4
      have hkr : (cutL k (mx / 2)).its.length < mx := by show (k.its.take (mx / 2)).length < mx; rw [List.length_take]; omega
      exact ⟨cutT t k (lb t.its x.key) (mx / 2) y, lb t.its x.key, cutL k (mx / 2), rfl, rfl, rfl, rfl, rfl, hO1, by show _ ≤ (t.its.insertIdx (lb t.its x.key) y).length; omega, by show (t.its.insertIdx (lb t.its x.key) y).length ≤ _; omega, hF1, cutT_kidL hk, hkr, hB1.1 hyx, hs.out⟩
  rintro σ w ⟨t1, i, k, g0, g2, g4, g6, g8, hO1, hl1, hl2, hF1, hk, hkl, hB, hs⟩
  obtain ⟨σ, rfl⟩ := rebase g0
  obtain ⟨σ, rfl⟩ := rebase (σ := σ) g2
  obtain ⟨σ, rfl⟩ := rebase (σ := σ) g4
  obtain ⟨σ, rfl⟩ := rebase (σ := σ) g6
  obtain ⟨σ, rfl⟩ := rebase (σ := σ) g8
  clear g0 g2 g4 g6 g8
  have hi : i < t1.kids.length := (List.getElem?_eq_some_iff.1 hk).1
  have hS1 := hS
  rw [← hF1] at hS1
  obtain ⟨h, rfl⟩ : ∃ h', h = h' + 1 := by
    cases h with
    | zero => rw [show t1.kids = [] from hO1] at hi; simp at hi
    | succ h => exact ⟨h, rfl⟩
  have hko := kid_ok hO1 hk
  obtain ⟨bs, hlen, hs⟩ := St.tree (hs.foc (Tp c (h + 1) t1 b))
  obtain ⟨xb, hxb⟩ : ∃ xb, bs[i]? = some xb := ⟨bs[i]'(by omega), List.getElem?_eq_getElem (by omega)⟩
  rw [Ks_at hk hxb] at hs
  simp only [mul_assoc'] at hs
  obtain ⟨bs1, hlen1, hs⟩ := St.tree (hs.foc (Tq c (h + 1) k xb))
  refine WP_seq ?_
  -- R16
  refine WP_net hs mix [0, 0, 3, 0, 0, 31, 63, 63, 255, 511] [⟨0, 0, []⟩, ⟨1, 0, []⟩, ⟨3, 1, []⟩, ⟨4, 0, []⟩, ⟨2, 2, [3]⟩, ⟨5, 2, []⟩, ⟨6, 0, []⟩, ⟨7, 0, []⟩, ⟨8, 2, []⟩, ⟨9, 0, []⟩] (by kernel_rfl) ?_
  intro w hs
  refine ns_move rfl rfl ?_
  refine ns_move rfl rfl ?_
  refine ns_ldAB [.int .i64 x.key, .int .i64 x.val] ag_45 hs rfl rfl rfl (by rfl) (by rfl) (by decide) ?_
  refine ns_move rfl rfl ?_
  refine ns_callK (f86_ok c b i xb t1.its k.its bs bs1 hxb) ck_86 (hs.foc (NodeP c b t1.its bs * NodeP c xb k.its bs1)) rfl rfl rfl rfl ?_
  refine fun v109 w hs => ⟨⟨St.cells (n := 2) hs (by rfl), trivial⟩, ?_⟩
  replace hs := hs.pu
  obtain ⟨rfl, hs⟩ := hs
  simp only [mul_assoc'] at hs
  have hs := hs.fold (tree_fold (c := c) (h := h) (b := xb) (its := k.its) (kids := k.kids) hlen1)
  rw [Tr.eta] at hs
  refine ns_call (hkid h k xb rfl hko.2.2 hkl (kid_srt hO1 hS1 hk)) ck_71 (hs.foc (Tp c h k xb * Ctx c fl)) rfl rfl rfl rfl ?_
  intro v112 w hs
  unfold InsP at hs
  replace hs := hs.ex
  obtain ⟨k2, hs⟩ := hs
  replace hs := hs.pu
  obtain ⟨⟨rfl, q1, q2, q3, q4⟩, hs⟩ := hs
  simp only [mul_assoc'] at hs
  refine ns_ext rfl rfl rfl rfl ?_
  refine ns_ext rfl rfl rfl rfl ?_
  refine ns_stA (#[.int .i64 ((get (flat h k) x.key).getD zero).key, .int .i64 ((get (flat h k) x.key).getD zero).val]) ag_45 rfl (by decide) hs rfl rfl rfl rfl (by intro u hu; simp at hu; rcases hu with rfl | rfl <;> rfl) (by simp) ?_
  refine fun w hs => ⟨trivial, ?_⟩
  refine ns_asg rfl rfl ?_
  refine ns_done ?_
  refine WP_ret ?_
  have hload := run_loadVarA (P := Try.prog) (t := 45) (n := 2) (ad := ⟨b6, 0, none⟩) (vs := [.int .i64 ((get (flat h k) x.key).getD zero).key, .int .i64 ((get (flat h k) x.key).getD zero).val]) ag_45 rfl (by decide) w (St.cells (n := 2) hs (by rfl))
  have hs := hs.fold (set_fold (c := c) (h := h) (b := b) (i := i) (xb := xb) (t := t1) (bs := bs) t1.its k2 hlen hi hxb)
  exact ⟨_, resCT 6 45 7 rfl hload, St.mk_ex (.mk t1.its (t1.kids.set i k2)) (St.mk_pu ⟨(congrArg ans (hF1 ▸ get_bel hO1 hS1 hk hB)).symm, ok_set hO1 q1 (by omega) q3, hl1, hl2, by rw [put_down hO1 hS1 hk hB q4, hF1]⟩ hs.out)⟩
theorem f71_ok (c fl mn mx : Nat) (x : It) (hmn : 1 ≤ mn) (hmx : mx = 2 * mn + 1) (hm : mx < 10000) : ∀ (h b : Nat) (t : Tr), Ok mn mx h t → t.its.length < mx → Srt (flat h t) →
    Tri Try.prog 71 #[ptr b, itV x, .int .i64 mx] (Tp c h t b * Ctx c fl) (InsP c fl mn mx h b t x) := by
  intro h
  induction h with
  | zero => exact fun b t hO hl hS => f71_step c fl mn mx 0 b x t hmn hmx hm hO hl hS fun h' k xb e => by cases e
  | succ h ih => exact fun b t hO hl hS => f71_step c fl mn mx (h + 1) b x t hmn hmx hm hO hl hS fun h' k xb e hO' hl' hS' => by cases e; exact ih xb k hO' hl' hS'
end Go.Proofs.Ytnnembkganlbpaa
